import JvmDerived
import JvmDerived.Pilot.@@N@@Statement
import JvmDerived.Pilot.@@N@@Code
set_option linter.unusedVariables false
set_option linter.unusedSimpArgs false
namespace Jvm.Pilot.@@N@@
open Jvm Jvm.ClassFile Sem Op Lib Jvm.Free Jvm.Stand Jvm.LawKit Jvm.RoadKit Bundle Jvm.Pilot.@@N@@.Jvm.D
/-! A walk in the backward style: 'own_Goes K T g': from the frame g over T the run comes to an end of which K holds. -/
def own_Goes (p : Program) (e : Env) (below : List Frame) (K : Outcome → State → Prop) (T : State) (g : JFrame) : Prop :=
  ∃ s₂ o, Steps p.tables e below (T.setTop g) s₂ ∧ s₂.status = .running ∧ Ended s₂ below o ∧ K o s₂
def own_K (Q : Option Value → Heap → List Loc → Prop) (U : State) (C S : Nat) : Outcome → State → Prop :=
  fun o U' => ∃ v L, o = .returned v ∧ Q v U'.heap L ∧ FrameEnd U o U' L C S
section OwnKit
variable {p : Program} {l : Launch} {e : Env} {R : Room} {s : State} {m : MethodId} {args : Array Value} {below : List Frame} {meth : Method} {c : Code} {T T' : State} {locs : List Loc} {cells slots : Nat} {Z : State} {a0 : Array Value} {h : Heap} {K : Outcome → State → Prop} {Q : Option Value → Heap → List Loc → Prop} {C S : Nat}
theorem own_by {g g' : JFrame} (st : ∀ t, Steps p.tables e below (T'.setTop g') t → Steps p.tables e below (T.setTop g) t) (k : own_Goes p e below K T' g') : own_Goes p e below K T g := by
  obtain ⟨s₂, o, h1, r⟩ := k
  exact ⟨s₂, o, st _ h1, r⟩
theorem own_retN (X : Stand p l e R s m args below meth c T locs cells slots) (hx : p.tables.exec = Jvm.exec) {pc : Nat} {Ls : Array Slot} {z : Int32} {t : FieldType} {rest : List Value} (hret : meth.sig.returnType = some t) (hlocks : meth.locks = false) (ht : t = .boolean ∨ t = .byte ∨ t = .char ∨ t = .short)
    (hd : decode c.code pc = .ok (.ireturn, 1)) (hc : cells ≤ C) (hs : slots ≤ S) {v : Int32} (hv : nar t z = v) (q : Q (some (.int v)) T.heap locs) : own_Goes p e below (own_K Q s C S) T (mkF m pc Ls (.int z :: rest)) := by
  subst hv
  obtain ⟨fs, hr, hrun, hended, hW, hsame⟩ := X.leave (v := some (.int (nar t z))) (fun h => by rw [hret] at h; cases h) hlocks
  exact ⟨_, _, retN X hx hret ht hd hr, hrun, hended, _, _, rfl, q, ⟨_, rfl⟩, hW, hsame.mono hc hs⟩
theorem own_retV (X : Stand p l e R s m args below meth c T locs cells slots) (hx : p.tables.exec = Jvm.exec) {pc : Nat} {Ls : Array Slot} {w : Value} {t : FieldType} {i : Instr} {rest : List Value} (hret : meth.sig.returnType = some t) (hlocks : meth.locks = false) (hn : narrow t w = w)
    (hi : (i = .ireturn ∧ (t = .int ∨ t = .boolean ∨ t = .byte ∨ t = .char ∨ t = .short) ∧ ∃ z, w = .int z) ∨ (i = .lreturn ∧ t = .long ∧ ∃ z, w = .long z) ∨ (i = .dreturn ∧ t = .double ∧ ∃ z, w = .double z) ∨ (i = .freturn ∧ t = .float ∧ ∃ z, w = .float z) ∨ (i = .areturn ∧ t.isReference = true ∧ w.isRef = true))
    (hd : decode c.code pc = .ok (i, 1)) (hc : cells ≤ C) (hs : slots ≤ S) (q : Q (some w) T.heap locs) : own_Goes p e below (own_K Q s C S) T (mkF m pc Ls (w :: rest)) := by
  obtain ⟨fs, hr, hrun, hended, hW, hsame⟩ := X.leave (v := some w) (fun h => by rw [hret] at h; cases h) hlocks
  exact ⟨_, _, retOut X hx hret hn hi hd hr, hrun, hended, _, _, rfl, q, ⟨_, rfl⟩, hW, hsame.mono hc hs⟩
theorem own_retI (X : Stand p l e R s m args below meth c T locs cells slots) (hx : p.tables.exec = Jvm.exec) {pc : Nat} {Ls : Array Slot} {z : Int32} {rest : List Value} (hret : meth.sig.returnType = some .int) (hlocks : meth.locks = false)
    (hd : decode c.code pc = .ok (.ireturn, 1)) (hc : cells ≤ C) (hs : slots ≤ S) (q : Q (some (.int z)) T.heap locs) : own_Goes p e below (own_K Q s C S) T (mkF m pc Ls (.int z :: rest)) :=
  own_retV X hx hret hlocks rfl (Or.inl ⟨rfl, Or.inl rfl, z, rfl⟩) hd hc hs q
theorem own_retJ (X : Stand p l e R s m args below meth c T locs cells slots) (hx : p.tables.exec = Jvm.exec) {pc : Nat} {Ls : Array Slot} {z : Int64} {rest : List Value} (hret : meth.sig.returnType = some .long) (hlocks : meth.locks = false)
    (hd : decode c.code pc = .ok (.lreturn, 1)) (hc : cells ≤ C) (hs : slots ≤ S) (q : Q (some (.long z)) T.heap locs) : own_Goes p e below (own_K Q s C S) T (mkF m pc Ls (.long z :: rest)) :=
  own_retV X hx hret hlocks rfl (Or.inr (Or.inl ⟨rfl, rfl, z, rfl⟩)) hd hc hs q
theorem own_retR (X : Stand p l e R s m args below meth c T locs cells slots) (hx : p.tables.exec = Jvm.exec) {pc : Nat} {Ls : Array Slot} {w : Value} {t : FieldType} {rest : List Value} (hret : meth.sig.returnType = some t) (hlocks : meth.locks = false) (ht : t.isReference = true) (hw : w.isRef = true)
    (hd : decode c.code pc = .ok (.areturn, 1)) (hc : cells ≤ C) (hs : slots ≤ S) (q : Q (some w) T.heap locs) : own_Goes p e below (own_K Q s C S) T (mkF m pc Ls (w :: rest)) :=
  own_retV X hx hret hlocks (by cases t <;> first | (cases ht; done) | (cases w <;> rfl)) (Or.inr (Or.inr (Or.inr (Or.inr ⟨rfl, ht, hw⟩)))) hd hc hs q
theorem own_ret0 (X : Stand p l e R s m args below meth c T locs cells slots) (hx : p.tables.exec = Jvm.exec) {pc : Nat} {Ls : Array Slot} (hret : meth.sig.returnType = none) (hlocks : meth.locks = false)
    (hd : decode c.code pc = .ok (.return_, 1)) (hc : cells ≤ C) (hs : slots ≤ S) (q : Q none T.heap locs) : own_Goes p e below (own_K Q s C S) T (mkF m pc Ls []) := by
  obtain ⟨fs, hr, hrun, hended, hW, hsame⟩ := X.leave (v := none) (fun _ => rfl) hlocks
  exact ⟨_, _, X.returnOut hx hret hd hr, hrun, hended, _, _, rfl, q, ⟨_, rfl⟩, hW, hsame.mono hc hs⟩
theorem own_lrem {g : JFrame} {target : State} (X : Stand p l e R s m args below meth c T locs cells slots) (hx : p.tables.exec = Jvm.exec) (hg : g.method = m) {x y : Int64} {rest : List Value} (hd : decode c.code g.pc = .ok (.lrem, 1)) (hs : g.stack = .long y :: .long x :: rest) (hy : y ≠ 0)
    (hr : Steps p.tables e below (T.setTop { g with pc := g.pc + 1, stack := .long (x % y) :: rest }) target) : Steps p.tables e below (T.setTop g) target := by
  have q : x - x / y * y = x % y := lrem_mod x y
  exact XS.lrem X.here hx hg hd hs hy (by rw [q]; exact hr)
/-- what a callee's theorem says -/
abbrev own_Met (l : Launch) (Z : State) (y : MethodName) (bytes : ByteArray) (maxL : Nat) (ret : Option FieldType) (rm : Room) (as' : Array Value) (h : Heap) (Q : Option Value → Heap → List Loc → Prop) : Prop :=
  MetFree l y (head1 [Cond.code y bytes maxL ret] rm) (fun a U => a = as' ∧ Z.Warmed39 U.vm ∧ U.heap = h) (fun _ _ _ _ _ => True) (fun _ U o U' => ∃ v L, o = .returned v ∧ Q v U'.heap L ∧ FrameEnd U o U' L rm.cells rm.slots)
theorem own_callS (X : Stand p l e R s m args below meth c T locs cells slots) (hx : p.tables.exec = Jvm.exec) (hZ : Z.Warmed39 s.vm) {own : String} {index : Nat} {y : MethodName} {bytes : ByteArray} {maxL : Nat} {ret : Option FieldType}
    (hown : s.vm.findClass own = some m.cls) (w1 : (Cond.methodLink own index y).before a0 Z = true) (w2 : (Cond.static y).before a0 Z = true) (w3 : (Cond.initialized y.cls).before a0 Z = true) (w4 : (Cond.code y bytes maxL ret).before a0 Z = true) (hy : y.cls ≠ "java/lang/invoke/MethodHandle" ∧ y.cls ≠ "java/lang/invoke/VarHandle")
    {rm : Room} {argsL rest : List Value} (hM : own_Met l Z y bytes maxL ret rm argsL.toArray h Q) (eT : T.heap = h) {W : Nat} (hf : rm.frames + 1 ≤ R.frames) (hl : W + (maxL + 11) + rm.locals ≤ R.locals) (hc : cells + rm.cells ≤ R.cells) (hs : slots + rm.slots ≤ R.slots)
    {g : JFrame} (hg : g.method = m) (hsize : g.locals.size = c.maxLocals) (hlen : ∀ sig, parseMethodDescriptor y.desc = some sig → argsL.length = sig.parameters.length)
    (hstack : g.stack = argsL.reverse ++ rest) (hW : 2 * g.monitorRoom + (rest.map fun v => v.category).sum ≤ W) (hdg : decode c.code g.pc = .ok (.invokestatic index, 3)) :
    ∃ (v : Option Value) (T' : State) (L : List Loc), Stand p l e R s m args below meth c T' (locs ++ L) (cells + rm.cells) (slots + rm.slots) ∧ Q v T'.heap L ∧ ∀ K, own_Goes p e below K T' { g with pc := g.pc + 3, stack := v.toList ++ rest } → own_Goes p e below K T g := by
  obtain ⟨v, vm₁, ⟨T', L', k', n'⟩, -, X', ⟨L, hQ, l1, l2, l3⟩, st⟩ := Jvm.LawKit.callS X hx hown (mvT hZ w1) (mvT hZ w2) (mvT hZ w3) (mvT hZ w4) hy (backOf (W := W) hM hZ w4 w3 hf hl) hg hsize hlen hstack hW hdg (fun _ _ => ⟨rfl, eT, hc, hs⟩)
  dsimp only [Pt.U, Pt.locs, Pt.cells, Pt.slots] at X' l1 l2 l3 st hQ
  subst l1 l2 l3
  exact ⟨v, T', L, X', hQ, fun K k => own_by st k⟩
theorem own_callI (X : Stand p l e R s m args below meth c T locs cells slots) (hx : p.tables.exec = Jvm.exec) (hZ : Z.Warmed39 s.vm) {own : String} {index : Nat} {y : MethodName} {bytes : ByteArray} {maxL : Nat} (hy1 : y.name = "<init>")
    (hown : s.vm.findClass own = some m.cls) (w1 : (Cond.methodLink own index y).before a0 Z = true) (w2 : (Cond.instanceMethod y).before a0 Z = true) (w3 : (Cond.initialized y.cls).before a0 Z = true) (w4 : (Cond.code y bytes maxL none).before a0 Z = true) (hy : y.cls ≠ "java/lang/invoke/MethodHandle" ∧ y.cls ≠ "java/lang/invoke/VarHandle")
    {rm : Room} {a : Addr} {argsL rest : List Value} (hM : own_Met l Z y bytes maxL none rm (.ref a :: argsL).toArray h Q) (eT : T.heap = h) {W : Nat} (hf : rm.frames + 1 ≤ R.frames) (hl : W + (maxL + 11) + rm.locals ≤ R.locals) (hc : cells + rm.cells ≤ R.cells) (hs : slots + rm.slots ≤ R.slots)
    {g : JFrame} (hg : g.method = m) (hsize : g.locals.size = c.maxLocals) (hlen : ∀ sig, parseMethodDescriptor y.desc = some sig → argsL.length = sig.parameters.length)
    (hstack : g.stack = argsL.reverse ++ .ref a :: rest) (hW : 2 * g.monitorRoom + (rest.map fun v => v.category).sum ≤ W) (hdg : decode c.code g.pc = .ok (.invokespecial index, 3)) :
    ∃ (v : Option Value) (T' : State) (L : List Loc), Stand p l e R s m args below meth c T' (locs ++ L) (cells + rm.cells) (slots + rm.slots) ∧ Q v T'.heap L ∧ ∀ K, own_Goes p e below K T' { g with pc := g.pc + 3, stack := v.toList ++ rest } → own_Goes p e below K T g := by
  obtain ⟨v, vm₁, ⟨T', L', k', n'⟩, -, X', ⟨L, hQ, l1, l2, l3⟩, st⟩ := X.specialBack hx hy1 hown (mvT hZ w1) (mvT hZ w2) (mvT hZ w4) hy (backOf (W := W) hM hZ w4 w3 hf hl) hg hsize (Steps.refl _) hlen hstack hW hdg (fun _ _ => ⟨rfl, eT, hc, hs⟩)
  dsimp only [Pt.U, Pt.locs, Pt.cells, Pt.slots] at X' l1 l2 l3 st hQ
  subst l1 l2 l3
  exact ⟨v, T', L, X', hQ, fun K k => own_by (fun t k => st.trans k) k⟩
theorem own_callV (X : Stand p l e R s m args below meth c T locs cells slots) (hx : p.tables.exec = Jvm.exec) (hZ : Z.Warmed39 s.vm) {own C : String} {index : Nat} {y : MethodName} {bytes : ByteArray} {maxL : Nat} {ret : Option FieldType}
    (hown : s.vm.findClass own = some m.cls) (w1 : (Cond.methodLink own index y).before a0 Z = true) (w5 : (Cond.declares y).before a0 Z = true) (w6 : (Cond.selects C y y).before a0 Z = true) (w2 : (Cond.instanceMethod y).before a0 Z = true) (w3 : (Cond.initialized y.cls).before a0 Z = true) (w4 : (Cond.code y bytes maxL ret).before a0 Z = true) (hy : y.cls ≠ "java/lang/invoke/MethodHandle" ∧ y.cls ≠ "java/lang/invoke/VarHandle")
    {rm : Room} {a : Addr} {argsL rest : List Value} (E : Exa Z h a C) (hM : own_Met l Z y bytes maxL ret rm (.ref a :: argsL).toArray h Q) (eT : T.heap = h) {W : Nat} (hf : rm.frames + 1 ≤ R.frames) (hl : W + (maxL + 11) + rm.locals ≤ R.locals) (hc : cells + rm.cells ≤ R.cells) (hs : slots + rm.slots ≤ R.slots)
    {g : JFrame} (hg : g.method = m) (hsize : g.locals.size = c.maxLocals) (hlen : ∀ sig, parseMethodDescriptor y.desc = some sig → argsL.length = sig.parameters.length)
    (hstack : g.stack = argsL.reverse ++ .ref a :: rest) (hW : 2 * g.monitorRoom + (rest.map fun v => v.category).sum ≤ W) (hdg : decode c.code g.pc = .ok (.invokevirtual index, 3)) :
    ∃ (v : Option Value) (T' : State) (L : List Loc), Stand p l e R s m args below meth c T' (locs ++ L) (cells + rm.cells) (slots + rm.slots) ∧ Q v T'.heap L ∧ ∀ K, own_Goes p e below K T' { g with pc := g.pc + 3, stack := v.toList ++ rest } → own_Goes p e below K T g := by
  obtain ⟨cB, kB, q1, q2, q3⟩ := isOf hZ eT E
  obtain ⟨v, vm₁, ⟨T', L', k', n'⟩, -, X', ⟨L, hQ, l1, l2, l3⟩, st⟩ := X.virtualBack hx hown (mvT hZ w1) (mvT hZ w5) (notFace_of_selects (args := #[]) (mvT hZ w6)) (mvT hZ w6) (mvT hZ w2) hy (backOf (W := W) hM hZ w4 w3 hf hl) q1 q3 hg hsize (Steps.refl _) hlen hstack hW hdg (fun _ _ => ⟨rfl, eT, hc, hs⟩)
  dsimp only [Pt.U, Pt.locs, Pt.cells, Pt.slots] at X' l1 l2 l3 st hQ
  subst l1 l2 l3
  exact ⟨v, T', L, X', hQ, fun K k => own_by (fun t k => st.trans k) k⟩
theorem own_callPv (X : Stand p l e R s m args below meth c T locs cells slots) (hx : p.tables.exec = Jvm.exec) (hZ : Z.Warmed39 s.vm) {own C : String} {index : Nat} {y : MethodName} {bytes : ByteArray} {maxL : Nat} {ret : Option FieldType}
    (hown : s.vm.findClass own = some m.cls) (w1 : (Cond.methodLink own index y).before a0 Z = true) (w6 : (Cond.selects y.cls y y).before a0 Z = true) (w2 : (Cond.instanceMethod y).before a0 Z = true) (w7 : (Cond.privateMethod y).before a0 Z = true) (w3 : (Cond.initialized y.cls).before a0 Z = true) (w4 : (Cond.code y bytes maxL ret).before a0 Z = true) (hy : y.cls ≠ "java/lang/invoke/MethodHandle" ∧ y.cls ≠ "java/lang/invoke/VarHandle")
    {rm : Room} {a : Addr} {argsL rest : List Value} (E : Exa Z h a C) (hM : own_Met l Z y bytes maxL ret rm (.ref a :: argsL).toArray h Q) (eT : T.heap = h) {W : Nat} (hf : rm.frames + 1 ≤ R.frames) (hl : W + (maxL + 11) + rm.locals ≤ R.locals) (hc : cells + rm.cells ≤ R.cells) (hs : slots + rm.slots ≤ R.slots)
    {g : JFrame} (hg : g.method = m) (hsize : g.locals.size = c.maxLocals) (hlen : ∀ sig, parseMethodDescriptor y.desc = some sig → argsL.length = sig.parameters.length)
    (hstack : g.stack = argsL.reverse ++ .ref a :: rest) (hW : 2 * g.monitorRoom + (rest.map fun v => v.category).sum ≤ W) (hdg : decode c.code g.pc = .ok (.invokevirtual index, 3)) :
    ∃ (v : Option Value) (T' : State) (L : List Loc), Stand p l e R s m args below meth c T' (locs ++ L) (cells + rm.cells) (slots + rm.slots) ∧ Q v T'.heap L ∧ ∀ K, own_Goes p e below K T' { g with pc := g.pc + 3, stack := v.toList ++ rest } → own_Goes p e below K T g := by
  obtain ⟨cq, q1, q2⟩ := E.cell
  obtain ⟨v, vm₁, ⟨T', L', k', n'⟩, -, X', ⟨L, hQ, l1, l2, l3⟩, st⟩ := X.privateBack hx hown (mvT hZ w1) (mvT hZ w2) (mvT hZ w6) (Cond.privateMethod_at (mvP hZ w7 (args := #[]))) (mvT hZ w4) hy (backOf (W := W) hM hZ w4 w3 hf hl) hg hsize (Steps.refl _) (by rw [eT]; exact q1) q2 hlen hstack hW hdg (fun _ _ => ⟨rfl, eT, hc, hs⟩)
  dsimp only [Pt.U, Pt.locs, Pt.cells, Pt.slots] at X' l1 l2 l3 st hQ
  subst l1 l2 l3
  exact ⟨v, T', L, X', hQ, fun K k => own_by (fun t k => st.trans k) k⟩
theorem own_Sta_keep {h' : Heap} {ws : List Addr} {O n d : String} {v : Value} (F : Sta Z h O n d v) (K : Keep h h' ws) (q : ∀ a ∈ ws, ∀ cell : Cell, h[a]? = some cell → cell.vm.isStatics = false) : Sta Z h' O n d v := by
  obtain ⟨cf, i, k, f, st, cell, h1, h2, h3, h4, h5, h6, h7⟩ := F
  refine ⟨cf, i, k, f, st, cell, h1, h2, h3, h4, K.2.1 st cell h5 (fun y => ?_), h6, h7⟩
  rw [q st y cell h5] at h6; cases h6
theorem own_selp {y : MethodName} {k : Nat} (w7 : (Cond.privateMethod y).before a0 Z = true) (w2 : (Cond.instanceMethod y).before a0 Z = true) (wi : (Cond.instantiable y.cls k).before a0 Z = true) (hy : y.cls ≠ "java/lang/invoke/MethodHandle" ∧ y.cls ≠ "java/lang/invoke/VarHandle") : (Cond.selects y.cls y y).before a0 Z = true := by
  obtain ⟨c, k, i1, i2, i3, i4, -⟩ := Cond.instantiable_spec wi
  rw [Bool.or_eq_false_iff] at i4
  exact Jvm.Stand.selects_self_of_private i1 i2 i4.1 (Cond.privateMethod_at w7) w2 hy
end OwnKit
/-! arrays of ints, bytes, chars: a length and a function -/
def own_Ia (Z : State) (h : Heap) (a : Addr) (ty : FieldType) (n : Nat) (f : Nat → Int32) : Prop := ∃ c : Cell, Arr Z h a c ty ∧ c.slots.size = n ∧ (∀ i, i < n → c.slots[i]? = some (.int (f i))) ∧ ∀ i, i < n → fits ty (.int (f i)) = true
section OwnArr
variable {p : Program} {l : Launch} {e : Env} {R : Room} {s : State} {m : MethodId} {args : Array Value} {below : List Frame} {meth : Method} {c : Code} {T T' : State} {locs : List Loc} {cells slots : Nat} {Z : State} {a0 : Array Value} {h h' : Heap} {a b : Addr} {ty : FieldType} {n : Nat} {f : Nat → Int32}
theorem own_Ia_lt (F : own_Ia Z h a ty n f) : a < h.size := by obtain ⟨c, A, -⟩ := F; exact A.lt
theorem own_Ia_ext (E : Ext h h') (F : own_Ia Z h a ty n f) : own_Ia Z h' a ty n f := by obtain ⟨c, A, r⟩ := F; exact ⟨c, A.ext E, r⟩
theorem own_Ia_other {sl : Nat} {v : Value} (W : Wr h h' b sl v) (F : own_Ia Z h a ty n f) (q : a ≠ b) : own_Ia Z h' a ty n f := by obtain ⟨c, A, r⟩ := F; exact ⟨c, A.other W q, r⟩
theorem own_Ia_keep {ws : List Addr} (K : Keep h h' ws) (F : own_Ia Z h a ty n f) (q : a ∉ ws) : own_Ia Z h' a ty n f := by obtain ⟨c, A, r⟩ := F; exact ⟨c, ⟨K.2.1 a c A.1 q, A.2⟩, r⟩
theorem own_Ia_set {j : Nat} {x : Int32} (W : Wr h h' a j (.int x)) (F : own_Ia Z h a ty n f) (hf : fits ty (.int x) = true) : own_Ia Z h' a ty n (fun i => if i = j then x else f i) := by
  obtain ⟨c, A, S, H, G⟩ := F
  refine ⟨c.setSlot j (.int x), A.same W, by rw [sz_set]; exact S, fun i hi => ?_, fun i hi => ?_⟩
  · by_cases q : i = j
    · subst q
      have : i < c.slots.size := by rw [S]; exact hi
      simp [Cell.setSlot, this]
    · have := H i hi
      simp only [Cell.setSlot, if_neg q]
      rw [Array.getElem?_setIfInBounds_ne (Ne.symm q)]; exact this
  · dsimp only
    by_cases q : i = j
    · rw [if_pos q]; exact hf
    · rw [if_neg q]; exact G i hi
theorem own_Ia_new {k : ClassId} {z : Int32} (A : Arr Z h a (newA k ty z) ty) (hd : defaultValue ty = .int 0) (hf : fits ty (.int 0) = true) (hz : z.toNatClampNeg = n) : own_Ia Z h a ty n (fun _ => 0) := by
  subst hz
  refine ⟨_, A, sz_new _ _ _, fun i hi => ?_, fun i hi => hf⟩
  simp [newA, hd, hi]
theorem own_Ia_congr {f' : Nat → Int32} (F : own_Ia Z h a ty n f) (q : ∀ i, i < n → f i = f' i) : own_Ia Z h a ty n f' := by
  obtain ⟨c, A, S, H, G⟩ := F; exact ⟨c, A, S, fun i hi => by rw [H i hi, q i hi], fun i hi => by rw [← q i hi]; exact G i hi⟩
theorem own_bal (X : Stand p l e R s m args below meth c T locs cells slots) (hx : p.tables.exec = Jvm.exec) (hZ : Z.Warmed39 s.vm) (eT : T.heap = h) (F : own_Ia Z h a .byte n f) {j : Int32} (hj0 : ¬ j < 0) (hj1 : j.toNatClampNeg < n) {g : JFrame} (hg : g.method = m) {rest : List Value} (hs : g.stack = .int j :: .ref a :: rest) (hd : decode c.code g.pc = .ok (.baload, 1)) (t : State)
    (k : Steps p.tables e below (T.setTop { g with pc := g.pc + 1, stack := .int (f j.toNatClampNeg) :: rest }) t) : Steps p.tables e below (T.setTop g) t := by
  obtain ⟨c, A, S, H, G⟩ := F
  exact X.baloadBytes hx (by rw [eT]; exact A.1) (State.isArrayOf_alike hZ.alike A.2.1) A.2.2 (fun q => q.elim hj0 (fun q => absurd hj1 (by rw [← S]; exact Nat.not_lt.mpr q))) (H _ hj1) hg hs hd t k
theorem own_cal (X : Stand p l e R s m args below meth c T locs cells slots) (hx : p.tables.exec = Jvm.exec) (hZ : Z.Warmed39 s.vm) (eT : T.heap = h) (F : own_Ia Z h a .char n f) {j : Int32} (hj0 : ¬ j < 0) (hj1 : j.toNatClampNeg < n) {g : JFrame} (hg : g.method = m) {rest : List Value} (hs : g.stack = .int j :: .ref a :: rest) (hd : decode c.code g.pc = .ok (.caload, 1)) (t : State)
    (k : Steps p.tables e below (T.setTop { g with pc := g.pc + 1, stack := .int (f j.toNatClampNeg) :: rest }) t) : Steps p.tables e below (T.setTop g) t := by
  obtain ⟨c, A, S, H, G⟩ := F
  exact X.caload hx (by rw [eT]; exact A.1) (State.isArrayOf_alike hZ.alike A.2.1) A.2.2 (fun q => q.elim hj0 (fun q => absurd hj1 (by rw [← S]; exact Nat.not_lt.mpr q))) (H _ hj1) hg hs hd t k
theorem own_ial (X : Stand p l e R s m args below meth c T locs cells slots) (hx : p.tables.exec = Jvm.exec) (hZ : Z.Warmed39 s.vm) (eT : T.heap = h) (F : own_Ia Z h a .int n f) {j : Int32} (hj0 : ¬ j < 0) (hj1 : j.toNatClampNeg < n) {g : JFrame} (hg : g.method = m) {rest : List Value} (hs : g.stack = .int j :: .ref a :: rest) (hd : decode c.code g.pc = .ok (.iaload, 1)) (t : State)
    (k : Steps p.tables e below (T.setTop { g with pc := g.pc + 1, stack := .int (f j.toNatClampNeg) :: rest }) t) : Steps p.tables e below (T.setTop g) t := by
  obtain ⟨c, A, S, H, G⟩ := F
  exact X.iaload hx (by rw [eT]; exact A.1) (State.isArrayOf_alike hZ.alike A.2.1) A.2.2 (fun q => q.elim hj0 (fun q => absurd hj1 (by rw [← S]; exact Nat.not_lt.mpr q))) (H _ hj1) hg hs hd t k
theorem own_alen (X : Stand p l e R s m args below meth c T locs cells slots) (hx : p.tables.exec = Jvm.exec) (hZ : Z.Warmed39 s.vm) (eT : T.heap = h) (F : own_Ia Z h a ty n f) {z : Int32} (hz : n.toInt32 = z) {g : JFrame} (hg : g.method = m) {rest : List Value} (hs : g.stack = .ref a :: rest) (hd : decode c.code g.pc = .ok (.arraylength, 1)) (t : State)
    (k : Steps p.tables e below (T.setTop { g with pc := g.pc + 1, stack := .int z :: rest }) t) : Steps p.tables e below (T.setTop g) t := by
  obtain ⟨c, A, S, H, G⟩ := F
  subst hz S
  exact X.arraylength hx (by rw [eT]; exact A.1) (State.isArrayOf_alike hZ.alike A.2.1) hg hs hd t k
theorem own_bas (X : Stand p l e R s m args below meth c T locs cells slots) (hx : p.tables.exec = Jvm.exec) (hZ : Z.Warmed39 s.vm) (eT : T.heap = h) (F : own_Ia Z h a .byte n f) {j x : Int32} (hj0 : ¬ j < 0) (hj1 : j.toNatClampNeg < n) {g : JFrame} (hg : g.method = m) {rest : List Value} (hs : g.stack = .int x :: .int j :: .ref a :: rest) (hd : decode c.code g.pc = .ok (.bastore, 1)) :
    ∃ T' h', Stand p l e R s m args below meth c T' (locs ++ [⟨a, j.toNatClampNeg⟩]) cells slots ∧ T'.heap = h' ∧ Wr h h' a j.toNatClampNeg (.int (nar .byte x)) ∧ ∀ target, Steps p.tables e below (T'.setTop { g with pc := g.pc + 1, stack := rest }) target → Steps p.tables e below (T.setTop g) target := by
  obtain ⟨c, A, S, H, G⟩ := F
  exact stB X hx hZ eT A (fun q => q.elim hj0 (fun q => absurd hj1 (by rw [← S]; exact Nat.not_lt.mpr q))) hg hs hd
theorem own_cas (X : Stand p l e R s m args below meth c T locs cells slots) (hx : p.tables.exec = Jvm.exec) (hZ : Z.Warmed39 s.vm) (eT : T.heap = h) (F : own_Ia Z h a .char n f) {j x : Int32} (hj0 : ¬ j < 0) (hj1 : j.toNatClampNeg < n) {g : JFrame} (hg : g.method = m) {rest : List Value} (hs : g.stack = .int x :: .int j :: .ref a :: rest) (hd : decode c.code g.pc = .ok (.castore, 1)) :
    ∃ T' h', Stand p l e R s m args below meth c T' (locs ++ [⟨a, j.toNatClampNeg⟩]) cells slots ∧ T'.heap = h' ∧ Wr h h' a j.toNatClampNeg (.int (nar .char x)) ∧ ∀ target, Steps p.tables e below (T'.setTop { g with pc := g.pc + 1, stack := rest }) target → Steps p.tables e below (T.setTop g) target := by
  obtain ⟨c, A, S, H, G⟩ := F
  exact stC X hx hZ eT A (fun q => q.elim hj0 (fun q => absurd hj1 (by rw [← S]; exact Nat.not_lt.mpr q))) hg hs hd
theorem own_ias (X : Stand p l e R s m args below meth c T locs cells slots) (hx : p.tables.exec = Jvm.exec) (hZ : Z.Warmed39 s.vm) (eT : T.heap = h) (F : own_Ia Z h a .int n f) {j x : Int32} (hj0 : ¬ j < 0) (hj1 : j.toNatClampNeg < n) {g : JFrame} (hg : g.method = m) {rest : List Value} (hs : g.stack = .int x :: .int j :: .ref a :: rest) (hd : decode c.code g.pc = .ok (.iastore, 1)) :
    ∃ T' h', Stand p l e R s m args below meth c T' (locs ++ [⟨a, j.toNatClampNeg⟩]) cells slots ∧ T'.heap = h' ∧ Wr h h' a j.toNatClampNeg (.int x) ∧ ∀ target, Steps p.tables e below (T'.setTop { g with pc := g.pc + 1, stack := rest }) target → Steps p.tables e below (T.setTop g) target := by
  obtain ⟨c, A, S, H, G⟩ := F
  exact stI X hx hZ eT A (fun q => q.elim hj0 (fun q => absurd hj1 (by rw [← S]; exact Nat.not_lt.mpr q))) hg hs hd
end OwnArr
section OwnCp
variable {p : Program} {l : Launch} {e : Env} {R : Room} {s : State} {m : MethodId} {args : Array Value} {below : List Frame} {meth : Method} {c : Code} {T T' : State} {locs : List Loc} {cells slots : Nat} {Z : State} {a0 : Array Value} {h h' : Heap} {a b : Addr} {ty : FieldType} {n n' : Nat} {f f' : Nat → Int32}
theorem own_n32 (hn : n < 2 ^ 31) : n.toInt32.toNatClampNeg = n := by
  have := len_toInt hn
  simp only [Int32.toNatClampNeg]; omega
theorem own_rget (g : Nat → Value) (d : Value) (i : Nat) : ((List.range n).map g).getD i d = if i < n then g i else d := by
  by_cases q : i < n
  · simp [List.getD_eq_getElem?_getD, q]
  · simp [List.getD_eq_getElem?_getD, q]
theorem own_Ia_arv (F : own_Ia Z h a ty n f) (hn : n < 2 ^ 31) : ∃ k, Arv Z h a k ty n.toInt32 ((List.range n).map fun i => .int (f i)) (.int 0) := by
  obtain ⟨c, A, S, H, G⟩ := F
  have hz := own_n32 hn
  have hl := len_toInt hn
  refine ⟨c.cls, c, A, rfl, by rw [hz]; exact S, ?_, fun k hk => ?_, fun i hi => ?_⟩
  · rw [Int32.lt_iff_toInt_lt, hl, show (0 : Int32).toInt = 0 from rfl]; omega
  · rw [S] at hk; rw [own_rget, if_pos hk]; exact H k hk
  · rw [S] at hi; rw [own_rget, if_pos hi]; exact G i hi
theorem own_arv_Ia {k : ClassId} {z : Int32} {vs : List Value} {dv : Value} (F : Arv Z h a k ty z vs dv) (hz : z.toNatClampNeg = n) (q : ∀ i, i < n → vs.getD i dv = .int (f i)) : own_Ia Z h a ty n f := by
  obtain ⟨c, A, -, S, -, H, G⟩ := F
  rw [hz] at S
  refine ⟨c, A, S, fun i hi => ?_, fun i hi => ?_⟩
  · rw [H i (by rw [S]; exact hi), q i hi]
  · rw [← q i hi]; exact G i (by rw [S]; exact hi)
theorem own_cpl (g g' : Nat → Value) (d : Value) (sp dp nn : Nat) (h4 : sp + nn ≤ n) (h5 : dp + nn ≤ n') (i : Nat) (hi : i < n') :
    ((((List.range n').map g').take dp ++ (List.range nn).map (fun i => ((List.range n).map g).getD (sp + i) d)) ++ ((List.range n').map g').drop (dp + nn)).getD i d = if dp ≤ i ∧ i < dp + nn then g (sp + (i - dp)) else g' i := by
  have l1 : (((List.range n').map g').take dp).length = dp := by simp; omega
  have l2 : ((((List.range n').map g').take dp ++ (List.range nn).map (fun i => ((List.range n).map g).getD (sp + i) d))).length = dp + nn := by rw [List.length_append, l1]; simp
  rw [List.getD_eq_getElem?_getD]
  by_cases q1 : i < dp
  · rw [List.getElem?_append_left (by rw [l2]; omega), List.getElem?_append_left (by rw [l1]; exact q1), if_neg (by omega)]
    rw [List.getElem?_take_of_lt q1]
    simp [hi]
  · by_cases q2 : i < dp + nn
    · rw [List.getElem?_append_left (by rw [l2]; exact q2), List.getElem?_append_right (by rw [l1]; omega), l1, if_pos ⟨by omega, q2⟩]
      have q3 : i - dp < nn := by omega
      have q4 : sp + (i - dp) < n := by omega
      simp only [List.getElem?_map, List.getElem?_range q3, Option.map_some, Option.getD_some]
      rw [own_rget, if_pos q4]
    · rw [List.getElem?_append_right (by rw [l2]; omega), l2, if_neg (by omega)]
      rw [List.getElem?_drop, show dp + nn + (i - (dp + nn)) = i by omega]
      simp [hi]
theorem own_cp (X : Stand p l e R s m args below meth c T locs cells slots) (hx : p.tables.exec = Jvm.exec) (hZ : Z.Warmed39 s.vm) {own : String} {index : Nat} (hown : s.vm.findClass own = some m.cls)
    (w1 : (Cond.methodLink own index Jvm.Stand.acN).before a0 Z = true) (w2 : (Cond.native Jvm.Stand.acN).before a0 Z = true) (w3 : (Cond.static Jvm.Stand.acN).before a0 Z = true) (w4 : (Cond.initialized "java/lang/System").before a0 Z = true) (eT : T.heap = h)
    (A : own_Ia Z h a ty n f) (B : own_Ia Z h b ty n' f') (hty : refKind ty = false) (hn : n < 2 ^ 31) (hn' : n' < 2 ^ 31) {sp dp nn : Int32} (h1 : ¬ sp < 0) (h2 : ¬ dp < 0) (h3 : ¬ nn < 0) (h4 : sp.toNatClampNeg + nn.toNatClampNeg ≤ n) (h5 : dp.toNatClampNeg + nn.toNatClampNeg ≤ n')
    {n0 : Nat} (N : Fr n0 locs) (ge : n0 ≤ b) {g : JFrame} (hg : g.method = m) (hsize : g.locals.size = c.maxLocals) {rest : List Value} (hs : g.stack = .int nn :: .int dp :: .ref b :: .int sp :: .ref a :: rest) (hd : decode c.code g.pc = .ok (.invokestatic index, 3))
    (hf : 1 ≤ R.frames) {W : Nat} (hW : 2 * g.monitorRoom + (rest.map fun v => v.category).sum ≤ W) (hlo : W + 18 ≤ R.locals) :
    ∃ T' h' L, Stand p l e R s m args below meth c T' L cells slots ∧ T'.heap = h' ∧ Fr n0 L ∧ Keep h h' [b] ∧ own_Ia Z h' b ty n' (fun i => if dp.toNatClampNeg ≤ i ∧ i < dp.toNatClampNeg + nn.toNatClampNeg then f (sp.toNatClampNeg + (i - dp.toNatClampNeg)) else f' i) ∧
      ∀ target, Steps p.tables e below (T'.setTop { g with pc := g.pc + 3, stack := rest }) target → Steps p.tables e below (T.setTop g) target := by
  obtain ⟨k, A'⟩ := own_Ia_arv A hn
  obtain ⟨k', B'⟩ := own_Ia_arv B hn'
  obtain ⟨T', h', L, X', e', N', K', V', st⟩ := cpA X hx hZ hown w1 w2 w3 w4 eT A' B' (Or.inl ⟨rfl, hty⟩) h1 h2 h3 (by rw [own_n32 hn]; exact h4) (by rw [own_n32 hn']; exact h5) rfl (by simpa using h5) N ge hg hsize hs hd hf hW (by show W + 18 ≤ _; exact hlo)
  refine ⟨T', h', L, X', e', N', K', own_arv_Ia V' (own_n32 hn') (fun i hi => ?_), st⟩
  rw [own_cpl _ _ _ _ _ _ h4 h5 i hi]
  split <;> rfl
end OwnCp
/-! walks that may have interned a String: the Stand is over 's.setVm vm1', 's.Since vm1 n' says what came of the tables -/
def own_KS (Q : Option Value → Heap → List Loc → Prop) (U : State) (C S : Nat) : Outcome → State → Prop :=
  fun o U' => ∃ v L, o = .returned v ∧ Q v U'.heap L ∧ ReturnedEndW U o U' L C S
section OwnS
variable {p : Program} {l : Launch} {e : Env} {R : Room} {s : State} {m : MethodId} {args : Array Value} {below : List Frame} {meth : Method} {c : Code} {T T' : State} {locs : List Loc} {cells slots : Nat} {Z : State} {a0 : Array Value} {h h' : Heap} {K : Outcome → State → Prop} {Q : Option Value → Heap → List Loc → Prop} {C S n : Nat} {vm1 : Vm}
theorem own_retVW (X : Stand p l e R (s.setVm vm1) m args below meth c T locs cells slots) (hS : s.Since vm1 n) (hn0 : n ≤ T.heap.size) (hx : p.tables.exec = Jvm.exec) {pc : Nat} {Ls : Array Slot} {w : Value} {t : FieldType} {i : Instr} {rest : List Value} (hret : meth.sig.returnType = some t) (hlocks : meth.locks = false) (hn : narrow t w = w)
    (hi : (i = .ireturn ∧ (t = .int ∨ t = .boolean ∨ t = .byte ∨ t = .char ∨ t = .short) ∧ ∃ z, w = .int z) ∨ (i = .lreturn ∧ t = .long ∧ ∃ z, w = .long z) ∨ (i = .dreturn ∧ t = .double ∧ ∃ z, w = .double z) ∨ (i = .freturn ∧ t = .float ∧ ∃ z, w = .float z) ∨ (i = .areturn ∧ t.isReference = true ∧ w.isRef = true))
    (hd : decode c.code pc = .ok (i, 1)) (hc : cells ≤ C) (hs : slots ≤ S) (q : Q (some w) T.heap locs) : own_Goes p e below (own_KS Q s C S) T (mkF m pc Ls (w :: rest)) := by
  obtain ⟨fs, hr, hrun, hended, hW⟩ := X.leaveW hS hn0 (v := some w) (fun h => by rw [hret] at h; cases h) hlocks
  exact ⟨_, _, retOut X hx hret hn hi hd hr, hrun, hended, _, _, rfl, q, hW.1, hW.2.1, hW.2.2.1, hW.2.2.2.mono hc hs⟩
theorem own_retRW (X : Stand p l e R (s.setVm vm1) m args below meth c T locs cells slots) (hS : s.Since vm1 n) (hn0 : n ≤ T.heap.size) (hx : p.tables.exec = Jvm.exec) {pc : Nat} {Ls : Array Slot} {w : Value} {t : FieldType} {rest : List Value} (hret : meth.sig.returnType = some t) (hlocks : meth.locks = false) (ht : t.isReference = true) (hw : w.isRef = true)
    (hd : decode c.code pc = .ok (.areturn, 1)) (hc : cells ≤ C) (hs : slots ≤ S) (q : Q (some w) T.heap locs) : own_Goes p e below (own_KS Q s C S) T (mkF m pc Ls (w :: rest)) :=
  own_retVW X hS hn0 hx hret hlocks (by cases t <;> first | (cases ht; done) | (cases w <;> rfl)) (Or.inr (Or.inr (Or.inr (Or.inr ⟨rfl, ht, hw⟩)))) hd hc hs q
theorem own_retIW (X : Stand p l e R (s.setVm vm1) m args below meth c T locs cells slots) (hS : s.Since vm1 n) (hn0 : n ≤ T.heap.size) (hx : p.tables.exec = Jvm.exec) {pc : Nat} {Ls : Array Slot} {z : Int32} {rest : List Value} (hret : meth.sig.returnType = some .int) (hlocks : meth.locks = false)
    (hd : decode c.code pc = .ok (.ireturn, 1)) (hc : cells ≤ C) (hs : slots ≤ S) (q : Q (some (.int z)) T.heap locs) : own_Goes p e below (own_KS Q s C S) T (mkF m pc Ls (.int z :: rest)) :=
  own_retVW X hS hn0 hx hret hlocks rfl (Or.inl ⟨rfl, Or.inl rfl, z, rfl⟩) hd hc hs q
theorem own_retNW (X : Stand p l e R (s.setVm vm1) m args below meth c T locs cells slots) (hS : s.Since vm1 n) (hn0 : n ≤ T.heap.size) (hx : p.tables.exec = Jvm.exec) {pc : Nat} {Ls : Array Slot} {z : Int32} {t : FieldType} {rest : List Value} (hret : meth.sig.returnType = some t) (hlocks : meth.locks = false) (ht : t = .boolean ∨ t = .byte ∨ t = .char ∨ t = .short)
    (hd : decode c.code pc = .ok (.ireturn, 1)) (hc : cells ≤ C) (hs : slots ≤ S) {v : Int32} (hv : nar t z = v) (q : Q (some (.int v)) T.heap locs) : own_Goes p e below (own_KS Q s C S) T (mkF m pc Ls (.int z :: rest)) := by
  subst hv
  obtain ⟨fs, hr, hrun, hended, hW⟩ := X.leaveW hS hn0 (v := some (.int (nar t z))) (fun h => by rw [hret] at h; cases h) hlocks
  exact ⟨_, _, retN X hx hret ht hd hr, hrun, hended, _, _, rfl, q, hW.1, hW.2.1, hW.2.2.1, hW.2.2.2.mono hc hs⟩
theorem own_ret0W (X : Stand p l e R (s.setVm vm1) m args below meth c T locs cells slots) (hS : s.Since vm1 n) (hn0 : n ≤ T.heap.size) (hx : p.tables.exec = Jvm.exec) {pc : Nat} {Ls : Array Slot} (hret : meth.sig.returnType = none) (hlocks : meth.locks = false)
    (hd : decode c.code pc = .ok (.return_, 1)) (hc : cells ≤ C) (hs : slots ≤ S) (q : Q none T.heap locs) : own_Goes p e below (own_KS Q s C S) T (mkF m pc Ls []) := by
  obtain ⟨fs, hr, hrun, hended, hW⟩ := X.leaveW hS hn0 (v := none) (fun _ => rfl) hlocks
  exact ⟨_, _, X.returnOut hx hret hd hr, hrun, hended, _, _, rfl, q, hW.1, hW.2.1, hW.2.2.1, hW.2.2.2.mono hc hs⟩
/-- what the theorem of a callee says that may intern -/
abbrev own_MetS (l : Launch) (Z : State) (y : MethodName) (bytes : ByteArray) (maxL : Nat) (ret : Option FieldType) (rm : Room) (as' : Array Value) (h : Heap) (Q : Option Value → Heap → List Loc → Prop) : Prop :=
  MetFree l y (head1 [Cond.code y bytes maxL ret] rm) (fun a U => a = as' ∧ Z.Warmed39 U.vm ∧ U.heap = h ∧ U.vm.interned = Z.vm.interned) (fun _ _ _ _ _ => True) (fun _ U o U' => ∃ v L, o = .returned v ∧ Q v U'.heap L ∧ ReturnedEndW U o U' L rm.cells rm.slots)
theorem own_backS {y : MethodName} {bytes : ByteArray} {maxL : Nat} {ret : Option FieldType} {rm : Room} {len W : Nat} {as' : Array Value} (hM : own_MetS l Z y bytes maxL ret rm as' h Q)
    (hZ : Z.Warmed39 s.vm) (hI : s.vm.interned = Z.vm.interned) (wc : (Cond.code y bytes maxL ret).before a0 Z = true) (wz : (Cond.initialized y.cls).before a0 Z = true) (hf : rm.frames + 1 ≤ R.frames) (hl : W + (maxL + 11) + rm.locals ≤ R.locals) :
    BackS l R p e below s args y len W (fun A a => a = as' ∧ A.U.heap = h ∧ A.cells + rm.cells ≤ R.cells ∧ A.slots + rm.slots ≤ R.slots)
      (fun A _ v B => ∃ L, Q v B.U.heap L ∧ B.locs = A.locs ++ L ∧ B.cells = A.cells + rm.cells ∧ B.slots = A.slots + rm.slots) :=
  BackS.of_freeW (bytes := bytes) (maxL := maxL) (ret := ret) (E := fun _ _ o t L k n => k = rm.cells ∧ n = rm.slots ∧ ∃ v, o = .returned v ∧ Q v t.heap L) hM hf hl
    (fun m meth c A a Y hp => have hU : Z.Warmed39 A.U.vm := wtrans hZ Y.warmed
      ⟨by show (Cond.and _ .tt).before a A.U = true; rw [Cond.before_and, mv hU wc]; rfl, mv hU wc, mv hU wz, hp.2.2.1, hp.2.2.2⟩)
    (fun m meth c A a g mk Y hp => ⟨hp.1, wtrans hZ Y.warmed, hp.2.1, (Y.warmed.interned_eq).trans hI⟩) (fun _ _ _ _ _ _ _ _ _ => trivial)
    (fun _ _ _ _ ⟨v, L, h1, h2, h3⟩ => ⟨L, _, _, h3, rfl, rfl, v, h1, h2⟩)
    (fun m meth c A a g mk v t L k n Y hp _ _ ⟨e1, e2, v', e3, e4⟩ => by cases e3; subst e1 e2; exact ⟨L, e4, rfl, rfl, rfl⟩)
theorem own_callSS (X : Stand p l e R s m args below meth c T locs cells slots) (hx : p.tables.exec = Jvm.exec) (hZ : Z.Warmed39 s.vm) (hI : s.vm.interned = Z.vm.interned) {own : String} {index : Nat} {y : MethodName} {bytes : ByteArray} {maxL : Nat} {ret : Option FieldType}
    (hown : s.vm.findClass own = some m.cls) (w1 : (Cond.methodLink own index y).before a0 Z = true) (w2 : (Cond.static y).before a0 Z = true) (w3 : (Cond.initialized y.cls).before a0 Z = true) (w4 : (Cond.code y bytes maxL ret).before a0 Z = true) (hy : y.cls ≠ "java/lang/invoke/MethodHandle" ∧ y.cls ≠ "java/lang/invoke/VarHandle")
    {rm : Room} {argsL rest : List Value} (hM : own_MetS l Z y bytes maxL ret rm argsL.toArray h Q) (eT : T.heap = h) {W : Nat} (hf : rm.frames + 1 ≤ R.frames) (hl : W + (maxL + 11) + rm.locals ≤ R.locals) (hc : cells + rm.cells ≤ R.cells) (hs : slots + rm.slots ≤ R.slots)
    {g : JFrame} (hg : g.method = m) (hsize : g.locals.size = c.maxLocals) (hlen : ∀ sig, parseMethodDescriptor y.desc = some sig → argsL.length = sig.parameters.length)
    (hstack : g.stack = argsL.reverse ++ rest) (hW : 2 * g.monitorRoom + (rest.map fun v => v.category).sum ≤ W) (hdg : decode c.code g.pc = .ok (.invokestatic index, 3)) :
    ∃ (v : Option Value) (T' : State) (L : List Loc), Stand p l e R (s.setVm T'.vm) m args below meth c T' (locs ++ L) (cells + rm.cells) (slots + rm.slots) ∧ s.Since T'.vm T'.heap.size ∧ Z.Warmed39 (s.setVm T'.vm).vm ∧ (s.setVm T'.vm).vm.findClass own = some m.cls ∧ Q v T'.heap L ∧ ∀ K, own_Goes p e below K T' { g with pc := g.pc + 3, stack := v.toList ++ rest } → own_Goes p e below K T g := by
  obtain ⟨v, vm₁, ⟨T', L', k', n'⟩, -, X', hS, hgr, ⟨L, hQ, l1, l2, l3⟩, st⟩ := callSS X hx hown (mvT hZ w1) (mvT hZ w2) (mvT hZ w3) (mvT hZ w4) hy (own_backS (W := W) hM hZ hI w4 w3 hf hl) hg hsize hlen hstack hW hdg (fun _ _ => ⟨rfl, eT, hc, hs⟩)
  dsimp only [Pt.U, Pt.locs, Pt.cells, Pt.slots] at X' hS hgr l1 l2 l3 st hQ
  subst l1 l2 l3
  exact ⟨v, T', L, X', hS, State.Warmed39.trans hZ hS.1, (hS.1.alike.findClass _ _).trans hown, hQ, fun K k => own_by (fun t k => st.trans k) k⟩
theorem own_callIS (X : Stand p l e R s m args below meth c T locs cells slots) (hx : p.tables.exec = Jvm.exec) (hZ : Z.Warmed39 s.vm) (hI : s.vm.interned = Z.vm.interned) {own : String} {index : Nat} {y : MethodName} {bytes : ByteArray} {maxL : Nat} (hy1 : y.name = "<init>")
    (hown : s.vm.findClass own = some m.cls) (w1 : (Cond.methodLink own index y).before a0 Z = true) (w2 : (Cond.instanceMethod y).before a0 Z = true) (w3 : (Cond.initialized y.cls).before a0 Z = true) (w4 : (Cond.code y bytes maxL none).before a0 Z = true) (hy : y.cls ≠ "java/lang/invoke/MethodHandle" ∧ y.cls ≠ "java/lang/invoke/VarHandle")
    {rm : Room} {a : Addr} {argsL rest : List Value} (hM : own_MetS l Z y bytes maxL none rm (.ref a :: argsL).toArray h Q) (eT : T.heap = h) {W : Nat} (hf : rm.frames + 1 ≤ R.frames) (hl : W + (maxL + 11) + rm.locals ≤ R.locals) (hc : cells + rm.cells ≤ R.cells) (hs : slots + rm.slots ≤ R.slots)
    {g : JFrame} (hg : g.method = m) (hsize : g.locals.size = c.maxLocals) (hlen : ∀ sig, parseMethodDescriptor y.desc = some sig → argsL.length = sig.parameters.length)
    (hstack : g.stack = argsL.reverse ++ .ref a :: rest) (hW : 2 * g.monitorRoom + (rest.map fun v => v.category).sum ≤ W) (hdg : decode c.code g.pc = .ok (.invokespecial index, 3)) :
    ∃ (v : Option Value) (T' : State) (L : List Loc), Stand p l e R (s.setVm T'.vm) m args below meth c T' (locs ++ L) (cells + rm.cells) (slots + rm.slots) ∧ s.Since T'.vm T'.heap.size ∧ Z.Warmed39 (s.setVm T'.vm).vm ∧ (s.setVm T'.vm).vm.findClass own = some m.cls ∧ Q v T'.heap L ∧ ∀ K, own_Goes p e below K T' { g with pc := g.pc + 3, stack := v.toList ++ rest } → own_Goes p e below K T g := by
  obtain ⟨v, vm₁, ⟨T', L', k', n'⟩, -, X', hS, hgr, ⟨L, hQ, l1, l2, l3⟩, st⟩ := X.specialBackS hx hy1 hown (mvT hZ w1) (mvT hZ w2) (mvT hZ w4) hy (own_backS (W := W) hM hZ hI w4 w3 hf hl) hg hsize (Steps.refl _) hlen hstack hW hdg (fun _ _ => ⟨rfl, eT, hc, hs⟩)
  dsimp only [Pt.U, Pt.locs, Pt.cells, Pt.slots] at X' hS hgr l1 l2 l3 st hQ
  subst l1 l2 l3
  exact ⟨v, T', L, X', hS, State.Warmed39.trans hZ hS.1, (hS.1.alike.findClass _ _).trans hown, hQ, fun K k => own_by (fun t k => st.trans k) k⟩
theorem own_callVS (X : Stand p l e R s m args below meth c T locs cells slots) (hx : p.tables.exec = Jvm.exec) (hZ : Z.Warmed39 s.vm) (hI : s.vm.interned = Z.vm.interned) {own C : String} {index : Nat} {y : MethodName} {bytes : ByteArray} {maxL : Nat} {ret : Option FieldType}
    (hown : s.vm.findClass own = some m.cls) (w1 : (Cond.methodLink own index y).before a0 Z = true) (w5 : (Cond.declares y).before a0 Z = true) (w6 : (Cond.selects C y y).before a0 Z = true) (w2 : (Cond.instanceMethod y).before a0 Z = true) (w3 : (Cond.initialized y.cls).before a0 Z = true) (w4 : (Cond.code y bytes maxL ret).before a0 Z = true) (hy : y.cls ≠ "java/lang/invoke/MethodHandle" ∧ y.cls ≠ "java/lang/invoke/VarHandle")
    {rm : Room} {a : Addr} {argsL rest : List Value} (E : Exa Z h a C) (hM : own_MetS l Z y bytes maxL ret rm (.ref a :: argsL).toArray h Q) (eT : T.heap = h) {W : Nat} (hf : rm.frames + 1 ≤ R.frames) (hl : W + (maxL + 11) + rm.locals ≤ R.locals) (hc : cells + rm.cells ≤ R.cells) (hs : slots + rm.slots ≤ R.slots)
    {g : JFrame} (hg : g.method = m) (hsize : g.locals.size = c.maxLocals) (hlen : ∀ sig, parseMethodDescriptor y.desc = some sig → argsL.length = sig.parameters.length)
    (hstack : g.stack = argsL.reverse ++ .ref a :: rest) (hW : 2 * g.monitorRoom + (rest.map fun v => v.category).sum ≤ W) (hdg : decode c.code g.pc = .ok (.invokevirtual index, 3)) :
    ∃ (v : Option Value) (T' : State) (L : List Loc), Stand p l e R (s.setVm T'.vm) m args below meth c T' (locs ++ L) (cells + rm.cells) (slots + rm.slots) ∧ s.Since T'.vm T'.heap.size ∧ Z.Warmed39 (s.setVm T'.vm).vm ∧ (s.setVm T'.vm).vm.findClass own = some m.cls ∧ Q v T'.heap L ∧ ∀ K, own_Goes p e below K T' { g with pc := g.pc + 3, stack := v.toList ++ rest } → own_Goes p e below K T g := by
  obtain ⟨cB, kB, q1, q2, q3⟩ := isOf hZ eT E
  obtain ⟨v, vm₁, ⟨T', L', k', n'⟩, -, X', hS, hgr, ⟨L, hQ, l1, l2, l3⟩, st⟩ := X.virtualBackS hx hown (mvT hZ w1) (mvT hZ w5) (notFace_of_selects (args := #[]) (mvT hZ w6)) (mvT hZ w6) (mvT hZ w2) hy (own_backS (W := W) hM hZ hI w4 w3 hf hl) q1 q3 hg hsize (Steps.refl _) hlen hstack hW hdg (fun _ _ => ⟨rfl, eT, hc, hs⟩)
  dsimp only [Pt.U, Pt.locs, Pt.cells, Pt.slots] at X' hS hgr l1 l2 l3 st hQ
  subst l1 l2 l3
  exact ⟨v, T', L, X', hS, State.Warmed39.trans hZ hS.1, (hS.1.alike.findClass _ _).trans hown, hQ, fun K k => own_by (fun t k => st.trans k) k⟩
theorem own_ib (hI : s.vm.interned = Z.vm.interned) : IB Z s.vm [] := ⟨#[], by rw [hI]; simp, fun q hq => by simp at hq⟩
/-- a String constant, loaded once by this walk: a String of the text's bytes -/
theorem own_ldcS (X : Stand p l e R s m args below meth c T locs cells slots) (hx : p.tables.exec = Jvm.exec) (hZ : Z.Warmed39 s.vm) (hI : s.vm.interned = Z.vm.interned) {own text : String} {index : Nat} (hown : s.vm.findClass own = some m.cls) (w : (Cond.stringLink own index text).before a0 Z = true) (wS : ∀ a ∈ Bundle.stringAtoms, a.before a0 Z = true)
    (eT : T.heap = h) (hsz : s.heap.size ≤ h.size) (N : Fr s.heap.size locs) (hkeep : ∀ (b : Addr) (cl : Cell), Z.heap[b]? = some cl → s.heap[b]? = some cl) (hh : Jvm.Lit.constHeld Z own index) (hcw : Jvm.Lit.compactW.before a0 Z = true)
    {nl : Nat} {f : Nat → Int32} (hn31 : nl < 2 ^ 31) (ht : (∀ c ∈ text.toList, c.toNat < 256) ∧ text.toList.map (fun c => Value.int (Jvm.Lit.byteI c.toNat.toUInt16)) = (List.range nl).map (fun i => Value.int (f i)))
    {g : JFrame} (hg : g.method = m) (hd : decode c.code g.pc = .ok (.ldc index, 2)) {n : Nat} (hn : 4 * text.toList.length ≤ n) (hbig : n ≤ 536870912) (hc : cells + 2 ≤ R.cells) (hl' : slots + (n + 4) ≤ R.slots) :
    ∃ (a b : Addr) (T' : State) (h' : Heap), Stand p l e R (s.setVm T'.vm) m args below meth c T' locs (cells + 2) (slots + (n + 4)) ∧ T'.heap = h' ∧ Ext h h' ∧ s.Since T'.vm h'.size ∧ Z.Warmed39 (s.setVm T'.vm).vm ∧ (s.setVm T'.vm).vm.findClass own = some m.cls ∧
      Exa Z h' a "java/lang/String" ∧ Fld Z h' a "java/lang/String" "coder" "B" (.int 0) ∧ Fld Z h' a "java/lang/String" "value" "[B" (.ref b) ∧ own_Ia Z h' b .byte nl f ∧ Lit (s.setVm T'.vm) own index a ∧
      ∀ target, Steps p.tables e below (T'.setTop { g with pc := g.pc + 2, stack := .ref a :: g.stack }) target → Steps p.tables e below (T.setTop g) target := by
  obtain ⟨a, T', h', k1, b, k, X', e', E', hS, hk1, hZ', hown', A, Fc, Fv, V, -, -, -, hLit, st⟩ := ldcSVL (vm0 := s.vm) (Ts := []) (z := nl.toInt32) X hx hZ hown w wS eT (State.WarmedH.since (State.WarmedH.refl s) s.heap.size) hsz N hkeep (own_ib hI) (by simp) hh hcw ht (by rw [Int32.lt_iff_toInt_lt, len_toInt hn31, show (0 : Int32).toInt = 0 from rfl]; omega) (by rw [own_n32 hn31]; simp) hg hd hn hbig hc hl'
  refine ⟨a, b, T', h', X', e', E', ?_, hZ', hown', A, Fc, Fv, own_arv_Ia V (own_n32 hn31) (fun i hi => ?_), hLit, st⟩
  · exact ⟨hS.1, fun j q hj hq => ⟨(hS.2 j q hj hq).1, Nat.lt_of_lt_of_le (hS.2 j q hj hq).2 hk1⟩⟩
  · rw [own_rget, if_pos hi]
end OwnS
theorem own_z : (0 : Int32).toInt = 0 := rfl
theorem own_one : (1 : Int32).toInt = 1 := rfl
theorem own_pl (off ln : Int32) (ho : 0 ≤ off.toInt) (hl : 0 ≤ ln.toInt) (hs : off.toInt + ln.toInt ≤ 6) : (off + ln).toInt = off.toInt + ln.toInt := by
  have a := c_iadd off ln; have := rng32 (off + ln); omega
theorem own_inc (i : Int32) (h1 : 0 ≤ i.toInt) (h2 : i.toInt ≤ 6) : (i + (1 : Int32)).toInt = i.toInt + 1 := by
  have a := c_iadd i 1; rw [own_one] at a; have := rng32 (i + 1); omega
theorem own_dec (i : Int32) (h1 : 1 ≤ i.toInt) (h2 : i.toInt ≤ 6) : (i - (1 : Int32)).toInt = i.toInt - 1 := by
  have a := c_isub i 1; rw [own_one] at a; have := rng32 (i - 1); omega
theorem own_nn (i : Int32) (h : 0 ≤ i.toInt) : ¬ i < 0 := by rw [Int32.lt_iff_toInt_lt, own_z]; omega
theorem own_in (i : Int32) (n : Nat) (h : 0 ≤ i.toInt) (h2 : i.toInt < n) : ¬ i < 0 ∧ i.toNatClampNeg < n := ⟨own_nn i h, by simp only [Int32.toNatClampNeg]; omega⟩
/-! digit -/
theorem own_dx (dg i : Int32) (n : Nat) (b1 : 0 ≤ dg.toInt ∧ 0 ≤ i.toInt ∧ dg.toInt + i.toInt < 6) (hn : 6 ≤ n) : ¬ (dg + i) < 0 ∧ (dg + i).toNatClampNeg < n := by
  have e : (dg + i).toInt = dg.toInt + i.toInt := by have a := c_iadd dg i; have := rng32 (dg + i); omega
  exact own_in _ _ (by omega) (by omega)
theorem own_dy (dg i pt : Int32) (b1 : 0 ≤ dg.toInt ∧ 0 ≤ i.toInt ∧ dg.toInt + i.toInt < 6) (b2 : 0 ≤ pt.toInt → dg.toInt + i.toInt + 1 < 6) (hc : ¬ pt < (0 : Int32)) : ¬ ((dg + i) + (1 : Int32)) < 0 ∧ ((dg + i) + (1 : Int32)).toNatClampNeg < 6 := by
  rw [Int32.lt_iff_toInt_lt, own_z] at hc
  have b3 := b2 (by omega)
  have e : (dg + i).toInt = dg.toInt + i.toInt := by have a := c_iadd dg i; have := rng32 (dg + i); omega
  have e2 := own_inc (dg + i) (by omega) (by omega)
  exact own_in _ 6 (by omega) (by omega)
/-! what read leaves -/
def own_R (f : Nat → Int32) (off st pt en : Int32) : Prop := (pt.toInt < 0 ∧ en = st) ↔ ∀ i : Nat, off.toInt ≤ i → (i : Int) < st.toInt → f i ≠ 46 ∧ f i ≠ 101 ∧ f i ≠ 69
def own_J (f : Nat → Int32) (off en pt : Int32) : Prop := (∀ i : Nat, off.toInt ≤ i → (i : Int) < en.toInt → f i ≠ 101 ∧ f i ≠ 69) ∧ ((pt.toInt < 0 ∧ ∀ i : Nat, off.toInt ≤ i → (i : Int) < en.toInt → f i ≠ 46) ∨ (0 ≤ pt.toInt ∧ off.toInt ≤ pt.toInt ∧ pt.toInt < en.toInt ∧ f pt.toInt.toNat = 46))
theorem own_lt2 (off ln ex : Int32) (kk : Nat) (ho : 0 ≤ off.toInt) (hl : 0 ≤ ln.toInt) (hs : off.toInt + ln.toInt ≤ 6) (x2 : (off.toInt + ln.toInt - ex.toInt).toNat = kk + 1) : ex.toInt < off.toInt + ln.toInt ∧ off.toInt + ln.toInt ≤ 6 := by omega
theorem own_lt3 (off ln ex : Int32) (kk : Nat) (x2 : (off.toInt + ln.toInt - ex.toInt).toNat = kk + 1) : ex.toInt < off.toInt + ln.toInt := by omega
theorem own_lt4 (off ln ex : Int32) (kk : Nat) (ho : 0 ≤ off.toInt) (hl : 0 ≤ ln.toInt) (hs : off.toInt + ln.toInt ≤ 6) (x2 : (off.toInt + ln.toInt - ex.toInt).toNat = kk + 1) : ex < (off + ln) := by
  rw [Int32.lt_iff_toInt_lt, own_pl off ln ho hl hs]; omega
theorem own_ge3 (off ln ex : Int32) (ho : 0 ≤ off.toInt) (hl : 0 ≤ ln.toInt) (hs : off.toInt + ln.toInt ≤ 6) (x2 : (off.toInt + ln.toInt - ex.toInt).toNat = 0) : ¬ ex < (off + ln) := by
  rw [Int32.lt_iff_toInt_lt, own_pl off ln ho hl hs]; omega
theorem own_lt1 (i D : Int32) (kk : Nat) (z2 : (D.toInt - i.toInt).toNat = kk + 1) : i < D := by rw [Int32.lt_iff_toInt_lt]; omega
theorem own_ge1 (i D : Int32) (z2 : (D.toInt - i.toInt).toNat = 0) : ¬ i < D := by rw [Int32.lt_iff_toInt_lt]; omega
theorem own_p1 (ex : Int32) (n : Int) (x1 : 0 ≤ ex.toInt) (h : ex.toInt < n ∧ n ≤ 6) : 0 ≤ (ex + (1 : Int32)).toInt := by rw [own_inc ex x1 (by omega)]; omega
theorem own_p2 (off ln ex : Int32) (kk : Nat) (ho : 0 ≤ off.toInt) (hl : 0 ≤ ln.toInt) (hs : off.toInt + ln.toInt ≤ 6) (x1 : 0 ≤ ex.toInt) (x2 : (off.toInt + ln.toInt - ex.toInt).toNat = kk + 1) : (off.toInt + ln.toInt - (ex + (1 : Int32)).toInt).toNat = kk := by
  rw [own_inc ex x1 (by omega)]; omega
theorem own_ix (off ln ex : Int32) (ho : 0 ≤ off.toInt) (hl : 0 ≤ ln.toInt) (hs : off.toInt + ln.toInt ≤ 6) (x1 : 0 ≤ ex.toInt) (h : ex.toInt < off.toInt + ln.toInt) : ¬ ex < 0 ∧ ex.toNatClampNeg < 6 := own_in _ 6 x1 (by omega)
theorem own_mne (off ln en : Int32) (ho : 0 ≤ off.toInt) (hl : 0 ≤ ln.toInt) (hs : off.toInt + ln.toInt ≤ 6) (x1 : 0 ≤ en.toInt) (x2 : en.toInt ≤ off.toInt + ln.toInt) : 0 ≤ (if (off + ln) < (en + (1 : Int32)) then (off + ln) else (en + (1 : Int32))).toInt ∧ (if (off + ln) < (en + (1 : Int32)) then (off + ln) else (en + (1 : Int32))).toInt ≤ 7 := by
  have e1 := own_pl off ln ho hl hs
  have e2 := own_inc en x1 (by omega)
  split <;> omega
theorem own_mn (off ln en : Int32) (ho : 0 ≤ off.toInt) (hl : 0 ≤ ln.toInt) (hs : off.toInt + ln.toInt ≤ 6) (x1 : 0 ≤ en.toInt) (x2 : en.toInt ≤ off.toInt + ln.toInt) : 0 ≤ (if (off + ln) < (en + (1 : Int32)) then (off + ln) else (en + (1 : Int32))).toInt := (own_mne off ln en ho hl hs x1 x2).1
theorem own_mn1 (off ln en : Int32) (ho : 0 ≤ off.toInt) (hl : 0 ≤ ln.toInt) (hs : off.toInt + ln.toInt ≤ 6) (x1 : 0 ≤ en.toInt) (x2 : en.toInt ≤ off.toInt + ln.toInt) : 0 ≤ ((if (off + ln) < (en + (1 : Int32)) then (off + ln) else (en + (1 : Int32))) + (1 : Int32)).toInt := by
  have e := own_mne off ln en ho hl hs x1 x2
  generalize (if (off + ln) < (en + (1 : Int32)) then (off + ln) else (en + (1 : Int32))) = q at *
  have a := c_iadd q 1; rw [own_one] at a; have := rng32 (q + 1); omega
theorem own_m1 (off ln en : Int32) (ho : 0 ≤ off.toInt) (hl : 0 ≤ ln.toInt) (hs : off.toInt + ln.toInt ≤ 6) (x1 : 0 ≤ en.toInt) (x2 : en.toInt ≤ off.toInt + ln.toInt) (hc : (if (off + ln) < (en + (1 : Int32)) then (off + ln) else (en + (1 : Int32))) < (off + ln)) : ¬ (if (off + ln) < (en + (1 : Int32)) then (off + ln) else (en + (1 : Int32))) < 0 ∧ (if (off + ln) < (en + (1 : Int32)) then (off + ln) else (en + (1 : Int32))).toNatClampNeg < 6 := by
  have e := own_mne off ln en ho hl hs x1 x2
  rw [Int32.lt_iff_toInt_lt, own_pl off ln ho hl hs] at hc
  exact own_in _ 6 e.1 (by omega)
theorem own_g1 (fi la D : Int32) (kk : Nat) (z1 : 0 ≤ fi.toInt ∧ fi.toInt ≤ la.toInt ∧ la.toInt ≤ D.toInt) (y2 : 0 ≤ D.toInt) (z2 : (la.toInt - fi.toInt).toNat = kk + 1) : 0 ≤ fi.toInt ∧ fi.toInt ≤ (la - (1 : Int32)).toInt ∧ (la - (1 : Int32)).toInt ≤ D.toInt := by
  have a := c_isub la 1; rw [own_one] at a; have := rng32 (la - 1); have := rng32 la; omega
theorem own_g2 (fi la D : Int32) (kk : Nat) (z1 : 0 ≤ fi.toInt ∧ fi.toInt ≤ la.toInt ∧ la.toInt ≤ D.toInt) (y2 : 0 ≤ D.toInt) (z2 : (la.toInt - fi.toInt).toNat = kk + 1) : ((la - (1 : Int32)).toInt - fi.toInt).toNat = kk := by
  have a := c_isub la 1; rw [own_one] at a; have := rng32 (la - 1); have := rng32 la; omega
theorem own_k1 (fi D dg en : Int32) (kk : Nat) (z1 : 0 ≤ fi.toInt ∧ fi.toInt ≤ D.toInt) (z2 : (D.toInt - fi.toInt).toNat = kk + 1) (y0 : 0 ≤ dg.toInt) (y2 : 0 ≤ D.toInt ∧ dg.toInt + D.toInt ≤ en.toInt) : 0 ≤ (fi + (1 : Int32)).toInt ∧ (fi + (1 : Int32)).toInt ≤ D.toInt := by
  have a := c_iadd fi 1; rw [own_one] at a; have := rng32 (fi + 1); have := rng32 D; omega
theorem own_k2 (fi D dg en : Int32) (kk : Nat) (z1 : 0 ≤ fi.toInt ∧ fi.toInt ≤ D.toInt) (z2 : (D.toInt - fi.toInt).toNat = kk + 1) (y0 : 0 ≤ dg.toInt) (y2 : 0 ≤ D.toInt ∧ dg.toInt + D.toInt ≤ en.toInt) : (D.toInt - (fi + (1 : Int32)).toInt).toNat = kk := by
  have a := c_iadd fi 1; rw [own_one] at a; have := rng32 (fi + 1); have := rng32 D; omega
theorem own_dn1 (dg en off ln pt : Int32) (ho : 0 ≤ off.toInt) (hl : 0 ≤ ln.toInt) (hs : off.toInt + ln.toInt ≤ 6) (y0 : 0 ≤ dg.toInt) (y1 : 0 ≤ en.toInt ∧ en.toInt ≤ off.toInt + ln.toInt) (y2 : dg.toInt ≤ en.toInt) (y3 : 0 ≤ pt.toInt → dg.toInt ≤ pt.toInt ∧ pt.toInt < en.toInt) (hc : pt < (0 : Int32)) : 0 ≤ ((en - dg) - (0 : Int32)).toInt ∧ dg.toInt + ((en - dg) - (0 : Int32)).toInt ≤ en.toInt := by
  have a := c_isub en dg; have := rng32 (en - dg); have b := c_isub (en - dg) 0; have := rng32 ((en - dg) - 0); rw [own_z] at b; omega
theorem own_dn2 (dg en off ln pt : Int32) (ho : 0 ≤ off.toInt) (hl : 0 ≤ ln.toInt) (hs : off.toInt + ln.toInt ≤ 6) (y0 : 0 ≤ dg.toInt) (y1 : 0 ≤ en.toInt ∧ en.toInt ≤ off.toInt + ln.toInt) (y2 : dg.toInt ≤ en.toInt) (y3 : 0 ≤ pt.toInt → dg.toInt ≤ pt.toInt ∧ pt.toInt < en.toInt) (hc : pt < (0 : Int32)) : 0 ≤ pt.toInt → dg.toInt + ((en - dg) - (0 : Int32)).toInt + 1 ≤ en.toInt := by
  rw [Int32.lt_iff_toInt_lt, own_z] at hc; intro h; omega
theorem own_dp1 (dg en off ln pt : Int32) (ho : 0 ≤ off.toInt) (hl : 0 ≤ ln.toInt) (hs : off.toInt + ln.toInt ≤ 6) (y0 : 0 ≤ dg.toInt) (y1 : 0 ≤ en.toInt ∧ en.toInt ≤ off.toInt + ln.toInt) (y2 : dg.toInt ≤ en.toInt) (y3 : 0 ≤ pt.toInt → dg.toInt ≤ pt.toInt ∧ pt.toInt < en.toInt) (hc : ¬ pt < (0 : Int32)) : 0 ≤ ((en - dg) - (1 : Int32)).toInt ∧ dg.toInt + ((en - dg) - (1 : Int32)).toInt ≤ en.toInt := by
  rw [Int32.lt_iff_toInt_lt, own_z] at hc
  have a := c_isub en dg; have := rng32 (en - dg); have b := c_isub (en - dg) 1; have := rng32 ((en - dg) - 1); rw [own_one] at b; have := y3 (by omega); omega
theorem own_dp2 (dg en off ln pt : Int32) (ho : 0 ≤ off.toInt) (hl : 0 ≤ ln.toInt) (hs : off.toInt + ln.toInt ≤ 6) (y0 : 0 ≤ dg.toInt) (y1 : 0 ≤ en.toInt ∧ en.toInt ≤ off.toInt + ln.toInt) (y2 : dg.toInt ≤ en.toInt) (y3 : 0 ≤ pt.toInt → dg.toInt ≤ pt.toInt ∧ pt.toInt < en.toInt) (hc : ¬ pt < (0 : Int32)) : 0 ≤ pt.toInt → dg.toInt + ((en - dg) - (1 : Int32)).toInt + 1 ≤ en.toInt := by
  rw [Int32.lt_iff_toInt_lt, own_z] at hc
  have a := c_isub en dg; have := rng32 (en - dg); have b := c_isub (en - dg) 1; have := rng32 ((en - dg) - 1); rw [own_one] at b; have := y3 (by omega); intro h; omega
theorem own_v1 (off ln dg fi D en : Int32) (kk : Nat) (ho : 0 ≤ off.toInt) (hl : 0 ≤ ln.toInt) (hs : off.toInt + ln.toInt ≤ 6) (z1 : 0 ≤ fi.toInt ∧ fi.toInt ≤ D.toInt) (z2 : (D.toInt - fi.toInt).toNat = kk + 1) (y0 : 0 ≤ dg.toInt) (y1 : 0 ≤ en.toInt ∧ en.toInt ≤ off.toInt + ln.toInt) (y2 : 0 ≤ D.toInt ∧ dg.toInt + D.toInt ≤ en.toInt) : 0 ≤ dg.toInt ∧ 0 ≤ fi.toInt ∧ dg.toInt + fi.toInt < 6 := by omega
theorem own_v2 (off ln dg fi D en pt : Int32) (kk : Nat) (ho : 0 ≤ off.toInt) (hl : 0 ≤ ln.toInt) (hs : off.toInt + ln.toInt ≤ 6) (z1 : 0 ≤ fi.toInt ∧ fi.toInt ≤ D.toInt) (z2 : (D.toInt - fi.toInt).toNat = kk + 1) (y0 : 0 ≤ dg.toInt) (y1 : 0 ≤ en.toInt ∧ en.toInt ≤ off.toInt + ln.toInt) (y3 : 0 ≤ pt.toInt → dg.toInt + D.toInt + 1 ≤ en.toInt) : 0 ≤ pt.toInt → dg.toInt + fi.toInt + 1 < 6 := by
  intro h; have := y3 h; omega
theorem own_v3 (off ln dg fi la D en : Int32) (kk : Nat) (ho : 0 ≤ off.toInt) (hl : 0 ≤ ln.toInt) (hs : off.toInt + ln.toInt ≤ 6) (z1 : 0 ≤ fi.toInt ∧ fi.toInt ≤ la.toInt ∧ la.toInt ≤ D.toInt) (z2 : (la.toInt - fi.toInt).toNat = kk + 1) (y0 : 0 ≤ dg.toInt) (y1 : 0 ≤ en.toInt ∧ en.toInt ≤ off.toInt + ln.toInt) (y2 : 0 ≤ D.toInt ∧ dg.toInt + D.toInt ≤ en.toInt) : 0 ≤ dg.toInt ∧ 0 ≤ (la - (1 : Int32)).toInt ∧ dg.toInt + (la - (1 : Int32)).toInt < 6 := by
  have := own_dec la (by omega) (by omega); omega
theorem own_v4 (off ln dg fi la D en pt : Int32) (kk : Nat) (ho : 0 ≤ off.toInt) (hl : 0 ≤ ln.toInt) (hs : off.toInt + ln.toInt ≤ 6) (z1 : 0 ≤ fi.toInt ∧ fi.toInt ≤ la.toInt ∧ la.toInt ≤ D.toInt) (z2 : (la.toInt - fi.toInt).toNat = kk + 1) (y0 : 0 ≤ dg.toInt) (y1 : 0 ≤ en.toInt ∧ en.toInt ≤ off.toInt + ln.toInt) (y2 : 0 ≤ D.toInt ∧ dg.toInt + D.toInt ≤ en.toInt) (y3 : 0 ≤ pt.toInt → dg.toInt + D.toInt + 1 ≤ en.toInt) : 0 ≤ pt.toInt → dg.toInt + (la - (1 : Int32)).toInt + 1 < 6 := by
  intro h; have := y3 h; have := own_dec la (by omega) (by omega); omega
theorem own_Re (off ln en pt : Int32) (f : Nat → Int32) (ho : 0 ≤ off.toInt) (hl : 0 ≤ ln.toInt) (hs : off.toInt + ln.toInt ≤ 6) (y1 : off.toInt ≤ en.toInt ∧ en.toInt ≤ off.toInt + ln.toInt) (hlt : en.toInt < off.toInt + ln.toInt) (hc : f en.toNatClampNeg = (101 : Int32) ∨ f en.toNatClampNeg = (69 : Int32)) : own_R f off (off + ln) pt en := by
  have e := own_pl off ln ho hl hs
  constructor
  · intro h; rw [h.2] at hlt; omega
  · intro h
    have q := h en.toNatClampNeg (by simp only [Int32.toNatClampNeg]; omega) (by simp only [Int32.toNatClampNeg]; omega)
    rcases hc with hc | hc
    · exact absurd hc q.2.1
    · exact absurd hc q.2.2
theorem own_Rs (off ln en pt : Int32) (f : Nat → Int32) (ho : 0 ≤ off.toInt) (hl : 0 ≤ ln.toInt) (hs : off.toInt + ln.toInt ≤ 6) (y1 : off.toInt ≤ en.toInt ∧ en.toInt ≤ off.toInt + ln.toInt) (y4 : (off.toInt + ln.toInt - en.toInt).toNat = 0) (hJ : own_J f off en pt) : own_R f off (off + ln) pt en := by
  have e := own_pl off ln ho hl hs
  have q : en = off + ln := by rw [← Int32.toInt_inj]; omega
  obtain ⟨j1, j2⟩ := hJ
  rw [q] at j1 j2
  constructor
  · intro h i i1 i2
    rcases j2 with j2 | j2
    · exact ⟨j2.2 i i1 i2, j1 i i1 i2⟩
    · omega
  · intro h
    refine ⟨?_, q⟩
    rcases j2 with j2 | ⟨k1, k2, k3, k4⟩
    · exact j2.1
    · exact absurd k4 (h pt.toInt.toNat (by omega) (by omega)).1
theorem own_n1 (off ln en : Int32) (ho : 0 ≤ off.toInt) (hl : 0 ≤ ln.toInt) (hs : off.toInt + ln.toInt ≤ 6) (y1 : off.toInt ≤ en.toInt ∧ en.toInt ≤ off.toInt + ln.toInt) (hlt : en.toInt < off.toInt + ln.toInt) : off.toInt ≤ (en + (1 : Int32)).toInt ∧ (en + (1 : Int32)).toInt ≤ off.toInt + ln.toInt := by
  rw [own_inc en (by omega) (by omega)]; omega
theorem own_n2 (off ln en dg : Int32) (ho : 0 ≤ off.toInt) (hl : 0 ≤ ln.toInt) (hs : off.toInt + ln.toInt ≤ 6) (y1 : off.toInt ≤ en.toInt ∧ en.toInt ≤ off.toInt + ln.toInt) (y2 : dg.toInt ≤ en.toInt) (hlt : en.toInt < off.toInt + ln.toInt) : dg.toInt ≤ (en + (1 : Int32)).toInt := by
  rw [own_inc en (by omega) (by omega)]; omega
theorem own_n3t (off ln en dg pt : Int32) (ho : 0 ≤ off.toInt) (hl : 0 ≤ ln.toInt) (hs : off.toInt + ln.toInt ≤ 6) (y1 : off.toInt ≤ en.toInt ∧ en.toInt ≤ off.toInt + ln.toInt) (y2 : dg.toInt ≤ en.toInt) (y3 : 0 ≤ pt.toInt → dg.toInt ≤ pt.toInt ∧ pt.toInt < en.toInt) (hlt : en.toInt < off.toInt + ln.toInt) : 0 ≤ en.toInt → dg.toInt ≤ en.toInt ∧ en.toInt < (en + (1 : Int32)).toInt := by
  rw [own_inc en (by omega) (by omega)]; omega
theorem own_n3f (off ln en dg pt : Int32) (ho : 0 ≤ off.toInt) (hl : 0 ≤ ln.toInt) (hs : off.toInt + ln.toInt ≤ 6) (y1 : off.toInt ≤ en.toInt ∧ en.toInt ≤ off.toInt + ln.toInt) (y2 : dg.toInt ≤ en.toInt) (y3 : 0 ≤ pt.toInt → dg.toInt ≤ pt.toInt ∧ pt.toInt < en.toInt) (hlt : en.toInt < off.toInt + ln.toInt) : 0 ≤ pt.toInt → dg.toInt ≤ pt.toInt ∧ pt.toInt < (en + (1 : Int32)).toInt := by
  intro h; have := y3 h; rw [own_inc en (by omega) (by omega)]; omega
theorem own_n5 (off ln en : Int32) (kk : Nat) (ho : 0 ≤ off.toInt) (hl : 0 ≤ ln.toInt) (hs : off.toInt + ln.toInt ≤ 6) (y1 : off.toInt ≤ en.toInt ∧ en.toInt ≤ off.toInt + ln.toInt) (y4 : (off.toInt + ln.toInt - en.toInt).toNat = kk + 1) : (off.toInt + ln.toInt - (en + (1 : Int32)).toInt).toNat = kk := by
  rw [own_inc en (by omega) (by omega)]; omega
theorem own_at (en : Int32) (i : Nat) (h0 : 0 ≤ en.toInt) (h1 : ¬ (i : Int) < en.toInt) (h2 : (i : Int) < en.toInt + 1) : i = en.toNatClampNeg := by simp only [Int32.toNatClampNeg]; omega
theorem own_n4t (off ln en pt : Int32) (f : Nat → Int32) (ho : 0 ≤ off.toInt) (hl : 0 ≤ ln.toInt) (hs : off.toInt + ln.toInt ≤ 6) (y1 : off.toInt ≤ en.toInt ∧ en.toInt ≤ off.toInt + ln.toInt) (hlt : en.toInt < off.toInt + ln.toInt) (hJ : own_J f off en pt) (h1 : ¬ f en.toNatClampNeg = (101 : Int32)) (h2 : ¬ f en.toNatClampNeg = (69 : Int32)) (h3 : f en.toNatClampNeg = (46 : Int32)) : own_J f off (en + (1 : Int32)) en := by
  have e := own_inc en (by omega) (by omega)
  refine ⟨fun i i1 i2 => ?_, Or.inr ⟨by omega, by omega, by omega, h3⟩⟩
  rw [e] at i2
  by_cases q : (i : Int) < en.toInt
  · exact hJ.1 i i1 q
  · rw [own_at en i (by omega) q i2]; exact ⟨h1, h2⟩
theorem own_n4f (off ln en pt : Int32) (f : Nat → Int32) (ho : 0 ≤ off.toInt) (hl : 0 ≤ ln.toInt) (hs : off.toInt + ln.toInt ≤ 6) (y1 : off.toInt ≤ en.toInt ∧ en.toInt ≤ off.toInt + ln.toInt) (hlt : en.toInt < off.toInt + ln.toInt) (hJ : own_J f off en pt) (h1 : ¬ f en.toNatClampNeg = (101 : Int32)) (h2 : ¬ f en.toNatClampNeg = (69 : Int32)) (h3 : ¬ f en.toNatClampNeg = (46 : Int32)) : own_J f off (en + (1 : Int32)) pt := by
  have e := own_inc en (by omega) (by omega)
  refine ⟨fun i i1 i2 => ?_, ?_⟩
  · rw [e] at i2
    by_cases q : (i : Int) < en.toInt
    · exact hJ.1 i i1 q
    · rw [own_at en i (by omega) q i2]; exact ⟨h1, h2⟩
  · rcases hJ.2 with j | j
    · refine Or.inl ⟨j.1, fun i i1 i2 => ?_⟩
      rw [e] at i2
      by_cases q : (i : Int) < en.toInt
      · exact j.2 i i1 q
      · rw [own_at en i (by omega) q i2]; exact h3
    · exact Or.inr ⟨j.1, j.2.1, by omega, j.2.2.2⟩
theorem own_J0 (f : Nat → Int32) (off : Int32) : own_J f off off (-1 : Int32) := ⟨fun i i1 i2 => by omega, Or.inl ⟨by decide, fun i i1 i2 => by omega⟩⟩
theorem own_o (off ln : Int32) (ho : 0 ≤ off.toInt) (hs : off.toInt + ln.toInt ≤ 6) (hc : (0 : Int32) < ln) : (off + (1 : Int32)).toInt = off.toInt + 1 ∧ off.toInt + 1 ≤ off.toInt + ln.toInt := by
  rw [Int32.lt_iff_toInt_lt, own_z] at hc; rw [own_inc off ho (by omega)]; omega
theorem own_o1 (off ln : Int32) (ho : 0 ≤ off.toInt) (hs : off.toInt + ln.toInt ≤ 6) (hc : (0 : Int32) < ln) : 0 ≤ (off + (1 : Int32)).toInt := by have := own_o off ln ho hs hc; omega
theorem own_o1' (off ln : Int32) (ho : 0 ≤ off.toInt) (hs : off.toInt + ln.toInt ≤ 6) (hc : (0 : Int32) < ln) : off.toInt ≤ (off + (1 : Int32)).toInt := by have := own_o off ln ho hs hc; omega
theorem own_o2 (off ln : Int32) (ho : 0 ≤ off.toInt) (hs : off.toInt + ln.toInt ≤ 6) (hc : (0 : Int32) < ln) : (off + (1 : Int32)).toInt ≤ off.toInt + ln.toInt := by have := own_o off ln ho hs hc; omega
theorem own_o3 (off ln : Int32) (ho : 0 ≤ off.toInt) (hs : off.toInt + ln.toInt ≤ 6) (hc : (0 : Int32) < ln) : ¬ off < 0 ∧ off.toNatClampNeg < 6 := by
  rw [Int32.lt_iff_toInt_lt, own_z] at hc; exact own_in _ 6 ho (by omega)
theorem own_J1 (f : Nat → Int32) (off ln : Int32) (ho : 0 ≤ off.toInt) (hs : off.toInt + ln.toInt ≤ 6) (hc : (0 : Int32) < ln) (h : f off.toNatClampNeg = (45 : Int32)) : own_J f off (off + (1 : Int32)) (-1 : Int32) := by
  have e := (own_o off ln ho hs hc).1
  refine ⟨fun i i1 i2 => ?_, Or.inl ⟨by decide, fun i i1 i2 => ?_⟩⟩
  · rw [own_at off i ho (by omega) (by omega), h]; decide
  · rw [own_at off i ho (by omega) (by omega), h]; decide
theorem own_kold {Z : State} {h0 h : Heap} (hold : ∀ (b : Addr) (cl : Cell), Z.heap[b]? = some cl → h0[b]? = some cl) (K : Keep h0 h []) : ∀ (b : Addr) (cl : Cell), Z.heap[b]? = some cl → h[b]? = some cl := fun b cl q => K.2.1 b cl (hold b cl q) nin0
theorem own_fne {Z : State} {h : Heap} {a sa b : Addr} (F : Fld Z h sa "java/lang/String" "value" "[B" (.ref b)) (G : Fld Z h a "java/lang/String" "value" "[B" .null) : a ≠ sa := Fld.ne G F (by simp)
theorem own_bne {Z : State} {h : Heap} {a b : Addr} {n : Nat} {f : Nat → Int32} {a0 : Array Value} {k : Nat} {C : String} (V : own_Ia Z h b .byte n f) (E : Exa Z h a C) (wi : (Jvm.Cond.instantiable C k).before a0 Z = true) : b ≠ a := by
  obtain ⟨c, A, -⟩ := V
  exact Ne.symm (ne_arr E wi A)
/-! range checks -/
theorem own_cf1 (off ln len : Int32) (h : 0 ≤ off.toInt ∧ 0 ≤ ln.toInt ∧ 0 ≤ len.toInt ∧ off.toInt + ln.toInt ≤ len.toInt) : ¬ ((len ||| off) ||| ln) < (0 : Int32) := by
  rw [Int32.lt_iff_toInt_lt, own_z]
  have a := (c_orS len off).1 h.2.2.1 h.1
  have b := (c_orS (len ||| off) ln).1 a h.2.1
  omega
theorem own_cf2 (off ln len : Int32) (h : 0 ≤ off.toInt ∧ 0 ≤ ln.toInt ∧ 0 ≤ len.toInt ∧ off.toInt + ln.toInt ≤ len.toInt) : ¬ (len - off) < ln := by
  rw [Int32.lt_iff_toInt_lt]
  have a := c_isub len off; have := rng32 (len - off); have := rng32 len; have := rng32 off; omega
theorem own_h6 (off ln : Int32) (ho : 0 ≤ off.toInt) (hl : 0 ≤ ln.toInt) (hs : off.toInt + ln.toInt ≤ 6) : 0 ≤ off.toInt ∧ 0 ≤ ln.toInt ∧ 0 ≤ (6 : Int32).toInt ∧ off.toInt + ln.toInt ≤ (6 : Int32).toInt := ⟨ho, hl, by decide, hs⟩
theorem own_i0 (i ln : Int32) (h : 0 ≤ i.toInt ∧ i.toInt < ln.toInt) : ¬ i < (0 : Int32) := by rw [Int32.lt_iff_toInt_lt, own_z]; omega
theorem own_i1 (i ln : Int32) (h : 0 ≤ i.toInt ∧ i.toInt < ln.toInt) : i < ln := by rw [Int32.lt_iff_toInt_lt]; omega
theorem own_i2 (i ln : Int32) (h : 0 ≤ i.toInt ∧ i.toInt < ln.toInt) : ¬ i < 0 ∧ i.toNatClampNeg < ln.toNatClampNeg := ⟨own_i0 i ln h, by simp only [Int32.toNatClampNeg]; omega⟩
theorem own_l32 (ln : Int32) (h : 0 ≤ ln.toInt) : ln.toNatClampNeg.toInt32 = ln := (back32 (own_nn ln h)).1
/-! compress -/
theorem own_c1 (ln i : Int32) (kk : Nat) (off : Int32) (hs : off.toInt + ln.toInt ≤ 6) (ho : 0 ≤ off.toInt) (i1 : 0 ≤ i.toInt ∧ i.toInt ≤ ln.toInt) (i2 : (ln.toInt - i.toInt).toNat = kk + 1) : 0 ≤ (i + (1 : Int32)).toInt ∧ (i + (1 : Int32)).toInt ≤ ln.toInt := by rw [own_inc i (by omega) (by omega)]; omega
theorem own_c2 (ln i : Int32) (kk : Nat) (off : Int32) (hs : off.toInt + ln.toInt ≤ 6) (ho : 0 ≤ off.toInt) (i1 : 0 ≤ i.toInt ∧ i.toInt ≤ ln.toInt) (i2 : (ln.toInt - i.toInt).toNat = kk + 1) : (ln.toInt - (i + (1 : Int32)).toInt).toNat = kk := by rw [own_inc i (by omega) (by omega)]; omega
theorem own_c3 (ln i : Int32) (kk : Nat) (off so : Int32) (hs : off.toInt + ln.toInt ≤ 6) (ho : 0 ≤ off.toInt) (i1 : 0 ≤ i.toInt ∧ i.toInt ≤ ln.toInt) (i2 : (ln.toInt - i.toInt).toNat = kk + 1) (i3 : so.toInt = off.toInt + i.toInt) : (so + (1 : Int32)).toInt = off.toInt + (i + (1 : Int32)).toInt := by rw [own_inc i (by omega) (by omega), own_inc so (by omega) (by omega)]; omega
theorem own_c4 (ln i : Int32) (kk : Nat) (off so : Int32) (f g : Nat → Int32) (hs : off.toInt + ln.toInt ≤ 6) (ho : 0 ≤ off.toInt) (i1 : 0 ≤ i.toInt ∧ i.toInt ≤ ln.toInt) (i2 : (ln.toInt - i.toInt).toNat = kk + 1) (i3 : so.toInt = off.toInt + i.toInt) (i4 : ∀ j : Nat, (j : Int) < i.toInt → g j = (f (off.toNatClampNeg + j)).toInt8.toInt32) :
    ∀ j : Nat, (j : Int) < (i + (1 : Int32)).toInt → (fun z_ => if z_ = i.toNatClampNeg then (nar .byte (f so.toNatClampNeg).toInt8.toInt32) else g z_) j = (f (off.toNatClampNeg + j)).toInt8.toInt32 := by
  intro j hj
  rw [own_inc i (by omega) (by omega)] at hj
  dsimp only
  by_cases q : j = i.toNatClampNeg
  · rw [if_pos q, q, show so.toNatClampNeg = off.toNatClampNeg + i.toNatClampNeg by simp only [Int32.toNatClampNeg]; omega]
    show (f _).toInt8.toInt32.toInt8.toInt32 = _; simp
  · rw [if_neg q]; exact i4 j (by simp only [Int32.toNatClampNeg] at q; omega)
theorem own_c5 (ln i : Int32) (i1 : 0 ≤ i.toInt ∧ i.toInt ≤ ln.toInt) (i2 : (ln.toInt - i.toInt).toNat = 0) : ¬ i < ln := by rw [Int32.lt_iff_toInt_lt]; omega
theorem own_c6 (ln i : Int32) (kk : Nat) (i1 : 0 ≤ i.toInt ∧ i.toInt ≤ ln.toInt) (i2 : (ln.toInt - i.toInt).toNat = kk + 1) : i < ln := by rw [Int32.lt_iff_toInt_lt]; omega
theorem own_c7 (ln i : Int32) (kk : Nat) (off so : Int32) (hs : off.toInt + ln.toInt ≤ 6) (ho : 0 ≤ off.toInt) (i1 : 0 ≤ i.toInt ∧ i.toInt ≤ ln.toInt) (i2 : (ln.toInt - i.toInt).toNat = kk + 1) (i3 : so.toInt = off.toInt + i.toInt) : ¬ so < 0 ∧ so.toNatClampNeg < 6 := own_in _ 6 (by omega) (by omega)
theorem own_c8 (ln i : Int32) (kk : Nat) (i1 : 0 ≤ i.toInt ∧ i.toInt ≤ ln.toInt) (i2 : (ln.toInt - i.toInt).toNat = kk + 1) : ¬ i < 0 ∧ i.toNatClampNeg < ln.toNatClampNeg := ⟨own_nn i i1.1, by simp only [Int32.toNatClampNeg]; omega⟩
theorem own_c9 (ln i : Int32) (j : Nat) (i1 : 0 ≤ i.toInt ∧ i.toInt ≤ ln.toInt) (i2 : (ln.toInt - i.toInt).toNat = 0) (hj : j < ln.toNatClampNeg) : (j : Int) < i.toInt := by simp only [Int32.toNatClampNeg] at hj; omega
theorem own_255 (x : Int32) (h : 0 ≤ x.toInt ∧ x.toInt ≤ 255) : ¬ (255 : Int32) < x := by rw [Int32.lt_iff_toInt_lt, show (255 : Int32).toInt = 255 from rfl]; omega
theorem own_d1 (ln : Int32) (hl : 0 < ln.toInt) : 0 ≤ (1 : Int32).toInt ∧ (1 : Int32).toInt ≤ ln.toInt := by rw [own_one]; omega
theorem own_d2 (off ln : Int32) (ho : 0 ≤ off.toInt) (hl : 0 < ln.toInt) (hs : off.toInt + ln.toInt ≤ 6) : (off + (1 : Int32)).toInt = off.toInt + (1 : Int32).toInt := by rw [own_inc off ho (by omega), own_one]
theorem own_d3 (off ln : Int32) (f : Nat → Int32) (ho : 0 ≤ off.toInt) (hl : 0 < ln.toInt) (hs : off.toInt + ln.toInt ≤ 6) : ∀ j : Nat, (j : Int) < (1 : Int32).toInt → (fun z_ => if z_ = 0 then (nar .byte (f off.toNatClampNeg).toInt8.toInt32) else (fun _ => (0 : Int32)) z_) j = (f (off.toNatClampNeg + j)).toInt8.toInt32 := by
  intro j hj
  rw [own_one] at hj
  obtain rfl : j = 0 := by omega
  show (f off.toNatClampNeg).toInt8.toInt32.toInt8.toInt32 = _; simp
theorem own_d4 (ln : Int32) (hl : 0 < ln.toInt) : (0 : Int32) < ln := by rw [Int32.lt_iff_toInt_lt, own_z]; exact hl
theorem own_d5 (off ln : Int32) (ho : 0 ≤ off.toInt) (hl : 0 < ln.toInt) (hs : off.toInt + ln.toInt ≤ 6) : ¬ off < 0 ∧ off.toNatClampNeg < 6 := own_in _ 6 ho (by omega)
theorem own_d6 (ln : Int32) (hl : 0 < ln.toInt) : (0 : Int32).toNatClampNeg < ln.toNatClampNeg := by show 0 < ln.toInt.toNat; omega
theorem own_d7 (ln : Int32) (hl : 0 < ln.toInt) : ¬ ln < 0 := own_nn ln (by omega)
theorem own_d8 (off ln : Int32) (ho : 0 ≤ off.toInt) (hs : off.toInt + ln.toInt ≤ 6) : ln.toNatClampNeg ≤ 6 := by simp only [Int32.toNatClampNeg]; omega
theorem own_pos (ln : Int32) (hl : 0 ≤ ln.toInt) (h : ¬ ln = (0 : Int32)) : 0 < ln.toInt := by rw [← Int32.toInt_inj, own_z] at h; omega
theorem own_cfz (ln : Int32) : nar .byte (((ln - ln).toUInt32 >>> ((31 : Int32) &&& 31).toUInt32).toInt32.toInt8.toInt32) = (0 : Int32) := by
  rw [Int32.sub_self]; decide
theorem own_shr0 (ln : Int32) : (ln >>> ((0 : Int32) &&& 31)) = ln := by
  rw [← Int32.toInt_inj, c_ishr ln 0 0 (by decide)]; simp
theorem own_sub (off ln : Int32) : ((off + ln) - off) = ln := by rw [Int32.add_comm, Int32.add_sub_cancel]
/-! charAt -/
def own_ch (x : Int32) : Int32 := nar .char (x &&& (255 : Int32)).toUInt32.toUInt16.toUInt32.toInt32
theorem own_chd (x : Int32) : own_ch x = nar .char (x &&& (255 : Int32)).toUInt32.toUInt16.toUInt32.toInt32 := by rw [own_ch]
theorem own_nch (x : Int32) : ((nar .char x).toInt - x.toInt) % 65536 = 0 ∧ 0 ≤ (nar .char x).toInt ∧ (nar .char x).toInt < 65536 := c_i2c x
theorem own_j3 (x : Int32) (h : 0 ≤ x.toInt ∧ x.toInt ≤ 255) : nar .char x = x := by
  rw [← Int32.toInt_inj]; have := own_nch x; omega
theorem own_chb (x : Int32) (h : 0 ≤ x.toInt ∧ x.toInt ≤ 255) : own_ch x.toInt8.toInt32 = x := by
  have a := c_i2b x
  have m := c_mask x.toInt8.toInt32 255 8 (by decide) (by decide)
  have b := c_i2c (x.toInt8.toInt32 &&& (255 : Int32))
  have c := own_nch (x.toInt8.toInt32 &&& (255 : Int32)).toUInt32.toUInt16.toUInt32.toInt32
  rw [← Int32.toInt_inj, own_chd]
  generalize (nar .char (x.toInt8.toInt32 &&& (255 : Int32)).toUInt32.toUInt16.toUInt32.toInt32).toInt = u at *
  generalize (x.toInt8.toInt32 &&& (255 : Int32)).toUInt32.toUInt16.toUInt32.toInt32.toInt = v at *
  omega
theorem own_kl (k : Int32) (ln : Int32) (h : k < ln) : k.toInt < ln.toInt := by rw [Int32.lt_iff_toInt_lt] at h; exact h
theorem own_j1 (ln k : Int32) (hk : 0 ≤ k.toInt) (h : k < ln) : 0 ≤ k.toInt ∧ k.toInt < ln.toInt := ⟨hk, own_kl k ln h⟩
theorem own_j4 (off ln k : Int32) (ho : 0 ≤ off.toInt) (hl : 0 ≤ ln.toInt) (hs : off.toInt + ln.toInt ≤ 6) (h : k < ln) (hk : 0 ≤ k.toInt) : ¬ (off + k) < 0 ∧ (off + k).toNatClampNeg < 6 := by
  have a := own_kl k ln h
  have e : (off + k).toInt = off.toInt + k.toInt := by have a := c_iadd off k; have := rng32 (off + k); omega
  exact own_in _ 6 (by omega) (by omega)
theorem own_j2 (off ln k : Int32) (f g : Nat → Int32) (ho : 0 ≤ off.toInt) (hl : 0 ≤ ln.toInt) (hs : off.toInt + ln.toInt ≤ 6) (h : k < ln) (hf : ∀ i, i < 6 → 0 ≤ (f i).toInt ∧ (f i).toInt ≤ 255) (hg : ∀ i, i < ln.toNatClampNeg → g i = (f (off.toNatClampNeg + i)).toInt8.toInt32) (hk : 0 ≤ k.toInt) : own_ch (g k.toNatClampNeg) = f (off + k).toNatClampNeg := by
  have a := own_kl k ln h
  have e : (off + k).toInt = off.toInt + k.toInt := by have a := c_iadd off k; have := rng32 (off + k); omega
  have e2 : (off + k).toNatClampNeg = off.toNatClampNeg + k.toNatClampNeg := by simp only [Int32.toNatClampNeg]; omega
  rw [hg k.toNatClampNeg (by simp only [Int32.toNatClampNeg]; omega), e2]
  refine own_chb _ (hf _ ?_)
  simp only [Int32.toNatClampNeg]; omega
/-! the law's chars -/
theorem own_chr (x : Int64) : 0 ≤ (nar .char (x &&& (255 : Int64)).toInt32.toUInt32.toUInt16.toUInt32.toInt32).toInt ∧ (nar .char (x &&& (255 : Int64)).toInt32.toUInt32.toUInt16.toUInt32.toInt32).toInt ≤ 255 := by
  have m := c_maskL x 255 8 (by decide) (by decide)
  have l := Int.emod_nonneg x.toInt (show ((2 ^ 8 : Nat) : Int) ≠ 0 by decide)
  have l2 := Int.emod_lt_of_pos x.toInt (show (0 : Int) < ((2 ^ 8 : Nat) : Int) by decide)
  have a := c_l2i (x &&& (255 : Int64))
  have r := rng32 (x &&& (255 : Int64)).toInt32
  have b := c_i2c (x &&& (255 : Int64)).toInt32
  have c := own_nch (x &&& (255 : Int64)).toInt32.toUInt32.toUInt16.toUInt32.toInt32
  generalize (nar .char (x &&& (255 : Int64)).toInt32.toUInt32.toUInt16.toUInt32.toInt32).toInt = u at *
  generalize (x &&& (255 : Int64)).toInt32.toUInt32.toUInt16.toUInt32.toInt32.toInt = v at *
  generalize (x &&& (255 : Int64)).toInt32.toInt = w at *
  omega
theorem own_rng6 (v0 v1 v2 v3 v4 v5 : Int32) (h0 : 0 ≤ v0.toInt ∧ v0.toInt ≤ 255) (h1 : 0 ≤ v1.toInt ∧ v1.toInt ≤ 255) (h2 : 0 ≤ v2.toInt ∧ v2.toInt ≤ 255) (h3 : 0 ≤ v3.toInt ∧ v3.toInt ≤ 255) (h4 : 0 ≤ v4.toInt ∧ v4.toInt ≤ 255) (h5 : 0 ≤ v5.toInt ∧ v5.toInt ≤ 255) :
    ∀ i, i < 6 → 0 ≤ ((fun z_ => if z_ = 5 then v5 else (fun z_ => if z_ = 4 then v4 else (fun z_ => if z_ = 3 then v3 else (fun z_ => if z_ = 2 then v2 else (fun z_ => if z_ = 1 then v1 else (fun z_ => if z_ = 0 then v0 else (fun _ => (0 : Int32)) z_) z_) z_) z_) z_) z_) i).toInt ∧ ((fun z_ => if z_ = 5 then v5 else (fun z_ => if z_ = 4 then v4 else (fun z_ => if z_ = 3 then v3 else (fun z_ => if z_ = 2 then v2 else (fun z_ => if z_ = 1 then v1 else (fun z_ => if z_ = 0 then v0 else (fun _ => (0 : Int32)) z_) z_) z_) z_) z_) z_) i).toInt ≤ 255 := by
  intro i hi
  have : i = 0 ∨ i = 1 ∨ i = 2 ∨ i = 3 ∨ i = 4 ∨ i = 5 := by omega
  rcases this with rfl | rfl | rfl | rfl | rfl | rfl
  · exact h0
  · exact h1
  · exact h2
  · exact h3
  · exact h4
  · exact h5
theorem own_of7 (q : Int32) : 0 ≤ ((q &&& (2147483647 : Int32)) % (7 : Int32)).toInt ∧ ((q &&& (2147483647 : Int32)) % (7 : Int32)).toInt ≤ 6 := by
  have e := c_mask q 2147483647 31 (by decide) (by decide)
  have z := (c_irem (q &&& (2147483647 : Int32)) (7 : Int32) 7 rfl).1 (by rw [e]; exact Int.emod_nonneg _ (by decide))
  have l1 := Int.emod_nonneg (q &&& (2147483647 : Int32)).toInt (show (7 : Int) ≠ 0 by decide)
  have l2 := Int.emod_lt_of_pos (q &&& (2147483647 : Int32)).toInt (show (0 : Int) < 7 by decide)
  rw [z]; omega
theorem own_sev (o : Int32) (h : 0 ≤ o.toInt ∧ o.toInt ≤ 6) : ((7 : Int32) - o).toInt = 7 - o.toInt := by
  have a := c_isub 7 o; rw [show (7 : Int32).toInt = 7 from rfl] at a; have := rng32 (7 - o); omega
theorem own_nz7 (o : Int32) (h : 0 ≤ o.toInt ∧ o.toInt ≤ 6) : ((7 : Int32) - o) ≠ 0 := fun e => by
  have := own_sev o h; rw [e, own_z] at this; omega
theorem own_ln7 (q o : Int32) (h : 0 ≤ o.toInt ∧ o.toInt ≤ 6) : 0 ≤ ((q &&& (2147483647 : Int32)) % ((7 : Int32) - o)).toInt ∧ o.toInt + ((q &&& (2147483647 : Int32)) % ((7 : Int32) - o)).toInt ≤ 6 := by
  have e := own_sev o h
  have m := c_mask q 2147483647 31 (by decide) (by decide)
  have l := Int.emod_nonneg q.toInt (show ((2 ^ 31 : Nat) : Int) ≠ 0 by decide)
  have d := (c_iremV (q &&& (2147483647 : Int32)) ((7 : Int32) - o)).1 (by rw [m]; exact l) (by omega)
  omega
theorem own_ws {Z : State} {a0 : Array Value} (hw : ∀ d ∈ tables_1, d.before a0 Z = true) : ∀ a ∈ Bundle.stringAtoms, a.before a0 Z = true := by
  intro d hd
  simp only [Bundle.stringAtoms, List.mem_cons, List.not_mem_nil, or_false] at hd
  rcases hd with rfl | rfl | rfl | rfl | rfl | rfl | rfl
  · exact (hw _ (List.mem_of_getElem? (i := 58) rfl))
  · exact (hw _ (List.mem_of_getElem? (i := 57) rfl))
  · exact (hw _ (List.mem_of_getElem? (i := 83) rfl))
  · exact (hw _ (List.mem_of_getElem? (i := 93) rfl))
  · exact (hw _ (List.mem_of_getElem? (i := 91) rfl))
  · exact (hw _ (List.mem_of_getElem? (i := 128) rfl))
  · exact (hw _ (List.mem_of_getElem? (i := 129) rfl))
theorem own_d_ini_0 : decode prog_3_method_1_code 0 = .ok (.aload_n 0, 1) := by decide +kernel
theorem own_d_ini_1 : decode prog_3_method_1_code 1 = .ok (.invokespecial 3, 3) := by decide +kernel
theorem own_d_ini_4 : decode prog_3_method_1_code 4 = .ok (.return_, 1) := by decide +kernel
theorem own_pn_com_example_enumconv_enumconv_core_Decimal_Reading : plainName "com/example/enumconv/enumconv/core/Decimal$Reading" = true := by first | (simp [plainName, overriddenIn]; done) | decide +kernel
theorem own_ef_ini (m : MethodId) (a : Addr) : entryFrame m #[(.ref a)] 1 = mkF m 0 #[.val (.ref a)] [] := by first | (simp [entryFrame, mkF, argsToLocals, Value.category]; done) | rfl
def own_Q_ini (Z : State) (a : Addr) (h0 : Heap) (n0 : Nat) (v : Option Value) (h : Heap) (L : List Loc) : Prop := v = none ∧ Fr n0 L ∧ h = h0
set_option maxRecDepth 65536 in
set_option maxHeartbeats 40000000 in
theorem own_rm_ini (l : Launch) (Z : State) (a0 : Array Value) (hw : ∀ d ∈ tables_1, d.before a0 Z = true) (ws : List Jvm.Cond) (a : Addr) (h0 : Heap) (n0 : Nat) (Z0 : n0 ≤ h0.size) :
    MetFree l (⟨"com/example/enumconv/enumconv/core/Decimal$Reading", "<init>", "()V"⟩ : MethodName) (head1 (Jvm.Cond.code (⟨"com/example/enumconv/enumconv/core/Decimal$Reading", "<init>", "()V"⟩ : MethodName) prog_3_method_1_code 1 none :: ws) ({ frames := 1, cells := 0, slots := 0, locals := 12 } : Room)) (fun a_ U_ => a_ = #[(.ref a)] ∧ Z.Warmed39 U_.vm ∧ U_.heap = h0) (fun _ _ _ _ _ => True) (fun _ U_ o_ U'_ => ∃ v_ L_, o_ = .returned v_ ∧ own_Q_ini Z a h0 n0 v_ U'_.heap L_ ∧ FrameEnd U_ o_ U'_ L_ ({ frames := 1, cells := 0, slots := 0, locals := 12 } : Room).cells ({ frames := 1, cells := 0, slots := 0, locals := 12 } : Room).slots) := by
  refine MetFree.of_bodySF (plainFor_of_name own_pn_com_example_enumconv_enumconv_core_Decimal_Reading) hisR ?_
  intro p e s m args below meth c s₁ Bd hml0 hP hK
  obtain ⟨rfl, hZ, hh⟩ := hP
  have hx := Bd.exec
  have hby := Bd.bytes
  have hlk : meth.locks = false := BodyLoose.notSynchronized Bd
  have hml : c.maxLocals = 1 := hml0
  have hown : s.vm.findClass "com/example/enumconv/enumconv/core/Decimal$Reading" = some m.cls := findClass_of_methodNamed Bd.named
  have hnm := (name_of_methodNamed Bd.named Bd.method).1
  have X0 : Stand p l e ({ frames := 1, cells := 0, slots := 0, locals := 12 } : Room) s m #[(.ref a)] below meth c s₁ [] 0 0 := Stand.of_body Bd
  have e0 : s₁.heap = h0 := by rw [← hh, Bd.state]; rfl
  have N0 := Fr.nil n0
  show own_Goes p e below (own_K (own_Q_ini Z a h0 n0) s ({ frames := 1, cells := 0, slots := 0, locals := 12 } : Room).cells ({ frames := 1, cells := 0, slots := 0, locals := 12 } : Room).slots) s₁ (entryFrame m #[(.ref a)] 1)
  rw [own_ef_ini]
  refine own_by (T' := s₁) (g' := (mkF m 1 #[.val (.ref a)] [(.ref a)])) (fun t_ k_ => XS.aloadN X0.here hx rfl (hb hby own_d_ini_0) rfl rfl k_) ?_
  obtain ⟨T1, X1, e1, st1⟩ := initO X0 hx hZ hown (hw _ (List.mem_of_getElem? (i := 13) rfl)) (hw _ (List.mem_of_getElem? (i := 14) rfl)) (hw _ (List.mem_of_getElem? (i := 15) rfl)) e0 (g := (mkF m 1 #[.val (.ref a)] [(.ref a)])) rfl (by rw [hml]; rfl) rfl (hb hby own_d_ini_1) (by decide) (W := 0) (by show 2 * 0 + _ ≤ _; exact Nat.le_of_eq rfl) (by decide)
  refine own_by (T' := T1) (g' := (mkF m 4 #[.val (.ref a)] [])) st1 ?_
  refine own_ret0 X1 hx Bd.returns hlk (hb hby own_d_ini_4) (by decide) (by decide) ?_
  rw [e1]
  exact ⟨rfl, N0, rfl⟩
theorem own_d_mi_0 : decode jdk_29_method_69_code 0 = .ok (.iload_n 0, 1) := by decide +kernel
theorem own_d_mi_1 : decode jdk_29_method_69_code 1 = .ok (.iload_n 1, 1) := by decide +kernel
theorem own_d_mi_2 : decode jdk_29_method_69_code 2 = .ok (.if_icmp .gt 7, 3) := by decide +kernel
theorem own_d_mi_5 : decode jdk_29_method_69_code 5 = .ok (.iload_n 0, 1) := by decide +kernel
theorem own_d_mi_6 : decode jdk_29_method_69_code 6 = .ok (.goto 4, 3) := by decide +kernel
theorem own_d_mi_9 : decode jdk_29_method_69_code 9 = .ok (.iload_n 1, 1) := by decide +kernel
theorem own_d_mi_10 : decode jdk_29_method_69_code 10 = .ok (.ireturn, 1) := by decide +kernel
theorem own_ef_mi (m : MethodId) (xa : Int32) (xb : Int32) : entryFrame m #[(.int xa), (.int xb)] 2 = mkF m 0 #[.val (.int xa), .val (.int xb)] [] := by first | (simp [entryFrame, mkF, argsToLocals, Value.category]; done) | rfl
def own_Q_mi (Z : State) (xa : Int32) (xb : Int32) (h0 : Heap) (n0 : Nat) (v : Option Value) (h : Heap) (L : List Loc) : Prop := v = some (.int (if xb < xa then xb else xa)) ∧ Fr n0 L ∧ h = h0
set_option maxRecDepth 65536 in
set_option maxHeartbeats 40000000 in
theorem own_rm_mi (l : Launch) (Z : State) (a0 : Array Value) (hw : ∀ d ∈ tables_1, d.before a0 Z = true) (ws : List Jvm.Cond) (xa : Int32) (xb : Int32) (h0 : Heap) (n0 : Nat) (Z0 : n0 ≤ h0.size) :
    MetFree l (⟨"java/lang/Math", "min", "(II)I"⟩ : MethodName) (head1 (Jvm.Cond.code (⟨"java/lang/Math", "min", "(II)I"⟩ : MethodName) jdk_29_method_69_code 2 (some .int) :: ws) ({ frames := 0, cells := 0, slots := 0, locals := 0 } : Room)) (fun a_ U_ => a_ = #[(.int xa), (.int xb)] ∧ Z.Warmed39 U_.vm ∧ U_.heap = h0) (fun _ _ _ _ _ => True) (fun _ U_ o_ U'_ => ∃ v_ L_, o_ = .returned v_ ∧ own_Q_mi Z xa xb h0 n0 v_ U'_.heap L_ ∧ FrameEnd U_ o_ U'_ L_ ({ frames := 0, cells := 0, slots := 0, locals := 0 } : Room).cells ({ frames := 0, cells := 0, slots := 0, locals := 0 } : Room).slots) := by
  refine MetFree.of_bodySF (Jvm.Free.JP.mathPlain rfl (by decide +kernel)) hisR ?_
  intro p e s m args below meth c s₁ Bd hml0 hP hK
  obtain ⟨rfl, hZ, hh⟩ := hP
  have hx := Bd.exec
  have hby := Bd.bytes
  have hlk : meth.locks = false := BodyLoose.notSynchronized Bd
  have hml : c.maxLocals = 2 := hml0
  have hown : s.vm.findClass "java/lang/Math" = some m.cls := findClass_of_methodNamed Bd.named
  have hnm := (name_of_methodNamed Bd.named Bd.method).1
  have X0 : Stand p l e ({ frames := 0, cells := 0, slots := 0, locals := 0 } : Room) s m #[(.int xa), (.int xb)] below meth c s₁ [] 0 0 := Stand.of_body Bd
  have e0 : s₁.heap = h0 := by rw [← hh, Bd.state]; rfl
  have N0 := Fr.nil n0
  show own_Goes p e below (own_K (own_Q_mi Z xa xb h0 n0) s ({ frames := 0, cells := 0, slots := 0, locals := 0 } : Room).cells ({ frames := 0, cells := 0, slots := 0, locals := 0 } : Room).slots) s₁ (entryFrame m #[(.int xa), (.int xb)] 2)
  rw [own_ef_mi]
  refine own_by (T' := s₁) (g' := (mkF m 1 #[.val (.int xa), .val (.int xb)] [(.int xa)])) (fun t_ k_ => XS.iloadN X0.here hx rfl (hb hby own_d_mi_0) rfl k_) ?_
  refine own_by (T' := s₁) (g' := (mkF m 2 #[.val (.int xa), .val (.int xb)] [(.int xb), (.int xa)])) (fun t_ k_ => XS.iloadN X0.here hx rfl (hb hby own_d_mi_1) rfl k_) ?_
  by_cases c2_1 : xb < xa
  · skip
    refine own_by (T' := s₁) (g' := (mkF m 9 #[.val (.int xa), .val (.int xb)] [])) (fun t_ k_ => XS.icmpYes X0.here hx rfl (pc0 := 2) (pc' := 9) rfl (hb hby own_d_mi_2) rfl (tlt (c2_1 : xb < xa)).2.2.1 (by decide) (by decide) k_) ?_
    refine own_by (T' := s₁) (g' := (mkF m 10 #[.val (.int xa), .val (.int xb)] [(.int xb)])) (fun t_ k_ => XS.iloadN X0.here hx rfl (hb hby own_d_mi_9) rfl k_) ?_
    refine own_retI X0 hx Bd.returns hlk (hb hby own_d_mi_10) (by decide) (by decide) ?_
    rw [e0]
    exact ⟨by simp [c2_1], N0, rfl⟩
  · skip
    refine own_by (T' := s₁) (g' := (mkF m 5 #[.val (.int xa), .val (.int xb)] [])) (fun t_ k_ => XS.icmpNo X0.here hx rfl (hb hby own_d_mi_2) rfl (flt (c2_1 : ¬ (xb < xa))).2.2.1 k_) ?_
    refine own_by (T' := s₁) (g' := (mkF m 6 #[.val (.int xa), .val (.int xb)] [(.int xa)])) (fun t_ k_ => XS.iloadN X0.here hx rfl (hb hby own_d_mi_5) rfl k_) ?_
    refine own_by (T' := s₁) (g' := (mkF m 10 #[.val (.int xa), .val (.int xb)] [(.int xa)])) (fun t_ k_ => XS.goto X0.here hx rfl (pc0 := 6) (pc' := 10) rfl (hb hby own_d_mi_6) (by decide) (by decide) k_) ?_
    refine own_retI X0 hx Bd.returns hlk (hb hby own_d_mi_10) (by decide) (by decide) ?_
    rw [e0]
    exact ⟨by simp [c2_1], N0, rfl⟩
theorem own_d_dgt_0 : decode prog_3_method_10_code 0 = .ok (.aload_n 0, 1) := by decide +kernel
theorem own_d_dgt_1 : decode prog_3_method_10_code 1 = .ok (.getfield 41, 3) := by decide +kernel
theorem own_d_dgt_4 : decode prog_3_method_10_code 4 = .ok (.iload_n 1, 1) := by decide +kernel
theorem own_d_dgt_5 : decode prog_3_method_10_code 5 = .ok (.iadd, 1) := by decide +kernel
theorem own_d_dgt_6 : decode prog_3_method_10_code 6 = .ok (.istore_n 2, 1) := by decide +kernel
theorem own_d_dgt_7 : decode prog_3_method_10_code 7 = .ok (.aload_n 0, 1) := by decide +kernel
theorem own_d_dgt_8 : decode prog_3_method_10_code 8 = .ok (.getfield 26, 3) := by decide +kernel
theorem own_d_dgt_11 : decode prog_3_method_10_code 11 = .ok (.aload_n 0, 1) := by decide +kernel
theorem own_d_dgt_12 : decode prog_3_method_10_code 12 = .ok (.getfield 47, 3) := by decide +kernel
theorem own_d_dgt_15 : decode prog_3_method_10_code 15 = .ok (.ifCond .lt 17, 3) := by decide +kernel
theorem own_d_dgt_18 : decode prog_3_method_10_code 18 = .ok (.iload_n 2, 1) := by decide +kernel
theorem own_d_dgt_19 : decode prog_3_method_10_code 19 = .ok (.aload_n 0, 1) := by decide +kernel
theorem own_d_dgt_20 : decode prog_3_method_10_code 20 = .ok (.getfield 47, 3) := by decide +kernel
theorem own_d_dgt_23 : decode prog_3_method_10_code 23 = .ok (.if_icmp .lt 9, 3) := by decide +kernel
theorem own_d_dgt_26 : decode prog_3_method_10_code 26 = .ok (.iload_n 2, 1) := by decide +kernel
theorem own_d_dgt_27 : decode prog_3_method_10_code 27 = .ok (.iconst 1, 1) := by decide +kernel
theorem own_d_dgt_28 : decode prog_3_method_10_code 28 = .ok (.iadd, 1) := by decide +kernel
theorem own_d_dgt_29 : decode prog_3_method_10_code 29 = .ok (.goto 4, 3) := by decide +kernel
theorem own_d_dgt_32 : decode prog_3_method_10_code 32 = .ok (.iload_n 2, 1) := by decide +kernel
theorem own_d_dgt_33 : decode prog_3_method_10_code 33 = .ok (.caload, 1) := by decide +kernel
theorem own_d_dgt_34 : decode prog_3_method_10_code 34 = .ok (.ireturn, 1) := by decide +kernel
theorem own_ef_dgt (m : MethodId) (a : Addr) (i : Int32) : entryFrame m #[(.ref a), (.int i)] 3 = mkF m 0 #[.val (.ref a), .val (.int i), .unset] [] := by first | (simp [entryFrame, mkF, argsToLocals, Value.category]; done) | rfl
def own_Q_dgt (Z : State) (a : Addr) (i : Int32) (dg : Int32) (tx : Addr) (pt : Int32) (f : Nat → Int32) (h0 : Heap) (n0 : Nat) (v : Option Value) (h : Heap) (L : List Loc) : Prop := ∃ d, v = some (.int d) ∧ Fr n0 L ∧ h = h0
set_option maxRecDepth 65536 in
set_option maxHeartbeats 40000000 in
theorem own_rm_dgt (l : Launch) (Z : State) (a0 : Array Value) (hw : ∀ d ∈ tables_1, d.before a0 Z = true) (ws : List Jvm.Cond) (a : Addr) (i : Int32) (dg : Int32) (tx : Addr) (pt : Int32) (f : Nat → Int32) (h0 : Heap) (n0 : Nat) (Z0 : n0 ≤ h0.size) (F1 : Fld Z h0 a "com/example/enumconv/enumconv/core/Decimal$Reading" "digitsAt" "I" (.int dg)) (F2 : Fld Z h0 a "com/example/enumconv/enumconv/core/Decimal$Reading" "text" "[C" (.ref tx)) (F3 : Fld Z h0 a "com/example/enumconv/enumconv/core/Decimal$Reading" "point" "I" (.int pt)) (V0 : own_Ia Z h0 tx .char 6 f) (b1 : 0 ≤ dg.toInt ∧ 0 ≤ i.toInt ∧ dg.toInt + i.toInt < 6) (b2 : 0 ≤ pt.toInt → dg.toInt + i.toInt + 1 < 6) :
    MetFree l (⟨"com/example/enumconv/enumconv/core/Decimal$Reading", "digit", "(I)C"⟩ : MethodName) (head1 (Jvm.Cond.code (⟨"com/example/enumconv/enumconv/core/Decimal$Reading", "digit", "(I)C"⟩ : MethodName) prog_3_method_10_code 3 (some .char) :: ws) ({ frames := 0, cells := 0, slots := 0, locals := 0 } : Room)) (fun a_ U_ => a_ = #[(.ref a), (.int i)] ∧ Z.Warmed39 U_.vm ∧ U_.heap = h0) (fun _ _ _ _ _ => True) (fun _ U_ o_ U'_ => ∃ v_ L_, o_ = .returned v_ ∧ own_Q_dgt Z a i dg tx pt f h0 n0 v_ U'_.heap L_ ∧ FrameEnd U_ o_ U'_ L_ ({ frames := 0, cells := 0, slots := 0, locals := 0 } : Room).cells ({ frames := 0, cells := 0, slots := 0, locals := 0 } : Room).slots) := by
  refine MetFree.of_bodySF (plainFor_of_name own_pn_com_example_enumconv_enumconv_core_Decimal_Reading) hisR ?_
  intro p e s m args below meth c s₁ Bd hml0 hP hK
  obtain ⟨rfl, hZ, hh⟩ := hP
  have hx := Bd.exec
  have hby := Bd.bytes
  have hlk : meth.locks = false := BodyLoose.notSynchronized Bd
  have hml : c.maxLocals = 3 := hml0
  have hown : s.vm.findClass "com/example/enumconv/enumconv/core/Decimal$Reading" = some m.cls := findClass_of_methodNamed Bd.named
  have hnm := (name_of_methodNamed Bd.named Bd.method).1
  have X0 : Stand p l e ({ frames := 0, cells := 0, slots := 0, locals := 0 } : Room) s m #[(.ref a), (.int i)] below meth c s₁ [] 0 0 := Stand.of_body Bd
  have e0 : s₁.heap = h0 := by rw [← hh, Bd.state]; rfl
  have N0 := Fr.nil n0
  show own_Goes p e below (own_K (own_Q_dgt Z a i dg tx pt f h0 n0) s ({ frames := 0, cells := 0, slots := 0, locals := 0 } : Room).cells ({ frames := 0, cells := 0, slots := 0, locals := 0 } : Room).slots) s₁ (entryFrame m #[(.ref a), (.int i)] 3)
  rw [own_ef_dgt]
  refine own_by (T' := s₁) (g' := (mkF m 1 #[.val (.ref a), .val (.int i), .unset] [(.ref a)])) (fun t_ k_ => XS.aloadN X0.here hx rfl (hb hby own_d_dgt_0) rfl rfl k_) ?_
  obtain ⟨T1, X1, e1, st1⟩ := getF X0 hx hZ hown (host := "") (Or.inl (hw _ (List.mem_of_getElem? (i := 29) rfl))) Via.refl e0 F1 (g := (mkF m 1 #[.val (.ref a), .val (.int i), .unset] [(.ref a)])) rfl rfl (hb hby own_d_dgt_1)
  refine own_by (T' := T1) (g' := (mkF m 4 #[.val (.ref a), .val (.int i), .unset] [(.int dg)])) st1 ?_
  refine own_by (T' := T1) (g' := (mkF m 5 #[.val (.ref a), .val (.int i), .unset] [(.int i), (.int dg)])) (fun t_ k_ => XS.iloadN X1.here hx rfl (hb hby own_d_dgt_4) rfl k_) ?_
  refine own_by (T' := T1) (g' := (mkF m 6 #[.val (.ref a), .val (.int i), .unset] [(.int (dg + i))])) (fun t_ k_ => XS.iadd X1.here hx rfl (hb hby own_d_dgt_5) rfl k_) ?_
  refine own_by (T' := T1) (g' := (mkF m 7 #[.val (.ref a), .val (.int i), .val (.int (dg + i))] [])) (fun t_ k_ => XS.istoreN X1.here hx rfl (hb hby own_d_dgt_6) rfl (l' := #[.val (.ref a), .val (.int i), .val (.int (dg + i))]) rfl k_) ?_
  refine own_by (T' := T1) (g' := (mkF m 8 #[.val (.ref a), .val (.int i), .val (.int (dg + i))] [(.ref a)])) (fun t_ k_ => XS.aloadN X1.here hx rfl (hb hby own_d_dgt_7) rfl rfl k_) ?_
  obtain ⟨T2, X2, e2, st2⟩ := getF X1 hx hZ hown (host := "") (Or.inl (hw _ (List.mem_of_getElem? (i := 21) rfl))) Via.refl e1 F2 (g := (mkF m 8 #[.val (.ref a), .val (.int i), .val (.int (dg + i))] [(.ref a)])) rfl rfl (hb hby own_d_dgt_8)
  refine own_by (T' := T2) (g' := (mkF m 11 #[.val (.ref a), .val (.int i), .val (.int (dg + i))] [(.ref tx)])) st2 ?_
  refine own_by (T' := T2) (g' := (mkF m 12 #[.val (.ref a), .val (.int i), .val (.int (dg + i))] [(.ref a), (.ref tx)])) (fun t_ k_ => XS.aloadN X2.here hx rfl (hb hby own_d_dgt_11) rfl rfl k_) ?_
  obtain ⟨T3, X3, e3, st3⟩ := getF X2 hx hZ hown (host := "") (Or.inl (hw _ (List.mem_of_getElem? (i := 33) rfl))) Via.refl e2 F3 (g := (mkF m 12 #[.val (.ref a), .val (.int i), .val (.int (dg + i))] [(.ref a), (.ref tx)])) rfl rfl (hb hby own_d_dgt_12)
  refine own_by (T' := T3) (g' := (mkF m 15 #[.val (.ref a), .val (.int i), .val (.int (dg + i))] [(.int pt), (.ref tx)])) st3 ?_
  by_cases c15_4 : pt < (0 : Int32)
  · skip
    refine own_by (T' := T3) (g' := (mkF m 32 #[.val (.ref a), .val (.int i), .val (.int (dg + i))] [(.ref tx)])) (fun t_ k_ => XS.ifYes X3.here hx rfl (pc0 := 15) (pc' := 32) rfl (hb hby own_d_dgt_15) rfl ((if0 _ _).trans (tlt (c15_4 : pt < (0 : Int32))).1) (by decide) (by decide) k_) ?_
    refine own_by (T' := T3) (g' := (mkF m 33 #[.val (.ref a), .val (.int i), .val (.int (dg + i))] [(.int (dg + i)), (.ref tx)])) (fun t_ k_ => XS.iloadN X3.here hx rfl (hb hby own_d_dgt_32) rfl k_) ?_
    refine own_by (T' := T3) (g' := (mkF m 34 #[.val (.ref a), .val (.int i), .val (.int (dg + i))] [(.int (f (dg + i).toNatClampNeg))])) (fun t_ k_ => own_cal X3 hx hZ e3 V0 (j := (dg + i)) (own_dx dg i 6 b1 (by omega)).1 (own_dx dg i 6 b1 (by omega)).2 (g := (mkF m 33 #[.val (.ref a), .val (.int i), .val (.int (dg + i))] [(.int (dg + i)), (.ref tx)])) rfl rfl (hb hby own_d_dgt_33) _ k_) ?_
    refine own_retN X3 hx (t := .char) Bd.returns hlk (by simp) (hb hby own_d_dgt_34) (by decide) (by decide) (v := (nar .char (f (dg + i).toNatClampNeg))) rfl ?_
    rw [e3]
    exact ⟨_, rfl, N0, rfl⟩
  · skip
    refine own_by (T' := T3) (g' := (mkF m 18 #[.val (.ref a), .val (.int i), .val (.int (dg + i))] [(.ref tx)])) (fun t_ k_ => XS.ifNo X3.here hx rfl (hb hby own_d_dgt_15) rfl ((if0 _ _).trans (flt (c15_4 : ¬ (pt < (0 : Int32)))).1) k_) ?_
    refine own_by (T' := T3) (g' := (mkF m 19 #[.val (.ref a), .val (.int i), .val (.int (dg + i))] [(.int (dg + i)), (.ref tx)])) (fun t_ k_ => XS.iloadN X3.here hx rfl (hb hby own_d_dgt_18) rfl k_) ?_
    refine own_by (T' := T3) (g' := (mkF m 20 #[.val (.ref a), .val (.int i), .val (.int (dg + i))] [(.ref a), (.int (dg + i)), (.ref tx)])) (fun t_ k_ => XS.aloadN X3.here hx rfl (hb hby own_d_dgt_19) rfl rfl k_) ?_
    obtain ⟨T5, X5, e5, st5⟩ := getF X3 hx hZ hown (host := "") (Or.inl (hw _ (List.mem_of_getElem? (i := 33) rfl))) Via.refl e3 F3 (g := (mkF m 20 #[.val (.ref a), .val (.int i), .val (.int (dg + i))] [(.ref a), (.int (dg + i)), (.ref tx)])) rfl rfl (hb hby own_d_dgt_20)
    refine own_by (T' := T5) (g' := (mkF m 23 #[.val (.ref a), .val (.int i), .val (.int (dg + i))] [(.int pt), (.int (dg + i)), (.ref tx)])) st5 ?_
    by_cases c23_6 : (dg + i) < pt
    · skip
      refine own_by (T' := T5) (g' := (mkF m 32 #[.val (.ref a), .val (.int i), .val (.int (dg + i))] [(.ref tx)])) (fun t_ k_ => XS.icmpYes X5.here hx rfl (pc0 := 23) (pc' := 32) rfl (hb hby own_d_dgt_23) rfl (tlt (c23_6 : (dg + i) < pt)).1 (by decide) (by decide) k_) ?_
      refine own_by (T' := T5) (g' := (mkF m 33 #[.val (.ref a), .val (.int i), .val (.int (dg + i))] [(.int (dg + i)), (.ref tx)])) (fun t_ k_ => XS.iloadN X5.here hx rfl (hb hby own_d_dgt_32) rfl k_) ?_
      refine own_by (T' := T5) (g' := (mkF m 34 #[.val (.ref a), .val (.int i), .val (.int (dg + i))] [(.int (f (dg + i).toNatClampNeg))])) (fun t_ k_ => own_cal X5 hx hZ e5 V0 (j := (dg + i)) (own_dx dg i 6 b1 (by omega)).1 (own_dx dg i 6 b1 (by omega)).2 (g := (mkF m 33 #[.val (.ref a), .val (.int i), .val (.int (dg + i))] [(.int (dg + i)), (.ref tx)])) rfl rfl (hb hby own_d_dgt_33) _ k_) ?_
      refine own_retN X5 hx (t := .char) Bd.returns hlk (by simp) (hb hby own_d_dgt_34) (by decide) (by decide) (v := (nar .char (f (dg + i).toNatClampNeg))) rfl ?_
      rw [e5]
      exact ⟨_, rfl, N0, rfl⟩
    · skip
      refine own_by (T' := T5) (g' := (mkF m 26 #[.val (.ref a), .val (.int i), .val (.int (dg + i))] [(.ref tx)])) (fun t_ k_ => XS.icmpNo X5.here hx rfl (hb hby own_d_dgt_23) rfl (flt (c23_6 : ¬ ((dg + i) < pt))).1 k_) ?_
      refine own_by (T' := T5) (g' := (mkF m 27 #[.val (.ref a), .val (.int i), .val (.int (dg + i))] [(.int (dg + i)), (.ref tx)])) (fun t_ k_ => XS.iloadN X5.here hx rfl (hb hby own_d_dgt_26) rfl k_) ?_
      refine own_by (T' := T5) (g' := (mkF m 28 #[.val (.ref a), .val (.int i), .val (.int (dg + i))] [(.int (1 : Int32)), (.int (dg + i)), (.ref tx)])) (fun t_ k_ => XS.iconst X5.here hx rfl (hb hby own_d_dgt_27) k_) ?_
      refine own_by (T' := T5) (g' := (mkF m 29 #[.val (.ref a), .val (.int i), .val (.int (dg + i))] [(.int ((dg + i) + (1 : Int32))), (.ref tx)])) (fun t_ k_ => XS.iadd X5.here hx rfl (hb hby own_d_dgt_28) rfl k_) ?_
      refine own_by (T' := T5) (g' := (mkF m 33 #[.val (.ref a), .val (.int i), .val (.int (dg + i))] [(.int ((dg + i) + (1 : Int32))), (.ref tx)])) (fun t_ k_ => XS.goto X5.here hx rfl (pc0 := 29) (pc' := 33) rfl (hb hby own_d_dgt_29) (by decide) (by decide) k_) ?_
      refine own_by (T' := T5) (g' := (mkF m 34 #[.val (.ref a), .val (.int i), .val (.int (dg + i))] [(.int (f (((dg + i) + (1 : Int32))).toNatClampNeg))])) (fun t_ k_ => own_cal X5 hx hZ e5 V0 (j := ((dg + i) + (1 : Int32))) (own_dy dg i pt b1 b2 c15_4).1 (own_dy dg i pt b1 b2 c15_4).2 (g := (mkF m 33 #[.val (.ref a), .val (.int i), .val (.int (dg + i))] [(.int ((dg + i) + (1 : Int32))), (.ref tx)])) rfl rfl (hb hby own_d_dgt_33) _ k_) ?_
      refine own_retN X5 hx (t := .char) Bd.returns hlk (by simp) (hb hby own_d_dgt_34) (by decide) (by decide) (v := (nar .char ((f (((dg + i) + (1 : Int32))).toNatClampNeg)))) rfl ?_
      rw [e5]
      exact ⟨_, rfl, N0, rfl⟩
theorem own_pd0 : parseMethodDescriptor "(II)I" = some ⟨[.int, .int], some .int⟩ := by decide +kernel
theorem own_pd1 : parseMethodDescriptor "(I)C" = some ⟨[.int], some .char⟩ := by decide +kernel
theorem own_d_read_0 : decode prog_3_method_3_code 0 = .ok (.aload_n 0, 1) := by decide +kernel
theorem own_d_read_1 : decode prog_3_method_3_code 1 = .ok (.aload_n 1, 1) := by decide +kernel
theorem own_d_read_2 : decode prog_3_method_3_code 2 = .ok (.putfield 26, 3) := by decide +kernel
theorem own_d_read_5 : decode prog_3_method_3_code 5 = .ok (.aload_n 0, 1) := by decide +kernel
theorem own_d_read_6 : decode prog_3_method_3_code 6 = .ok (.iload_n 2, 1) := by decide +kernel
theorem own_d_read_7 : decode prog_3_method_3_code 7 = .ok (.putfield 30, 3) := by decide +kernel
theorem own_d_read_10 : decode prog_3_method_3_code 10 = .ok (.aload_n 0, 1) := by decide +kernel
theorem own_d_read_11 : decode prog_3_method_3_code 11 = .ok (.iload_n 2, 1) := by decide +kernel
theorem own_d_read_12 : decode prog_3_method_3_code 12 = .ok (.iload_n 3, 1) := by decide +kernel
theorem own_d_read_13 : decode prog_3_method_3_code 13 = .ok (.iadd, 1) := by decide +kernel
theorem own_d_read_14 : decode prog_3_method_3_code 14 = .ok (.putfield 34, 3) := by decide +kernel
theorem own_d_read_17 : decode prog_3_method_3_code 17 = .ok (.aload_n 0, 1) := by decide +kernel
theorem own_d_read_18 : decode prog_3_method_3_code 18 = .ok (.iload_n 3, 1) := by decide +kernel
theorem own_d_read_19 : decode prog_3_method_3_code 19 = .ok (.ifCond .le 15, 3) := by decide +kernel
theorem own_d_read_22 : decode prog_3_method_3_code 22 = .ok (.aload_n 1, 1) := by decide +kernel
theorem own_d_read_23 : decode prog_3_method_3_code 23 = .ok (.iload_n 2, 1) := by decide +kernel
theorem own_d_read_24 : decode prog_3_method_3_code 24 = .ok (.caload, 1) := by decide +kernel
theorem own_d_read_25 : decode prog_3_method_3_code 25 = .ok (.bipush 45, 2) := by decide +kernel
theorem own_d_read_27 : decode prog_3_method_3_code 27 = .ok (.if_icmp .ne 7, 3) := by decide +kernel
theorem own_d_read_30 : decode prog_3_method_3_code 30 = .ok (.iconst 1, 1) := by decide +kernel
theorem own_d_read_31 : decode prog_3_method_3_code 31 = .ok (.goto 4, 3) := by decide +kernel
theorem own_d_read_34 : decode prog_3_method_3_code 34 = .ok (.iconst 0, 1) := by decide +kernel
theorem own_d_read_35 : decode prog_3_method_3_code 35 = .ok (.putfield 37, 3) := by decide +kernel
theorem own_d_read_38 : decode prog_3_method_3_code 38 = .ok (.aload_n 0, 1) := by decide +kernel
theorem own_d_read_39 : decode prog_3_method_3_code 39 = .ok (.aload_n 0, 1) := by decide +kernel
theorem own_d_read_40 : decode prog_3_method_3_code 40 = .ok (.getfield 37, 3) := by decide +kernel
theorem own_d_read_43 : decode prog_3_method_3_code 43 = .ok (.ifCond .eq 9, 3) := by decide +kernel
theorem own_d_read_46 : decode prog_3_method_3_code 46 = .ok (.iload_n 2, 1) := by decide +kernel
theorem own_d_read_47 : decode prog_3_method_3_code 47 = .ok (.iconst 1, 1) := by decide +kernel
theorem own_d_read_48 : decode prog_3_method_3_code 48 = .ok (.iadd, 1) := by decide +kernel
theorem own_d_read_49 : decode prog_3_method_3_code 49 = .ok (.goto 4, 3) := by decide +kernel
theorem own_d_read_52 : decode prog_3_method_3_code 52 = .ok (.iload_n 2, 1) := by decide +kernel
theorem own_d_read_53 : decode prog_3_method_3_code 53 = .ok (.putfield 41, 3) := by decide +kernel
theorem own_d_read_56 : decode prog_3_method_3_code 56 = .ok (.aload_n 0, 1) := by decide +kernel
theorem own_d_read_57 : decode prog_3_method_3_code 57 = .ok (.aload_n 0, 1) := by decide +kernel
theorem own_d_read_58 : decode prog_3_method_3_code 58 = .ok (.getfield 41, 3) := by decide +kernel
theorem own_d_read_61 : decode prog_3_method_3_code 61 = .ok (.putfield 44, 3) := by decide +kernel
theorem own_d_read_64 : decode prog_3_method_3_code 64 = .ok (.aload_n 0, 1) := by decide +kernel
theorem own_d_read_65 : decode prog_3_method_3_code 65 = .ok (.iconst (-1), 1) := by decide +kernel
theorem own_d_read_66 : decode prog_3_method_3_code 66 = .ok (.putfield 47, 3) := by decide +kernel
theorem own_d_read_69 : decode prog_3_method_3_code 69 = .ok (.aload_n 0, 1) := by decide +kernel
theorem own_d_read_70 : decode prog_3_method_3_code 70 = .ok (.getfield 44, 3) := by decide +kernel
theorem own_d_read_73 : decode prog_3_method_3_code 73 = .ok (.aload_n 0, 1) := by decide +kernel
theorem own_d_read_74 : decode prog_3_method_3_code 74 = .ok (.getfield 34, 3) := by decide +kernel
theorem own_d_read_77 : decode prog_3_method_3_code 77 = .ok (.if_icmp .ge 57, 3) := by decide +kernel
theorem own_d_read_80 : decode prog_3_method_3_code 80 = .ok (.aload_n 1, 1) := by decide +kernel
theorem own_d_read_81 : decode prog_3_method_3_code 81 = .ok (.aload_n 0, 1) := by decide +kernel
theorem own_d_read_82 : decode prog_3_method_3_code 82 = .ok (.getfield 44, 3) := by decide +kernel
theorem own_d_read_85 : decode prog_3_method_3_code 85 = .ok (.caload, 1) := by decide +kernel
theorem own_d_read_86 : decode prog_3_method_3_code 86 = .ok (.bipush 101, 2) := by decide +kernel
theorem own_d_read_88 : decode prog_3_method_3_code 88 = .ok (.if_icmp .eq 46, 3) := by decide +kernel
theorem own_d_read_91 : decode prog_3_method_3_code 91 = .ok (.aload_n 1, 1) := by decide +kernel
theorem own_d_read_92 : decode prog_3_method_3_code 92 = .ok (.aload_n 0, 1) := by decide +kernel
theorem own_d_read_93 : decode prog_3_method_3_code 93 = .ok (.getfield 44, 3) := by decide +kernel
theorem own_d_read_96 : decode prog_3_method_3_code 96 = .ok (.caload, 1) := by decide +kernel
theorem own_d_read_97 : decode prog_3_method_3_code 97 = .ok (.bipush 69, 2) := by decide +kernel
theorem own_d_read_99 : decode prog_3_method_3_code 99 = .ok (.if_icmp .eq 35, 3) := by decide +kernel
theorem own_d_read_102 : decode prog_3_method_3_code 102 = .ok (.aload_n 1, 1) := by decide +kernel
theorem own_d_read_103 : decode prog_3_method_3_code 103 = .ok (.aload_n 0, 1) := by decide +kernel
theorem own_d_read_104 : decode prog_3_method_3_code 104 = .ok (.getfield 44, 3) := by decide +kernel
theorem own_d_read_107 : decode prog_3_method_3_code 107 = .ok (.caload, 1) := by decide +kernel
theorem own_d_read_108 : decode prog_3_method_3_code 108 = .ok (.bipush 46, 2) := by decide +kernel
theorem own_d_read_110 : decode prog_3_method_3_code 110 = .ok (.if_icmp .ne 11, 3) := by decide +kernel
theorem own_d_read_113 : decode prog_3_method_3_code 113 = .ok (.aload_n 0, 1) := by decide +kernel
theorem own_d_read_114 : decode prog_3_method_3_code 114 = .ok (.aload_n 0, 1) := by decide +kernel
theorem own_d_read_115 : decode prog_3_method_3_code 115 = .ok (.getfield 44, 3) := by decide +kernel
theorem own_d_read_118 : decode prog_3_method_3_code 118 = .ok (.putfield 47, 3) := by decide +kernel
theorem own_d_read_121 : decode prog_3_method_3_code 121 = .ok (.aload_n 0, 1) := by decide +kernel
theorem own_d_read_122 : decode prog_3_method_3_code 122 = .ok (.dup, 1) := by decide +kernel
theorem own_d_read_123 : decode prog_3_method_3_code 123 = .ok (.getfield 44, 3) := by decide +kernel
theorem own_d_read_126 : decode prog_3_method_3_code 126 = .ok (.iconst 1, 1) := by decide +kernel
theorem own_d_read_127 : decode prog_3_method_3_code 127 = .ok (.iadd, 1) := by decide +kernel
theorem own_d_read_128 : decode prog_3_method_3_code 128 = .ok (.putfield 44, 3) := by decide +kernel
theorem own_d_read_131 : decode prog_3_method_3_code 131 = .ok (.goto (-62), 3) := by decide +kernel
theorem own_d_read_134 : decode prog_3_method_3_code 134 = .ok (.aload_n 0, 1) := by decide +kernel
theorem own_d_read_135 : decode prog_3_method_3_code 135 = .ok (.getfield 44, 3) := by decide +kernel
theorem own_d_read_138 : decode prog_3_method_3_code 138 = .ok (.aload_n 0, 1) := by decide +kernel
theorem own_d_read_139 : decode prog_3_method_3_code 139 = .ok (.getfield 41, 3) := by decide +kernel
theorem own_d_read_142 : decode prog_3_method_3_code 142 = .ok (.isub, 1) := by decide +kernel
theorem own_d_read_143 : decode prog_3_method_3_code 143 = .ok (.aload_n 0, 1) := by decide +kernel
theorem own_d_read_144 : decode prog_3_method_3_code 144 = .ok (.getfield 47, 3) := by decide +kernel
theorem own_d_read_147 : decode prog_3_method_3_code 147 = .ok (.ifCond .ge 7, 3) := by decide +kernel
theorem own_d_read_150 : decode prog_3_method_3_code 150 = .ok (.iconst 0, 1) := by decide +kernel
theorem own_d_read_151 : decode prog_3_method_3_code 151 = .ok (.goto 4, 3) := by decide +kernel
theorem own_d_read_154 : decode prog_3_method_3_code 154 = .ok (.iconst 1, 1) := by decide +kernel
theorem own_d_read_155 : decode prog_3_method_3_code 155 = .ok (.isub, 1) := by decide +kernel
theorem own_d_read_156 : decode prog_3_method_3_code 156 = .ok (.istore 4, 2) := by decide +kernel
theorem own_d_read_158 : decode prog_3_method_3_code 158 = .ok (.aload_n 0, 1) := by decide +kernel
theorem own_d_read_159 : decode prog_3_method_3_code 159 = .ok (.iconst 0, 1) := by decide +kernel
theorem own_d_read_160 : decode prog_3_method_3_code 160 = .ok (.putfield 50, 3) := by decide +kernel
theorem own_d_read_163 : decode prog_3_method_3_code 163 = .ok (.aload_n 0, 1) := by decide +kernel
theorem own_d_read_164 : decode prog_3_method_3_code 164 = .ok (.getfield 50, 3) := by decide +kernel
theorem own_d_read_167 : decode prog_3_method_3_code 167 = .ok (.iload 4, 2) := by decide +kernel
theorem own_d_read_169 : decode prog_3_method_3_code 169 = .ok (.if_icmp .ge 29, 3) := by decide +kernel
theorem own_d_read_172 : decode prog_3_method_3_code 172 = .ok (.aload_n 0, 1) := by decide +kernel
theorem own_d_read_173 : decode prog_3_method_3_code 173 = .ok (.aload_n 0, 1) := by decide +kernel
theorem own_d_read_174 : decode prog_3_method_3_code 174 = .ok (.getfield 50, 3) := by decide +kernel
theorem own_d_read_177 : decode prog_3_method_3_code 177 = .ok (.invokevirtual 53, 3) := by decide +kernel
theorem own_d_read_180 : decode prog_3_method_3_code 180 = .ok (.bipush 48, 2) := by decide +kernel
theorem own_d_read_182 : decode prog_3_method_3_code 182 = .ok (.if_icmp .ne 16, 3) := by decide +kernel
theorem own_d_read_185 : decode prog_3_method_3_code 185 = .ok (.aload_n 0, 1) := by decide +kernel
theorem own_d_read_186 : decode prog_3_method_3_code 186 = .ok (.dup, 1) := by decide +kernel
theorem own_d_read_187 : decode prog_3_method_3_code 187 = .ok (.getfield 50, 3) := by decide +kernel
theorem own_d_read_190 : decode prog_3_method_3_code 190 = .ok (.iconst 1, 1) := by decide +kernel
theorem own_d_read_191 : decode prog_3_method_3_code 191 = .ok (.iadd, 1) := by decide +kernel
theorem own_d_read_192 : decode prog_3_method_3_code 192 = .ok (.putfield 50, 3) := by decide +kernel
theorem own_d_read_195 : decode prog_3_method_3_code 195 = .ok (.goto (-32), 3) := by decide +kernel
theorem own_d_read_198 : decode prog_3_method_3_code 198 = .ok (.aload_n 0, 1) := by decide +kernel
theorem own_d_read_199 : decode prog_3_method_3_code 199 = .ok (.iload 4, 2) := by decide +kernel
theorem own_d_read_201 : decode prog_3_method_3_code 201 = .ok (.putfield 57, 3) := by decide +kernel
theorem own_d_read_204 : decode prog_3_method_3_code 204 = .ok (.aload_n 0, 1) := by decide +kernel
theorem own_d_read_205 : decode prog_3_method_3_code 205 = .ok (.getfield 57, 3) := by decide +kernel
theorem own_d_read_208 : decode prog_3_method_3_code 208 = .ok (.aload_n 0, 1) := by decide +kernel
theorem own_d_read_209 : decode prog_3_method_3_code 209 = .ok (.getfield 50, 3) := by decide +kernel
theorem own_d_read_212 : decode prog_3_method_3_code 212 = .ok (.if_icmp .le 31, 3) := by decide +kernel
theorem own_d_read_215 : decode prog_3_method_3_code 215 = .ok (.aload_n 0, 1) := by decide +kernel
theorem own_d_read_216 : decode prog_3_method_3_code 216 = .ok (.aload_n 0, 1) := by decide +kernel
theorem own_d_read_217 : decode prog_3_method_3_code 217 = .ok (.getfield 57, 3) := by decide +kernel
theorem own_d_read_220 : decode prog_3_method_3_code 220 = .ok (.iconst 1, 1) := by decide +kernel
theorem own_d_read_221 : decode prog_3_method_3_code 221 = .ok (.isub, 1) := by decide +kernel
theorem own_d_read_222 : decode prog_3_method_3_code 222 = .ok (.invokevirtual 53, 3) := by decide +kernel
theorem own_d_read_225 : decode prog_3_method_3_code 225 = .ok (.bipush 48, 2) := by decide +kernel
theorem own_d_read_227 : decode prog_3_method_3_code 227 = .ok (.if_icmp .ne 16, 3) := by decide +kernel
theorem own_d_read_230 : decode prog_3_method_3_code 230 = .ok (.aload_n 0, 1) := by decide +kernel
theorem own_d_read_231 : decode prog_3_method_3_code 231 = .ok (.dup, 1) := by decide +kernel
theorem own_d_read_232 : decode prog_3_method_3_code 232 = .ok (.getfield 57, 3) := by decide +kernel
theorem own_d_read_235 : decode prog_3_method_3_code 235 = .ok (.iconst 1, 1) := by decide +kernel
theorem own_d_read_236 : decode prog_3_method_3_code 236 = .ok (.isub, 1) := by decide +kernel
theorem own_d_read_237 : decode prog_3_method_3_code 237 = .ok (.putfield 57, 3) := by decide +kernel
theorem own_d_read_240 : decode prog_3_method_3_code 240 = .ok (.goto (-36), 3) := by decide +kernel
theorem own_d_read_243 : decode prog_3_method_3_code 243 = .ok (.aload_n 0, 1) := by decide +kernel
theorem own_d_read_244 : decode prog_3_method_3_code 244 = .ok (.aload_n 0, 1) := by decide +kernel
theorem own_d_read_245 : decode prog_3_method_3_code 245 = .ok (.getfield 44, 3) := by decide +kernel
theorem own_d_read_248 : decode prog_3_method_3_code 248 = .ok (.iconst 1, 1) := by decide +kernel
theorem own_d_read_249 : decode prog_3_method_3_code 249 = .ok (.iadd, 1) := by decide +kernel
theorem own_d_read_250 : decode prog_3_method_3_code 250 = .ok (.aload_n 0, 1) := by decide +kernel
theorem own_d_read_251 : decode prog_3_method_3_code 251 = .ok (.getfield 34, 3) := by decide +kernel
theorem own_d_read_254 : decode prog_3_method_3_code 254 = .ok (.invokestatic 60, 3) := by decide +kernel
theorem own_d_read_257 : decode prog_3_method_3_code 257 = .ok (.putfield 66, 3) := by decide +kernel
theorem own_d_read_260 : decode prog_3_method_3_code 260 = .ok (.aload_n 0, 1) := by decide +kernel
theorem own_d_read_261 : decode prog_3_method_3_code 261 = .ok (.aload_n 0, 1) := by decide +kernel
theorem own_d_read_262 : decode prog_3_method_3_code 262 = .ok (.getfield 66, 3) := by decide +kernel
theorem own_d_read_265 : decode prog_3_method_3_code 265 = .ok (.aload_n 0, 1) := by decide +kernel
theorem own_d_read_266 : decode prog_3_method_3_code 266 = .ok (.getfield 34, 3) := by decide +kernel
theorem own_d_read_269 : decode prog_3_method_3_code 269 = .ok (.if_icmp .ge 18, 3) := by decide +kernel
theorem own_d_read_272 : decode prog_3_method_3_code 272 = .ok (.aload_n 1, 1) := by decide +kernel
theorem own_d_read_273 : decode prog_3_method_3_code 273 = .ok (.aload_n 0, 1) := by decide +kernel
theorem own_d_read_274 : decode prog_3_method_3_code 274 = .ok (.getfield 66, 3) := by decide +kernel
theorem own_d_read_277 : decode prog_3_method_3_code 277 = .ok (.caload, 1) := by decide +kernel
theorem own_d_read_278 : decode prog_3_method_3_code 278 = .ok (.bipush 45, 2) := by decide +kernel
theorem own_d_read_280 : decode prog_3_method_3_code 280 = .ok (.if_icmp .ne 7, 3) := by decide +kernel
theorem own_d_read_283 : decode prog_3_method_3_code 283 = .ok (.iconst 1, 1) := by decide +kernel
theorem own_d_read_284 : decode prog_3_method_3_code 284 = .ok (.goto 4, 3) := by decide +kernel
theorem own_d_read_287 : decode prog_3_method_3_code 287 = .ok (.iconst 0, 1) := by decide +kernel
theorem own_d_read_288 : decode prog_3_method_3_code 288 = .ok (.putfield 69, 3) := by decide +kernel
theorem own_d_read_291 : decode prog_3_method_3_code 291 = .ok (.aload_n 0, 1) := by decide +kernel
theorem own_d_read_292 : decode prog_3_method_3_code 292 = .ok (.getfield 66, 3) := by decide +kernel
theorem own_d_read_295 : decode prog_3_method_3_code 295 = .ok (.aload_n 0, 1) := by decide +kernel
theorem own_d_read_296 : decode prog_3_method_3_code 296 = .ok (.getfield 34, 3) := by decide +kernel
theorem own_d_read_299 : decode prog_3_method_3_code 299 = .ok (.if_icmp .ge 31, 3) := by decide +kernel
theorem own_d_read_302 : decode prog_3_method_3_code 302 = .ok (.aload_n 0, 1) := by decide +kernel
theorem own_d_read_303 : decode prog_3_method_3_code 303 = .ok (.getfield 69, 3) := by decide +kernel
theorem own_d_read_306 : decode prog_3_method_3_code 306 = .ok (.ifCond .ne 14, 3) := by decide +kernel
theorem own_d_read_309 : decode prog_3_method_3_code 309 = .ok (.aload_n 1, 1) := by decide +kernel
theorem own_d_read_310 : decode prog_3_method_3_code 310 = .ok (.aload_n 0, 1) := by decide +kernel
theorem own_d_read_311 : decode prog_3_method_3_code 311 = .ok (.getfield 66, 3) := by decide +kernel
theorem own_d_read_314 : decode prog_3_method_3_code 314 = .ok (.caload, 1) := by decide +kernel
theorem own_d_read_315 : decode prog_3_method_3_code 315 = .ok (.bipush 43, 2) := by decide +kernel
theorem own_d_read_317 : decode prog_3_method_3_code 317 = .ok (.if_icmp .ne 13, 3) := by decide +kernel
theorem own_d_read_320 : decode prog_3_method_3_code 320 = .ok (.aload_n 0, 1) := by decide +kernel
theorem own_d_read_321 : decode prog_3_method_3_code 321 = .ok (.dup, 1) := by decide +kernel
theorem own_d_read_322 : decode prog_3_method_3_code 322 = .ok (.getfield 66, 3) := by decide +kernel
theorem own_d_read_325 : decode prog_3_method_3_code 325 = .ok (.iconst 1, 1) := by decide +kernel
theorem own_d_read_326 : decode prog_3_method_3_code 326 = .ok (.iadd, 1) := by decide +kernel
theorem own_d_read_327 : decode prog_3_method_3_code 327 = .ok (.putfield 66, 3) := by decide +kernel
theorem own_d_read_330 : decode prog_3_method_3_code 330 = .ok (.aload_n 0, 1) := by decide +kernel
theorem own_d_read_331 : decode prog_3_method_3_code 331 = .ok (.getfield 66, 3) := by decide +kernel
theorem own_d_read_334 : decode prog_3_method_3_code 334 = .ok (.aload_n 0, 1) := by decide +kernel
theorem own_d_read_335 : decode prog_3_method_3_code 335 = .ok (.getfield 34, 3) := by decide +kernel
theorem own_d_read_338 : decode prog_3_method_3_code 338 = .ok (.if_icmp .ge 27, 3) := by decide +kernel
theorem own_d_read_341 : decode prog_3_method_3_code 341 = .ok (.aload_n 1, 1) := by decide +kernel
theorem own_d_read_342 : decode prog_3_method_3_code 342 = .ok (.aload_n 0, 1) := by decide +kernel
theorem own_d_read_343 : decode prog_3_method_3_code 343 = .ok (.getfield 66, 3) := by decide +kernel
theorem own_d_read_346 : decode prog_3_method_3_code 346 = .ok (.caload, 1) := by decide +kernel
theorem own_d_read_347 : decode prog_3_method_3_code 347 = .ok (.bipush 48, 2) := by decide +kernel
theorem own_d_read_349 : decode prog_3_method_3_code 349 = .ok (.if_icmp .ne 16, 3) := by decide +kernel
theorem own_d_read_352 : decode prog_3_method_3_code 352 = .ok (.aload_n 0, 1) := by decide +kernel
theorem own_d_read_353 : decode prog_3_method_3_code 353 = .ok (.dup, 1) := by decide +kernel
theorem own_d_read_354 : decode prog_3_method_3_code 354 = .ok (.getfield 66, 3) := by decide +kernel
theorem own_d_read_357 : decode prog_3_method_3_code 357 = .ok (.iconst 1, 1) := by decide +kernel
theorem own_d_read_358 : decode prog_3_method_3_code 358 = .ok (.iadd, 1) := by decide +kernel
theorem own_d_read_359 : decode prog_3_method_3_code 359 = .ok (.putfield 66, 3) := by decide +kernel
theorem own_d_read_362 : decode prog_3_method_3_code 362 = .ok (.goto (-32), 3) := by decide +kernel
theorem own_d_read_365 : decode prog_3_method_3_code 365 = .ok (.aload_n 0, 1) := by decide +kernel
theorem own_d_read_366 : decode prog_3_method_3_code 366 = .ok (.areturn, 1) := by decide +kernel
theorem own_ef_read (m : MethodId) (a : Addr) (tx : Addr) (off : Int32) (ln : Int32) : entryFrame m #[(.ref a), (.ref tx), (.int off), (.int ln)] 5 = mkF m 0 #[.val (.ref a), .val (.ref tx), .val (.int off), .val (.int ln), .unset] [] := by first | (simp [entryFrame, mkF, argsToLocals, Value.category]; done) | rfl
def own_Q_read (Z : State) (a : Addr) (tx : Addr) (off : Int32) (ln : Int32) (f : Nat → Int32) (u_text : Value) (u_start : Int32) (u_stop : Int32) (u_negative : Int32) (u_digitsAt : Int32) (u_end : Int32) (u_point : Int32) (u_first : Int32) (u_last : Int32) (u_exponentAt : Int32) (u_negativeExponent : Int32) (h0 : Heap) (n0 : Nat) (v : Option Value) (h : Heap) (L : List Loc) : Prop := ∃ (q1 q2 q3 q4 q5 q6 q7 q8 : Int32), v = some (.ref a) ∧ Fr n0 L ∧ Keep h0 h [a] ∧ Exa Z h a "com/example/enumconv/enumconv/core/Decimal$Reading" ∧ Fld Z h a "com/example/enumconv/enumconv/core/Decimal$Reading" "text" "[C" (.ref tx) ∧ Fld Z h a "com/example/enumconv/enumconv/core/Decimal$Reading" "start" "I" (.int off) ∧ Fld Z h a "com/example/enumconv/enumconv/core/Decimal$Reading" "stop" "I" (.int (off + ln)) ∧ Fld Z h a "com/example/enumconv/enumconv/core/Decimal$Reading" "negative" "Z" (.int q1) ∧ Fld Z h a "com/example/enumconv/enumconv/core/Decimal$Reading" "digitsAt" "I" (.int q2) ∧ Fld Z h a "com/example/enumconv/enumconv/core/Decimal$Reading" "end" "I" (.int q3) ∧ Fld Z h a "com/example/enumconv/enumconv/core/Decimal$Reading" "point" "I" (.int q4) ∧ Fld Z h a "com/example/enumconv/enumconv/core/Decimal$Reading" "first" "I" (.int q5) ∧ Fld Z h a "com/example/enumconv/enumconv/core/Decimal$Reading" "last" "I" (.int q6) ∧ Fld Z h a "com/example/enumconv/enumconv/core/Decimal$Reading" "exponentAt" "I" (.int q7) ∧ Fld Z h a "com/example/enumconv/enumconv/core/Decimal$Reading" "negativeExponent" "Z" (.int q8) ∧ own_R f off (off + ln) q4 q3
set_option maxRecDepth 65536 in
set_option maxHeartbeats 40000000 in
theorem own_rm_read (l : Launch) (Z : State) (a0 : Array Value) (hw : ∀ d ∈ tables_1, d.before a0 Z = true) (ws : List Jvm.Cond) (a : Addr) (tx : Addr) (off : Int32) (ln : Int32) (f : Nat → Int32) (u_text : Value) (u_start : Int32) (u_stop : Int32) (u_negative : Int32) (u_digitsAt : Int32) (u_end : Int32) (u_point : Int32) (u_first : Int32) (u_last : Int32) (u_exponentAt : Int32) (u_negativeExponent : Int32) (h0 : Heap) (n0 : Nat) (Z0 : n0 ≤ h0.size) (E0 : Exa Z h0 a "com/example/enumconv/enumconv/core/Decimal$Reading") (G0 : n0 ≤ a) (V0 : own_Ia Z h0 tx .char 6 f) (n1 : tx ≠ a) (ho : 0 ≤ off.toInt) (hl : 0 ≤ ln.toInt) (hs : off.toInt + ln.toInt ≤ 6) (F_text : Fld Z h0 a "com/example/enumconv/enumconv/core/Decimal$Reading" "text" "[C" u_text) (F_start : Fld Z h0 a "com/example/enumconv/enumconv/core/Decimal$Reading" "start" "I" (.int u_start)) (F_stop : Fld Z h0 a "com/example/enumconv/enumconv/core/Decimal$Reading" "stop" "I" (.int u_stop)) (F_negative : Fld Z h0 a "com/example/enumconv/enumconv/core/Decimal$Reading" "negative" "Z" (.int u_negative)) (F_digitsAt : Fld Z h0 a "com/example/enumconv/enumconv/core/Decimal$Reading" "digitsAt" "I" (.int u_digitsAt)) (F_end : Fld Z h0 a "com/example/enumconv/enumconv/core/Decimal$Reading" "end" "I" (.int u_end)) (F_point : Fld Z h0 a "com/example/enumconv/enumconv/core/Decimal$Reading" "point" "I" (.int u_point)) (F_first : Fld Z h0 a "com/example/enumconv/enumconv/core/Decimal$Reading" "first" "I" (.int u_first)) (F_last : Fld Z h0 a "com/example/enumconv/enumconv/core/Decimal$Reading" "last" "I" (.int u_last)) (F_exponentAt : Fld Z h0 a "com/example/enumconv/enumconv/core/Decimal$Reading" "exponentAt" "I" (.int u_exponentAt)) (F_negativeExponent : Fld Z h0 a "com/example/enumconv/enumconv/core/Decimal$Reading" "negativeExponent" "Z" (.int u_negativeExponent)) :
    MetFree l (⟨"com/example/enumconv/enumconv/core/Decimal$Reading", "read", "([CII)Lcom/example/enumconv/enumconv/core/Decimal$Reading;"⟩ : MethodName) (head1 (Jvm.Cond.code (⟨"com/example/enumconv/enumconv/core/Decimal$Reading", "read", "([CII)Lcom/example/enumconv/enumconv/core/Decimal$Reading;"⟩ : MethodName) prog_3_method_3_code 5 (some (.object "com/example/enumconv/enumconv/core/Decimal$Reading")) :: ws) ({ frames := 1, cells := 0, slots := 0, locals := 14 } : Room)) (fun a_ U_ => a_ = #[(.ref a), (.ref tx), (.int off), (.int ln)] ∧ Z.Warmed39 U_.vm ∧ U_.heap = h0) (fun _ _ _ _ _ => True) (fun _ U_ o_ U'_ => ∃ v_ L_, o_ = .returned v_ ∧ own_Q_read Z a tx off ln f u_text u_start u_stop u_negative u_digitsAt u_end u_point u_first u_last u_exponentAt u_negativeExponent h0 n0 v_ U'_.heap L_ ∧ FrameEnd U_ o_ U'_ L_ ({ frames := 1, cells := 0, slots := 0, locals := 14 } : Room).cells ({ frames := 1, cells := 0, slots := 0, locals := 14 } : Room).slots) := by
  refine MetFree.of_bodySF (plainFor_of_name own_pn_com_example_enumconv_enumconv_core_Decimal_Reading) hisR ?_
  intro p e s m args below meth c s₁ Bd hml0 hP hK
  obtain ⟨rfl, hZ, hh⟩ := hP
  have hx := Bd.exec
  have hby := Bd.bytes
  have hlk : meth.locks = false := BodyLoose.notSynchronized Bd
  have hml : c.maxLocals = 5 := hml0
  have hown : s.vm.findClass "com/example/enumconv/enumconv/core/Decimal$Reading" = some m.cls := findClass_of_methodNamed Bd.named
  have hnm := (name_of_methodNamed Bd.named Bd.method).1
  have X0 : Stand p l e ({ frames := 1, cells := 0, slots := 0, locals := 14 } : Room) s m #[(.ref a), (.ref tx), (.int off), (.int ln)] below meth c s₁ [] 0 0 := Stand.of_body Bd
  have e0 : s₁.heap = h0 := by rw [← hh, Bd.state]; rfl
  have N0 := Fr.nil n0
  show own_Goes p e below (own_K (own_Q_read Z a tx off ln f u_text u_start u_stop u_negative u_digitsAt u_end u_point u_first u_last u_exponentAt u_negativeExponent h0 n0) s ({ frames := 1, cells := 0, slots := 0, locals := 14 } : Room).cells ({ frames := 1, cells := 0, slots := 0, locals := 14 } : Room).slots) s₁ (entryFrame m #[(.ref a), (.ref tx), (.int off), (.int ln)] 5)
  rw [own_ef_read]
  have K0 := Keep.refl h0 [a]
  have l330 : ∀ (kk : Nat) (D : Int32) (ng : Int32) (dg : Int32) (en : Int32) (pt : Int32) (fi : Int32) (la : Int32) (ex : Int32) (ne : Int32) (T1 : State) (hh : Heap) (lo : List Loc), Stand p l e ({ frames := 1, cells := 0, slots := 0, locals := 14 } : Room) s m #[(.ref a), (.ref tx), (.int off), (.int ln)] below meth c T1 lo 0 0 → T1.heap = hh → Fr n0 lo → n0 ≤ hh.size → Keep h0 hh [a] → Exa Z hh a "com/example/enumconv/enumconv/core/Decimal$Reading" → own_Ia Z hh tx .char 6 f → Fld Z hh a "com/example/enumconv/enumconv/core/Decimal$Reading" "text" "[C" (.ref tx) → Fld Z hh a "com/example/enumconv/enumconv/core/Decimal$Reading" "start" "I" (.int off) → Fld Z hh a "com/example/enumconv/enumconv/core/Decimal$Reading" "stop" "I" (.int (off + ln)) → Fld Z hh a "com/example/enumconv/enumconv/core/Decimal$Reading" "negative" "Z" (.int ng) → Fld Z hh a "com/example/enumconv/enumconv/core/Decimal$Reading" "digitsAt" "I" (.int dg) → Fld Z hh a "com/example/enumconv/enumconv/core/Decimal$Reading" "end" "I" (.int en) → Fld Z hh a "com/example/enumconv/enumconv/core/Decimal$Reading" "point" "I" (.int pt) → Fld Z hh a "com/example/enumconv/enumconv/core/Decimal$Reading" "first" "I" (.int fi) → Fld Z hh a "com/example/enumconv/enumconv/core/Decimal$Reading" "last" "I" (.int la) → Fld Z hh a "com/example/enumconv/enumconv/core/Decimal$Reading" "exponentAt" "I" (.int ex) → Fld Z hh a "com/example/enumconv/enumconv/core/Decimal$Reading" "negativeExponent" "Z" (.int ne) → (own_R f off (off + ln) pt en) → (0 ≤ ex.toInt) → ((off.toInt + ln.toInt - ex.toInt).toNat = kk) → own_Goes p e below (own_K (own_Q_read Z a tx off ln f u_text u_start u_stop u_negative u_digitsAt u_end u_point u_first u_last u_exponentAt u_negativeExponent h0 n0) s ({ frames := 1, cells := 0, slots := 0, locals := 14 } : Room).cells ({ frames := 1, cells := 0, slots := 0, locals := 14 } : Room).slots) T1 (mkF m 330 #[.val (.ref a), .val (.ref tx), .val (.int off), .val (.int ln), .val (.int D)] []) := by
    intro kk
    induction kk with
      | zero =>
        intro D ng dg en pt fi la ex ne T1 hh lo X1 e1 N1 u0 u1 u2 u3 u4 u5 u6 u7 u8 u9 u10 u11 u12 u13 u14 hR x1 x2
        refine own_by (T' := T1) (g' := (mkF m 331 #[.val (.ref a), .val (.ref tx), .val (.int off), .val (.int ln), .val (.int D)] [(.ref a)])) (fun t_ k_ => XS.aloadN X1.here hx rfl (hb hby own_d_read_330) rfl rfl k_) ?_
        obtain ⟨T1, X1, e1, st1⟩ := getF X1 hx hZ hown (host := "") (Or.inl (hw _ (List.mem_of_getElem? (i := 47) rfl))) Via.refl e1 u13 (g := (mkF m 331 #[.val (.ref a), .val (.ref tx), .val (.int off), .val (.int ln), .val (.int D)] [(.ref a)])) rfl rfl (hb hby own_d_read_331)
        refine own_by (T' := T1) (g' := (mkF m 334 #[.val (.ref a), .val (.ref tx), .val (.int off), .val (.int ln), .val (.int D)] [(.int ex)])) st1 ?_
        refine own_by (T' := T1) (g' := (mkF m 335 #[.val (.ref a), .val (.ref tx), .val (.int off), .val (.int ln), .val (.int D)] [(.ref a), (.int ex)])) (fun t_ k_ => XS.aloadN X1.here hx rfl (hb hby own_d_read_334) rfl rfl k_) ?_
        obtain ⟨T2, X2, e2, st2⟩ := getF X1 hx hZ hown (host := "") (Or.inl (hw _ (List.mem_of_getElem? (i := 25) rfl))) Via.refl e1 u6 (g := (mkF m 335 #[.val (.ref a), .val (.ref tx), .val (.int off), .val (.int ln), .val (.int D)] [(.ref a), (.int ex)])) rfl rfl (hb hby own_d_read_335)
        refine own_by (T' := T2) (g' := (mkF m 338 #[.val (.ref a), .val (.ref tx), .val (.int off), .val (.int ln), .val (.int D)] [(.int (off + ln)), (.int ex)])) st2 ?_
        refine own_by (T' := T2) (g' := (mkF m 365 #[.val (.ref a), .val (.ref tx), .val (.int off), .val (.int ln), .val (.int D)] [])) (fun t_ k_ => XS.icmpYes X2.here hx rfl (pc0 := 338) (pc' := 365) rfl (hb hby own_d_read_338) rfl (flt ((own_ge3 off ln ex ho hl hs x2) : ¬ (ex < (off + ln)))).2.1 (by decide) (by decide) k_) ?_
        refine own_by (T' := T2) (g' := (mkF m 366 #[.val (.ref a), .val (.ref tx), .val (.int off), .val (.int ln), .val (.int D)] [(.ref a)])) (fun t_ k_ => XS.aloadN X2.here hx rfl (hb hby own_d_read_365) rfl rfl k_) ?_
        refine own_retR X2 hx Bd.returns hlk rfl rfl (hb hby own_d_read_366) (by decide) (by decide) ?_
        rw [e2]
        exact ⟨_, _, _, _, _, _, _, _, rfl, N1, u1, u2, u4, u5, u6, u7, u8, u9, u10, u11, u12, u13, u14, hR⟩
      | succ kk ih =>
        intro D ng dg en pt fi la ex ne T1 hh lo X1 e1 N1 u0 u1 u2 u3 u4 u5 u6 u7 u8 u9 u10 u11 u12 u13 u14 hR x1 x2
        refine own_by (T' := T1) (g' := (mkF m 331 #[.val (.ref a), .val (.ref tx), .val (.int off), .val (.int ln), .val (.int D)] [(.ref a)])) (fun t_ k_ => XS.aloadN X1.here hx rfl (hb hby own_d_read_330) rfl rfl k_) ?_
        obtain ⟨T3, X3, e3, st3⟩ := getF X1 hx hZ hown (host := "") (Or.inl (hw _ (List.mem_of_getElem? (i := 47) rfl))) Via.refl e1 u13 (g := (mkF m 331 #[.val (.ref a), .val (.ref tx), .val (.int off), .val (.int ln), .val (.int D)] [(.ref a)])) rfl rfl (hb hby own_d_read_331)
        refine own_by (T' := T3) (g' := (mkF m 334 #[.val (.ref a), .val (.ref tx), .val (.int off), .val (.int ln), .val (.int D)] [(.int ex)])) st3 ?_
        refine own_by (T' := T3) (g' := (mkF m 335 #[.val (.ref a), .val (.ref tx), .val (.int off), .val (.int ln), .val (.int D)] [(.ref a), (.int ex)])) (fun t_ k_ => XS.aloadN X3.here hx rfl (hb hby own_d_read_334) rfl rfl k_) ?_
        obtain ⟨T4, X4, e4, st4⟩ := getF X3 hx hZ hown (host := "") (Or.inl (hw _ (List.mem_of_getElem? (i := 25) rfl))) Via.refl e3 u6 (g := (mkF m 335 #[.val (.ref a), .val (.ref tx), .val (.int off), .val (.int ln), .val (.int D)] [(.ref a), (.int ex)])) rfl rfl (hb hby own_d_read_335)
        refine own_by (T' := T4) (g' := (mkF m 338 #[.val (.ref a), .val (.ref tx), .val (.int off), .val (.int ln), .val (.int D)] [(.int (off + ln)), (.int ex)])) st4 ?_
        refine own_by (T' := T4) (g' := (mkF m 341 #[.val (.ref a), .val (.ref tx), .val (.int off), .val (.int ln), .val (.int D)] [])) (fun t_ k_ => XS.icmpNo X4.here hx rfl (hb hby own_d_read_338) rfl (tlt ((own_lt4 off ln ex kk ho hl hs x2) : ex < (off + ln))).2.1 k_) ?_
        refine own_by (T' := T4) (g' := (mkF m 342 #[.val (.ref a), .val (.ref tx), .val (.int off), .val (.int ln), .val (.int D)] [(.ref tx)])) (fun t_ k_ => XS.aloadN X4.here hx rfl (hb hby own_d_read_341) rfl rfl k_) ?_
        refine own_by (T' := T4) (g' := (mkF m 343 #[.val (.ref a), .val (.ref tx), .val (.int off), .val (.int ln), .val (.int D)] [(.ref a), (.ref tx)])) (fun t_ k_ => XS.aloadN X4.here hx rfl (hb hby own_d_read_342) rfl rfl k_) ?_
        obtain ⟨T5, X5, e5, st5⟩ := getF X4 hx hZ hown (host := "") (Or.inl (hw _ (List.mem_of_getElem? (i := 47) rfl))) Via.refl e4 u13 (g := (mkF m 343 #[.val (.ref a), .val (.ref tx), .val (.int off), .val (.int ln), .val (.int D)] [(.ref a), (.ref tx)])) rfl rfl (hb hby own_d_read_343)
        refine own_by (T' := T5) (g' := (mkF m 346 #[.val (.ref a), .val (.ref tx), .val (.int off), .val (.int ln), .val (.int D)] [(.int ex), (.ref tx)])) st5 ?_
        refine own_by (T' := T5) (g' := (mkF m 347 #[.val (.ref a), .val (.ref tx), .val (.int off), .val (.int ln), .val (.int D)] [(.int (f ex.toNatClampNeg))])) (fun t_ k_ => own_cal X5 hx hZ e5 u3 (j := ex) (own_ix off ln ex ho hl hs x1 (own_lt2 off ln ex kk ho hl hs x2).1).1 (own_ix off ln ex ho hl hs x1 (own_lt2 off ln ex kk ho hl hs x2).1).2 (g := (mkF m 346 #[.val (.ref a), .val (.ref tx), .val (.int off), .val (.int ln), .val (.int D)] [(.int ex), (.ref tx)])) rfl rfl (hb hby own_d_read_346) _ k_) ?_
        refine own_by (T' := T5) (g' := (mkF m 349 #[.val (.ref a), .val (.ref tx), .val (.int off), .val (.int ln), .val (.int D)] [(.int (48 : Int32)), (.int (f ex.toNatClampNeg))])) (fun t_ k_ => XS.bipush X5.here hx rfl (hb hby own_d_read_347) k_) ?_
        by_cases c349_6 : (f ex.toNatClampNeg) = (48 : Int32)
        · skip
          refine own_by (T' := T5) (g' := (mkF m 352 #[.val (.ref a), .val (.ref tx), .val (.int off), .val (.int ln), .val (.int D)] [])) (fun t_ k_ => XS.icmpNo X5.here hx rfl (hb hby own_d_read_349) rfl (teq (c349_6 : (f ex.toNatClampNeg) = (48 : Int32))).2 k_) ?_
          refine own_by (T' := T5) (g' := (mkF m 353 #[.val (.ref a), .val (.ref tx), .val (.int off), .val (.int ln), .val (.int D)] [(.ref a)])) (fun t_ k_ => XS.aloadN X5.here hx rfl (hb hby own_d_read_352) rfl rfl k_) ?_
          refine own_by (T' := T5) (g' := (mkF m 354 #[.val (.ref a), .val (.ref tx), .val (.int off), .val (.int ln), .val (.int D)] [(.ref a), (.ref a)])) (fun t_ k_ => XS.dup X5.here hx rfl (hb hby own_d_read_353) rfl rfl k_) ?_
          obtain ⟨T7, X7, e7, st7⟩ := getF X5 hx hZ hown (host := "") (Or.inl (hw _ (List.mem_of_getElem? (i := 47) rfl))) Via.refl e5 u13 (g := (mkF m 354 #[.val (.ref a), .val (.ref tx), .val (.int off), .val (.int ln), .val (.int D)] [(.ref a), (.ref a)])) rfl rfl (hb hby own_d_read_354)
          refine own_by (T' := T7) (g' := (mkF m 357 #[.val (.ref a), .val (.ref tx), .val (.int off), .val (.int ln), .val (.int D)] [(.int ex), (.ref a)])) st7 ?_
          refine own_by (T' := T7) (g' := (mkF m 358 #[.val (.ref a), .val (.ref tx), .val (.int off), .val (.int ln), .val (.int D)] [(.int (1 : Int32)), (.int ex), (.ref a)])) (fun t_ k_ => XS.iconst X7.here hx rfl (hb hby own_d_read_357) k_) ?_
          refine own_by (T' := T7) (g' := (mkF m 359 #[.val (.ref a), .val (.ref tx), .val (.int off), .val (.int ln), .val (.int D)] [(.int (ex + (1 : Int32))), (.ref a)])) (fun t_ k_ => XS.iadd X7.here hx rfl (hb hby own_d_read_358) rfl k_) ?_
          obtain ⟨T8, h8, X8, e8, W8, st8⟩ := putF X7 hx hZ hown (host := "") (Or.inl (hw _ (List.mem_of_getElem? (i := 47) rfl))) Via.refl e7 u13 u2 (Or.inl (hw _ (List.mem_of_getElem? (i := 48) rfl))) (hw _ (List.mem_of_getElem? (i := 8) rfl)) (ty := .int) (by decide) rfl rfl (g := (mkF m 359 #[.val (.ref a), .val (.ref tx), .val (.int off), .val (.int ln), .val (.int D)] [(.int (ex + (1 : Int32))), (.ref a)])) rfl rfl (hb hby own_d_read_359)
          refine own_by (T' := T8) (g' := (mkF m 362 #[.val (.ref a), .val (.ref tx), .val (.int off), .val (.int ln), .val (.int D)] [])) st8 ?_
          have N8 := Fr.snoc X8 N1 G0
          have f9 := Nat.le_trans u0 (Keep.of_wr W8).1
          have f10 := Keep.wr u1 W8 (Or.inl (List.mem_of_getElem? (i := 0) rfl))
          have f11 := Exa.wr W8 u2
          have f12 := own_Ia_other W8 u3 n1
          have f13 := Fld.other W8 u4 (Or.inr (slot_ne (Or.inl (hw _ (List.mem_of_getElem? (i := 22) rfl))) (Or.inl (hw _ (List.mem_of_getElem? (i := 48) rfl))) (by decide) (t := (.array .char)) (t' := .int) (by decide) (by decide)))
          have f14 := Fld.other W8 u5 (Or.inr (slot_ne (Or.inl (hw _ (List.mem_of_getElem? (i := 24) rfl))) (Or.inl (hw _ (List.mem_of_getElem? (i := 48) rfl))) (by decide) (t := .int) (t' := .int) (by decide) (by decide)))
          have f15 := Fld.other W8 u6 (Or.inr (slot_ne (Or.inl (hw _ (List.mem_of_getElem? (i := 26) rfl))) (Or.inl (hw _ (List.mem_of_getElem? (i := 48) rfl))) (by decide) (t := .int) (t' := .int) (by decide) (by decide)))
          have f16 := Fld.other W8 u7 (Or.inr (slot_ne (Or.inl (hw _ (List.mem_of_getElem? (i := 28) rfl))) (Or.inl (hw _ (List.mem_of_getElem? (i := 48) rfl))) (by decide) (t := .boolean) (t' := .int) (by decide) (by decide)))
          have f17 := Fld.other W8 u8 (Or.inr (slot_ne (Or.inl (hw _ (List.mem_of_getElem? (i := 30) rfl))) (Or.inl (hw _ (List.mem_of_getElem? (i := 48) rfl))) (by decide) (t := .int) (t' := .int) (by decide) (by decide)))
          have f18 := Fld.other W8 u9 (Or.inr (slot_ne (Or.inl (hw _ (List.mem_of_getElem? (i := 32) rfl))) (Or.inl (hw _ (List.mem_of_getElem? (i := 48) rfl))) (by decide) (t := .int) (t' := .int) (by decide) (by decide)))
          have f19 := Fld.other W8 u10 (Or.inr (slot_ne (Or.inl (hw _ (List.mem_of_getElem? (i := 34) rfl))) (Or.inl (hw _ (List.mem_of_getElem? (i := 48) rfl))) (by decide) (t := .int) (t' := .int) (by decide) (by decide)))
          have f20 := Fld.other W8 u11 (Or.inr (slot_ne (Or.inl (hw _ (List.mem_of_getElem? (i := 36) rfl))) (Or.inl (hw _ (List.mem_of_getElem? (i := 48) rfl))) (by decide) (t := .int) (t' := .int) (by decide) (by decide)))
          have f21 := Fld.other W8 u12 (Or.inr (slot_ne (Or.inl (hw _ (List.mem_of_getElem? (i := 42) rfl))) (Or.inl (hw _ (List.mem_of_getElem? (i := 48) rfl))) (by decide) (t := .int) (t' := .int) (by decide) (by decide)))
          have f22 := Fld.same W8 u13
          have f23 := Fld.other W8 u14 (Or.inr (slot_ne (Or.inl (hw _ (List.mem_of_getElem? (i := 50) rfl))) (Or.inl (hw _ (List.mem_of_getElem? (i := 48) rfl))) (by decide) (t := .boolean) (t' := .int) (by decide) (by decide)))
          refine own_by (T' := T8) (g' := (mkF m 330 #[.val (.ref a), .val (.ref tx), .val (.int off), .val (.int ln), .val (.int D)] [])) (fun t_ k_ => XS.goto X8.here hx rfl (pc0 := 362) (pc' := 330) rfl (hb hby own_d_read_362) (by decide) (by decide) k_) ?_
          exact ih D ng dg en pt fi la (ex + (1 : Int32)) ne T8 h8 _ X8 e8 N8 f9 f10 f11 f12 f13 f14 f15 f16 f17 f18 f19 f20 f21 f22 f23 hR (own_p1 ex _ x1 (own_lt2 off ln ex kk ho hl hs x2)) (own_p2 off ln ex kk ho hl hs x1 x2)
        · skip
          refine own_by (T' := T5) (g' := (mkF m 365 #[.val (.ref a), .val (.ref tx), .val (.int off), .val (.int ln), .val (.int D)] [])) (fun t_ k_ => XS.icmpYes X5.here hx rfl (pc0 := 349) (pc' := 365) rfl (hb hby own_d_read_349) rfl (feq (c349_6 : ¬ ((f ex.toNatClampNeg) = (48 : Int32)))).2 (by decide) (by decide) k_) ?_
          refine own_by (T' := T5) (g' := (mkF m 366 #[.val (.ref a), .val (.ref tx), .val (.int off), .val (.int ln), .val (.int D)] [(.ref a)])) (fun t_ k_ => XS.aloadN X5.here hx rfl (hb hby own_d_read_365) rfl rfl k_) ?_
          refine own_retR X5 hx Bd.returns hlk rfl rfl (hb hby own_d_read_366) (by decide) (by decide) ?_
          rw [e5]
          exact ⟨_, _, _, _, _, _, _, _, rfl, N1, u1, u2, u4, u5, u6, u7, u8, u9, u10, u11, u12, u13, u14, hR⟩
  have m243 : ∀ (D : Int32) (ng : Int32) (dg : Int32) (en : Int32) (pt : Int32) (fi : Int32) (la : Int32) (ex : Int32) (ne : Int32) (T1 : State) (hh : Heap) (lo : List Loc), Stand p l e ({ frames := 1, cells := 0, slots := 0, locals := 14 } : Room) s m #[(.ref a), (.ref tx), (.int off), (.int ln)] below meth c T1 lo 0 0 → T1.heap = hh → Fr n0 lo → n0 ≤ hh.size → Keep h0 hh [a] → Exa Z hh a "com/example/enumconv/enumconv/core/Decimal$Reading" → own_Ia Z hh tx .char 6 f → Fld Z hh a "com/example/enumconv/enumconv/core/Decimal$Reading" "text" "[C" (.ref tx) → Fld Z hh a "com/example/enumconv/enumconv/core/Decimal$Reading" "start" "I" (.int off) → Fld Z hh a "com/example/enumconv/enumconv/core/Decimal$Reading" "stop" "I" (.int (off + ln)) → Fld Z hh a "com/example/enumconv/enumconv/core/Decimal$Reading" "negative" "Z" (.int ng) → Fld Z hh a "com/example/enumconv/enumconv/core/Decimal$Reading" "digitsAt" "I" (.int dg) → Fld Z hh a "com/example/enumconv/enumconv/core/Decimal$Reading" "end" "I" (.int en) → Fld Z hh a "com/example/enumconv/enumconv/core/Decimal$Reading" "point" "I" (.int pt) → Fld Z hh a "com/example/enumconv/enumconv/core/Decimal$Reading" "first" "I" (.int fi) → Fld Z hh a "com/example/enumconv/enumconv/core/Decimal$Reading" "last" "I" (.int la) → Fld Z hh a "com/example/enumconv/enumconv/core/Decimal$Reading" "exponentAt" "I" (.int ex) → Fld Z hh a "com/example/enumconv/enumconv/core/Decimal$Reading" "negativeExponent" "Z" (.int ne) → (own_R f off (off + ln) pt en) → (0 ≤ en.toInt) → (en.toInt ≤ off.toInt + ln.toInt) → own_Goes p e below (own_K (own_Q_read Z a tx off ln f u_text u_start u_stop u_negative u_digitsAt u_end u_point u_first u_last u_exponentAt u_negativeExponent h0 n0) s ({ frames := 1, cells := 0, slots := 0, locals := 14 } : Room).cells ({ frames := 1, cells := 0, slots := 0, locals := 14 } : Room).slots) T1 (mkF m 243 #[.val (.ref a), .val (.ref tx), .val (.int off), .val (.int ln), .val (.int D)] []) := by
    intro D ng dg en pt fi la ex ne T1 hh lo X1 e1 N1 u0 u1 u2 u3 u4 u5 u6 u7 u8 u9 u10 u11 u12 u13 u14 hR x1 x2
    refine own_by (T' := T1) (g' := (mkF m 244 #[.val (.ref a), .val (.ref tx), .val (.int off), .val (.int ln), .val (.int D)] [(.ref a)])) (fun t_ k_ => XS.aloadN X1.here hx rfl (hb hby own_d_read_243) rfl rfl k_) ?_
    refine own_by (T' := T1) (g' := (mkF m 245 #[.val (.ref a), .val (.ref tx), .val (.int off), .val (.int ln), .val (.int D)] [(.ref a), (.ref a)])) (fun t_ k_ => XS.aloadN X1.here hx rfl (hb hby own_d_read_244) rfl rfl k_) ?_
    obtain ⟨T24, X24, e24, st24⟩ := getF X1 hx hZ hown (host := "") (Or.inl (hw _ (List.mem_of_getElem? (i := 31) rfl))) Via.refl e1 u9 (g := (mkF m 245 #[.val (.ref a), .val (.ref tx), .val (.int off), .val (.int ln), .val (.int D)] [(.ref a), (.ref a)])) rfl rfl (hb hby own_d_read_245)
    refine own_by (T' := T24) (g' := (mkF m 248 #[.val (.ref a), .val (.ref tx), .val (.int off), .val (.int ln), .val (.int D)] [(.int en), (.ref a)])) st24 ?_
    refine own_by (T' := T24) (g' := (mkF m 249 #[.val (.ref a), .val (.ref tx), .val (.int off), .val (.int ln), .val (.int D)] [(.int (1 : Int32)), (.int en), (.ref a)])) (fun t_ k_ => XS.iconst X24.here hx rfl (hb hby own_d_read_248) k_) ?_
    refine own_by (T' := T24) (g' := (mkF m 250 #[.val (.ref a), .val (.ref tx), .val (.int off), .val (.int ln), .val (.int D)] [(.int (en + (1 : Int32))), (.ref a)])) (fun t_ k_ => XS.iadd X24.here hx rfl (hb hby own_d_read_249) rfl k_) ?_
    refine own_by (T' := T24) (g' := (mkF m 251 #[.val (.ref a), .val (.ref tx), .val (.int off), .val (.int ln), .val (.int D)] [(.ref a), (.int (en + (1 : Int32))), (.ref a)])) (fun t_ k_ => XS.aloadN X24.here hx rfl (hb hby own_d_read_250) rfl rfl k_) ?_
    obtain ⟨T25, X25, e25, st25⟩ := getF X24 hx hZ hown (host := "") (Or.inl (hw _ (List.mem_of_getElem? (i := 25) rfl))) Via.refl e24 u6 (g := (mkF m 251 #[.val (.ref a), .val (.ref tx), .val (.int off), .val (.int ln), .val (.int D)] [(.ref a), (.int (en + (1 : Int32))), (.ref a)])) rfl rfl (hb hby own_d_read_251)
    refine own_by (T' := T25) (g' := (mkF m 254 #[.val (.ref a), .val (.ref tx), .val (.int off), .val (.int ln), .val (.int D)] [(.int (off + ln)), (.int (en + (1 : Int32))), (.ref a)])) st25 ?_
    obtain ⟨_, T26, L26, X26, hQ26, st26⟩ := own_callS X25 hx hZ (y := (⟨"java/lang/Math", "min", "(II)I"⟩ : MethodName)) hown (hw _ (List.mem_of_getElem? (i := 43) rfl)) (hw _ (List.mem_of_getElem? (i := 44) rfl)) (hw _ (List.mem_of_getElem? (i := 45) rfl)) (hw _ (List.mem_of_getElem? (i := 46) rfl)) (by decide) (argsL := [(.int (en + (1 : Int32))), (.int (off + ln))]) (rest := [(.ref a)]) (own_rm_mi l Z a0 hw [] (en + (1 : Int32)) (off + ln)  hh n0 u0 ) e25 (W := 1) (by decide) (by decide) (by decide) (by decide) (g := (mkF m 254 #[.val (.ref a), .val (.ref tx), .val (.int off), .val (.int ln), .val (.int D)] [(.int (off + ln)), (.int (en + (1 : Int32))), (.ref a)])) rfl (by rw [hml]; rfl) (lenOf own_pd0 rfl) rfl (by show 2 * 0 + _ ≤ _; exact Nat.le_of_eq rfl) (hb hby own_d_read_254)
    obtain ⟨rfl, Nq26, e26⟩ := hQ26
    have N26 := Fr.app N1 Nq26
    refine st26 _ ?_
    show own_Goes p e below _ T26 (mkF m 257 #[.val (.ref a), .val (.ref tx), .val (.int off), .val (.int ln), .val (.int D)] [(.int (if (off + ln) < (en + (1 : Int32)) then (off + ln) else (en + (1 : Int32)))), (.ref a)])
    obtain ⟨T27, h27, X27, e27, W27, st27⟩ := putF X26 hx hZ hown (host := "") (Or.inl (hw _ (List.mem_of_getElem? (i := 47) rfl))) Via.refl e26 u13 u2 (Or.inl (hw _ (List.mem_of_getElem? (i := 48) rfl))) (hw _ (List.mem_of_getElem? (i := 8) rfl)) (ty := .int) (by decide) rfl rfl (g := (mkF m 257 #[.val (.ref a), .val (.ref tx), .val (.int off), .val (.int ln), .val (.int D)] [(.int (if (off + ln) < (en + (1 : Int32)) then (off + ln) else (en + (1 : Int32)))), (.ref a)])) rfl rfl (hb hby own_d_read_257)
    refine own_by (T' := T27) (g' := (mkF m 260 #[.val (.ref a), .val (.ref tx), .val (.int off), .val (.int ln), .val (.int D)] [])) st27 ?_
    have N27 := Fr.snoc X27 N26 G0
    have f28 := Nat.le_trans u0 (Keep.of_wr W27).1
    have f29 := Keep.wr u1 W27 (Or.inl (List.mem_of_getElem? (i := 0) rfl))
    have f30 := Exa.wr W27 u2
    have f31 := own_Ia_other W27 u3 n1
    have f32 := Fld.other W27 u4 (Or.inr (slot_ne (Or.inl (hw _ (List.mem_of_getElem? (i := 22) rfl))) (Or.inl (hw _ (List.mem_of_getElem? (i := 48) rfl))) (by decide) (t := (.array .char)) (t' := .int) (by decide) (by decide)))
    have f33 := Fld.other W27 u5 (Or.inr (slot_ne (Or.inl (hw _ (List.mem_of_getElem? (i := 24) rfl))) (Or.inl (hw _ (List.mem_of_getElem? (i := 48) rfl))) (by decide) (t := .int) (t' := .int) (by decide) (by decide)))
    have f34 := Fld.other W27 u6 (Or.inr (slot_ne (Or.inl (hw _ (List.mem_of_getElem? (i := 26) rfl))) (Or.inl (hw _ (List.mem_of_getElem? (i := 48) rfl))) (by decide) (t := .int) (t' := .int) (by decide) (by decide)))
    have f35 := Fld.other W27 u7 (Or.inr (slot_ne (Or.inl (hw _ (List.mem_of_getElem? (i := 28) rfl))) (Or.inl (hw _ (List.mem_of_getElem? (i := 48) rfl))) (by decide) (t := .boolean) (t' := .int) (by decide) (by decide)))
    have f36 := Fld.other W27 u8 (Or.inr (slot_ne (Or.inl (hw _ (List.mem_of_getElem? (i := 30) rfl))) (Or.inl (hw _ (List.mem_of_getElem? (i := 48) rfl))) (by decide) (t := .int) (t' := .int) (by decide) (by decide)))
    have f37 := Fld.other W27 u9 (Or.inr (slot_ne (Or.inl (hw _ (List.mem_of_getElem? (i := 32) rfl))) (Or.inl (hw _ (List.mem_of_getElem? (i := 48) rfl))) (by decide) (t := .int) (t' := .int) (by decide) (by decide)))
    have f38 := Fld.other W27 u10 (Or.inr (slot_ne (Or.inl (hw _ (List.mem_of_getElem? (i := 34) rfl))) (Or.inl (hw _ (List.mem_of_getElem? (i := 48) rfl))) (by decide) (t := .int) (t' := .int) (by decide) (by decide)))
    have f39 := Fld.other W27 u11 (Or.inr (slot_ne (Or.inl (hw _ (List.mem_of_getElem? (i := 36) rfl))) (Or.inl (hw _ (List.mem_of_getElem? (i := 48) rfl))) (by decide) (t := .int) (t' := .int) (by decide) (by decide)))
    have f40 := Fld.other W27 u12 (Or.inr (slot_ne (Or.inl (hw _ (List.mem_of_getElem? (i := 42) rfl))) (Or.inl (hw _ (List.mem_of_getElem? (i := 48) rfl))) (by decide) (t := .int) (t' := .int) (by decide) (by decide)))
    have f41 := Fld.same W27 u13
    have f42 := Fld.other W27 u14 (Or.inr (slot_ne (Or.inl (hw _ (List.mem_of_getElem? (i := 50) rfl))) (Or.inl (hw _ (List.mem_of_getElem? (i := 48) rfl))) (by decide) (t := .boolean) (t' := .int) (by decide) (by decide)))
    refine own_by (T' := T27) (g' := (mkF m 261 #[.val (.ref a), .val (.ref tx), .val (.int off), .val (.int ln), .val (.int D)] [(.ref a)])) (fun t_ k_ => XS.aloadN X27.here hx rfl (hb hby own_d_read_260) rfl rfl k_) ?_
    refine own_by (T' := T27) (g' := (mkF m 262 #[.val (.ref a), .val (.ref tx), .val (.int off), .val (.int ln), .val (.int D)] [(.ref a), (.ref a)])) (fun t_ k_ => XS.aloadN X27.here hx rfl (hb hby own_d_read_261) rfl rfl k_) ?_
    obtain ⟨T43, X43, e43, st43⟩ := getF X27 hx hZ hown (host := "") (Or.inl (hw _ (List.mem_of_getElem? (i := 47) rfl))) Via.refl e27 f41 (g := (mkF m 262 #[.val (.ref a), .val (.ref tx), .val (.int off), .val (.int ln), .val (.int D)] [(.ref a), (.ref a)])) rfl rfl (hb hby own_d_read_262)
    refine own_by (T' := T43) (g' := (mkF m 265 #[.val (.ref a), .val (.ref tx), .val (.int off), .val (.int ln), .val (.int D)] [(.int (if (off + ln) < (en + (1 : Int32)) then (off + ln) else (en + (1 : Int32)))), (.ref a)])) st43 ?_
    refine own_by (T' := T43) (g' := (mkF m 266 #[.val (.ref a), .val (.ref tx), .val (.int off), .val (.int ln), .val (.int D)] [(.ref a), (.int (if (off + ln) < (en + (1 : Int32)) then (off + ln) else (en + (1 : Int32)))), (.ref a)])) (fun t_ k_ => XS.aloadN X43.here hx rfl (hb hby own_d_read_265) rfl rfl k_) ?_
    obtain ⟨T44, X44, e44, st44⟩ := getF X43 hx hZ hown (host := "") (Or.inl (hw _ (List.mem_of_getElem? (i := 25) rfl))) Via.refl e43 f34 (g := (mkF m 266 #[.val (.ref a), .val (.ref tx), .val (.int off), .val (.int ln), .val (.int D)] [(.ref a), (.int (if (off + ln) < (en + (1 : Int32)) then (off + ln) else (en + (1 : Int32)))), (.ref a)])) rfl rfl (hb hby own_d_read_266)
    refine own_by (T' := T44) (g' := (mkF m 269 #[.val (.ref a), .val (.ref tx), .val (.int off), .val (.int ln), .val (.int D)] [(.int (off + ln)), (.int (if (off + ln) < (en + (1 : Int32)) then (off + ln) else (en + (1 : Int32)))), (.ref a)])) st44 ?_
    by_cases c269_45 : (if (off + ln) < (en + (1 : Int32)) then (off + ln) else (en + (1 : Int32))) < (off + ln)
    · skip
      refine own_by (T' := T44) (g' := (mkF m 272 #[.val (.ref a), .val (.ref tx), .val (.int off), .val (.int ln), .val (.int D)] [(.ref a)])) (fun t_ k_ => XS.icmpNo X44.here hx rfl (hb hby own_d_read_269) rfl (tlt (c269_45 : (if (off + ln) < (en + (1 : Int32)) then (off + ln) else (en + (1 : Int32))) < (off + ln))).2.1 k_) ?_
      refine own_by (T' := T44) (g' := (mkF m 273 #[.val (.ref a), .val (.ref tx), .val (.int off), .val (.int ln), .val (.int D)] [(.ref tx), (.ref a)])) (fun t_ k_ => XS.aloadN X44.here hx rfl (hb hby own_d_read_272) rfl rfl k_) ?_
      refine own_by (T' := T44) (g' := (mkF m 274 #[.val (.ref a), .val (.ref tx), .val (.int off), .val (.int ln), .val (.int D)] [(.ref a), (.ref tx), (.ref a)])) (fun t_ k_ => XS.aloadN X44.here hx rfl (hb hby own_d_read_273) rfl rfl k_) ?_
      obtain ⟨T46, X46, e46, st46⟩ := getF X44 hx hZ hown (host := "") (Or.inl (hw _ (List.mem_of_getElem? (i := 47) rfl))) Via.refl e44 f41 (g := (mkF m 274 #[.val (.ref a), .val (.ref tx), .val (.int off), .val (.int ln), .val (.int D)] [(.ref a), (.ref tx), (.ref a)])) rfl rfl (hb hby own_d_read_274)
      refine own_by (T' := T46) (g' := (mkF m 277 #[.val (.ref a), .val (.ref tx), .val (.int off), .val (.int ln), .val (.int D)] [(.int (if (off + ln) < (en + (1 : Int32)) then (off + ln) else (en + (1 : Int32)))), (.ref tx), (.ref a)])) st46 ?_
      refine own_by (T' := T46) (g' := (mkF m 278 #[.val (.ref a), .val (.ref tx), .val (.int off), .val (.int ln), .val (.int D)] [(.int (f ((if (off + ln) < (en + (1 : Int32)) then (off + ln) else (en + (1 : Int32)))).toNatClampNeg)), (.ref a)])) (fun t_ k_ => own_cal X46 hx hZ e46 f31 (j := (if (off + ln) < (en + (1 : Int32)) then (off + ln) else (en + (1 : Int32)))) (own_m1 off ln en ho hl hs x1 x2 c269_45).1 (own_m1 off ln en ho hl hs x1 x2 c269_45).2 (g := (mkF m 277 #[.val (.ref a), .val (.ref tx), .val (.int off), .val (.int ln), .val (.int D)] [(.int (if (off + ln) < (en + (1 : Int32)) then (off + ln) else (en + (1 : Int32)))), (.ref tx), (.ref a)])) rfl rfl (hb hby own_d_read_277) _ k_) ?_
      refine own_by (T' := T46) (g' := (mkF m 280 #[.val (.ref a), .val (.ref tx), .val (.int off), .val (.int ln), .val (.int D)] [(.int (45 : Int32)), (.int (f ((if (off + ln) < (en + (1 : Int32)) then (off + ln) else (en + (1 : Int32)))).toNatClampNeg)), (.ref a)])) (fun t_ k_ => XS.bipush X46.here hx rfl (hb hby own_d_read_278) k_) ?_
      by_cases c280_47 : (f ((if (off + ln) < (en + (1 : Int32)) then (off + ln) else (en + (1 : Int32)))).toNatClampNeg) = (45 : Int32)
      · skip
        refine own_by (T' := T46) (g' := (mkF m 283 #[.val (.ref a), .val (.ref tx), .val (.int off), .val (.int ln), .val (.int D)] [(.ref a)])) (fun t_ k_ => XS.icmpNo X46.here hx rfl (hb hby own_d_read_280) rfl (teq (c280_47 : (f ((if (off + ln) < (en + (1 : Int32)) then (off + ln) else (en + (1 : Int32)))).toNatClampNeg) = (45 : Int32))).2 k_) ?_
        refine own_by (T' := T46) (g' := (mkF m 284 #[.val (.ref a), .val (.ref tx), .val (.int off), .val (.int ln), .val (.int D)] [(.int (1 : Int32)), (.ref a)])) (fun t_ k_ => XS.iconst X46.here hx rfl (hb hby own_d_read_283) k_) ?_
        refine own_by (T' := T46) (g' := (mkF m 288 #[.val (.ref a), .val (.ref tx), .val (.int off), .val (.int ln), .val (.int D)] [(.int (1 : Int32)), (.ref a)])) (fun t_ k_ => XS.goto X46.here hx rfl (pc0 := 284) (pc' := 288) rfl (hb hby own_d_read_284) (by decide) (by decide) k_) ?_
        obtain ⟨T48, h48, X48, e48, W48, st48⟩ := putF X46 hx hZ hown (host := "") (Or.inl (hw _ (List.mem_of_getElem? (i := 49) rfl))) Via.refl e46 f42 f30 (Or.inl (hw _ (List.mem_of_getElem? (i := 50) rfl))) (hw _ (List.mem_of_getElem? (i := 8) rfl)) (ty := .boolean) (by decide) rfl rfl (g := (mkF m 288 #[.val (.ref a), .val (.ref tx), .val (.int off), .val (.int ln), .val (.int D)] [(.int (1 : Int32)), (.ref a)])) rfl rfl (hb hby own_d_read_288)
        refine own_by (T' := T48) (g' := (mkF m 291 #[.val (.ref a), .val (.ref tx), .val (.int off), .val (.int ln), .val (.int D)] [])) st48 ?_
        have N48 := Fr.snoc X48 N27 G0
        have f49 := Nat.le_trans f28 (Keep.of_wr W48).1
        have f50 := Keep.wr f29 W48 (Or.inl (List.mem_of_getElem? (i := 0) rfl))
        have f51 := Exa.wr W48 f30
        have f52 := own_Ia_other W48 f31 n1
        have f53 := Fld.other W48 f32 (Or.inr (slot_ne (Or.inl (hw _ (List.mem_of_getElem? (i := 22) rfl))) (Or.inl (hw _ (List.mem_of_getElem? (i := 50) rfl))) (by decide) (t := (.array .char)) (t' := .boolean) (by decide) (by decide)))
        have f54 := Fld.other W48 f33 (Or.inr (slot_ne (Or.inl (hw _ (List.mem_of_getElem? (i := 24) rfl))) (Or.inl (hw _ (List.mem_of_getElem? (i := 50) rfl))) (by decide) (t := .int) (t' := .boolean) (by decide) (by decide)))
        have f55 := Fld.other W48 f34 (Or.inr (slot_ne (Or.inl (hw _ (List.mem_of_getElem? (i := 26) rfl))) (Or.inl (hw _ (List.mem_of_getElem? (i := 50) rfl))) (by decide) (t := .int) (t' := .boolean) (by decide) (by decide)))
        have f56 := Fld.other W48 f35 (Or.inr (slot_ne (Or.inl (hw _ (List.mem_of_getElem? (i := 28) rfl))) (Or.inl (hw _ (List.mem_of_getElem? (i := 50) rfl))) (by decide) (t := .boolean) (t' := .boolean) (by decide) (by decide)))
        have f57 := Fld.other W48 f36 (Or.inr (slot_ne (Or.inl (hw _ (List.mem_of_getElem? (i := 30) rfl))) (Or.inl (hw _ (List.mem_of_getElem? (i := 50) rfl))) (by decide) (t := .int) (t' := .boolean) (by decide) (by decide)))
        have f58 := Fld.other W48 f37 (Or.inr (slot_ne (Or.inl (hw _ (List.mem_of_getElem? (i := 32) rfl))) (Or.inl (hw _ (List.mem_of_getElem? (i := 50) rfl))) (by decide) (t := .int) (t' := .boolean) (by decide) (by decide)))
        have f59 := Fld.other W48 f38 (Or.inr (slot_ne (Or.inl (hw _ (List.mem_of_getElem? (i := 34) rfl))) (Or.inl (hw _ (List.mem_of_getElem? (i := 50) rfl))) (by decide) (t := .int) (t' := .boolean) (by decide) (by decide)))
        have f60 := Fld.other W48 f39 (Or.inr (slot_ne (Or.inl (hw _ (List.mem_of_getElem? (i := 36) rfl))) (Or.inl (hw _ (List.mem_of_getElem? (i := 50) rfl))) (by decide) (t := .int) (t' := .boolean) (by decide) (by decide)))
        have f61 := Fld.other W48 f40 (Or.inr (slot_ne (Or.inl (hw _ (List.mem_of_getElem? (i := 42) rfl))) (Or.inl (hw _ (List.mem_of_getElem? (i := 50) rfl))) (by decide) (t := .int) (t' := .boolean) (by decide) (by decide)))
        have f62 := Fld.other W48 f41 (Or.inr (slot_ne (Or.inl (hw _ (List.mem_of_getElem? (i := 48) rfl))) (Or.inl (hw _ (List.mem_of_getElem? (i := 50) rfl))) (by decide) (t := .int) (t' := .boolean) (by decide) (by decide)))
        have f63 := Fld.same W48 f42
        refine own_by (T' := T48) (g' := (mkF m 292 #[.val (.ref a), .val (.ref tx), .val (.int off), .val (.int ln), .val (.int D)] [(.ref a)])) (fun t_ k_ => XS.aloadN X48.here hx rfl (hb hby own_d_read_291) rfl rfl k_) ?_
        obtain ⟨T64, X64, e64, st64⟩ := getF X48 hx hZ hown (host := "") (Or.inl (hw _ (List.mem_of_getElem? (i := 47) rfl))) Via.refl e48 f62 (g := (mkF m 292 #[.val (.ref a), .val (.ref tx), .val (.int off), .val (.int ln), .val (.int D)] [(.ref a)])) rfl rfl (hb hby own_d_read_292)
        refine own_by (T' := T64) (g' := (mkF m 295 #[.val (.ref a), .val (.ref tx), .val (.int off), .val (.int ln), .val (.int D)] [(.int (if (off + ln) < (en + (1 : Int32)) then (off + ln) else (en + (1 : Int32))))])) st64 ?_
        refine own_by (T' := T64) (g' := (mkF m 296 #[.val (.ref a), .val (.ref tx), .val (.int off), .val (.int ln), .val (.int D)] [(.ref a), (.int (if (off + ln) < (en + (1 : Int32)) then (off + ln) else (en + (1 : Int32))))])) (fun t_ k_ => XS.aloadN X64.here hx rfl (hb hby own_d_read_295) rfl rfl k_) ?_
        obtain ⟨T65, X65, e65, st65⟩ := getF X64 hx hZ hown (host := "") (Or.inl (hw _ (List.mem_of_getElem? (i := 25) rfl))) Via.refl e64 f55 (g := (mkF m 296 #[.val (.ref a), .val (.ref tx), .val (.int off), .val (.int ln), .val (.int D)] [(.ref a), (.int (if (off + ln) < (en + (1 : Int32)) then (off + ln) else (en + (1 : Int32))))])) rfl rfl (hb hby own_d_read_296)
        refine own_by (T' := T65) (g' := (mkF m 299 #[.val (.ref a), .val (.ref tx), .val (.int off), .val (.int ln), .val (.int D)] [(.int (off + ln)), (.int (if (off + ln) < (en + (1 : Int32)) then (off + ln) else (en + (1 : Int32))))])) st65 ?_
        by_cases c299_66 : (if (off + ln) < (en + (1 : Int32)) then (off + ln) else (en + (1 : Int32))) < (off + ln)
        · skip
          refine own_by (T' := T65) (g' := (mkF m 302 #[.val (.ref a), .val (.ref tx), .val (.int off), .val (.int ln), .val (.int D)] [])) (fun t_ k_ => XS.icmpNo X65.here hx rfl (hb hby own_d_read_299) rfl (tlt (c299_66 : (if (off + ln) < (en + (1 : Int32)) then (off + ln) else (en + (1 : Int32))) < (off + ln))).2.1 k_) ?_
          refine own_by (T' := T65) (g' := (mkF m 303 #[.val (.ref a), .val (.ref tx), .val (.int off), .val (.int ln), .val (.int D)] [(.ref a)])) (fun t_ k_ => XS.aloadN X65.here hx rfl (hb hby own_d_read_302) rfl rfl k_) ?_
          obtain ⟨T67, X67, e67, st67⟩ := getF X65 hx hZ hown (host := "") (Or.inl (hw _ (List.mem_of_getElem? (i := 49) rfl))) Via.refl e65 f63 (g := (mkF m 303 #[.val (.ref a), .val (.ref tx), .val (.int off), .val (.int ln), .val (.int D)] [(.ref a)])) rfl rfl (hb hby own_d_read_303)
          refine own_by (T' := T67) (g' := (mkF m 306 #[.val (.ref a), .val (.ref tx), .val (.int off), .val (.int ln), .val (.int D)] [(.int (1 : Int32))])) st67 ?_
          refine own_by (T' := T67) (g' := (mkF m 320 #[.val (.ref a), .val (.ref tx), .val (.int off), .val (.int ln), .val (.int D)] [])) (fun t_ k_ => XS.ifYes X67.here hx rfl (pc0 := 306) (pc' := 320) rfl (hb hby own_d_read_306) rfl ((if0 _ _).trans (feq ((by decide) : ¬ ((1 : Int32) = (0 : Int32)))).2) (by decide) (by decide) k_) ?_
          refine own_by (T' := T67) (g' := (mkF m 321 #[.val (.ref a), .val (.ref tx), .val (.int off), .val (.int ln), .val (.int D)] [(.ref a)])) (fun t_ k_ => XS.aloadN X67.here hx rfl (hb hby own_d_read_320) rfl rfl k_) ?_
          refine own_by (T' := T67) (g' := (mkF m 322 #[.val (.ref a), .val (.ref tx), .val (.int off), .val (.int ln), .val (.int D)] [(.ref a), (.ref a)])) (fun t_ k_ => XS.dup X67.here hx rfl (hb hby own_d_read_321) rfl rfl k_) ?_
          obtain ⟨T68, X68, e68, st68⟩ := getF X67 hx hZ hown (host := "") (Or.inl (hw _ (List.mem_of_getElem? (i := 47) rfl))) Via.refl e67 f62 (g := (mkF m 322 #[.val (.ref a), .val (.ref tx), .val (.int off), .val (.int ln), .val (.int D)] [(.ref a), (.ref a)])) rfl rfl (hb hby own_d_read_322)
          refine own_by (T' := T68) (g' := (mkF m 325 #[.val (.ref a), .val (.ref tx), .val (.int off), .val (.int ln), .val (.int D)] [(.int (if (off + ln) < (en + (1 : Int32)) then (off + ln) else (en + (1 : Int32)))), (.ref a)])) st68 ?_
          refine own_by (T' := T68) (g' := (mkF m 326 #[.val (.ref a), .val (.ref tx), .val (.int off), .val (.int ln), .val (.int D)] [(.int (1 : Int32)), (.int (if (off + ln) < (en + (1 : Int32)) then (off + ln) else (en + (1 : Int32)))), (.ref a)])) (fun t_ k_ => XS.iconst X68.here hx rfl (hb hby own_d_read_325) k_) ?_
          refine own_by (T' := T68) (g' := (mkF m 327 #[.val (.ref a), .val (.ref tx), .val (.int off), .val (.int ln), .val (.int D)] [(.int ((if (off + ln) < (en + (1 : Int32)) then (off + ln) else (en + (1 : Int32))) + (1 : Int32))), (.ref a)])) (fun t_ k_ => XS.iadd X68.here hx rfl (hb hby own_d_read_326) rfl k_) ?_
          obtain ⟨T69, h69, X69, e69, W69, st69⟩ := putF X68 hx hZ hown (host := "") (Or.inl (hw _ (List.mem_of_getElem? (i := 47) rfl))) Via.refl e68 f62 f51 (Or.inl (hw _ (List.mem_of_getElem? (i := 48) rfl))) (hw _ (List.mem_of_getElem? (i := 8) rfl)) (ty := .int) (by decide) rfl rfl (g := (mkF m 327 #[.val (.ref a), .val (.ref tx), .val (.int off), .val (.int ln), .val (.int D)] [(.int ((if (off + ln) < (en + (1 : Int32)) then (off + ln) else (en + (1 : Int32))) + (1 : Int32))), (.ref a)])) rfl rfl (hb hby own_d_read_327)
          refine own_by (T' := T69) (g' := (mkF m 330 #[.val (.ref a), .val (.ref tx), .val (.int off), .val (.int ln), .val (.int D)] [])) st69 ?_
          have N69 := Fr.snoc X69 N48 G0
          have f70 := Nat.le_trans f49 (Keep.of_wr W69).1
          have f71 := Keep.wr f50 W69 (Or.inl (List.mem_of_getElem? (i := 0) rfl))
          have f72 := Exa.wr W69 f51
          have f73 := own_Ia_other W69 f52 n1
          have f74 := Fld.other W69 f53 (Or.inr (slot_ne (Or.inl (hw _ (List.mem_of_getElem? (i := 22) rfl))) (Or.inl (hw _ (List.mem_of_getElem? (i := 48) rfl))) (by decide) (t := (.array .char)) (t' := .int) (by decide) (by decide)))
          have f75 := Fld.other W69 f54 (Or.inr (slot_ne (Or.inl (hw _ (List.mem_of_getElem? (i := 24) rfl))) (Or.inl (hw _ (List.mem_of_getElem? (i := 48) rfl))) (by decide) (t := .int) (t' := .int) (by decide) (by decide)))
          have f76 := Fld.other W69 f55 (Or.inr (slot_ne (Or.inl (hw _ (List.mem_of_getElem? (i := 26) rfl))) (Or.inl (hw _ (List.mem_of_getElem? (i := 48) rfl))) (by decide) (t := .int) (t' := .int) (by decide) (by decide)))
          have f77 := Fld.other W69 f56 (Or.inr (slot_ne (Or.inl (hw _ (List.mem_of_getElem? (i := 28) rfl))) (Or.inl (hw _ (List.mem_of_getElem? (i := 48) rfl))) (by decide) (t := .boolean) (t' := .int) (by decide) (by decide)))
          have f78 := Fld.other W69 f57 (Or.inr (slot_ne (Or.inl (hw _ (List.mem_of_getElem? (i := 30) rfl))) (Or.inl (hw _ (List.mem_of_getElem? (i := 48) rfl))) (by decide) (t := .int) (t' := .int) (by decide) (by decide)))
          have f79 := Fld.other W69 f58 (Or.inr (slot_ne (Or.inl (hw _ (List.mem_of_getElem? (i := 32) rfl))) (Or.inl (hw _ (List.mem_of_getElem? (i := 48) rfl))) (by decide) (t := .int) (t' := .int) (by decide) (by decide)))
          have f80 := Fld.other W69 f59 (Or.inr (slot_ne (Or.inl (hw _ (List.mem_of_getElem? (i := 34) rfl))) (Or.inl (hw _ (List.mem_of_getElem? (i := 48) rfl))) (by decide) (t := .int) (t' := .int) (by decide) (by decide)))
          have f81 := Fld.other W69 f60 (Or.inr (slot_ne (Or.inl (hw _ (List.mem_of_getElem? (i := 36) rfl))) (Or.inl (hw _ (List.mem_of_getElem? (i := 48) rfl))) (by decide) (t := .int) (t' := .int) (by decide) (by decide)))
          have f82 := Fld.other W69 f61 (Or.inr (slot_ne (Or.inl (hw _ (List.mem_of_getElem? (i := 42) rfl))) (Or.inl (hw _ (List.mem_of_getElem? (i := 48) rfl))) (by decide) (t := .int) (t' := .int) (by decide) (by decide)))
          have f83 := Fld.same W69 f62
          have f84 := Fld.other W69 f63 (Or.inr (slot_ne (Or.inl (hw _ (List.mem_of_getElem? (i := 50) rfl))) (Or.inl (hw _ (List.mem_of_getElem? (i := 48) rfl))) (by decide) (t := .boolean) (t' := .int) (by decide) (by decide)))
          exact l330 _ D ng dg en pt fi la (((if (off + ln) < (en + (1 : Int32)) then (off + ln) else (en + (1 : Int32))) + (1 : Int32))) (1 : Int32) T69 h69 _ X69 e69 N69 f70 f71 f72 f73 f74 f75 f76 f77 f78 f79 f80 f81 f82 f83 f84 hR (own_mn1 off ln en ho hl hs x1 x2) rfl
        · skip
          refine own_by (T' := T65) (g' := (mkF m 330 #[.val (.ref a), .val (.ref tx), .val (.int off), .val (.int ln), .val (.int D)] [])) (fun t_ k_ => XS.icmpYes X65.here hx rfl (pc0 := 299) (pc' := 330) rfl (hb hby own_d_read_299) rfl (flt (c299_66 : ¬ ((if (off + ln) < (en + (1 : Int32)) then (off + ln) else (en + (1 : Int32))) < (off + ln)))).2.1 (by decide) (by decide) k_) ?_
          exact l330 _ D ng dg en pt fi la ((if (off + ln) < (en + (1 : Int32)) then (off + ln) else (en + (1 : Int32)))) (1 : Int32) T65 h48 _ X65 e65 N48 f49 f50 f51 f52 f53 f54 f55 f56 f57 f58 f59 f60 f61 f62 f63 hR (own_mn off ln en ho hl hs x1 x2) rfl
      · skip
        refine own_by (T' := T46) (g' := (mkF m 287 #[.val (.ref a), .val (.ref tx), .val (.int off), .val (.int ln), .val (.int D)] [(.ref a)])) (fun t_ k_ => XS.icmpYes X46.here hx rfl (pc0 := 280) (pc' := 287) rfl (hb hby own_d_read_280) rfl (feq (c280_47 : ¬ ((f ((if (off + ln) < (en + (1 : Int32)) then (off + ln) else (en + (1 : Int32)))).toNatClampNeg) = (45 : Int32)))).2 (by decide) (by decide) k_) ?_
        refine own_by (T' := T46) (g' := (mkF m 288 #[.val (.ref a), .val (.ref tx), .val (.int off), .val (.int ln), .val (.int D)] [(.int (0 : Int32)), (.ref a)])) (fun t_ k_ => XS.iconst X46.here hx rfl (hb hby own_d_read_287) k_) ?_
        obtain ⟨T85, h85, X85, e85, W85, st85⟩ := putF X46 hx hZ hown (host := "") (Or.inl (hw _ (List.mem_of_getElem? (i := 49) rfl))) Via.refl e46 f42 f30 (Or.inl (hw _ (List.mem_of_getElem? (i := 50) rfl))) (hw _ (List.mem_of_getElem? (i := 8) rfl)) (ty := .boolean) (by decide) rfl rfl (g := (mkF m 288 #[.val (.ref a), .val (.ref tx), .val (.int off), .val (.int ln), .val (.int D)] [(.int (0 : Int32)), (.ref a)])) rfl rfl (hb hby own_d_read_288)
        refine own_by (T' := T85) (g' := (mkF m 291 #[.val (.ref a), .val (.ref tx), .val (.int off), .val (.int ln), .val (.int D)] [])) st85 ?_
        have N85 := Fr.snoc X85 N27 G0
        have f86 := Nat.le_trans f28 (Keep.of_wr W85).1
        have f87 := Keep.wr f29 W85 (Or.inl (List.mem_of_getElem? (i := 0) rfl))
        have f88 := Exa.wr W85 f30
        have f89 := own_Ia_other W85 f31 n1
        have f90 := Fld.other W85 f32 (Or.inr (slot_ne (Or.inl (hw _ (List.mem_of_getElem? (i := 22) rfl))) (Or.inl (hw _ (List.mem_of_getElem? (i := 50) rfl))) (by decide) (t := (.array .char)) (t' := .boolean) (by decide) (by decide)))
        have f91 := Fld.other W85 f33 (Or.inr (slot_ne (Or.inl (hw _ (List.mem_of_getElem? (i := 24) rfl))) (Or.inl (hw _ (List.mem_of_getElem? (i := 50) rfl))) (by decide) (t := .int) (t' := .boolean) (by decide) (by decide)))
        have f92 := Fld.other W85 f34 (Or.inr (slot_ne (Or.inl (hw _ (List.mem_of_getElem? (i := 26) rfl))) (Or.inl (hw _ (List.mem_of_getElem? (i := 50) rfl))) (by decide) (t := .int) (t' := .boolean) (by decide) (by decide)))
        have f93 := Fld.other W85 f35 (Or.inr (slot_ne (Or.inl (hw _ (List.mem_of_getElem? (i := 28) rfl))) (Or.inl (hw _ (List.mem_of_getElem? (i := 50) rfl))) (by decide) (t := .boolean) (t' := .boolean) (by decide) (by decide)))
        have f94 := Fld.other W85 f36 (Or.inr (slot_ne (Or.inl (hw _ (List.mem_of_getElem? (i := 30) rfl))) (Or.inl (hw _ (List.mem_of_getElem? (i := 50) rfl))) (by decide) (t := .int) (t' := .boolean) (by decide) (by decide)))
        have f95 := Fld.other W85 f37 (Or.inr (slot_ne (Or.inl (hw _ (List.mem_of_getElem? (i := 32) rfl))) (Or.inl (hw _ (List.mem_of_getElem? (i := 50) rfl))) (by decide) (t := .int) (t' := .boolean) (by decide) (by decide)))
        have f96 := Fld.other W85 f38 (Or.inr (slot_ne (Or.inl (hw _ (List.mem_of_getElem? (i := 34) rfl))) (Or.inl (hw _ (List.mem_of_getElem? (i := 50) rfl))) (by decide) (t := .int) (t' := .boolean) (by decide) (by decide)))
        have f97 := Fld.other W85 f39 (Or.inr (slot_ne (Or.inl (hw _ (List.mem_of_getElem? (i := 36) rfl))) (Or.inl (hw _ (List.mem_of_getElem? (i := 50) rfl))) (by decide) (t := .int) (t' := .boolean) (by decide) (by decide)))
        have f98 := Fld.other W85 f40 (Or.inr (slot_ne (Or.inl (hw _ (List.mem_of_getElem? (i := 42) rfl))) (Or.inl (hw _ (List.mem_of_getElem? (i := 50) rfl))) (by decide) (t := .int) (t' := .boolean) (by decide) (by decide)))
        have f99 := Fld.other W85 f41 (Or.inr (slot_ne (Or.inl (hw _ (List.mem_of_getElem? (i := 48) rfl))) (Or.inl (hw _ (List.mem_of_getElem? (i := 50) rfl))) (by decide) (t := .int) (t' := .boolean) (by decide) (by decide)))
        have f100 := Fld.same W85 f42
        refine own_by (T' := T85) (g' := (mkF m 292 #[.val (.ref a), .val (.ref tx), .val (.int off), .val (.int ln), .val (.int D)] [(.ref a)])) (fun t_ k_ => XS.aloadN X85.here hx rfl (hb hby own_d_read_291) rfl rfl k_) ?_
        obtain ⟨T101, X101, e101, st101⟩ := getF X85 hx hZ hown (host := "") (Or.inl (hw _ (List.mem_of_getElem? (i := 47) rfl))) Via.refl e85 f99 (g := (mkF m 292 #[.val (.ref a), .val (.ref tx), .val (.int off), .val (.int ln), .val (.int D)] [(.ref a)])) rfl rfl (hb hby own_d_read_292)
        refine own_by (T' := T101) (g' := (mkF m 295 #[.val (.ref a), .val (.ref tx), .val (.int off), .val (.int ln), .val (.int D)] [(.int (if (off + ln) < (en + (1 : Int32)) then (off + ln) else (en + (1 : Int32))))])) st101 ?_
        refine own_by (T' := T101) (g' := (mkF m 296 #[.val (.ref a), .val (.ref tx), .val (.int off), .val (.int ln), .val (.int D)] [(.ref a), (.int (if (off + ln) < (en + (1 : Int32)) then (off + ln) else (en + (1 : Int32))))])) (fun t_ k_ => XS.aloadN X101.here hx rfl (hb hby own_d_read_295) rfl rfl k_) ?_
        obtain ⟨T102, X102, e102, st102⟩ := getF X101 hx hZ hown (host := "") (Or.inl (hw _ (List.mem_of_getElem? (i := 25) rfl))) Via.refl e101 f92 (g := (mkF m 296 #[.val (.ref a), .val (.ref tx), .val (.int off), .val (.int ln), .val (.int D)] [(.ref a), (.int (if (off + ln) < (en + (1 : Int32)) then (off + ln) else (en + (1 : Int32))))])) rfl rfl (hb hby own_d_read_296)
        refine own_by (T' := T102) (g' := (mkF m 299 #[.val (.ref a), .val (.ref tx), .val (.int off), .val (.int ln), .val (.int D)] [(.int (off + ln)), (.int (if (off + ln) < (en + (1 : Int32)) then (off + ln) else (en + (1 : Int32))))])) st102 ?_
        by_cases c299_103 : (if (off + ln) < (en + (1 : Int32)) then (off + ln) else (en + (1 : Int32))) < (off + ln)
        · skip
          refine own_by (T' := T102) (g' := (mkF m 302 #[.val (.ref a), .val (.ref tx), .val (.int off), .val (.int ln), .val (.int D)] [])) (fun t_ k_ => XS.icmpNo X102.here hx rfl (hb hby own_d_read_299) rfl (tlt (c299_103 : (if (off + ln) < (en + (1 : Int32)) then (off + ln) else (en + (1 : Int32))) < (off + ln))).2.1 k_) ?_
          refine own_by (T' := T102) (g' := (mkF m 303 #[.val (.ref a), .val (.ref tx), .val (.int off), .val (.int ln), .val (.int D)] [(.ref a)])) (fun t_ k_ => XS.aloadN X102.here hx rfl (hb hby own_d_read_302) rfl rfl k_) ?_
          obtain ⟨T104, X104, e104, st104⟩ := getF X102 hx hZ hown (host := "") (Or.inl (hw _ (List.mem_of_getElem? (i := 49) rfl))) Via.refl e102 f100 (g := (mkF m 303 #[.val (.ref a), .val (.ref tx), .val (.int off), .val (.int ln), .val (.int D)] [(.ref a)])) rfl rfl (hb hby own_d_read_303)
          refine own_by (T' := T104) (g' := (mkF m 306 #[.val (.ref a), .val (.ref tx), .val (.int off), .val (.int ln), .val (.int D)] [(.int (0 : Int32))])) st104 ?_
          refine own_by (T' := T104) (g' := (mkF m 309 #[.val (.ref a), .val (.ref tx), .val (.int off), .val (.int ln), .val (.int D)] [])) (fun t_ k_ => XS.ifNo X104.here hx rfl (hb hby own_d_read_306) rfl ((if0 _ _).trans (teq ((by decide) : (0 : Int32) = (0 : Int32))).2) k_) ?_
          refine own_by (T' := T104) (g' := (mkF m 310 #[.val (.ref a), .val (.ref tx), .val (.int off), .val (.int ln), .val (.int D)] [(.ref tx)])) (fun t_ k_ => XS.aloadN X104.here hx rfl (hb hby own_d_read_309) rfl rfl k_) ?_
          refine own_by (T' := T104) (g' := (mkF m 311 #[.val (.ref a), .val (.ref tx), .val (.int off), .val (.int ln), .val (.int D)] [(.ref a), (.ref tx)])) (fun t_ k_ => XS.aloadN X104.here hx rfl (hb hby own_d_read_310) rfl rfl k_) ?_
          obtain ⟨T105, X105, e105, st105⟩ := getF X104 hx hZ hown (host := "") (Or.inl (hw _ (List.mem_of_getElem? (i := 47) rfl))) Via.refl e104 f99 (g := (mkF m 311 #[.val (.ref a), .val (.ref tx), .val (.int off), .val (.int ln), .val (.int D)] [(.ref a), (.ref tx)])) rfl rfl (hb hby own_d_read_311)
          refine own_by (T' := T105) (g' := (mkF m 314 #[.val (.ref a), .val (.ref tx), .val (.int off), .val (.int ln), .val (.int D)] [(.int (if (off + ln) < (en + (1 : Int32)) then (off + ln) else (en + (1 : Int32)))), (.ref tx)])) st105 ?_
          refine own_by (T' := T105) (g' := (mkF m 315 #[.val (.ref a), .val (.ref tx), .val (.int off), .val (.int ln), .val (.int D)] [(.int (f ((if (off + ln) < (en + (1 : Int32)) then (off + ln) else (en + (1 : Int32)))).toNatClampNeg))])) (fun t_ k_ => own_cal X105 hx hZ e105 f89 (j := (if (off + ln) < (en + (1 : Int32)) then (off + ln) else (en + (1 : Int32)))) (own_m1 off ln en ho hl hs x1 x2 c299_103).1 (own_m1 off ln en ho hl hs x1 x2 c299_103).2 (g := (mkF m 314 #[.val (.ref a), .val (.ref tx), .val (.int off), .val (.int ln), .val (.int D)] [(.int (if (off + ln) < (en + (1 : Int32)) then (off + ln) else (en + (1 : Int32)))), (.ref tx)])) rfl rfl (hb hby own_d_read_314) _ k_) ?_
          refine own_by (T' := T105) (g' := (mkF m 317 #[.val (.ref a), .val (.ref tx), .val (.int off), .val (.int ln), .val (.int D)] [(.int (43 : Int32)), (.int (f ((if (off + ln) < (en + (1 : Int32)) then (off + ln) else (en + (1 : Int32)))).toNatClampNeg))])) (fun t_ k_ => XS.bipush X105.here hx rfl (hb hby own_d_read_315) k_) ?_
          by_cases c317_106 : (f ((if (off + ln) < (en + (1 : Int32)) then (off + ln) else (en + (1 : Int32)))).toNatClampNeg) = (43 : Int32)
          · skip
            refine own_by (T' := T105) (g' := (mkF m 320 #[.val (.ref a), .val (.ref tx), .val (.int off), .val (.int ln), .val (.int D)] [])) (fun t_ k_ => XS.icmpNo X105.here hx rfl (hb hby own_d_read_317) rfl (teq (c317_106 : (f ((if (off + ln) < (en + (1 : Int32)) then (off + ln) else (en + (1 : Int32)))).toNatClampNeg) = (43 : Int32))).2 k_) ?_
            refine own_by (T' := T105) (g' := (mkF m 321 #[.val (.ref a), .val (.ref tx), .val (.int off), .val (.int ln), .val (.int D)] [(.ref a)])) (fun t_ k_ => XS.aloadN X105.here hx rfl (hb hby own_d_read_320) rfl rfl k_) ?_
            refine own_by (T' := T105) (g' := (mkF m 322 #[.val (.ref a), .val (.ref tx), .val (.int off), .val (.int ln), .val (.int D)] [(.ref a), (.ref a)])) (fun t_ k_ => XS.dup X105.here hx rfl (hb hby own_d_read_321) rfl rfl k_) ?_
            obtain ⟨T107, X107, e107, st107⟩ := getF X105 hx hZ hown (host := "") (Or.inl (hw _ (List.mem_of_getElem? (i := 47) rfl))) Via.refl e105 f99 (g := (mkF m 322 #[.val (.ref a), .val (.ref tx), .val (.int off), .val (.int ln), .val (.int D)] [(.ref a), (.ref a)])) rfl rfl (hb hby own_d_read_322)
            refine own_by (T' := T107) (g' := (mkF m 325 #[.val (.ref a), .val (.ref tx), .val (.int off), .val (.int ln), .val (.int D)] [(.int (if (off + ln) < (en + (1 : Int32)) then (off + ln) else (en + (1 : Int32)))), (.ref a)])) st107 ?_
            refine own_by (T' := T107) (g' := (mkF m 326 #[.val (.ref a), .val (.ref tx), .val (.int off), .val (.int ln), .val (.int D)] [(.int (1 : Int32)), (.int (if (off + ln) < (en + (1 : Int32)) then (off + ln) else (en + (1 : Int32)))), (.ref a)])) (fun t_ k_ => XS.iconst X107.here hx rfl (hb hby own_d_read_325) k_) ?_
            refine own_by (T' := T107) (g' := (mkF m 327 #[.val (.ref a), .val (.ref tx), .val (.int off), .val (.int ln), .val (.int D)] [(.int ((if (off + ln) < (en + (1 : Int32)) then (off + ln) else (en + (1 : Int32))) + (1 : Int32))), (.ref a)])) (fun t_ k_ => XS.iadd X107.here hx rfl (hb hby own_d_read_326) rfl k_) ?_
            obtain ⟨T108, h108, X108, e108, W108, st108⟩ := putF X107 hx hZ hown (host := "") (Or.inl (hw _ (List.mem_of_getElem? (i := 47) rfl))) Via.refl e107 f99 f88 (Or.inl (hw _ (List.mem_of_getElem? (i := 48) rfl))) (hw _ (List.mem_of_getElem? (i := 8) rfl)) (ty := .int) (by decide) rfl rfl (g := (mkF m 327 #[.val (.ref a), .val (.ref tx), .val (.int off), .val (.int ln), .val (.int D)] [(.int ((if (off + ln) < (en + (1 : Int32)) then (off + ln) else (en + (1 : Int32))) + (1 : Int32))), (.ref a)])) rfl rfl (hb hby own_d_read_327)
            refine own_by (T' := T108) (g' := (mkF m 330 #[.val (.ref a), .val (.ref tx), .val (.int off), .val (.int ln), .val (.int D)] [])) st108 ?_
            have N108 := Fr.snoc X108 N85 G0
            have f109 := Nat.le_trans f86 (Keep.of_wr W108).1
            have f110 := Keep.wr f87 W108 (Or.inl (List.mem_of_getElem? (i := 0) rfl))
            have f111 := Exa.wr W108 f88
            have f112 := own_Ia_other W108 f89 n1
            have f113 := Fld.other W108 f90 (Or.inr (slot_ne (Or.inl (hw _ (List.mem_of_getElem? (i := 22) rfl))) (Or.inl (hw _ (List.mem_of_getElem? (i := 48) rfl))) (by decide) (t := (.array .char)) (t' := .int) (by decide) (by decide)))
            have f114 := Fld.other W108 f91 (Or.inr (slot_ne (Or.inl (hw _ (List.mem_of_getElem? (i := 24) rfl))) (Or.inl (hw _ (List.mem_of_getElem? (i := 48) rfl))) (by decide) (t := .int) (t' := .int) (by decide) (by decide)))
            have f115 := Fld.other W108 f92 (Or.inr (slot_ne (Or.inl (hw _ (List.mem_of_getElem? (i := 26) rfl))) (Or.inl (hw _ (List.mem_of_getElem? (i := 48) rfl))) (by decide) (t := .int) (t' := .int) (by decide) (by decide)))
            have f116 := Fld.other W108 f93 (Or.inr (slot_ne (Or.inl (hw _ (List.mem_of_getElem? (i := 28) rfl))) (Or.inl (hw _ (List.mem_of_getElem? (i := 48) rfl))) (by decide) (t := .boolean) (t' := .int) (by decide) (by decide)))
            have f117 := Fld.other W108 f94 (Or.inr (slot_ne (Or.inl (hw _ (List.mem_of_getElem? (i := 30) rfl))) (Or.inl (hw _ (List.mem_of_getElem? (i := 48) rfl))) (by decide) (t := .int) (t' := .int) (by decide) (by decide)))
            have f118 := Fld.other W108 f95 (Or.inr (slot_ne (Or.inl (hw _ (List.mem_of_getElem? (i := 32) rfl))) (Or.inl (hw _ (List.mem_of_getElem? (i := 48) rfl))) (by decide) (t := .int) (t' := .int) (by decide) (by decide)))
            have f119 := Fld.other W108 f96 (Or.inr (slot_ne (Or.inl (hw _ (List.mem_of_getElem? (i := 34) rfl))) (Or.inl (hw _ (List.mem_of_getElem? (i := 48) rfl))) (by decide) (t := .int) (t' := .int) (by decide) (by decide)))
            have f120 := Fld.other W108 f97 (Or.inr (slot_ne (Or.inl (hw _ (List.mem_of_getElem? (i := 36) rfl))) (Or.inl (hw _ (List.mem_of_getElem? (i := 48) rfl))) (by decide) (t := .int) (t' := .int) (by decide) (by decide)))
            have f121 := Fld.other W108 f98 (Or.inr (slot_ne (Or.inl (hw _ (List.mem_of_getElem? (i := 42) rfl))) (Or.inl (hw _ (List.mem_of_getElem? (i := 48) rfl))) (by decide) (t := .int) (t' := .int) (by decide) (by decide)))
            have f122 := Fld.same W108 f99
            have f123 := Fld.other W108 f100 (Or.inr (slot_ne (Or.inl (hw _ (List.mem_of_getElem? (i := 50) rfl))) (Or.inl (hw _ (List.mem_of_getElem? (i := 48) rfl))) (by decide) (t := .boolean) (t' := .int) (by decide) (by decide)))
            exact l330 _ D ng dg en pt fi la (((if (off + ln) < (en + (1 : Int32)) then (off + ln) else (en + (1 : Int32))) + (1 : Int32))) (0 : Int32) T108 h108 _ X108 e108 N108 f109 f110 f111 f112 f113 f114 f115 f116 f117 f118 f119 f120 f121 f122 f123 hR (own_mn1 off ln en ho hl hs x1 x2) rfl
          · skip
            refine own_by (T' := T105) (g' := (mkF m 330 #[.val (.ref a), .val (.ref tx), .val (.int off), .val (.int ln), .val (.int D)] [])) (fun t_ k_ => XS.icmpYes X105.here hx rfl (pc0 := 317) (pc' := 330) rfl (hb hby own_d_read_317) rfl (feq (c317_106 : ¬ ((f ((if (off + ln) < (en + (1 : Int32)) then (off + ln) else (en + (1 : Int32)))).toNatClampNeg) = (43 : Int32)))).2 (by decide) (by decide) k_) ?_
            exact l330 _ D ng dg en pt fi la ((if (off + ln) < (en + (1 : Int32)) then (off + ln) else (en + (1 : Int32)))) (0 : Int32) T105 h85 _ X105 e105 N85 f86 f87 f88 f89 f90 f91 f92 f93 f94 f95 f96 f97 f98 f99 f100 hR (own_mn off ln en ho hl hs x1 x2) rfl
        · skip
          refine own_by (T' := T102) (g' := (mkF m 330 #[.val (.ref a), .val (.ref tx), .val (.int off), .val (.int ln), .val (.int D)] [])) (fun t_ k_ => XS.icmpYes X102.here hx rfl (pc0 := 299) (pc' := 330) rfl (hb hby own_d_read_299) rfl (flt (c299_103 : ¬ ((if (off + ln) < (en + (1 : Int32)) then (off + ln) else (en + (1 : Int32))) < (off + ln)))).2.1 (by decide) (by decide) k_) ?_
          exact l330 _ D ng dg en pt fi la ((if (off + ln) < (en + (1 : Int32)) then (off + ln) else (en + (1 : Int32)))) (0 : Int32) T102 h85 _ X102 e102 N85 f86 f87 f88 f89 f90 f91 f92 f93 f94 f95 f96 f97 f98 f99 f100 hR (own_mn off ln en ho hl hs x1 x2) rfl
    · skip
      refine own_by (T' := T44) (g' := (mkF m 287 #[.val (.ref a), .val (.ref tx), .val (.int off), .val (.int ln), .val (.int D)] [(.ref a)])) (fun t_ k_ => XS.icmpYes X44.here hx rfl (pc0 := 269) (pc' := 287) rfl (hb hby own_d_read_269) rfl (flt (c269_45 : ¬ ((if (off + ln) < (en + (1 : Int32)) then (off + ln) else (en + (1 : Int32))) < (off + ln)))).2.1 (by decide) (by decide) k_) ?_
      refine own_by (T' := T44) (g' := (mkF m 288 #[.val (.ref a), .val (.ref tx), .val (.int off), .val (.int ln), .val (.int D)] [(.int (0 : Int32)), (.ref a)])) (fun t_ k_ => XS.iconst X44.here hx rfl (hb hby own_d_read_287) k_) ?_
      obtain ⟨T124, h124, X124, e124, W124, st124⟩ := putF X44 hx hZ hown (host := "") (Or.inl (hw _ (List.mem_of_getElem? (i := 49) rfl))) Via.refl e44 f42 f30 (Or.inl (hw _ (List.mem_of_getElem? (i := 50) rfl))) (hw _ (List.mem_of_getElem? (i := 8) rfl)) (ty := .boolean) (by decide) rfl rfl (g := (mkF m 288 #[.val (.ref a), .val (.ref tx), .val (.int off), .val (.int ln), .val (.int D)] [(.int (0 : Int32)), (.ref a)])) rfl rfl (hb hby own_d_read_288)
      refine own_by (T' := T124) (g' := (mkF m 291 #[.val (.ref a), .val (.ref tx), .val (.int off), .val (.int ln), .val (.int D)] [])) st124 ?_
      have N124 := Fr.snoc X124 N27 G0
      have f125 := Nat.le_trans f28 (Keep.of_wr W124).1
      have f126 := Keep.wr f29 W124 (Or.inl (List.mem_of_getElem? (i := 0) rfl))
      have f127 := Exa.wr W124 f30
      have f128 := own_Ia_other W124 f31 n1
      have f129 := Fld.other W124 f32 (Or.inr (slot_ne (Or.inl (hw _ (List.mem_of_getElem? (i := 22) rfl))) (Or.inl (hw _ (List.mem_of_getElem? (i := 50) rfl))) (by decide) (t := (.array .char)) (t' := .boolean) (by decide) (by decide)))
      have f130 := Fld.other W124 f33 (Or.inr (slot_ne (Or.inl (hw _ (List.mem_of_getElem? (i := 24) rfl))) (Or.inl (hw _ (List.mem_of_getElem? (i := 50) rfl))) (by decide) (t := .int) (t' := .boolean) (by decide) (by decide)))
      have f131 := Fld.other W124 f34 (Or.inr (slot_ne (Or.inl (hw _ (List.mem_of_getElem? (i := 26) rfl))) (Or.inl (hw _ (List.mem_of_getElem? (i := 50) rfl))) (by decide) (t := .int) (t' := .boolean) (by decide) (by decide)))
      have f132 := Fld.other W124 f35 (Or.inr (slot_ne (Or.inl (hw _ (List.mem_of_getElem? (i := 28) rfl))) (Or.inl (hw _ (List.mem_of_getElem? (i := 50) rfl))) (by decide) (t := .boolean) (t' := .boolean) (by decide) (by decide)))
      have f133 := Fld.other W124 f36 (Or.inr (slot_ne (Or.inl (hw _ (List.mem_of_getElem? (i := 30) rfl))) (Or.inl (hw _ (List.mem_of_getElem? (i := 50) rfl))) (by decide) (t := .int) (t' := .boolean) (by decide) (by decide)))
      have f134 := Fld.other W124 f37 (Or.inr (slot_ne (Or.inl (hw _ (List.mem_of_getElem? (i := 32) rfl))) (Or.inl (hw _ (List.mem_of_getElem? (i := 50) rfl))) (by decide) (t := .int) (t' := .boolean) (by decide) (by decide)))
      have f135 := Fld.other W124 f38 (Or.inr (slot_ne (Or.inl (hw _ (List.mem_of_getElem? (i := 34) rfl))) (Or.inl (hw _ (List.mem_of_getElem? (i := 50) rfl))) (by decide) (t := .int) (t' := .boolean) (by decide) (by decide)))
      have f136 := Fld.other W124 f39 (Or.inr (slot_ne (Or.inl (hw _ (List.mem_of_getElem? (i := 36) rfl))) (Or.inl (hw _ (List.mem_of_getElem? (i := 50) rfl))) (by decide) (t := .int) (t' := .boolean) (by decide) (by decide)))
      have f137 := Fld.other W124 f40 (Or.inr (slot_ne (Or.inl (hw _ (List.mem_of_getElem? (i := 42) rfl))) (Or.inl (hw _ (List.mem_of_getElem? (i := 50) rfl))) (by decide) (t := .int) (t' := .boolean) (by decide) (by decide)))
      have f138 := Fld.other W124 f41 (Or.inr (slot_ne (Or.inl (hw _ (List.mem_of_getElem? (i := 48) rfl))) (Or.inl (hw _ (List.mem_of_getElem? (i := 50) rfl))) (by decide) (t := .int) (t' := .boolean) (by decide) (by decide)))
      have f139 := Fld.same W124 f42
      refine own_by (T' := T124) (g' := (mkF m 292 #[.val (.ref a), .val (.ref tx), .val (.int off), .val (.int ln), .val (.int D)] [(.ref a)])) (fun t_ k_ => XS.aloadN X124.here hx rfl (hb hby own_d_read_291) rfl rfl k_) ?_
      obtain ⟨T140, X140, e140, st140⟩ := getF X124 hx hZ hown (host := "") (Or.inl (hw _ (List.mem_of_getElem? (i := 47) rfl))) Via.refl e124 f138 (g := (mkF m 292 #[.val (.ref a), .val (.ref tx), .val (.int off), .val (.int ln), .val (.int D)] [(.ref a)])) rfl rfl (hb hby own_d_read_292)
      refine own_by (T' := T140) (g' := (mkF m 295 #[.val (.ref a), .val (.ref tx), .val (.int off), .val (.int ln), .val (.int D)] [(.int (if (off + ln) < (en + (1 : Int32)) then (off + ln) else (en + (1 : Int32))))])) st140 ?_
      refine own_by (T' := T140) (g' := (mkF m 296 #[.val (.ref a), .val (.ref tx), .val (.int off), .val (.int ln), .val (.int D)] [(.ref a), (.int (if (off + ln) < (en + (1 : Int32)) then (off + ln) else (en + (1 : Int32))))])) (fun t_ k_ => XS.aloadN X140.here hx rfl (hb hby own_d_read_295) rfl rfl k_) ?_
      obtain ⟨T141, X141, e141, st141⟩ := getF X140 hx hZ hown (host := "") (Or.inl (hw _ (List.mem_of_getElem? (i := 25) rfl))) Via.refl e140 f131 (g := (mkF m 296 #[.val (.ref a), .val (.ref tx), .val (.int off), .val (.int ln), .val (.int D)] [(.ref a), (.int (if (off + ln) < (en + (1 : Int32)) then (off + ln) else (en + (1 : Int32))))])) rfl rfl (hb hby own_d_read_296)
      refine own_by (T' := T141) (g' := (mkF m 299 #[.val (.ref a), .val (.ref tx), .val (.int off), .val (.int ln), .val (.int D)] [(.int (off + ln)), (.int (if (off + ln) < (en + (1 : Int32)) then (off + ln) else (en + (1 : Int32))))])) st141 ?_
      by_cases c299_142 : (if (off + ln) < (en + (1 : Int32)) then (off + ln) else (en + (1 : Int32))) < (off + ln)
      · skip
        refine own_by (T' := T141) (g' := (mkF m 302 #[.val (.ref a), .val (.ref tx), .val (.int off), .val (.int ln), .val (.int D)] [])) (fun t_ k_ => XS.icmpNo X141.here hx rfl (hb hby own_d_read_299) rfl (tlt (c299_142 : (if (off + ln) < (en + (1 : Int32)) then (off + ln) else (en + (1 : Int32))) < (off + ln))).2.1 k_) ?_
        refine own_by (T' := T141) (g' := (mkF m 303 #[.val (.ref a), .val (.ref tx), .val (.int off), .val (.int ln), .val (.int D)] [(.ref a)])) (fun t_ k_ => XS.aloadN X141.here hx rfl (hb hby own_d_read_302) rfl rfl k_) ?_
        obtain ⟨T143, X143, e143, st143⟩ := getF X141 hx hZ hown (host := "") (Or.inl (hw _ (List.mem_of_getElem? (i := 49) rfl))) Via.refl e141 f139 (g := (mkF m 303 #[.val (.ref a), .val (.ref tx), .val (.int off), .val (.int ln), .val (.int D)] [(.ref a)])) rfl rfl (hb hby own_d_read_303)
        refine own_by (T' := T143) (g' := (mkF m 306 #[.val (.ref a), .val (.ref tx), .val (.int off), .val (.int ln), .val (.int D)] [(.int (0 : Int32))])) st143 ?_
        refine own_by (T' := T143) (g' := (mkF m 309 #[.val (.ref a), .val (.ref tx), .val (.int off), .val (.int ln), .val (.int D)] [])) (fun t_ k_ => XS.ifNo X143.here hx rfl (hb hby own_d_read_306) rfl ((if0 _ _).trans (teq ((by decide) : (0 : Int32) = (0 : Int32))).2) k_) ?_
        refine own_by (T' := T143) (g' := (mkF m 310 #[.val (.ref a), .val (.ref tx), .val (.int off), .val (.int ln), .val (.int D)] [(.ref tx)])) (fun t_ k_ => XS.aloadN X143.here hx rfl (hb hby own_d_read_309) rfl rfl k_) ?_
        refine own_by (T' := T143) (g' := (mkF m 311 #[.val (.ref a), .val (.ref tx), .val (.int off), .val (.int ln), .val (.int D)] [(.ref a), (.ref tx)])) (fun t_ k_ => XS.aloadN X143.here hx rfl (hb hby own_d_read_310) rfl rfl k_) ?_
        obtain ⟨T144, X144, e144, st144⟩ := getF X143 hx hZ hown (host := "") (Or.inl (hw _ (List.mem_of_getElem? (i := 47) rfl))) Via.refl e143 f138 (g := (mkF m 311 #[.val (.ref a), .val (.ref tx), .val (.int off), .val (.int ln), .val (.int D)] [(.ref a), (.ref tx)])) rfl rfl (hb hby own_d_read_311)
        refine own_by (T' := T144) (g' := (mkF m 314 #[.val (.ref a), .val (.ref tx), .val (.int off), .val (.int ln), .val (.int D)] [(.int (if (off + ln) < (en + (1 : Int32)) then (off + ln) else (en + (1 : Int32)))), (.ref tx)])) st144 ?_
        refine own_by (T' := T144) (g' := (mkF m 315 #[.val (.ref a), .val (.ref tx), .val (.int off), .val (.int ln), .val (.int D)] [(.int (f ((if (off + ln) < (en + (1 : Int32)) then (off + ln) else (en + (1 : Int32)))).toNatClampNeg))])) (fun t_ k_ => own_cal X144 hx hZ e144 f128 (j := (if (off + ln) < (en + (1 : Int32)) then (off + ln) else (en + (1 : Int32)))) (own_m1 off ln en ho hl hs x1 x2 c299_142).1 (own_m1 off ln en ho hl hs x1 x2 c299_142).2 (g := (mkF m 314 #[.val (.ref a), .val (.ref tx), .val (.int off), .val (.int ln), .val (.int D)] [(.int (if (off + ln) < (en + (1 : Int32)) then (off + ln) else (en + (1 : Int32)))), (.ref tx)])) rfl rfl (hb hby own_d_read_314) _ k_) ?_
        refine own_by (T' := T144) (g' := (mkF m 317 #[.val (.ref a), .val (.ref tx), .val (.int off), .val (.int ln), .val (.int D)] [(.int (43 : Int32)), (.int (f ((if (off + ln) < (en + (1 : Int32)) then (off + ln) else (en + (1 : Int32)))).toNatClampNeg))])) (fun t_ k_ => XS.bipush X144.here hx rfl (hb hby own_d_read_315) k_) ?_
        by_cases c317_145 : (f ((if (off + ln) < (en + (1 : Int32)) then (off + ln) else (en + (1 : Int32)))).toNatClampNeg) = (43 : Int32)
        · skip
          refine own_by (T' := T144) (g' := (mkF m 320 #[.val (.ref a), .val (.ref tx), .val (.int off), .val (.int ln), .val (.int D)] [])) (fun t_ k_ => XS.icmpNo X144.here hx rfl (hb hby own_d_read_317) rfl (teq (c317_145 : (f ((if (off + ln) < (en + (1 : Int32)) then (off + ln) else (en + (1 : Int32)))).toNatClampNeg) = (43 : Int32))).2 k_) ?_
          refine own_by (T' := T144) (g' := (mkF m 321 #[.val (.ref a), .val (.ref tx), .val (.int off), .val (.int ln), .val (.int D)] [(.ref a)])) (fun t_ k_ => XS.aloadN X144.here hx rfl (hb hby own_d_read_320) rfl rfl k_) ?_
          refine own_by (T' := T144) (g' := (mkF m 322 #[.val (.ref a), .val (.ref tx), .val (.int off), .val (.int ln), .val (.int D)] [(.ref a), (.ref a)])) (fun t_ k_ => XS.dup X144.here hx rfl (hb hby own_d_read_321) rfl rfl k_) ?_
          obtain ⟨T146, X146, e146, st146⟩ := getF X144 hx hZ hown (host := "") (Or.inl (hw _ (List.mem_of_getElem? (i := 47) rfl))) Via.refl e144 f138 (g := (mkF m 322 #[.val (.ref a), .val (.ref tx), .val (.int off), .val (.int ln), .val (.int D)] [(.ref a), (.ref a)])) rfl rfl (hb hby own_d_read_322)
          refine own_by (T' := T146) (g' := (mkF m 325 #[.val (.ref a), .val (.ref tx), .val (.int off), .val (.int ln), .val (.int D)] [(.int (if (off + ln) < (en + (1 : Int32)) then (off + ln) else (en + (1 : Int32)))), (.ref a)])) st146 ?_
          refine own_by (T' := T146) (g' := (mkF m 326 #[.val (.ref a), .val (.ref tx), .val (.int off), .val (.int ln), .val (.int D)] [(.int (1 : Int32)), (.int (if (off + ln) < (en + (1 : Int32)) then (off + ln) else (en + (1 : Int32)))), (.ref a)])) (fun t_ k_ => XS.iconst X146.here hx rfl (hb hby own_d_read_325) k_) ?_
          refine own_by (T' := T146) (g' := (mkF m 327 #[.val (.ref a), .val (.ref tx), .val (.int off), .val (.int ln), .val (.int D)] [(.int ((if (off + ln) < (en + (1 : Int32)) then (off + ln) else (en + (1 : Int32))) + (1 : Int32))), (.ref a)])) (fun t_ k_ => XS.iadd X146.here hx rfl (hb hby own_d_read_326) rfl k_) ?_
          obtain ⟨T147, h147, X147, e147, W147, st147⟩ := putF X146 hx hZ hown (host := "") (Or.inl (hw _ (List.mem_of_getElem? (i := 47) rfl))) Via.refl e146 f138 f127 (Or.inl (hw _ (List.mem_of_getElem? (i := 48) rfl))) (hw _ (List.mem_of_getElem? (i := 8) rfl)) (ty := .int) (by decide) rfl rfl (g := (mkF m 327 #[.val (.ref a), .val (.ref tx), .val (.int off), .val (.int ln), .val (.int D)] [(.int ((if (off + ln) < (en + (1 : Int32)) then (off + ln) else (en + (1 : Int32))) + (1 : Int32))), (.ref a)])) rfl rfl (hb hby own_d_read_327)
          refine own_by (T' := T147) (g' := (mkF m 330 #[.val (.ref a), .val (.ref tx), .val (.int off), .val (.int ln), .val (.int D)] [])) st147 ?_
          have N147 := Fr.snoc X147 N124 G0
          have f148 := Nat.le_trans f125 (Keep.of_wr W147).1
          have f149 := Keep.wr f126 W147 (Or.inl (List.mem_of_getElem? (i := 0) rfl))
          have f150 := Exa.wr W147 f127
          have f151 := own_Ia_other W147 f128 n1
          have f152 := Fld.other W147 f129 (Or.inr (slot_ne (Or.inl (hw _ (List.mem_of_getElem? (i := 22) rfl))) (Or.inl (hw _ (List.mem_of_getElem? (i := 48) rfl))) (by decide) (t := (.array .char)) (t' := .int) (by decide) (by decide)))
          have f153 := Fld.other W147 f130 (Or.inr (slot_ne (Or.inl (hw _ (List.mem_of_getElem? (i := 24) rfl))) (Or.inl (hw _ (List.mem_of_getElem? (i := 48) rfl))) (by decide) (t := .int) (t' := .int) (by decide) (by decide)))
          have f154 := Fld.other W147 f131 (Or.inr (slot_ne (Or.inl (hw _ (List.mem_of_getElem? (i := 26) rfl))) (Or.inl (hw _ (List.mem_of_getElem? (i := 48) rfl))) (by decide) (t := .int) (t' := .int) (by decide) (by decide)))
          have f155 := Fld.other W147 f132 (Or.inr (slot_ne (Or.inl (hw _ (List.mem_of_getElem? (i := 28) rfl))) (Or.inl (hw _ (List.mem_of_getElem? (i := 48) rfl))) (by decide) (t := .boolean) (t' := .int) (by decide) (by decide)))
          have f156 := Fld.other W147 f133 (Or.inr (slot_ne (Or.inl (hw _ (List.mem_of_getElem? (i := 30) rfl))) (Or.inl (hw _ (List.mem_of_getElem? (i := 48) rfl))) (by decide) (t := .int) (t' := .int) (by decide) (by decide)))
          have f157 := Fld.other W147 f134 (Or.inr (slot_ne (Or.inl (hw _ (List.mem_of_getElem? (i := 32) rfl))) (Or.inl (hw _ (List.mem_of_getElem? (i := 48) rfl))) (by decide) (t := .int) (t' := .int) (by decide) (by decide)))
          have f158 := Fld.other W147 f135 (Or.inr (slot_ne (Or.inl (hw _ (List.mem_of_getElem? (i := 34) rfl))) (Or.inl (hw _ (List.mem_of_getElem? (i := 48) rfl))) (by decide) (t := .int) (t' := .int) (by decide) (by decide)))
          have f159 := Fld.other W147 f136 (Or.inr (slot_ne (Or.inl (hw _ (List.mem_of_getElem? (i := 36) rfl))) (Or.inl (hw _ (List.mem_of_getElem? (i := 48) rfl))) (by decide) (t := .int) (t' := .int) (by decide) (by decide)))
          have f160 := Fld.other W147 f137 (Or.inr (slot_ne (Or.inl (hw _ (List.mem_of_getElem? (i := 42) rfl))) (Or.inl (hw _ (List.mem_of_getElem? (i := 48) rfl))) (by decide) (t := .int) (t' := .int) (by decide) (by decide)))
          have f161 := Fld.same W147 f138
          have f162 := Fld.other W147 f139 (Or.inr (slot_ne (Or.inl (hw _ (List.mem_of_getElem? (i := 50) rfl))) (Or.inl (hw _ (List.mem_of_getElem? (i := 48) rfl))) (by decide) (t := .boolean) (t' := .int) (by decide) (by decide)))
          exact l330 _ D ng dg en pt fi la (((if (off + ln) < (en + (1 : Int32)) then (off + ln) else (en + (1 : Int32))) + (1 : Int32))) (0 : Int32) T147 h147 _ X147 e147 N147 f148 f149 f150 f151 f152 f153 f154 f155 f156 f157 f158 f159 f160 f161 f162 hR (own_mn1 off ln en ho hl hs x1 x2) rfl
        · skip
          refine own_by (T' := T144) (g' := (mkF m 330 #[.val (.ref a), .val (.ref tx), .val (.int off), .val (.int ln), .val (.int D)] [])) (fun t_ k_ => XS.icmpYes X144.here hx rfl (pc0 := 317) (pc' := 330) rfl (hb hby own_d_read_317) rfl (feq (c317_145 : ¬ ((f ((if (off + ln) < (en + (1 : Int32)) then (off + ln) else (en + (1 : Int32)))).toNatClampNeg) = (43 : Int32)))).2 (by decide) (by decide) k_) ?_
          exact l330 _ D ng dg en pt fi la ((if (off + ln) < (en + (1 : Int32)) then (off + ln) else (en + (1 : Int32)))) (0 : Int32) T144 h124 _ X144 e144 N124 f125 f126 f127 f128 f129 f130 f131 f132 f133 f134 f135 f136 f137 f138 f139 hR (own_mn off ln en ho hl hs x1 x2) rfl
      · skip
        refine own_by (T' := T141) (g' := (mkF m 330 #[.val (.ref a), .val (.ref tx), .val (.int off), .val (.int ln), .val (.int D)] [])) (fun t_ k_ => XS.icmpYes X141.here hx rfl (pc0 := 299) (pc' := 330) rfl (hb hby own_d_read_299) rfl (flt (c299_142 : ¬ ((if (off + ln) < (en + (1 : Int32)) then (off + ln) else (en + (1 : Int32))) < (off + ln)))).2.1 (by decide) (by decide) k_) ?_
        exact l330 _ D ng dg en pt fi la ((if (off + ln) < (en + (1 : Int32)) then (off + ln) else (en + (1 : Int32)))) (0 : Int32) T141 h124 _ X141 e141 N124 f125 f126 f127 f128 f129 f130 f131 f132 f133 f134 f135 f136 f137 f138 f139 hR (own_mn off ln en ho hl hs x1 x2) rfl
  have l204 : ∀ (kk : Nat) (D : Int32) (ng : Int32) (dg : Int32) (en : Int32) (pt : Int32) (fi : Int32) (la : Int32) (ex : Int32) (ne : Int32) (T1 : State) (hh : Heap) (lo : List Loc), Stand p l e ({ frames := 1, cells := 0, slots := 0, locals := 14 } : Room) s m #[(.ref a), (.ref tx), (.int off), (.int ln)] below meth c T1 lo 0 0 → T1.heap = hh → Fr n0 lo → n0 ≤ hh.size → Keep h0 hh [a] → Exa Z hh a "com/example/enumconv/enumconv/core/Decimal$Reading" → own_Ia Z hh tx .char 6 f → Fld Z hh a "com/example/enumconv/enumconv/core/Decimal$Reading" "text" "[C" (.ref tx) → Fld Z hh a "com/example/enumconv/enumconv/core/Decimal$Reading" "start" "I" (.int off) → Fld Z hh a "com/example/enumconv/enumconv/core/Decimal$Reading" "stop" "I" (.int (off + ln)) → Fld Z hh a "com/example/enumconv/enumconv/core/Decimal$Reading" "negative" "Z" (.int ng) → Fld Z hh a "com/example/enumconv/enumconv/core/Decimal$Reading" "digitsAt" "I" (.int dg) → Fld Z hh a "com/example/enumconv/enumconv/core/Decimal$Reading" "end" "I" (.int en) → Fld Z hh a "com/example/enumconv/enumconv/core/Decimal$Reading" "point" "I" (.int pt) → Fld Z hh a "com/example/enumconv/enumconv/core/Decimal$Reading" "first" "I" (.int fi) → Fld Z hh a "com/example/enumconv/enumconv/core/Decimal$Reading" "last" "I" (.int la) → Fld Z hh a "com/example/enumconv/enumconv/core/Decimal$Reading" "exponentAt" "I" (.int ex) → Fld Z hh a "com/example/enumconv/enumconv/core/Decimal$Reading" "negativeExponent" "Z" (.int ne) → (own_R f off (off + ln) pt en) → (0 ≤ dg.toInt) → (0 ≤ en.toInt ∧ en.toInt ≤ off.toInt + ln.toInt) → (0 ≤ D.toInt ∧ dg.toInt + D.toInt ≤ en.toInt) → (0 ≤ pt.toInt → dg.toInt + D.toInt + 1 ≤ en.toInt) → (0 ≤ fi.toInt ∧ fi.toInt ≤ la.toInt ∧ la.toInt ≤ D.toInt) → ((la.toInt - fi.toInt).toNat = kk) → own_Goes p e below (own_K (own_Q_read Z a tx off ln f u_text u_start u_stop u_negative u_digitsAt u_end u_point u_first u_last u_exponentAt u_negativeExponent h0 n0) s ({ frames := 1, cells := 0, slots := 0, locals := 14 } : Room).cells ({ frames := 1, cells := 0, slots := 0, locals := 14 } : Room).slots) T1 (mkF m 204 #[.val (.ref a), .val (.ref tx), .val (.int off), .val (.int ln), .val (.int D)] []) := by
    intro kk
    induction kk with
      | zero =>
        intro D ng dg en pt fi la ex ne T1 hh lo X1 e1 N1 u0 u1 u2 u3 u4 u5 u6 u7 u8 u9 u10 u11 u12 u13 u14 hR y0 y1 y2 y3 z1 z2
        refine own_by (T' := T1) (g' := (mkF m 205 #[.val (.ref a), .val (.ref tx), .val (.int off), .val (.int ln), .val (.int D)] [(.ref a)])) (fun t_ k_ => XS.aloadN X1.here hx rfl (hb hby own_d_read_204) rfl rfl k_) ?_
        obtain ⟨T163, X163, e163, st163⟩ := getF X1 hx hZ hown (host := "") (Or.inl (hw _ (List.mem_of_getElem? (i := 41) rfl))) Via.refl e1 u12 (g := (mkF m 205 #[.val (.ref a), .val (.ref tx), .val (.int off), .val (.int ln), .val (.int D)] [(.ref a)])) rfl rfl (hb hby own_d_read_205)
        refine own_by (T' := T163) (g' := (mkF m 208 #[.val (.ref a), .val (.ref tx), .val (.int off), .val (.int ln), .val (.int D)] [(.int la)])) st163 ?_
        refine own_by (T' := T163) (g' := (mkF m 209 #[.val (.ref a), .val (.ref tx), .val (.int off), .val (.int ln), .val (.int D)] [(.ref a), (.int la)])) (fun t_ k_ => XS.aloadN X163.here hx rfl (hb hby own_d_read_208) rfl rfl k_) ?_
        obtain ⟨T164, X164, e164, st164⟩ := getF X163 hx hZ hown (host := "") (Or.inl (hw _ (List.mem_of_getElem? (i := 35) rfl))) Via.refl e163 u11 (g := (mkF m 209 #[.val (.ref a), .val (.ref tx), .val (.int off), .val (.int ln), .val (.int D)] [(.ref a), (.int la)])) rfl rfl (hb hby own_d_read_209)
        refine own_by (T' := T164) (g' := (mkF m 212 #[.val (.ref a), .val (.ref tx), .val (.int off), .val (.int ln), .val (.int D)] [(.int fi), (.int la)])) st164 ?_
        refine own_by (T' := T164) (g' := (mkF m 243 #[.val (.ref a), .val (.ref tx), .val (.int off), .val (.int ln), .val (.int D)] [])) (fun t_ k_ => XS.icmpYes X164.here hx rfl (pc0 := 212) (pc' := 243) rfl (hb hby own_d_read_212) rfl (flt ((own_ge1 fi la z2) : ¬ (fi < la))).2.2.2 (by decide) (by decide) k_) ?_
        exact m243 D ng dg en pt fi la ex ne T164 hh _ X164 e164 N1 u0 u1 u2 u3 u4 u5 u6 u7 u8 u9 u10 u11 u12 u13 u14 hR y1.1 y1.2
      | succ kk ih =>
        intro D ng dg en pt fi la ex ne T1 hh lo X1 e1 N1 u0 u1 u2 u3 u4 u5 u6 u7 u8 u9 u10 u11 u12 u13 u14 hR y0 y1 y2 y3 z1 z2
        refine own_by (T' := T1) (g' := (mkF m 205 #[.val (.ref a), .val (.ref tx), .val (.int off), .val (.int ln), .val (.int D)] [(.ref a)])) (fun t_ k_ => XS.aloadN X1.here hx rfl (hb hby own_d_read_204) rfl rfl k_) ?_
        obtain ⟨T165, X165, e165, st165⟩ := getF X1 hx hZ hown (host := "") (Or.inl (hw _ (List.mem_of_getElem? (i := 41) rfl))) Via.refl e1 u12 (g := (mkF m 205 #[.val (.ref a), .val (.ref tx), .val (.int off), .val (.int ln), .val (.int D)] [(.ref a)])) rfl rfl (hb hby own_d_read_205)
        refine own_by (T' := T165) (g' := (mkF m 208 #[.val (.ref a), .val (.ref tx), .val (.int off), .val (.int ln), .val (.int D)] [(.int la)])) st165 ?_
        refine own_by (T' := T165) (g' := (mkF m 209 #[.val (.ref a), .val (.ref tx), .val (.int off), .val (.int ln), .val (.int D)] [(.ref a), (.int la)])) (fun t_ k_ => XS.aloadN X165.here hx rfl (hb hby own_d_read_208) rfl rfl k_) ?_
        obtain ⟨T166, X166, e166, st166⟩ := getF X165 hx hZ hown (host := "") (Or.inl (hw _ (List.mem_of_getElem? (i := 35) rfl))) Via.refl e165 u11 (g := (mkF m 209 #[.val (.ref a), .val (.ref tx), .val (.int off), .val (.int ln), .val (.int D)] [(.ref a), (.int la)])) rfl rfl (hb hby own_d_read_209)
        refine own_by (T' := T166) (g' := (mkF m 212 #[.val (.ref a), .val (.ref tx), .val (.int off), .val (.int ln), .val (.int D)] [(.int fi), (.int la)])) st166 ?_
        refine own_by (T' := T166) (g' := (mkF m 215 #[.val (.ref a), .val (.ref tx), .val (.int off), .val (.int ln), .val (.int D)] [])) (fun t_ k_ => XS.icmpNo X166.here hx rfl (hb hby own_d_read_212) rfl (tlt ((own_lt1 fi la kk z2) : fi < la)).2.2.2 k_) ?_
        refine own_by (T' := T166) (g' := (mkF m 216 #[.val (.ref a), .val (.ref tx), .val (.int off), .val (.int ln), .val (.int D)] [(.ref a)])) (fun t_ k_ => XS.aloadN X166.here hx rfl (hb hby own_d_read_215) rfl rfl k_) ?_
        refine own_by (T' := T166) (g' := (mkF m 217 #[.val (.ref a), .val (.ref tx), .val (.int off), .val (.int ln), .val (.int D)] [(.ref a), (.ref a)])) (fun t_ k_ => XS.aloadN X166.here hx rfl (hb hby own_d_read_216) rfl rfl k_) ?_
        obtain ⟨T167, X167, e167, st167⟩ := getF X166 hx hZ hown (host := "") (Or.inl (hw _ (List.mem_of_getElem? (i := 41) rfl))) Via.refl e166 u12 (g := (mkF m 217 #[.val (.ref a), .val (.ref tx), .val (.int off), .val (.int ln), .val (.int D)] [(.ref a), (.ref a)])) rfl rfl (hb hby own_d_read_217)
        refine own_by (T' := T167) (g' := (mkF m 220 #[.val (.ref a), .val (.ref tx), .val (.int off), .val (.int ln), .val (.int D)] [(.int la), (.ref a)])) st167 ?_
        refine own_by (T' := T167) (g' := (mkF m 221 #[.val (.ref a), .val (.ref tx), .val (.int off), .val (.int ln), .val (.int D)] [(.int (1 : Int32)), (.int la), (.ref a)])) (fun t_ k_ => XS.iconst X167.here hx rfl (hb hby own_d_read_220) k_) ?_
        refine own_by (T' := T167) (g' := (mkF m 222 #[.val (.ref a), .val (.ref tx), .val (.int off), .val (.int ln), .val (.int D)] [(.int (la - (1 : Int32))), (.ref a)])) (fun t_ k_ => XS.isub X167.here hx rfl (hb hby own_d_read_221) rfl k_) ?_
        obtain ⟨_, T168, L168, X168, hQ168, st168⟩ := own_callPv X167 hx hZ (y := (⟨"com/example/enumconv/enumconv/core/Decimal$Reading", "digit", "(I)C"⟩ : MethodName)) hown (hw _ (List.mem_of_getElem? (i := 37) rfl)) (own_selp (hw _ (List.mem_of_getElem? (i := 39) rfl)) (hw _ (List.mem_of_getElem? (i := 38) rfl)) (hw _ (List.mem_of_getElem? (i := 8) rfl)) (by decide)) (hw _ (List.mem_of_getElem? (i := 38) rfl)) (hw _ (List.mem_of_getElem? (i := 39) rfl)) (hw _ (List.mem_of_getElem? (i := 9) rfl)) (hw _ (List.mem_of_getElem? (i := 40) rfl)) (by decide) (argsL := [(.int (la - (1 : Int32)))]) (rest := []) u2 (own_rm_dgt l Z a0 hw [] a (la - (1 : Int32)) dg tx pt f hh n0 u0 u8 u4 u10 u3 (own_v3 off ln dg fi la D en kk ho hl hs z1 z2 y0 y1 y2) (own_v4 off ln dg fi la D en pt kk ho hl hs z1 z2 y0 y1 y2 y3)) e167 (W := 0) (by decide) (by decide) (by decide) (by decide) (g := (mkF m 222 #[.val (.ref a), .val (.ref tx), .val (.int off), .val (.int ln), .val (.int D)] [(.int (la - (1 : Int32))), (.ref a)])) rfl (by rw [hml]; rfl) (lenOf own_pd1 rfl) rfl (by show 2 * 0 + _ ≤ _; exact Nat.le_of_eq rfl) (hb hby own_d_read_222)
        obtain ⟨d168, rfl, Nq168, e168⟩ := hQ168
        have N168 := Fr.app N1 Nq168
        refine st168 _ ?_
        show own_Goes p e below _ T168 (mkF m 225 #[.val (.ref a), .val (.ref tx), .val (.int off), .val (.int ln), .val (.int D)] [(.int d168)])
        refine own_by (T' := T168) (g' := (mkF m 227 #[.val (.ref a), .val (.ref tx), .val (.int off), .val (.int ln), .val (.int D)] [(.int (48 : Int32)), (.int d168)])) (fun t_ k_ => XS.bipush X168.here hx rfl (hb hby own_d_read_225) k_) ?_
        by_cases c227_169 : d168 = (48 : Int32)
        · skip
          refine own_by (T' := T168) (g' := (mkF m 230 #[.val (.ref a), .val (.ref tx), .val (.int off), .val (.int ln), .val (.int D)] [])) (fun t_ k_ => XS.icmpNo X168.here hx rfl (hb hby own_d_read_227) rfl (teq (c227_169 : d168 = (48 : Int32))).2 k_) ?_
          refine own_by (T' := T168) (g' := (mkF m 231 #[.val (.ref a), .val (.ref tx), .val (.int off), .val (.int ln), .val (.int D)] [(.ref a)])) (fun t_ k_ => XS.aloadN X168.here hx rfl (hb hby own_d_read_230) rfl rfl k_) ?_
          refine own_by (T' := T168) (g' := (mkF m 232 #[.val (.ref a), .val (.ref tx), .val (.int off), .val (.int ln), .val (.int D)] [(.ref a), (.ref a)])) (fun t_ k_ => XS.dup X168.here hx rfl (hb hby own_d_read_231) rfl rfl k_) ?_
          obtain ⟨T170, X170, e170, st170⟩ := getF X168 hx hZ hown (host := "") (Or.inl (hw _ (List.mem_of_getElem? (i := 41) rfl))) Via.refl e168 u12 (g := (mkF m 232 #[.val (.ref a), .val (.ref tx), .val (.int off), .val (.int ln), .val (.int D)] [(.ref a), (.ref a)])) rfl rfl (hb hby own_d_read_232)
          refine own_by (T' := T170) (g' := (mkF m 235 #[.val (.ref a), .val (.ref tx), .val (.int off), .val (.int ln), .val (.int D)] [(.int la), (.ref a)])) st170 ?_
          refine own_by (T' := T170) (g' := (mkF m 236 #[.val (.ref a), .val (.ref tx), .val (.int off), .val (.int ln), .val (.int D)] [(.int (1 : Int32)), (.int la), (.ref a)])) (fun t_ k_ => XS.iconst X170.here hx rfl (hb hby own_d_read_235) k_) ?_
          refine own_by (T' := T170) (g' := (mkF m 237 #[.val (.ref a), .val (.ref tx), .val (.int off), .val (.int ln), .val (.int D)] [(.int (la - (1 : Int32))), (.ref a)])) (fun t_ k_ => XS.isub X170.here hx rfl (hb hby own_d_read_236) rfl k_) ?_
          obtain ⟨T171, h171, X171, e171, W171, st171⟩ := putF X170 hx hZ hown (host := "") (Or.inl (hw _ (List.mem_of_getElem? (i := 41) rfl))) Via.refl e170 u12 u2 (Or.inl (hw _ (List.mem_of_getElem? (i := 42) rfl))) (hw _ (List.mem_of_getElem? (i := 8) rfl)) (ty := .int) (by decide) rfl rfl (g := (mkF m 237 #[.val (.ref a), .val (.ref tx), .val (.int off), .val (.int ln), .val (.int D)] [(.int (la - (1 : Int32))), (.ref a)])) rfl rfl (hb hby own_d_read_237)
          refine own_by (T' := T171) (g' := (mkF m 240 #[.val (.ref a), .val (.ref tx), .val (.int off), .val (.int ln), .val (.int D)] [])) st171 ?_
          have N171 := Fr.snoc X171 N168 G0
          have f172 := Nat.le_trans u0 (Keep.of_wr W171).1
          have f173 := Keep.wr u1 W171 (Or.inl (List.mem_of_getElem? (i := 0) rfl))
          have f174 := Exa.wr W171 u2
          have f175 := own_Ia_other W171 u3 n1
          have f176 := Fld.other W171 u4 (Or.inr (slot_ne (Or.inl (hw _ (List.mem_of_getElem? (i := 22) rfl))) (Or.inl (hw _ (List.mem_of_getElem? (i := 42) rfl))) (by decide) (t := (.array .char)) (t' := .int) (by decide) (by decide)))
          have f177 := Fld.other W171 u5 (Or.inr (slot_ne (Or.inl (hw _ (List.mem_of_getElem? (i := 24) rfl))) (Or.inl (hw _ (List.mem_of_getElem? (i := 42) rfl))) (by decide) (t := .int) (t' := .int) (by decide) (by decide)))
          have f178 := Fld.other W171 u6 (Or.inr (slot_ne (Or.inl (hw _ (List.mem_of_getElem? (i := 26) rfl))) (Or.inl (hw _ (List.mem_of_getElem? (i := 42) rfl))) (by decide) (t := .int) (t' := .int) (by decide) (by decide)))
          have f179 := Fld.other W171 u7 (Or.inr (slot_ne (Or.inl (hw _ (List.mem_of_getElem? (i := 28) rfl))) (Or.inl (hw _ (List.mem_of_getElem? (i := 42) rfl))) (by decide) (t := .boolean) (t' := .int) (by decide) (by decide)))
          have f180 := Fld.other W171 u8 (Or.inr (slot_ne (Or.inl (hw _ (List.mem_of_getElem? (i := 30) rfl))) (Or.inl (hw _ (List.mem_of_getElem? (i := 42) rfl))) (by decide) (t := .int) (t' := .int) (by decide) (by decide)))
          have f181 := Fld.other W171 u9 (Or.inr (slot_ne (Or.inl (hw _ (List.mem_of_getElem? (i := 32) rfl))) (Or.inl (hw _ (List.mem_of_getElem? (i := 42) rfl))) (by decide) (t := .int) (t' := .int) (by decide) (by decide)))
          have f182 := Fld.other W171 u10 (Or.inr (slot_ne (Or.inl (hw _ (List.mem_of_getElem? (i := 34) rfl))) (Or.inl (hw _ (List.mem_of_getElem? (i := 42) rfl))) (by decide) (t := .int) (t' := .int) (by decide) (by decide)))
          have f183 := Fld.other W171 u11 (Or.inr (slot_ne (Or.inl (hw _ (List.mem_of_getElem? (i := 36) rfl))) (Or.inl (hw _ (List.mem_of_getElem? (i := 42) rfl))) (by decide) (t := .int) (t' := .int) (by decide) (by decide)))
          have f184 := Fld.same W171 u12
          have f185 := Fld.other W171 u13 (Or.inr (slot_ne (Or.inl (hw _ (List.mem_of_getElem? (i := 48) rfl))) (Or.inl (hw _ (List.mem_of_getElem? (i := 42) rfl))) (by decide) (t := .int) (t' := .int) (by decide) (by decide)))
          have f186 := Fld.other W171 u14 (Or.inr (slot_ne (Or.inl (hw _ (List.mem_of_getElem? (i := 50) rfl))) (Or.inl (hw _ (List.mem_of_getElem? (i := 42) rfl))) (by decide) (t := .boolean) (t' := .int) (by decide) (by decide)))
          refine own_by (T' := T171) (g' := (mkF m 204 #[.val (.ref a), .val (.ref tx), .val (.int off), .val (.int ln), .val (.int D)] [])) (fun t_ k_ => XS.goto X171.here hx rfl (pc0 := 240) (pc' := 204) rfl (hb hby own_d_read_240) (by decide) (by decide) k_) ?_
          exact ih D ng dg en pt fi (la - (1 : Int32)) ex ne T171 h171 _ X171 e171 N171 f172 f173 f174 f175 f176 f177 f178 f179 f180 f181 f182 f183 f184 f185 f186 hR y0 y1 y2 y3 (own_g1 fi la D kk z1 y2.1 z2) (own_g2 fi la D kk z1 y2.1 z2)
        · skip
          refine own_by (T' := T168) (g' := (mkF m 243 #[.val (.ref a), .val (.ref tx), .val (.int off), .val (.int ln), .val (.int D)] [])) (fun t_ k_ => XS.icmpYes X168.here hx rfl (pc0 := 227) (pc' := 243) rfl (hb hby own_d_read_227) rfl (feq (c227_169 : ¬ (d168 = (48 : Int32)))).2 (by decide) (by decide) k_) ?_
          exact m243 D ng dg en pt fi la ex ne T168 hh _ X168 e168 N168 u0 u1 u2 u3 u4 u5 u6 u7 u8 u9 u10 u11 u12 u13 u14 hR y1.1 y1.2
  have l163 : ∀ (kk : Nat) (D : Int32) (ng : Int32) (dg : Int32) (en : Int32) (pt : Int32) (fi : Int32) (la : Int32) (ex : Int32) (ne : Int32) (T1 : State) (hh : Heap) (lo : List Loc), Stand p l e ({ frames := 1, cells := 0, slots := 0, locals := 14 } : Room) s m #[(.ref a), (.ref tx), (.int off), (.int ln)] below meth c T1 lo 0 0 → T1.heap = hh → Fr n0 lo → n0 ≤ hh.size → Keep h0 hh [a] → Exa Z hh a "com/example/enumconv/enumconv/core/Decimal$Reading" → own_Ia Z hh tx .char 6 f → Fld Z hh a "com/example/enumconv/enumconv/core/Decimal$Reading" "text" "[C" (.ref tx) → Fld Z hh a "com/example/enumconv/enumconv/core/Decimal$Reading" "start" "I" (.int off) → Fld Z hh a "com/example/enumconv/enumconv/core/Decimal$Reading" "stop" "I" (.int (off + ln)) → Fld Z hh a "com/example/enumconv/enumconv/core/Decimal$Reading" "negative" "Z" (.int ng) → Fld Z hh a "com/example/enumconv/enumconv/core/Decimal$Reading" "digitsAt" "I" (.int dg) → Fld Z hh a "com/example/enumconv/enumconv/core/Decimal$Reading" "end" "I" (.int en) → Fld Z hh a "com/example/enumconv/enumconv/core/Decimal$Reading" "point" "I" (.int pt) → Fld Z hh a "com/example/enumconv/enumconv/core/Decimal$Reading" "first" "I" (.int fi) → Fld Z hh a "com/example/enumconv/enumconv/core/Decimal$Reading" "last" "I" (.int la) → Fld Z hh a "com/example/enumconv/enumconv/core/Decimal$Reading" "exponentAt" "I" (.int ex) → Fld Z hh a "com/example/enumconv/enumconv/core/Decimal$Reading" "negativeExponent" "Z" (.int ne) → (own_R f off (off + ln) pt en) → (0 ≤ dg.toInt) → (0 ≤ en.toInt ∧ en.toInt ≤ off.toInt + ln.toInt) → (0 ≤ D.toInt ∧ dg.toInt + D.toInt ≤ en.toInt) → (0 ≤ pt.toInt → dg.toInt + D.toInt + 1 ≤ en.toInt) → (0 ≤ fi.toInt ∧ fi.toInt ≤ D.toInt) → ((D.toInt - fi.toInt).toNat = kk) → own_Goes p e below (own_K (own_Q_read Z a tx off ln f u_text u_start u_stop u_negative u_digitsAt u_end u_point u_first u_last u_exponentAt u_negativeExponent h0 n0) s ({ frames := 1, cells := 0, slots := 0, locals := 14 } : Room).cells ({ frames := 1, cells := 0, slots := 0, locals := 14 } : Room).slots) T1 (mkF m 163 #[.val (.ref a), .val (.ref tx), .val (.int off), .val (.int ln), .val (.int D)] []) := by
    intro kk
    induction kk with
      | zero =>
        intro D ng dg en pt fi la ex ne T1 hh lo X1 e1 N1 u0 u1 u2 u3 u4 u5 u6 u7 u8 u9 u10 u11 u12 u13 u14 hR y0 y1 y2 y3 z1 z2
        refine own_by (T' := T1) (g' := (mkF m 164 #[.val (.ref a), .val (.ref tx), .val (.int off), .val (.int ln), .val (.int D)] [(.ref a)])) (fun t_ k_ => XS.aloadN X1.here hx rfl (hb hby own_d_read_163) rfl rfl k_) ?_
        obtain ⟨T187, X187, e187, st187⟩ := getF X1 hx hZ hown (host := "") (Or.inl (hw _ (List.mem_of_getElem? (i := 35) rfl))) Via.refl e1 u11 (g := (mkF m 164 #[.val (.ref a), .val (.ref tx), .val (.int off), .val (.int ln), .val (.int D)] [(.ref a)])) rfl rfl (hb hby own_d_read_164)
        refine own_by (T' := T187) (g' := (mkF m 167 #[.val (.ref a), .val (.ref tx), .val (.int off), .val (.int ln), .val (.int D)] [(.int fi)])) st187 ?_
        refine own_by (T' := T187) (g' := (mkF m 169 #[.val (.ref a), .val (.ref tx), .val (.int off), .val (.int ln), .val (.int D)] [(.int D), (.int fi)])) (fun t_ k_ => XS.iload X187.here hx rfl (hb hby own_d_read_167) rfl k_) ?_
        refine own_by (T' := T187) (g' := (mkF m 198 #[.val (.ref a), .val (.ref tx), .val (.int off), .val (.int ln), .val (.int D)] [])) (fun t_ k_ => XS.icmpYes X187.here hx rfl (pc0 := 169) (pc' := 198) rfl (hb hby own_d_read_169) rfl (flt ((own_ge1 fi D z2) : ¬ (fi < D))).2.1 (by decide) (by decide) k_) ?_
        refine own_by (T' := T187) (g' := (mkF m 199 #[.val (.ref a), .val (.ref tx), .val (.int off), .val (.int ln), .val (.int D)] [(.ref a)])) (fun t_ k_ => XS.aloadN X187.here hx rfl (hb hby own_d_read_198) rfl rfl k_) ?_
        refine own_by (T' := T187) (g' := (mkF m 201 #[.val (.ref a), .val (.ref tx), .val (.int off), .val (.int ln), .val (.int D)] [(.int D), (.ref a)])) (fun t_ k_ => XS.iload X187.here hx rfl (hb hby own_d_read_199) rfl k_) ?_
        obtain ⟨T188, h188, X188, e188, W188, st188⟩ := putF X187 hx hZ hown (host := "") (Or.inl (hw _ (List.mem_of_getElem? (i := 41) rfl))) Via.refl e187 u12 u2 (Or.inl (hw _ (List.mem_of_getElem? (i := 42) rfl))) (hw _ (List.mem_of_getElem? (i := 8) rfl)) (ty := .int) (by decide) rfl rfl (g := (mkF m 201 #[.val (.ref a), .val (.ref tx), .val (.int off), .val (.int ln), .val (.int D)] [(.int D), (.ref a)])) rfl rfl (hb hby own_d_read_201)
        refine own_by (T' := T188) (g' := (mkF m 204 #[.val (.ref a), .val (.ref tx), .val (.int off), .val (.int ln), .val (.int D)] [])) st188 ?_
        have N188 := Fr.snoc X188 N1 G0
        have f189 := Nat.le_trans u0 (Keep.of_wr W188).1
        have f190 := Keep.wr u1 W188 (Or.inl (List.mem_of_getElem? (i := 0) rfl))
        have f191 := Exa.wr W188 u2
        have f192 := own_Ia_other W188 u3 n1
        have f193 := Fld.other W188 u4 (Or.inr (slot_ne (Or.inl (hw _ (List.mem_of_getElem? (i := 22) rfl))) (Or.inl (hw _ (List.mem_of_getElem? (i := 42) rfl))) (by decide) (t := (.array .char)) (t' := .int) (by decide) (by decide)))
        have f194 := Fld.other W188 u5 (Or.inr (slot_ne (Or.inl (hw _ (List.mem_of_getElem? (i := 24) rfl))) (Or.inl (hw _ (List.mem_of_getElem? (i := 42) rfl))) (by decide) (t := .int) (t' := .int) (by decide) (by decide)))
        have f195 := Fld.other W188 u6 (Or.inr (slot_ne (Or.inl (hw _ (List.mem_of_getElem? (i := 26) rfl))) (Or.inl (hw _ (List.mem_of_getElem? (i := 42) rfl))) (by decide) (t := .int) (t' := .int) (by decide) (by decide)))
        have f196 := Fld.other W188 u7 (Or.inr (slot_ne (Or.inl (hw _ (List.mem_of_getElem? (i := 28) rfl))) (Or.inl (hw _ (List.mem_of_getElem? (i := 42) rfl))) (by decide) (t := .boolean) (t' := .int) (by decide) (by decide)))
        have f197 := Fld.other W188 u8 (Or.inr (slot_ne (Or.inl (hw _ (List.mem_of_getElem? (i := 30) rfl))) (Or.inl (hw _ (List.mem_of_getElem? (i := 42) rfl))) (by decide) (t := .int) (t' := .int) (by decide) (by decide)))
        have f198 := Fld.other W188 u9 (Or.inr (slot_ne (Or.inl (hw _ (List.mem_of_getElem? (i := 32) rfl))) (Or.inl (hw _ (List.mem_of_getElem? (i := 42) rfl))) (by decide) (t := .int) (t' := .int) (by decide) (by decide)))
        have f199 := Fld.other W188 u10 (Or.inr (slot_ne (Or.inl (hw _ (List.mem_of_getElem? (i := 34) rfl))) (Or.inl (hw _ (List.mem_of_getElem? (i := 42) rfl))) (by decide) (t := .int) (t' := .int) (by decide) (by decide)))
        have f200 := Fld.other W188 u11 (Or.inr (slot_ne (Or.inl (hw _ (List.mem_of_getElem? (i := 36) rfl))) (Or.inl (hw _ (List.mem_of_getElem? (i := 42) rfl))) (by decide) (t := .int) (t' := .int) (by decide) (by decide)))
        have f201 := Fld.same W188 u12
        have f202 := Fld.other W188 u13 (Or.inr (slot_ne (Or.inl (hw _ (List.mem_of_getElem? (i := 48) rfl))) (Or.inl (hw _ (List.mem_of_getElem? (i := 42) rfl))) (by decide) (t := .int) (t' := .int) (by decide) (by decide)))
        have f203 := Fld.other W188 u14 (Or.inr (slot_ne (Or.inl (hw _ (List.mem_of_getElem? (i := 50) rfl))) (Or.inl (hw _ (List.mem_of_getElem? (i := 42) rfl))) (by decide) (t := .boolean) (t' := .int) (by decide) (by decide)))
        exact l204 _ D ng dg en pt fi D ex ne T188 h188 _ X188 e188 N188 f189 f190 f191 f192 f193 f194 f195 f196 f197 f198 f199 f200 f201 f202 f203 hR y0 y1 y2 y3 ⟨z1.1, z1.2, Int.le_refl _⟩ rfl
      | succ kk ih =>
        intro D ng dg en pt fi la ex ne T1 hh lo X1 e1 N1 u0 u1 u2 u3 u4 u5 u6 u7 u8 u9 u10 u11 u12 u13 u14 hR y0 y1 y2 y3 z1 z2
        refine own_by (T' := T1) (g' := (mkF m 164 #[.val (.ref a), .val (.ref tx), .val (.int off), .val (.int ln), .val (.int D)] [(.ref a)])) (fun t_ k_ => XS.aloadN X1.here hx rfl (hb hby own_d_read_163) rfl rfl k_) ?_
        obtain ⟨T204, X204, e204, st204⟩ := getF X1 hx hZ hown (host := "") (Or.inl (hw _ (List.mem_of_getElem? (i := 35) rfl))) Via.refl e1 u11 (g := (mkF m 164 #[.val (.ref a), .val (.ref tx), .val (.int off), .val (.int ln), .val (.int D)] [(.ref a)])) rfl rfl (hb hby own_d_read_164)
        refine own_by (T' := T204) (g' := (mkF m 167 #[.val (.ref a), .val (.ref tx), .val (.int off), .val (.int ln), .val (.int D)] [(.int fi)])) st204 ?_
        refine own_by (T' := T204) (g' := (mkF m 169 #[.val (.ref a), .val (.ref tx), .val (.int off), .val (.int ln), .val (.int D)] [(.int D), (.int fi)])) (fun t_ k_ => XS.iload X204.here hx rfl (hb hby own_d_read_167) rfl k_) ?_
        refine own_by (T' := T204) (g' := (mkF m 172 #[.val (.ref a), .val (.ref tx), .val (.int off), .val (.int ln), .val (.int D)] [])) (fun t_ k_ => XS.icmpNo X204.here hx rfl (hb hby own_d_read_169) rfl (tlt ((own_lt1 fi D kk z2) : fi < D)).2.1 k_) ?_
        refine own_by (T' := T204) (g' := (mkF m 173 #[.val (.ref a), .val (.ref tx), .val (.int off), .val (.int ln), .val (.int D)] [(.ref a)])) (fun t_ k_ => XS.aloadN X204.here hx rfl (hb hby own_d_read_172) rfl rfl k_) ?_
        refine own_by (T' := T204) (g' := (mkF m 174 #[.val (.ref a), .val (.ref tx), .val (.int off), .val (.int ln), .val (.int D)] [(.ref a), (.ref a)])) (fun t_ k_ => XS.aloadN X204.here hx rfl (hb hby own_d_read_173) rfl rfl k_) ?_
        obtain ⟨T205, X205, e205, st205⟩ := getF X204 hx hZ hown (host := "") (Or.inl (hw _ (List.mem_of_getElem? (i := 35) rfl))) Via.refl e204 u11 (g := (mkF m 174 #[.val (.ref a), .val (.ref tx), .val (.int off), .val (.int ln), .val (.int D)] [(.ref a), (.ref a)])) rfl rfl (hb hby own_d_read_174)
        refine own_by (T' := T205) (g' := (mkF m 177 #[.val (.ref a), .val (.ref tx), .val (.int off), .val (.int ln), .val (.int D)] [(.int fi), (.ref a)])) st205 ?_
        obtain ⟨_, T206, L206, X206, hQ206, st206⟩ := own_callPv X205 hx hZ (y := (⟨"com/example/enumconv/enumconv/core/Decimal$Reading", "digit", "(I)C"⟩ : MethodName)) hown (hw _ (List.mem_of_getElem? (i := 37) rfl)) (own_selp (hw _ (List.mem_of_getElem? (i := 39) rfl)) (hw _ (List.mem_of_getElem? (i := 38) rfl)) (hw _ (List.mem_of_getElem? (i := 8) rfl)) (by decide)) (hw _ (List.mem_of_getElem? (i := 38) rfl)) (hw _ (List.mem_of_getElem? (i := 39) rfl)) (hw _ (List.mem_of_getElem? (i := 9) rfl)) (hw _ (List.mem_of_getElem? (i := 40) rfl)) (by decide) (argsL := [(.int fi)]) (rest := []) u2 (own_rm_dgt l Z a0 hw [] a fi dg tx pt f hh n0 u0 u8 u4 u10 u3 (own_v1 off ln dg fi D en kk ho hl hs z1 z2 y0 y1 y2) (own_v2 off ln dg fi D en pt kk ho hl hs z1 z2 y0 y1 y3)) e205 (W := 0) (by decide) (by decide) (by decide) (by decide) (g := (mkF m 177 #[.val (.ref a), .val (.ref tx), .val (.int off), .val (.int ln), .val (.int D)] [(.int fi), (.ref a)])) rfl (by rw [hml]; rfl) (lenOf own_pd1 rfl) rfl (by show 2 * 0 + _ ≤ _; exact Nat.le_of_eq rfl) (hb hby own_d_read_177)
        obtain ⟨d206, rfl, Nq206, e206⟩ := hQ206
        have N206 := Fr.app N1 Nq206
        refine st206 _ ?_
        show own_Goes p e below _ T206 (mkF m 180 #[.val (.ref a), .val (.ref tx), .val (.int off), .val (.int ln), .val (.int D)] [(.int d206)])
        refine own_by (T' := T206) (g' := (mkF m 182 #[.val (.ref a), .val (.ref tx), .val (.int off), .val (.int ln), .val (.int D)] [(.int (48 : Int32)), (.int d206)])) (fun t_ k_ => XS.bipush X206.here hx rfl (hb hby own_d_read_180) k_) ?_
        by_cases c182_207 : d206 = (48 : Int32)
        · skip
          refine own_by (T' := T206) (g' := (mkF m 185 #[.val (.ref a), .val (.ref tx), .val (.int off), .val (.int ln), .val (.int D)] [])) (fun t_ k_ => XS.icmpNo X206.here hx rfl (hb hby own_d_read_182) rfl (teq (c182_207 : d206 = (48 : Int32))).2 k_) ?_
          refine own_by (T' := T206) (g' := (mkF m 186 #[.val (.ref a), .val (.ref tx), .val (.int off), .val (.int ln), .val (.int D)] [(.ref a)])) (fun t_ k_ => XS.aloadN X206.here hx rfl (hb hby own_d_read_185) rfl rfl k_) ?_
          refine own_by (T' := T206) (g' := (mkF m 187 #[.val (.ref a), .val (.ref tx), .val (.int off), .val (.int ln), .val (.int D)] [(.ref a), (.ref a)])) (fun t_ k_ => XS.dup X206.here hx rfl (hb hby own_d_read_186) rfl rfl k_) ?_
          obtain ⟨T208, X208, e208, st208⟩ := getF X206 hx hZ hown (host := "") (Or.inl (hw _ (List.mem_of_getElem? (i := 35) rfl))) Via.refl e206 u11 (g := (mkF m 187 #[.val (.ref a), .val (.ref tx), .val (.int off), .val (.int ln), .val (.int D)] [(.ref a), (.ref a)])) rfl rfl (hb hby own_d_read_187)
          refine own_by (T' := T208) (g' := (mkF m 190 #[.val (.ref a), .val (.ref tx), .val (.int off), .val (.int ln), .val (.int D)] [(.int fi), (.ref a)])) st208 ?_
          refine own_by (T' := T208) (g' := (mkF m 191 #[.val (.ref a), .val (.ref tx), .val (.int off), .val (.int ln), .val (.int D)] [(.int (1 : Int32)), (.int fi), (.ref a)])) (fun t_ k_ => XS.iconst X208.here hx rfl (hb hby own_d_read_190) k_) ?_
          refine own_by (T' := T208) (g' := (mkF m 192 #[.val (.ref a), .val (.ref tx), .val (.int off), .val (.int ln), .val (.int D)] [(.int (fi + (1 : Int32))), (.ref a)])) (fun t_ k_ => XS.iadd X208.here hx rfl (hb hby own_d_read_191) rfl k_) ?_
          obtain ⟨T209, h209, X209, e209, W209, st209⟩ := putF X208 hx hZ hown (host := "") (Or.inl (hw _ (List.mem_of_getElem? (i := 35) rfl))) Via.refl e208 u11 u2 (Or.inl (hw _ (List.mem_of_getElem? (i := 36) rfl))) (hw _ (List.mem_of_getElem? (i := 8) rfl)) (ty := .int) (by decide) rfl rfl (g := (mkF m 192 #[.val (.ref a), .val (.ref tx), .val (.int off), .val (.int ln), .val (.int D)] [(.int (fi + (1 : Int32))), (.ref a)])) rfl rfl (hb hby own_d_read_192)
          refine own_by (T' := T209) (g' := (mkF m 195 #[.val (.ref a), .val (.ref tx), .val (.int off), .val (.int ln), .val (.int D)] [])) st209 ?_
          have N209 := Fr.snoc X209 N206 G0
          have f210 := Nat.le_trans u0 (Keep.of_wr W209).1
          have f211 := Keep.wr u1 W209 (Or.inl (List.mem_of_getElem? (i := 0) rfl))
          have f212 := Exa.wr W209 u2
          have f213 := own_Ia_other W209 u3 n1
          have f214 := Fld.other W209 u4 (Or.inr (slot_ne (Or.inl (hw _ (List.mem_of_getElem? (i := 22) rfl))) (Or.inl (hw _ (List.mem_of_getElem? (i := 36) rfl))) (by decide) (t := (.array .char)) (t' := .int) (by decide) (by decide)))
          have f215 := Fld.other W209 u5 (Or.inr (slot_ne (Or.inl (hw _ (List.mem_of_getElem? (i := 24) rfl))) (Or.inl (hw _ (List.mem_of_getElem? (i := 36) rfl))) (by decide) (t := .int) (t' := .int) (by decide) (by decide)))
          have f216 := Fld.other W209 u6 (Or.inr (slot_ne (Or.inl (hw _ (List.mem_of_getElem? (i := 26) rfl))) (Or.inl (hw _ (List.mem_of_getElem? (i := 36) rfl))) (by decide) (t := .int) (t' := .int) (by decide) (by decide)))
          have f217 := Fld.other W209 u7 (Or.inr (slot_ne (Or.inl (hw _ (List.mem_of_getElem? (i := 28) rfl))) (Or.inl (hw _ (List.mem_of_getElem? (i := 36) rfl))) (by decide) (t := .boolean) (t' := .int) (by decide) (by decide)))
          have f218 := Fld.other W209 u8 (Or.inr (slot_ne (Or.inl (hw _ (List.mem_of_getElem? (i := 30) rfl))) (Or.inl (hw _ (List.mem_of_getElem? (i := 36) rfl))) (by decide) (t := .int) (t' := .int) (by decide) (by decide)))
          have f219 := Fld.other W209 u9 (Or.inr (slot_ne (Or.inl (hw _ (List.mem_of_getElem? (i := 32) rfl))) (Or.inl (hw _ (List.mem_of_getElem? (i := 36) rfl))) (by decide) (t := .int) (t' := .int) (by decide) (by decide)))
          have f220 := Fld.other W209 u10 (Or.inr (slot_ne (Or.inl (hw _ (List.mem_of_getElem? (i := 34) rfl))) (Or.inl (hw _ (List.mem_of_getElem? (i := 36) rfl))) (by decide) (t := .int) (t' := .int) (by decide) (by decide)))
          have f221 := Fld.same W209 u11
          have f222 := Fld.other W209 u12 (Or.inr (slot_ne (Or.inl (hw _ (List.mem_of_getElem? (i := 42) rfl))) (Or.inl (hw _ (List.mem_of_getElem? (i := 36) rfl))) (by decide) (t := .int) (t' := .int) (by decide) (by decide)))
          have f223 := Fld.other W209 u13 (Or.inr (slot_ne (Or.inl (hw _ (List.mem_of_getElem? (i := 48) rfl))) (Or.inl (hw _ (List.mem_of_getElem? (i := 36) rfl))) (by decide) (t := .int) (t' := .int) (by decide) (by decide)))
          have f224 := Fld.other W209 u14 (Or.inr (slot_ne (Or.inl (hw _ (List.mem_of_getElem? (i := 50) rfl))) (Or.inl (hw _ (List.mem_of_getElem? (i := 36) rfl))) (by decide) (t := .boolean) (t' := .int) (by decide) (by decide)))
          refine own_by (T' := T209) (g' := (mkF m 163 #[.val (.ref a), .val (.ref tx), .val (.int off), .val (.int ln), .val (.int D)] [])) (fun t_ k_ => XS.goto X209.here hx rfl (pc0 := 195) (pc' := 163) rfl (hb hby own_d_read_195) (by decide) (by decide) k_) ?_
          exact ih D ng dg en pt (fi + (1 : Int32)) la ex ne T209 h209 _ X209 e209 N209 f210 f211 f212 f213 f214 f215 f216 f217 f218 f219 f220 f221 f222 f223 f224 hR y0 y1 y2 y3 (own_k1 fi D dg en kk z1 z2 y0 y2) (own_k2 fi D dg en kk z1 z2 y0 y2)
        · skip
          refine own_by (T' := T206) (g' := (mkF m 198 #[.val (.ref a), .val (.ref tx), .val (.int off), .val (.int ln), .val (.int D)] [])) (fun t_ k_ => XS.icmpYes X206.here hx rfl (pc0 := 182) (pc' := 198) rfl (hb hby own_d_read_182) rfl (feq (c182_207 : ¬ (d206 = (48 : Int32)))).2 (by decide) (by decide) k_) ?_
          refine own_by (T' := T206) (g' := (mkF m 199 #[.val (.ref a), .val (.ref tx), .val (.int off), .val (.int ln), .val (.int D)] [(.ref a)])) (fun t_ k_ => XS.aloadN X206.here hx rfl (hb hby own_d_read_198) rfl rfl k_) ?_
          refine own_by (T' := T206) (g' := (mkF m 201 #[.val (.ref a), .val (.ref tx), .val (.int off), .val (.int ln), .val (.int D)] [(.int D), (.ref a)])) (fun t_ k_ => XS.iload X206.here hx rfl (hb hby own_d_read_199) rfl k_) ?_
          obtain ⟨T225, h225, X225, e225, W225, st225⟩ := putF X206 hx hZ hown (host := "") (Or.inl (hw _ (List.mem_of_getElem? (i := 41) rfl))) Via.refl e206 u12 u2 (Or.inl (hw _ (List.mem_of_getElem? (i := 42) rfl))) (hw _ (List.mem_of_getElem? (i := 8) rfl)) (ty := .int) (by decide) rfl rfl (g := (mkF m 201 #[.val (.ref a), .val (.ref tx), .val (.int off), .val (.int ln), .val (.int D)] [(.int D), (.ref a)])) rfl rfl (hb hby own_d_read_201)
          refine own_by (T' := T225) (g' := (mkF m 204 #[.val (.ref a), .val (.ref tx), .val (.int off), .val (.int ln), .val (.int D)] [])) st225 ?_
          have N225 := Fr.snoc X225 N206 G0
          have f226 := Nat.le_trans u0 (Keep.of_wr W225).1
          have f227 := Keep.wr u1 W225 (Or.inl (List.mem_of_getElem? (i := 0) rfl))
          have f228 := Exa.wr W225 u2
          have f229 := own_Ia_other W225 u3 n1
          have f230 := Fld.other W225 u4 (Or.inr (slot_ne (Or.inl (hw _ (List.mem_of_getElem? (i := 22) rfl))) (Or.inl (hw _ (List.mem_of_getElem? (i := 42) rfl))) (by decide) (t := (.array .char)) (t' := .int) (by decide) (by decide)))
          have f231 := Fld.other W225 u5 (Or.inr (slot_ne (Or.inl (hw _ (List.mem_of_getElem? (i := 24) rfl))) (Or.inl (hw _ (List.mem_of_getElem? (i := 42) rfl))) (by decide) (t := .int) (t' := .int) (by decide) (by decide)))
          have f232 := Fld.other W225 u6 (Or.inr (slot_ne (Or.inl (hw _ (List.mem_of_getElem? (i := 26) rfl))) (Or.inl (hw _ (List.mem_of_getElem? (i := 42) rfl))) (by decide) (t := .int) (t' := .int) (by decide) (by decide)))
          have f233 := Fld.other W225 u7 (Or.inr (slot_ne (Or.inl (hw _ (List.mem_of_getElem? (i := 28) rfl))) (Or.inl (hw _ (List.mem_of_getElem? (i := 42) rfl))) (by decide) (t := .boolean) (t' := .int) (by decide) (by decide)))
          have f234 := Fld.other W225 u8 (Or.inr (slot_ne (Or.inl (hw _ (List.mem_of_getElem? (i := 30) rfl))) (Or.inl (hw _ (List.mem_of_getElem? (i := 42) rfl))) (by decide) (t := .int) (t' := .int) (by decide) (by decide)))
          have f235 := Fld.other W225 u9 (Or.inr (slot_ne (Or.inl (hw _ (List.mem_of_getElem? (i := 32) rfl))) (Or.inl (hw _ (List.mem_of_getElem? (i := 42) rfl))) (by decide) (t := .int) (t' := .int) (by decide) (by decide)))
          have f236 := Fld.other W225 u10 (Or.inr (slot_ne (Or.inl (hw _ (List.mem_of_getElem? (i := 34) rfl))) (Or.inl (hw _ (List.mem_of_getElem? (i := 42) rfl))) (by decide) (t := .int) (t' := .int) (by decide) (by decide)))
          have f237 := Fld.other W225 u11 (Or.inr (slot_ne (Or.inl (hw _ (List.mem_of_getElem? (i := 36) rfl))) (Or.inl (hw _ (List.mem_of_getElem? (i := 42) rfl))) (by decide) (t := .int) (t' := .int) (by decide) (by decide)))
          have f238 := Fld.same W225 u12
          have f239 := Fld.other W225 u13 (Or.inr (slot_ne (Or.inl (hw _ (List.mem_of_getElem? (i := 48) rfl))) (Or.inl (hw _ (List.mem_of_getElem? (i := 42) rfl))) (by decide) (t := .int) (t' := .int) (by decide) (by decide)))
          have f240 := Fld.other W225 u14 (Or.inr (slot_ne (Or.inl (hw _ (List.mem_of_getElem? (i := 50) rfl))) (Or.inl (hw _ (List.mem_of_getElem? (i := 42) rfl))) (by decide) (t := .boolean) (t' := .int) (by decide) (by decide)))
          exact l204 _ D ng dg en pt fi D ex ne T225 h225 _ X225 e225 N225 f226 f227 f228 f229 f230 f231 f232 f233 f234 f235 f236 f237 f238 f239 f240 hR y0 y1 y2 y3 ⟨z1.1, z1.2, Int.le_refl _⟩ rfl
  have m134 : ∀ (ng : Int32) (dg : Int32) (en : Int32) (pt : Int32) (fi : Int32) (la : Int32) (ex : Int32) (ne : Int32) (T1 : State) (hh : Heap) (lo : List Loc), Stand p l e ({ frames := 1, cells := 0, slots := 0, locals := 14 } : Room) s m #[(.ref a), (.ref tx), (.int off), (.int ln)] below meth c T1 lo 0 0 → T1.heap = hh → Fr n0 lo → n0 ≤ hh.size → Keep h0 hh [a] → Exa Z hh a "com/example/enumconv/enumconv/core/Decimal$Reading" → own_Ia Z hh tx .char 6 f → Fld Z hh a "com/example/enumconv/enumconv/core/Decimal$Reading" "text" "[C" (.ref tx) → Fld Z hh a "com/example/enumconv/enumconv/core/Decimal$Reading" "start" "I" (.int off) → Fld Z hh a "com/example/enumconv/enumconv/core/Decimal$Reading" "stop" "I" (.int (off + ln)) → Fld Z hh a "com/example/enumconv/enumconv/core/Decimal$Reading" "negative" "Z" (.int ng) → Fld Z hh a "com/example/enumconv/enumconv/core/Decimal$Reading" "digitsAt" "I" (.int dg) → Fld Z hh a "com/example/enumconv/enumconv/core/Decimal$Reading" "end" "I" (.int en) → Fld Z hh a "com/example/enumconv/enumconv/core/Decimal$Reading" "point" "I" (.int pt) → Fld Z hh a "com/example/enumconv/enumconv/core/Decimal$Reading" "first" "I" (.int fi) → Fld Z hh a "com/example/enumconv/enumconv/core/Decimal$Reading" "last" "I" (.int la) → Fld Z hh a "com/example/enumconv/enumconv/core/Decimal$Reading" "exponentAt" "I" (.int ex) → Fld Z hh a "com/example/enumconv/enumconv/core/Decimal$Reading" "negativeExponent" "Z" (.int ne) → (own_R f off (off + ln) pt en) → (0 ≤ dg.toInt) → (0 ≤ en.toInt ∧ en.toInt ≤ off.toInt + ln.toInt) → (dg.toInt ≤ en.toInt) → (0 ≤ pt.toInt → dg.toInt ≤ pt.toInt ∧ pt.toInt < en.toInt) → own_Goes p e below (own_K (own_Q_read Z a tx off ln f u_text u_start u_stop u_negative u_digitsAt u_end u_point u_first u_last u_exponentAt u_negativeExponent h0 n0) s ({ frames := 1, cells := 0, slots := 0, locals := 14 } : Room).cells ({ frames := 1, cells := 0, slots := 0, locals := 14 } : Room).slots) T1 (mkF m 134 #[.val (.ref a), .val (.ref tx), .val (.int off), .val (.int ln), .unset] []) := by
    intro ng dg en pt fi la ex ne T1 hh lo X1 e1 N1 u0 u1 u2 u3 u4 u5 u6 u7 u8 u9 u10 u11 u12 u13 u14 hR y0 y1 y2 y3
    refine own_by (T' := T1) (g' := (mkF m 135 #[.val (.ref a), .val (.ref tx), .val (.int off), .val (.int ln), .unset] [(.ref a)])) (fun t_ k_ => XS.aloadN X1.here hx rfl (hb hby own_d_read_134) rfl rfl k_) ?_
    obtain ⟨T241, X241, e241, st241⟩ := getF X1 hx hZ hown (host := "") (Or.inl (hw _ (List.mem_of_getElem? (i := 31) rfl))) Via.refl e1 u9 (g := (mkF m 135 #[.val (.ref a), .val (.ref tx), .val (.int off), .val (.int ln), .unset] [(.ref a)])) rfl rfl (hb hby own_d_read_135)
    refine own_by (T' := T241) (g' := (mkF m 138 #[.val (.ref a), .val (.ref tx), .val (.int off), .val (.int ln), .unset] [(.int en)])) st241 ?_
    refine own_by (T' := T241) (g' := (mkF m 139 #[.val (.ref a), .val (.ref tx), .val (.int off), .val (.int ln), .unset] [(.ref a), (.int en)])) (fun t_ k_ => XS.aloadN X241.here hx rfl (hb hby own_d_read_138) rfl rfl k_) ?_
    obtain ⟨T242, X242, e242, st242⟩ := getF X241 hx hZ hown (host := "") (Or.inl (hw _ (List.mem_of_getElem? (i := 29) rfl))) Via.refl e241 u8 (g := (mkF m 139 #[.val (.ref a), .val (.ref tx), .val (.int off), .val (.int ln), .unset] [(.ref a), (.int en)])) rfl rfl (hb hby own_d_read_139)
    refine own_by (T' := T242) (g' := (mkF m 142 #[.val (.ref a), .val (.ref tx), .val (.int off), .val (.int ln), .unset] [(.int dg), (.int en)])) st242 ?_
    refine own_by (T' := T242) (g' := (mkF m 143 #[.val (.ref a), .val (.ref tx), .val (.int off), .val (.int ln), .unset] [(.int (en - dg))])) (fun t_ k_ => XS.isub X242.here hx rfl (hb hby own_d_read_142) rfl k_) ?_
    refine own_by (T' := T242) (g' := (mkF m 144 #[.val (.ref a), .val (.ref tx), .val (.int off), .val (.int ln), .unset] [(.ref a), (.int (en - dg))])) (fun t_ k_ => XS.aloadN X242.here hx rfl (hb hby own_d_read_143) rfl rfl k_) ?_
    obtain ⟨T243, X243, e243, st243⟩ := getF X242 hx hZ hown (host := "") (Or.inl (hw _ (List.mem_of_getElem? (i := 33) rfl))) Via.refl e242 u10 (g := (mkF m 144 #[.val (.ref a), .val (.ref tx), .val (.int off), .val (.int ln), .unset] [(.ref a), (.int (en - dg))])) rfl rfl (hb hby own_d_read_144)
    refine own_by (T' := T243) (g' := (mkF m 147 #[.val (.ref a), .val (.ref tx), .val (.int off), .val (.int ln), .unset] [(.int pt), (.int (en - dg))])) st243 ?_
    by_cases c147_244 : pt < (0 : Int32)
    · skip
      refine own_by (T' := T243) (g' := (mkF m 150 #[.val (.ref a), .val (.ref tx), .val (.int off), .val (.int ln), .unset] [(.int (en - dg))])) (fun t_ k_ => XS.ifNo X243.here hx rfl (hb hby own_d_read_147) rfl ((if0 _ _).trans (tlt (c147_244 : pt < (0 : Int32))).2.1) k_) ?_
      refine own_by (T' := T243) (g' := (mkF m 151 #[.val (.ref a), .val (.ref tx), .val (.int off), .val (.int ln), .unset] [(.int (0 : Int32)), (.int (en - dg))])) (fun t_ k_ => XS.iconst X243.here hx rfl (hb hby own_d_read_150) k_) ?_
      refine own_by (T' := T243) (g' := (mkF m 155 #[.val (.ref a), .val (.ref tx), .val (.int off), .val (.int ln), .unset] [(.int (0 : Int32)), (.int (en - dg))])) (fun t_ k_ => XS.goto X243.here hx rfl (pc0 := 151) (pc' := 155) rfl (hb hby own_d_read_151) (by decide) (by decide) k_) ?_
      refine own_by (T' := T243) (g' := (mkF m 156 #[.val (.ref a), .val (.ref tx), .val (.int off), .val (.int ln), .unset] [(.int ((en - dg) - (0 : Int32)))])) (fun t_ k_ => XS.isub X243.here hx rfl (hb hby own_d_read_155) rfl k_) ?_
      refine own_by (T' := T243) (g' := (mkF m 158 #[.val (.ref a), .val (.ref tx), .val (.int off), .val (.int ln), .val (.int ((en - dg) - (0 : Int32)))] [])) (fun t_ k_ => XS.istore X243.here hx rfl (hb hby own_d_read_156) rfl (l' := #[.val (.ref a), .val (.ref tx), .val (.int off), .val (.int ln), .val (.int ((en - dg) - (0 : Int32)))]) rfl k_) ?_
      refine own_by (T' := T243) (g' := (mkF m 159 #[.val (.ref a), .val (.ref tx), .val (.int off), .val (.int ln), .val (.int ((en - dg) - (0 : Int32)))] [(.ref a)])) (fun t_ k_ => XS.aloadN X243.here hx rfl (hb hby own_d_read_158) rfl rfl k_) ?_
      refine own_by (T' := T243) (g' := (mkF m 160 #[.val (.ref a), .val (.ref tx), .val (.int off), .val (.int ln), .val (.int ((en - dg) - (0 : Int32)))] [(.int (0 : Int32)), (.ref a)])) (fun t_ k_ => XS.iconst X243.here hx rfl (hb hby own_d_read_159) k_) ?_
      obtain ⟨T245, h245, X245, e245, W245, st245⟩ := putF X243 hx hZ hown (host := "") (Or.inl (hw _ (List.mem_of_getElem? (i := 35) rfl))) Via.refl e243 u11 u2 (Or.inl (hw _ (List.mem_of_getElem? (i := 36) rfl))) (hw _ (List.mem_of_getElem? (i := 8) rfl)) (ty := .int) (by decide) rfl rfl (g := (mkF m 160 #[.val (.ref a), .val (.ref tx), .val (.int off), .val (.int ln), .val (.int ((en - dg) - (0 : Int32)))] [(.int (0 : Int32)), (.ref a)])) rfl rfl (hb hby own_d_read_160)
      refine own_by (T' := T245) (g' := (mkF m 163 #[.val (.ref a), .val (.ref tx), .val (.int off), .val (.int ln), .val (.int ((en - dg) - (0 : Int32)))] [])) st245 ?_
      have N245 := Fr.snoc X245 N1 G0
      have f246 := Nat.le_trans u0 (Keep.of_wr W245).1
      have f247 := Keep.wr u1 W245 (Or.inl (List.mem_of_getElem? (i := 0) rfl))
      have f248 := Exa.wr W245 u2
      have f249 := own_Ia_other W245 u3 n1
      have f250 := Fld.other W245 u4 (Or.inr (slot_ne (Or.inl (hw _ (List.mem_of_getElem? (i := 22) rfl))) (Or.inl (hw _ (List.mem_of_getElem? (i := 36) rfl))) (by decide) (t := (.array .char)) (t' := .int) (by decide) (by decide)))
      have f251 := Fld.other W245 u5 (Or.inr (slot_ne (Or.inl (hw _ (List.mem_of_getElem? (i := 24) rfl))) (Or.inl (hw _ (List.mem_of_getElem? (i := 36) rfl))) (by decide) (t := .int) (t' := .int) (by decide) (by decide)))
      have f252 := Fld.other W245 u6 (Or.inr (slot_ne (Or.inl (hw _ (List.mem_of_getElem? (i := 26) rfl))) (Or.inl (hw _ (List.mem_of_getElem? (i := 36) rfl))) (by decide) (t := .int) (t' := .int) (by decide) (by decide)))
      have f253 := Fld.other W245 u7 (Or.inr (slot_ne (Or.inl (hw _ (List.mem_of_getElem? (i := 28) rfl))) (Or.inl (hw _ (List.mem_of_getElem? (i := 36) rfl))) (by decide) (t := .boolean) (t' := .int) (by decide) (by decide)))
      have f254 := Fld.other W245 u8 (Or.inr (slot_ne (Or.inl (hw _ (List.mem_of_getElem? (i := 30) rfl))) (Or.inl (hw _ (List.mem_of_getElem? (i := 36) rfl))) (by decide) (t := .int) (t' := .int) (by decide) (by decide)))
      have f255 := Fld.other W245 u9 (Or.inr (slot_ne (Or.inl (hw _ (List.mem_of_getElem? (i := 32) rfl))) (Or.inl (hw _ (List.mem_of_getElem? (i := 36) rfl))) (by decide) (t := .int) (t' := .int) (by decide) (by decide)))
      have f256 := Fld.other W245 u10 (Or.inr (slot_ne (Or.inl (hw _ (List.mem_of_getElem? (i := 34) rfl))) (Or.inl (hw _ (List.mem_of_getElem? (i := 36) rfl))) (by decide) (t := .int) (t' := .int) (by decide) (by decide)))
      have f257 := Fld.same W245 u11
      have f258 := Fld.other W245 u12 (Or.inr (slot_ne (Or.inl (hw _ (List.mem_of_getElem? (i := 42) rfl))) (Or.inl (hw _ (List.mem_of_getElem? (i := 36) rfl))) (by decide) (t := .int) (t' := .int) (by decide) (by decide)))
      have f259 := Fld.other W245 u13 (Or.inr (slot_ne (Or.inl (hw _ (List.mem_of_getElem? (i := 48) rfl))) (Or.inl (hw _ (List.mem_of_getElem? (i := 36) rfl))) (by decide) (t := .int) (t' := .int) (by decide) (by decide)))
      have f260 := Fld.other W245 u14 (Or.inr (slot_ne (Or.inl (hw _ (List.mem_of_getElem? (i := 50) rfl))) (Or.inl (hw _ (List.mem_of_getElem? (i := 36) rfl))) (by decide) (t := .boolean) (t' := .int) (by decide) (by decide)))
      exact l163 _ (((en - dg) - (0 : Int32))) ng dg en pt (0 : Int32) la ex ne T245 h245 _ X245 e245 N245 f246 f247 f248 f249 f250 f251 f252 f253 f254 f255 f256 f257 f258 f259 f260 hR y0 y1 (own_dn1 dg en off ln pt ho hl hs y0 y1 y2 y3 c147_244) (own_dn2 dg en off ln pt ho hl hs y0 y1 y2 y3 c147_244) ⟨by decide, (own_dn1 dg en off ln pt ho hl hs y0 y1 y2 y3 c147_244).1⟩ rfl
    · skip
      refine own_by (T' := T243) (g' := (mkF m 154 #[.val (.ref a), .val (.ref tx), .val (.int off), .val (.int ln), .unset] [(.int (en - dg))])) (fun t_ k_ => XS.ifYes X243.here hx rfl (pc0 := 147) (pc' := 154) rfl (hb hby own_d_read_147) rfl ((if0 _ _).trans (flt (c147_244 : ¬ (pt < (0 : Int32)))).2.1) (by decide) (by decide) k_) ?_
      refine own_by (T' := T243) (g' := (mkF m 155 #[.val (.ref a), .val (.ref tx), .val (.int off), .val (.int ln), .unset] [(.int (1 : Int32)), (.int (en - dg))])) (fun t_ k_ => XS.iconst X243.here hx rfl (hb hby own_d_read_154) k_) ?_
      refine own_by (T' := T243) (g' := (mkF m 156 #[.val (.ref a), .val (.ref tx), .val (.int off), .val (.int ln), .unset] [(.int ((en - dg) - (1 : Int32)))])) (fun t_ k_ => XS.isub X243.here hx rfl (hb hby own_d_read_155) rfl k_) ?_
      refine own_by (T' := T243) (g' := (mkF m 158 #[.val (.ref a), .val (.ref tx), .val (.int off), .val (.int ln), .val (.int ((en - dg) - (1 : Int32)))] [])) (fun t_ k_ => XS.istore X243.here hx rfl (hb hby own_d_read_156) rfl (l' := #[.val (.ref a), .val (.ref tx), .val (.int off), .val (.int ln), .val (.int ((en - dg) - (1 : Int32)))]) rfl k_) ?_
      refine own_by (T' := T243) (g' := (mkF m 159 #[.val (.ref a), .val (.ref tx), .val (.int off), .val (.int ln), .val (.int ((en - dg) - (1 : Int32)))] [(.ref a)])) (fun t_ k_ => XS.aloadN X243.here hx rfl (hb hby own_d_read_158) rfl rfl k_) ?_
      refine own_by (T' := T243) (g' := (mkF m 160 #[.val (.ref a), .val (.ref tx), .val (.int off), .val (.int ln), .val (.int ((en - dg) - (1 : Int32)))] [(.int (0 : Int32)), (.ref a)])) (fun t_ k_ => XS.iconst X243.here hx rfl (hb hby own_d_read_159) k_) ?_
      obtain ⟨T261, h261, X261, e261, W261, st261⟩ := putF X243 hx hZ hown (host := "") (Or.inl (hw _ (List.mem_of_getElem? (i := 35) rfl))) Via.refl e243 u11 u2 (Or.inl (hw _ (List.mem_of_getElem? (i := 36) rfl))) (hw _ (List.mem_of_getElem? (i := 8) rfl)) (ty := .int) (by decide) rfl rfl (g := (mkF m 160 #[.val (.ref a), .val (.ref tx), .val (.int off), .val (.int ln), .val (.int ((en - dg) - (1 : Int32)))] [(.int (0 : Int32)), (.ref a)])) rfl rfl (hb hby own_d_read_160)
      refine own_by (T' := T261) (g' := (mkF m 163 #[.val (.ref a), .val (.ref tx), .val (.int off), .val (.int ln), .val (.int ((en - dg) - (1 : Int32)))] [])) st261 ?_
      have N261 := Fr.snoc X261 N1 G0
      have f262 := Nat.le_trans u0 (Keep.of_wr W261).1
      have f263 := Keep.wr u1 W261 (Or.inl (List.mem_of_getElem? (i := 0) rfl))
      have f264 := Exa.wr W261 u2
      have f265 := own_Ia_other W261 u3 n1
      have f266 := Fld.other W261 u4 (Or.inr (slot_ne (Or.inl (hw _ (List.mem_of_getElem? (i := 22) rfl))) (Or.inl (hw _ (List.mem_of_getElem? (i := 36) rfl))) (by decide) (t := (.array .char)) (t' := .int) (by decide) (by decide)))
      have f267 := Fld.other W261 u5 (Or.inr (slot_ne (Or.inl (hw _ (List.mem_of_getElem? (i := 24) rfl))) (Or.inl (hw _ (List.mem_of_getElem? (i := 36) rfl))) (by decide) (t := .int) (t' := .int) (by decide) (by decide)))
      have f268 := Fld.other W261 u6 (Or.inr (slot_ne (Or.inl (hw _ (List.mem_of_getElem? (i := 26) rfl))) (Or.inl (hw _ (List.mem_of_getElem? (i := 36) rfl))) (by decide) (t := .int) (t' := .int) (by decide) (by decide)))
      have f269 := Fld.other W261 u7 (Or.inr (slot_ne (Or.inl (hw _ (List.mem_of_getElem? (i := 28) rfl))) (Or.inl (hw _ (List.mem_of_getElem? (i := 36) rfl))) (by decide) (t := .boolean) (t' := .int) (by decide) (by decide)))
      have f270 := Fld.other W261 u8 (Or.inr (slot_ne (Or.inl (hw _ (List.mem_of_getElem? (i := 30) rfl))) (Or.inl (hw _ (List.mem_of_getElem? (i := 36) rfl))) (by decide) (t := .int) (t' := .int) (by decide) (by decide)))
      have f271 := Fld.other W261 u9 (Or.inr (slot_ne (Or.inl (hw _ (List.mem_of_getElem? (i := 32) rfl))) (Or.inl (hw _ (List.mem_of_getElem? (i := 36) rfl))) (by decide) (t := .int) (t' := .int) (by decide) (by decide)))
      have f272 := Fld.other W261 u10 (Or.inr (slot_ne (Or.inl (hw _ (List.mem_of_getElem? (i := 34) rfl))) (Or.inl (hw _ (List.mem_of_getElem? (i := 36) rfl))) (by decide) (t := .int) (t' := .int) (by decide) (by decide)))
      have f273 := Fld.same W261 u11
      have f274 := Fld.other W261 u12 (Or.inr (slot_ne (Or.inl (hw _ (List.mem_of_getElem? (i := 42) rfl))) (Or.inl (hw _ (List.mem_of_getElem? (i := 36) rfl))) (by decide) (t := .int) (t' := .int) (by decide) (by decide)))
      have f275 := Fld.other W261 u13 (Or.inr (slot_ne (Or.inl (hw _ (List.mem_of_getElem? (i := 48) rfl))) (Or.inl (hw _ (List.mem_of_getElem? (i := 36) rfl))) (by decide) (t := .int) (t' := .int) (by decide) (by decide)))
      have f276 := Fld.other W261 u14 (Or.inr (slot_ne (Or.inl (hw _ (List.mem_of_getElem? (i := 50) rfl))) (Or.inl (hw _ (List.mem_of_getElem? (i := 36) rfl))) (by decide) (t := .boolean) (t' := .int) (by decide) (by decide)))
      exact l163 _ (((en - dg) - (1 : Int32))) ng dg en pt (0 : Int32) la ex ne T261 h261 _ X261 e261 N261 f262 f263 f264 f265 f266 f267 f268 f269 f270 f271 f272 f273 f274 f275 f276 hR y0 y1 (own_dp1 dg en off ln pt ho hl hs y0 y1 y2 y3 c147_244) (own_dp2 dg en off ln pt ho hl hs y0 y1 y2 y3 c147_244) ⟨by decide, (own_dp1 dg en off ln pt ho hl hs y0 y1 y2 y3 c147_244).1⟩ rfl
  have l69 : ∀ (kk : Nat) (ng : Int32) (dg : Int32) (en : Int32) (pt : Int32) (fi : Int32) (la : Int32) (ex : Int32) (ne : Int32) (T1 : State) (hh : Heap) (lo : List Loc), Stand p l e ({ frames := 1, cells := 0, slots := 0, locals := 14 } : Room) s m #[(.ref a), (.ref tx), (.int off), (.int ln)] below meth c T1 lo 0 0 → T1.heap = hh → Fr n0 lo → n0 ≤ hh.size → Keep h0 hh [a] → Exa Z hh a "com/example/enumconv/enumconv/core/Decimal$Reading" → own_Ia Z hh tx .char 6 f → Fld Z hh a "com/example/enumconv/enumconv/core/Decimal$Reading" "text" "[C" (.ref tx) → Fld Z hh a "com/example/enumconv/enumconv/core/Decimal$Reading" "start" "I" (.int off) → Fld Z hh a "com/example/enumconv/enumconv/core/Decimal$Reading" "stop" "I" (.int (off + ln)) → Fld Z hh a "com/example/enumconv/enumconv/core/Decimal$Reading" "negative" "Z" (.int ng) → Fld Z hh a "com/example/enumconv/enumconv/core/Decimal$Reading" "digitsAt" "I" (.int dg) → Fld Z hh a "com/example/enumconv/enumconv/core/Decimal$Reading" "end" "I" (.int en) → Fld Z hh a "com/example/enumconv/enumconv/core/Decimal$Reading" "point" "I" (.int pt) → Fld Z hh a "com/example/enumconv/enumconv/core/Decimal$Reading" "first" "I" (.int fi) → Fld Z hh a "com/example/enumconv/enumconv/core/Decimal$Reading" "last" "I" (.int la) → Fld Z hh a "com/example/enumconv/enumconv/core/Decimal$Reading" "exponentAt" "I" (.int ex) → Fld Z hh a "com/example/enumconv/enumconv/core/Decimal$Reading" "negativeExponent" "Z" (.int ne) → (0 ≤ dg.toInt) → (off.toInt ≤ en.toInt ∧ en.toInt ≤ off.toInt + ln.toInt) → (dg.toInt ≤ en.toInt) → (0 ≤ pt.toInt → dg.toInt ≤ pt.toInt ∧ pt.toInt < en.toInt) → (own_J f off en pt) → ((off.toInt + ln.toInt - en.toInt).toNat = kk) → own_Goes p e below (own_K (own_Q_read Z a tx off ln f u_text u_start u_stop u_negative u_digitsAt u_end u_point u_first u_last u_exponentAt u_negativeExponent h0 n0) s ({ frames := 1, cells := 0, slots := 0, locals := 14 } : Room).cells ({ frames := 1, cells := 0, slots := 0, locals := 14 } : Room).slots) T1 (mkF m 69 #[.val (.ref a), .val (.ref tx), .val (.int off), .val (.int ln), .unset] []) := by
    intro kk
    induction kk with
      | zero =>
        intro ng dg en pt fi la ex ne T1 hh lo X1 e1 N1 u0 u1 u2 u3 u4 u5 u6 u7 u8 u9 u10 u11 u12 u13 u14 y0 y1 y2 y3 hJ y4
        refine own_by (T' := T1) (g' := (mkF m 70 #[.val (.ref a), .val (.ref tx), .val (.int off), .val (.int ln), .unset] [(.ref a)])) (fun t_ k_ => XS.aloadN X1.here hx rfl (hb hby own_d_read_69) rfl rfl k_) ?_
        obtain ⟨T277, X277, e277, st277⟩ := getF X1 hx hZ hown (host := "") (Or.inl (hw _ (List.mem_of_getElem? (i := 31) rfl))) Via.refl e1 u9 (g := (mkF m 70 #[.val (.ref a), .val (.ref tx), .val (.int off), .val (.int ln), .unset] [(.ref a)])) rfl rfl (hb hby own_d_read_70)
        refine own_by (T' := T277) (g' := (mkF m 73 #[.val (.ref a), .val (.ref tx), .val (.int off), .val (.int ln), .unset] [(.int en)])) st277 ?_
        refine own_by (T' := T277) (g' := (mkF m 74 #[.val (.ref a), .val (.ref tx), .val (.int off), .val (.int ln), .unset] [(.ref a), (.int en)])) (fun t_ k_ => XS.aloadN X277.here hx rfl (hb hby own_d_read_73) rfl rfl k_) ?_
        obtain ⟨T278, X278, e278, st278⟩ := getF X277 hx hZ hown (host := "") (Or.inl (hw _ (List.mem_of_getElem? (i := 25) rfl))) Via.refl e277 u6 (g := (mkF m 74 #[.val (.ref a), .val (.ref tx), .val (.int off), .val (.int ln), .unset] [(.ref a), (.int en)])) rfl rfl (hb hby own_d_read_74)
        refine own_by (T' := T278) (g' := (mkF m 77 #[.val (.ref a), .val (.ref tx), .val (.int off), .val (.int ln), .unset] [(.int (off + ln)), (.int en)])) st278 ?_
        refine own_by (T' := T278) (g' := (mkF m 134 #[.val (.ref a), .val (.ref tx), .val (.int off), .val (.int ln), .unset] [])) (fun t_ k_ => XS.icmpYes X278.here hx rfl (pc0 := 77) (pc' := 134) rfl (hb hby own_d_read_77) rfl (flt ((own_ge3 off ln en ho hl hs y4) : ¬ (en < (off + ln)))).2.1 (by decide) (by decide) k_) ?_
        exact m134 ng dg en pt fi la ex ne T278 hh _ X278 e278 N1 u0 u1 u2 u3 u4 u5 u6 u7 u8 u9 u10 u11 u12 u13 u14 (own_Rs off ln en pt f ho hl hs y1 y4 hJ) y0 ⟨Int.le_trans ho y1.1, y1.2⟩ y2 y3
      | succ kk ih =>
        intro ng dg en pt fi la ex ne T1 hh lo X1 e1 N1 u0 u1 u2 u3 u4 u5 u6 u7 u8 u9 u10 u11 u12 u13 u14 y0 y1 y2 y3 hJ y4
        refine own_by (T' := T1) (g' := (mkF m 70 #[.val (.ref a), .val (.ref tx), .val (.int off), .val (.int ln), .unset] [(.ref a)])) (fun t_ k_ => XS.aloadN X1.here hx rfl (hb hby own_d_read_69) rfl rfl k_) ?_
        obtain ⟨T279, X279, e279, st279⟩ := getF X1 hx hZ hown (host := "") (Or.inl (hw _ (List.mem_of_getElem? (i := 31) rfl))) Via.refl e1 u9 (g := (mkF m 70 #[.val (.ref a), .val (.ref tx), .val (.int off), .val (.int ln), .unset] [(.ref a)])) rfl rfl (hb hby own_d_read_70)
        refine own_by (T' := T279) (g' := (mkF m 73 #[.val (.ref a), .val (.ref tx), .val (.int off), .val (.int ln), .unset] [(.int en)])) st279 ?_
        refine own_by (T' := T279) (g' := (mkF m 74 #[.val (.ref a), .val (.ref tx), .val (.int off), .val (.int ln), .unset] [(.ref a), (.int en)])) (fun t_ k_ => XS.aloadN X279.here hx rfl (hb hby own_d_read_73) rfl rfl k_) ?_
        obtain ⟨T280, X280, e280, st280⟩ := getF X279 hx hZ hown (host := "") (Or.inl (hw _ (List.mem_of_getElem? (i := 25) rfl))) Via.refl e279 u6 (g := (mkF m 74 #[.val (.ref a), .val (.ref tx), .val (.int off), .val (.int ln), .unset] [(.ref a), (.int en)])) rfl rfl (hb hby own_d_read_74)
        refine own_by (T' := T280) (g' := (mkF m 77 #[.val (.ref a), .val (.ref tx), .val (.int off), .val (.int ln), .unset] [(.int (off + ln)), (.int en)])) st280 ?_
        refine own_by (T' := T280) (g' := (mkF m 80 #[.val (.ref a), .val (.ref tx), .val (.int off), .val (.int ln), .unset] [])) (fun t_ k_ => XS.icmpNo X280.here hx rfl (hb hby own_d_read_77) rfl (tlt ((own_lt4 off ln en kk ho hl hs y4) : en < (off + ln))).2.1 k_) ?_
        refine own_by (T' := T280) (g' := (mkF m 81 #[.val (.ref a), .val (.ref tx), .val (.int off), .val (.int ln), .unset] [(.ref tx)])) (fun t_ k_ => XS.aloadN X280.here hx rfl (hb hby own_d_read_80) rfl rfl k_) ?_
        refine own_by (T' := T280) (g' := (mkF m 82 #[.val (.ref a), .val (.ref tx), .val (.int off), .val (.int ln), .unset] [(.ref a), (.ref tx)])) (fun t_ k_ => XS.aloadN X280.here hx rfl (hb hby own_d_read_81) rfl rfl k_) ?_
        obtain ⟨T281, X281, e281, st281⟩ := getF X280 hx hZ hown (host := "") (Or.inl (hw _ (List.mem_of_getElem? (i := 31) rfl))) Via.refl e280 u9 (g := (mkF m 82 #[.val (.ref a), .val (.ref tx), .val (.int off), .val (.int ln), .unset] [(.ref a), (.ref tx)])) rfl rfl (hb hby own_d_read_82)
        refine own_by (T' := T281) (g' := (mkF m 85 #[.val (.ref a), .val (.ref tx), .val (.int off), .val (.int ln), .unset] [(.int en), (.ref tx)])) st281 ?_
        refine own_by (T' := T281) (g' := (mkF m 86 #[.val (.ref a), .val (.ref tx), .val (.int off), .val (.int ln), .unset] [(.int (f en.toNatClampNeg))])) (fun t_ k_ => own_cal X281 hx hZ e281 u3 (j := en) (own_ix off ln en ho hl hs (Int.le_trans ho y1.1) (own_lt3 off ln en kk y4)).1 (own_ix off ln en ho hl hs (Int.le_trans ho y1.1) (own_lt3 off ln en kk y4)).2 (g := (mkF m 85 #[.val (.ref a), .val (.ref tx), .val (.int off), .val (.int ln), .unset] [(.int en), (.ref tx)])) rfl rfl (hb hby own_d_read_85) _ k_) ?_
        refine own_by (T' := T281) (g' := (mkF m 88 #[.val (.ref a), .val (.ref tx), .val (.int off), .val (.int ln), .unset] [(.int (101 : Int32)), (.int (f en.toNatClampNeg))])) (fun t_ k_ => XS.bipush X281.here hx rfl (hb hby own_d_read_86) k_) ?_
        by_cases c88_282 : (f en.toNatClampNeg) = (101 : Int32)
        · skip
          refine own_by (T' := T281) (g' := (mkF m 134 #[.val (.ref a), .val (.ref tx), .val (.int off), .val (.int ln), .unset] [])) (fun t_ k_ => XS.icmpYes X281.here hx rfl (pc0 := 88) (pc' := 134) rfl (hb hby own_d_read_88) rfl (teq (c88_282 : (f en.toNatClampNeg) = (101 : Int32))).1 (by decide) (by decide) k_) ?_
          exact m134 ng dg en pt fi la ex ne T281 hh _ X281 e281 N1 u0 u1 u2 u3 u4 u5 u6 u7 u8 u9 u10 u11 u12 u13 u14 (own_Re off ln en pt f ho hl hs y1 (own_lt3 off ln en kk y4) (Or.inl c88_282)) y0 ⟨Int.le_trans ho y1.1, y1.2⟩ y2 y3
        · skip
          refine own_by (T' := T281) (g' := (mkF m 91 #[.val (.ref a), .val (.ref tx), .val (.int off), .val (.int ln), .unset] [])) (fun t_ k_ => XS.icmpNo X281.here hx rfl (hb hby own_d_read_88) rfl (feq (c88_282 : ¬ ((f en.toNatClampNeg) = (101 : Int32)))).1 k_) ?_
          refine own_by (T' := T281) (g' := (mkF m 92 #[.val (.ref a), .val (.ref tx), .val (.int off), .val (.int ln), .unset] [(.ref tx)])) (fun t_ k_ => XS.aloadN X281.here hx rfl (hb hby own_d_read_91) rfl rfl k_) ?_
          refine own_by (T' := T281) (g' := (mkF m 93 #[.val (.ref a), .val (.ref tx), .val (.int off), .val (.int ln), .unset] [(.ref a), (.ref tx)])) (fun t_ k_ => XS.aloadN X281.here hx rfl (hb hby own_d_read_92) rfl rfl k_) ?_
          obtain ⟨T283, X283, e283, st283⟩ := getF X281 hx hZ hown (host := "") (Or.inl (hw _ (List.mem_of_getElem? (i := 31) rfl))) Via.refl e281 u9 (g := (mkF m 93 #[.val (.ref a), .val (.ref tx), .val (.int off), .val (.int ln), .unset] [(.ref a), (.ref tx)])) rfl rfl (hb hby own_d_read_93)
          refine own_by (T' := T283) (g' := (mkF m 96 #[.val (.ref a), .val (.ref tx), .val (.int off), .val (.int ln), .unset] [(.int en), (.ref tx)])) st283 ?_
          refine own_by (T' := T283) (g' := (mkF m 97 #[.val (.ref a), .val (.ref tx), .val (.int off), .val (.int ln), .unset] [(.int (f en.toNatClampNeg))])) (fun t_ k_ => own_cal X283 hx hZ e283 u3 (j := en) (own_ix off ln en ho hl hs (Int.le_trans ho y1.1) (own_lt3 off ln en kk y4)).1 (own_ix off ln en ho hl hs (Int.le_trans ho y1.1) (own_lt3 off ln en kk y4)).2 (g := (mkF m 96 #[.val (.ref a), .val (.ref tx), .val (.int off), .val (.int ln), .unset] [(.int en), (.ref tx)])) rfl rfl (hb hby own_d_read_96) _ k_) ?_
          refine own_by (T' := T283) (g' := (mkF m 99 #[.val (.ref a), .val (.ref tx), .val (.int off), .val (.int ln), .unset] [(.int (69 : Int32)), (.int (f en.toNatClampNeg))])) (fun t_ k_ => XS.bipush X283.here hx rfl (hb hby own_d_read_97) k_) ?_
          by_cases c99_284 : (f en.toNatClampNeg) = (69 : Int32)
          · skip
            refine own_by (T' := T283) (g' := (mkF m 134 #[.val (.ref a), .val (.ref tx), .val (.int off), .val (.int ln), .unset] [])) (fun t_ k_ => XS.icmpYes X283.here hx rfl (pc0 := 99) (pc' := 134) rfl (hb hby own_d_read_99) rfl (teq (c99_284 : (f en.toNatClampNeg) = (69 : Int32))).1 (by decide) (by decide) k_) ?_
            exact m134 ng dg en pt fi la ex ne T283 hh _ X283 e283 N1 u0 u1 u2 u3 u4 u5 u6 u7 u8 u9 u10 u11 u12 u13 u14 (own_Re off ln en pt f ho hl hs y1 (own_lt3 off ln en kk y4) (Or.inr c99_284)) y0 ⟨Int.le_trans ho y1.1, y1.2⟩ y2 y3
          · skip
            refine own_by (T' := T283) (g' := (mkF m 102 #[.val (.ref a), .val (.ref tx), .val (.int off), .val (.int ln), .unset] [])) (fun t_ k_ => XS.icmpNo X283.here hx rfl (hb hby own_d_read_99) rfl (feq (c99_284 : ¬ ((f en.toNatClampNeg) = (69 : Int32)))).1 k_) ?_
            refine own_by (T' := T283) (g' := (mkF m 103 #[.val (.ref a), .val (.ref tx), .val (.int off), .val (.int ln), .unset] [(.ref tx)])) (fun t_ k_ => XS.aloadN X283.here hx rfl (hb hby own_d_read_102) rfl rfl k_) ?_
            refine own_by (T' := T283) (g' := (mkF m 104 #[.val (.ref a), .val (.ref tx), .val (.int off), .val (.int ln), .unset] [(.ref a), (.ref tx)])) (fun t_ k_ => XS.aloadN X283.here hx rfl (hb hby own_d_read_103) rfl rfl k_) ?_
            obtain ⟨T285, X285, e285, st285⟩ := getF X283 hx hZ hown (host := "") (Or.inl (hw _ (List.mem_of_getElem? (i := 31) rfl))) Via.refl e283 u9 (g := (mkF m 104 #[.val (.ref a), .val (.ref tx), .val (.int off), .val (.int ln), .unset] [(.ref a), (.ref tx)])) rfl rfl (hb hby own_d_read_104)
            refine own_by (T' := T285) (g' := (mkF m 107 #[.val (.ref a), .val (.ref tx), .val (.int off), .val (.int ln), .unset] [(.int en), (.ref tx)])) st285 ?_
            refine own_by (T' := T285) (g' := (mkF m 108 #[.val (.ref a), .val (.ref tx), .val (.int off), .val (.int ln), .unset] [(.int (f en.toNatClampNeg))])) (fun t_ k_ => own_cal X285 hx hZ e285 u3 (j := en) (own_ix off ln en ho hl hs (Int.le_trans ho y1.1) (own_lt3 off ln en kk y4)).1 (own_ix off ln en ho hl hs (Int.le_trans ho y1.1) (own_lt3 off ln en kk y4)).2 (g := (mkF m 107 #[.val (.ref a), .val (.ref tx), .val (.int off), .val (.int ln), .unset] [(.int en), (.ref tx)])) rfl rfl (hb hby own_d_read_107) _ k_) ?_
            refine own_by (T' := T285) (g' := (mkF m 110 #[.val (.ref a), .val (.ref tx), .val (.int off), .val (.int ln), .unset] [(.int (46 : Int32)), (.int (f en.toNatClampNeg))])) (fun t_ k_ => XS.bipush X285.here hx rfl (hb hby own_d_read_108) k_) ?_
            by_cases c110_286 : (f en.toNatClampNeg) = (46 : Int32)
            · skip
              refine own_by (T' := T285) (g' := (mkF m 113 #[.val (.ref a), .val (.ref tx), .val (.int off), .val (.int ln), .unset] [])) (fun t_ k_ => XS.icmpNo X285.here hx rfl (hb hby own_d_read_110) rfl (teq (c110_286 : (f en.toNatClampNeg) = (46 : Int32))).2 k_) ?_
              refine own_by (T' := T285) (g' := (mkF m 114 #[.val (.ref a), .val (.ref tx), .val (.int off), .val (.int ln), .unset] [(.ref a)])) (fun t_ k_ => XS.aloadN X285.here hx rfl (hb hby own_d_read_113) rfl rfl k_) ?_
              refine own_by (T' := T285) (g' := (mkF m 115 #[.val (.ref a), .val (.ref tx), .val (.int off), .val (.int ln), .unset] [(.ref a), (.ref a)])) (fun t_ k_ => XS.aloadN X285.here hx rfl (hb hby own_d_read_114) rfl rfl k_) ?_
              obtain ⟨T287, X287, e287, st287⟩ := getF X285 hx hZ hown (host := "") (Or.inl (hw _ (List.mem_of_getElem? (i := 31) rfl))) Via.refl e285 u9 (g := (mkF m 115 #[.val (.ref a), .val (.ref tx), .val (.int off), .val (.int ln), .unset] [(.ref a), (.ref a)])) rfl rfl (hb hby own_d_read_115)
              refine own_by (T' := T287) (g' := (mkF m 118 #[.val (.ref a), .val (.ref tx), .val (.int off), .val (.int ln), .unset] [(.int en), (.ref a)])) st287 ?_
              obtain ⟨T288, h288, X288, e288, W288, st288⟩ := putF X287 hx hZ hown (host := "") (Or.inl (hw _ (List.mem_of_getElem? (i := 33) rfl))) Via.refl e287 u10 u2 (Or.inl (hw _ (List.mem_of_getElem? (i := 34) rfl))) (hw _ (List.mem_of_getElem? (i := 8) rfl)) (ty := .int) (by decide) rfl rfl (g := (mkF m 118 #[.val (.ref a), .val (.ref tx), .val (.int off), .val (.int ln), .unset] [(.int en), (.ref a)])) rfl rfl (hb hby own_d_read_118)
              refine own_by (T' := T288) (g' := (mkF m 121 #[.val (.ref a), .val (.ref tx), .val (.int off), .val (.int ln), .unset] [])) st288 ?_
              have N288 := Fr.snoc X288 N1 G0
              have f289 := Nat.le_trans u0 (Keep.of_wr W288).1
              have f290 := Keep.wr u1 W288 (Or.inl (List.mem_of_getElem? (i := 0) rfl))
              have f291 := Exa.wr W288 u2
              have f292 := own_Ia_other W288 u3 n1
              have f293 := Fld.other W288 u4 (Or.inr (slot_ne (Or.inl (hw _ (List.mem_of_getElem? (i := 22) rfl))) (Or.inl (hw _ (List.mem_of_getElem? (i := 34) rfl))) (by decide) (t := (.array .char)) (t' := .int) (by decide) (by decide)))
              have f294 := Fld.other W288 u5 (Or.inr (slot_ne (Or.inl (hw _ (List.mem_of_getElem? (i := 24) rfl))) (Or.inl (hw _ (List.mem_of_getElem? (i := 34) rfl))) (by decide) (t := .int) (t' := .int) (by decide) (by decide)))
              have f295 := Fld.other W288 u6 (Or.inr (slot_ne (Or.inl (hw _ (List.mem_of_getElem? (i := 26) rfl))) (Or.inl (hw _ (List.mem_of_getElem? (i := 34) rfl))) (by decide) (t := .int) (t' := .int) (by decide) (by decide)))
              have f296 := Fld.other W288 u7 (Or.inr (slot_ne (Or.inl (hw _ (List.mem_of_getElem? (i := 28) rfl))) (Or.inl (hw _ (List.mem_of_getElem? (i := 34) rfl))) (by decide) (t := .boolean) (t' := .int) (by decide) (by decide)))
              have f297 := Fld.other W288 u8 (Or.inr (slot_ne (Or.inl (hw _ (List.mem_of_getElem? (i := 30) rfl))) (Or.inl (hw _ (List.mem_of_getElem? (i := 34) rfl))) (by decide) (t := .int) (t' := .int) (by decide) (by decide)))
              have f298 := Fld.other W288 u9 (Or.inr (slot_ne (Or.inl (hw _ (List.mem_of_getElem? (i := 32) rfl))) (Or.inl (hw _ (List.mem_of_getElem? (i := 34) rfl))) (by decide) (t := .int) (t' := .int) (by decide) (by decide)))
              have f299 := Fld.same W288 u10
              have f300 := Fld.other W288 u11 (Or.inr (slot_ne (Or.inl (hw _ (List.mem_of_getElem? (i := 36) rfl))) (Or.inl (hw _ (List.mem_of_getElem? (i := 34) rfl))) (by decide) (t := .int) (t' := .int) (by decide) (by decide)))
              have f301 := Fld.other W288 u12 (Or.inr (slot_ne (Or.inl (hw _ (List.mem_of_getElem? (i := 42) rfl))) (Or.inl (hw _ (List.mem_of_getElem? (i := 34) rfl))) (by decide) (t := .int) (t' := .int) (by decide) (by decide)))
              have f302 := Fld.other W288 u13 (Or.inr (slot_ne (Or.inl (hw _ (List.mem_of_getElem? (i := 48) rfl))) (Or.inl (hw _ (List.mem_of_getElem? (i := 34) rfl))) (by decide) (t := .int) (t' := .int) (by decide) (by decide)))
              have f303 := Fld.other W288 u14 (Or.inr (slot_ne (Or.inl (hw _ (List.mem_of_getElem? (i := 50) rfl))) (Or.inl (hw _ (List.mem_of_getElem? (i := 34) rfl))) (by decide) (t := .boolean) (t' := .int) (by decide) (by decide)))
              refine own_by (T' := T288) (g' := (mkF m 122 #[.val (.ref a), .val (.ref tx), .val (.int off), .val (.int ln), .unset] [(.ref a)])) (fun t_ k_ => XS.aloadN X288.here hx rfl (hb hby own_d_read_121) rfl rfl k_) ?_
              refine own_by (T' := T288) (g' := (mkF m 123 #[.val (.ref a), .val (.ref tx), .val (.int off), .val (.int ln), .unset] [(.ref a), (.ref a)])) (fun t_ k_ => XS.dup X288.here hx rfl (hb hby own_d_read_122) rfl rfl k_) ?_
              obtain ⟨T304, X304, e304, st304⟩ := getF X288 hx hZ hown (host := "") (Or.inl (hw _ (List.mem_of_getElem? (i := 31) rfl))) Via.refl e288 f298 (g := (mkF m 123 #[.val (.ref a), .val (.ref tx), .val (.int off), .val (.int ln), .unset] [(.ref a), (.ref a)])) rfl rfl (hb hby own_d_read_123)
              refine own_by (T' := T304) (g' := (mkF m 126 #[.val (.ref a), .val (.ref tx), .val (.int off), .val (.int ln), .unset] [(.int en), (.ref a)])) st304 ?_
              refine own_by (T' := T304) (g' := (mkF m 127 #[.val (.ref a), .val (.ref tx), .val (.int off), .val (.int ln), .unset] [(.int (1 : Int32)), (.int en), (.ref a)])) (fun t_ k_ => XS.iconst X304.here hx rfl (hb hby own_d_read_126) k_) ?_
              refine own_by (T' := T304) (g' := (mkF m 128 #[.val (.ref a), .val (.ref tx), .val (.int off), .val (.int ln), .unset] [(.int (en + (1 : Int32))), (.ref a)])) (fun t_ k_ => XS.iadd X304.here hx rfl (hb hby own_d_read_127) rfl k_) ?_
              obtain ⟨T305, h305, X305, e305, W305, st305⟩ := putF X304 hx hZ hown (host := "") (Or.inl (hw _ (List.mem_of_getElem? (i := 31) rfl))) Via.refl e304 f298 f291 (Or.inl (hw _ (List.mem_of_getElem? (i := 32) rfl))) (hw _ (List.mem_of_getElem? (i := 8) rfl)) (ty := .int) (by decide) rfl rfl (g := (mkF m 128 #[.val (.ref a), .val (.ref tx), .val (.int off), .val (.int ln), .unset] [(.int (en + (1 : Int32))), (.ref a)])) rfl rfl (hb hby own_d_read_128)
              refine own_by (T' := T305) (g' := (mkF m 131 #[.val (.ref a), .val (.ref tx), .val (.int off), .val (.int ln), .unset] [])) st305 ?_
              have N305 := Fr.snoc X305 N288 G0
              have f306 := Nat.le_trans f289 (Keep.of_wr W305).1
              have f307 := Keep.wr f290 W305 (Or.inl (List.mem_of_getElem? (i := 0) rfl))
              have f308 := Exa.wr W305 f291
              have f309 := own_Ia_other W305 f292 n1
              have f310 := Fld.other W305 f293 (Or.inr (slot_ne (Or.inl (hw _ (List.mem_of_getElem? (i := 22) rfl))) (Or.inl (hw _ (List.mem_of_getElem? (i := 32) rfl))) (by decide) (t := (.array .char)) (t' := .int) (by decide) (by decide)))
              have f311 := Fld.other W305 f294 (Or.inr (slot_ne (Or.inl (hw _ (List.mem_of_getElem? (i := 24) rfl))) (Or.inl (hw _ (List.mem_of_getElem? (i := 32) rfl))) (by decide) (t := .int) (t' := .int) (by decide) (by decide)))
              have f312 := Fld.other W305 f295 (Or.inr (slot_ne (Or.inl (hw _ (List.mem_of_getElem? (i := 26) rfl))) (Or.inl (hw _ (List.mem_of_getElem? (i := 32) rfl))) (by decide) (t := .int) (t' := .int) (by decide) (by decide)))
              have f313 := Fld.other W305 f296 (Or.inr (slot_ne (Or.inl (hw _ (List.mem_of_getElem? (i := 28) rfl))) (Or.inl (hw _ (List.mem_of_getElem? (i := 32) rfl))) (by decide) (t := .boolean) (t' := .int) (by decide) (by decide)))
              have f314 := Fld.other W305 f297 (Or.inr (slot_ne (Or.inl (hw _ (List.mem_of_getElem? (i := 30) rfl))) (Or.inl (hw _ (List.mem_of_getElem? (i := 32) rfl))) (by decide) (t := .int) (t' := .int) (by decide) (by decide)))
              have f315 := Fld.same W305 f298
              have f316 := Fld.other W305 f299 (Or.inr (slot_ne (Or.inl (hw _ (List.mem_of_getElem? (i := 34) rfl))) (Or.inl (hw _ (List.mem_of_getElem? (i := 32) rfl))) (by decide) (t := .int) (t' := .int) (by decide) (by decide)))
              have f317 := Fld.other W305 f300 (Or.inr (slot_ne (Or.inl (hw _ (List.mem_of_getElem? (i := 36) rfl))) (Or.inl (hw _ (List.mem_of_getElem? (i := 32) rfl))) (by decide) (t := .int) (t' := .int) (by decide) (by decide)))
              have f318 := Fld.other W305 f301 (Or.inr (slot_ne (Or.inl (hw _ (List.mem_of_getElem? (i := 42) rfl))) (Or.inl (hw _ (List.mem_of_getElem? (i := 32) rfl))) (by decide) (t := .int) (t' := .int) (by decide) (by decide)))
              have f319 := Fld.other W305 f302 (Or.inr (slot_ne (Or.inl (hw _ (List.mem_of_getElem? (i := 48) rfl))) (Or.inl (hw _ (List.mem_of_getElem? (i := 32) rfl))) (by decide) (t := .int) (t' := .int) (by decide) (by decide)))
              have f320 := Fld.other W305 f303 (Or.inr (slot_ne (Or.inl (hw _ (List.mem_of_getElem? (i := 50) rfl))) (Or.inl (hw _ (List.mem_of_getElem? (i := 32) rfl))) (by decide) (t := .boolean) (t' := .int) (by decide) (by decide)))
              refine own_by (T' := T305) (g' := (mkF m 69 #[.val (.ref a), .val (.ref tx), .val (.int off), .val (.int ln), .unset] [])) (fun t_ k_ => XS.goto X305.here hx rfl (pc0 := 131) (pc' := 69) rfl (hb hby own_d_read_131) (by decide) (by decide) k_) ?_
              exact ih ng dg (en + (1 : Int32)) en fi la ex ne T305 h305 _ X305 e305 N305 f306 f307 f308 f309 f310 f311 f312 f313 f314 f315 f316 f317 f318 f319 f320 y0 (own_n1 off ln en ho hl hs y1 (own_lt3 off ln en kk y4)) (own_n2 off ln en dg ho hl hs y1 y2 (own_lt3 off ln en kk y4)) (own_n3t off ln en dg pt ho hl hs y1 y2 y3 (own_lt3 off ln en kk y4)) (own_n4t off ln en pt f ho hl hs y1 (own_lt3 off ln en kk y4) hJ c88_282 c99_284 c110_286) (own_n5 off ln en kk ho hl hs y1 y4)
            · skip
              refine own_by (T' := T285) (g' := (mkF m 121 #[.val (.ref a), .val (.ref tx), .val (.int off), .val (.int ln), .unset] [])) (fun t_ k_ => XS.icmpYes X285.here hx rfl (pc0 := 110) (pc' := 121) rfl (hb hby own_d_read_110) rfl (feq (c110_286 : ¬ ((f en.toNatClampNeg) = (46 : Int32)))).2 (by decide) (by decide) k_) ?_
              refine own_by (T' := T285) (g' := (mkF m 122 #[.val (.ref a), .val (.ref tx), .val (.int off), .val (.int ln), .unset] [(.ref a)])) (fun t_ k_ => XS.aloadN X285.here hx rfl (hb hby own_d_read_121) rfl rfl k_) ?_
              refine own_by (T' := T285) (g' := (mkF m 123 #[.val (.ref a), .val (.ref tx), .val (.int off), .val (.int ln), .unset] [(.ref a), (.ref a)])) (fun t_ k_ => XS.dup X285.here hx rfl (hb hby own_d_read_122) rfl rfl k_) ?_
              obtain ⟨T321, X321, e321, st321⟩ := getF X285 hx hZ hown (host := "") (Or.inl (hw _ (List.mem_of_getElem? (i := 31) rfl))) Via.refl e285 u9 (g := (mkF m 123 #[.val (.ref a), .val (.ref tx), .val (.int off), .val (.int ln), .unset] [(.ref a), (.ref a)])) rfl rfl (hb hby own_d_read_123)
              refine own_by (T' := T321) (g' := (mkF m 126 #[.val (.ref a), .val (.ref tx), .val (.int off), .val (.int ln), .unset] [(.int en), (.ref a)])) st321 ?_
              refine own_by (T' := T321) (g' := (mkF m 127 #[.val (.ref a), .val (.ref tx), .val (.int off), .val (.int ln), .unset] [(.int (1 : Int32)), (.int en), (.ref a)])) (fun t_ k_ => XS.iconst X321.here hx rfl (hb hby own_d_read_126) k_) ?_
              refine own_by (T' := T321) (g' := (mkF m 128 #[.val (.ref a), .val (.ref tx), .val (.int off), .val (.int ln), .unset] [(.int (en + (1 : Int32))), (.ref a)])) (fun t_ k_ => XS.iadd X321.here hx rfl (hb hby own_d_read_127) rfl k_) ?_
              obtain ⟨T322, h322, X322, e322, W322, st322⟩ := putF X321 hx hZ hown (host := "") (Or.inl (hw _ (List.mem_of_getElem? (i := 31) rfl))) Via.refl e321 u9 u2 (Or.inl (hw _ (List.mem_of_getElem? (i := 32) rfl))) (hw _ (List.mem_of_getElem? (i := 8) rfl)) (ty := .int) (by decide) rfl rfl (g := (mkF m 128 #[.val (.ref a), .val (.ref tx), .val (.int off), .val (.int ln), .unset] [(.int (en + (1 : Int32))), (.ref a)])) rfl rfl (hb hby own_d_read_128)
              refine own_by (T' := T322) (g' := (mkF m 131 #[.val (.ref a), .val (.ref tx), .val (.int off), .val (.int ln), .unset] [])) st322 ?_
              have N322 := Fr.snoc X322 N1 G0
              have f323 := Nat.le_trans u0 (Keep.of_wr W322).1
              have f324 := Keep.wr u1 W322 (Or.inl (List.mem_of_getElem? (i := 0) rfl))
              have f325 := Exa.wr W322 u2
              have f326 := own_Ia_other W322 u3 n1
              have f327 := Fld.other W322 u4 (Or.inr (slot_ne (Or.inl (hw _ (List.mem_of_getElem? (i := 22) rfl))) (Or.inl (hw _ (List.mem_of_getElem? (i := 32) rfl))) (by decide) (t := (.array .char)) (t' := .int) (by decide) (by decide)))
              have f328 := Fld.other W322 u5 (Or.inr (slot_ne (Or.inl (hw _ (List.mem_of_getElem? (i := 24) rfl))) (Or.inl (hw _ (List.mem_of_getElem? (i := 32) rfl))) (by decide) (t := .int) (t' := .int) (by decide) (by decide)))
              have f329 := Fld.other W322 u6 (Or.inr (slot_ne (Or.inl (hw _ (List.mem_of_getElem? (i := 26) rfl))) (Or.inl (hw _ (List.mem_of_getElem? (i := 32) rfl))) (by decide) (t := .int) (t' := .int) (by decide) (by decide)))
              have f330 := Fld.other W322 u7 (Or.inr (slot_ne (Or.inl (hw _ (List.mem_of_getElem? (i := 28) rfl))) (Or.inl (hw _ (List.mem_of_getElem? (i := 32) rfl))) (by decide) (t := .boolean) (t' := .int) (by decide) (by decide)))
              have f331 := Fld.other W322 u8 (Or.inr (slot_ne (Or.inl (hw _ (List.mem_of_getElem? (i := 30) rfl))) (Or.inl (hw _ (List.mem_of_getElem? (i := 32) rfl))) (by decide) (t := .int) (t' := .int) (by decide) (by decide)))
              have f332 := Fld.same W322 u9
              have f333 := Fld.other W322 u10 (Or.inr (slot_ne (Or.inl (hw _ (List.mem_of_getElem? (i := 34) rfl))) (Or.inl (hw _ (List.mem_of_getElem? (i := 32) rfl))) (by decide) (t := .int) (t' := .int) (by decide) (by decide)))
              have f334 := Fld.other W322 u11 (Or.inr (slot_ne (Or.inl (hw _ (List.mem_of_getElem? (i := 36) rfl))) (Or.inl (hw _ (List.mem_of_getElem? (i := 32) rfl))) (by decide) (t := .int) (t' := .int) (by decide) (by decide)))
              have f335 := Fld.other W322 u12 (Or.inr (slot_ne (Or.inl (hw _ (List.mem_of_getElem? (i := 42) rfl))) (Or.inl (hw _ (List.mem_of_getElem? (i := 32) rfl))) (by decide) (t := .int) (t' := .int) (by decide) (by decide)))
              have f336 := Fld.other W322 u13 (Or.inr (slot_ne (Or.inl (hw _ (List.mem_of_getElem? (i := 48) rfl))) (Or.inl (hw _ (List.mem_of_getElem? (i := 32) rfl))) (by decide) (t := .int) (t' := .int) (by decide) (by decide)))
              have f337 := Fld.other W322 u14 (Or.inr (slot_ne (Or.inl (hw _ (List.mem_of_getElem? (i := 50) rfl))) (Or.inl (hw _ (List.mem_of_getElem? (i := 32) rfl))) (by decide) (t := .boolean) (t' := .int) (by decide) (by decide)))
              refine own_by (T' := T322) (g' := (mkF m 69 #[.val (.ref a), .val (.ref tx), .val (.int off), .val (.int ln), .unset] [])) (fun t_ k_ => XS.goto X322.here hx rfl (pc0 := 131) (pc' := 69) rfl (hb hby own_d_read_131) (by decide) (by decide) k_) ?_
              exact ih ng dg (en + (1 : Int32)) pt fi la ex ne T322 h322 _ X322 e322 N322 f323 f324 f325 f326 f327 f328 f329 f330 f331 f332 f333 f334 f335 f336 f337 y0 (own_n1 off ln en ho hl hs y1 (own_lt3 off ln en kk y4)) (own_n2 off ln en dg ho hl hs y1 y2 (own_lt3 off ln en kk y4)) (own_n3f off ln en dg pt ho hl hs y1 y2 y3 (own_lt3 off ln en kk y4)) (own_n4f off ln en pt f ho hl hs y1 (own_lt3 off ln en kk y4) hJ c88_282 c99_284 c110_286) (own_n5 off ln en kk ho hl hs y1 y4)
  refine own_by (T' := s₁) (g' := (mkF m 1 #[.val (.ref a), .val (.ref tx), .val (.int off), .val (.int ln), .unset] [(.ref a)])) (fun t_ k_ => XS.aloadN X0.here hx rfl (hb hby own_d_read_0) rfl rfl k_) ?_
  refine own_by (T' := s₁) (g' := (mkF m 2 #[.val (.ref a), .val (.ref tx), .val (.int off), .val (.int ln), .unset] [(.ref tx), (.ref a)])) (fun t_ k_ => XS.aloadN X0.here hx rfl (hb hby own_d_read_1) rfl rfl k_) ?_
  obtain ⟨T338, h338, X338, e338, W338, st338⟩ := putF X0 hx hZ hown (host := "") (Or.inl (hw _ (List.mem_of_getElem? (i := 21) rfl))) Via.refl e0 F_text E0 (Or.inl (hw _ (List.mem_of_getElem? (i := 22) rfl))) (hw _ (List.mem_of_getElem? (i := 8) rfl)) (ty := (.array .char)) (by decide) rfl rfl (g := (mkF m 2 #[.val (.ref a), .val (.ref tx), .val (.int off), .val (.int ln), .unset] [(.ref tx), (.ref a)])) rfl rfl (hb hby own_d_read_2)
  refine own_by (T' := T338) (g' := (mkF m 5 #[.val (.ref a), .val (.ref tx), .val (.int off), .val (.int ln), .unset] [])) st338 ?_
  have N338 := Fr.snoc X338 N0 G0
  have f339 := Nat.le_trans Z0 (Keep.of_wr W338).1
  have f340 := Exa.wr W338 E0
  have f341 := own_Ia_other W338 V0 n1
  have f342 := Fld.same W338 F_text
  have f343 := Fld.other W338 F_start (Or.inr (slot_ne (Or.inl (hw _ (List.mem_of_getElem? (i := 24) rfl))) (Or.inl (hw _ (List.mem_of_getElem? (i := 22) rfl))) (by decide) (t := .int) (t' := (.array .char)) (by decide) (by decide)))
  have f344 := Fld.other W338 F_stop (Or.inr (slot_ne (Or.inl (hw _ (List.mem_of_getElem? (i := 26) rfl))) (Or.inl (hw _ (List.mem_of_getElem? (i := 22) rfl))) (by decide) (t := .int) (t' := (.array .char)) (by decide) (by decide)))
  have f345 := Fld.other W338 F_negative (Or.inr (slot_ne (Or.inl (hw _ (List.mem_of_getElem? (i := 28) rfl))) (Or.inl (hw _ (List.mem_of_getElem? (i := 22) rfl))) (by decide) (t := .boolean) (t' := (.array .char)) (by decide) (by decide)))
  have f346 := Fld.other W338 F_digitsAt (Or.inr (slot_ne (Or.inl (hw _ (List.mem_of_getElem? (i := 30) rfl))) (Or.inl (hw _ (List.mem_of_getElem? (i := 22) rfl))) (by decide) (t := .int) (t' := (.array .char)) (by decide) (by decide)))
  have f347 := Fld.other W338 F_end (Or.inr (slot_ne (Or.inl (hw _ (List.mem_of_getElem? (i := 32) rfl))) (Or.inl (hw _ (List.mem_of_getElem? (i := 22) rfl))) (by decide) (t := .int) (t' := (.array .char)) (by decide) (by decide)))
  have f348 := Fld.other W338 F_point (Or.inr (slot_ne (Or.inl (hw _ (List.mem_of_getElem? (i := 34) rfl))) (Or.inl (hw _ (List.mem_of_getElem? (i := 22) rfl))) (by decide) (t := .int) (t' := (.array .char)) (by decide) (by decide)))
  have f349 := Fld.other W338 F_first (Or.inr (slot_ne (Or.inl (hw _ (List.mem_of_getElem? (i := 36) rfl))) (Or.inl (hw _ (List.mem_of_getElem? (i := 22) rfl))) (by decide) (t := .int) (t' := (.array .char)) (by decide) (by decide)))
  have f350 := Fld.other W338 F_last (Or.inr (slot_ne (Or.inl (hw _ (List.mem_of_getElem? (i := 42) rfl))) (Or.inl (hw _ (List.mem_of_getElem? (i := 22) rfl))) (by decide) (t := .int) (t' := (.array .char)) (by decide) (by decide)))
  have f351 := Fld.other W338 F_exponentAt (Or.inr (slot_ne (Or.inl (hw _ (List.mem_of_getElem? (i := 48) rfl))) (Or.inl (hw _ (List.mem_of_getElem? (i := 22) rfl))) (by decide) (t := .int) (t' := (.array .char)) (by decide) (by decide)))
  have f352 := Fld.other W338 F_negativeExponent (Or.inr (slot_ne (Or.inl (hw _ (List.mem_of_getElem? (i := 50) rfl))) (Or.inl (hw _ (List.mem_of_getElem? (i := 22) rfl))) (by decide) (t := .boolean) (t' := (.array .char)) (by decide) (by decide)))
  have f353 := Keep.wr K0 W338 (Or.inl (List.mem_of_getElem? (i := 0) rfl))
  refine own_by (T' := T338) (g' := (mkF m 6 #[.val (.ref a), .val (.ref tx), .val (.int off), .val (.int ln), .unset] [(.ref a)])) (fun t_ k_ => XS.aloadN X338.here hx rfl (hb hby own_d_read_5) rfl rfl k_) ?_
  refine own_by (T' := T338) (g' := (mkF m 7 #[.val (.ref a), .val (.ref tx), .val (.int off), .val (.int ln), .unset] [(.int off), (.ref a)])) (fun t_ k_ => XS.iloadN X338.here hx rfl (hb hby own_d_read_6) rfl k_) ?_
  obtain ⟨T354, h354, X354, e354, W354, st354⟩ := putF X338 hx hZ hown (host := "") (Or.inl (hw _ (List.mem_of_getElem? (i := 23) rfl))) Via.refl e338 f343 f340 (Or.inl (hw _ (List.mem_of_getElem? (i := 24) rfl))) (hw _ (List.mem_of_getElem? (i := 8) rfl)) (ty := .int) (by decide) rfl rfl (g := (mkF m 7 #[.val (.ref a), .val (.ref tx), .val (.int off), .val (.int ln), .unset] [(.int off), (.ref a)])) rfl rfl (hb hby own_d_read_7)
  refine own_by (T' := T354) (g' := (mkF m 10 #[.val (.ref a), .val (.ref tx), .val (.int off), .val (.int ln), .unset] [])) st354 ?_
  have N354 := Fr.snoc X354 N338 G0
  have f355 := Nat.le_trans f339 (Keep.of_wr W354).1
  have f356 := Exa.wr W354 f340
  have f357 := own_Ia_other W354 f341 n1
  have f358 := Fld.other W354 f342 (Or.inr (slot_ne (Or.inl (hw _ (List.mem_of_getElem? (i := 22) rfl))) (Or.inl (hw _ (List.mem_of_getElem? (i := 24) rfl))) (by decide) (t := (.array .char)) (t' := .int) (by decide) (by decide)))
  have f359 := Fld.same W354 f343
  have f360 := Fld.other W354 f344 (Or.inr (slot_ne (Or.inl (hw _ (List.mem_of_getElem? (i := 26) rfl))) (Or.inl (hw _ (List.mem_of_getElem? (i := 24) rfl))) (by decide) (t := .int) (t' := .int) (by decide) (by decide)))
  have f361 := Fld.other W354 f345 (Or.inr (slot_ne (Or.inl (hw _ (List.mem_of_getElem? (i := 28) rfl))) (Or.inl (hw _ (List.mem_of_getElem? (i := 24) rfl))) (by decide) (t := .boolean) (t' := .int) (by decide) (by decide)))
  have f362 := Fld.other W354 f346 (Or.inr (slot_ne (Or.inl (hw _ (List.mem_of_getElem? (i := 30) rfl))) (Or.inl (hw _ (List.mem_of_getElem? (i := 24) rfl))) (by decide) (t := .int) (t' := .int) (by decide) (by decide)))
  have f363 := Fld.other W354 f347 (Or.inr (slot_ne (Or.inl (hw _ (List.mem_of_getElem? (i := 32) rfl))) (Or.inl (hw _ (List.mem_of_getElem? (i := 24) rfl))) (by decide) (t := .int) (t' := .int) (by decide) (by decide)))
  have f364 := Fld.other W354 f348 (Or.inr (slot_ne (Or.inl (hw _ (List.mem_of_getElem? (i := 34) rfl))) (Or.inl (hw _ (List.mem_of_getElem? (i := 24) rfl))) (by decide) (t := .int) (t' := .int) (by decide) (by decide)))
  have f365 := Fld.other W354 f349 (Or.inr (slot_ne (Or.inl (hw _ (List.mem_of_getElem? (i := 36) rfl))) (Or.inl (hw _ (List.mem_of_getElem? (i := 24) rfl))) (by decide) (t := .int) (t' := .int) (by decide) (by decide)))
  have f366 := Fld.other W354 f350 (Or.inr (slot_ne (Or.inl (hw _ (List.mem_of_getElem? (i := 42) rfl))) (Or.inl (hw _ (List.mem_of_getElem? (i := 24) rfl))) (by decide) (t := .int) (t' := .int) (by decide) (by decide)))
  have f367 := Fld.other W354 f351 (Or.inr (slot_ne (Or.inl (hw _ (List.mem_of_getElem? (i := 48) rfl))) (Or.inl (hw _ (List.mem_of_getElem? (i := 24) rfl))) (by decide) (t := .int) (t' := .int) (by decide) (by decide)))
  have f368 := Fld.other W354 f352 (Or.inr (slot_ne (Or.inl (hw _ (List.mem_of_getElem? (i := 50) rfl))) (Or.inl (hw _ (List.mem_of_getElem? (i := 24) rfl))) (by decide) (t := .boolean) (t' := .int) (by decide) (by decide)))
  have f369 := Keep.wr f353 W354 (Or.inl (List.mem_of_getElem? (i := 0) rfl))
  refine own_by (T' := T354) (g' := (mkF m 11 #[.val (.ref a), .val (.ref tx), .val (.int off), .val (.int ln), .unset] [(.ref a)])) (fun t_ k_ => XS.aloadN X354.here hx rfl (hb hby own_d_read_10) rfl rfl k_) ?_
  refine own_by (T' := T354) (g' := (mkF m 12 #[.val (.ref a), .val (.ref tx), .val (.int off), .val (.int ln), .unset] [(.int off), (.ref a)])) (fun t_ k_ => XS.iloadN X354.here hx rfl (hb hby own_d_read_11) rfl k_) ?_
  refine own_by (T' := T354) (g' := (mkF m 13 #[.val (.ref a), .val (.ref tx), .val (.int off), .val (.int ln), .unset] [(.int ln), (.int off), (.ref a)])) (fun t_ k_ => XS.iloadN X354.here hx rfl (hb hby own_d_read_12) rfl k_) ?_
  refine own_by (T' := T354) (g' := (mkF m 14 #[.val (.ref a), .val (.ref tx), .val (.int off), .val (.int ln), .unset] [(.int (off + ln)), (.ref a)])) (fun t_ k_ => XS.iadd X354.here hx rfl (hb hby own_d_read_13) rfl k_) ?_
  obtain ⟨T370, h370, X370, e370, W370, st370⟩ := putF X354 hx hZ hown (host := "") (Or.inl (hw _ (List.mem_of_getElem? (i := 25) rfl))) Via.refl e354 f360 f356 (Or.inl (hw _ (List.mem_of_getElem? (i := 26) rfl))) (hw _ (List.mem_of_getElem? (i := 8) rfl)) (ty := .int) (by decide) rfl rfl (g := (mkF m 14 #[.val (.ref a), .val (.ref tx), .val (.int off), .val (.int ln), .unset] [(.int (off + ln)), (.ref a)])) rfl rfl (hb hby own_d_read_14)
  refine own_by (T' := T370) (g' := (mkF m 17 #[.val (.ref a), .val (.ref tx), .val (.int off), .val (.int ln), .unset] [])) st370 ?_
  have N370 := Fr.snoc X370 N354 G0
  have f371 := Nat.le_trans f355 (Keep.of_wr W370).1
  have f372 := Exa.wr W370 f356
  have f373 := own_Ia_other W370 f357 n1
  have f374 := Fld.other W370 f358 (Or.inr (slot_ne (Or.inl (hw _ (List.mem_of_getElem? (i := 22) rfl))) (Or.inl (hw _ (List.mem_of_getElem? (i := 26) rfl))) (by decide) (t := (.array .char)) (t' := .int) (by decide) (by decide)))
  have f375 := Fld.other W370 f359 (Or.inr (slot_ne (Or.inl (hw _ (List.mem_of_getElem? (i := 24) rfl))) (Or.inl (hw _ (List.mem_of_getElem? (i := 26) rfl))) (by decide) (t := .int) (t' := .int) (by decide) (by decide)))
  have f376 := Fld.same W370 f360
  have f377 := Fld.other W370 f361 (Or.inr (slot_ne (Or.inl (hw _ (List.mem_of_getElem? (i := 28) rfl))) (Or.inl (hw _ (List.mem_of_getElem? (i := 26) rfl))) (by decide) (t := .boolean) (t' := .int) (by decide) (by decide)))
  have f378 := Fld.other W370 f362 (Or.inr (slot_ne (Or.inl (hw _ (List.mem_of_getElem? (i := 30) rfl))) (Or.inl (hw _ (List.mem_of_getElem? (i := 26) rfl))) (by decide) (t := .int) (t' := .int) (by decide) (by decide)))
  have f379 := Fld.other W370 f363 (Or.inr (slot_ne (Or.inl (hw _ (List.mem_of_getElem? (i := 32) rfl))) (Or.inl (hw _ (List.mem_of_getElem? (i := 26) rfl))) (by decide) (t := .int) (t' := .int) (by decide) (by decide)))
  have f380 := Fld.other W370 f364 (Or.inr (slot_ne (Or.inl (hw _ (List.mem_of_getElem? (i := 34) rfl))) (Or.inl (hw _ (List.mem_of_getElem? (i := 26) rfl))) (by decide) (t := .int) (t' := .int) (by decide) (by decide)))
  have f381 := Fld.other W370 f365 (Or.inr (slot_ne (Or.inl (hw _ (List.mem_of_getElem? (i := 36) rfl))) (Or.inl (hw _ (List.mem_of_getElem? (i := 26) rfl))) (by decide) (t := .int) (t' := .int) (by decide) (by decide)))
  have f382 := Fld.other W370 f366 (Or.inr (slot_ne (Or.inl (hw _ (List.mem_of_getElem? (i := 42) rfl))) (Or.inl (hw _ (List.mem_of_getElem? (i := 26) rfl))) (by decide) (t := .int) (t' := .int) (by decide) (by decide)))
  have f383 := Fld.other W370 f367 (Or.inr (slot_ne (Or.inl (hw _ (List.mem_of_getElem? (i := 48) rfl))) (Or.inl (hw _ (List.mem_of_getElem? (i := 26) rfl))) (by decide) (t := .int) (t' := .int) (by decide) (by decide)))
  have f384 := Fld.other W370 f368 (Or.inr (slot_ne (Or.inl (hw _ (List.mem_of_getElem? (i := 50) rfl))) (Or.inl (hw _ (List.mem_of_getElem? (i := 26) rfl))) (by decide) (t := .boolean) (t' := .int) (by decide) (by decide)))
  have f385 := Keep.wr f369 W370 (Or.inl (List.mem_of_getElem? (i := 0) rfl))
  refine own_by (T' := T370) (g' := (mkF m 18 #[.val (.ref a), .val (.ref tx), .val (.int off), .val (.int ln), .unset] [(.ref a)])) (fun t_ k_ => XS.aloadN X370.here hx rfl (hb hby own_d_read_17) rfl rfl k_) ?_
  refine own_by (T' := T370) (g' := (mkF m 19 #[.val (.ref a), .val (.ref tx), .val (.int off), .val (.int ln), .unset] [(.int ln), (.ref a)])) (fun t_ k_ => XS.iloadN X370.here hx rfl (hb hby own_d_read_18) rfl k_) ?_
  by_cases c19_386 : (0 : Int32) < ln
  · skip
    refine own_by (T' := T370) (g' := (mkF m 22 #[.val (.ref a), .val (.ref tx), .val (.int off), .val (.int ln), .unset] [(.ref a)])) (fun t_ k_ => XS.ifNo X370.here hx rfl (hb hby own_d_read_19) rfl ((if0 _ _).trans (tlt (c19_386 : (0 : Int32) < ln)).2.2.2) k_) ?_
    refine own_by (T' := T370) (g' := (mkF m 23 #[.val (.ref a), .val (.ref tx), .val (.int off), .val (.int ln), .unset] [(.ref tx), (.ref a)])) (fun t_ k_ => XS.aloadN X370.here hx rfl (hb hby own_d_read_22) rfl rfl k_) ?_
    refine own_by (T' := T370) (g' := (mkF m 24 #[.val (.ref a), .val (.ref tx), .val (.int off), .val (.int ln), .unset] [(.int off), (.ref tx), (.ref a)])) (fun t_ k_ => XS.iloadN X370.here hx rfl (hb hby own_d_read_23) rfl k_) ?_
    refine own_by (T' := T370) (g' := (mkF m 25 #[.val (.ref a), .val (.ref tx), .val (.int off), .val (.int ln), .unset] [(.int (f off.toNatClampNeg)), (.ref a)])) (fun t_ k_ => own_cal X370 hx hZ e370 f373 (j := off) (own_o3 off ln ho hs c19_386).1 (own_o3 off ln ho hs c19_386).2 (g := (mkF m 24 #[.val (.ref a), .val (.ref tx), .val (.int off), .val (.int ln), .unset] [(.int off), (.ref tx), (.ref a)])) rfl rfl (hb hby own_d_read_24) _ k_) ?_
    refine own_by (T' := T370) (g' := (mkF m 27 #[.val (.ref a), .val (.ref tx), .val (.int off), .val (.int ln), .unset] [(.int (45 : Int32)), (.int (f off.toNatClampNeg)), (.ref a)])) (fun t_ k_ => XS.bipush X370.here hx rfl (hb hby own_d_read_25) k_) ?_
    by_cases c27_387 : (f off.toNatClampNeg) = (45 : Int32)
    · skip
      refine own_by (T' := T370) (g' := (mkF m 30 #[.val (.ref a), .val (.ref tx), .val (.int off), .val (.int ln), .unset] [(.ref a)])) (fun t_ k_ => XS.icmpNo X370.here hx rfl (hb hby own_d_read_27) rfl (teq (c27_387 : (f off.toNatClampNeg) = (45 : Int32))).2 k_) ?_
      refine own_by (T' := T370) (g' := (mkF m 31 #[.val (.ref a), .val (.ref tx), .val (.int off), .val (.int ln), .unset] [(.int (1 : Int32)), (.ref a)])) (fun t_ k_ => XS.iconst X370.here hx rfl (hb hby own_d_read_30) k_) ?_
      refine own_by (T' := T370) (g' := (mkF m 35 #[.val (.ref a), .val (.ref tx), .val (.int off), .val (.int ln), .unset] [(.int (1 : Int32)), (.ref a)])) (fun t_ k_ => XS.goto X370.here hx rfl (pc0 := 31) (pc' := 35) rfl (hb hby own_d_read_31) (by decide) (by decide) k_) ?_
      obtain ⟨T388, h388, X388, e388, W388, st388⟩ := putF X370 hx hZ hown (host := "") (Or.inl (hw _ (List.mem_of_getElem? (i := 27) rfl))) Via.refl e370 f377 f372 (Or.inl (hw _ (List.mem_of_getElem? (i := 28) rfl))) (hw _ (List.mem_of_getElem? (i := 8) rfl)) (ty := .boolean) (by decide) rfl rfl (g := (mkF m 35 #[.val (.ref a), .val (.ref tx), .val (.int off), .val (.int ln), .unset] [(.int (1 : Int32)), (.ref a)])) rfl rfl (hb hby own_d_read_35)
      refine own_by (T' := T388) (g' := (mkF m 38 #[.val (.ref a), .val (.ref tx), .val (.int off), .val (.int ln), .unset] [])) st388 ?_
      have N388 := Fr.snoc X388 N370 G0
      have f389 := Nat.le_trans f371 (Keep.of_wr W388).1
      have f390 := Exa.wr W388 f372
      have f391 := own_Ia_other W388 f373 n1
      have f392 := Fld.other W388 f374 (Or.inr (slot_ne (Or.inl (hw _ (List.mem_of_getElem? (i := 22) rfl))) (Or.inl (hw _ (List.mem_of_getElem? (i := 28) rfl))) (by decide) (t := (.array .char)) (t' := .boolean) (by decide) (by decide)))
      have f393 := Fld.other W388 f375 (Or.inr (slot_ne (Or.inl (hw _ (List.mem_of_getElem? (i := 24) rfl))) (Or.inl (hw _ (List.mem_of_getElem? (i := 28) rfl))) (by decide) (t := .int) (t' := .boolean) (by decide) (by decide)))
      have f394 := Fld.other W388 f376 (Or.inr (slot_ne (Or.inl (hw _ (List.mem_of_getElem? (i := 26) rfl))) (Or.inl (hw _ (List.mem_of_getElem? (i := 28) rfl))) (by decide) (t := .int) (t' := .boolean) (by decide) (by decide)))
      have f395 := Fld.same W388 f377
      have f396 := Fld.other W388 f378 (Or.inr (slot_ne (Or.inl (hw _ (List.mem_of_getElem? (i := 30) rfl))) (Or.inl (hw _ (List.mem_of_getElem? (i := 28) rfl))) (by decide) (t := .int) (t' := .boolean) (by decide) (by decide)))
      have f397 := Fld.other W388 f379 (Or.inr (slot_ne (Or.inl (hw _ (List.mem_of_getElem? (i := 32) rfl))) (Or.inl (hw _ (List.mem_of_getElem? (i := 28) rfl))) (by decide) (t := .int) (t' := .boolean) (by decide) (by decide)))
      have f398 := Fld.other W388 f380 (Or.inr (slot_ne (Or.inl (hw _ (List.mem_of_getElem? (i := 34) rfl))) (Or.inl (hw _ (List.mem_of_getElem? (i := 28) rfl))) (by decide) (t := .int) (t' := .boolean) (by decide) (by decide)))
      have f399 := Fld.other W388 f381 (Or.inr (slot_ne (Or.inl (hw _ (List.mem_of_getElem? (i := 36) rfl))) (Or.inl (hw _ (List.mem_of_getElem? (i := 28) rfl))) (by decide) (t := .int) (t' := .boolean) (by decide) (by decide)))
      have f400 := Fld.other W388 f382 (Or.inr (slot_ne (Or.inl (hw _ (List.mem_of_getElem? (i := 42) rfl))) (Or.inl (hw _ (List.mem_of_getElem? (i := 28) rfl))) (by decide) (t := .int) (t' := .boolean) (by decide) (by decide)))
      have f401 := Fld.other W388 f383 (Or.inr (slot_ne (Or.inl (hw _ (List.mem_of_getElem? (i := 48) rfl))) (Or.inl (hw _ (List.mem_of_getElem? (i := 28) rfl))) (by decide) (t := .int) (t' := .boolean) (by decide) (by decide)))
      have f402 := Fld.other W388 f384 (Or.inr (slot_ne (Or.inl (hw _ (List.mem_of_getElem? (i := 50) rfl))) (Or.inl (hw _ (List.mem_of_getElem? (i := 28) rfl))) (by decide) (t := .boolean) (t' := .boolean) (by decide) (by decide)))
      have f403 := Keep.wr f385 W388 (Or.inl (List.mem_of_getElem? (i := 0) rfl))
      refine own_by (T' := T388) (g' := (mkF m 39 #[.val (.ref a), .val (.ref tx), .val (.int off), .val (.int ln), .unset] [(.ref a)])) (fun t_ k_ => XS.aloadN X388.here hx rfl (hb hby own_d_read_38) rfl rfl k_) ?_
      refine own_by (T' := T388) (g' := (mkF m 40 #[.val (.ref a), .val (.ref tx), .val (.int off), .val (.int ln), .unset] [(.ref a), (.ref a)])) (fun t_ k_ => XS.aloadN X388.here hx rfl (hb hby own_d_read_39) rfl rfl k_) ?_
      obtain ⟨T404, X404, e404, st404⟩ := getF X388 hx hZ hown (host := "") (Or.inl (hw _ (List.mem_of_getElem? (i := 27) rfl))) Via.refl e388 f395 (g := (mkF m 40 #[.val (.ref a), .val (.ref tx), .val (.int off), .val (.int ln), .unset] [(.ref a), (.ref a)])) rfl rfl (hb hby own_d_read_40)
      refine own_by (T' := T404) (g' := (mkF m 43 #[.val (.ref a), .val (.ref tx), .val (.int off), .val (.int ln), .unset] [(.int (1 : Int32)), (.ref a)])) st404 ?_
      refine own_by (T' := T404) (g' := (mkF m 46 #[.val (.ref a), .val (.ref tx), .val (.int off), .val (.int ln), .unset] [(.ref a)])) (fun t_ k_ => XS.ifNo X404.here hx rfl (hb hby own_d_read_43) rfl ((if0 _ _).trans (feq ((by decide) : ¬ ((1 : Int32) = (0 : Int32)))).1) k_) ?_
      refine own_by (T' := T404) (g' := (mkF m 47 #[.val (.ref a), .val (.ref tx), .val (.int off), .val (.int ln), .unset] [(.int off), (.ref a)])) (fun t_ k_ => XS.iloadN X404.here hx rfl (hb hby own_d_read_46) rfl k_) ?_
      refine own_by (T' := T404) (g' := (mkF m 48 #[.val (.ref a), .val (.ref tx), .val (.int off), .val (.int ln), .unset] [(.int (1 : Int32)), (.int off), (.ref a)])) (fun t_ k_ => XS.iconst X404.here hx rfl (hb hby own_d_read_47) k_) ?_
      refine own_by (T' := T404) (g' := (mkF m 49 #[.val (.ref a), .val (.ref tx), .val (.int off), .val (.int ln), .unset] [(.int (off + (1 : Int32))), (.ref a)])) (fun t_ k_ => XS.iadd X404.here hx rfl (hb hby own_d_read_48) rfl k_) ?_
      refine own_by (T' := T404) (g' := (mkF m 53 #[.val (.ref a), .val (.ref tx), .val (.int off), .val (.int ln), .unset] [(.int (off + (1 : Int32))), (.ref a)])) (fun t_ k_ => XS.goto X404.here hx rfl (pc0 := 49) (pc' := 53) rfl (hb hby own_d_read_49) (by decide) (by decide) k_) ?_
      obtain ⟨T405, h405, X405, e405, W405, st405⟩ := putF X404 hx hZ hown (host := "") (Or.inl (hw _ (List.mem_of_getElem? (i := 29) rfl))) Via.refl e404 f396 f390 (Or.inl (hw _ (List.mem_of_getElem? (i := 30) rfl))) (hw _ (List.mem_of_getElem? (i := 8) rfl)) (ty := .int) (by decide) rfl rfl (g := (mkF m 53 #[.val (.ref a), .val (.ref tx), .val (.int off), .val (.int ln), .unset] [(.int (off + (1 : Int32))), (.ref a)])) rfl rfl (hb hby own_d_read_53)
      refine own_by (T' := T405) (g' := (mkF m 56 #[.val (.ref a), .val (.ref tx), .val (.int off), .val (.int ln), .unset] [])) st405 ?_
      have N405 := Fr.snoc X405 N388 G0
      have f406 := Nat.le_trans f389 (Keep.of_wr W405).1
      have f407 := Exa.wr W405 f390
      have f408 := own_Ia_other W405 f391 n1
      have f409 := Fld.other W405 f392 (Or.inr (slot_ne (Or.inl (hw _ (List.mem_of_getElem? (i := 22) rfl))) (Or.inl (hw _ (List.mem_of_getElem? (i := 30) rfl))) (by decide) (t := (.array .char)) (t' := .int) (by decide) (by decide)))
      have f410 := Fld.other W405 f393 (Or.inr (slot_ne (Or.inl (hw _ (List.mem_of_getElem? (i := 24) rfl))) (Or.inl (hw _ (List.mem_of_getElem? (i := 30) rfl))) (by decide) (t := .int) (t' := .int) (by decide) (by decide)))
      have f411 := Fld.other W405 f394 (Or.inr (slot_ne (Or.inl (hw _ (List.mem_of_getElem? (i := 26) rfl))) (Or.inl (hw _ (List.mem_of_getElem? (i := 30) rfl))) (by decide) (t := .int) (t' := .int) (by decide) (by decide)))
      have f412 := Fld.other W405 f395 (Or.inr (slot_ne (Or.inl (hw _ (List.mem_of_getElem? (i := 28) rfl))) (Or.inl (hw _ (List.mem_of_getElem? (i := 30) rfl))) (by decide) (t := .boolean) (t' := .int) (by decide) (by decide)))
      have f413 := Fld.same W405 f396
      have f414 := Fld.other W405 f397 (Or.inr (slot_ne (Or.inl (hw _ (List.mem_of_getElem? (i := 32) rfl))) (Or.inl (hw _ (List.mem_of_getElem? (i := 30) rfl))) (by decide) (t := .int) (t' := .int) (by decide) (by decide)))
      have f415 := Fld.other W405 f398 (Or.inr (slot_ne (Or.inl (hw _ (List.mem_of_getElem? (i := 34) rfl))) (Or.inl (hw _ (List.mem_of_getElem? (i := 30) rfl))) (by decide) (t := .int) (t' := .int) (by decide) (by decide)))
      have f416 := Fld.other W405 f399 (Or.inr (slot_ne (Or.inl (hw _ (List.mem_of_getElem? (i := 36) rfl))) (Or.inl (hw _ (List.mem_of_getElem? (i := 30) rfl))) (by decide) (t := .int) (t' := .int) (by decide) (by decide)))
      have f417 := Fld.other W405 f400 (Or.inr (slot_ne (Or.inl (hw _ (List.mem_of_getElem? (i := 42) rfl))) (Or.inl (hw _ (List.mem_of_getElem? (i := 30) rfl))) (by decide) (t := .int) (t' := .int) (by decide) (by decide)))
      have f418 := Fld.other W405 f401 (Or.inr (slot_ne (Or.inl (hw _ (List.mem_of_getElem? (i := 48) rfl))) (Or.inl (hw _ (List.mem_of_getElem? (i := 30) rfl))) (by decide) (t := .int) (t' := .int) (by decide) (by decide)))
      have f419 := Fld.other W405 f402 (Or.inr (slot_ne (Or.inl (hw _ (List.mem_of_getElem? (i := 50) rfl))) (Or.inl (hw _ (List.mem_of_getElem? (i := 30) rfl))) (by decide) (t := .boolean) (t' := .int) (by decide) (by decide)))
      have f420 := Keep.wr f403 W405 (Or.inl (List.mem_of_getElem? (i := 0) rfl))
      refine own_by (T' := T405) (g' := (mkF m 57 #[.val (.ref a), .val (.ref tx), .val (.int off), .val (.int ln), .unset] [(.ref a)])) (fun t_ k_ => XS.aloadN X405.here hx rfl (hb hby own_d_read_56) rfl rfl k_) ?_
      refine own_by (T' := T405) (g' := (mkF m 58 #[.val (.ref a), .val (.ref tx), .val (.int off), .val (.int ln), .unset] [(.ref a), (.ref a)])) (fun t_ k_ => XS.aloadN X405.here hx rfl (hb hby own_d_read_57) rfl rfl k_) ?_
      obtain ⟨T421, X421, e421, st421⟩ := getF X405 hx hZ hown (host := "") (Or.inl (hw _ (List.mem_of_getElem? (i := 29) rfl))) Via.refl e405 f413 (g := (mkF m 58 #[.val (.ref a), .val (.ref tx), .val (.int off), .val (.int ln), .unset] [(.ref a), (.ref a)])) rfl rfl (hb hby own_d_read_58)
      refine own_by (T' := T421) (g' := (mkF m 61 #[.val (.ref a), .val (.ref tx), .val (.int off), .val (.int ln), .unset] [(.int (off + (1 : Int32))), (.ref a)])) st421 ?_
      obtain ⟨T422, h422, X422, e422, W422, st422⟩ := putF X421 hx hZ hown (host := "") (Or.inl (hw _ (List.mem_of_getElem? (i := 31) rfl))) Via.refl e421 f414 f407 (Or.inl (hw _ (List.mem_of_getElem? (i := 32) rfl))) (hw _ (List.mem_of_getElem? (i := 8) rfl)) (ty := .int) (by decide) rfl rfl (g := (mkF m 61 #[.val (.ref a), .val (.ref tx), .val (.int off), .val (.int ln), .unset] [(.int (off + (1 : Int32))), (.ref a)])) rfl rfl (hb hby own_d_read_61)
      refine own_by (T' := T422) (g' := (mkF m 64 #[.val (.ref a), .val (.ref tx), .val (.int off), .val (.int ln), .unset] [])) st422 ?_
      have N422 := Fr.snoc X422 N405 G0
      have f423 := Nat.le_trans f406 (Keep.of_wr W422).1
      have f424 := Exa.wr W422 f407
      have f425 := own_Ia_other W422 f408 n1
      have f426 := Fld.other W422 f409 (Or.inr (slot_ne (Or.inl (hw _ (List.mem_of_getElem? (i := 22) rfl))) (Or.inl (hw _ (List.mem_of_getElem? (i := 32) rfl))) (by decide) (t := (.array .char)) (t' := .int) (by decide) (by decide)))
      have f427 := Fld.other W422 f410 (Or.inr (slot_ne (Or.inl (hw _ (List.mem_of_getElem? (i := 24) rfl))) (Or.inl (hw _ (List.mem_of_getElem? (i := 32) rfl))) (by decide) (t := .int) (t' := .int) (by decide) (by decide)))
      have f428 := Fld.other W422 f411 (Or.inr (slot_ne (Or.inl (hw _ (List.mem_of_getElem? (i := 26) rfl))) (Or.inl (hw _ (List.mem_of_getElem? (i := 32) rfl))) (by decide) (t := .int) (t' := .int) (by decide) (by decide)))
      have f429 := Fld.other W422 f412 (Or.inr (slot_ne (Or.inl (hw _ (List.mem_of_getElem? (i := 28) rfl))) (Or.inl (hw _ (List.mem_of_getElem? (i := 32) rfl))) (by decide) (t := .boolean) (t' := .int) (by decide) (by decide)))
      have f430 := Fld.other W422 f413 (Or.inr (slot_ne (Or.inl (hw _ (List.mem_of_getElem? (i := 30) rfl))) (Or.inl (hw _ (List.mem_of_getElem? (i := 32) rfl))) (by decide) (t := .int) (t' := .int) (by decide) (by decide)))
      have f431 := Fld.same W422 f414
      have f432 := Fld.other W422 f415 (Or.inr (slot_ne (Or.inl (hw _ (List.mem_of_getElem? (i := 34) rfl))) (Or.inl (hw _ (List.mem_of_getElem? (i := 32) rfl))) (by decide) (t := .int) (t' := .int) (by decide) (by decide)))
      have f433 := Fld.other W422 f416 (Or.inr (slot_ne (Or.inl (hw _ (List.mem_of_getElem? (i := 36) rfl))) (Or.inl (hw _ (List.mem_of_getElem? (i := 32) rfl))) (by decide) (t := .int) (t' := .int) (by decide) (by decide)))
      have f434 := Fld.other W422 f417 (Or.inr (slot_ne (Or.inl (hw _ (List.mem_of_getElem? (i := 42) rfl))) (Or.inl (hw _ (List.mem_of_getElem? (i := 32) rfl))) (by decide) (t := .int) (t' := .int) (by decide) (by decide)))
      have f435 := Fld.other W422 f418 (Or.inr (slot_ne (Or.inl (hw _ (List.mem_of_getElem? (i := 48) rfl))) (Or.inl (hw _ (List.mem_of_getElem? (i := 32) rfl))) (by decide) (t := .int) (t' := .int) (by decide) (by decide)))
      have f436 := Fld.other W422 f419 (Or.inr (slot_ne (Or.inl (hw _ (List.mem_of_getElem? (i := 50) rfl))) (Or.inl (hw _ (List.mem_of_getElem? (i := 32) rfl))) (by decide) (t := .boolean) (t' := .int) (by decide) (by decide)))
      have f437 := Keep.wr f420 W422 (Or.inl (List.mem_of_getElem? (i := 0) rfl))
      refine own_by (T' := T422) (g' := (mkF m 65 #[.val (.ref a), .val (.ref tx), .val (.int off), .val (.int ln), .unset] [(.ref a)])) (fun t_ k_ => XS.aloadN X422.here hx rfl (hb hby own_d_read_64) rfl rfl k_) ?_
      refine own_by (T' := T422) (g' := (mkF m 66 #[.val (.ref a), .val (.ref tx), .val (.int off), .val (.int ln), .unset] [(.int (-1 : Int32)), (.ref a)])) (fun t_ k_ => XS.iconst X422.here hx rfl (hb hby own_d_read_65) k_) ?_
      obtain ⟨T438, h438, X438, e438, W438, st438⟩ := putF X422 hx hZ hown (host := "") (Or.inl (hw _ (List.mem_of_getElem? (i := 33) rfl))) Via.refl e422 f432 f424 (Or.inl (hw _ (List.mem_of_getElem? (i := 34) rfl))) (hw _ (List.mem_of_getElem? (i := 8) rfl)) (ty := .int) (by decide) rfl rfl (g := (mkF m 66 #[.val (.ref a), .val (.ref tx), .val (.int off), .val (.int ln), .unset] [(.int (-1 : Int32)), (.ref a)])) rfl rfl (hb hby own_d_read_66)
      refine own_by (T' := T438) (g' := (mkF m 69 #[.val (.ref a), .val (.ref tx), .val (.int off), .val (.int ln), .unset] [])) st438 ?_
      have N438 := Fr.snoc X438 N422 G0
      have f439 := Nat.le_trans f423 (Keep.of_wr W438).1
      have f440 := Exa.wr W438 f424
      have f441 := own_Ia_other W438 f425 n1
      have f442 := Fld.other W438 f426 (Or.inr (slot_ne (Or.inl (hw _ (List.mem_of_getElem? (i := 22) rfl))) (Or.inl (hw _ (List.mem_of_getElem? (i := 34) rfl))) (by decide) (t := (.array .char)) (t' := .int) (by decide) (by decide)))
      have f443 := Fld.other W438 f427 (Or.inr (slot_ne (Or.inl (hw _ (List.mem_of_getElem? (i := 24) rfl))) (Or.inl (hw _ (List.mem_of_getElem? (i := 34) rfl))) (by decide) (t := .int) (t' := .int) (by decide) (by decide)))
      have f444 := Fld.other W438 f428 (Or.inr (slot_ne (Or.inl (hw _ (List.mem_of_getElem? (i := 26) rfl))) (Or.inl (hw _ (List.mem_of_getElem? (i := 34) rfl))) (by decide) (t := .int) (t' := .int) (by decide) (by decide)))
      have f445 := Fld.other W438 f429 (Or.inr (slot_ne (Or.inl (hw _ (List.mem_of_getElem? (i := 28) rfl))) (Or.inl (hw _ (List.mem_of_getElem? (i := 34) rfl))) (by decide) (t := .boolean) (t' := .int) (by decide) (by decide)))
      have f446 := Fld.other W438 f430 (Or.inr (slot_ne (Or.inl (hw _ (List.mem_of_getElem? (i := 30) rfl))) (Or.inl (hw _ (List.mem_of_getElem? (i := 34) rfl))) (by decide) (t := .int) (t' := .int) (by decide) (by decide)))
      have f447 := Fld.other W438 f431 (Or.inr (slot_ne (Or.inl (hw _ (List.mem_of_getElem? (i := 32) rfl))) (Or.inl (hw _ (List.mem_of_getElem? (i := 34) rfl))) (by decide) (t := .int) (t' := .int) (by decide) (by decide)))
      have f448 := Fld.same W438 f432
      have f449 := Fld.other W438 f433 (Or.inr (slot_ne (Or.inl (hw _ (List.mem_of_getElem? (i := 36) rfl))) (Or.inl (hw _ (List.mem_of_getElem? (i := 34) rfl))) (by decide) (t := .int) (t' := .int) (by decide) (by decide)))
      have f450 := Fld.other W438 f434 (Or.inr (slot_ne (Or.inl (hw _ (List.mem_of_getElem? (i := 42) rfl))) (Or.inl (hw _ (List.mem_of_getElem? (i := 34) rfl))) (by decide) (t := .int) (t' := .int) (by decide) (by decide)))
      have f451 := Fld.other W438 f435 (Or.inr (slot_ne (Or.inl (hw _ (List.mem_of_getElem? (i := 48) rfl))) (Or.inl (hw _ (List.mem_of_getElem? (i := 34) rfl))) (by decide) (t := .int) (t' := .int) (by decide) (by decide)))
      have f452 := Fld.other W438 f436 (Or.inr (slot_ne (Or.inl (hw _ (List.mem_of_getElem? (i := 50) rfl))) (Or.inl (hw _ (List.mem_of_getElem? (i := 34) rfl))) (by decide) (t := .boolean) (t' := .int) (by decide) (by decide)))
      have f453 := Keep.wr f437 W438 (Or.inl (List.mem_of_getElem? (i := 0) rfl))
      exact l69 _ (1 : Int32) (off + (1 : Int32)) (off + (1 : Int32)) (-1 : Int32) u_first u_last u_exponentAt u_negativeExponent T438 h438 _ X438 e438 N438 f439 f453 f440 f441 f442 f443 f444 f445 f446 f447 f448 f449 f450 f451 f452 (own_o1 off ln ho hs c19_386) ⟨(own_o1' off ln ho hs c19_386), (own_o2 off ln ho hs c19_386)⟩ (Int.le_refl _) (fun q => absurd q (by decide)) (own_J1 f off ln ho hs c19_386 c27_387) rfl
    · skip
      refine own_by (T' := T370) (g' := (mkF m 34 #[.val (.ref a), .val (.ref tx), .val (.int off), .val (.int ln), .unset] [(.ref a)])) (fun t_ k_ => XS.icmpYes X370.here hx rfl (pc0 := 27) (pc' := 34) rfl (hb hby own_d_read_27) rfl (feq (c27_387 : ¬ ((f off.toNatClampNeg) = (45 : Int32)))).2 (by decide) (by decide) k_) ?_
      refine own_by (T' := T370) (g' := (mkF m 35 #[.val (.ref a), .val (.ref tx), .val (.int off), .val (.int ln), .unset] [(.int (0 : Int32)), (.ref a)])) (fun t_ k_ => XS.iconst X370.here hx rfl (hb hby own_d_read_34) k_) ?_
      obtain ⟨T454, h454, X454, e454, W454, st454⟩ := putF X370 hx hZ hown (host := "") (Or.inl (hw _ (List.mem_of_getElem? (i := 27) rfl))) Via.refl e370 f377 f372 (Or.inl (hw _ (List.mem_of_getElem? (i := 28) rfl))) (hw _ (List.mem_of_getElem? (i := 8) rfl)) (ty := .boolean) (by decide) rfl rfl (g := (mkF m 35 #[.val (.ref a), .val (.ref tx), .val (.int off), .val (.int ln), .unset] [(.int (0 : Int32)), (.ref a)])) rfl rfl (hb hby own_d_read_35)
      refine own_by (T' := T454) (g' := (mkF m 38 #[.val (.ref a), .val (.ref tx), .val (.int off), .val (.int ln), .unset] [])) st454 ?_
      have N454 := Fr.snoc X454 N370 G0
      have f455 := Nat.le_trans f371 (Keep.of_wr W454).1
      have f456 := Exa.wr W454 f372
      have f457 := own_Ia_other W454 f373 n1
      have f458 := Fld.other W454 f374 (Or.inr (slot_ne (Or.inl (hw _ (List.mem_of_getElem? (i := 22) rfl))) (Or.inl (hw _ (List.mem_of_getElem? (i := 28) rfl))) (by decide) (t := (.array .char)) (t' := .boolean) (by decide) (by decide)))
      have f459 := Fld.other W454 f375 (Or.inr (slot_ne (Or.inl (hw _ (List.mem_of_getElem? (i := 24) rfl))) (Or.inl (hw _ (List.mem_of_getElem? (i := 28) rfl))) (by decide) (t := .int) (t' := .boolean) (by decide) (by decide)))
      have f460 := Fld.other W454 f376 (Or.inr (slot_ne (Or.inl (hw _ (List.mem_of_getElem? (i := 26) rfl))) (Or.inl (hw _ (List.mem_of_getElem? (i := 28) rfl))) (by decide) (t := .int) (t' := .boolean) (by decide) (by decide)))
      have f461 := Fld.same W454 f377
      have f462 := Fld.other W454 f378 (Or.inr (slot_ne (Or.inl (hw _ (List.mem_of_getElem? (i := 30) rfl))) (Or.inl (hw _ (List.mem_of_getElem? (i := 28) rfl))) (by decide) (t := .int) (t' := .boolean) (by decide) (by decide)))
      have f463 := Fld.other W454 f379 (Or.inr (slot_ne (Or.inl (hw _ (List.mem_of_getElem? (i := 32) rfl))) (Or.inl (hw _ (List.mem_of_getElem? (i := 28) rfl))) (by decide) (t := .int) (t' := .boolean) (by decide) (by decide)))
      have f464 := Fld.other W454 f380 (Or.inr (slot_ne (Or.inl (hw _ (List.mem_of_getElem? (i := 34) rfl))) (Or.inl (hw _ (List.mem_of_getElem? (i := 28) rfl))) (by decide) (t := .int) (t' := .boolean) (by decide) (by decide)))
      have f465 := Fld.other W454 f381 (Or.inr (slot_ne (Or.inl (hw _ (List.mem_of_getElem? (i := 36) rfl))) (Or.inl (hw _ (List.mem_of_getElem? (i := 28) rfl))) (by decide) (t := .int) (t' := .boolean) (by decide) (by decide)))
      have f466 := Fld.other W454 f382 (Or.inr (slot_ne (Or.inl (hw _ (List.mem_of_getElem? (i := 42) rfl))) (Or.inl (hw _ (List.mem_of_getElem? (i := 28) rfl))) (by decide) (t := .int) (t' := .boolean) (by decide) (by decide)))
      have f467 := Fld.other W454 f383 (Or.inr (slot_ne (Or.inl (hw _ (List.mem_of_getElem? (i := 48) rfl))) (Or.inl (hw _ (List.mem_of_getElem? (i := 28) rfl))) (by decide) (t := .int) (t' := .boolean) (by decide) (by decide)))
      have f468 := Fld.other W454 f384 (Or.inr (slot_ne (Or.inl (hw _ (List.mem_of_getElem? (i := 50) rfl))) (Or.inl (hw _ (List.mem_of_getElem? (i := 28) rfl))) (by decide) (t := .boolean) (t' := .boolean) (by decide) (by decide)))
      have f469 := Keep.wr f385 W454 (Or.inl (List.mem_of_getElem? (i := 0) rfl))
      refine own_by (T' := T454) (g' := (mkF m 39 #[.val (.ref a), .val (.ref tx), .val (.int off), .val (.int ln), .unset] [(.ref a)])) (fun t_ k_ => XS.aloadN X454.here hx rfl (hb hby own_d_read_38) rfl rfl k_) ?_
      refine own_by (T' := T454) (g' := (mkF m 40 #[.val (.ref a), .val (.ref tx), .val (.int off), .val (.int ln), .unset] [(.ref a), (.ref a)])) (fun t_ k_ => XS.aloadN X454.here hx rfl (hb hby own_d_read_39) rfl rfl k_) ?_
      obtain ⟨T470, X470, e470, st470⟩ := getF X454 hx hZ hown (host := "") (Or.inl (hw _ (List.mem_of_getElem? (i := 27) rfl))) Via.refl e454 f461 (g := (mkF m 40 #[.val (.ref a), .val (.ref tx), .val (.int off), .val (.int ln), .unset] [(.ref a), (.ref a)])) rfl rfl (hb hby own_d_read_40)
      refine own_by (T' := T470) (g' := (mkF m 43 #[.val (.ref a), .val (.ref tx), .val (.int off), .val (.int ln), .unset] [(.int (0 : Int32)), (.ref a)])) st470 ?_
      refine own_by (T' := T470) (g' := (mkF m 52 #[.val (.ref a), .val (.ref tx), .val (.int off), .val (.int ln), .unset] [(.ref a)])) (fun t_ k_ => XS.ifYes X470.here hx rfl (pc0 := 43) (pc' := 52) rfl (hb hby own_d_read_43) rfl ((if0 _ _).trans (teq ((by decide) : (0 : Int32) = (0 : Int32))).1) (by decide) (by decide) k_) ?_
      refine own_by (T' := T470) (g' := (mkF m 53 #[.val (.ref a), .val (.ref tx), .val (.int off), .val (.int ln), .unset] [(.int off), (.ref a)])) (fun t_ k_ => XS.iloadN X470.here hx rfl (hb hby own_d_read_52) rfl k_) ?_
      obtain ⟨T471, h471, X471, e471, W471, st471⟩ := putF X470 hx hZ hown (host := "") (Or.inl (hw _ (List.mem_of_getElem? (i := 29) rfl))) Via.refl e470 f462 f456 (Or.inl (hw _ (List.mem_of_getElem? (i := 30) rfl))) (hw _ (List.mem_of_getElem? (i := 8) rfl)) (ty := .int) (by decide) rfl rfl (g := (mkF m 53 #[.val (.ref a), .val (.ref tx), .val (.int off), .val (.int ln), .unset] [(.int off), (.ref a)])) rfl rfl (hb hby own_d_read_53)
      refine own_by (T' := T471) (g' := (mkF m 56 #[.val (.ref a), .val (.ref tx), .val (.int off), .val (.int ln), .unset] [])) st471 ?_
      have N471 := Fr.snoc X471 N454 G0
      have f472 := Nat.le_trans f455 (Keep.of_wr W471).1
      have f473 := Exa.wr W471 f456
      have f474 := own_Ia_other W471 f457 n1
      have f475 := Fld.other W471 f458 (Or.inr (slot_ne (Or.inl (hw _ (List.mem_of_getElem? (i := 22) rfl))) (Or.inl (hw _ (List.mem_of_getElem? (i := 30) rfl))) (by decide) (t := (.array .char)) (t' := .int) (by decide) (by decide)))
      have f476 := Fld.other W471 f459 (Or.inr (slot_ne (Or.inl (hw _ (List.mem_of_getElem? (i := 24) rfl))) (Or.inl (hw _ (List.mem_of_getElem? (i := 30) rfl))) (by decide) (t := .int) (t' := .int) (by decide) (by decide)))
      have f477 := Fld.other W471 f460 (Or.inr (slot_ne (Or.inl (hw _ (List.mem_of_getElem? (i := 26) rfl))) (Or.inl (hw _ (List.mem_of_getElem? (i := 30) rfl))) (by decide) (t := .int) (t' := .int) (by decide) (by decide)))
      have f478 := Fld.other W471 f461 (Or.inr (slot_ne (Or.inl (hw _ (List.mem_of_getElem? (i := 28) rfl))) (Or.inl (hw _ (List.mem_of_getElem? (i := 30) rfl))) (by decide) (t := .boolean) (t' := .int) (by decide) (by decide)))
      have f479 := Fld.same W471 f462
      have f480 := Fld.other W471 f463 (Or.inr (slot_ne (Or.inl (hw _ (List.mem_of_getElem? (i := 32) rfl))) (Or.inl (hw _ (List.mem_of_getElem? (i := 30) rfl))) (by decide) (t := .int) (t' := .int) (by decide) (by decide)))
      have f481 := Fld.other W471 f464 (Or.inr (slot_ne (Or.inl (hw _ (List.mem_of_getElem? (i := 34) rfl))) (Or.inl (hw _ (List.mem_of_getElem? (i := 30) rfl))) (by decide) (t := .int) (t' := .int) (by decide) (by decide)))
      have f482 := Fld.other W471 f465 (Or.inr (slot_ne (Or.inl (hw _ (List.mem_of_getElem? (i := 36) rfl))) (Or.inl (hw _ (List.mem_of_getElem? (i := 30) rfl))) (by decide) (t := .int) (t' := .int) (by decide) (by decide)))
      have f483 := Fld.other W471 f466 (Or.inr (slot_ne (Or.inl (hw _ (List.mem_of_getElem? (i := 42) rfl))) (Or.inl (hw _ (List.mem_of_getElem? (i := 30) rfl))) (by decide) (t := .int) (t' := .int) (by decide) (by decide)))
      have f484 := Fld.other W471 f467 (Or.inr (slot_ne (Or.inl (hw _ (List.mem_of_getElem? (i := 48) rfl))) (Or.inl (hw _ (List.mem_of_getElem? (i := 30) rfl))) (by decide) (t := .int) (t' := .int) (by decide) (by decide)))
      have f485 := Fld.other W471 f468 (Or.inr (slot_ne (Or.inl (hw _ (List.mem_of_getElem? (i := 50) rfl))) (Or.inl (hw _ (List.mem_of_getElem? (i := 30) rfl))) (by decide) (t := .boolean) (t' := .int) (by decide) (by decide)))
      have f486 := Keep.wr f469 W471 (Or.inl (List.mem_of_getElem? (i := 0) rfl))
      refine own_by (T' := T471) (g' := (mkF m 57 #[.val (.ref a), .val (.ref tx), .val (.int off), .val (.int ln), .unset] [(.ref a)])) (fun t_ k_ => XS.aloadN X471.here hx rfl (hb hby own_d_read_56) rfl rfl k_) ?_
      refine own_by (T' := T471) (g' := (mkF m 58 #[.val (.ref a), .val (.ref tx), .val (.int off), .val (.int ln), .unset] [(.ref a), (.ref a)])) (fun t_ k_ => XS.aloadN X471.here hx rfl (hb hby own_d_read_57) rfl rfl k_) ?_
      obtain ⟨T487, X487, e487, st487⟩ := getF X471 hx hZ hown (host := "") (Or.inl (hw _ (List.mem_of_getElem? (i := 29) rfl))) Via.refl e471 f479 (g := (mkF m 58 #[.val (.ref a), .val (.ref tx), .val (.int off), .val (.int ln), .unset] [(.ref a), (.ref a)])) rfl rfl (hb hby own_d_read_58)
      refine own_by (T' := T487) (g' := (mkF m 61 #[.val (.ref a), .val (.ref tx), .val (.int off), .val (.int ln), .unset] [(.int off), (.ref a)])) st487 ?_
      obtain ⟨T488, h488, X488, e488, W488, st488⟩ := putF X487 hx hZ hown (host := "") (Or.inl (hw _ (List.mem_of_getElem? (i := 31) rfl))) Via.refl e487 f480 f473 (Or.inl (hw _ (List.mem_of_getElem? (i := 32) rfl))) (hw _ (List.mem_of_getElem? (i := 8) rfl)) (ty := .int) (by decide) rfl rfl (g := (mkF m 61 #[.val (.ref a), .val (.ref tx), .val (.int off), .val (.int ln), .unset] [(.int off), (.ref a)])) rfl rfl (hb hby own_d_read_61)
      refine own_by (T' := T488) (g' := (mkF m 64 #[.val (.ref a), .val (.ref tx), .val (.int off), .val (.int ln), .unset] [])) st488 ?_
      have N488 := Fr.snoc X488 N471 G0
      have f489 := Nat.le_trans f472 (Keep.of_wr W488).1
      have f490 := Exa.wr W488 f473
      have f491 := own_Ia_other W488 f474 n1
      have f492 := Fld.other W488 f475 (Or.inr (slot_ne (Or.inl (hw _ (List.mem_of_getElem? (i := 22) rfl))) (Or.inl (hw _ (List.mem_of_getElem? (i := 32) rfl))) (by decide) (t := (.array .char)) (t' := .int) (by decide) (by decide)))
      have f493 := Fld.other W488 f476 (Or.inr (slot_ne (Or.inl (hw _ (List.mem_of_getElem? (i := 24) rfl))) (Or.inl (hw _ (List.mem_of_getElem? (i := 32) rfl))) (by decide) (t := .int) (t' := .int) (by decide) (by decide)))
      have f494 := Fld.other W488 f477 (Or.inr (slot_ne (Or.inl (hw _ (List.mem_of_getElem? (i := 26) rfl))) (Or.inl (hw _ (List.mem_of_getElem? (i := 32) rfl))) (by decide) (t := .int) (t' := .int) (by decide) (by decide)))
      have f495 := Fld.other W488 f478 (Or.inr (slot_ne (Or.inl (hw _ (List.mem_of_getElem? (i := 28) rfl))) (Or.inl (hw _ (List.mem_of_getElem? (i := 32) rfl))) (by decide) (t := .boolean) (t' := .int) (by decide) (by decide)))
      have f496 := Fld.other W488 f479 (Or.inr (slot_ne (Or.inl (hw _ (List.mem_of_getElem? (i := 30) rfl))) (Or.inl (hw _ (List.mem_of_getElem? (i := 32) rfl))) (by decide) (t := .int) (t' := .int) (by decide) (by decide)))
      have f497 := Fld.same W488 f480
      have f498 := Fld.other W488 f481 (Or.inr (slot_ne (Or.inl (hw _ (List.mem_of_getElem? (i := 34) rfl))) (Or.inl (hw _ (List.mem_of_getElem? (i := 32) rfl))) (by decide) (t := .int) (t' := .int) (by decide) (by decide)))
      have f499 := Fld.other W488 f482 (Or.inr (slot_ne (Or.inl (hw _ (List.mem_of_getElem? (i := 36) rfl))) (Or.inl (hw _ (List.mem_of_getElem? (i := 32) rfl))) (by decide) (t := .int) (t' := .int) (by decide) (by decide)))
      have f500 := Fld.other W488 f483 (Or.inr (slot_ne (Or.inl (hw _ (List.mem_of_getElem? (i := 42) rfl))) (Or.inl (hw _ (List.mem_of_getElem? (i := 32) rfl))) (by decide) (t := .int) (t' := .int) (by decide) (by decide)))
      have f501 := Fld.other W488 f484 (Or.inr (slot_ne (Or.inl (hw _ (List.mem_of_getElem? (i := 48) rfl))) (Or.inl (hw _ (List.mem_of_getElem? (i := 32) rfl))) (by decide) (t := .int) (t' := .int) (by decide) (by decide)))
      have f502 := Fld.other W488 f485 (Or.inr (slot_ne (Or.inl (hw _ (List.mem_of_getElem? (i := 50) rfl))) (Or.inl (hw _ (List.mem_of_getElem? (i := 32) rfl))) (by decide) (t := .boolean) (t' := .int) (by decide) (by decide)))
      have f503 := Keep.wr f486 W488 (Or.inl (List.mem_of_getElem? (i := 0) rfl))
      refine own_by (T' := T488) (g' := (mkF m 65 #[.val (.ref a), .val (.ref tx), .val (.int off), .val (.int ln), .unset] [(.ref a)])) (fun t_ k_ => XS.aloadN X488.here hx rfl (hb hby own_d_read_64) rfl rfl k_) ?_
      refine own_by (T' := T488) (g' := (mkF m 66 #[.val (.ref a), .val (.ref tx), .val (.int off), .val (.int ln), .unset] [(.int (-1 : Int32)), (.ref a)])) (fun t_ k_ => XS.iconst X488.here hx rfl (hb hby own_d_read_65) k_) ?_
      obtain ⟨T504, h504, X504, e504, W504, st504⟩ := putF X488 hx hZ hown (host := "") (Or.inl (hw _ (List.mem_of_getElem? (i := 33) rfl))) Via.refl e488 f498 f490 (Or.inl (hw _ (List.mem_of_getElem? (i := 34) rfl))) (hw _ (List.mem_of_getElem? (i := 8) rfl)) (ty := .int) (by decide) rfl rfl (g := (mkF m 66 #[.val (.ref a), .val (.ref tx), .val (.int off), .val (.int ln), .unset] [(.int (-1 : Int32)), (.ref a)])) rfl rfl (hb hby own_d_read_66)
      refine own_by (T' := T504) (g' := (mkF m 69 #[.val (.ref a), .val (.ref tx), .val (.int off), .val (.int ln), .unset] [])) st504 ?_
      have N504 := Fr.snoc X504 N488 G0
      have f505 := Nat.le_trans f489 (Keep.of_wr W504).1
      have f506 := Exa.wr W504 f490
      have f507 := own_Ia_other W504 f491 n1
      have f508 := Fld.other W504 f492 (Or.inr (slot_ne (Or.inl (hw _ (List.mem_of_getElem? (i := 22) rfl))) (Or.inl (hw _ (List.mem_of_getElem? (i := 34) rfl))) (by decide) (t := (.array .char)) (t' := .int) (by decide) (by decide)))
      have f509 := Fld.other W504 f493 (Or.inr (slot_ne (Or.inl (hw _ (List.mem_of_getElem? (i := 24) rfl))) (Or.inl (hw _ (List.mem_of_getElem? (i := 34) rfl))) (by decide) (t := .int) (t' := .int) (by decide) (by decide)))
      have f510 := Fld.other W504 f494 (Or.inr (slot_ne (Or.inl (hw _ (List.mem_of_getElem? (i := 26) rfl))) (Or.inl (hw _ (List.mem_of_getElem? (i := 34) rfl))) (by decide) (t := .int) (t' := .int) (by decide) (by decide)))
      have f511 := Fld.other W504 f495 (Or.inr (slot_ne (Or.inl (hw _ (List.mem_of_getElem? (i := 28) rfl))) (Or.inl (hw _ (List.mem_of_getElem? (i := 34) rfl))) (by decide) (t := .boolean) (t' := .int) (by decide) (by decide)))
      have f512 := Fld.other W504 f496 (Or.inr (slot_ne (Or.inl (hw _ (List.mem_of_getElem? (i := 30) rfl))) (Or.inl (hw _ (List.mem_of_getElem? (i := 34) rfl))) (by decide) (t := .int) (t' := .int) (by decide) (by decide)))
      have f513 := Fld.other W504 f497 (Or.inr (slot_ne (Or.inl (hw _ (List.mem_of_getElem? (i := 32) rfl))) (Or.inl (hw _ (List.mem_of_getElem? (i := 34) rfl))) (by decide) (t := .int) (t' := .int) (by decide) (by decide)))
      have f514 := Fld.same W504 f498
      have f515 := Fld.other W504 f499 (Or.inr (slot_ne (Or.inl (hw _ (List.mem_of_getElem? (i := 36) rfl))) (Or.inl (hw _ (List.mem_of_getElem? (i := 34) rfl))) (by decide) (t := .int) (t' := .int) (by decide) (by decide)))
      have f516 := Fld.other W504 f500 (Or.inr (slot_ne (Or.inl (hw _ (List.mem_of_getElem? (i := 42) rfl))) (Or.inl (hw _ (List.mem_of_getElem? (i := 34) rfl))) (by decide) (t := .int) (t' := .int) (by decide) (by decide)))
      have f517 := Fld.other W504 f501 (Or.inr (slot_ne (Or.inl (hw _ (List.mem_of_getElem? (i := 48) rfl))) (Or.inl (hw _ (List.mem_of_getElem? (i := 34) rfl))) (by decide) (t := .int) (t' := .int) (by decide) (by decide)))
      have f518 := Fld.other W504 f502 (Or.inr (slot_ne (Or.inl (hw _ (List.mem_of_getElem? (i := 50) rfl))) (Or.inl (hw _ (List.mem_of_getElem? (i := 34) rfl))) (by decide) (t := .boolean) (t' := .int) (by decide) (by decide)))
      have f519 := Keep.wr f503 W504 (Or.inl (List.mem_of_getElem? (i := 0) rfl))
      exact l69 _ (0 : Int32) off off (-1 : Int32) u_first u_last u_exponentAt u_negativeExponent T504 h504 _ X504 e504 N504 f505 f519 f506 f507 f508 f509 f510 f511 f512 f513 f514 f515 f516 f517 f518 ho ⟨Int.le_refl _, by omega⟩ (Int.le_refl _) (fun q => absurd q (by decide)) (own_J0 f off) rfl
  · skip
    refine own_by (T' := T370) (g' := (mkF m 34 #[.val (.ref a), .val (.ref tx), .val (.int off), .val (.int ln), .unset] [(.ref a)])) (fun t_ k_ => XS.ifYes X370.here hx rfl (pc0 := 19) (pc' := 34) rfl (hb hby own_d_read_19) rfl ((if0 _ _).trans (flt (c19_386 : ¬ ((0 : Int32) < ln))).2.2.2) (by decide) (by decide) k_) ?_
    refine own_by (T' := T370) (g' := (mkF m 35 #[.val (.ref a), .val (.ref tx), .val (.int off), .val (.int ln), .unset] [(.int (0 : Int32)), (.ref a)])) (fun t_ k_ => XS.iconst X370.here hx rfl (hb hby own_d_read_34) k_) ?_
    obtain ⟨T520, h520, X520, e520, W520, st520⟩ := putF X370 hx hZ hown (host := "") (Or.inl (hw _ (List.mem_of_getElem? (i := 27) rfl))) Via.refl e370 f377 f372 (Or.inl (hw _ (List.mem_of_getElem? (i := 28) rfl))) (hw _ (List.mem_of_getElem? (i := 8) rfl)) (ty := .boolean) (by decide) rfl rfl (g := (mkF m 35 #[.val (.ref a), .val (.ref tx), .val (.int off), .val (.int ln), .unset] [(.int (0 : Int32)), (.ref a)])) rfl rfl (hb hby own_d_read_35)
    refine own_by (T' := T520) (g' := (mkF m 38 #[.val (.ref a), .val (.ref tx), .val (.int off), .val (.int ln), .unset] [])) st520 ?_
    have N520 := Fr.snoc X520 N370 G0
    have f521 := Nat.le_trans f371 (Keep.of_wr W520).1
    have f522 := Exa.wr W520 f372
    have f523 := own_Ia_other W520 f373 n1
    have f524 := Fld.other W520 f374 (Or.inr (slot_ne (Or.inl (hw _ (List.mem_of_getElem? (i := 22) rfl))) (Or.inl (hw _ (List.mem_of_getElem? (i := 28) rfl))) (by decide) (t := (.array .char)) (t' := .boolean) (by decide) (by decide)))
    have f525 := Fld.other W520 f375 (Or.inr (slot_ne (Or.inl (hw _ (List.mem_of_getElem? (i := 24) rfl))) (Or.inl (hw _ (List.mem_of_getElem? (i := 28) rfl))) (by decide) (t := .int) (t' := .boolean) (by decide) (by decide)))
    have f526 := Fld.other W520 f376 (Or.inr (slot_ne (Or.inl (hw _ (List.mem_of_getElem? (i := 26) rfl))) (Or.inl (hw _ (List.mem_of_getElem? (i := 28) rfl))) (by decide) (t := .int) (t' := .boolean) (by decide) (by decide)))
    have f527 := Fld.same W520 f377
    have f528 := Fld.other W520 f378 (Or.inr (slot_ne (Or.inl (hw _ (List.mem_of_getElem? (i := 30) rfl))) (Or.inl (hw _ (List.mem_of_getElem? (i := 28) rfl))) (by decide) (t := .int) (t' := .boolean) (by decide) (by decide)))
    have f529 := Fld.other W520 f379 (Or.inr (slot_ne (Or.inl (hw _ (List.mem_of_getElem? (i := 32) rfl))) (Or.inl (hw _ (List.mem_of_getElem? (i := 28) rfl))) (by decide) (t := .int) (t' := .boolean) (by decide) (by decide)))
    have f530 := Fld.other W520 f380 (Or.inr (slot_ne (Or.inl (hw _ (List.mem_of_getElem? (i := 34) rfl))) (Or.inl (hw _ (List.mem_of_getElem? (i := 28) rfl))) (by decide) (t := .int) (t' := .boolean) (by decide) (by decide)))
    have f531 := Fld.other W520 f381 (Or.inr (slot_ne (Or.inl (hw _ (List.mem_of_getElem? (i := 36) rfl))) (Or.inl (hw _ (List.mem_of_getElem? (i := 28) rfl))) (by decide) (t := .int) (t' := .boolean) (by decide) (by decide)))
    have f532 := Fld.other W520 f382 (Or.inr (slot_ne (Or.inl (hw _ (List.mem_of_getElem? (i := 42) rfl))) (Or.inl (hw _ (List.mem_of_getElem? (i := 28) rfl))) (by decide) (t := .int) (t' := .boolean) (by decide) (by decide)))
    have f533 := Fld.other W520 f383 (Or.inr (slot_ne (Or.inl (hw _ (List.mem_of_getElem? (i := 48) rfl))) (Or.inl (hw _ (List.mem_of_getElem? (i := 28) rfl))) (by decide) (t := .int) (t' := .boolean) (by decide) (by decide)))
    have f534 := Fld.other W520 f384 (Or.inr (slot_ne (Or.inl (hw _ (List.mem_of_getElem? (i := 50) rfl))) (Or.inl (hw _ (List.mem_of_getElem? (i := 28) rfl))) (by decide) (t := .boolean) (t' := .boolean) (by decide) (by decide)))
    have f535 := Keep.wr f385 W520 (Or.inl (List.mem_of_getElem? (i := 0) rfl))
    refine own_by (T' := T520) (g' := (mkF m 39 #[.val (.ref a), .val (.ref tx), .val (.int off), .val (.int ln), .unset] [(.ref a)])) (fun t_ k_ => XS.aloadN X520.here hx rfl (hb hby own_d_read_38) rfl rfl k_) ?_
    refine own_by (T' := T520) (g' := (mkF m 40 #[.val (.ref a), .val (.ref tx), .val (.int off), .val (.int ln), .unset] [(.ref a), (.ref a)])) (fun t_ k_ => XS.aloadN X520.here hx rfl (hb hby own_d_read_39) rfl rfl k_) ?_
    obtain ⟨T536, X536, e536, st536⟩ := getF X520 hx hZ hown (host := "") (Or.inl (hw _ (List.mem_of_getElem? (i := 27) rfl))) Via.refl e520 f527 (g := (mkF m 40 #[.val (.ref a), .val (.ref tx), .val (.int off), .val (.int ln), .unset] [(.ref a), (.ref a)])) rfl rfl (hb hby own_d_read_40)
    refine own_by (T' := T536) (g' := (mkF m 43 #[.val (.ref a), .val (.ref tx), .val (.int off), .val (.int ln), .unset] [(.int (0 : Int32)), (.ref a)])) st536 ?_
    refine own_by (T' := T536) (g' := (mkF m 52 #[.val (.ref a), .val (.ref tx), .val (.int off), .val (.int ln), .unset] [(.ref a)])) (fun t_ k_ => XS.ifYes X536.here hx rfl (pc0 := 43) (pc' := 52) rfl (hb hby own_d_read_43) rfl ((if0 _ _).trans (teq ((by decide) : (0 : Int32) = (0 : Int32))).1) (by decide) (by decide) k_) ?_
    refine own_by (T' := T536) (g' := (mkF m 53 #[.val (.ref a), .val (.ref tx), .val (.int off), .val (.int ln), .unset] [(.int off), (.ref a)])) (fun t_ k_ => XS.iloadN X536.here hx rfl (hb hby own_d_read_52) rfl k_) ?_
    obtain ⟨T537, h537, X537, e537, W537, st537⟩ := putF X536 hx hZ hown (host := "") (Or.inl (hw _ (List.mem_of_getElem? (i := 29) rfl))) Via.refl e536 f528 f522 (Or.inl (hw _ (List.mem_of_getElem? (i := 30) rfl))) (hw _ (List.mem_of_getElem? (i := 8) rfl)) (ty := .int) (by decide) rfl rfl (g := (mkF m 53 #[.val (.ref a), .val (.ref tx), .val (.int off), .val (.int ln), .unset] [(.int off), (.ref a)])) rfl rfl (hb hby own_d_read_53)
    refine own_by (T' := T537) (g' := (mkF m 56 #[.val (.ref a), .val (.ref tx), .val (.int off), .val (.int ln), .unset] [])) st537 ?_
    have N537 := Fr.snoc X537 N520 G0
    have f538 := Nat.le_trans f521 (Keep.of_wr W537).1
    have f539 := Exa.wr W537 f522
    have f540 := own_Ia_other W537 f523 n1
    have f541 := Fld.other W537 f524 (Or.inr (slot_ne (Or.inl (hw _ (List.mem_of_getElem? (i := 22) rfl))) (Or.inl (hw _ (List.mem_of_getElem? (i := 30) rfl))) (by decide) (t := (.array .char)) (t' := .int) (by decide) (by decide)))
    have f542 := Fld.other W537 f525 (Or.inr (slot_ne (Or.inl (hw _ (List.mem_of_getElem? (i := 24) rfl))) (Or.inl (hw _ (List.mem_of_getElem? (i := 30) rfl))) (by decide) (t := .int) (t' := .int) (by decide) (by decide)))
    have f543 := Fld.other W537 f526 (Or.inr (slot_ne (Or.inl (hw _ (List.mem_of_getElem? (i := 26) rfl))) (Or.inl (hw _ (List.mem_of_getElem? (i := 30) rfl))) (by decide) (t := .int) (t' := .int) (by decide) (by decide)))
    have f544 := Fld.other W537 f527 (Or.inr (slot_ne (Or.inl (hw _ (List.mem_of_getElem? (i := 28) rfl))) (Or.inl (hw _ (List.mem_of_getElem? (i := 30) rfl))) (by decide) (t := .boolean) (t' := .int) (by decide) (by decide)))
    have f545 := Fld.same W537 f528
    have f546 := Fld.other W537 f529 (Or.inr (slot_ne (Or.inl (hw _ (List.mem_of_getElem? (i := 32) rfl))) (Or.inl (hw _ (List.mem_of_getElem? (i := 30) rfl))) (by decide) (t := .int) (t' := .int) (by decide) (by decide)))
    have f547 := Fld.other W537 f530 (Or.inr (slot_ne (Or.inl (hw _ (List.mem_of_getElem? (i := 34) rfl))) (Or.inl (hw _ (List.mem_of_getElem? (i := 30) rfl))) (by decide) (t := .int) (t' := .int) (by decide) (by decide)))
    have f548 := Fld.other W537 f531 (Or.inr (slot_ne (Or.inl (hw _ (List.mem_of_getElem? (i := 36) rfl))) (Or.inl (hw _ (List.mem_of_getElem? (i := 30) rfl))) (by decide) (t := .int) (t' := .int) (by decide) (by decide)))
    have f549 := Fld.other W537 f532 (Or.inr (slot_ne (Or.inl (hw _ (List.mem_of_getElem? (i := 42) rfl))) (Or.inl (hw _ (List.mem_of_getElem? (i := 30) rfl))) (by decide) (t := .int) (t' := .int) (by decide) (by decide)))
    have f550 := Fld.other W537 f533 (Or.inr (slot_ne (Or.inl (hw _ (List.mem_of_getElem? (i := 48) rfl))) (Or.inl (hw _ (List.mem_of_getElem? (i := 30) rfl))) (by decide) (t := .int) (t' := .int) (by decide) (by decide)))
    have f551 := Fld.other W537 f534 (Or.inr (slot_ne (Or.inl (hw _ (List.mem_of_getElem? (i := 50) rfl))) (Or.inl (hw _ (List.mem_of_getElem? (i := 30) rfl))) (by decide) (t := .boolean) (t' := .int) (by decide) (by decide)))
    have f552 := Keep.wr f535 W537 (Or.inl (List.mem_of_getElem? (i := 0) rfl))
    refine own_by (T' := T537) (g' := (mkF m 57 #[.val (.ref a), .val (.ref tx), .val (.int off), .val (.int ln), .unset] [(.ref a)])) (fun t_ k_ => XS.aloadN X537.here hx rfl (hb hby own_d_read_56) rfl rfl k_) ?_
    refine own_by (T' := T537) (g' := (mkF m 58 #[.val (.ref a), .val (.ref tx), .val (.int off), .val (.int ln), .unset] [(.ref a), (.ref a)])) (fun t_ k_ => XS.aloadN X537.here hx rfl (hb hby own_d_read_57) rfl rfl k_) ?_
    obtain ⟨T553, X553, e553, st553⟩ := getF X537 hx hZ hown (host := "") (Or.inl (hw _ (List.mem_of_getElem? (i := 29) rfl))) Via.refl e537 f545 (g := (mkF m 58 #[.val (.ref a), .val (.ref tx), .val (.int off), .val (.int ln), .unset] [(.ref a), (.ref a)])) rfl rfl (hb hby own_d_read_58)
    refine own_by (T' := T553) (g' := (mkF m 61 #[.val (.ref a), .val (.ref tx), .val (.int off), .val (.int ln), .unset] [(.int off), (.ref a)])) st553 ?_
    obtain ⟨T554, h554, X554, e554, W554, st554⟩ := putF X553 hx hZ hown (host := "") (Or.inl (hw _ (List.mem_of_getElem? (i := 31) rfl))) Via.refl e553 f546 f539 (Or.inl (hw _ (List.mem_of_getElem? (i := 32) rfl))) (hw _ (List.mem_of_getElem? (i := 8) rfl)) (ty := .int) (by decide) rfl rfl (g := (mkF m 61 #[.val (.ref a), .val (.ref tx), .val (.int off), .val (.int ln), .unset] [(.int off), (.ref a)])) rfl rfl (hb hby own_d_read_61)
    refine own_by (T' := T554) (g' := (mkF m 64 #[.val (.ref a), .val (.ref tx), .val (.int off), .val (.int ln), .unset] [])) st554 ?_
    have N554 := Fr.snoc X554 N537 G0
    have f555 := Nat.le_trans f538 (Keep.of_wr W554).1
    have f556 := Exa.wr W554 f539
    have f557 := own_Ia_other W554 f540 n1
    have f558 := Fld.other W554 f541 (Or.inr (slot_ne (Or.inl (hw _ (List.mem_of_getElem? (i := 22) rfl))) (Or.inl (hw _ (List.mem_of_getElem? (i := 32) rfl))) (by decide) (t := (.array .char)) (t' := .int) (by decide) (by decide)))
    have f559 := Fld.other W554 f542 (Or.inr (slot_ne (Or.inl (hw _ (List.mem_of_getElem? (i := 24) rfl))) (Or.inl (hw _ (List.mem_of_getElem? (i := 32) rfl))) (by decide) (t := .int) (t' := .int) (by decide) (by decide)))
    have f560 := Fld.other W554 f543 (Or.inr (slot_ne (Or.inl (hw _ (List.mem_of_getElem? (i := 26) rfl))) (Or.inl (hw _ (List.mem_of_getElem? (i := 32) rfl))) (by decide) (t := .int) (t' := .int) (by decide) (by decide)))
    have f561 := Fld.other W554 f544 (Or.inr (slot_ne (Or.inl (hw _ (List.mem_of_getElem? (i := 28) rfl))) (Or.inl (hw _ (List.mem_of_getElem? (i := 32) rfl))) (by decide) (t := .boolean) (t' := .int) (by decide) (by decide)))
    have f562 := Fld.other W554 f545 (Or.inr (slot_ne (Or.inl (hw _ (List.mem_of_getElem? (i := 30) rfl))) (Or.inl (hw _ (List.mem_of_getElem? (i := 32) rfl))) (by decide) (t := .int) (t' := .int) (by decide) (by decide)))
    have f563 := Fld.same W554 f546
    have f564 := Fld.other W554 f547 (Or.inr (slot_ne (Or.inl (hw _ (List.mem_of_getElem? (i := 34) rfl))) (Or.inl (hw _ (List.mem_of_getElem? (i := 32) rfl))) (by decide) (t := .int) (t' := .int) (by decide) (by decide)))
    have f565 := Fld.other W554 f548 (Or.inr (slot_ne (Or.inl (hw _ (List.mem_of_getElem? (i := 36) rfl))) (Or.inl (hw _ (List.mem_of_getElem? (i := 32) rfl))) (by decide) (t := .int) (t' := .int) (by decide) (by decide)))
    have f566 := Fld.other W554 f549 (Or.inr (slot_ne (Or.inl (hw _ (List.mem_of_getElem? (i := 42) rfl))) (Or.inl (hw _ (List.mem_of_getElem? (i := 32) rfl))) (by decide) (t := .int) (t' := .int) (by decide) (by decide)))
    have f567 := Fld.other W554 f550 (Or.inr (slot_ne (Or.inl (hw _ (List.mem_of_getElem? (i := 48) rfl))) (Or.inl (hw _ (List.mem_of_getElem? (i := 32) rfl))) (by decide) (t := .int) (t' := .int) (by decide) (by decide)))
    have f568 := Fld.other W554 f551 (Or.inr (slot_ne (Or.inl (hw _ (List.mem_of_getElem? (i := 50) rfl))) (Or.inl (hw _ (List.mem_of_getElem? (i := 32) rfl))) (by decide) (t := .boolean) (t' := .int) (by decide) (by decide)))
    have f569 := Keep.wr f552 W554 (Or.inl (List.mem_of_getElem? (i := 0) rfl))
    refine own_by (T' := T554) (g' := (mkF m 65 #[.val (.ref a), .val (.ref tx), .val (.int off), .val (.int ln), .unset] [(.ref a)])) (fun t_ k_ => XS.aloadN X554.here hx rfl (hb hby own_d_read_64) rfl rfl k_) ?_
    refine own_by (T' := T554) (g' := (mkF m 66 #[.val (.ref a), .val (.ref tx), .val (.int off), .val (.int ln), .unset] [(.int (-1 : Int32)), (.ref a)])) (fun t_ k_ => XS.iconst X554.here hx rfl (hb hby own_d_read_65) k_) ?_
    obtain ⟨T570, h570, X570, e570, W570, st570⟩ := putF X554 hx hZ hown (host := "") (Or.inl (hw _ (List.mem_of_getElem? (i := 33) rfl))) Via.refl e554 f564 f556 (Or.inl (hw _ (List.mem_of_getElem? (i := 34) rfl))) (hw _ (List.mem_of_getElem? (i := 8) rfl)) (ty := .int) (by decide) rfl rfl (g := (mkF m 66 #[.val (.ref a), .val (.ref tx), .val (.int off), .val (.int ln), .unset] [(.int (-1 : Int32)), (.ref a)])) rfl rfl (hb hby own_d_read_66)
    refine own_by (T' := T570) (g' := (mkF m 69 #[.val (.ref a), .val (.ref tx), .val (.int off), .val (.int ln), .unset] [])) st570 ?_
    have N570 := Fr.snoc X570 N554 G0
    have f571 := Nat.le_trans f555 (Keep.of_wr W570).1
    have f572 := Exa.wr W570 f556
    have f573 := own_Ia_other W570 f557 n1
    have f574 := Fld.other W570 f558 (Or.inr (slot_ne (Or.inl (hw _ (List.mem_of_getElem? (i := 22) rfl))) (Or.inl (hw _ (List.mem_of_getElem? (i := 34) rfl))) (by decide) (t := (.array .char)) (t' := .int) (by decide) (by decide)))
    have f575 := Fld.other W570 f559 (Or.inr (slot_ne (Or.inl (hw _ (List.mem_of_getElem? (i := 24) rfl))) (Or.inl (hw _ (List.mem_of_getElem? (i := 34) rfl))) (by decide) (t := .int) (t' := .int) (by decide) (by decide)))
    have f576 := Fld.other W570 f560 (Or.inr (slot_ne (Or.inl (hw _ (List.mem_of_getElem? (i := 26) rfl))) (Or.inl (hw _ (List.mem_of_getElem? (i := 34) rfl))) (by decide) (t := .int) (t' := .int) (by decide) (by decide)))
    have f577 := Fld.other W570 f561 (Or.inr (slot_ne (Or.inl (hw _ (List.mem_of_getElem? (i := 28) rfl))) (Or.inl (hw _ (List.mem_of_getElem? (i := 34) rfl))) (by decide) (t := .boolean) (t' := .int) (by decide) (by decide)))
    have f578 := Fld.other W570 f562 (Or.inr (slot_ne (Or.inl (hw _ (List.mem_of_getElem? (i := 30) rfl))) (Or.inl (hw _ (List.mem_of_getElem? (i := 34) rfl))) (by decide) (t := .int) (t' := .int) (by decide) (by decide)))
    have f579 := Fld.other W570 f563 (Or.inr (slot_ne (Or.inl (hw _ (List.mem_of_getElem? (i := 32) rfl))) (Or.inl (hw _ (List.mem_of_getElem? (i := 34) rfl))) (by decide) (t := .int) (t' := .int) (by decide) (by decide)))
    have f580 := Fld.same W570 f564
    have f581 := Fld.other W570 f565 (Or.inr (slot_ne (Or.inl (hw _ (List.mem_of_getElem? (i := 36) rfl))) (Or.inl (hw _ (List.mem_of_getElem? (i := 34) rfl))) (by decide) (t := .int) (t' := .int) (by decide) (by decide)))
    have f582 := Fld.other W570 f566 (Or.inr (slot_ne (Or.inl (hw _ (List.mem_of_getElem? (i := 42) rfl))) (Or.inl (hw _ (List.mem_of_getElem? (i := 34) rfl))) (by decide) (t := .int) (t' := .int) (by decide) (by decide)))
    have f583 := Fld.other W570 f567 (Or.inr (slot_ne (Or.inl (hw _ (List.mem_of_getElem? (i := 48) rfl))) (Or.inl (hw _ (List.mem_of_getElem? (i := 34) rfl))) (by decide) (t := .int) (t' := .int) (by decide) (by decide)))
    have f584 := Fld.other W570 f568 (Or.inr (slot_ne (Or.inl (hw _ (List.mem_of_getElem? (i := 50) rfl))) (Or.inl (hw _ (List.mem_of_getElem? (i := 34) rfl))) (by decide) (t := .boolean) (t' := .int) (by decide) (by decide)))
    have f585 := Keep.wr f569 W570 (Or.inl (List.mem_of_getElem? (i := 0) rfl))
    exact l69 _ (0 : Int32) off off (-1 : Int32) u_first u_last u_exponentAt u_negativeExponent T570 h570 _ X570 e570 N570 f571 f585 f572 f573 f574 f575 f576 f577 f578 f579 f580 f581 f582 f583 f584 ho ⟨Int.le_refl _, by omega⟩ (Int.le_refl _) (fun q => absurd q (by decide)) (own_J0 f off) rfl
theorem own_d_cfs_0 : decode jdk_41_method_13_code 0 = .ok (.iload_n 2, 1) := by decide +kernel
theorem own_d_cfs_1 : decode jdk_41_method_13_code 1 = .ok (.iload_n 0, 1) := by decide +kernel
theorem own_d_cfs_2 : decode jdk_41_method_13_code 2 = .ok (.ior, 1) := by decide +kernel
theorem own_d_cfs_3 : decode jdk_41_method_13_code 3 = .ok (.iload_n 1, 1) := by decide +kernel
theorem own_d_cfs_4 : decode jdk_41_method_13_code 4 = .ok (.ior, 1) := by decide +kernel
theorem own_d_cfs_5 : decode jdk_41_method_13_code 5 = .ok (.ifCond .lt 10, 3) := by decide +kernel
theorem own_d_cfs_8 : decode jdk_41_method_13_code 8 = .ok (.iload_n 1, 1) := by decide +kernel
theorem own_d_cfs_9 : decode jdk_41_method_13_code 9 = .ok (.iload_n 2, 1) := by decide +kernel
theorem own_d_cfs_10 : decode jdk_41_method_13_code 10 = .ok (.iload_n 0, 1) := by decide +kernel
theorem own_d_cfs_11 : decode jdk_41_method_13_code 11 = .ok (.isub, 1) := by decide +kernel
theorem own_d_cfs_12 : decode jdk_41_method_13_code 12 = .ok (.if_icmp .le 11, 3) := by decide +kernel
theorem own_d_cfs_23 : decode jdk_41_method_13_code 23 = .ok (.iload_n 0, 1) := by decide +kernel
theorem own_d_cfs_24 : decode jdk_41_method_13_code 24 = .ok (.ireturn, 1) := by decide +kernel
theorem own_pn_jdk_internal_util_Preconditions : plainName "jdk/internal/util/Preconditions" = true := by first | (simp [plainName, overriddenIn]; done) | decide +kernel
theorem own_ef_cfs (m : MethodId) (off : Int32) (ln : Int32) (len : Int32) (fm : Value) (hfm : fm.isRef = true) : entryFrame m #[(.int off), (.int ln), (.int len), fm] 4 = mkF m 0 #[.val (.int off), .val (.int ln), .val (.int len), .val fm] [] := by
  rcases ref_cases hfm with rfl | ⟨a_, rfl⟩ <;> first | (simp [entryFrame, mkF, argsToLocals, Value.category]; done) | rfl
def own_Q_cfs (Z : State) (off : Int32) (ln : Int32) (len : Int32) (fm : Value) (h0 : Heap) (n0 : Nat) (v : Option Value) (h : Heap) (L : List Loc) : Prop := v = some (.int off) ∧ Fr n0 L ∧ h = h0
set_option maxRecDepth 65536 in
set_option maxHeartbeats 40000000 in
theorem own_rm_cfs (l : Launch) (Z : State) (a0 : Array Value) (hw : ∀ d ∈ tables_1, d.before a0 Z = true) (ws : List Jvm.Cond) (off : Int32) (ln : Int32) (len : Int32) (fm : Value) (h0 : Heap) (n0 : Nat) (Z0 : n0 ≤ h0.size) (hfm : fm.isRef = true) (h1 : 0 ≤ off.toInt ∧ 0 ≤ ln.toInt ∧ 0 ≤ len.toInt ∧ off.toInt + ln.toInt ≤ len.toInt) :
    MetFree l (⟨"jdk/internal/util/Preconditions", "checkFromIndexSize", "(IIILjava/util/function/BiFunction;)I"⟩ : MethodName) (head1 (Jvm.Cond.code (⟨"jdk/internal/util/Preconditions", "checkFromIndexSize", "(IIILjava/util/function/BiFunction;)I"⟩ : MethodName) jdk_41_method_13_code 4 (some .int) :: ws) ({ frames := 0, cells := 0, slots := 0, locals := 0 } : Room)) (fun a_ U_ => a_ = #[(.int off), (.int ln), (.int len), fm] ∧ Z.Warmed39 U_.vm ∧ U_.heap = h0) (fun _ _ _ _ _ => True) (fun _ U_ o_ U'_ => ∃ v_ L_, o_ = .returned v_ ∧ own_Q_cfs Z off ln len fm h0 n0 v_ U'_.heap L_ ∧ FrameEnd U_ o_ U'_ L_ ({ frames := 0, cells := 0, slots := 0, locals := 0 } : Room).cells ({ frames := 0, cells := 0, slots := 0, locals := 0 } : Room).slots) := by
  refine MetFree.of_bodySF (plainFor_of_name own_pn_jdk_internal_util_Preconditions) hisR ?_
  intro p e s m args below meth c s₁ Bd hml0 hP hK
  obtain ⟨rfl, hZ, hh⟩ := hP
  have hx := Bd.exec
  have hby := Bd.bytes
  have hlk : meth.locks = false := BodyLoose.notSynchronized Bd
  have hml : c.maxLocals = 4 := hml0
  have hown : s.vm.findClass "jdk/internal/util/Preconditions" = some m.cls := findClass_of_methodNamed Bd.named
  have hnm := (name_of_methodNamed Bd.named Bd.method).1
  have X0 : Stand p l e ({ frames := 0, cells := 0, slots := 0, locals := 0 } : Room) s m #[(.int off), (.int ln), (.int len), fm] below meth c s₁ [] 0 0 := Stand.of_body Bd
  have e0 : s₁.heap = h0 := by rw [← hh, Bd.state]; rfl
  have N0 := Fr.nil n0
  show own_Goes p e below (own_K (own_Q_cfs Z off ln len fm h0 n0) s ({ frames := 0, cells := 0, slots := 0, locals := 0 } : Room).cells ({ frames := 0, cells := 0, slots := 0, locals := 0 } : Room).slots) s₁ (entryFrame m #[(.int off), (.int ln), (.int len), fm] 4)
  rw [own_ef_cfs m off ln len fm hfm]
  refine own_by (T' := s₁) (g' := (mkF m 1 #[.val (.int off), .val (.int ln), .val (.int len), .val fm] [(.int len)])) (fun t_ k_ => XS.iloadN X0.here hx rfl (hb hby own_d_cfs_0) rfl k_) ?_
  refine own_by (T' := s₁) (g' := (mkF m 2 #[.val (.int off), .val (.int ln), .val (.int len), .val fm] [(.int off), (.int len)])) (fun t_ k_ => XS.iloadN X0.here hx rfl (hb hby own_d_cfs_1) rfl k_) ?_
  refine own_by (T' := s₁) (g' := (mkF m 3 #[.val (.int off), .val (.int ln), .val (.int len), .val fm] [(.int (len ||| off))])) (fun t_ k_ => XS.ior X0.here hx rfl (hb hby own_d_cfs_2) rfl k_) ?_
  refine own_by (T' := s₁) (g' := (mkF m 4 #[.val (.int off), .val (.int ln), .val (.int len), .val fm] [(.int ln), (.int (len ||| off))])) (fun t_ k_ => XS.iloadN X0.here hx rfl (hb hby own_d_cfs_3) rfl k_) ?_
  refine own_by (T' := s₁) (g' := (mkF m 5 #[.val (.int off), .val (.int ln), .val (.int len), .val fm] [(.int ((len ||| off) ||| ln))])) (fun t_ k_ => XS.ior X0.here hx rfl (hb hby own_d_cfs_4) rfl k_) ?_
  refine own_by (T' := s₁) (g' := (mkF m 8 #[.val (.int off), .val (.int ln), .val (.int len), .val fm] [])) (fun t_ k_ => XS.ifNo X0.here hx rfl (hb hby own_d_cfs_5) rfl ((if0 _ _).trans (flt ((own_cf1 off ln len h1) : ¬ (((len ||| off) ||| ln) < (0 : Int32)))).1) k_) ?_
  refine own_by (T' := s₁) (g' := (mkF m 9 #[.val (.int off), .val (.int ln), .val (.int len), .val fm] [(.int ln)])) (fun t_ k_ => XS.iloadN X0.here hx rfl (hb hby own_d_cfs_8) rfl k_) ?_
  refine own_by (T' := s₁) (g' := (mkF m 10 #[.val (.int off), .val (.int ln), .val (.int len), .val fm] [(.int len), (.int ln)])) (fun t_ k_ => XS.iloadN X0.here hx rfl (hb hby own_d_cfs_9) rfl k_) ?_
  refine own_by (T' := s₁) (g' := (mkF m 11 #[.val (.int off), .val (.int ln), .val (.int len), .val fm] [(.int off), (.int len), (.int ln)])) (fun t_ k_ => XS.iloadN X0.here hx rfl (hb hby own_d_cfs_10) rfl k_) ?_
  refine own_by (T' := s₁) (g' := (mkF m 12 #[.val (.int off), .val (.int ln), .val (.int len), .val fm] [(.int (len - off)), (.int ln)])) (fun t_ k_ => XS.isub X0.here hx rfl (hb hby own_d_cfs_11) rfl k_) ?_
  refine own_by (T' := s₁) (g' := (mkF m 23 #[.val (.int off), .val (.int ln), .val (.int len), .val fm] [])) (fun t_ k_ => XS.icmpYes X0.here hx rfl (pc0 := 12) (pc' := 23) rfl (hb hby own_d_cfs_12) rfl (flt ((own_cf2 off ln len h1) : ¬ ((len - off) < ln))).2.2.2 (by decide) (by decide) k_) ?_
  refine own_by (T' := s₁) (g' := (mkF m 24 #[.val (.int off), .val (.int ln), .val (.int len), .val fm] [(.int off)])) (fun t_ k_ => XS.iloadN X0.here hx rfl (hb hby own_d_cfs_23) rfl k_) ?_
  refine own_retI X0 hx Bd.returns hlk (hb hby own_d_cfs_24) (by decide) (by decide) ?_
  rw [e0]
  exact ⟨rfl, N0, rfl⟩
theorem own_pd2 : parseMethodDescriptor "(IIILjava/util/function/BiFunction;)I" = some ⟨[.int, .int, .int, (.object "java/util/function/BiFunction")], some .int⟩ := by decide +kernel
theorem own_d_cbo_0 : decode jdk_42_method_157_code 0 = .ok (.iload_n 0, 1) := by decide +kernel
theorem own_d_cbo_1 : decode jdk_42_method_157_code 1 = .ok (.iload_n 1, 1) := by decide +kernel
theorem own_d_cbo_2 : decode jdk_42_method_157_code 2 = .ok (.iload_n 2, 1) := by decide +kernel
theorem own_d_cbo_3 : decode jdk_42_method_157_code 3 = .ok (.getstatic 1053, 3) := by decide +kernel
theorem own_d_cbo_6 : decode jdk_42_method_157_code 6 = .ok (.invokestatic 1065, 3) := by decide +kernel
theorem own_d_cbo_9 : decode jdk_42_method_157_code 9 = .ok (.ireturn, 1) := by decide +kernel
theorem own_pn_java_lang_String : plainName "java/lang/String" = true := by first | (simp [plainName, overriddenIn]; done) | decide +kernel
theorem own_ef_cbo (m : MethodId) (off : Int32) (ln : Int32) (len : Int32) : entryFrame m #[(.int off), (.int ln), (.int len)] 3 = mkF m 0 #[.val (.int off), .val (.int ln), .val (.int len)] [] := by first | (simp [entryFrame, mkF, argsToLocals, Value.category]; done) | rfl
def own_Q_cbo (Z : State) (off : Int32) (ln : Int32) (len : Int32) (fm : Value) (h0 : Heap) (n0 : Nat) (v : Option Value) (h : Heap) (L : List Loc) : Prop := v = some (.int off) ∧ Fr n0 L ∧ h = h0
set_option maxRecDepth 65536 in
set_option maxHeartbeats 40000000 in
theorem own_rm_cbo (l : Launch) (Z : State) (a0 : Array Value) (hw : ∀ d ∈ tables_1, d.before a0 Z = true) (ws : List Jvm.Cond) (off : Int32) (ln : Int32) (len : Int32) (fm : Value) (h0 : Heap) (n0 : Nat) (Z0 : n0 ≤ h0.size) (SF : Sta Z h0 "jdk/internal/util/Preconditions" "SIOOBE_FORMATTER" "Ljava/util/function/BiFunction;" fm) (hfm : fm.isRef = true) (h1 : 0 ≤ off.toInt ∧ 0 ≤ ln.toInt ∧ 0 ≤ len.toInt ∧ off.toInt + ln.toInt ≤ len.toInt) :
    MetFree l (⟨"java/lang/String", "checkBoundsOffCount", "(III)I"⟩ : MethodName) (head1 (Jvm.Cond.code (⟨"java/lang/String", "checkBoundsOffCount", "(III)I"⟩ : MethodName) jdk_42_method_157_code 3 (some .int) :: ws) ({ frames := 1, cells := 0, slots := 0, locals := 15 } : Room)) (fun a_ U_ => a_ = #[(.int off), (.int ln), (.int len)] ∧ Z.Warmed39 U_.vm ∧ U_.heap = h0) (fun _ _ _ _ _ => True) (fun _ U_ o_ U'_ => ∃ v_ L_, o_ = .returned v_ ∧ own_Q_cbo Z off ln len fm h0 n0 v_ U'_.heap L_ ∧ FrameEnd U_ o_ U'_ L_ ({ frames := 1, cells := 0, slots := 0, locals := 15 } : Room).cells ({ frames := 1, cells := 0, slots := 0, locals := 15 } : Room).slots) := by
  refine MetFree.of_bodySF (plainFor_of_name own_pn_java_lang_String) hisR ?_
  intro p e s m args below meth c s₁ Bd hml0 hP hK
  obtain ⟨rfl, hZ, hh⟩ := hP
  have hx := Bd.exec
  have hby := Bd.bytes
  have hlk : meth.locks = false := BodyLoose.notSynchronized Bd
  have hml : c.maxLocals = 3 := hml0
  have hown : s.vm.findClass "java/lang/String" = some m.cls := findClass_of_methodNamed Bd.named
  have hnm := (name_of_methodNamed Bd.named Bd.method).1
  have X0 : Stand p l e ({ frames := 1, cells := 0, slots := 0, locals := 15 } : Room) s m #[(.int off), (.int ln), (.int len)] below meth c s₁ [] 0 0 := Stand.of_body Bd
  have e0 : s₁.heap = h0 := by rw [← hh, Bd.state]; rfl
  have N0 := Fr.nil n0
  show own_Goes p e below (own_K (own_Q_cbo Z off ln len fm h0 n0) s ({ frames := 1, cells := 0, slots := 0, locals := 15 } : Room).cells ({ frames := 1, cells := 0, slots := 0, locals := 15 } : Room).slots) s₁ (entryFrame m #[(.int off), (.int ln), (.int len)] 3)
  rw [own_ef_cbo]
  refine own_by (T' := s₁) (g' := (mkF m 1 #[.val (.int off), .val (.int ln), .val (.int len)] [(.int off)])) (fun t_ k_ => XS.iloadN X0.here hx rfl (hb hby own_d_cbo_0) rfl k_) ?_
  refine own_by (T' := s₁) (g' := (mkF m 2 #[.val (.int off), .val (.int ln), .val (.int len)] [(.int ln), (.int off)])) (fun t_ k_ => XS.iloadN X0.here hx rfl (hb hby own_d_cbo_1) rfl k_) ?_
  refine own_by (T' := s₁) (g' := (mkF m 3 #[.val (.int off), .val (.int ln), .val (.int len)] [(.int len), (.int ln), (.int off)])) (fun t_ k_ => XS.iloadN X0.here hx rfl (hb hby own_d_cbo_2) rfl k_) ?_
  obtain ⟨T1, X1, e1, st1⟩ := getS2 X0 hx hZ hown (host := "") (Or.inl (hw _ (List.mem_of_getElem? (i := 68) rfl))) Via.refl e0 SF (g := (mkF m 3 #[.val (.int off), .val (.int ln), .val (.int len)] [(.int len), (.int ln), (.int off)])) rfl (hb hby own_d_cbo_3)
  refine own_by (T' := T1) (g' := (mkF m 6 #[.val (.int off), .val (.int ln), .val (.int len)] [fm, (.int len), (.int ln), (.int off)])) st1 ?_
  obtain ⟨_, T2, L2, X2, hQ2, st2⟩ := own_callS X1 hx hZ (y := (⟨"jdk/internal/util/Preconditions", "checkFromIndexSize", "(IIILjava/util/function/BiFunction;)I"⟩ : MethodName)) hown (hw _ (List.mem_of_getElem? (i := 70) rfl)) (hw _ (List.mem_of_getElem? (i := 71) rfl)) (hw _ (List.mem_of_getElem? (i := 69) rfl)) (hw _ (List.mem_of_getElem? (i := 72) rfl)) (by decide) (argsL := [(.int off), (.int ln), (.int len), fm]) (rest := []) (own_rm_cfs l Z a0 hw [] off ln len fm h0 n0 Z0 hfm h1) e1 (W := 0) (by decide) (by decide) (by decide) (by decide) (g := (mkF m 6 #[.val (.int off), .val (.int ln), .val (.int len)] [fm, (.int len), (.int ln), (.int off)])) rfl (by rw [hml]; rfl) (lenOf own_pd2 rfl) rfl (by show 2 * 0 + _ ≤ _; exact Nat.le_of_eq rfl) (hb hby own_d_cbo_6)
  obtain ⟨rfl, Nq2, e2⟩ := hQ2
  have N2 := Fr.app N0 Nq2
  refine st2 _ ?_
  show own_Goes p e below _ T2 (mkF m 9 #[.val (.int off), .val (.int ln), .val (.int len)] [(.int off)])
  refine own_retI X2 hx Bd.returns hlk (hb hby own_d_cbo_9) (by decide) (by decide) ?_
  rw [e2]
  exact ⟨rfl, N2, rfl⟩
theorem own_pd3 : parseMethodDescriptor "(III)I" = some ⟨[.int, .int, .int], some .int⟩ := by decide +kernel
theorem own_d_rck_0 : decode jdk_42_method_5_code 0 = .ok (.iload_n 1, 1) := by decide +kernel
theorem own_d_rck_1 : decode jdk_42_method_5_code 1 = .ok (.iload_n 2, 1) := by decide +kernel
theorem own_d_rck_2 : decode jdk_42_method_5_code 2 = .ok (.aload_n 0, 1) := by decide +kernel
theorem own_d_rck_3 : decode jdk_42_method_5_code 3 = .ok (.arraylength, 1) := by decide +kernel
theorem own_d_rck_4 : decode jdk_42_method_5_code 4 = .ok (.invokestatic 34, 3) := by decide +kernel
theorem own_d_rck_7 : decode jdk_42_method_5_code 7 = .ok (.pop, 1) := by decide +kernel
theorem own_d_rck_8 : decode jdk_42_method_5_code 8 = .ok (.aconst_null, 1) := by decide +kernel
theorem own_d_rck_9 : decode jdk_42_method_5_code 9 = .ok (.areturn, 1) := by decide +kernel
theorem own_ef_rck (m : MethodId) (ar : Addr) (off : Int32) (ln : Int32) : entryFrame m #[(.ref ar), (.int off), (.int ln)] 3 = mkF m 0 #[.val (.ref ar), .val (.int off), .val (.int ln)] [] := by first | (simp [entryFrame, mkF, argsToLocals, Value.category]; done) | rfl
def own_Q_rck (Z : State) (ar : Addr) (off : Int32) (ln : Int32) (fm : Value) (f : Nat → Int32) (h0 : Heap) (n0 : Nat) (v : Option Value) (h : Heap) (L : List Loc) : Prop := v = some .null ∧ Fr n0 L ∧ h = h0
set_option maxRecDepth 65536 in
set_option maxHeartbeats 40000000 in
theorem own_rm_rck (l : Launch) (Z : State) (a0 : Array Value) (hw : ∀ d ∈ tables_1, d.before a0 Z = true) (ws : List Jvm.Cond) (ar : Addr) (off : Int32) (ln : Int32) (fm : Value) (f : Nat → Int32) (h0 : Heap) (n0 : Nat) (Z0 : n0 ≤ h0.size) (V0 : own_Ia Z h0 ar .char 6 f) (SF : Sta Z h0 "jdk/internal/util/Preconditions" "SIOOBE_FORMATTER" "Ljava/util/function/BiFunction;" fm) (hfm : fm.isRef = true) (h1 : 0 ≤ off.toInt ∧ 0 ≤ ln.toInt ∧ 0 ≤ (6 : Int32).toInt ∧ off.toInt + ln.toInt ≤ (6 : Int32).toInt) :
    MetFree l (⟨"java/lang/String", "rangeCheck", "([CII)Ljava/lang/Void;"⟩ : MethodName) (head1 (Jvm.Cond.code (⟨"java/lang/String", "rangeCheck", "([CII)Ljava/lang/Void;"⟩ : MethodName) jdk_42_method_5_code 3 (some (.object "java/lang/Void")) :: ws) ({ frames := 2, cells := 0, slots := 0, locals := 29 } : Room)) (fun a_ U_ => a_ = #[(.ref ar), (.int off), (.int ln)] ∧ Z.Warmed39 U_.vm ∧ U_.heap = h0) (fun _ _ _ _ _ => True) (fun _ U_ o_ U'_ => ∃ v_ L_, o_ = .returned v_ ∧ own_Q_rck Z ar off ln fm f h0 n0 v_ U'_.heap L_ ∧ FrameEnd U_ o_ U'_ L_ ({ frames := 2, cells := 0, slots := 0, locals := 29 } : Room).cells ({ frames := 2, cells := 0, slots := 0, locals := 29 } : Room).slots) := by
  refine MetFree.of_bodySF (plainFor_of_name own_pn_java_lang_String) hisR ?_
  intro p e s m args below meth c s₁ Bd hml0 hP hK
  obtain ⟨rfl, hZ, hh⟩ := hP
  have hx := Bd.exec
  have hby := Bd.bytes
  have hlk : meth.locks = false := BodyLoose.notSynchronized Bd
  have hml : c.maxLocals = 3 := hml0
  have hown : s.vm.findClass "java/lang/String" = some m.cls := findClass_of_methodNamed Bd.named
  have hnm := (name_of_methodNamed Bd.named Bd.method).1
  have X0 : Stand p l e ({ frames := 2, cells := 0, slots := 0, locals := 29 } : Room) s m #[(.ref ar), (.int off), (.int ln)] below meth c s₁ [] 0 0 := Stand.of_body Bd
  have e0 : s₁.heap = h0 := by rw [← hh, Bd.state]; rfl
  have N0 := Fr.nil n0
  show own_Goes p e below (own_K (own_Q_rck Z ar off ln fm f h0 n0) s ({ frames := 2, cells := 0, slots := 0, locals := 29 } : Room).cells ({ frames := 2, cells := 0, slots := 0, locals := 29 } : Room).slots) s₁ (entryFrame m #[(.ref ar), (.int off), (.int ln)] 3)
  rw [own_ef_rck]
  refine own_by (T' := s₁) (g' := (mkF m 1 #[.val (.ref ar), .val (.int off), .val (.int ln)] [(.int off)])) (fun t_ k_ => XS.iloadN X0.here hx rfl (hb hby own_d_rck_0) rfl k_) ?_
  refine own_by (T' := s₁) (g' := (mkF m 2 #[.val (.ref ar), .val (.int off), .val (.int ln)] [(.int ln), (.int off)])) (fun t_ k_ => XS.iloadN X0.here hx rfl (hb hby own_d_rck_1) rfl k_) ?_
  refine own_by (T' := s₁) (g' := (mkF m 3 #[.val (.ref ar), .val (.int off), .val (.int ln)] [(.ref ar), (.int ln), (.int off)])) (fun t_ k_ => XS.aloadN X0.here hx rfl (hb hby own_d_rck_2) rfl rfl k_) ?_
  refine own_by (T' := s₁) (g' := (mkF m 4 #[.val (.ref ar), .val (.int off), .val (.int ln)] [(.int (6 : Int32)), (.int ln), (.int off)])) (fun t_ k_ => own_alen X0 hx hZ e0 V0 (z := (6 : Int32)) rfl (g := (mkF m 3 #[.val (.ref ar), .val (.int off), .val (.int ln)] [(.ref ar), (.int ln), (.int off)])) rfl rfl (hb hby own_d_rck_3) _ k_) ?_
  obtain ⟨_, T1, L1, X1, hQ1, st1⟩ := own_callS X0 hx hZ (y := (⟨"java/lang/String", "checkBoundsOffCount", "(III)I"⟩ : MethodName)) hown (hw _ (List.mem_of_getElem? (i := 65) rfl)) (hw _ (List.mem_of_getElem? (i := 66) rfl)) (hw _ (List.mem_of_getElem? (i := 58) rfl)) (hw _ (List.mem_of_getElem? (i := 67) rfl)) (by decide) (argsL := [(.int off), (.int ln), (.int (6 : Int32))]) (rest := []) (own_rm_cbo l Z a0 hw [] off ln (6 : Int32) fm h0 n0 Z0 SF hfm h1) e0 (W := 0) (by decide) (by decide) (by decide) (by decide) (g := (mkF m 4 #[.val (.ref ar), .val (.int off), .val (.int ln)] [(.int (6 : Int32)), (.int ln), (.int off)])) rfl (by rw [hml]; rfl) (lenOf own_pd3 rfl) rfl (by show 2 * 0 + _ ≤ _; exact Nat.le_of_eq rfl) (hb hby own_d_rck_4)
  obtain ⟨rfl, Nq1, e1⟩ := hQ1
  have N1 := Fr.app N0 Nq1
  refine st1 _ ?_
  show own_Goes p e below _ T1 (mkF m 7 #[.val (.ref ar), .val (.int off), .val (.int ln)] [(.int off)])
  refine own_by (T' := T1) (g' := (mkF m 8 #[.val (.ref ar), .val (.int off), .val (.int ln)] [])) (fun t_ k_ => XS.pop X1.here hx rfl (hb hby own_d_rck_7) rfl rfl k_) ?_
  refine own_by (T' := T1) (g' := (mkF m 9 #[.val (.ref ar), .val (.int off), .val (.int ln)] [.null])) (fun t_ k_ => XS.aconstNull X1.here hx rfl (hb hby own_d_rck_8) k_) ?_
  refine own_retR X1 hx Bd.returns hlk rfl rfl (hb hby own_d_rck_9) (by decide) (by decide) ?_
  rw [e1]
  exact ⟨rfl, N1, rfl⟩
theorem own_d_c5_0 : decode jdk_52_method_21_code 0 = .ok (.iconst 0, 1) := by decide +kernel
theorem own_d_c5_1 : decode jdk_52_method_21_code 1 = .ok (.istore 5, 2) := by decide +kernel
theorem own_d_c5_3 : decode jdk_52_method_21_code 3 = .ok (.iload 5, 2) := by decide +kernel
theorem own_d_c5_5 : decode jdk_52_method_21_code 5 = .ok (.iload 4, 2) := by decide +kernel
theorem own_d_c5_7 : decode jdk_52_method_21_code 7 = .ok (.if_icmp .ge 37, 3) := by decide +kernel
theorem own_d_c5_10 : decode jdk_52_method_21_code 10 = .ok (.aload_n 0, 1) := by decide +kernel
theorem own_d_c5_11 : decode jdk_52_method_21_code 11 = .ok (.iload_n 1, 1) := by decide +kernel
theorem own_d_c5_12 : decode jdk_52_method_21_code 12 = .ok (.caload, 1) := by decide +kernel
theorem own_d_c5_13 : decode jdk_52_method_21_code 13 = .ok (.istore 6, 2) := by decide +kernel
theorem own_d_c5_15 : decode jdk_52_method_21_code 15 = .ok (.iload 6, 2) := by decide +kernel
theorem own_d_c5_17 : decode jdk_52_method_21_code 17 = .ok (.sipush 255, 3) := by decide +kernel
theorem own_d_c5_20 : decode jdk_52_method_21_code 20 = .ok (.if_icmp .le 6, 3) := by decide +kernel
theorem own_d_c5_26 : decode jdk_52_method_21_code 26 = .ok (.aload_n 2, 1) := by decide +kernel
theorem own_d_c5_27 : decode jdk_52_method_21_code 27 = .ok (.iload_n 3, 1) := by decide +kernel
theorem own_d_c5_28 : decode jdk_52_method_21_code 28 = .ok (.iload 6, 2) := by decide +kernel
theorem own_d_c5_30 : decode jdk_52_method_21_code 30 = .ok (.i2b, 1) := by decide +kernel
theorem own_d_c5_31 : decode jdk_52_method_21_code 31 = .ok (.bastore, 1) := by decide +kernel
theorem own_d_c5_32 : decode jdk_52_method_21_code 32 = .ok (.iinc 1 1, 3) := by decide +kernel
theorem own_d_c5_35 : decode jdk_52_method_21_code 35 = .ok (.iinc 3 1, 3) := by decide +kernel
theorem own_d_c5_38 : decode jdk_52_method_21_code 38 = .ok (.iinc 5 1, 3) := by decide +kernel
theorem own_d_c5_41 : decode jdk_52_method_21_code 41 = .ok (.goto (-38), 3) := by decide +kernel
theorem own_d_c5_44 : decode jdk_52_method_21_code 44 = .ok (.iload 4, 2) := by decide +kernel
theorem own_d_c5_46 : decode jdk_52_method_21_code 46 = .ok (.ireturn, 1) := by decide +kernel
theorem own_pn_java_lang_StringUTF16 : plainName "java/lang/StringUTF16" = true := by first | (simp [plainName, overriddenIn]; done) | decide +kernel
theorem own_ef_c5 (m : MethodId) (ar : Addr) (off : Int32) (nb : Addr) (ln : Int32) : entryFrame m #[(.ref ar), (.int off), (.ref nb), (.int (0 : Int32)), (.int ln)] 7 = mkF m 0 #[.val (.ref ar), .val (.int off), .val (.ref nb), .val (.int (0 : Int32)), .val (.int ln), .unset, .unset] [] := by first | (simp [entryFrame, mkF, argsToLocals, Value.category]; done) | rfl
def own_Q_c5 (Z : State) (ar : Addr) (off : Int32) (nb : Addr) (ln : Int32) (f : Nat → Int32) (h0 : Heap) (n0 : Nat) (v : Option Value) (h : Heap) (L : List Loc) : Prop := v = some (.int ln) ∧ Fr n0 L ∧ Keep h0 h [nb] ∧ ∃ g : Nat → Int32, own_Ia Z h nb .byte ln.toNatClampNeg g ∧ ∀ i, i < ln.toNatClampNeg → g i = (f (off.toNatClampNeg + i)).toInt8.toInt32
set_option maxRecDepth 65536 in
set_option maxHeartbeats 40000000 in
theorem own_rm_c5 (l : Launch) (Z : State) (a0 : Array Value) (hw : ∀ d ∈ tables_1, d.before a0 Z = true) (ws : List Jvm.Cond) (ar : Addr) (off : Int32) (nb : Addr) (ln : Int32) (f : Nat → Int32) (h0 : Heap) (n0 : Nat) (Z0 : n0 ≤ h0.size) (V0 : own_Ia Z h0 ar .char 6 f) (V1 : own_Ia Z h0 nb .byte ln.toNatClampNeg (fun _ => (0 : Int32))) (G0 : n0 ≤ nb) (n1 : ar ≠ nb) (ho : 0 ≤ off.toInt) (hl : 0 < ln.toInt) (hs : off.toInt + ln.toInt ≤ 6) (hf : ∀ i, i < 6 → 0 ≤ (f i).toInt ∧ (f i).toInt ≤ 255) :
    MetFree l (⟨"java/lang/StringUTF16", "compress", "([CI[BII)I"⟩ : MethodName) (head1 (Jvm.Cond.code (⟨"java/lang/StringUTF16", "compress", "([CI[BII)I"⟩ : MethodName) jdk_52_method_21_code 7 (some .int) :: ws) ({ frames := 0, cells := 0, slots := 0, locals := 0 } : Room)) (fun a_ U_ => a_ = #[(.ref ar), (.int off), (.ref nb), (.int (0 : Int32)), (.int ln)] ∧ Z.Warmed39 U_.vm ∧ U_.heap = h0) (fun _ _ _ _ _ => True) (fun _ U_ o_ U'_ => ∃ v_ L_, o_ = .returned v_ ∧ own_Q_c5 Z ar off nb ln f h0 n0 v_ U'_.heap L_ ∧ FrameEnd U_ o_ U'_ L_ ({ frames := 0, cells := 0, slots := 0, locals := 0 } : Room).cells ({ frames := 0, cells := 0, slots := 0, locals := 0 } : Room).slots) := by
  refine MetFree.of_bodySF (plainFor_of_name own_pn_java_lang_StringUTF16) hisR ?_
  intro p e s m args below meth c s₁ Bd hml0 hP hK
  obtain ⟨rfl, hZ, hh⟩ := hP
  have hx := Bd.exec
  have hby := Bd.bytes
  have hlk : meth.locks = false := BodyLoose.notSynchronized Bd
  have hml : c.maxLocals = 7 := hml0
  have hown : s.vm.findClass "java/lang/StringUTF16" = some m.cls := findClass_of_methodNamed Bd.named
  have hnm := (name_of_methodNamed Bd.named Bd.method).1
  have X0 : Stand p l e ({ frames := 0, cells := 0, slots := 0, locals := 0 } : Room) s m #[(.ref ar), (.int off), (.ref nb), (.int (0 : Int32)), (.int ln)] below meth c s₁ [] 0 0 := Stand.of_body Bd
  have e0 : s₁.heap = h0 := by rw [← hh, Bd.state]; rfl
  have N0 := Fr.nil n0
  show own_Goes p e below (own_K (own_Q_c5 Z ar off nb ln f h0 n0) s ({ frames := 0, cells := 0, slots := 0, locals := 0 } : Room).cells ({ frames := 0, cells := 0, slots := 0, locals := 0 } : Room).slots) s₁ (entryFrame m #[(.ref ar), (.int off), (.ref nb), (.int (0 : Int32)), (.int ln)] 7)
  rw [own_ef_c5]
  have K0 := Keep.refl h0 [nb]
  have lp : ∀ (kk : Nat) (so : Int32) (i : Int32) (cc : Int32) (g : Nat → Int32) (T1 : State) (hh : Heap) (lo : List Loc), Stand p l e ({ frames := 0, cells := 0, slots := 0, locals := 0 } : Room) s m #[(.ref ar), (.int off), (.ref nb), (.int (0 : Int32)), (.int ln)] below meth c T1 lo 0 0 → T1.heap = hh → Fr n0 lo → n0 ≤ hh.size → Keep h0 hh [nb] → own_Ia Z hh ar .char 6 f → own_Ia Z hh nb .byte ln.toNatClampNeg g → (0 ≤ i.toInt ∧ i.toInt ≤ ln.toInt) → ((ln.toInt - i.toInt).toNat = kk) → (so.toInt = off.toInt + i.toInt) → (∀ j : Nat, (j : Int) < i.toInt → g j = (f (off.toNatClampNeg + j)).toInt8.toInt32) → own_Goes p e below (own_K (own_Q_c5 Z ar off nb ln f h0 n0) s ({ frames := 0, cells := 0, slots := 0, locals := 0 } : Room).cells ({ frames := 0, cells := 0, slots := 0, locals := 0 } : Room).slots) T1 (mkF m 3 #[.val (.ref ar), .val (.int so), .val (.ref nb), .val (.int i), .val (.int ln), .val (.int i), .val (.int cc)] []) := by
    intro kk
    induction kk with
      | zero =>
        intro so i cc g T1 hh lo X1 e1 N1 u0 u1 u2 u3 i1 i2 i3 i4
        refine own_by (T' := T1) (g' := (mkF m 5 #[.val (.ref ar), .val (.int so), .val (.ref nb), .val (.int i), .val (.int ln), .val (.int i), .val (.int cc)] [(.int i)])) (fun t_ k_ => XS.iload X1.here hx rfl (hb hby own_d_c5_3) rfl k_) ?_
        refine own_by (T' := T1) (g' := (mkF m 7 #[.val (.ref ar), .val (.int so), .val (.ref nb), .val (.int i), .val (.int ln), .val (.int i), .val (.int cc)] [(.int ln), (.int i)])) (fun t_ k_ => XS.iload X1.here hx rfl (hb hby own_d_c5_5) rfl k_) ?_
        refine own_by (T' := T1) (g' := (mkF m 44 #[.val (.ref ar), .val (.int so), .val (.ref nb), .val (.int i), .val (.int ln), .val (.int i), .val (.int cc)] [])) (fun t_ k_ => XS.icmpYes X1.here hx rfl (pc0 := 7) (pc' := 44) rfl (hb hby own_d_c5_7) rfl (flt ((own_c5 ln i i1 i2) : ¬ (i < ln))).2.1 (by decide) (by decide) k_) ?_
        refine own_by (T' := T1) (g' := (mkF m 46 #[.val (.ref ar), .val (.int so), .val (.ref nb), .val (.int i), .val (.int ln), .val (.int i), .val (.int cc)] [(.int ln)])) (fun t_ k_ => XS.iload X1.here hx rfl (hb hby own_d_c5_44) rfl k_) ?_
        refine own_retI X1 hx Bd.returns hlk (hb hby own_d_c5_46) (by decide) (by decide) ?_
        rw [e1]
        exact ⟨rfl, N1, u1, g, u3, fun j hj => i4 j (own_c9 ln i j i1 i2 hj)⟩
      | succ kk ih =>
        intro so i cc g T1 hh lo X1 e1 N1 u0 u1 u2 u3 i1 i2 i3 i4
        refine own_by (T' := T1) (g' := (mkF m 5 #[.val (.ref ar), .val (.int so), .val (.ref nb), .val (.int i), .val (.int ln), .val (.int i), .val (.int cc)] [(.int i)])) (fun t_ k_ => XS.iload X1.here hx rfl (hb hby own_d_c5_3) rfl k_) ?_
        refine own_by (T' := T1) (g' := (mkF m 7 #[.val (.ref ar), .val (.int so), .val (.ref nb), .val (.int i), .val (.int ln), .val (.int i), .val (.int cc)] [(.int ln), (.int i)])) (fun t_ k_ => XS.iload X1.here hx rfl (hb hby own_d_c5_5) rfl k_) ?_
        refine own_by (T' := T1) (g' := (mkF m 10 #[.val (.ref ar), .val (.int so), .val (.ref nb), .val (.int i), .val (.int ln), .val (.int i), .val (.int cc)] [])) (fun t_ k_ => XS.icmpNo X1.here hx rfl (hb hby own_d_c5_7) rfl (tlt ((own_c6 ln i kk i1 i2) : i < ln)).2.1 k_) ?_
        refine own_by (T' := T1) (g' := (mkF m 11 #[.val (.ref ar), .val (.int so), .val (.ref nb), .val (.int i), .val (.int ln), .val (.int i), .val (.int cc)] [(.ref ar)])) (fun t_ k_ => XS.aloadN X1.here hx rfl (hb hby own_d_c5_10) rfl rfl k_) ?_
        refine own_by (T' := T1) (g' := (mkF m 12 #[.val (.ref ar), .val (.int so), .val (.ref nb), .val (.int i), .val (.int ln), .val (.int i), .val (.int cc)] [(.int so), (.ref ar)])) (fun t_ k_ => XS.iloadN X1.here hx rfl (hb hby own_d_c5_11) rfl k_) ?_
        refine own_by (T' := T1) (g' := (mkF m 13 #[.val (.ref ar), .val (.int so), .val (.ref nb), .val (.int i), .val (.int ln), .val (.int i), .val (.int cc)] [(.int (f so.toNatClampNeg))])) (fun t_ k_ => own_cal X1 hx hZ e1 u2 (j := so) (own_c7 ln i kk off so hs ho i1 i2 i3).1 (own_c7 ln i kk off so hs ho i1 i2 i3).2 (g := (mkF m 12 #[.val (.ref ar), .val (.int so), .val (.ref nb), .val (.int i), .val (.int ln), .val (.int i), .val (.int cc)] [(.int so), (.ref ar)])) rfl rfl (hb hby own_d_c5_12) _ k_) ?_
        refine own_by (T' := T1) (g' := (mkF m 15 #[.val (.ref ar), .val (.int so), .val (.ref nb), .val (.int i), .val (.int ln), .val (.int i), .val (.int (f so.toNatClampNeg))] [])) (fun t_ k_ => XS.istore X1.here hx rfl (hb hby own_d_c5_13) rfl (l' := #[.val (.ref ar), .val (.int so), .val (.ref nb), .val (.int i), .val (.int ln), .val (.int i), .val (.int (f so.toNatClampNeg))]) rfl k_) ?_
        refine own_by (T' := T1) (g' := (mkF m 17 #[.val (.ref ar), .val (.int so), .val (.ref nb), .val (.int i), .val (.int ln), .val (.int i), .val (.int (f so.toNatClampNeg))] [(.int (f so.toNatClampNeg))])) (fun t_ k_ => XS.iload X1.here hx rfl (hb hby own_d_c5_15) rfl k_) ?_
        refine own_by (T' := T1) (g' := (mkF m 20 #[.val (.ref ar), .val (.int so), .val (.ref nb), .val (.int i), .val (.int ln), .val (.int i), .val (.int (f so.toNatClampNeg))] [(.int (255 : Int32)), (.int (f so.toNatClampNeg))])) (fun t_ k_ => XS.sipush X1.here hx rfl (hb hby own_d_c5_17) k_) ?_
        refine own_by (T' := T1) (g' := (mkF m 26 #[.val (.ref ar), .val (.int so), .val (.ref nb), .val (.int i), .val (.int ln), .val (.int i), .val (.int (f so.toNatClampNeg))] [])) (fun t_ k_ => XS.icmpYes X1.here hx rfl (pc0 := 20) (pc' := 26) rfl (hb hby own_d_c5_20) rfl (flt ((own_255 _ (hf _ (own_c7 ln i kk off so hs ho i1 i2 i3).2)) : ¬ ((255 : Int32) < (f so.toNatClampNeg)))).2.2.2 (by decide) (by decide) k_) ?_
        refine own_by (T' := T1) (g' := (mkF m 27 #[.val (.ref ar), .val (.int so), .val (.ref nb), .val (.int i), .val (.int ln), .val (.int i), .val (.int (f so.toNatClampNeg))] [(.ref nb)])) (fun t_ k_ => XS.aloadN X1.here hx rfl (hb hby own_d_c5_26) rfl rfl k_) ?_
        refine own_by (T' := T1) (g' := (mkF m 28 #[.val (.ref ar), .val (.int so), .val (.ref nb), .val (.int i), .val (.int ln), .val (.int i), .val (.int (f so.toNatClampNeg))] [(.int i), (.ref nb)])) (fun t_ k_ => XS.iloadN X1.here hx rfl (hb hby own_d_c5_27) rfl k_) ?_
        refine own_by (T' := T1) (g' := (mkF m 30 #[.val (.ref ar), .val (.int so), .val (.ref nb), .val (.int i), .val (.int ln), .val (.int i), .val (.int (f so.toNatClampNeg))] [(.int (f so.toNatClampNeg)), (.int i), (.ref nb)])) (fun t_ k_ => XS.iload X1.here hx rfl (hb hby own_d_c5_28) rfl k_) ?_
        refine own_by (T' := T1) (g' := (mkF m 31 #[.val (.ref ar), .val (.int so), .val (.ref nb), .val (.int i), .val (.int ln), .val (.int i), .val (.int (f so.toNatClampNeg))] [(.int (f so.toNatClampNeg).toInt8.toInt32), (.int i), (.ref nb)])) (fun t_ k_ => XS.i2b X1.here hx rfl (hb hby own_d_c5_30) rfl k_) ?_
        obtain ⟨T1, h1, X1, e1, W1, st1⟩ := own_bas X1 hx hZ e1 u3 (j := i) (own_c8 ln i kk i1 i2).1 (own_c8 ln i kk i1 i2).2 (g := (mkF m 31 #[.val (.ref ar), .val (.int so), .val (.ref nb), .val (.int i), .val (.int ln), .val (.int i), .val (.int (f so.toNatClampNeg))] [(.int (f so.toNatClampNeg).toInt8.toInt32), (.int i), (.ref nb)])) rfl rfl (hb hby own_d_c5_31)
        refine own_by (T' := T1) (g' := (mkF m 32 #[.val (.ref ar), .val (.int so), .val (.ref nb), .val (.int i), .val (.int ln), .val (.int i), .val (.int (f so.toNatClampNeg))] [])) st1 ?_
        have N1 := Fr.snoc X1 N1 G0
        have f2 := Nat.le_trans u0 (Keep.of_wr W1).1
        have f3 := Keep.wr u1 W1 (Or.inl (List.mem_of_getElem? (i := 0) rfl))
        have f4 := own_Ia_other W1 u2 n1
        have V5 : own_Ia Z h1 nb .byte ln.toNatClampNeg (fun z_ => if z_ = i.toNatClampNeg then (nar .byte ((f so.toNatClampNeg).toInt8.toInt32)) else g z_) := own_Ia_set W1 u3 (fits_nar_byte _)
        refine own_by (T' := T1) (g' := (mkF m 35 #[.val (.ref ar), .val (.int (so + (1 : Int32))), .val (.ref nb), .val (.int i), .val (.int ln), .val (.int i), .val (.int (f so.toNatClampNeg))] [])) (fun t_ k_ => XS.iinc X1.here hx rfl (hb hby own_d_c5_32) rfl (l' := #[.val (.ref ar), .val (.int (so + (1 : Int32))), .val (.ref nb), .val (.int i), .val (.int ln), .val (.int i), .val (.int (f so.toNatClampNeg))]) rfl k_) ?_
        refine own_by (T' := T1) (g' := (mkF m 38 #[.val (.ref ar), .val (.int (so + (1 : Int32))), .val (.ref nb), .val (.int (i + (1 : Int32))), .val (.int ln), .val (.int i), .val (.int (f so.toNatClampNeg))] [])) (fun t_ k_ => XS.iinc X1.here hx rfl (hb hby own_d_c5_35) rfl (l' := #[.val (.ref ar), .val (.int (so + (1 : Int32))), .val (.ref nb), .val (.int (i + (1 : Int32))), .val (.int ln), .val (.int i), .val (.int (f so.toNatClampNeg))]) rfl k_) ?_
        refine own_by (T' := T1) (g' := (mkF m 41 #[.val (.ref ar), .val (.int (so + (1 : Int32))), .val (.ref nb), .val (.int (i + (1 : Int32))), .val (.int ln), .val (.int (i + (1 : Int32))), .val (.int (f so.toNatClampNeg))] [])) (fun t_ k_ => XS.iinc X1.here hx rfl (hb hby own_d_c5_38) rfl (l' := #[.val (.ref ar), .val (.int (so + (1 : Int32))), .val (.ref nb), .val (.int (i + (1 : Int32))), .val (.int ln), .val (.int (i + (1 : Int32))), .val (.int (f so.toNatClampNeg))]) rfl k_) ?_
        refine own_by (T' := T1) (g' := (mkF m 3 #[.val (.ref ar), .val (.int (so + (1 : Int32))), .val (.ref nb), .val (.int (i + (1 : Int32))), .val (.int ln), .val (.int (i + (1 : Int32))), .val (.int (f so.toNatClampNeg))] [])) (fun t_ k_ => XS.goto X1.here hx rfl (pc0 := 41) (pc' := 3) rfl (hb hby own_d_c5_41) (by decide) (by decide) k_) ?_
        exact ih (so + (1 : Int32)) (i + (1 : Int32)) (f so.toNatClampNeg) (fun z_ => if z_ = i.toNatClampNeg then (nar .byte ((f so.toNatClampNeg).toInt8.toInt32)) else g z_) T1 h1 _ X1 e1 N1 f2 f3 f4 V5 (own_c1 ln i kk off hs ho i1 i2) (own_c2 ln i kk off hs ho i1 i2) (own_c3 ln i kk off so hs ho i1 i2 i3) (own_c4 ln i kk off so f g hs ho i1 i2 i3 i4)
  refine own_by (T' := s₁) (g' := (mkF m 1 #[.val (.ref ar), .val (.int off), .val (.ref nb), .val (.int (0 : Int32)), .val (.int ln), .unset, .unset] [(.int (0 : Int32))])) (fun t_ k_ => XS.iconst X0.here hx rfl (hb hby own_d_c5_0) k_) ?_
  refine own_by (T' := s₁) (g' := (mkF m 3 #[.val (.ref ar), .val (.int off), .val (.ref nb), .val (.int (0 : Int32)), .val (.int ln), .val (.int (0 : Int32)), .unset] [])) (fun t_ k_ => XS.istore X0.here hx rfl (hb hby own_d_c5_1) rfl (l' := #[.val (.ref ar), .val (.int off), .val (.ref nb), .val (.int (0 : Int32)), .val (.int ln), .val (.int (0 : Int32)), .unset]) rfl k_) ?_
  refine own_by (T' := s₁) (g' := (mkF m 5 #[.val (.ref ar), .val (.int off), .val (.ref nb), .val (.int (0 : Int32)), .val (.int ln), .val (.int (0 : Int32)), .unset] [(.int (0 : Int32))])) (fun t_ k_ => XS.iload X0.here hx rfl (hb hby own_d_c5_3) rfl k_) ?_
  refine own_by (T' := s₁) (g' := (mkF m 7 #[.val (.ref ar), .val (.int off), .val (.ref nb), .val (.int (0 : Int32)), .val (.int ln), .val (.int (0 : Int32)), .unset] [(.int ln), (.int (0 : Int32))])) (fun t_ k_ => XS.iload X0.here hx rfl (hb hby own_d_c5_5) rfl k_) ?_
  refine own_by (T' := s₁) (g' := (mkF m 10 #[.val (.ref ar), .val (.int off), .val (.ref nb), .val (.int (0 : Int32)), .val (.int ln), .val (.int (0 : Int32)), .unset] [])) (fun t_ k_ => XS.icmpNo X0.here hx rfl (hb hby own_d_c5_7) rfl (tlt ((own_d4 ln hl) : (0 : Int32) < ln)).2.1 k_) ?_
  refine own_by (T' := s₁) (g' := (mkF m 11 #[.val (.ref ar), .val (.int off), .val (.ref nb), .val (.int (0 : Int32)), .val (.int ln), .val (.int (0 : Int32)), .unset] [(.ref ar)])) (fun t_ k_ => XS.aloadN X0.here hx rfl (hb hby own_d_c5_10) rfl rfl k_) ?_
  refine own_by (T' := s₁) (g' := (mkF m 12 #[.val (.ref ar), .val (.int off), .val (.ref nb), .val (.int (0 : Int32)), .val (.int ln), .val (.int (0 : Int32)), .unset] [(.int off), (.ref ar)])) (fun t_ k_ => XS.iloadN X0.here hx rfl (hb hby own_d_c5_11) rfl k_) ?_
  refine own_by (T' := s₁) (g' := (mkF m 13 #[.val (.ref ar), .val (.int off), .val (.ref nb), .val (.int (0 : Int32)), .val (.int ln), .val (.int (0 : Int32)), .unset] [(.int (f off.toNatClampNeg))])) (fun t_ k_ => own_cal X0 hx hZ e0 V0 (j := off) (own_d5 off ln ho hl hs).1 (own_d5 off ln ho hl hs).2 (g := (mkF m 12 #[.val (.ref ar), .val (.int off), .val (.ref nb), .val (.int (0 : Int32)), .val (.int ln), .val (.int (0 : Int32)), .unset] [(.int off), (.ref ar)])) rfl rfl (hb hby own_d_c5_12) _ k_) ?_
  refine own_by (T' := s₁) (g' := (mkF m 15 #[.val (.ref ar), .val (.int off), .val (.ref nb), .val (.int (0 : Int32)), .val (.int ln), .val (.int (0 : Int32)), .val (.int (f off.toNatClampNeg))] [])) (fun t_ k_ => XS.istore X0.here hx rfl (hb hby own_d_c5_13) rfl (l' := #[.val (.ref ar), .val (.int off), .val (.ref nb), .val (.int (0 : Int32)), .val (.int ln), .val (.int (0 : Int32)), .val (.int (f off.toNatClampNeg))]) rfl k_) ?_
  refine own_by (T' := s₁) (g' := (mkF m 17 #[.val (.ref ar), .val (.int off), .val (.ref nb), .val (.int (0 : Int32)), .val (.int ln), .val (.int (0 : Int32)), .val (.int (f off.toNatClampNeg))] [(.int (f off.toNatClampNeg))])) (fun t_ k_ => XS.iload X0.here hx rfl (hb hby own_d_c5_15) rfl k_) ?_
  refine own_by (T' := s₁) (g' := (mkF m 20 #[.val (.ref ar), .val (.int off), .val (.ref nb), .val (.int (0 : Int32)), .val (.int ln), .val (.int (0 : Int32)), .val (.int (f off.toNatClampNeg))] [(.int (255 : Int32)), (.int (f off.toNatClampNeg))])) (fun t_ k_ => XS.sipush X0.here hx rfl (hb hby own_d_c5_17) k_) ?_
  refine own_by (T' := s₁) (g' := (mkF m 26 #[.val (.ref ar), .val (.int off), .val (.ref nb), .val (.int (0 : Int32)), .val (.int ln), .val (.int (0 : Int32)), .val (.int (f off.toNatClampNeg))] [])) (fun t_ k_ => XS.icmpYes X0.here hx rfl (pc0 := 20) (pc' := 26) rfl (hb hby own_d_c5_20) rfl (flt ((own_255 _ (hf _ (own_d5 off ln ho hl hs).2)) : ¬ ((255 : Int32) < (f off.toNatClampNeg)))).2.2.2 (by decide) (by decide) k_) ?_
  refine own_by (T' := s₁) (g' := (mkF m 27 #[.val (.ref ar), .val (.int off), .val (.ref nb), .val (.int (0 : Int32)), .val (.int ln), .val (.int (0 : Int32)), .val (.int (f off.toNatClampNeg))] [(.ref nb)])) (fun t_ k_ => XS.aloadN X0.here hx rfl (hb hby own_d_c5_26) rfl rfl k_) ?_
  refine own_by (T' := s₁) (g' := (mkF m 28 #[.val (.ref ar), .val (.int off), .val (.ref nb), .val (.int (0 : Int32)), .val (.int ln), .val (.int (0 : Int32)), .val (.int (f off.toNatClampNeg))] [(.int (0 : Int32)), (.ref nb)])) (fun t_ k_ => XS.iloadN X0.here hx rfl (hb hby own_d_c5_27) rfl k_) ?_
  refine own_by (T' := s₁) (g' := (mkF m 30 #[.val (.ref ar), .val (.int off), .val (.ref nb), .val (.int (0 : Int32)), .val (.int ln), .val (.int (0 : Int32)), .val (.int (f off.toNatClampNeg))] [(.int (f off.toNatClampNeg)), (.int (0 : Int32)), (.ref nb)])) (fun t_ k_ => XS.iload X0.here hx rfl (hb hby own_d_c5_28) rfl k_) ?_
  refine own_by (T' := s₁) (g' := (mkF m 31 #[.val (.ref ar), .val (.int off), .val (.ref nb), .val (.int (0 : Int32)), .val (.int ln), .val (.int (0 : Int32)), .val (.int (f off.toNatClampNeg))] [(.int (f off.toNatClampNeg).toInt8.toInt32), (.int (0 : Int32)), (.ref nb)])) (fun t_ k_ => XS.i2b X0.here hx rfl (hb hby own_d_c5_30) rfl k_) ?_
  obtain ⟨T6, h6, X6, e6, W6, st6⟩ := own_bas X0 hx hZ e0 V1 (j := (0 : Int32)) (by decide) (own_d6 ln hl) (g := (mkF m 31 #[.val (.ref ar), .val (.int off), .val (.ref nb), .val (.int (0 : Int32)), .val (.int ln), .val (.int (0 : Int32)), .val (.int (f off.toNatClampNeg))] [(.int (f off.toNatClampNeg).toInt8.toInt32), (.int (0 : Int32)), (.ref nb)])) rfl rfl (hb hby own_d_c5_31)
  refine own_by (T' := T6) (g' := (mkF m 32 #[.val (.ref ar), .val (.int off), .val (.ref nb), .val (.int (0 : Int32)), .val (.int ln), .val (.int (0 : Int32)), .val (.int (f off.toNatClampNeg))] [])) st6 ?_
  have N6 := Fr.snoc X6 N0 G0
  have f7 := Nat.le_trans Z0 (Keep.of_wr W6).1
  have f8 := own_Ia_other W6 V0 n1
  have f9 := Keep.wr K0 W6 (Or.inl (List.mem_of_getElem? (i := 0) rfl))
  have V10 : own_Ia Z h6 nb .byte ln.toNatClampNeg (fun z_ => if z_ = 0 then (nar .byte ((f off.toNatClampNeg).toInt8.toInt32)) else (fun _ => (0 : Int32)) z_) := own_Ia_set W6 V1 (fits_nar_byte _)
  refine own_by (T' := T6) (g' := (mkF m 35 #[.val (.ref ar), .val (.int (off + (1 : Int32))), .val (.ref nb), .val (.int (0 : Int32)), .val (.int ln), .val (.int (0 : Int32)), .val (.int (f off.toNatClampNeg))] [])) (fun t_ k_ => XS.iinc X6.here hx rfl (hb hby own_d_c5_32) rfl (l' := #[.val (.ref ar), .val (.int (off + (1 : Int32))), .val (.ref nb), .val (.int (0 : Int32)), .val (.int ln), .val (.int (0 : Int32)), .val (.int (f off.toNatClampNeg))]) rfl k_) ?_
  refine own_by (T' := T6) (g' := (mkF m 38 #[.val (.ref ar), .val (.int (off + (1 : Int32))), .val (.ref nb), .val (.int (1 : Int32)), .val (.int ln), .val (.int (0 : Int32)), .val (.int (f off.toNatClampNeg))] [])) (fun t_ k_ => XS.iinc X6.here hx rfl (hb hby own_d_c5_35) rfl (l' := #[.val (.ref ar), .val (.int (off + (1 : Int32))), .val (.ref nb), .val (.int (1 : Int32)), .val (.int ln), .val (.int (0 : Int32)), .val (.int (f off.toNatClampNeg))]) rfl k_) ?_
  refine own_by (T' := T6) (g' := (mkF m 41 #[.val (.ref ar), .val (.int (off + (1 : Int32))), .val (.ref nb), .val (.int (1 : Int32)), .val (.int ln), .val (.int (1 : Int32)), .val (.int (f off.toNatClampNeg))] [])) (fun t_ k_ => XS.iinc X6.here hx rfl (hb hby own_d_c5_38) rfl (l' := #[.val (.ref ar), .val (.int (off + (1 : Int32))), .val (.ref nb), .val (.int (1 : Int32)), .val (.int ln), .val (.int (1 : Int32)), .val (.int (f off.toNatClampNeg))]) rfl k_) ?_
  refine own_by (T' := T6) (g' := (mkF m 3 #[.val (.ref ar), .val (.int (off + (1 : Int32))), .val (.ref nb), .val (.int (1 : Int32)), .val (.int ln), .val (.int (1 : Int32)), .val (.int (f off.toNatClampNeg))] [])) (fun t_ k_ => XS.goto X6.here hx rfl (pc0 := 41) (pc' := 3) rfl (hb hby own_d_c5_41) (by decide) (by decide) k_) ?_
  exact lp _ (off + (1 : Int32)) (1 : Int32) (f off.toNatClampNeg) (fun z_ => if z_ = 0 then (nar .byte ((f off.toNatClampNeg).toInt8.toInt32)) else (fun _ => (0 : Int32)) z_) T6 h6 _ X6 e6 N6 f7 f9 f8 V10 (own_d1 ln hl) rfl (own_d2 off ln ho hl hs) (own_d3 off ln f ho hl hs)
theorem own_pd4 : parseMethodDescriptor "([CI[BII)I" = some ⟨[(.array .char), .int, (.array .byte), .int, .int], some .int⟩ := by decide +kernel
theorem own_d_c3_0 : decode jdk_52_method_16_code 0 = .ok (.iload_n 2, 1) := by decide +kernel
theorem own_d_c3_1 : decode jdk_52_method_16_code 1 = .ok (.newarray .byte, 2) := by decide +kernel
theorem own_d_c3_3 : decode jdk_52_method_16_code 3 = .ok (.astore_n 3, 1) := by decide +kernel
theorem own_d_c3_4 : decode jdk_52_method_16_code 4 = .ok (.aload_n 0, 1) := by decide +kernel
theorem own_d_c3_5 : decode jdk_52_method_16_code 5 = .ok (.iload_n 1, 1) := by decide +kernel
theorem own_d_c3_6 : decode jdk_52_method_16_code 6 = .ok (.aload_n 3, 1) := by decide +kernel
theorem own_d_c3_7 : decode jdk_52_method_16_code 7 = .ok (.iconst 0, 1) := by decide +kernel
theorem own_d_c3_8 : decode jdk_52_method_16_code 8 = .ok (.iload_n 2, 1) := by decide +kernel
theorem own_d_c3_9 : decode jdk_52_method_16_code 9 = .ok (.invokestatic 115, 3) := by decide +kernel
theorem own_d_c3_12 : decode jdk_52_method_16_code 12 = .ok (.istore 4, 2) := by decide +kernel
theorem own_d_c3_14 : decode jdk_52_method_16_code 14 = .ok (.iload 4, 2) := by decide +kernel
theorem own_d_c3_16 : decode jdk_52_method_16_code 16 = .ok (.iload_n 2, 1) := by decide +kernel
theorem own_d_c3_17 : decode jdk_52_method_16_code 17 = .ok (.if_icmp .eq 40, 3) := by decide +kernel
theorem own_d_c3_57 : decode jdk_52_method_16_code 57 = .ok (.aload_n 3, 1) := by decide +kernel
theorem own_d_c3_58 : decode jdk_52_method_16_code 58 = .ok (.areturn, 1) := by decide +kernel
theorem own_ef_c3 (m : MethodId) (ar : Addr) (off : Int32) (ln : Int32) : entryFrame m #[(.ref ar), (.int off), (.int ln)] 6 = mkF m 0 #[.val (.ref ar), .val (.int off), .val (.int ln), .unset, .unset, .unset] [] := by first | (simp [entryFrame, mkF, argsToLocals, Value.category]; done) | rfl
def own_Q_c3 (Z : State) (ar : Addr) (off : Int32) (ln : Int32) (f : Nat → Int32) (h0 : Heap) (n0 : Nat) (v : Option Value) (h : Heap) (L : List Loc) : Prop := ∃ (nb : Addr) (g : Nat → Int32), v = some (.ref nb) ∧ Fr n0 L ∧ Keep h0 h [] ∧ own_Ia Z h nb .byte ln.toNatClampNeg g ∧ ∀ i, i < ln.toNatClampNeg → g i = (f (off.toNatClampNeg + i)).toInt8.toInt32
set_option maxRecDepth 65536 in
set_option maxHeartbeats 40000000 in
theorem own_rm_c3 (l : Launch) (Z : State) (a0 : Array Value) (hw : ∀ d ∈ tables_1, d.before a0 Z = true) (ws : List Jvm.Cond) (ar : Addr) (off : Int32) (ln : Int32) (f : Nat → Int32) (h0 : Heap) (n0 : Nat) (Z0 : n0 ≤ h0.size) (V0 : own_Ia Z h0 ar .char 6 f) (ho : 0 ≤ off.toInt) (hl : 0 < ln.toInt) (hs : off.toInt + ln.toInt ≤ 6) (hf : ∀ i, i < 6 → 0 ≤ (f i).toInt ∧ (f i).toInt ≤ 255) :
    MetFree l (⟨"java/lang/StringUTF16", "compress", "([CII)[B"⟩ : MethodName) (head1 (Jvm.Cond.code (⟨"java/lang/StringUTF16", "compress", "([CII)[B"⟩ : MethodName) jdk_52_method_16_code 6 (some (.array .byte)) :: ws) ({ frames := 1, cells := 1, slots := 6, locals := 18 } : Room)) (fun a_ U_ => a_ = #[(.ref ar), (.int off), (.int ln)] ∧ Z.Warmed39 U_.vm ∧ U_.heap = h0) (fun _ _ _ _ _ => True) (fun _ U_ o_ U'_ => ∃ v_ L_, o_ = .returned v_ ∧ own_Q_c3 Z ar off ln f h0 n0 v_ U'_.heap L_ ∧ FrameEnd U_ o_ U'_ L_ ({ frames := 1, cells := 1, slots := 6, locals := 18 } : Room).cells ({ frames := 1, cells := 1, slots := 6, locals := 18 } : Room).slots) := by
  refine MetFree.of_bodySF (plainFor_of_name own_pn_java_lang_StringUTF16) hisR ?_
  intro p e s m args below meth c s₁ Bd hml0 hP hK
  obtain ⟨rfl, hZ, hh⟩ := hP
  have hx := Bd.exec
  have hby := Bd.bytes
  have hlk : meth.locks = false := BodyLoose.notSynchronized Bd
  have hml : c.maxLocals = 6 := hml0
  have hown : s.vm.findClass "java/lang/StringUTF16" = some m.cls := findClass_of_methodNamed Bd.named
  have hnm := (name_of_methodNamed Bd.named Bd.method).1
  have X0 : Stand p l e ({ frames := 1, cells := 1, slots := 6, locals := 18 } : Room) s m #[(.ref ar), (.int off), (.int ln)] below meth c s₁ [] 0 0 := Stand.of_body Bd
  have e0 : s₁.heap = h0 := by rw [← hh, Bd.state]; rfl
  have N0 := Fr.nil n0
  show own_Goes p e below (own_K (own_Q_c3 Z ar off ln f h0 n0) s ({ frames := 1, cells := 1, slots := 6, locals := 18 } : Room).cells ({ frames := 1, cells := 1, slots := 6, locals := 18 } : Room).slots) s₁ (entryFrame m #[(.ref ar), (.int off), (.int ln)] 6)
  rw [own_ef_c3]
  have K0 := Keep.refl h0 []
  refine own_by (T' := s₁) (g' := (mkF m 1 #[.val (.ref ar), .val (.int off), .val (.int ln), .unset, .unset, .unset] [(.int ln)])) (fun t_ k_ => XS.iloadN X0.here hx rfl (hb hby own_d_c3_0) rfl k_) ?_
  obtain ⟨T1, h1, k1, X1, e1, E1, A1, st1⟩ := newP X0 hx hZ (hw _ (List.mem_of_getElem? (i := 83) rfl)) e0 (g := (mkF m 1 #[.val (.ref ar), .val (.int off), .val (.int ln), .unset, .unset, .unset] [(.int ln)])) rfl (hb hby own_d_c3_1) rfl (own_d7 ln hl) (cap := 6) (own_d8 off ln ho hs) (by decide) (by decide) (by decide)
  obtain ⟨b1, g1⟩ : ∃ z, z = h0.size := ⟨_, rfl⟩
  rw [← g1] at A1 st1
  have g_b1 : n0 ≤ b1 := Nat.le_trans Z0 (Nat.le_of_eq g1.symm)
  have ne2 : ar ≠ b1 := Nat.ne_of_lt (Nat.lt_of_lt_of_le (own_Ia_lt V0) (Nat.le_of_eq g1.symm))
  have k_b1 : h0.size ≤ b1 := Nat.le_trans K0.1 (Nat.le_of_eq g1.symm)
  have f3 := Nat.le_trans Z0 E1.1
  have f4 := own_Ia_ext E1 V0
  have f5 := K0.ext E1
  have V1 : own_Ia Z h1 b1 .byte ln.toNatClampNeg (fun _ => (0 : Int32)) := own_Ia_new A1 rfl rfl rfl
  refine own_by (T' := T1) (g' := (mkF m 3 #[.val (.ref ar), .val (.int off), .val (.int ln), .unset, .unset, .unset] [(.ref b1)])) st1 ?_
  refine own_by (T' := T1) (g' := (mkF m 4 #[.val (.ref ar), .val (.int off), .val (.int ln), .val (.ref b1), .unset, .unset] [])) (fun t_ k_ => XS.astoreN X1.here hx rfl (hb hby own_d_c3_3) rfl rfl (l' := #[.val (.ref ar), .val (.int off), .val (.int ln), .val (.ref b1), .unset, .unset]) rfl k_) ?_
  refine own_by (T' := T1) (g' := (mkF m 5 #[.val (.ref ar), .val (.int off), .val (.int ln), .val (.ref b1), .unset, .unset] [(.ref ar)])) (fun t_ k_ => XS.aloadN X1.here hx rfl (hb hby own_d_c3_4) rfl rfl k_) ?_
  refine own_by (T' := T1) (g' := (mkF m 6 #[.val (.ref ar), .val (.int off), .val (.int ln), .val (.ref b1), .unset, .unset] [(.int off), (.ref ar)])) (fun t_ k_ => XS.iloadN X1.here hx rfl (hb hby own_d_c3_5) rfl k_) ?_
  refine own_by (T' := T1) (g' := (mkF m 7 #[.val (.ref ar), .val (.int off), .val (.int ln), .val (.ref b1), .unset, .unset] [(.ref b1), (.int off), (.ref ar)])) (fun t_ k_ => XS.aloadN X1.here hx rfl (hb hby own_d_c3_6) rfl rfl k_) ?_
  refine own_by (T' := T1) (g' := (mkF m 8 #[.val (.ref ar), .val (.int off), .val (.int ln), .val (.ref b1), .unset, .unset] [(.int (0 : Int32)), (.ref b1), (.int off), (.ref ar)])) (fun t_ k_ => XS.iconst X1.here hx rfl (hb hby own_d_c3_7) k_) ?_
  refine own_by (T' := T1) (g' := (mkF m 9 #[.val (.ref ar), .val (.int off), .val (.int ln), .val (.ref b1), .unset, .unset] [(.int ln), (.int (0 : Int32)), (.ref b1), (.int off), (.ref ar)])) (fun t_ k_ => XS.iloadN X1.here hx rfl (hb hby own_d_c3_8) rfl k_) ?_
  obtain ⟨_, T6, L6, X6, hQ6, st6⟩ := own_callS X1 hx hZ (y := (⟨"java/lang/StringUTF16", "compress", "([CI[BII)I"⟩ : MethodName)) hown (hw _ (List.mem_of_getElem? (i := 84) rfl)) (hw _ (List.mem_of_getElem? (i := 85) rfl)) (hw _ (List.mem_of_getElem? (i := 81) rfl)) (hw _ (List.mem_of_getElem? (i := 86) rfl)) (by decide) (argsL := [(.ref ar), (.int off), (.ref b1), (.int (0 : Int32)), (.int ln)]) (rest := []) (own_rm_c5 l Z a0 hw [] ar off b1 ln f h1 n0 f3 f4 V1 g_b1 ne2 ho hl hs hf) e1 (W := 0) (by decide) (by decide) (by decide) (by decide) (g := (mkF m 9 #[.val (.ref ar), .val (.int off), .val (.int ln), .val (.ref b1), .unset, .unset] [(.int ln), (.int (0 : Int32)), (.ref b1), (.int off), (.ref ar)])) rfl (by rw [hml]; rfl) (lenOf own_pd4 rfl) rfl (by show 2 * 0 + _ ≤ _; exact Nat.le_of_eq rfl) (hb hby own_d_c3_9)
  obtain ⟨rfl, Nq6, Kq6, g6, Vg6, hg6⟩ := hQ6
  have N6 := Fr.app N0 Nq6
  have f7 := Nat.le_trans f3 Kq6.1
  have f8 := own_Ia_keep Kq6 f4 (ninS ne2 nin0)
  have f9 := Keep.trans f5 Kq6 (allS (Or.inr k_b1) all0)
  refine st6 _ ?_
  show own_Goes p e below _ T6 (mkF m 12 #[.val (.ref ar), .val (.int off), .val (.int ln), .val (.ref b1), .unset, .unset] [(.int ln)])
  refine own_by (T' := T6) (g' := (mkF m 14 #[.val (.ref ar), .val (.int off), .val (.int ln), .val (.ref b1), .val (.int ln), .unset] [])) (fun t_ k_ => XS.istore X6.here hx rfl (hb hby own_d_c3_12) rfl (l' := #[.val (.ref ar), .val (.int off), .val (.int ln), .val (.ref b1), .val (.int ln), .unset]) rfl k_) ?_
  refine own_by (T' := T6) (g' := (mkF m 16 #[.val (.ref ar), .val (.int off), .val (.int ln), .val (.ref b1), .val (.int ln), .unset] [(.int ln)])) (fun t_ k_ => XS.iload X6.here hx rfl (hb hby own_d_c3_14) rfl k_) ?_
  refine own_by (T' := T6) (g' := (mkF m 17 #[.val (.ref ar), .val (.int off), .val (.int ln), .val (.ref b1), .val (.int ln), .unset] [(.int ln), (.int ln)])) (fun t_ k_ => XS.iloadN X6.here hx rfl (hb hby own_d_c3_16) rfl k_) ?_
  refine own_by (T' := T6) (g' := (mkF m 57 #[.val (.ref ar), .val (.int off), .val (.int ln), .val (.ref b1), .val (.int ln), .unset] [])) (fun t_ k_ => XS.icmpYes X6.here hx rfl (pc0 := 17) (pc' := 57) rfl (hb hby own_d_c3_17) rfl (teq (rfl : ln = ln)).1 (by decide) (by decide) k_) ?_
  refine own_by (T' := T6) (g' := (mkF m 58 #[.val (.ref ar), .val (.int off), .val (.int ln), .val (.ref b1), .val (.int ln), .unset] [(.ref b1)])) (fun t_ k_ => XS.aloadN X6.here hx rfl (hb hby own_d_c3_57) rfl rfl k_) ?_
  refine own_retR X6 hx Bd.returns hlk rfl rfl (hb hby own_d_c3_58) (by decide) (by decide) ?_
  exact ⟨b1, g6, rfl, N6, f9, Vg6, hg6⟩
theorem own_d_cfl_0 : decode jdk_52_method_15_code 0 = .ok (.iload_n 1, 1) := by decide +kernel
theorem own_d_cfl_1 : decode jdk_52_method_15_code 1 = .ok (.aload_n 0, 1) := by decide +kernel
theorem own_d_cfl_2 : decode jdk_52_method_15_code 2 = .ok (.arraylength, 1) := by decide +kernel
theorem own_d_cfl_3 : decode jdk_52_method_15_code 3 = .ok (.isub, 1) := by decide +kernel
theorem own_d_cfl_4 : decode jdk_52_method_15_code 4 = .ok (.bipush 31, 2) := by decide +kernel
theorem own_d_cfl_6 : decode jdk_52_method_15_code 6 = .ok (.iushr, 1) := by decide +kernel
theorem own_d_cfl_7 : decode jdk_52_method_15_code 7 = .ok (.i2b, 1) := by decide +kernel
theorem own_d_cfl_8 : decode jdk_52_method_15_code 8 = .ok (.ireturn, 1) := by decide +kernel
theorem own_ef_cfl (m : MethodId) (nb : Addr) (ln : Int32) : entryFrame m #[(.ref nb), (.int ln)] 2 = mkF m 0 #[.val (.ref nb), .val (.int ln)] [] := by first | (simp [entryFrame, mkF, argsToLocals, Value.category]; done) | rfl
def own_Q_cfl (Z : State) (nb : Addr) (ln : Int32) (g : Nat → Int32) (h0 : Heap) (n0 : Nat) (v : Option Value) (h : Heap) (L : List Loc) : Prop := v = some (.int (0 : Int32)) ∧ Fr n0 L ∧ h = h0
set_option maxRecDepth 65536 in
set_option maxHeartbeats 40000000 in
theorem own_rm_cfl (l : Launch) (Z : State) (a0 : Array Value) (hw : ∀ d ∈ tables_1, d.before a0 Z = true) (ws : List Jvm.Cond) (nb : Addr) (ln : Int32) (g : Nat → Int32) (h0 : Heap) (n0 : Nat) (Z0 : n0 ≤ h0.size) (V0 : own_Ia Z h0 nb .byte ln.toNatClampNeg g) (hl : 0 ≤ ln.toInt) :
    MetFree l (⟨"java/lang/StringUTF16", "coderFromArrayLen", "([BI)B"⟩ : MethodName) (head1 (Jvm.Cond.code (⟨"java/lang/StringUTF16", "coderFromArrayLen", "([BI)B"⟩ : MethodName) jdk_52_method_15_code 2 (some .byte) :: ws) ({ frames := 0, cells := 0, slots := 0, locals := 0 } : Room)) (fun a_ U_ => a_ = #[(.ref nb), (.int ln)] ∧ Z.Warmed39 U_.vm ∧ U_.heap = h0) (fun _ _ _ _ _ => True) (fun _ U_ o_ U'_ => ∃ v_ L_, o_ = .returned v_ ∧ own_Q_cfl Z nb ln g h0 n0 v_ U'_.heap L_ ∧ FrameEnd U_ o_ U'_ L_ ({ frames := 0, cells := 0, slots := 0, locals := 0 } : Room).cells ({ frames := 0, cells := 0, slots := 0, locals := 0 } : Room).slots) := by
  refine MetFree.of_bodySF (plainFor_of_name own_pn_java_lang_StringUTF16) hisR ?_
  intro p e s m args below meth c s₁ Bd hml0 hP hK
  obtain ⟨rfl, hZ, hh⟩ := hP
  have hx := Bd.exec
  have hby := Bd.bytes
  have hlk : meth.locks = false := BodyLoose.notSynchronized Bd
  have hml : c.maxLocals = 2 := hml0
  have hown : s.vm.findClass "java/lang/StringUTF16" = some m.cls := findClass_of_methodNamed Bd.named
  have hnm := (name_of_methodNamed Bd.named Bd.method).1
  have X0 : Stand p l e ({ frames := 0, cells := 0, slots := 0, locals := 0 } : Room) s m #[(.ref nb), (.int ln)] below meth c s₁ [] 0 0 := Stand.of_body Bd
  have e0 : s₁.heap = h0 := by rw [← hh, Bd.state]; rfl
  have N0 := Fr.nil n0
  show own_Goes p e below (own_K (own_Q_cfl Z nb ln g h0 n0) s ({ frames := 0, cells := 0, slots := 0, locals := 0 } : Room).cells ({ frames := 0, cells := 0, slots := 0, locals := 0 } : Room).slots) s₁ (entryFrame m #[(.ref nb), (.int ln)] 2)
  rw [own_ef_cfl]
  refine own_by (T' := s₁) (g' := (mkF m 1 #[.val (.ref nb), .val (.int ln)] [(.int ln)])) (fun t_ k_ => XS.iloadN X0.here hx rfl (hb hby own_d_cfl_0) rfl k_) ?_
  refine own_by (T' := s₁) (g' := (mkF m 2 #[.val (.ref nb), .val (.int ln)] [(.ref nb), (.int ln)])) (fun t_ k_ => XS.aloadN X0.here hx rfl (hb hby own_d_cfl_1) rfl rfl k_) ?_
  refine own_by (T' := s₁) (g' := (mkF m 3 #[.val (.ref nb), .val (.int ln)] [(.int ln), (.int ln)])) (fun t_ k_ => own_alen X0 hx hZ e0 V0 (z := ln) (own_l32 ln hl) (g := (mkF m 2 #[.val (.ref nb), .val (.int ln)] [(.ref nb), (.int ln)])) rfl rfl (hb hby own_d_cfl_2) _ k_) ?_
  refine own_by (T' := s₁) (g' := (mkF m 4 #[.val (.ref nb), .val (.int ln)] [(.int (ln - ln))])) (fun t_ k_ => XS.isub X0.here hx rfl (hb hby own_d_cfl_3) rfl k_) ?_
  refine own_by (T' := s₁) (g' := (mkF m 6 #[.val (.ref nb), .val (.int ln)] [(.int (31 : Int32)), (.int (ln - ln))])) (fun t_ k_ => XS.bipush X0.here hx rfl (hb hby own_d_cfl_4) k_) ?_
  refine own_by (T' := s₁) (g' := (mkF m 7 #[.val (.ref nb), .val (.int ln)] [(.int (((ln - ln).toUInt32 >>> ((31 : Int32) &&& 31).toUInt32).toInt32))])) (fun t_ k_ => XS.iushr X0.here hx rfl (hb hby own_d_cfl_6) rfl k_) ?_
  refine own_by (T' := s₁) (g' := (mkF m 8 #[.val (.ref nb), .val (.int ln)] [(.int ((((ln - ln).toUInt32 >>> ((31 : Int32) &&& 31).toUInt32).toInt32)).toInt8.toInt32)])) (fun t_ k_ => XS.i2b X0.here hx rfl (hb hby own_d_cfl_7) rfl k_) ?_
  refine own_retN X0 hx (t := .byte) Bd.returns hlk (by simp) (hb hby own_d_cfl_8) (by decide) (by decide) (v := (nar .byte (((((ln - ln).toUInt32 >>> ((31 : Int32) &&& 31).toUInt32).toInt32)).toInt8.toInt32))) rfl ?_
  rw [e0]
  exact ⟨by rw [own_cfz], N0, rfl⟩
theorem own_pd5 : parseMethodDescriptor "([CII)[B" = some ⟨[(.array .char), .int, .int], some (.array .byte)⟩ := by decide +kernel
theorem own_pd6 : parseMethodDescriptor "([BI)B" = some ⟨[(.array .byte), .int], some .byte⟩ := by decide +kernel
theorem own_d_si_0 : decode jdk_42_method_149_code 0 = .ok (.aload_n 0, 1) := by decide +kernel
theorem own_d_si_1 : decode jdk_42_method_149_code 1 = .ok (.invokespecial 1, 3) := by decide +kernel
theorem own_d_si_4 : decode jdk_42_method_149_code 4 = .ok (.iload_n 3, 1) := by decide +kernel
theorem own_d_si_5 : decode jdk_42_method_149_code 5 = .ok (.ifCond .ne 22, 3) := by decide +kernel
theorem own_d_si_8 : decode jdk_42_method_149_code 8 = .ok (.aload_n 0, 1) := by decide +kernel
theorem own_d_si_9 : decode jdk_42_method_149_code 9 = .ok (.ldc 7, 2) := by decide +kernel
theorem own_d_si_11 : decode jdk_42_method_149_code 11 = .ok (.getfield 9, 3) := by decide +kernel
theorem own_d_si_14 : decode jdk_42_method_149_code 14 = .ok (.putfield 9, 3) := by decide +kernel
theorem own_d_si_17 : decode jdk_42_method_149_code 17 = .ok (.aload_n 0, 1) := by decide +kernel
theorem own_d_si_18 : decode jdk_42_method_149_code 18 = .ok (.ldc 7, 2) := by decide +kernel
theorem own_d_si_20 : decode jdk_42_method_149_code 20 = .ok (.getfield 15, 3) := by decide +kernel
theorem own_d_si_23 : decode jdk_42_method_149_code 23 = .ok (.putfield 15, 3) := by decide +kernel
theorem own_d_si_26 : decode jdk_42_method_149_code 26 = .ok (.return_, 1) := by decide +kernel
theorem own_d_si_27 : decode jdk_42_method_149_code 27 = .ok (.getstatic 38, 3) := by decide +kernel
theorem own_d_si_30 : decode jdk_42_method_149_code 30 = .ok (.ifCond .eq 28, 3) := by decide +kernel
theorem own_d_si_33 : decode jdk_42_method_149_code 33 = .ok (.aload_n 1, 1) := by decide +kernel
theorem own_d_si_34 : decode jdk_42_method_149_code 34 = .ok (.iload_n 2, 1) := by decide +kernel
theorem own_d_si_35 : decode jdk_42_method_149_code 35 = .ok (.iload_n 3, 1) := by decide +kernel
theorem own_d_si_36 : decode jdk_42_method_149_code 36 = .ok (.invokestatic 177, 3) := by decide +kernel
theorem own_d_si_39 : decode jdk_42_method_149_code 39 = .ok (.astore 5, 2) := by decide +kernel
theorem own_d_si_41 : decode jdk_42_method_149_code 41 = .ok (.aload_n 0, 1) := by decide +kernel
theorem own_d_si_42 : decode jdk_42_method_149_code 42 = .ok (.aload 5, 2) := by decide +kernel
theorem own_d_si_44 : decode jdk_42_method_149_code 44 = .ok (.iload_n 3, 1) := by decide +kernel
theorem own_d_si_45 : decode jdk_42_method_149_code 45 = .ok (.invokestatic 47, 3) := by decide +kernel
theorem own_d_si_48 : decode jdk_42_method_149_code 48 = .ok (.putfield 15, 3) := by decide +kernel
theorem own_d_si_51 : decode jdk_42_method_149_code 51 = .ok (.aload_n 0, 1) := by decide +kernel
theorem own_d_si_52 : decode jdk_42_method_149_code 52 = .ok (.aload 5, 2) := by decide +kernel
theorem own_d_si_54 : decode jdk_42_method_149_code 54 = .ok (.putfield 9, 3) := by decide +kernel
theorem own_d_si_57 : decode jdk_42_method_149_code 57 = .ok (.return_, 1) := by decide +kernel
theorem own_ef_si (m : MethodId) (a : Addr) (ar : Addr) (off : Int32) (ln : Int32) : entryFrame m #[(.ref a), (.ref ar), (.int off), (.int ln), .null] 6 = mkF m 0 #[.val (.ref a), .val (.ref ar), .val (.int off), .val (.int ln), .val .null, .unset] [] := by first | (simp [entryFrame, mkF, argsToLocals, Value.category]; done) | rfl
def own_Q_si (Z : State) (a : Addr) (ar : Addr) (off : Int32) (ln : Int32) (f : Nat → Int32) (cs : Int32) (h0 : Heap) (n0 : Nat) (v : Option Value) (h : Heap) (L : List Loc) : Prop := v = none ∧ Fr n0 L ∧ Keep h0 h [a] ∧ Exa Z h a "java/lang/String" ∧ Fld Z h a "java/lang/String" "coder" "B" (.int (0 : Int32)) ∧ ∃ (b : Addr) (g : Nat → Int32), Fld Z h a "java/lang/String" "value" "[B" (.ref b) ∧ own_Ia Z h b .byte ln.toNatClampNeg g ∧ ∀ i, i < ln.toNatClampNeg → g i = (f (off.toNatClampNeg + i)).toInt8.toInt32
set_option maxRecDepth 65536 in
set_option maxHeartbeats 40000000 in
theorem own_rm_si (l : Launch) (Z : State) (a0 : Array Value) (hw : ∀ d ∈ tables_1, d.before a0 Z = true) (ws : List Jvm.Cond) (a : Addr) (ar : Addr) (off : Int32) (ln : Int32) (f : Nat → Int32) (cs : Int32) (h0 : Heap) (n0 : Nat) (Z0 : n0 ≤ h0.size) (E0 : Exa Z h0 a "java/lang/String") (G0 : n0 ≤ a) (F0 : Fld Z h0 a "java/lang/String" "value" "[B" .null) (F1 : Fld Z h0 a "java/lang/String" "coder" "B" (.int (0 : Int32))) (n1 : ar ≠ a) (V0 : own_Ia Z h0 ar .char 6 f) (ho : 0 ≤ off.toInt) (hl : 0 ≤ ln.toInt) (hs : off.toInt + ln.toInt ≤ 6) (hf : ∀ i, i < 6 → 0 ≤ (f i).toInt ∧ (f i).toInt ≤ 255) (SC : Sta Z h0 "java/lang/String" "COMPACT_STRINGS" "Z" (.int cs)) (hcs : ¬ cs = (0 : Int32)) (hold : ∀ (b : Addr) (cl : Cell), Z.heap[b]? = some cl → h0[b]? = some cl) (hcst : Jvm.Lit.constHeld Z "java/lang/String" 7) (hcw : Jvm.Lit.compactW.before a0 Z = true) :
    MetFree l (⟨"java/lang/String", "<init>", "([CIILjava/lang/Void;)V"⟩ : MethodName) (head1 (Jvm.Cond.code (⟨"java/lang/String", "<init>", "([CIILjava/lang/Void;)V"⟩ : MethodName) jdk_42_method_149_code 6 none :: ws) ({ frames := 2, cells := 2, slots := 6, locals := 35 } : Room)) (fun a_ U_ => a_ = #[(.ref a), (.ref ar), (.int off), (.int ln), .null] ∧ Z.Warmed39 U_.vm ∧ U_.heap = h0 ∧ U_.vm.interned = Z.vm.interned) (fun _ _ _ _ _ => True) (fun _ U_ o_ U'_ => ∃ v_ L_, o_ = .returned v_ ∧ own_Q_si Z a ar off ln f cs h0 n0 v_ U'_.heap L_ ∧ ReturnedEndW U_ o_ U'_ L_ ({ frames := 2, cells := 2, slots := 6, locals := 35 } : Room).cells ({ frames := 2, cells := 2, slots := 6, locals := 35 } : Room).slots) := by
  refine MetFree.of_bodySF (plainFor_of_name own_pn_java_lang_String) hisR ?_
  intro p e s m args below meth c s₁ Bd hml0 hP hK
  obtain ⟨rfl, hZ, hh, hI⟩ := hP
  have hx := Bd.exec
  have hby := Bd.bytes
  have hlk : meth.locks = false := BodyLoose.notSynchronized Bd
  have hml : c.maxLocals = 6 := hml0
  have hown : s.vm.findClass "java/lang/String" = some m.cls := findClass_of_methodNamed Bd.named
  have hnm := (name_of_methodNamed Bd.named Bd.method).1
  have X0 : Stand p l e ({ frames := 2, cells := 2, slots := 6, locals := 35 } : Room) s m #[(.ref a), (.ref ar), (.int off), (.int ln), .null] below meth c s₁ [] 0 0 := Stand.of_body Bd
  have e0 : s₁.heap = h0 := by rw [← hh, Bd.state]; rfl
  have N0 := Fr.nil n0
  show own_Goes p e below (own_KS (own_Q_si Z a ar off ln f cs h0 n0) s ({ frames := 2, cells := 2, slots := 6, locals := 35 } : Room).cells ({ frames := 2, cells := 2, slots := 6, locals := 35 } : Room).slots) s₁ (entryFrame m #[(.ref a), (.ref ar), (.int off), (.int ln), .null] 6)
  rw [own_ef_si]
  have K0 := Keep.refl h0 [a]
  refine own_by (T' := s₁) (g' := (mkF m 1 #[.val (.ref a), .val (.ref ar), .val (.int off), .val (.int ln), .val .null, .unset] [(.ref a)])) (fun t_ k_ => XS.aloadN X0.here hx rfl (hb hby own_d_si_0) rfl rfl k_) ?_
  obtain ⟨T1, X1, e1, st1⟩ := initO X0 hx hZ hown (hw _ (List.mem_of_getElem? (i := 77) rfl)) (hw _ (List.mem_of_getElem? (i := 14) rfl)) (hw _ (List.mem_of_getElem? (i := 15) rfl)) e0 (g := (mkF m 1 #[.val (.ref a), .val (.ref ar), .val (.int off), .val (.int ln), .val .null, .unset] [(.ref a)])) rfl (by rw [hml]; rfl) rfl (hb hby own_d_si_1) (by decide) (W := 0) (by show 2 * 0 + _ ≤ _; exact Nat.le_of_eq rfl) (by decide)
  refine own_by (T' := T1) (g' := (mkF m 4 #[.val (.ref a), .val (.ref ar), .val (.int off), .val (.int ln), .val .null, .unset] [])) st1 ?_
  refine own_by (T' := T1) (g' := (mkF m 5 #[.val (.ref a), .val (.ref ar), .val (.int off), .val (.int ln), .val .null, .unset] [(.int ln)])) (fun t_ k_ => XS.iloadN X1.here hx rfl (hb hby own_d_si_4) rfl k_) ?_
  by_cases c5_2 : ln = (0 : Int32)
  · skip
    refine own_by (T' := T1) (g' := (mkF m 8 #[.val (.ref a), .val (.ref ar), .val (.int off), .val (.int ln), .val .null, .unset] [])) (fun t_ k_ => XS.ifNo X1.here hx rfl (hb hby own_d_si_5) rfl ((if0 _ _).trans (teq (c5_2 : ln = (0 : Int32))).2) k_) ?_
    refine own_by (T' := T1) (g' := (mkF m 9 #[.val (.ref a), .val (.ref ar), .val (.int off), .val (.int ln), .val .null, .unset] [(.ref a)])) (fun t_ k_ => XS.aloadN X1.here hx rfl (hb hby own_d_si_8) rfl rfl k_) ?_
    obtain ⟨sa3, sb3, T3, h3, X3, e3, E3, hS3, hZ, hown, Es3, Fc3, Fv3, Vs3, hL3, st3⟩ := own_ldcS X1 hx hZ hI hown (hw _ (List.mem_of_getElem? (i := 127) rfl)) (own_ws hw) e1 (by rw [hh]; exact Nat.le_refl _) (Fr.nil _) (fun b cl hb => by rw [hh]; exact hold b cl hb) hcst hcw (nl := 0) (f := fun _ => (0 : Int32)) (by decide) ⟨by decide, rfl⟩ (g := (mkF m 9 #[.val (.ref a), .val (.ref ar), .val (.int off), .val (.int ln), .val .null, .unset] [(.ref a)])) rfl (hb hby own_d_si_9) (n := 0) (by decide) (by decide) (by decide) (by decide)
    have ls3 : a ≠ sa3 := own_fne Fv3 (Fld.ext E3 F0)
    have lb3 : sb3 ≠ a := own_bne Vs3 (Exa.ext E3 E0) (hw _ (List.mem_of_getElem? (i := 57) rfl))
    have f4 := Nat.le_trans Z0 E3.1
    have f5 := Exa.ext E3 E0
    have f6 := Fld.ext E3 F0
    have f7 := Fld.ext E3 F1
    have f8 := own_Ia_ext E3 V0
    have f9 := Sta.ext E3 SC
    have f10 := K0.ext E3
    refine own_by (T' := T3) (g' := (mkF m 11 #[.val (.ref a), .val (.ref ar), .val (.int off), .val (.int ln), .val .null, .unset] [(.ref sa3), (.ref a)])) st3 ?_
    obtain ⟨T11, X11, e11, st11⟩ := getF X3 hx hZ hown (host := "") (Or.inl (hw _ (List.mem_of_getElem? (i := 92) rfl))) Via.refl e3 Fv3 (g := (mkF m 11 #[.val (.ref a), .val (.ref ar), .val (.int off), .val (.int ln), .val .null, .unset] [(.ref sa3), (.ref a)])) rfl rfl (hb hby own_d_si_11)
    refine own_by (T' := T11) (g' := (mkF m 14 #[.val (.ref a), .val (.ref ar), .val (.int off), .val (.int ln), .val .null, .unset] [(.ref sb3), (.ref a)])) st11 ?_
    obtain ⟨T12, h12, X12, e12, W12, st12⟩ := putF X11 hx hZ hown (host := "") (Or.inl (hw _ (List.mem_of_getElem? (i := 92) rfl))) Via.refl e11 f6 f5 (Or.inr ⟨(hw _ (List.mem_of_getElem? (i := 93) rfl)), rfl, hnm⟩) (hw _ (List.mem_of_getElem? (i := 57) rfl)) (ty := (.array .byte)) (by decide) rfl rfl (g := (mkF m 14 #[.val (.ref a), .val (.ref ar), .val (.int off), .val (.int ln), .val .null, .unset] [(.ref sb3), (.ref a)])) rfl rfl (hb hby own_d_si_14)
    refine own_by (T' := T12) (g' := (mkF m 17 #[.val (.ref a), .val (.ref ar), .val (.int off), .val (.int ln), .val .null, .unset] [])) st12 ?_
    have N12 := Fr.snoc X12 N0 G0
    have f13 := Nat.le_trans f4 (Keep.of_wr W12).1
    have f14 := Exa.wr W12 f5
    have f15 := Fld.same W12 f6
    have f16 := Fld.other W12 f7 (Or.inr (slot_ne (Or.inr (hw _ (List.mem_of_getElem? (i := 91) rfl))) (Or.inr (hw _ (List.mem_of_getElem? (i := 93) rfl))) (by decide) (t := .byte) (t' := (.array .byte)) (by decide) (by decide)))
    have f17 := own_Ia_other W12 f8 n1
    have f18 := Sta.wr W12 f9
    have f19 := Keep.wr f10 W12 (Or.inl (List.mem_of_getElem? (i := 0) rfl))
    have f20 := Nat.le_trans (Nat.le_refl h3.size) (Keep.of_wr W12).1
    have f21 := Fld.other W12 Fc3 (Or.inl (Ne.symm ls3))
    have f22 := Fld.other W12 Fv3 (Or.inl (Ne.symm ls3))
    have f23 := own_Ia_other W12 Vs3 lb3
    have f24 := Exa.wr W12 Es3
    refine own_by (T' := T12) (g' := (mkF m 18 #[.val (.ref a), .val (.ref ar), .val (.int off), .val (.int ln), .val .null, .unset] [(.ref a)])) (fun t_ k_ => XS.aloadN X12.here hx rfl (hb hby own_d_si_17) rfl rfl k_) ?_
    refine own_by (T' := T12) (g' := (mkF m 20 #[.val (.ref a), .val (.ref ar), .val (.int off), .val (.int ln), .val .null, .unset] [(.ref sa3), (.ref a)])) (fun t_ k_ => ldcAgain (vm0 := T3.vm) X12 hx hZ hown (hw _ (List.mem_of_getElem? (i := 127) rfl)) hL3 (g := (mkF m 18 #[.val (.ref a), .val (.ref ar), .val (.int off), .val (.int ln), .val .null, .unset] [(.ref a)])) rfl (hb hby own_d_si_18) _ k_) ?_
    obtain ⟨T25, X25, e25, st25⟩ := getF X12 hx hZ hown (host := "") (Or.inl (hw _ (List.mem_of_getElem? (i := 90) rfl))) Via.refl e12 f21 (g := (mkF m 20 #[.val (.ref a), .val (.ref ar), .val (.int off), .val (.int ln), .val .null, .unset] [(.ref sa3), (.ref a)])) rfl rfl (hb hby own_d_si_20)
    refine own_by (T' := T25) (g' := (mkF m 23 #[.val (.ref a), .val (.ref ar), .val (.int off), .val (.int ln), .val .null, .unset] [(.int (0 : Int32)), (.ref a)])) st25 ?_
    obtain ⟨T26, h26, X26, e26, W26, st26⟩ := putF X25 hx hZ hown (host := "") (Or.inl (hw _ (List.mem_of_getElem? (i := 90) rfl))) Via.refl e25 f16 f14 (Or.inr ⟨(hw _ (List.mem_of_getElem? (i := 91) rfl)), rfl, hnm⟩) (hw _ (List.mem_of_getElem? (i := 57) rfl)) (ty := .byte) (by decide) rfl rfl (g := (mkF m 23 #[.val (.ref a), .val (.ref ar), .val (.int off), .val (.int ln), .val .null, .unset] [(.int (0 : Int32)), (.ref a)])) rfl rfl (hb hby own_d_si_23)
    refine own_by (T' := T26) (g' := (mkF m 26 #[.val (.ref a), .val (.ref ar), .val (.int off), .val (.int ln), .val .null, .unset] [])) st26 ?_
    have N26 := Fr.snoc X26 N12 G0
    have f27 := Nat.le_trans f13 (Keep.of_wr W26).1
    have f28 := Exa.wr W26 f14
    have f29 := Fld.other W26 f15 (Or.inr (slot_ne (Or.inr (hw _ (List.mem_of_getElem? (i := 93) rfl))) (Or.inr (hw _ (List.mem_of_getElem? (i := 91) rfl))) (by decide) (t := (.array .byte)) (t' := .byte) (by decide) (by decide)))
    have f30 := Fld.same W26 f16
    have f31 := own_Ia_other W26 f17 n1
    have f32 := Sta.wr W26 f18
    have f33 := Keep.wr f19 W26 (Or.inl (List.mem_of_getElem? (i := 0) rfl))
    have f34 := Nat.le_trans f20 (Keep.of_wr W26).1
    have f35 := Fld.other W26 f21 (Or.inl (Ne.symm ls3))
    have f36 := Fld.other W26 f22 (Or.inl (Ne.symm ls3))
    have f37 := own_Ia_other W26 f23 lb3
    have f38 := Exa.wr W26 f24
    refine own_ret0W X26 hS3 (by rw [e26]; exact f34) hx Bd.returns hlk (hb hby own_d_si_26) (by decide) (by decide) ?_
    rw [e26]
    exact ⟨rfl, N26, f33, f28, f30, sb3, (fun _ => (0 : Int32)), f29, by rw [c5_2]; exact f37, fun i hi => absurd hi (by rw [c5_2]; exact Nat.not_lt_zero i)⟩
  · skip
    refine own_by (T' := T1) (g' := (mkF m 27 #[.val (.ref a), .val (.ref ar), .val (.int off), .val (.int ln), .val .null, .unset] [])) (fun t_ k_ => XS.ifYes X1.here hx rfl (pc0 := 5) (pc' := 27) rfl (hb hby own_d_si_5) rfl ((if0 _ _).trans (feq (c5_2 : ¬ (ln = (0 : Int32)))).2) (by decide) (by decide) k_) ?_
    obtain ⟨T39, X39, e39, st39⟩ := getS2 X1 hx hZ hown (host := "") (Or.inl (hw _ (List.mem_of_getElem? (i := 78) rfl))) Via.refl e1 SC (g := (mkF m 27 #[.val (.ref a), .val (.ref ar), .val (.int off), .val (.int ln), .val .null, .unset] [])) rfl (hb hby own_d_si_27)
    refine own_by (T' := T39) (g' := (mkF m 30 #[.val (.ref a), .val (.ref ar), .val (.int off), .val (.int ln), .val .null, .unset] [(.int cs)])) st39 ?_
    refine own_by (T' := T39) (g' := (mkF m 33 #[.val (.ref a), .val (.ref ar), .val (.int off), .val (.int ln), .val .null, .unset] [])) (fun t_ k_ => XS.ifNo X39.here hx rfl (hb hby own_d_si_30) rfl ((if0 _ _).trans (feq (hcs : ¬ (cs = (0 : Int32)))).1) k_) ?_
    refine own_by (T' := T39) (g' := (mkF m 34 #[.val (.ref a), .val (.ref ar), .val (.int off), .val (.int ln), .val .null, .unset] [(.ref ar)])) (fun t_ k_ => XS.aloadN X39.here hx rfl (hb hby own_d_si_33) rfl rfl k_) ?_
    refine own_by (T' := T39) (g' := (mkF m 35 #[.val (.ref a), .val (.ref ar), .val (.int off), .val (.int ln), .val .null, .unset] [(.int off), (.ref ar)])) (fun t_ k_ => XS.iloadN X39.here hx rfl (hb hby own_d_si_34) rfl k_) ?_
    refine own_by (T' := T39) (g' := (mkF m 36 #[.val (.ref a), .val (.ref ar), .val (.int off), .val (.int ln), .val .null, .unset] [(.int ln), (.int off), (.ref ar)])) (fun t_ k_ => XS.iloadN X39.here hx rfl (hb hby own_d_si_35) rfl k_) ?_
    obtain ⟨_, T40, L40, X40, hQ40, st40⟩ := own_callS X39 hx hZ (y := (⟨"java/lang/StringUTF16", "compress", "([CII)[B"⟩ : MethodName)) hown (hw _ (List.mem_of_getElem? (i := 79) rfl)) (hw _ (List.mem_of_getElem? (i := 80) rfl)) (hw _ (List.mem_of_getElem? (i := 81) rfl)) (hw _ (List.mem_of_getElem? (i := 82) rfl)) (by decide) (argsL := [(.ref ar), (.int off), (.int ln)]) (rest := []) (own_rm_c3 l Z a0 hw [] ar off ln f h0 n0 Z0 V0 ho (own_pos ln hl c5_2) hs hf) e39 (W := 0) (by decide) (by decide) (by decide) (by decide) (g := (mkF m 36 #[.val (.ref a), .val (.ref ar), .val (.int off), .val (.int ln), .val .null, .unset] [(.int ln), (.int off), (.ref ar)])) rfl (by rw [hml]; rfl) (lenOf own_pd5 rfl) rfl (by show 2 * 0 + _ ≤ _; exact Nat.le_of_eq rfl) (hb hby own_d_si_36)
    obtain ⟨nb40, g40, rfl, Nq40, Kq40, Vg40, hg40⟩ := hQ40
    have N40 := Fr.app N0 Nq40
    have f41 := own_Sta_keep SC Kq40 all0
    have f42 := Nat.le_trans Z0 Kq40.1
    have f43 := Exa.keep E0 Kq40
    have f44 := Fld.keep F0 Kq40 nin0
    have f45 := Fld.keep F1 Kq40 nin0
    have f46 := own_Ia_keep Kq40 V0 nin0
    have f47 := Keep.trans K0 Kq40 all0
    have lb40 : nb40 ≠ a := own_bne Vg40 f43 (hw _ (List.mem_of_getElem? (i := 57) rfl))
    refine st40 _ ?_
    show own_Goes p e below _ T40 (mkF m 39 #[.val (.ref a), .val (.ref ar), .val (.int off), .val (.int ln), .val .null, .unset] [(.ref nb40)])
    refine own_by (T' := T40) (g' := (mkF m 41 #[.val (.ref a), .val (.ref ar), .val (.int off), .val (.int ln), .val .null, .val (.ref nb40)] [])) (fun t_ k_ => XS.astore X40.here hx rfl (hb hby own_d_si_39) rfl rfl (l' := #[.val (.ref a), .val (.ref ar), .val (.int off), .val (.int ln), .val .null, .val (.ref nb40)]) rfl k_) ?_
    refine own_by (T' := T40) (g' := (mkF m 42 #[.val (.ref a), .val (.ref ar), .val (.int off), .val (.int ln), .val .null, .val (.ref nb40)] [(.ref a)])) (fun t_ k_ => XS.aloadN X40.here hx rfl (hb hby own_d_si_41) rfl rfl k_) ?_
    refine own_by (T' := T40) (g' := (mkF m 44 #[.val (.ref a), .val (.ref ar), .val (.int off), .val (.int ln), .val .null, .val (.ref nb40)] [(.ref nb40), (.ref a)])) (fun t_ k_ => XS.aload X40.here hx rfl (hb hby own_d_si_42) rfl rfl k_) ?_
    refine own_by (T' := T40) (g' := (mkF m 45 #[.val (.ref a), .val (.ref ar), .val (.int off), .val (.int ln), .val .null, .val (.ref nb40)] [(.int ln), (.ref nb40), (.ref a)])) (fun t_ k_ => XS.iloadN X40.here hx rfl (hb hby own_d_si_44) rfl k_) ?_
    obtain ⟨_, T48, L48, X48, hQ48, st48⟩ := own_callS X40 hx hZ (y := (⟨"java/lang/StringUTF16", "coderFromArrayLen", "([BI)B"⟩ : MethodName)) hown (hw _ (List.mem_of_getElem? (i := 87) rfl)) (hw _ (List.mem_of_getElem? (i := 88) rfl)) (hw _ (List.mem_of_getElem? (i := 81) rfl)) (hw _ (List.mem_of_getElem? (i := 89) rfl)) (by decide) (argsL := [(.ref nb40), (.int ln)]) (rest := [(.ref a)]) (own_rm_cfl l Z a0 hw [] nb40 ln g40 T40.heap n0 f42 Vg40 hl) rfl (W := 1) (by decide) (by decide) (by decide) (by decide) (g := (mkF m 45 #[.val (.ref a), .val (.ref ar), .val (.int off), .val (.int ln), .val .null, .val (.ref nb40)] [(.int ln), (.ref nb40), (.ref a)])) rfl (by rw [hml]; rfl) (lenOf own_pd6 rfl) rfl (by show 2 * 0 + _ ≤ _; exact Nat.le_of_eq rfl) (hb hby own_d_si_45)
    obtain ⟨rfl, Nq48, e48⟩ := hQ48
    have N48 := Fr.app N40 Nq48
    refine st48 _ ?_
    show own_Goes p e below _ T48 (mkF m 48 #[.val (.ref a), .val (.ref ar), .val (.int off), .val (.int ln), .val .null, .val (.ref nb40)] [(.int (0 : Int32)), (.ref a)])
    obtain ⟨T49, h49, X49, e49, W49, st49⟩ := putF X48 hx hZ hown (host := "") (Or.inl (hw _ (List.mem_of_getElem? (i := 90) rfl))) Via.refl e48 f45 f43 (Or.inr ⟨(hw _ (List.mem_of_getElem? (i := 91) rfl)), rfl, hnm⟩) (hw _ (List.mem_of_getElem? (i := 57) rfl)) (ty := .byte) (by decide) rfl rfl (g := (mkF m 48 #[.val (.ref a), .val (.ref ar), .val (.int off), .val (.int ln), .val .null, .val (.ref nb40)] [(.int (0 : Int32)), (.ref a)])) rfl rfl (hb hby own_d_si_48)
    refine own_by (T' := T49) (g' := (mkF m 51 #[.val (.ref a), .val (.ref ar), .val (.int off), .val (.int ln), .val .null, .val (.ref nb40)] [])) st49 ?_
    have N49 := Fr.snoc X49 N48 G0
    have f50 := Nat.le_trans f42 (Keep.of_wr W49).1
    have f51 := Exa.wr W49 f43
    have f52 := Fld.other W49 f44 (Or.inr (slot_ne (Or.inr (hw _ (List.mem_of_getElem? (i := 93) rfl))) (Or.inr (hw _ (List.mem_of_getElem? (i := 91) rfl))) (by decide) (t := (.array .byte)) (t' := .byte) (by decide) (by decide)))
    have f53 := Fld.same W49 f45
    have f54 := own_Ia_other W49 f46 n1
    have f55 := Sta.wr W49 f41
    have f56 := Keep.wr f47 W49 (Or.inl (List.mem_of_getElem? (i := 0) rfl))
    have f57 := own_Ia_other W49 Vg40 lb40
    refine own_by (T' := T49) (g' := (mkF m 52 #[.val (.ref a), .val (.ref ar), .val (.int off), .val (.int ln), .val .null, .val (.ref nb40)] [(.ref a)])) (fun t_ k_ => XS.aloadN X49.here hx rfl (hb hby own_d_si_51) rfl rfl k_) ?_
    refine own_by (T' := T49) (g' := (mkF m 54 #[.val (.ref a), .val (.ref ar), .val (.int off), .val (.int ln), .val .null, .val (.ref nb40)] [(.ref nb40), (.ref a)])) (fun t_ k_ => XS.aload X49.here hx rfl (hb hby own_d_si_52) rfl rfl k_) ?_
    obtain ⟨T58, h58, X58, e58, W58, st58⟩ := putF X49 hx hZ hown (host := "") (Or.inl (hw _ (List.mem_of_getElem? (i := 92) rfl))) Via.refl e49 f52 f51 (Or.inr ⟨(hw _ (List.mem_of_getElem? (i := 93) rfl)), rfl, hnm⟩) (hw _ (List.mem_of_getElem? (i := 57) rfl)) (ty := (.array .byte)) (by decide) rfl rfl (g := (mkF m 54 #[.val (.ref a), .val (.ref ar), .val (.int off), .val (.int ln), .val .null, .val (.ref nb40)] [(.ref nb40), (.ref a)])) rfl rfl (hb hby own_d_si_54)
    refine own_by (T' := T58) (g' := (mkF m 57 #[.val (.ref a), .val (.ref ar), .val (.int off), .val (.int ln), .val .null, .val (.ref nb40)] [])) st58 ?_
    have N58 := Fr.snoc X58 N49 G0
    have f59 := Nat.le_trans f50 (Keep.of_wr W58).1
    have f60 := Exa.wr W58 f51
    have f61 := Fld.same W58 f52
    have f62 := Fld.other W58 f53 (Or.inr (slot_ne (Or.inr (hw _ (List.mem_of_getElem? (i := 91) rfl))) (Or.inr (hw _ (List.mem_of_getElem? (i := 93) rfl))) (by decide) (t := .byte) (t' := (.array .byte)) (by decide) (by decide)))
    have f63 := own_Ia_other W58 f54 n1
    have f64 := Sta.wr W58 f55
    have f65 := Keep.wr f56 W58 (Or.inl (List.mem_of_getElem? (i := 0) rfl))
    have f66 := own_Ia_other W58 f57 lb40
    refine own_ret0W (vm1 := s.vm) X58 (State.WarmedH.since (State.WarmedH.refl s) 0) (Nat.zero_le _) hx Bd.returns hlk (hb hby own_d_si_57) (by decide) (by decide) ?_
    rw [e58]
    exact ⟨rfl, N58, f65, f60, f62, nb40, g40, f61, f66, hg40⟩
theorem own_pd7 : parseMethodDescriptor "([CII)Ljava/lang/Void;" = some ⟨[(.array .char), .int, .int], some (.object "java/lang/Void")⟩ := by decide +kernel
theorem own_pd8 : parseMethodDescriptor "([CIILjava/lang/Void;)V" = some ⟨[(.array .char), .int, .int, (.object "java/lang/Void")], none⟩ := by decide +kernel
theorem own_d_s3_0 : decode jdk_42_method_4_code 0 = .ok (.aload_n 0, 1) := by decide +kernel
theorem own_d_s3_1 : decode jdk_42_method_4_code 1 = .ok (.aload_n 1, 1) := by decide +kernel
theorem own_d_s3_2 : decode jdk_42_method_4_code 2 = .ok (.iload_n 2, 1) := by decide +kernel
theorem own_d_s3_3 : decode jdk_42_method_4_code 3 = .ok (.iload_n 3, 1) := by decide +kernel
theorem own_d_s3_4 : decode jdk_42_method_4_code 4 = .ok (.aload_n 1, 1) := by decide +kernel
theorem own_d_s3_5 : decode jdk_42_method_4_code 5 = .ok (.iload_n 2, 1) := by decide +kernel
theorem own_d_s3_6 : decode jdk_42_method_4_code 6 = .ok (.iload_n 3, 1) := by decide +kernel
theorem own_d_s3_7 : decode jdk_42_method_4_code 7 = .ok (.invokestatic 30, 3) := by decide +kernel
theorem own_d_s3_10 : decode jdk_42_method_4_code 10 = .ok (.invokespecial 27, 3) := by decide +kernel
theorem own_d_s3_13 : decode jdk_42_method_4_code 13 = .ok (.return_, 1) := by decide +kernel
theorem own_ef_s3 (m : MethodId) (a : Addr) (ar : Addr) (off : Int32) (ln : Int32) : entryFrame m #[(.ref a), (.ref ar), (.int off), (.int ln)] 4 = mkF m 0 #[.val (.ref a), .val (.ref ar), .val (.int off), .val (.int ln)] [] := by first | (simp [entryFrame, mkF, argsToLocals, Value.category]; done) | rfl
def own_Q_s3 (Z : State) (a : Addr) (ar : Addr) (off : Int32) (ln : Int32) (f : Nat → Int32) (cs : Int32) (fm : Value) (h0 : Heap) (n0 : Nat) (v : Option Value) (h : Heap) (L : List Loc) : Prop := v = none ∧ Fr n0 L ∧ Keep h0 h [a] ∧ Exa Z h a "java/lang/String" ∧ Fld Z h a "java/lang/String" "coder" "B" (.int (0 : Int32)) ∧ ∃ (b : Addr) (g : Nat → Int32), Fld Z h a "java/lang/String" "value" "[B" (.ref b) ∧ own_Ia Z h b .byte ln.toNatClampNeg g ∧ ∀ i, i < ln.toNatClampNeg → g i = (f (off.toNatClampNeg + i)).toInt8.toInt32
set_option maxRecDepth 65536 in
set_option maxHeartbeats 40000000 in
theorem own_rm_s3 (l : Launch) (Z : State) (a0 : Array Value) (hw : ∀ d ∈ tables_1, d.before a0 Z = true) (ws : List Jvm.Cond) (a : Addr) (ar : Addr) (off : Int32) (ln : Int32) (f : Nat → Int32) (cs : Int32) (fm : Value) (h0 : Heap) (n0 : Nat) (Z0 : n0 ≤ h0.size) (E0 : Exa Z h0 a "java/lang/String") (G0 : n0 ≤ a) (F0 : Fld Z h0 a "java/lang/String" "value" "[B" .null) (F1 : Fld Z h0 a "java/lang/String" "coder" "B" (.int (0 : Int32))) (n1 : ar ≠ a) (V0 : own_Ia Z h0 ar .char 6 f) (ho : 0 ≤ off.toInt) (hl : 0 ≤ ln.toInt) (hs : off.toInt + ln.toInt ≤ 6) (hf : ∀ i, i < 6 → 0 ≤ (f i).toInt ∧ (f i).toInt ≤ 255) (SC : Sta Z h0 "java/lang/String" "COMPACT_STRINGS" "Z" (.int cs)) (hcs : ¬ cs = (0 : Int32)) (hold : ∀ (b : Addr) (cl : Cell), Z.heap[b]? = some cl → h0[b]? = some cl) (hcst : Jvm.Lit.constHeld Z "java/lang/String" 7) (hcw : Jvm.Lit.compactW.before a0 Z = true) (SF : Sta Z h0 "jdk/internal/util/Preconditions" "SIOOBE_FORMATTER" "Ljava/util/function/BiFunction;" fm) (hfm : fm.isRef = true) :
    MetFree l (⟨"java/lang/String", "<init>", "([CII)V"⟩ : MethodName) (head1 (Jvm.Cond.code (⟨"java/lang/String", "<init>", "([CII)V"⟩ : MethodName) jdk_42_method_4_code 4 none :: ws) ({ frames := 3, cells := 2, slots := 6, locals := 52 } : Room)) (fun a_ U_ => a_ = #[(.ref a), (.ref ar), (.int off), (.int ln)] ∧ Z.Warmed39 U_.vm ∧ U_.heap = h0 ∧ U_.vm.interned = Z.vm.interned) (fun _ _ _ _ _ => True) (fun _ U_ o_ U'_ => ∃ v_ L_, o_ = .returned v_ ∧ own_Q_s3 Z a ar off ln f cs fm h0 n0 v_ U'_.heap L_ ∧ ReturnedEndW U_ o_ U'_ L_ ({ frames := 3, cells := 2, slots := 6, locals := 52 } : Room).cells ({ frames := 3, cells := 2, slots := 6, locals := 52 } : Room).slots) := by
  refine MetFree.of_bodySF (plainFor_of_name own_pn_java_lang_String) hisR ?_
  intro p e s m args below meth c s₁ Bd hml0 hP hK
  obtain ⟨rfl, hZ, hh, hI⟩ := hP
  have hx := Bd.exec
  have hby := Bd.bytes
  have hlk : meth.locks = false := BodyLoose.notSynchronized Bd
  have hml : c.maxLocals = 4 := hml0
  have hown : s.vm.findClass "java/lang/String" = some m.cls := findClass_of_methodNamed Bd.named
  have hnm := (name_of_methodNamed Bd.named Bd.method).1
  have X0 : Stand p l e ({ frames := 3, cells := 2, slots := 6, locals := 52 } : Room) s m #[(.ref a), (.ref ar), (.int off), (.int ln)] below meth c s₁ [] 0 0 := Stand.of_body Bd
  have e0 : s₁.heap = h0 := by rw [← hh, Bd.state]; rfl
  have N0 := Fr.nil n0
  show own_Goes p e below (own_KS (own_Q_s3 Z a ar off ln f cs fm h0 n0) s ({ frames := 3, cells := 2, slots := 6, locals := 52 } : Room).cells ({ frames := 3, cells := 2, slots := 6, locals := 52 } : Room).slots) s₁ (entryFrame m #[(.ref a), (.ref ar), (.int off), (.int ln)] 4)
  rw [own_ef_s3]
  have K0 := Keep.refl h0 [a]
  refine own_by (T' := s₁) (g' := (mkF m 1 #[.val (.ref a), .val (.ref ar), .val (.int off), .val (.int ln)] [(.ref a)])) (fun t_ k_ => XS.aloadN X0.here hx rfl (hb hby own_d_s3_0) rfl rfl k_) ?_
  refine own_by (T' := s₁) (g' := (mkF m 2 #[.val (.ref a), .val (.ref ar), .val (.int off), .val (.int ln)] [(.ref ar), (.ref a)])) (fun t_ k_ => XS.aloadN X0.here hx rfl (hb hby own_d_s3_1) rfl rfl k_) ?_
  refine own_by (T' := s₁) (g' := (mkF m 3 #[.val (.ref a), .val (.ref ar), .val (.int off), .val (.int ln)] [(.int off), (.ref ar), (.ref a)])) (fun t_ k_ => XS.iloadN X0.here hx rfl (hb hby own_d_s3_2) rfl k_) ?_
  refine own_by (T' := s₁) (g' := (mkF m 4 #[.val (.ref a), .val (.ref ar), .val (.int off), .val (.int ln)] [(.int ln), (.int off), (.ref ar), (.ref a)])) (fun t_ k_ => XS.iloadN X0.here hx rfl (hb hby own_d_s3_3) rfl k_) ?_
  refine own_by (T' := s₁) (g' := (mkF m 5 #[.val (.ref a), .val (.ref ar), .val (.int off), .val (.int ln)] [(.ref ar), (.int ln), (.int off), (.ref ar), (.ref a)])) (fun t_ k_ => XS.aloadN X0.here hx rfl (hb hby own_d_s3_4) rfl rfl k_) ?_
  refine own_by (T' := s₁) (g' := (mkF m 6 #[.val (.ref a), .val (.ref ar), .val (.int off), .val (.int ln)] [(.int off), (.ref ar), (.int ln), (.int off), (.ref ar), (.ref a)])) (fun t_ k_ => XS.iloadN X0.here hx rfl (hb hby own_d_s3_5) rfl k_) ?_
  refine own_by (T' := s₁) (g' := (mkF m 7 #[.val (.ref a), .val (.ref ar), .val (.int off), .val (.int ln)] [(.int ln), (.int off), (.ref ar), (.int ln), (.int off), (.ref ar), (.ref a)])) (fun t_ k_ => XS.iloadN X0.here hx rfl (hb hby own_d_s3_6) rfl k_) ?_
  obtain ⟨_, T1, L1, X1, hQ1, st1⟩ := own_callS X0 hx hZ (y := (⟨"java/lang/String", "rangeCheck", "([CII)Ljava/lang/Void;"⟩ : MethodName)) hown (hw _ (List.mem_of_getElem? (i := 62) rfl)) (hw _ (List.mem_of_getElem? (i := 63) rfl)) (hw _ (List.mem_of_getElem? (i := 58) rfl)) (hw _ (List.mem_of_getElem? (i := 64) rfl)) (by decide) (argsL := [(.ref ar), (.int off), (.int ln)]) (rest := [(.int ln), (.int off), (.ref ar), (.ref a)]) (own_rm_rck l Z a0 hw [] ar off ln fm f h0 n0 Z0 V0 SF hfm (own_h6 off ln ho hl hs)) e0 (W := 4) (by decide) (by decide) (by decide) (by decide) (g := (mkF m 7 #[.val (.ref a), .val (.ref ar), .val (.int off), .val (.int ln)] [(.int ln), (.int off), (.ref ar), (.int ln), (.int off), (.ref ar), (.ref a)])) rfl (by rw [hml]; rfl) (lenOf own_pd7 rfl) rfl (by show 2 * 0 + _ ≤ _; exact Nat.le_of_eq rfl) (hb hby own_d_s3_7)
  obtain ⟨rfl, Nq1, e1⟩ := hQ1
  have N1 := Fr.app N0 Nq1
  refine st1 _ ?_
  show own_Goes p e below _ T1 (mkF m 10 #[.val (.ref a), .val (.ref ar), .val (.int off), .val (.int ln)] [.null, (.int ln), (.int off), (.ref ar), (.ref a)])
  obtain ⟨_, T2, L2, X2, hS2, hZ, hown, hQ2, st2⟩ := own_callIS X1 hx hZ hI (y := (⟨"java/lang/String", "<init>", "([CIILjava/lang/Void;)V"⟩ : MethodName)) rfl hown (hw _ (List.mem_of_getElem? (i := 73) rfl)) (hw _ (List.mem_of_getElem? (i := 74) rfl)) (hw _ (List.mem_of_getElem? (i := 58) rfl)) (hw _ (List.mem_of_getElem? (i := 76) rfl)) (by decide) (argsL := [(.ref ar), (.int off), (.int ln), .null]) (rest := []) (own_rm_si l Z a0 hw [] a ar off ln f cs h0 n0 Z0 E0 G0 F0 F1 n1 V0 ho hl hs hf SC hcs hold hcst hcw) e1 (W := 0) (by decide) (by decide) (by decide) (by decide) (g := (mkF m 10 #[.val (.ref a), .val (.ref ar), .val (.int off), .val (.int ln)] [.null, (.int ln), (.int off), (.ref ar), (.ref a)])) rfl (by rw [hml]; rfl) (lenOf own_pd8 rfl) rfl (by show 2 * 0 + _ ≤ _; exact Nat.le_of_eq rfl) (hb hby own_d_s3_10)
  obtain ⟨rfl, Nq2, Kq2, Eq2, Fc2, sb, g, Fv2, Vg, hg⟩ := hQ2
  have N2 := Fr.app N1 Nq2
  have f3 := own_Sta_keep SC Kq2 (allS (fun cell hc => by obtain ⟨c1, _, h1, -, -, h4, -⟩ := E0; cases h1.symm.trans hc; exact h4) all0)
  have f4 := own_Sta_keep SF Kq2 (allS (fun cell hc => by obtain ⟨c1, _, h1, -, -, h4, -⟩ := E0; cases h1.symm.trans hc; exact h4) all0)
  have f5 := Nat.le_trans Z0 Kq2.1
  have f6 := Exa.keep E0 Kq2
  have f7 := own_Ia_keep Kq2 V0 (ninS n1 nin0)
  have f8 := Keep.trans K0 Kq2 (allS (Or.inl (List.mem_of_getElem? (i := 0) rfl)) all0)
  refine st2 _ ?_
  show own_Goes p e below _ T2 (mkF m 13 #[.val (.ref a), .val (.ref ar), .val (.int off), .val (.int ln)] [])
  refine own_ret0W X2 hS2 (Nat.le_refl T2.heap.size) hx Bd.returns hlk (hb hby own_d_s3_13) (by decide) (by decide) ?_
  exact ⟨rfl, N2, f8, f6, Fc2, sb, g, Fv2, Vg, hg⟩
theorem own_pd9 : parseMethodDescriptor "([CII)V" = some ⟨[(.array .char), .int, .int], none⟩ := by decide +kernel
theorem own_d_ts_0 : decode prog_3_method_14_code 0 = .ok (.new 13, 3) := by decide +kernel
theorem own_d_ts_3 : decode prog_3_method_14_code 3 = .ok (.dup, 1) := by decide +kernel
theorem own_d_ts_4 : decode prog_3_method_14_code 4 = .ok (.aload_n 0, 1) := by decide +kernel
theorem own_d_ts_5 : decode prog_3_method_14_code 5 = .ok (.getfield 26, 3) := by decide +kernel
theorem own_d_ts_8 : decode prog_3_method_14_code 8 = .ok (.aload_n 0, 1) := by decide +kernel
theorem own_d_ts_9 : decode prog_3_method_14_code 9 = .ok (.getfield 30, 3) := by decide +kernel
theorem own_d_ts_12 : decode prog_3_method_14_code 12 = .ok (.aload_n 0, 1) := by decide +kernel
theorem own_d_ts_13 : decode prog_3_method_14_code 13 = .ok (.getfield 34, 3) := by decide +kernel
theorem own_d_ts_16 : decode prog_3_method_14_code 16 = .ok (.aload_n 0, 1) := by decide +kernel
theorem own_d_ts_17 : decode prog_3_method_14_code 17 = .ok (.getfield 30, 3) := by decide +kernel
theorem own_d_ts_20 : decode prog_3_method_14_code 20 = .ok (.isub, 1) := by decide +kernel
theorem own_d_ts_21 : decode prog_3_method_14_code 21 = .ok (.invokespecial 152, 3) := by decide +kernel
theorem own_d_ts_24 : decode prog_3_method_14_code 24 = .ok (.areturn, 1) := by decide +kernel
theorem own_ef_ts (m : MethodId) (a : Addr) : entryFrame m #[(.ref a)] 1 = mkF m 0 #[.val (.ref a)] [] := by first | (simp [entryFrame, mkF, argsToLocals, Value.category]; done) | rfl
def own_Q_ts (Z : State) (a : Addr) (ar : Addr) (off : Int32) (ln : Int32) (f : Nat → Int32) (cs : Int32) (fm : Value) (h0 : Heap) (n0 : Nat) (v : Option Value) (h : Heap) (L : List Loc) : Prop := ∃ (sa b : Addr) (g : Nat → Int32), v = some (.ref sa) ∧ Fr n0 L ∧ Keep h0 h [] ∧ Exa Z h sa "java/lang/String" ∧ Fld Z h sa "java/lang/String" "coder" "B" (.int (0 : Int32)) ∧ Fld Z h sa "java/lang/String" "value" "[B" (.ref b) ∧ own_Ia Z h b .byte ln.toNatClampNeg g ∧ ∀ i, i < ln.toNatClampNeg → g i = (f (off.toNatClampNeg + i)).toInt8.toInt32
set_option maxRecDepth 65536 in
set_option maxHeartbeats 40000000 in
theorem own_rm_ts (l : Launch) (Z : State) (a0 : Array Value) (hw : ∀ d ∈ tables_1, d.before a0 Z = true) (ws : List Jvm.Cond) (a : Addr) (ar : Addr) (off : Int32) (ln : Int32) (f : Nat → Int32) (cs : Int32) (fm : Value) (h0 : Heap) (n0 : Nat) (Z0 : n0 ≤ h0.size) (R0 : Fld Z h0 a "com/example/enumconv/enumconv/core/Decimal$Reading" "text" "[C" (.ref ar)) (R1 : Fld Z h0 a "com/example/enumconv/enumconv/core/Decimal$Reading" "start" "I" (.int off)) (R2 : Fld Z h0 a "com/example/enumconv/enumconv/core/Decimal$Reading" "stop" "I" (.int (off + ln))) (E0 : Exa Z h0 a "com/example/enumconv/enumconv/core/Decimal$Reading") (V0 : own_Ia Z h0 ar .char 6 f) (ho : 0 ≤ off.toInt) (hl : 0 ≤ ln.toInt) (hs : off.toInt + ln.toInt ≤ 6) (hf : ∀ i, i < 6 → 0 ≤ (f i).toInt ∧ (f i).toInt ≤ 255) (SC : Sta Z h0 "java/lang/String" "COMPACT_STRINGS" "Z" (.int cs)) (hcs : ¬ cs = (0 : Int32)) (hold : ∀ (b : Addr) (cl : Cell), Z.heap[b]? = some cl → h0[b]? = some cl) (hcst : Jvm.Lit.constHeld Z "java/lang/String" 7) (hcw : Jvm.Lit.compactW.before a0 Z = true) (SF : Sta Z h0 "jdk/internal/util/Preconditions" "SIOOBE_FORMATTER" "Ljava/util/function/BiFunction;" fm) (hfm : fm.isRef = true) :
    MetFree l (⟨"com/example/enumconv/enumconv/core/Decimal$Reading", "toString", "()Ljava/lang/String;"⟩ : MethodName) (head1 (Jvm.Cond.code (⟨"com/example/enumconv/enumconv/core/Decimal$Reading", "toString", "()Ljava/lang/String;"⟩ : MethodName) prog_3_method_14_code 1 (some (.object "java/lang/String")) :: ws) ({ frames := 4, cells := 3, slots := 10, locals := 68 } : Room)) (fun a_ U_ => a_ = #[(.ref a)] ∧ Z.Warmed39 U_.vm ∧ U_.heap = h0 ∧ U_.vm.interned = Z.vm.interned) (fun _ _ _ _ _ => True) (fun _ U_ o_ U'_ => ∃ v_ L_, o_ = .returned v_ ∧ own_Q_ts Z a ar off ln f cs fm h0 n0 v_ U'_.heap L_ ∧ ReturnedEndW U_ o_ U'_ L_ ({ frames := 4, cells := 3, slots := 10, locals := 68 } : Room).cells ({ frames := 4, cells := 3, slots := 10, locals := 68 } : Room).slots) := by
  refine MetFree.of_bodySF (plainFor_of_name own_pn_com_example_enumconv_enumconv_core_Decimal_Reading) hisR ?_
  intro p e s m args below meth c s₁ Bd hml0 hP hK
  obtain ⟨rfl, hZ, hh, hI⟩ := hP
  have hx := Bd.exec
  have hby := Bd.bytes
  have hlk : meth.locks = false := BodyLoose.notSynchronized Bd
  have hml : c.maxLocals = 1 := hml0
  have hown : s.vm.findClass "com/example/enumconv/enumconv/core/Decimal$Reading" = some m.cls := findClass_of_methodNamed Bd.named
  have hnm := (name_of_methodNamed Bd.named Bd.method).1
  have X0 : Stand p l e ({ frames := 4, cells := 3, slots := 10, locals := 68 } : Room) s m #[(.ref a)] below meth c s₁ [] 0 0 := Stand.of_body Bd
  have e0 : s₁.heap = h0 := by rw [← hh, Bd.state]; rfl
  have N0 := Fr.nil n0
  show own_Goes p e below (own_KS (own_Q_ts Z a ar off ln f cs fm h0 n0) s ({ frames := 4, cells := 3, slots := 10, locals := 68 } : Room).cells ({ frames := 4, cells := 3, slots := 10, locals := 68 } : Room).slots) s₁ (entryFrame m #[(.ref a)] 1)
  rw [own_ef_ts]
  have K0 := Keep.refl h0 []
  obtain ⟨T1, h1, X1, e1, E1, A1, D1, -, st1⟩ := newO X0 hx hZ hown (hw _ (List.mem_of_getElem? (i := 56) rfl)) (hw _ (List.mem_of_getElem? (i := 57) rfl)) (hw _ (List.mem_of_getElem? (i := 58) rfl)) e0 (g := (mkF m 0 #[.val (.ref a)] [])) rfl (hb hby own_d_ts_0) (by decide) (by decide)
  obtain ⟨b1, g1⟩ : ∃ z, z = h0.size := ⟨_, rfl⟩
  rw [← g1] at A1 D1 st1
  have g_b1 : n0 ≤ b1 := Nat.le_trans Z0 (Nat.le_of_eq g1.symm)
  have ne2 : a ≠ b1 := Nat.ne_of_lt (Nat.lt_of_lt_of_le R0.lt (Nat.le_of_eq g1.symm))
  have ne3 : ar ≠ b1 := Nat.ne_of_lt (Nat.lt_of_lt_of_le (own_Ia_lt V0) (Nat.le_of_eq g1.symm))
  have k_b1 : h0.size ≤ b1 := Nat.le_trans K0.1 (Nat.le_of_eq g1.symm)
  have f4 := Nat.le_trans Z0 E1.1
  have f5 := Fld.ext E1 R0
  have f6 := Fld.ext E1 R1
  have f7 := Fld.ext E1 R2
  have f8 := Exa.ext E1 E0
  have f9 := own_Ia_ext E1 V0
  have f10 := Sta.ext E1 SC
  have f11 := Sta.ext E1 SF
  have f12 := K0.ext E1
  have F1_coder : Fld Z h1 b1 "java/lang/String" "coder" "B" (.int (0 : Int32)) := D1 (Or.inr (hw _ (List.mem_of_getElem? (i := 91) rfl))) (ty := .byte) (by decide)
  have F1_value : Fld Z h1 b1 "java/lang/String" "value" "[B" .null := D1 (Or.inr (hw _ (List.mem_of_getElem? (i := 93) rfl))) (ty := (.array .byte)) (by decide)
  refine own_by (T' := T1) (g' := (mkF m 3 #[.val (.ref a)] [(.ref b1)])) st1 ?_
  refine own_by (T' := T1) (g' := (mkF m 4 #[.val (.ref a)] [(.ref b1), (.ref b1)])) (fun t_ k_ => XS.dup X1.here hx rfl (hb hby own_d_ts_3) rfl rfl k_) ?_
  refine own_by (T' := T1) (g' := (mkF m 5 #[.val (.ref a)] [(.ref a), (.ref b1), (.ref b1)])) (fun t_ k_ => XS.aloadN X1.here hx rfl (hb hby own_d_ts_4) rfl rfl k_) ?_
  obtain ⟨T13, X13, e13, st13⟩ := getF X1 hx hZ hown (host := "") (Or.inl (hw _ (List.mem_of_getElem? (i := 21) rfl))) Via.refl e1 f5 (g := (mkF m 5 #[.val (.ref a)] [(.ref a), (.ref b1), (.ref b1)])) rfl rfl (hb hby own_d_ts_5)
  refine own_by (T' := T13) (g' := (mkF m 8 #[.val (.ref a)] [(.ref ar), (.ref b1), (.ref b1)])) st13 ?_
  refine own_by (T' := T13) (g' := (mkF m 9 #[.val (.ref a)] [(.ref a), (.ref ar), (.ref b1), (.ref b1)])) (fun t_ k_ => XS.aloadN X13.here hx rfl (hb hby own_d_ts_8) rfl rfl k_) ?_
  obtain ⟨T14, X14, e14, st14⟩ := getF X13 hx hZ hown (host := "") (Or.inl (hw _ (List.mem_of_getElem? (i := 23) rfl))) Via.refl e13 f6 (g := (mkF m 9 #[.val (.ref a)] [(.ref a), (.ref ar), (.ref b1), (.ref b1)])) rfl rfl (hb hby own_d_ts_9)
  refine own_by (T' := T14) (g' := (mkF m 12 #[.val (.ref a)] [(.int off), (.ref ar), (.ref b1), (.ref b1)])) st14 ?_
  refine own_by (T' := T14) (g' := (mkF m 13 #[.val (.ref a)] [(.ref a), (.int off), (.ref ar), (.ref b1), (.ref b1)])) (fun t_ k_ => XS.aloadN X14.here hx rfl (hb hby own_d_ts_12) rfl rfl k_) ?_
  obtain ⟨T15, X15, e15, st15⟩ := getF X14 hx hZ hown (host := "") (Or.inl (hw _ (List.mem_of_getElem? (i := 25) rfl))) Via.refl e14 f7 (g := (mkF m 13 #[.val (.ref a)] [(.ref a), (.int off), (.ref ar), (.ref b1), (.ref b1)])) rfl rfl (hb hby own_d_ts_13)
  refine own_by (T' := T15) (g' := (mkF m 16 #[.val (.ref a)] [(.int (off + ln)), (.int off), (.ref ar), (.ref b1), (.ref b1)])) st15 ?_
  refine own_by (T' := T15) (g' := (mkF m 17 #[.val (.ref a)] [(.ref a), (.int (off + ln)), (.int off), (.ref ar), (.ref b1), (.ref b1)])) (fun t_ k_ => XS.aloadN X15.here hx rfl (hb hby own_d_ts_16) rfl rfl k_) ?_
  obtain ⟨T16, X16, e16, st16⟩ := getF X15 hx hZ hown (host := "") (Or.inl (hw _ (List.mem_of_getElem? (i := 23) rfl))) Via.refl e15 f6 (g := (mkF m 17 #[.val (.ref a)] [(.ref a), (.int (off + ln)), (.int off), (.ref ar), (.ref b1), (.ref b1)])) rfl rfl (hb hby own_d_ts_17)
  refine own_by (T' := T16) (g' := (mkF m 20 #[.val (.ref a)] [(.int off), (.int (off + ln)), (.int off), (.ref ar), (.ref b1), (.ref b1)])) st16 ?_
  refine own_by (T' := T16) (g' := (mkF m 21 #[.val (.ref a)] [(.int ((off + ln) - off)), (.int off), (.ref ar), (.ref b1), (.ref b1)])) (fun t_ k_ => XS.isub X16.here hx rfl (hb hby own_d_ts_20) rfl k_) ?_
  rw [own_sub off ln]
  obtain ⟨_, T17, L17, X17, hS17, hZ, hown, hQ17, st17⟩ := own_callIS X16 hx hZ hI (y := (⟨"java/lang/String", "<init>", "([CII)V"⟩ : MethodName)) rfl hown (hw _ (List.mem_of_getElem? (i := 59) rfl)) (hw _ (List.mem_of_getElem? (i := 60) rfl)) (hw _ (List.mem_of_getElem? (i := 58) rfl)) (hw _ (List.mem_of_getElem? (i := 61) rfl)) (by decide) (argsL := [(.ref ar), (.int off), (.int ln)]) (rest := [(.ref b1)]) (own_rm_s3 l Z a0 hw [] b1 ar off ln f cs fm h1 n0 f4 A1 g_b1 F1_value F1_coder ne3 f9 ho hl hs hf f10 hcs (own_kold hold f12) hcst hcw f11 hfm) e16 (W := 1) (by decide) (by decide) (by decide) (by decide) (g := (mkF m 21 #[.val (.ref a)] [(.int ln), (.int off), (.ref ar), (.ref b1), (.ref b1)])) rfl (by rw [hml]; rfl) (lenOf own_pd9 rfl) rfl (by show 2 * 0 + _ ≤ _; exact Nat.le_of_eq rfl) (hb hby own_d_ts_21)
  obtain ⟨rfl, Nq17, Kq17, Eq17, Fc17, sb, g, Fv17, Vg, hg⟩ := hQ17
  have N17 := Fr.app N0 Nq17
  have f18 := own_Sta_keep f10 Kq17 (allS (fun cell hc => by obtain ⟨c1, _, h1, -, -, h4, -⟩ := A1; cases h1.symm.trans hc; exact h4) all0)
  have f19 := own_Sta_keep f11 Kq17 (allS (fun cell hc => by obtain ⟨c1, _, h1, -, -, h4, -⟩ := A1; cases h1.symm.trans hc; exact h4) all0)
  have f20 := Nat.le_trans f4 Kq17.1
  have f21 := Fld.keep f5 Kq17 (ninS ne2 nin0)
  have f22 := Fld.keep f6 Kq17 (ninS ne2 nin0)
  have f23 := Fld.keep f7 Kq17 (ninS ne2 nin0)
  have f24 := Exa.keep f8 Kq17
  have f25 := own_Ia_keep Kq17 f9 (ninS ne3 nin0)
  have f26 := Keep.trans f12 Kq17 (allS (Or.inr k_b1) all0)
  have f27 := Exa.keep A1 Kq17
  refine st17 _ ?_
  show own_Goes p e below _ T17 (mkF m 24 #[.val (.ref a)] [(.ref b1)])
  refine own_retRW X17 hS17 (Nat.le_refl T17.heap.size) hx Bd.returns hlk rfl rfl (hb hby own_d_ts_24) (by decide) (by decide) ?_
  exact ⟨b1, sb, g, rfl, N17, f26, f27, Fc17, Fv17, Vg, hg⟩
theorem own_d_cod_0 : decode jdk_42_method_152_code 0 = .ok (.getstatic 38, 3) := by decide +kernel
theorem own_d_cod_3 : decode jdk_42_method_152_code 3 = .ok (.ifCond .eq 10, 3) := by decide +kernel
theorem own_d_cod_6 : decode jdk_42_method_152_code 6 = .ok (.aload_n 0, 1) := by decide +kernel
theorem own_d_cod_7 : decode jdk_42_method_152_code 7 = .ok (.getfield 15, 3) := by decide +kernel
theorem own_d_cod_10 : decode jdk_42_method_152_code 10 = .ok (.goto 4, 3) := by decide +kernel
theorem own_d_cod_14 : decode jdk_42_method_152_code 14 = .ok (.ireturn, 1) := by decide +kernel
theorem own_ef_cod (m : MethodId) (a : Addr) : entryFrame m #[(.ref a)] 1 = mkF m 0 #[.val (.ref a)] [] := by first | (simp [entryFrame, mkF, argsToLocals, Value.category]; done) | rfl
def own_Q_cod (Z : State) (a : Addr) (cs : Int32) (h0 : Heap) (n0 : Nat) (v : Option Value) (h : Heap) (L : List Loc) : Prop := v = some (.int (0 : Int32)) ∧ Fr n0 L ∧ h = h0
set_option maxRecDepth 65536 in
set_option maxHeartbeats 40000000 in
theorem own_rm_cod (l : Launch) (Z : State) (a0 : Array Value) (hw : ∀ d ∈ tables_1, d.before a0 Z = true) (ws : List Jvm.Cond) (a : Addr) (cs : Int32) (h0 : Heap) (n0 : Nat) (Z0 : n0 ≤ h0.size) (F1 : Fld Z h0 a "java/lang/String" "coder" "B" (.int (0 : Int32))) (SC : Sta Z h0 "java/lang/String" "COMPACT_STRINGS" "Z" (.int cs)) (hcs : ¬ cs = (0 : Int32)) :
    MetFree l (⟨"java/lang/String", "coder", "()B"⟩ : MethodName) (head1 (Jvm.Cond.code (⟨"java/lang/String", "coder", "()B"⟩ : MethodName) jdk_42_method_152_code 1 (some .byte) :: ws) ({ frames := 0, cells := 0, slots := 0, locals := 0 } : Room)) (fun a_ U_ => a_ = #[(.ref a)] ∧ Z.Warmed39 U_.vm ∧ U_.heap = h0) (fun _ _ _ _ _ => True) (fun _ U_ o_ U'_ => ∃ v_ L_, o_ = .returned v_ ∧ own_Q_cod Z a cs h0 n0 v_ U'_.heap L_ ∧ FrameEnd U_ o_ U'_ L_ ({ frames := 0, cells := 0, slots := 0, locals := 0 } : Room).cells ({ frames := 0, cells := 0, slots := 0, locals := 0 } : Room).slots) := by
  refine MetFree.of_bodySF (plainFor_of_name own_pn_java_lang_String) hisR ?_
  intro p e s m args below meth c s₁ Bd hml0 hP hK
  obtain ⟨rfl, hZ, hh⟩ := hP
  have hx := Bd.exec
  have hby := Bd.bytes
  have hlk : meth.locks = false := BodyLoose.notSynchronized Bd
  have hml : c.maxLocals = 1 := hml0
  have hown : s.vm.findClass "java/lang/String" = some m.cls := findClass_of_methodNamed Bd.named
  have hnm := (name_of_methodNamed Bd.named Bd.method).1
  have X0 : Stand p l e ({ frames := 0, cells := 0, slots := 0, locals := 0 } : Room) s m #[(.ref a)] below meth c s₁ [] 0 0 := Stand.of_body Bd
  have e0 : s₁.heap = h0 := by rw [← hh, Bd.state]; rfl
  have N0 := Fr.nil n0
  show own_Goes p e below (own_K (own_Q_cod Z a cs h0 n0) s ({ frames := 0, cells := 0, slots := 0, locals := 0 } : Room).cells ({ frames := 0, cells := 0, slots := 0, locals := 0 } : Room).slots) s₁ (entryFrame m #[(.ref a)] 1)
  rw [own_ef_cod]
  obtain ⟨T1, X1, e1, st1⟩ := getS2 X0 hx hZ hown (host := "") (Or.inl (hw _ (List.mem_of_getElem? (i := 78) rfl))) Via.refl e0 SC (g := (mkF m 0 #[.val (.ref a)] [])) rfl (hb hby own_d_cod_0)
  refine own_by (T' := T1) (g' := (mkF m 3 #[.val (.ref a)] [(.int cs)])) st1 ?_
  refine own_by (T' := T1) (g' := (mkF m 6 #[.val (.ref a)] [])) (fun t_ k_ => XS.ifNo X1.here hx rfl (hb hby own_d_cod_3) rfl ((if0 _ _).trans (feq (hcs : ¬ (cs = (0 : Int32)))).1) k_) ?_
  refine own_by (T' := T1) (g' := (mkF m 7 #[.val (.ref a)] [(.ref a)])) (fun t_ k_ => XS.aloadN X1.here hx rfl (hb hby own_d_cod_6) rfl rfl k_) ?_
  obtain ⟨T2, X2, e2, st2⟩ := getF X1 hx hZ hown (host := "") (Or.inl (hw _ (List.mem_of_getElem? (i := 90) rfl))) Via.refl e1 F1 (g := (mkF m 7 #[.val (.ref a)] [(.ref a)])) rfl rfl (hb hby own_d_cod_7)
  refine own_by (T' := T2) (g' := (mkF m 10 #[.val (.ref a)] [(.int (0 : Int32))])) st2 ?_
  refine own_by (T' := T2) (g' := (mkF m 14 #[.val (.ref a)] [(.int (0 : Int32))])) (fun t_ k_ => XS.goto X2.here hx rfl (pc0 := 10) (pc' := 14) rfl (hb hby own_d_cod_10) (by decide) (by decide) k_) ?_
  refine own_retN X2 hx (t := .byte) Bd.returns hlk (by simp) (hb hby own_d_cod_14) (by decide) (by decide) (v := (0 : Int32)) rfl ?_
  rw [e2]
  exact ⟨rfl, N0, rfl⟩
theorem own_d_lat_0 : decode jdk_42_method_154_code 0 = .ok (.getstatic 38, 3) := by decide +kernel
theorem own_d_lat_3 : decode jdk_42_method_154_code 3 = .ok (.ifCond .eq 14, 3) := by decide +kernel
theorem own_d_lat_6 : decode jdk_42_method_154_code 6 = .ok (.aload_n 0, 1) := by decide +kernel
theorem own_d_lat_7 : decode jdk_42_method_154_code 7 = .ok (.getfield 15, 3) := by decide +kernel
theorem own_d_lat_10 : decode jdk_42_method_154_code 10 = .ok (.ifCond .ne 7, 3) := by decide +kernel
theorem own_d_lat_13 : decode jdk_42_method_154_code 13 = .ok (.iconst 1, 1) := by decide +kernel
theorem own_d_lat_14 : decode jdk_42_method_154_code 14 = .ok (.goto 4, 3) := by decide +kernel
theorem own_d_lat_18 : decode jdk_42_method_154_code 18 = .ok (.ireturn, 1) := by decide +kernel
theorem own_ef_lat (m : MethodId) (a : Addr) : entryFrame m #[(.ref a)] 1 = mkF m 0 #[.val (.ref a)] [] := by first | (simp [entryFrame, mkF, argsToLocals, Value.category]; done) | rfl
def own_Q_lat (Z : State) (a : Addr) (cs : Int32) (h0 : Heap) (n0 : Nat) (v : Option Value) (h : Heap) (L : List Loc) : Prop := v = some (.int (1 : Int32)) ∧ Fr n0 L ∧ h = h0
set_option maxRecDepth 65536 in
set_option maxHeartbeats 40000000 in
theorem own_rm_lat (l : Launch) (Z : State) (a0 : Array Value) (hw : ∀ d ∈ tables_1, d.before a0 Z = true) (ws : List Jvm.Cond) (a : Addr) (cs : Int32) (h0 : Heap) (n0 : Nat) (Z0 : n0 ≤ h0.size) (F1 : Fld Z h0 a "java/lang/String" "coder" "B" (.int (0 : Int32))) (SC : Sta Z h0 "java/lang/String" "COMPACT_STRINGS" "Z" (.int cs)) (hcs : ¬ cs = (0 : Int32)) :
    MetFree l (⟨"java/lang/String", "isLatin1", "()Z"⟩ : MethodName) (head1 (Jvm.Cond.code (⟨"java/lang/String", "isLatin1", "()Z"⟩ : MethodName) jdk_42_method_154_code 1 (some .boolean) :: ws) ({ frames := 0, cells := 0, slots := 0, locals := 0 } : Room)) (fun a_ U_ => a_ = #[(.ref a)] ∧ Z.Warmed39 U_.vm ∧ U_.heap = h0) (fun _ _ _ _ _ => True) (fun _ U_ o_ U'_ => ∃ v_ L_, o_ = .returned v_ ∧ own_Q_lat Z a cs h0 n0 v_ U'_.heap L_ ∧ FrameEnd U_ o_ U'_ L_ ({ frames := 0, cells := 0, slots := 0, locals := 0 } : Room).cells ({ frames := 0, cells := 0, slots := 0, locals := 0 } : Room).slots) := by
  refine MetFree.of_bodySF (plainFor_of_name own_pn_java_lang_String) hisR ?_
  intro p e s m args below meth c s₁ Bd hml0 hP hK
  obtain ⟨rfl, hZ, hh⟩ := hP
  have hx := Bd.exec
  have hby := Bd.bytes
  have hlk : meth.locks = false := BodyLoose.notSynchronized Bd
  have hml : c.maxLocals = 1 := hml0
  have hown : s.vm.findClass "java/lang/String" = some m.cls := findClass_of_methodNamed Bd.named
  have hnm := (name_of_methodNamed Bd.named Bd.method).1
  have X0 : Stand p l e ({ frames := 0, cells := 0, slots := 0, locals := 0 } : Room) s m #[(.ref a)] below meth c s₁ [] 0 0 := Stand.of_body Bd
  have e0 : s₁.heap = h0 := by rw [← hh, Bd.state]; rfl
  have N0 := Fr.nil n0
  show own_Goes p e below (own_K (own_Q_lat Z a cs h0 n0) s ({ frames := 0, cells := 0, slots := 0, locals := 0 } : Room).cells ({ frames := 0, cells := 0, slots := 0, locals := 0 } : Room).slots) s₁ (entryFrame m #[(.ref a)] 1)
  rw [own_ef_lat]
  obtain ⟨T1, X1, e1, st1⟩ := getS2 X0 hx hZ hown (host := "") (Or.inl (hw _ (List.mem_of_getElem? (i := 78) rfl))) Via.refl e0 SC (g := (mkF m 0 #[.val (.ref a)] [])) rfl (hb hby own_d_lat_0)
  refine own_by (T' := T1) (g' := (mkF m 3 #[.val (.ref a)] [(.int cs)])) st1 ?_
  refine own_by (T' := T1) (g' := (mkF m 6 #[.val (.ref a)] [])) (fun t_ k_ => XS.ifNo X1.here hx rfl (hb hby own_d_lat_3) rfl ((if0 _ _).trans (feq (hcs : ¬ (cs = (0 : Int32)))).1) k_) ?_
  refine own_by (T' := T1) (g' := (mkF m 7 #[.val (.ref a)] [(.ref a)])) (fun t_ k_ => XS.aloadN X1.here hx rfl (hb hby own_d_lat_6) rfl rfl k_) ?_
  obtain ⟨T2, X2, e2, st2⟩ := getF X1 hx hZ hown (host := "") (Or.inl (hw _ (List.mem_of_getElem? (i := 90) rfl))) Via.refl e1 F1 (g := (mkF m 7 #[.val (.ref a)] [(.ref a)])) rfl rfl (hb hby own_d_lat_7)
  refine own_by (T' := T2) (g' := (mkF m 10 #[.val (.ref a)] [(.int (0 : Int32))])) st2 ?_
  refine own_by (T' := T2) (g' := (mkF m 13 #[.val (.ref a)] [])) (fun t_ k_ => XS.ifNo X2.here hx rfl (hb hby own_d_lat_10) rfl ((if0 _ _).trans (teq ((by decide) : (0 : Int32) = (0 : Int32))).2) k_) ?_
  refine own_by (T' := T2) (g' := (mkF m 14 #[.val (.ref a)] [(.int (1 : Int32))])) (fun t_ k_ => XS.iconst X2.here hx rfl (hb hby own_d_lat_13) k_) ?_
  refine own_by (T' := T2) (g' := (mkF m 18 #[.val (.ref a)] [(.int (1 : Int32))])) (fun t_ k_ => XS.goto X2.here hx rfl (pc0 := 14) (pc' := 18) rfl (hb hby own_d_lat_14) (by decide) (by decide) k_) ?_
  refine own_retN X2 hx (t := .boolean) Bd.returns hlk (by simp) (hb hby own_d_lat_18) (by decide) (by decide) (v := (1 : Int32)) rfl ?_
  rw [e2]
  exact ⟨rfl, N0, rfl⟩
theorem own_pd10 : parseMethodDescriptor "()B" = some ⟨[], some .byte⟩ := by decide +kernel
theorem own_d_leng_0 : decode jdk_42_method_54_code 0 = .ok (.aload_n 0, 1) := by decide +kernel
theorem own_d_leng_1 : decode jdk_42_method_54_code 1 = .ok (.getfield 9, 3) := by decide +kernel
theorem own_d_leng_4 : decode jdk_42_method_54_code 4 = .ok (.arraylength, 1) := by decide +kernel
theorem own_d_leng_5 : decode jdk_42_method_54_code 5 = .ok (.aload_n 0, 1) := by decide +kernel
theorem own_d_leng_6 : decode jdk_42_method_54_code 6 = .ok (.invokevirtual 335, 3) := by decide +kernel
theorem own_d_leng_9 : decode jdk_42_method_54_code 9 = .ok (.ishr, 1) := by decide +kernel
theorem own_d_leng_10 : decode jdk_42_method_54_code 10 = .ok (.ireturn, 1) := by decide +kernel
theorem own_ef_leng (m : MethodId) (a : Addr) : entryFrame m #[(.ref a)] 1 = mkF m 0 #[.val (.ref a)] [] := by first | (simp [entryFrame, mkF, argsToLocals, Value.category]; done) | rfl
def own_Q_leng (Z : State) (a : Addr) (b : Addr) (ln : Int32) (g : Nat → Int32) (cs : Int32) (h0 : Heap) (n0 : Nat) (v : Option Value) (h : Heap) (L : List Loc) : Prop := v = some (.int ln) ∧ Fr n0 L ∧ h = h0
set_option maxRecDepth 65536 in
set_option maxHeartbeats 40000000 in
theorem own_rm_leng (l : Launch) (Z : State) (a0 : Array Value) (hw : ∀ d ∈ tables_1, d.before a0 Z = true) (ws : List Jvm.Cond) (a : Addr) (b : Addr) (ln : Int32) (g : Nat → Int32) (cs : Int32) (h0 : Heap) (n0 : Nat) (Z0 : n0 ≤ h0.size) (E0 : Exa Z h0 a "java/lang/String") (F1 : Fld Z h0 a "java/lang/String" "coder" "B" (.int (0 : Int32))) (F0 : Fld Z h0 a "java/lang/String" "value" "[B" (.ref b)) (V0 : own_Ia Z h0 b .byte ln.toNatClampNeg g) (SC : Sta Z h0 "java/lang/String" "COMPACT_STRINGS" "Z" (.int cs)) (hcs : ¬ cs = (0 : Int32)) (hl : 0 ≤ ln.toInt) :
    MetFree l (⟨"java/lang/String", "length", "()I"⟩ : MethodName) (head1 (Jvm.Cond.code (⟨"java/lang/String", "length", "()I"⟩ : MethodName) jdk_42_method_54_code 1 (some .int) :: ws) ({ frames := 1, cells := 0, slots := 0, locals := 13 } : Room)) (fun a_ U_ => a_ = #[(.ref a)] ∧ Z.Warmed39 U_.vm ∧ U_.heap = h0) (fun _ _ _ _ _ => True) (fun _ U_ o_ U'_ => ∃ v_ L_, o_ = .returned v_ ∧ own_Q_leng Z a b ln g cs h0 n0 v_ U'_.heap L_ ∧ FrameEnd U_ o_ U'_ L_ ({ frames := 1, cells := 0, slots := 0, locals := 13 } : Room).cells ({ frames := 1, cells := 0, slots := 0, locals := 13 } : Room).slots) := by
  refine MetFree.of_bodySF (plainFor_of_name own_pn_java_lang_String) hisR ?_
  intro p e s m args below meth c s₁ Bd hml0 hP hK
  obtain ⟨rfl, hZ, hh⟩ := hP
  have hx := Bd.exec
  have hby := Bd.bytes
  have hlk : meth.locks = false := BodyLoose.notSynchronized Bd
  have hml : c.maxLocals = 1 := hml0
  have hown : s.vm.findClass "java/lang/String" = some m.cls := findClass_of_methodNamed Bd.named
  have hnm := (name_of_methodNamed Bd.named Bd.method).1
  have X0 : Stand p l e ({ frames := 1, cells := 0, slots := 0, locals := 13 } : Room) s m #[(.ref a)] below meth c s₁ [] 0 0 := Stand.of_body Bd
  have e0 : s₁.heap = h0 := by rw [← hh, Bd.state]; rfl
  have N0 := Fr.nil n0
  show own_Goes p e below (own_K (own_Q_leng Z a b ln g cs h0 n0) s ({ frames := 1, cells := 0, slots := 0, locals := 13 } : Room).cells ({ frames := 1, cells := 0, slots := 0, locals := 13 } : Room).slots) s₁ (entryFrame m #[(.ref a)] 1)
  rw [own_ef_leng]
  refine own_by (T' := s₁) (g' := (mkF m 1 #[.val (.ref a)] [(.ref a)])) (fun t_ k_ => XS.aloadN X0.here hx rfl (hb hby own_d_leng_0) rfl rfl k_) ?_
  obtain ⟨T1, X1, e1, st1⟩ := getF X0 hx hZ hown (host := "") (Or.inl (hw _ (List.mem_of_getElem? (i := 92) rfl))) Via.refl e0 F0 (g := (mkF m 1 #[.val (.ref a)] [(.ref a)])) rfl rfl (hb hby own_d_leng_1)
  refine own_by (T' := T1) (g' := (mkF m 4 #[.val (.ref a)] [(.ref b)])) st1 ?_
  refine own_by (T' := T1) (g' := (mkF m 5 #[.val (.ref a)] [(.int ln)])) (fun t_ k_ => own_alen X1 hx hZ e1 V0 (z := ln) (own_l32 ln hl) (g := (mkF m 4 #[.val (.ref a)] [(.ref b)])) rfl rfl (hb hby own_d_leng_4) _ k_) ?_
  refine own_by (T' := T1) (g' := (mkF m 6 #[.val (.ref a)] [(.ref a), (.int ln)])) (fun t_ k_ => XS.aloadN X1.here hx rfl (hb hby own_d_leng_5) rfl rfl k_) ?_
  obtain ⟨_, T2, L2, X2, hQ2, st2⟩ := own_callV X1 hx hZ (y := (⟨"java/lang/String", "coder", "()B"⟩ : MethodName)) hown (hw _ (List.mem_of_getElem? (i := 99) rfl)) (hw _ (List.mem_of_getElem? (i := 100) rfl)) (hw _ (List.mem_of_getElem? (i := 102) rfl)) (hw _ (List.mem_of_getElem? (i := 101) rfl)) (hw _ (List.mem_of_getElem? (i := 58) rfl)) (hw _ (List.mem_of_getElem? (i := 103) rfl)) (by decide) (argsL := []) (rest := [(.int ln)]) E0 (own_rm_cod l Z a0 hw [] a cs h0 n0 Z0 F1 SC hcs) e1 (W := 1) (by decide) (by decide) (by decide) (by decide) (g := (mkF m 6 #[.val (.ref a)] [(.ref a), (.int ln)])) rfl (by rw [hml]; rfl) (lenOf own_pd10 rfl) rfl (by show 2 * 0 + _ ≤ _; exact Nat.le_of_eq rfl) (hb hby own_d_leng_6)
  obtain ⟨rfl, Nq2, e2⟩ := hQ2
  have N2 := Fr.app N0 Nq2
  refine st2 _ ?_
  show own_Goes p e below _ T2 (mkF m 9 #[.val (.ref a)] [(.int (0 : Int32)), (.int ln)])
  refine own_by (T' := T2) (g' := (mkF m 10 #[.val (.ref a)] [(.int (ln >>> ((0 : Int32) &&& 31)))])) (fun t_ k_ => XS.ishr X2.here hx rfl (hb hby own_d_leng_9) rfl k_) ?_
  refine own_retI X2 hx Bd.returns hlk (hb hby own_d_leng_10) (by decide) (by decide) ?_
  rw [e2]
  exact ⟨by rw [own_shr0], N2, rfl⟩
theorem own_d_pci_0 : decode jdk_41_method_11_code 0 = .ok (.iload_n 0, 1) := by decide +kernel
theorem own_d_pci_1 : decode jdk_41_method_11_code 1 = .ok (.ifCond .lt 8, 3) := by decide +kernel
theorem own_d_pci_4 : decode jdk_41_method_11_code 4 = .ok (.iload_n 0, 1) := by decide +kernel
theorem own_d_pci_5 : decode jdk_41_method_11_code 5 = .ok (.iload_n 1, 1) := by decide +kernel
theorem own_d_pci_6 : decode jdk_41_method_11_code 6 = .ok (.if_icmp .lt 10, 3) := by decide +kernel
theorem own_d_pci_16 : decode jdk_41_method_11_code 16 = .ok (.iload_n 0, 1) := by decide +kernel
theorem own_d_pci_17 : decode jdk_41_method_11_code 17 = .ok (.ireturn, 1) := by decide +kernel
theorem own_ef_pci (m : MethodId) (i : Int32) (ln : Int32) (fm : Value) (hfm : fm.isRef = true) : entryFrame m #[(.int i), (.int ln), fm] 3 = mkF m 0 #[.val (.int i), .val (.int ln), .val fm] [] := by
  rcases ref_cases hfm with rfl | ⟨a_, rfl⟩ <;> first | (simp [entryFrame, mkF, argsToLocals, Value.category]; done) | rfl
def own_Q_pci (Z : State) (i : Int32) (ln : Int32) (fm : Value) (h0 : Heap) (n0 : Nat) (v : Option Value) (h : Heap) (L : List Loc) : Prop := v = some (.int i) ∧ Fr n0 L ∧ h = h0
set_option maxRecDepth 65536 in
set_option maxHeartbeats 40000000 in
theorem own_rm_pci (l : Launch) (Z : State) (a0 : Array Value) (hw : ∀ d ∈ tables_1, d.before a0 Z = true) (ws : List Jvm.Cond) (i : Int32) (ln : Int32) (fm : Value) (h0 : Heap) (n0 : Nat) (Z0 : n0 ≤ h0.size) (hfm : fm.isRef = true) (hi : 0 ≤ i.toInt ∧ i.toInt < ln.toInt) :
    MetFree l (⟨"jdk/internal/util/Preconditions", "checkIndex", "(IILjava/util/function/BiFunction;)I"⟩ : MethodName) (head1 (Jvm.Cond.code (⟨"jdk/internal/util/Preconditions", "checkIndex", "(IILjava/util/function/BiFunction;)I"⟩ : MethodName) jdk_41_method_11_code 3 (some .int) :: ws) ({ frames := 0, cells := 0, slots := 0, locals := 0 } : Room)) (fun a_ U_ => a_ = #[(.int i), (.int ln), fm] ∧ Z.Warmed39 U_.vm ∧ U_.heap = h0) (fun _ _ _ _ _ => True) (fun _ U_ o_ U'_ => ∃ v_ L_, o_ = .returned v_ ∧ own_Q_pci Z i ln fm h0 n0 v_ U'_.heap L_ ∧ FrameEnd U_ o_ U'_ L_ ({ frames := 0, cells := 0, slots := 0, locals := 0 } : Room).cells ({ frames := 0, cells := 0, slots := 0, locals := 0 } : Room).slots) := by
  refine MetFree.of_bodySF (plainFor_of_name own_pn_jdk_internal_util_Preconditions) hisR ?_
  intro p e s m args below meth c s₁ Bd hml0 hP hK
  obtain ⟨rfl, hZ, hh⟩ := hP
  have hx := Bd.exec
  have hby := Bd.bytes
  have hlk : meth.locks = false := BodyLoose.notSynchronized Bd
  have hml : c.maxLocals = 3 := hml0
  have hown : s.vm.findClass "jdk/internal/util/Preconditions" = some m.cls := findClass_of_methodNamed Bd.named
  have hnm := (name_of_methodNamed Bd.named Bd.method).1
  have X0 : Stand p l e ({ frames := 0, cells := 0, slots := 0, locals := 0 } : Room) s m #[(.int i), (.int ln), fm] below meth c s₁ [] 0 0 := Stand.of_body Bd
  have e0 : s₁.heap = h0 := by rw [← hh, Bd.state]; rfl
  have N0 := Fr.nil n0
  show own_Goes p e below (own_K (own_Q_pci Z i ln fm h0 n0) s ({ frames := 0, cells := 0, slots := 0, locals := 0 } : Room).cells ({ frames := 0, cells := 0, slots := 0, locals := 0 } : Room).slots) s₁ (entryFrame m #[(.int i), (.int ln), fm] 3)
  rw [own_ef_pci m i ln fm hfm]
  refine own_by (T' := s₁) (g' := (mkF m 1 #[.val (.int i), .val (.int ln), .val fm] [(.int i)])) (fun t_ k_ => XS.iloadN X0.here hx rfl (hb hby own_d_pci_0) rfl k_) ?_
  refine own_by (T' := s₁) (g' := (mkF m 4 #[.val (.int i), .val (.int ln), .val fm] [])) (fun t_ k_ => XS.ifNo X0.here hx rfl (hb hby own_d_pci_1) rfl ((if0 _ _).trans (flt ((own_i0 i ln hi) : ¬ (i < (0 : Int32)))).1) k_) ?_
  refine own_by (T' := s₁) (g' := (mkF m 5 #[.val (.int i), .val (.int ln), .val fm] [(.int i)])) (fun t_ k_ => XS.iloadN X0.here hx rfl (hb hby own_d_pci_4) rfl k_) ?_
  refine own_by (T' := s₁) (g' := (mkF m 6 #[.val (.int i), .val (.int ln), .val fm] [(.int ln), (.int i)])) (fun t_ k_ => XS.iloadN X0.here hx rfl (hb hby own_d_pci_5) rfl k_) ?_
  refine own_by (T' := s₁) (g' := (mkF m 16 #[.val (.int i), .val (.int ln), .val fm] [])) (fun t_ k_ => XS.icmpYes X0.here hx rfl (pc0 := 6) (pc' := 16) rfl (hb hby own_d_pci_6) rfl (tlt ((own_i1 i ln hi) : i < ln)).1 (by decide) (by decide) k_) ?_
  refine own_by (T' := s₁) (g' := (mkF m 17 #[.val (.int i), .val (.int ln), .val fm] [(.int i)])) (fun t_ k_ => XS.iloadN X0.here hx rfl (hb hby own_d_pci_16) rfl k_) ?_
  refine own_retI X0 hx Bd.returns hlk (hb hby own_d_pci_17) (by decide) (by decide) ?_
  rw [e0]
  exact ⟨rfl, N0, rfl⟩
theorem own_pd11 : parseMethodDescriptor "(IILjava/util/function/BiFunction;)I" = some ⟨[.int, .int, (.object "java/util/function/BiFunction")], some .int⟩ := by decide +kernel
theorem own_d_sci_0 : decode jdk_42_method_155_code 0 = .ok (.iload_n 0, 1) := by decide +kernel
theorem own_d_sci_1 : decode jdk_42_method_155_code 1 = .ok (.iload_n 1, 1) := by decide +kernel
theorem own_d_sci_2 : decode jdk_42_method_155_code 2 = .ok (.getstatic 1053, 3) := by decide +kernel
theorem own_d_sci_5 : decode jdk_42_method_155_code 5 = .ok (.invokestatic 1059, 3) := by decide +kernel
theorem own_d_sci_8 : decode jdk_42_method_155_code 8 = .ok (.pop, 1) := by decide +kernel
theorem own_d_sci_9 : decode jdk_42_method_155_code 9 = .ok (.return_, 1) := by decide +kernel
theorem own_ef_sci (m : MethodId) (i : Int32) (ln : Int32) : entryFrame m #[(.int i), (.int ln)] 2 = mkF m 0 #[.val (.int i), .val (.int ln)] [] := by first | (simp [entryFrame, mkF, argsToLocals, Value.category]; done) | rfl
def own_Q_sci (Z : State) (i : Int32) (ln : Int32) (fm : Value) (h0 : Heap) (n0 : Nat) (v : Option Value) (h : Heap) (L : List Loc) : Prop := v = none ∧ Fr n0 L ∧ h = h0
set_option maxRecDepth 65536 in
set_option maxHeartbeats 40000000 in
theorem own_rm_sci (l : Launch) (Z : State) (a0 : Array Value) (hw : ∀ d ∈ tables_1, d.before a0 Z = true) (ws : List Jvm.Cond) (i : Int32) (ln : Int32) (fm : Value) (h0 : Heap) (n0 : Nat) (Z0 : n0 ≤ h0.size) (SF : Sta Z h0 "jdk/internal/util/Preconditions" "SIOOBE_FORMATTER" "Ljava/util/function/BiFunction;" fm) (hfm : fm.isRef = true) (hi : 0 ≤ i.toInt ∧ i.toInt < ln.toInt) :
    MetFree l (⟨"java/lang/String", "checkIndex", "(II)V"⟩ : MethodName) (head1 (Jvm.Cond.code (⟨"java/lang/String", "checkIndex", "(II)V"⟩ : MethodName) jdk_42_method_155_code 2 none :: ws) ({ frames := 1, cells := 0, slots := 0, locals := 14 } : Room)) (fun a_ U_ => a_ = #[(.int i), (.int ln)] ∧ Z.Warmed39 U_.vm ∧ U_.heap = h0) (fun _ _ _ _ _ => True) (fun _ U_ o_ U'_ => ∃ v_ L_, o_ = .returned v_ ∧ own_Q_sci Z i ln fm h0 n0 v_ U'_.heap L_ ∧ FrameEnd U_ o_ U'_ L_ ({ frames := 1, cells := 0, slots := 0, locals := 14 } : Room).cells ({ frames := 1, cells := 0, slots := 0, locals := 14 } : Room).slots) := by
  refine MetFree.of_bodySF (plainFor_of_name own_pn_java_lang_String) hisR ?_
  intro p e s m args below meth c s₁ Bd hml0 hP hK
  obtain ⟨rfl, hZ, hh⟩ := hP
  have hx := Bd.exec
  have hby := Bd.bytes
  have hlk : meth.locks = false := BodyLoose.notSynchronized Bd
  have hml : c.maxLocals = 2 := hml0
  have hown : s.vm.findClass "java/lang/String" = some m.cls := findClass_of_methodNamed Bd.named
  have hnm := (name_of_methodNamed Bd.named Bd.method).1
  have X0 : Stand p l e ({ frames := 1, cells := 0, slots := 0, locals := 14 } : Room) s m #[(.int i), (.int ln)] below meth c s₁ [] 0 0 := Stand.of_body Bd
  have e0 : s₁.heap = h0 := by rw [← hh, Bd.state]; rfl
  have N0 := Fr.nil n0
  show own_Goes p e below (own_K (own_Q_sci Z i ln fm h0 n0) s ({ frames := 1, cells := 0, slots := 0, locals := 14 } : Room).cells ({ frames := 1, cells := 0, slots := 0, locals := 14 } : Room).slots) s₁ (entryFrame m #[(.int i), (.int ln)] 2)
  rw [own_ef_sci]
  refine own_by (T' := s₁) (g' := (mkF m 1 #[.val (.int i), .val (.int ln)] [(.int i)])) (fun t_ k_ => XS.iloadN X0.here hx rfl (hb hby own_d_sci_0) rfl k_) ?_
  refine own_by (T' := s₁) (g' := (mkF m 2 #[.val (.int i), .val (.int ln)] [(.int ln), (.int i)])) (fun t_ k_ => XS.iloadN X0.here hx rfl (hb hby own_d_sci_1) rfl k_) ?_
  obtain ⟨T1, X1, e1, st1⟩ := getS2 X0 hx hZ hown (host := "") (Or.inl (hw _ (List.mem_of_getElem? (i := 68) rfl))) Via.refl e0 SF (g := (mkF m 2 #[.val (.int i), .val (.int ln)] [(.int ln), (.int i)])) rfl (hb hby own_d_sci_2)
  refine own_by (T' := T1) (g' := (mkF m 5 #[.val (.int i), .val (.int ln)] [fm, (.int ln), (.int i)])) st1 ?_
  obtain ⟨_, T2, L2, X2, hQ2, st2⟩ := own_callS X1 hx hZ (y := (⟨"jdk/internal/util/Preconditions", "checkIndex", "(IILjava/util/function/BiFunction;)I"⟩ : MethodName)) hown (hw _ (List.mem_of_getElem? (i := 124) rfl)) (hw _ (List.mem_of_getElem? (i := 125) rfl)) (hw _ (List.mem_of_getElem? (i := 69) rfl)) (hw _ (List.mem_of_getElem? (i := 126) rfl)) (by decide) (argsL := [(.int i), (.int ln), fm]) (rest := []) (own_rm_pci l Z a0 hw [] i ln fm h0 n0 Z0 hfm hi) e1 (W := 0) (by decide) (by decide) (by decide) (by decide) (g := (mkF m 5 #[.val (.int i), .val (.int ln)] [fm, (.int ln), (.int i)])) rfl (by rw [hml]; rfl) (lenOf own_pd11 rfl) rfl (by show 2 * 0 + _ ≤ _; exact Nat.le_of_eq rfl) (hb hby own_d_sci_5)
  obtain ⟨rfl, Nq2, e2⟩ := hQ2
  have N2 := Fr.app N0 Nq2
  refine st2 _ ?_
  show own_Goes p e below _ T2 (mkF m 8 #[.val (.int i), .val (.int ln)] [(.int i)])
  refine own_by (T' := T2) (g' := (mkF m 9 #[.val (.int i), .val (.int ln)] [])) (fun t_ k_ => XS.pop X2.here hx rfl (hb hby own_d_sci_8) rfl rfl k_) ?_
  refine own_ret0 X2 hx Bd.returns hlk (hb hby own_d_sci_9) (by decide) (by decide) ?_
  rw [e2]
  exact ⟨rfl, N2, rfl⟩
theorem own_pd12 : parseMethodDescriptor "(II)V" = some ⟨[.int, .int], none⟩ := by decide +kernel
theorem own_d_lca_0 : decode jdk_43_method_2_code 0 = .ok (.iload_n 1, 1) := by decide +kernel
theorem own_d_lca_1 : decode jdk_43_method_2_code 1 = .ok (.aload_n 0, 1) := by decide +kernel
theorem own_d_lca_2 : decode jdk_43_method_2_code 2 = .ok (.arraylength, 1) := by decide +kernel
theorem own_d_lca_3 : decode jdk_43_method_2_code 3 = .ok (.invokestatic 9, 3) := by decide +kernel
theorem own_d_lca_6 : decode jdk_43_method_2_code 6 = .ok (.aload_n 0, 1) := by decide +kernel
theorem own_d_lca_7 : decode jdk_43_method_2_code 7 = .ok (.iload_n 1, 1) := by decide +kernel
theorem own_d_lca_8 : decode jdk_43_method_2_code 8 = .ok (.baload, 1) := by decide +kernel
theorem own_d_lca_9 : decode jdk_43_method_2_code 9 = .ok (.sipush 255, 3) := by decide +kernel
theorem own_d_lca_12 : decode jdk_43_method_2_code 12 = .ok (.iand, 1) := by decide +kernel
theorem own_d_lca_13 : decode jdk_43_method_2_code 13 = .ok (.i2c, 1) := by decide +kernel
theorem own_d_lca_14 : decode jdk_43_method_2_code 14 = .ok (.ireturn, 1) := by decide +kernel
theorem own_pn_java_lang_StringLatin1 : plainName "java/lang/StringLatin1" = true := by first | (simp [plainName, overriddenIn]; done) | decide +kernel
theorem own_ef_lca (m : MethodId) (b : Addr) (i : Int32) : entryFrame m #[(.ref b), (.int i)] 2 = mkF m 0 #[.val (.ref b), .val (.int i)] [] := by first | (simp [entryFrame, mkF, argsToLocals, Value.category]; done) | rfl
def own_Q_lca (Z : State) (b : Addr) (i : Int32) (ln : Int32) (g : Nat → Int32) (fm : Value) (r : Int32) (h0 : Heap) (n0 : Nat) (v : Option Value) (h : Heap) (L : List Loc) : Prop := v = some (.int r) ∧ Fr n0 L ∧ h = h0
set_option maxRecDepth 65536 in
set_option maxHeartbeats 40000000 in
theorem own_rm_lca (l : Launch) (Z : State) (a0 : Array Value) (hw : ∀ d ∈ tables_1, d.before a0 Z = true) (ws : List Jvm.Cond) (b : Addr) (i : Int32) (ln : Int32) (g : Nat → Int32) (fm : Value) (r : Int32) (h0 : Heap) (n0 : Nat) (Z0 : n0 ≤ h0.size) (V0 : own_Ia Z h0 b .byte ln.toNatClampNeg g) (SF : Sta Z h0 "jdk/internal/util/Preconditions" "SIOOBE_FORMATTER" "Ljava/util/function/BiFunction;" fm) (hfm : fm.isRef = true) (hi : 0 ≤ i.toInt ∧ i.toInt < ln.toInt) (hr : own_ch (g i.toNatClampNeg) = r) :
    MetFree l (⟨"java/lang/StringLatin1", "charAt", "([BI)C"⟩ : MethodName) (head1 (Jvm.Cond.code (⟨"java/lang/StringLatin1", "charAt", "([BI)C"⟩ : MethodName) jdk_43_method_2_code 2 (some .char) :: ws) ({ frames := 2, cells := 0, slots := 0, locals := 27 } : Room)) (fun a_ U_ => a_ = #[(.ref b), (.int i)] ∧ Z.Warmed39 U_.vm ∧ U_.heap = h0) (fun _ _ _ _ _ => True) (fun _ U_ o_ U'_ => ∃ v_ L_, o_ = .returned v_ ∧ own_Q_lca Z b i ln g fm r h0 n0 v_ U'_.heap L_ ∧ FrameEnd U_ o_ U'_ L_ ({ frames := 2, cells := 0, slots := 0, locals := 27 } : Room).cells ({ frames := 2, cells := 0, slots := 0, locals := 27 } : Room).slots) := by
  refine MetFree.of_bodySF (plainFor_of_name own_pn_java_lang_StringLatin1) hisR ?_
  intro p e s m args below meth c s₁ Bd hml0 hP hK
  obtain ⟨rfl, hZ, hh⟩ := hP
  have hx := Bd.exec
  have hby := Bd.bytes
  have hlk : meth.locks = false := BodyLoose.notSynchronized Bd
  have hml : c.maxLocals = 2 := hml0
  have hown : s.vm.findClass "java/lang/StringLatin1" = some m.cls := findClass_of_methodNamed Bd.named
  have hnm := (name_of_methodNamed Bd.named Bd.method).1
  have X0 : Stand p l e ({ frames := 2, cells := 0, slots := 0, locals := 27 } : Room) s m #[(.ref b), (.int i)] below meth c s₁ [] 0 0 := Stand.of_body Bd
  have e0 : s₁.heap = h0 := by rw [← hh, Bd.state]; rfl
  have N0 := Fr.nil n0
  show own_Goes p e below (own_K (own_Q_lca Z b i ln g fm r h0 n0) s ({ frames := 2, cells := 0, slots := 0, locals := 27 } : Room).cells ({ frames := 2, cells := 0, slots := 0, locals := 27 } : Room).slots) s₁ (entryFrame m #[(.ref b), (.int i)] 2)
  rw [own_ef_lca]
  refine own_by (T' := s₁) (g' := (mkF m 1 #[.val (.ref b), .val (.int i)] [(.int i)])) (fun t_ k_ => XS.iloadN X0.here hx rfl (hb hby own_d_lca_0) rfl k_) ?_
  refine own_by (T' := s₁) (g' := (mkF m 2 #[.val (.ref b), .val (.int i)] [(.ref b), (.int i)])) (fun t_ k_ => XS.aloadN X0.here hx rfl (hb hby own_d_lca_1) rfl rfl k_) ?_
  refine own_by (T' := s₁) (g' := (mkF m 3 #[.val (.ref b), .val (.int i)] [(.int ln), (.int i)])) (fun t_ k_ => own_alen X0 hx hZ e0 V0 (z := ln) (own_l32 ln (by omega)) (g := (mkF m 2 #[.val (.ref b), .val (.int i)] [(.ref b), (.int i)])) rfl rfl (hb hby own_d_lca_2) _ k_) ?_
  obtain ⟨_, T1, L1, X1, hQ1, st1⟩ := own_callS X0 hx hZ (y := (⟨"java/lang/String", "checkIndex", "(II)V"⟩ : MethodName)) hown (hw _ (List.mem_of_getElem? (i := 121) rfl)) (hw _ (List.mem_of_getElem? (i := 122) rfl)) (hw _ (List.mem_of_getElem? (i := 58) rfl)) (hw _ (List.mem_of_getElem? (i := 123) rfl)) (by decide) (argsL := [(.int i), (.int ln)]) (rest := []) (own_rm_sci l Z a0 hw [] i ln fm h0 n0 Z0 SF hfm hi) e0 (W := 0) (by decide) (by decide) (by decide) (by decide) (g := (mkF m 3 #[.val (.ref b), .val (.int i)] [(.int ln), (.int i)])) rfl (by rw [hml]; rfl) (lenOf own_pd12 rfl) rfl (by show 2 * 0 + _ ≤ _; exact Nat.le_of_eq rfl) (hb hby own_d_lca_3)
  obtain ⟨rfl, Nq1, e1⟩ := hQ1
  have N1 := Fr.app N0 Nq1
  refine st1 _ ?_
  show own_Goes p e below _ T1 (mkF m 6 #[.val (.ref b), .val (.int i)] [])
  refine own_by (T' := T1) (g' := (mkF m 7 #[.val (.ref b), .val (.int i)] [(.ref b)])) (fun t_ k_ => XS.aloadN X1.here hx rfl (hb hby own_d_lca_6) rfl rfl k_) ?_
  refine own_by (T' := T1) (g' := (mkF m 8 #[.val (.ref b), .val (.int i)] [(.int i), (.ref b)])) (fun t_ k_ => XS.iloadN X1.here hx rfl (hb hby own_d_lca_7) rfl k_) ?_
  refine own_by (T' := T1) (g' := (mkF m 9 #[.val (.ref b), .val (.int i)] [(.int (g i.toNatClampNeg))])) (fun t_ k_ => own_bal X1 hx hZ e1 V0 (j := i) (own_i2 i ln hi).1 (own_i2 i ln hi).2 (g := (mkF m 8 #[.val (.ref b), .val (.int i)] [(.int i), (.ref b)])) rfl rfl (hb hby own_d_lca_8) _ k_) ?_
  refine own_by (T' := T1) (g' := (mkF m 12 #[.val (.ref b), .val (.int i)] [(.int (255 : Int32)), (.int (g i.toNatClampNeg))])) (fun t_ k_ => XS.sipush X1.here hx rfl (hb hby own_d_lca_9) k_) ?_
  refine own_by (T' := T1) (g' := (mkF m 13 #[.val (.ref b), .val (.int i)] [(.int ((g i.toNatClampNeg) &&& (255 : Int32)))])) (fun t_ k_ => XS.iand X1.here hx rfl (hb hby own_d_lca_12) rfl k_) ?_
  refine own_by (T' := T1) (g' := (mkF m 14 #[.val (.ref b), .val (.int i)] [(.int (((g i.toNatClampNeg) &&& (255 : Int32))).toUInt32.toUInt16.toUInt32.toInt32)])) (fun t_ k_ => XS.i2c X1.here hx rfl (hb hby own_d_lca_13) rfl k_) ?_
  refine own_retN X1 hx (t := .char) Bd.returns hlk (by simp) (hb hby own_d_lca_14) (by decide) (by decide) (v := (nar .char ((((g i.toNatClampNeg) &&& (255 : Int32))).toUInt32.toUInt16.toUInt32.toInt32))) rfl ?_
  rw [e1]
  exact ⟨by rw [← hr, own_chd], N1, rfl⟩
theorem own_pd13 : parseMethodDescriptor "()Z" = some ⟨[], some .boolean⟩ := by decide +kernel
theorem own_pd14 : parseMethodDescriptor "([BI)C" = some ⟨[(.array .byte), .int], some .char⟩ := by decide +kernel
theorem own_d_cha_0 : decode jdk_42_method_56_code 0 = .ok (.aload_n 0, 1) := by decide +kernel
theorem own_d_cha_1 : decode jdk_42_method_56_code 1 = .ok (.invokevirtual 492, 3) := by decide +kernel
theorem own_d_cha_4 : decode jdk_42_method_56_code 4 = .ok (.ifCond .eq 12, 3) := by decide +kernel
theorem own_d_cha_7 : decode jdk_42_method_56_code 7 = .ok (.aload_n 0, 1) := by decide +kernel
theorem own_d_cha_8 : decode jdk_42_method_56_code 8 = .ok (.getfield 9, 3) := by decide +kernel
theorem own_d_cha_11 : decode jdk_42_method_56_code 11 = .ok (.iload_n 1, 1) := by decide +kernel
theorem own_d_cha_12 : decode jdk_42_method_56_code 12 = .ok (.invokestatic 495, 3) := by decide +kernel
theorem own_d_cha_15 : decode jdk_42_method_56_code 15 = .ok (.ireturn, 1) := by decide +kernel
theorem own_ef_cha (m : MethodId) (a : Addr) (i : Int32) : entryFrame m #[(.ref a), (.int i)] 2 = mkF m 0 #[.val (.ref a), .val (.int i)] [] := by first | (simp [entryFrame, mkF, argsToLocals, Value.category]; done) | rfl
def own_Q_cha (Z : State) (a : Addr) (i : Int32) (b : Addr) (ln : Int32) (g : Nat → Int32) (cs : Int32) (fm : Value) (r : Int32) (h0 : Heap) (n0 : Nat) (v : Option Value) (h : Heap) (L : List Loc) : Prop := v = some (.int r) ∧ Fr n0 L ∧ h = h0
set_option maxRecDepth 65536 in
set_option maxHeartbeats 40000000 in
theorem own_rm_cha (l : Launch) (Z : State) (a0 : Array Value) (hw : ∀ d ∈ tables_1, d.before a0 Z = true) (ws : List Jvm.Cond) (a : Addr) (i : Int32) (b : Addr) (ln : Int32) (g : Nat → Int32) (cs : Int32) (fm : Value) (r : Int32) (h0 : Heap) (n0 : Nat) (Z0 : n0 ≤ h0.size) (E0 : Exa Z h0 a "java/lang/String") (F1 : Fld Z h0 a "java/lang/String" "coder" "B" (.int (0 : Int32))) (F0 : Fld Z h0 a "java/lang/String" "value" "[B" (.ref b)) (V0 : own_Ia Z h0 b .byte ln.toNatClampNeg g) (SC : Sta Z h0 "java/lang/String" "COMPACT_STRINGS" "Z" (.int cs)) (hcs : ¬ cs = (0 : Int32)) (SF : Sta Z h0 "jdk/internal/util/Preconditions" "SIOOBE_FORMATTER" "Ljava/util/function/BiFunction;" fm) (hfm : fm.isRef = true) (hi : 0 ≤ i.toInt ∧ i.toInt < ln.toInt) (hr : own_ch (g i.toNatClampNeg) = r) (hnr : nar .char r = r) :
    MetFree l (⟨"java/lang/String", "charAt", "(I)C"⟩ : MethodName) (head1 (Jvm.Cond.code (⟨"java/lang/String", "charAt", "(I)C"⟩ : MethodName) jdk_42_method_56_code 2 (some .char) :: ws) ({ frames := 3, cells := 0, slots := 0, locals := 40 } : Room)) (fun a_ U_ => a_ = #[(.ref a), (.int i)] ∧ Z.Warmed39 U_.vm ∧ U_.heap = h0) (fun _ _ _ _ _ => True) (fun _ U_ o_ U'_ => ∃ v_ L_, o_ = .returned v_ ∧ own_Q_cha Z a i b ln g cs fm r h0 n0 v_ U'_.heap L_ ∧ FrameEnd U_ o_ U'_ L_ ({ frames := 3, cells := 0, slots := 0, locals := 40 } : Room).cells ({ frames := 3, cells := 0, slots := 0, locals := 40 } : Room).slots) := by
  refine MetFree.of_bodySF (plainFor_of_name own_pn_java_lang_String) hisR ?_
  intro p e s m args below meth c s₁ Bd hml0 hP hK
  obtain ⟨rfl, hZ, hh⟩ := hP
  have hx := Bd.exec
  have hby := Bd.bytes
  have hlk : meth.locks = false := BodyLoose.notSynchronized Bd
  have hml : c.maxLocals = 2 := hml0
  have hown : s.vm.findClass "java/lang/String" = some m.cls := findClass_of_methodNamed Bd.named
  have hnm := (name_of_methodNamed Bd.named Bd.method).1
  have X0 : Stand p l e ({ frames := 3, cells := 0, slots := 0, locals := 40 } : Room) s m #[(.ref a), (.int i)] below meth c s₁ [] 0 0 := Stand.of_body Bd
  have e0 : s₁.heap = h0 := by rw [← hh, Bd.state]; rfl
  have N0 := Fr.nil n0
  show own_Goes p e below (own_K (own_Q_cha Z a i b ln g cs fm r h0 n0) s ({ frames := 3, cells := 0, slots := 0, locals := 40 } : Room).cells ({ frames := 3, cells := 0, slots := 0, locals := 40 } : Room).slots) s₁ (entryFrame m #[(.ref a), (.int i)] 2)
  rw [own_ef_cha]
  refine own_by (T' := s₁) (g' := (mkF m 1 #[.val (.ref a), .val (.int i)] [(.ref a)])) (fun t_ k_ => XS.aloadN X0.here hx rfl (hb hby own_d_cha_0) rfl rfl k_) ?_
  obtain ⟨_, T1, L1, X1, hQ1, st1⟩ := own_callV X0 hx hZ (y := (⟨"java/lang/String", "isLatin1", "()Z"⟩ : MethodName)) hown (hw _ (List.mem_of_getElem? (i := 112) rfl)) (hw _ (List.mem_of_getElem? (i := 113) rfl)) (hw _ (List.mem_of_getElem? (i := 115) rfl)) (hw _ (List.mem_of_getElem? (i := 114) rfl)) (hw _ (List.mem_of_getElem? (i := 58) rfl)) (hw _ (List.mem_of_getElem? (i := 116) rfl)) (by decide) (argsL := []) (rest := []) E0 (own_rm_lat l Z a0 hw [] a cs h0 n0 Z0 F1 SC hcs) e0 (W := 0) (by decide) (by decide) (by decide) (by decide) (g := (mkF m 1 #[.val (.ref a), .val (.int i)] [(.ref a)])) rfl (by rw [hml]; rfl) (lenOf own_pd13 rfl) rfl (by show 2 * 0 + _ ≤ _; exact Nat.le_of_eq rfl) (hb hby own_d_cha_1)
  obtain ⟨rfl, Nq1, e1⟩ := hQ1
  have N1 := Fr.app N0 Nq1
  refine st1 _ ?_
  show own_Goes p e below _ T1 (mkF m 4 #[.val (.ref a), .val (.int i)] [(.int (1 : Int32))])
  refine own_by (T' := T1) (g' := (mkF m 7 #[.val (.ref a), .val (.int i)] [])) (fun t_ k_ => XS.ifNo X1.here hx rfl (hb hby own_d_cha_4) rfl ((if0 _ _).trans (feq ((by decide) : ¬ ((1 : Int32) = (0 : Int32)))).1) k_) ?_
  refine own_by (T' := T1) (g' := (mkF m 8 #[.val (.ref a), .val (.int i)] [(.ref a)])) (fun t_ k_ => XS.aloadN X1.here hx rfl (hb hby own_d_cha_7) rfl rfl k_) ?_
  obtain ⟨T2, X2, e2, st2⟩ := getF X1 hx hZ hown (host := "") (Or.inl (hw _ (List.mem_of_getElem? (i := 92) rfl))) Via.refl e1 F0 (g := (mkF m 8 #[.val (.ref a), .val (.int i)] [(.ref a)])) rfl rfl (hb hby own_d_cha_8)
  refine own_by (T' := T2) (g' := (mkF m 11 #[.val (.ref a), .val (.int i)] [(.ref b)])) st2 ?_
  refine own_by (T' := T2) (g' := (mkF m 12 #[.val (.ref a), .val (.int i)] [(.int i), (.ref b)])) (fun t_ k_ => XS.iloadN X2.here hx rfl (hb hby own_d_cha_11) rfl k_) ?_
  obtain ⟨_, T3, L3, X3, hQ3, st3⟩ := own_callS X2 hx hZ (y := (⟨"java/lang/StringLatin1", "charAt", "([BI)C"⟩ : MethodName)) hown (hw _ (List.mem_of_getElem? (i := 117) rfl)) (hw _ (List.mem_of_getElem? (i := 118) rfl)) (hw _ (List.mem_of_getElem? (i := 119) rfl)) (hw _ (List.mem_of_getElem? (i := 120) rfl)) (by decide) (argsL := [(.ref b), (.int i)]) (rest := []) (own_rm_lca l Z a0 hw [] b i ln g fm r h0 n0 Z0 V0 SF hfm hi hr) e2 (W := 0) (by decide) (by decide) (by decide) (by decide) (g := (mkF m 12 #[.val (.ref a), .val (.int i)] [(.int i), (.ref b)])) rfl (by rw [hml]; rfl) (lenOf own_pd14 rfl) rfl (by show 2 * 0 + _ ≤ _; exact Nat.le_of_eq rfl) (hb hby own_d_cha_12)
  obtain ⟨rfl, Nq3, e3⟩ := hQ3
  have N3 := Fr.app N1 Nq3
  refine st3 _ ?_
  show own_Goes p e below _ T3 (mkF m 15 #[.val (.ref a), .val (.int i)] [(.int r)])
  refine own_retN X3 hx (t := .char) Bd.returns hlk (by simp) (hb hby own_d_cha_15) (by decide) (by decide) (v := r) hnr ?_
  rw [e3]
  exact ⟨rfl, N3, rfl⟩
theorem own_d_sm0_0 : decode method_4_code 0 = .ok (.iload_n 3, 1) := by decide +kernel
theorem own_d_sm0_1 : decode method_4_code 1 = .ok (.iload 4, 2) := by decide +kernel
theorem own_d_sm0_3 : decode method_4_code 3 = .ok (.if_icmp .le 18, 3) := by decide +kernel
theorem own_d_sm0_6 : decode method_4_code 6 = .ok (.aload_n 0, 1) := by decide +kernel
theorem own_d_sm0_7 : decode method_4_code 7 = .ok (.iload 4, 2) := by decide +kernel
theorem own_d_sm0_9 : decode method_4_code 9 = .ok (.invokevirtual 37, 3) := by decide +kernel
theorem own_d_sm0_12 : decode method_4_code 12 = .ok (.aload_n 1, 1) := by decide +kernel
theorem own_d_sm0_13 : decode method_4_code 13 = .ok (.iload_n 2, 1) := by decide +kernel
theorem own_d_sm0_14 : decode method_4_code 14 = .ok (.iload 4, 2) := by decide +kernel
theorem own_d_sm0_16 : decode method_4_code 16 = .ok (.iadd, 1) := by decide +kernel
theorem own_d_sm0_17 : decode method_4_code 17 = .ok (.caload, 1) := by decide +kernel
theorem own_d_sm0_18 : decode method_4_code 18 = .ok (.if_icmp .ne 7, 3) := by decide +kernel
theorem own_d_sm0_21 : decode method_4_code 21 = .ok (.iconst 1, 1) := by decide +kernel
theorem own_d_sm0_22 : decode method_4_code 22 = .ok (.goto 4, 3) := by decide +kernel
theorem own_d_sm0_26 : decode method_4_code 26 = .ok (.ireturn, 1) := by decide +kernel
theorem own_pn_com_example_enumconv_enumconv_core_ReadingToStringPinLaw : plainName "com/example/enumconv/enumconv/core/ReadingToStringPinLaw" = true := by first | (simp [plainName, overriddenIn]; done) | decide +kernel
theorem own_ef_sm0 (m : MethodId) (a : Addr) (ar : Addr) (off : Int32) (ln : Int32) : entryFrame m #[(.ref a), (.ref ar), (.int off), (.int ln), (.int (0 : Int32))] 5 = mkF m 0 #[.val (.ref a), .val (.ref ar), .val (.int off), .val (.int ln), .val (.int (0 : Int32))] [] := by first | (simp [entryFrame, mkF, argsToLocals, Value.category]; done) | rfl
def own_Q_sm0 (Z : State) (a : Addr) (ar : Addr) (off : Int32) (ln : Int32) (b : Addr) (g : Nat → Int32) (f : Nat → Int32) (cs : Int32) (fm : Value) (h0 : Heap) (n0 : Nat) (v : Option Value) (h : Heap) (L : List Loc) : Prop := v = some (.int 1) ∧ Fr n0 L ∧ h = h0
set_option maxRecDepth 65536 in
set_option maxHeartbeats 40000000 in
theorem own_rm_sm0 (l : Launch) (Z : State) (a0 : Array Value) (hw : ∀ d ∈ tables_1, d.before a0 Z = true) (ws : List Jvm.Cond) (a : Addr) (ar : Addr) (off : Int32) (ln : Int32) (b : Addr) (g : Nat → Int32) (f : Nat → Int32) (cs : Int32) (fm : Value) (h0 : Heap) (n0 : Nat) (Z0 : n0 ≤ h0.size) (E0 : Exa Z h0 a "java/lang/String") (F1 : Fld Z h0 a "java/lang/String" "coder" "B" (.int (0 : Int32))) (F0 : Fld Z h0 a "java/lang/String" "value" "[B" (.ref b)) (V0 : own_Ia Z h0 b .byte ln.toNatClampNeg g) (V1 : own_Ia Z h0 ar .char 6 f) (SC : Sta Z h0 "java/lang/String" "COMPACT_STRINGS" "Z" (.int cs)) (hcs : ¬ cs = (0 : Int32)) (SF : Sta Z h0 "jdk/internal/util/Preconditions" "SIOOBE_FORMATTER" "Ljava/util/function/BiFunction;" fm) (hfm : fm.isRef = true) (ho : 0 ≤ off.toInt) (hl : 0 ≤ ln.toInt) (hs : off.toInt + ln.toInt ≤ 6) (hf : ∀ i, i < 6 → 0 ≤ (f i).toInt ∧ (f i).toInt ≤ 255) (hg : ∀ i, i < ln.toNatClampNeg → g i = (f (off.toNatClampNeg + i)).toInt8.toInt32) :
    MetFree l (⟨"com/example/enumconv/enumconv/core/ReadingToStringPinLaw", "same", "(Ljava/lang/String;[CIII)Z"⟩ : MethodName) (head1 (Jvm.Cond.code (⟨"com/example/enumconv/enumconv/core/ReadingToStringPinLaw", "same", "(Ljava/lang/String;[CIII)Z"⟩ : MethodName) method_4_code 5 (some .boolean) :: ws) ({ frames := 4, cells := 0, slots := 0, locals := 53 } : Room)) (fun a_ U_ => a_ = #[(.ref a), (.ref ar), (.int off), (.int ln), (.int (0 : Int32))] ∧ Z.Warmed39 U_.vm ∧ U_.heap = h0) (fun _ _ _ _ _ => True) (fun _ U_ o_ U'_ => ∃ v_ L_, o_ = .returned v_ ∧ own_Q_sm0 Z a ar off ln b g f cs fm h0 n0 v_ U'_.heap L_ ∧ FrameEnd U_ o_ U'_ L_ ({ frames := 4, cells := 0, slots := 0, locals := 53 } : Room).cells ({ frames := 4, cells := 0, slots := 0, locals := 53 } : Room).slots) := by
  refine MetFree.of_bodySF (plainFor_of_name own_pn_com_example_enumconv_enumconv_core_ReadingToStringPinLaw) hisR ?_
  intro p e s m args below meth c s₁ Bd hml0 hP hK
  obtain ⟨rfl, hZ, hh⟩ := hP
  have hx := Bd.exec
  have hby := Bd.bytes
  have hlk : meth.locks = false := BodyLoose.notSynchronized Bd
  have hml : c.maxLocals = 5 := hml0
  have hown : s.vm.findClass "com/example/enumconv/enumconv/core/ReadingToStringPinLaw" = some m.cls := findClass_of_methodNamed Bd.named
  have hnm := (name_of_methodNamed Bd.named Bd.method).1
  have X0 : Stand p l e ({ frames := 4, cells := 0, slots := 0, locals := 53 } : Room) s m #[(.ref a), (.ref ar), (.int off), (.int ln), (.int (0 : Int32))] below meth c s₁ [] 0 0 := Stand.of_body Bd
  have e0 : s₁.heap = h0 := by rw [← hh, Bd.state]; rfl
  have N0 := Fr.nil n0
  show own_Goes p e below (own_K (own_Q_sm0 Z a ar off ln b g f cs fm h0 n0) s ({ frames := 4, cells := 0, slots := 0, locals := 53 } : Room).cells ({ frames := 4, cells := 0, slots := 0, locals := 53 } : Room).slots) s₁ (entryFrame m #[(.ref a), (.ref ar), (.int off), (.int ln), (.int (0 : Int32))] 5)
  rw [own_ef_sm0]
  refine own_by (T' := s₁) (g' := (mkF m 1 #[.val (.ref a), .val (.ref ar), .val (.int off), .val (.int ln), .val (.int (0 : Int32))] [(.int ln)])) (fun t_ k_ => XS.iloadN X0.here hx rfl (hb hby own_d_sm0_0) rfl k_) ?_
  refine own_by (T' := s₁) (g' := (mkF m 3 #[.val (.ref a), .val (.ref ar), .val (.int off), .val (.int ln), .val (.int (0 : Int32))] [(.int (0 : Int32)), (.int ln)])) (fun t_ k_ => XS.iload X0.here hx rfl (hb hby own_d_sm0_1) rfl k_) ?_
  by_cases c3_1 : (0 : Int32) < ln
  · skip
    refine own_by (T' := s₁) (g' := (mkF m 6 #[.val (.ref a), .val (.ref ar), .val (.int off), .val (.int ln), .val (.int (0 : Int32))] [])) (fun t_ k_ => XS.icmpNo X0.here hx rfl (hb hby own_d_sm0_3) rfl (tlt (c3_1 : (0 : Int32) < ln)).2.2.2 k_) ?_
    refine own_by (T' := s₁) (g' := (mkF m 7 #[.val (.ref a), .val (.ref ar), .val (.int off), .val (.int ln), .val (.int (0 : Int32))] [(.ref a)])) (fun t_ k_ => XS.aloadN X0.here hx rfl (hb hby own_d_sm0_6) rfl rfl k_) ?_
    refine own_by (T' := s₁) (g' := (mkF m 9 #[.val (.ref a), .val (.ref ar), .val (.int off), .val (.int ln), .val (.int (0 : Int32))] [(.int (0 : Int32)), (.ref a)])) (fun t_ k_ => XS.iload X0.here hx rfl (hb hby own_d_sm0_7) rfl k_) ?_
    obtain ⟨_, T2, L2, X2, hQ2, st2⟩ := own_callV X0 hx hZ (y := (⟨"java/lang/String", "charAt", "(I)C"⟩ : MethodName)) hown (hw _ (List.mem_of_getElem? (i := 107) rfl)) (hw _ (List.mem_of_getElem? (i := 108) rfl)) (hw _ (List.mem_of_getElem? (i := 110) rfl)) (hw _ (List.mem_of_getElem? (i := 109) rfl)) (hw _ (List.mem_of_getElem? (i := 58) rfl)) (hw _ (List.mem_of_getElem? (i := 111) rfl)) (by decide) (argsL := [(.int (0 : Int32))]) (rest := []) E0 (own_rm_cha l Z a0 hw [] a (0 : Int32) b ln g cs fm (f (off + (0 : Int32)).toNatClampNeg) h0 n0 Z0 E0 F1 F0 V0 SC hcs SF hfm (own_j1 ln (0 : Int32) (by decide) c3_1) (own_j2 off ln (0 : Int32) f g ho hl hs c3_1 hf hg (by decide)) (own_j3 _ (hf _ (own_j4 off ln (0 : Int32) ho hl hs c3_1 (by decide)).2))) e0 (W := 0) (by decide) (by decide) (by decide) (by decide) (g := (mkF m 9 #[.val (.ref a), .val (.ref ar), .val (.int off), .val (.int ln), .val (.int (0 : Int32))] [(.int (0 : Int32)), (.ref a)])) rfl (by rw [hml]; rfl) (lenOf own_pd1 rfl) rfl (by show 2 * 0 + _ ≤ _; exact Nat.le_of_eq rfl) (hb hby own_d_sm0_9)
    obtain ⟨rfl, Nq2, e2⟩ := hQ2
    have N2 := Fr.app N0 Nq2
    refine st2 _ ?_
    show own_Goes p e below _ T2 (mkF m 12 #[.val (.ref a), .val (.ref ar), .val (.int off), .val (.int ln), .val (.int (0 : Int32))] [(.int (f (off + (0 : Int32)).toNatClampNeg))])
    refine own_by (T' := T2) (g' := (mkF m 13 #[.val (.ref a), .val (.ref ar), .val (.int off), .val (.int ln), .val (.int (0 : Int32))] [(.ref ar), (.int (f (off + (0 : Int32)).toNatClampNeg))])) (fun t_ k_ => XS.aloadN X2.here hx rfl (hb hby own_d_sm0_12) rfl rfl k_) ?_
    refine own_by (T' := T2) (g' := (mkF m 14 #[.val (.ref a), .val (.ref ar), .val (.int off), .val (.int ln), .val (.int (0 : Int32))] [(.int off), (.ref ar), (.int (f (off + (0 : Int32)).toNatClampNeg))])) (fun t_ k_ => XS.iloadN X2.here hx rfl (hb hby own_d_sm0_13) rfl k_) ?_
    refine own_by (T' := T2) (g' := (mkF m 16 #[.val (.ref a), .val (.ref ar), .val (.int off), .val (.int ln), .val (.int (0 : Int32))] [(.int (0 : Int32)), (.int off), (.ref ar), (.int (f (off + (0 : Int32)).toNatClampNeg))])) (fun t_ k_ => XS.iload X2.here hx rfl (hb hby own_d_sm0_14) rfl k_) ?_
    refine own_by (T' := T2) (g' := (mkF m 17 #[.val (.ref a), .val (.ref ar), .val (.int off), .val (.int ln), .val (.int (0 : Int32))] [(.int (off + (0 : Int32))), (.ref ar), (.int (f (off + (0 : Int32)).toNatClampNeg))])) (fun t_ k_ => XS.iadd X2.here hx rfl (hb hby own_d_sm0_16) rfl k_) ?_
    refine own_by (T' := T2) (g' := (mkF m 18 #[.val (.ref a), .val (.ref ar), .val (.int off), .val (.int ln), .val (.int (0 : Int32))] [(.int (f (off + (0 : Int32)).toNatClampNeg)), (.int (f (off + (0 : Int32)).toNatClampNeg))])) (fun t_ k_ => own_cal X2 hx hZ e2 V1 (j := (off + (0 : Int32))) (own_j4 off ln (0 : Int32) ho hl hs c3_1 (by decide)).1 (own_j4 off ln (0 : Int32) ho hl hs c3_1 (by decide)).2 (g := (mkF m 17 #[.val (.ref a), .val (.ref ar), .val (.int off), .val (.int ln), .val (.int (0 : Int32))] [(.int (off + (0 : Int32))), (.ref ar), (.int (f (off + (0 : Int32)).toNatClampNeg))])) rfl rfl (hb hby own_d_sm0_17) _ k_) ?_
    refine own_by (T' := T2) (g' := (mkF m 21 #[.val (.ref a), .val (.ref ar), .val (.int off), .val (.int ln), .val (.int (0 : Int32))] [])) (fun t_ k_ => XS.icmpNo X2.here hx rfl (hb hby own_d_sm0_18) rfl (teq (rfl : (f (off + (0 : Int32)).toNatClampNeg) = (f (off + (0 : Int32)).toNatClampNeg))).2 k_) ?_
    refine own_by (T' := T2) (g' := (mkF m 22 #[.val (.ref a), .val (.ref ar), .val (.int off), .val (.int ln), .val (.int (0 : Int32))] [(.int (1 : Int32))])) (fun t_ k_ => XS.iconst X2.here hx rfl (hb hby own_d_sm0_21) k_) ?_
    refine own_by (T' := T2) (g' := (mkF m 26 #[.val (.ref a), .val (.ref ar), .val (.int off), .val (.int ln), .val (.int (0 : Int32))] [(.int (1 : Int32))])) (fun t_ k_ => XS.goto X2.here hx rfl (pc0 := 22) (pc' := 26) rfl (hb hby own_d_sm0_22) (by decide) (by decide) k_) ?_
    refine own_retN X2 hx (t := .boolean) Bd.returns hlk (by simp) (hb hby own_d_sm0_26) (by decide) (by decide) (v := (1 : Int32)) rfl ?_
    rw [e2]
    exact ⟨rfl, N2, rfl⟩
  · skip
    refine own_by (T' := s₁) (g' := (mkF m 21 #[.val (.ref a), .val (.ref ar), .val (.int off), .val (.int ln), .val (.int (0 : Int32))] [])) (fun t_ k_ => XS.icmpYes X0.here hx rfl (pc0 := 3) (pc' := 21) rfl (hb hby own_d_sm0_3) rfl (flt (c3_1 : ¬ ((0 : Int32) < ln))).2.2.2 (by decide) (by decide) k_) ?_
    refine own_by (T' := s₁) (g' := (mkF m 22 #[.val (.ref a), .val (.ref ar), .val (.int off), .val (.int ln), .val (.int (0 : Int32))] [(.int (1 : Int32))])) (fun t_ k_ => XS.iconst X0.here hx rfl (hb hby own_d_sm0_21) k_) ?_
    refine own_by (T' := s₁) (g' := (mkF m 26 #[.val (.ref a), .val (.ref ar), .val (.int off), .val (.int ln), .val (.int (0 : Int32))] [(.int (1 : Int32))])) (fun t_ k_ => XS.goto X0.here hx rfl (pc0 := 22) (pc' := 26) rfl (hb hby own_d_sm0_22) (by decide) (by decide) k_) ?_
    refine own_retN X0 hx (t := .boolean) Bd.returns hlk (by simp) (hb hby own_d_sm0_26) (by decide) (by decide) (v := (1 : Int32)) rfl ?_
    rw [e0]
    exact ⟨rfl, N0, rfl⟩
theorem own_d_sm1_0 : decode method_4_code 0 = .ok (.iload_n 3, 1) := by decide +kernel
theorem own_d_sm1_1 : decode method_4_code 1 = .ok (.iload 4, 2) := by decide +kernel
theorem own_d_sm1_3 : decode method_4_code 3 = .ok (.if_icmp .le 18, 3) := by decide +kernel
theorem own_d_sm1_6 : decode method_4_code 6 = .ok (.aload_n 0, 1) := by decide +kernel
theorem own_d_sm1_7 : decode method_4_code 7 = .ok (.iload 4, 2) := by decide +kernel
theorem own_d_sm1_9 : decode method_4_code 9 = .ok (.invokevirtual 37, 3) := by decide +kernel
theorem own_d_sm1_12 : decode method_4_code 12 = .ok (.aload_n 1, 1) := by decide +kernel
theorem own_d_sm1_13 : decode method_4_code 13 = .ok (.iload_n 2, 1) := by decide +kernel
theorem own_d_sm1_14 : decode method_4_code 14 = .ok (.iload 4, 2) := by decide +kernel
theorem own_d_sm1_16 : decode method_4_code 16 = .ok (.iadd, 1) := by decide +kernel
theorem own_d_sm1_17 : decode method_4_code 17 = .ok (.caload, 1) := by decide +kernel
theorem own_d_sm1_18 : decode method_4_code 18 = .ok (.if_icmp .ne 7, 3) := by decide +kernel
theorem own_d_sm1_21 : decode method_4_code 21 = .ok (.iconst 1, 1) := by decide +kernel
theorem own_d_sm1_22 : decode method_4_code 22 = .ok (.goto 4, 3) := by decide +kernel
theorem own_d_sm1_26 : decode method_4_code 26 = .ok (.ireturn, 1) := by decide +kernel
theorem own_ef_sm1 (m : MethodId) (a : Addr) (ar : Addr) (off : Int32) (ln : Int32) : entryFrame m #[(.ref a), (.ref ar), (.int off), (.int ln), (.int (1 : Int32))] 5 = mkF m 0 #[.val (.ref a), .val (.ref ar), .val (.int off), .val (.int ln), .val (.int (1 : Int32))] [] := by first | (simp [entryFrame, mkF, argsToLocals, Value.category]; done) | rfl
def own_Q_sm1 (Z : State) (a : Addr) (ar : Addr) (off : Int32) (ln : Int32) (b : Addr) (g : Nat → Int32) (f : Nat → Int32) (cs : Int32) (fm : Value) (h0 : Heap) (n0 : Nat) (v : Option Value) (h : Heap) (L : List Loc) : Prop := v = some (.int 1) ∧ Fr n0 L ∧ h = h0
set_option maxRecDepth 65536 in
set_option maxHeartbeats 40000000 in
theorem own_rm_sm1 (l : Launch) (Z : State) (a0 : Array Value) (hw : ∀ d ∈ tables_1, d.before a0 Z = true) (ws : List Jvm.Cond) (a : Addr) (ar : Addr) (off : Int32) (ln : Int32) (b : Addr) (g : Nat → Int32) (f : Nat → Int32) (cs : Int32) (fm : Value) (h0 : Heap) (n0 : Nat) (Z0 : n0 ≤ h0.size) (E0 : Exa Z h0 a "java/lang/String") (F1 : Fld Z h0 a "java/lang/String" "coder" "B" (.int (0 : Int32))) (F0 : Fld Z h0 a "java/lang/String" "value" "[B" (.ref b)) (V0 : own_Ia Z h0 b .byte ln.toNatClampNeg g) (V1 : own_Ia Z h0 ar .char 6 f) (SC : Sta Z h0 "java/lang/String" "COMPACT_STRINGS" "Z" (.int cs)) (hcs : ¬ cs = (0 : Int32)) (SF : Sta Z h0 "jdk/internal/util/Preconditions" "SIOOBE_FORMATTER" "Ljava/util/function/BiFunction;" fm) (hfm : fm.isRef = true) (ho : 0 ≤ off.toInt) (hl : 0 ≤ ln.toInt) (hs : off.toInt + ln.toInt ≤ 6) (hf : ∀ i, i < 6 → 0 ≤ (f i).toInt ∧ (f i).toInt ≤ 255) (hg : ∀ i, i < ln.toNatClampNeg → g i = (f (off.toNatClampNeg + i)).toInt8.toInt32) :
    MetFree l (⟨"com/example/enumconv/enumconv/core/ReadingToStringPinLaw", "same", "(Ljava/lang/String;[CIII)Z"⟩ : MethodName) (head1 (Jvm.Cond.code (⟨"com/example/enumconv/enumconv/core/ReadingToStringPinLaw", "same", "(Ljava/lang/String;[CIII)Z"⟩ : MethodName) method_4_code 5 (some .boolean) :: ws) ({ frames := 4, cells := 0, slots := 0, locals := 53 } : Room)) (fun a_ U_ => a_ = #[(.ref a), (.ref ar), (.int off), (.int ln), (.int (1 : Int32))] ∧ Z.Warmed39 U_.vm ∧ U_.heap = h0) (fun _ _ _ _ _ => True) (fun _ U_ o_ U'_ => ∃ v_ L_, o_ = .returned v_ ∧ own_Q_sm1 Z a ar off ln b g f cs fm h0 n0 v_ U'_.heap L_ ∧ FrameEnd U_ o_ U'_ L_ ({ frames := 4, cells := 0, slots := 0, locals := 53 } : Room).cells ({ frames := 4, cells := 0, slots := 0, locals := 53 } : Room).slots) := by
  refine MetFree.of_bodySF (plainFor_of_name own_pn_com_example_enumconv_enumconv_core_ReadingToStringPinLaw) hisR ?_
  intro p e s m args below meth c s₁ Bd hml0 hP hK
  obtain ⟨rfl, hZ, hh⟩ := hP
  have hx := Bd.exec
  have hby := Bd.bytes
  have hlk : meth.locks = false := BodyLoose.notSynchronized Bd
  have hml : c.maxLocals = 5 := hml0
  have hown : s.vm.findClass "com/example/enumconv/enumconv/core/ReadingToStringPinLaw" = some m.cls := findClass_of_methodNamed Bd.named
  have hnm := (name_of_methodNamed Bd.named Bd.method).1
  have X0 : Stand p l e ({ frames := 4, cells := 0, slots := 0, locals := 53 } : Room) s m #[(.ref a), (.ref ar), (.int off), (.int ln), (.int (1 : Int32))] below meth c s₁ [] 0 0 := Stand.of_body Bd
  have e0 : s₁.heap = h0 := by rw [← hh, Bd.state]; rfl
  have N0 := Fr.nil n0
  show own_Goes p e below (own_K (own_Q_sm1 Z a ar off ln b g f cs fm h0 n0) s ({ frames := 4, cells := 0, slots := 0, locals := 53 } : Room).cells ({ frames := 4, cells := 0, slots := 0, locals := 53 } : Room).slots) s₁ (entryFrame m #[(.ref a), (.ref ar), (.int off), (.int ln), (.int (1 : Int32))] 5)
  rw [own_ef_sm1]
  refine own_by (T' := s₁) (g' := (mkF m 1 #[.val (.ref a), .val (.ref ar), .val (.int off), .val (.int ln), .val (.int (1 : Int32))] [(.int ln)])) (fun t_ k_ => XS.iloadN X0.here hx rfl (hb hby own_d_sm1_0) rfl k_) ?_
  refine own_by (T' := s₁) (g' := (mkF m 3 #[.val (.ref a), .val (.ref ar), .val (.int off), .val (.int ln), .val (.int (1 : Int32))] [(.int (1 : Int32)), (.int ln)])) (fun t_ k_ => XS.iload X0.here hx rfl (hb hby own_d_sm1_1) rfl k_) ?_
  by_cases c3_1 : (1 : Int32) < ln
  · skip
    refine own_by (T' := s₁) (g' := (mkF m 6 #[.val (.ref a), .val (.ref ar), .val (.int off), .val (.int ln), .val (.int (1 : Int32))] [])) (fun t_ k_ => XS.icmpNo X0.here hx rfl (hb hby own_d_sm1_3) rfl (tlt (c3_1 : (1 : Int32) < ln)).2.2.2 k_) ?_
    refine own_by (T' := s₁) (g' := (mkF m 7 #[.val (.ref a), .val (.ref ar), .val (.int off), .val (.int ln), .val (.int (1 : Int32))] [(.ref a)])) (fun t_ k_ => XS.aloadN X0.here hx rfl (hb hby own_d_sm1_6) rfl rfl k_) ?_
    refine own_by (T' := s₁) (g' := (mkF m 9 #[.val (.ref a), .val (.ref ar), .val (.int off), .val (.int ln), .val (.int (1 : Int32))] [(.int (1 : Int32)), (.ref a)])) (fun t_ k_ => XS.iload X0.here hx rfl (hb hby own_d_sm1_7) rfl k_) ?_
    obtain ⟨_, T2, L2, X2, hQ2, st2⟩ := own_callV X0 hx hZ (y := (⟨"java/lang/String", "charAt", "(I)C"⟩ : MethodName)) hown (hw _ (List.mem_of_getElem? (i := 107) rfl)) (hw _ (List.mem_of_getElem? (i := 108) rfl)) (hw _ (List.mem_of_getElem? (i := 110) rfl)) (hw _ (List.mem_of_getElem? (i := 109) rfl)) (hw _ (List.mem_of_getElem? (i := 58) rfl)) (hw _ (List.mem_of_getElem? (i := 111) rfl)) (by decide) (argsL := [(.int (1 : Int32))]) (rest := []) E0 (own_rm_cha l Z a0 hw [] a (1 : Int32) b ln g cs fm (f (off + (1 : Int32)).toNatClampNeg) h0 n0 Z0 E0 F1 F0 V0 SC hcs SF hfm (own_j1 ln (1 : Int32) (by decide) c3_1) (own_j2 off ln (1 : Int32) f g ho hl hs c3_1 hf hg (by decide)) (own_j3 _ (hf _ (own_j4 off ln (1 : Int32) ho hl hs c3_1 (by decide)).2))) e0 (W := 0) (by decide) (by decide) (by decide) (by decide) (g := (mkF m 9 #[.val (.ref a), .val (.ref ar), .val (.int off), .val (.int ln), .val (.int (1 : Int32))] [(.int (1 : Int32)), (.ref a)])) rfl (by rw [hml]; rfl) (lenOf own_pd1 rfl) rfl (by show 2 * 0 + _ ≤ _; exact Nat.le_of_eq rfl) (hb hby own_d_sm1_9)
    obtain ⟨rfl, Nq2, e2⟩ := hQ2
    have N2 := Fr.app N0 Nq2
    refine st2 _ ?_
    show own_Goes p e below _ T2 (mkF m 12 #[.val (.ref a), .val (.ref ar), .val (.int off), .val (.int ln), .val (.int (1 : Int32))] [(.int (f (off + (1 : Int32)).toNatClampNeg))])
    refine own_by (T' := T2) (g' := (mkF m 13 #[.val (.ref a), .val (.ref ar), .val (.int off), .val (.int ln), .val (.int (1 : Int32))] [(.ref ar), (.int (f (off + (1 : Int32)).toNatClampNeg))])) (fun t_ k_ => XS.aloadN X2.here hx rfl (hb hby own_d_sm1_12) rfl rfl k_) ?_
    refine own_by (T' := T2) (g' := (mkF m 14 #[.val (.ref a), .val (.ref ar), .val (.int off), .val (.int ln), .val (.int (1 : Int32))] [(.int off), (.ref ar), (.int (f (off + (1 : Int32)).toNatClampNeg))])) (fun t_ k_ => XS.iloadN X2.here hx rfl (hb hby own_d_sm1_13) rfl k_) ?_
    refine own_by (T' := T2) (g' := (mkF m 16 #[.val (.ref a), .val (.ref ar), .val (.int off), .val (.int ln), .val (.int (1 : Int32))] [(.int (1 : Int32)), (.int off), (.ref ar), (.int (f (off + (1 : Int32)).toNatClampNeg))])) (fun t_ k_ => XS.iload X2.here hx rfl (hb hby own_d_sm1_14) rfl k_) ?_
    refine own_by (T' := T2) (g' := (mkF m 17 #[.val (.ref a), .val (.ref ar), .val (.int off), .val (.int ln), .val (.int (1 : Int32))] [(.int (off + (1 : Int32))), (.ref ar), (.int (f (off + (1 : Int32)).toNatClampNeg))])) (fun t_ k_ => XS.iadd X2.here hx rfl (hb hby own_d_sm1_16) rfl k_) ?_
    refine own_by (T' := T2) (g' := (mkF m 18 #[.val (.ref a), .val (.ref ar), .val (.int off), .val (.int ln), .val (.int (1 : Int32))] [(.int (f (off + (1 : Int32)).toNatClampNeg)), (.int (f (off + (1 : Int32)).toNatClampNeg))])) (fun t_ k_ => own_cal X2 hx hZ e2 V1 (j := (off + (1 : Int32))) (own_j4 off ln (1 : Int32) ho hl hs c3_1 (by decide)).1 (own_j4 off ln (1 : Int32) ho hl hs c3_1 (by decide)).2 (g := (mkF m 17 #[.val (.ref a), .val (.ref ar), .val (.int off), .val (.int ln), .val (.int (1 : Int32))] [(.int (off + (1 : Int32))), (.ref ar), (.int (f (off + (1 : Int32)).toNatClampNeg))])) rfl rfl (hb hby own_d_sm1_17) _ k_) ?_
    refine own_by (T' := T2) (g' := (mkF m 21 #[.val (.ref a), .val (.ref ar), .val (.int off), .val (.int ln), .val (.int (1 : Int32))] [])) (fun t_ k_ => XS.icmpNo X2.here hx rfl (hb hby own_d_sm1_18) rfl (teq (rfl : (f (off + (1 : Int32)).toNatClampNeg) = (f (off + (1 : Int32)).toNatClampNeg))).2 k_) ?_
    refine own_by (T' := T2) (g' := (mkF m 22 #[.val (.ref a), .val (.ref ar), .val (.int off), .val (.int ln), .val (.int (1 : Int32))] [(.int (1 : Int32))])) (fun t_ k_ => XS.iconst X2.here hx rfl (hb hby own_d_sm1_21) k_) ?_
    refine own_by (T' := T2) (g' := (mkF m 26 #[.val (.ref a), .val (.ref ar), .val (.int off), .val (.int ln), .val (.int (1 : Int32))] [(.int (1 : Int32))])) (fun t_ k_ => XS.goto X2.here hx rfl (pc0 := 22) (pc' := 26) rfl (hb hby own_d_sm1_22) (by decide) (by decide) k_) ?_
    refine own_retN X2 hx (t := .boolean) Bd.returns hlk (by simp) (hb hby own_d_sm1_26) (by decide) (by decide) (v := (1 : Int32)) rfl ?_
    rw [e2]
    exact ⟨rfl, N2, rfl⟩
  · skip
    refine own_by (T' := s₁) (g' := (mkF m 21 #[.val (.ref a), .val (.ref ar), .val (.int off), .val (.int ln), .val (.int (1 : Int32))] [])) (fun t_ k_ => XS.icmpYes X0.here hx rfl (pc0 := 3) (pc' := 21) rfl (hb hby own_d_sm1_3) rfl (flt (c3_1 : ¬ ((1 : Int32) < ln))).2.2.2 (by decide) (by decide) k_) ?_
    refine own_by (T' := s₁) (g' := (mkF m 22 #[.val (.ref a), .val (.ref ar), .val (.int off), .val (.int ln), .val (.int (1 : Int32))] [(.int (1 : Int32))])) (fun t_ k_ => XS.iconst X0.here hx rfl (hb hby own_d_sm1_21) k_) ?_
    refine own_by (T' := s₁) (g' := (mkF m 26 #[.val (.ref a), .val (.ref ar), .val (.int off), .val (.int ln), .val (.int (1 : Int32))] [(.int (1 : Int32))])) (fun t_ k_ => XS.goto X0.here hx rfl (pc0 := 22) (pc' := 26) rfl (hb hby own_d_sm1_22) (by decide) (by decide) k_) ?_
    refine own_retN X0 hx (t := .boolean) Bd.returns hlk (by simp) (hb hby own_d_sm1_26) (by decide) (by decide) (v := (1 : Int32)) rfl ?_
    rw [e0]
    exact ⟨rfl, N0, rfl⟩
theorem own_d_sm2_0 : decode method_4_code 0 = .ok (.iload_n 3, 1) := by decide +kernel
theorem own_d_sm2_1 : decode method_4_code 1 = .ok (.iload 4, 2) := by decide +kernel
theorem own_d_sm2_3 : decode method_4_code 3 = .ok (.if_icmp .le 18, 3) := by decide +kernel
theorem own_d_sm2_6 : decode method_4_code 6 = .ok (.aload_n 0, 1) := by decide +kernel
theorem own_d_sm2_7 : decode method_4_code 7 = .ok (.iload 4, 2) := by decide +kernel
theorem own_d_sm2_9 : decode method_4_code 9 = .ok (.invokevirtual 37, 3) := by decide +kernel
theorem own_d_sm2_12 : decode method_4_code 12 = .ok (.aload_n 1, 1) := by decide +kernel
theorem own_d_sm2_13 : decode method_4_code 13 = .ok (.iload_n 2, 1) := by decide +kernel
theorem own_d_sm2_14 : decode method_4_code 14 = .ok (.iload 4, 2) := by decide +kernel
theorem own_d_sm2_16 : decode method_4_code 16 = .ok (.iadd, 1) := by decide +kernel
theorem own_d_sm2_17 : decode method_4_code 17 = .ok (.caload, 1) := by decide +kernel
theorem own_d_sm2_18 : decode method_4_code 18 = .ok (.if_icmp .ne 7, 3) := by decide +kernel
theorem own_d_sm2_21 : decode method_4_code 21 = .ok (.iconst 1, 1) := by decide +kernel
theorem own_d_sm2_22 : decode method_4_code 22 = .ok (.goto 4, 3) := by decide +kernel
theorem own_d_sm2_26 : decode method_4_code 26 = .ok (.ireturn, 1) := by decide +kernel
theorem own_ef_sm2 (m : MethodId) (a : Addr) (ar : Addr) (off : Int32) (ln : Int32) : entryFrame m #[(.ref a), (.ref ar), (.int off), (.int ln), (.int (2 : Int32))] 5 = mkF m 0 #[.val (.ref a), .val (.ref ar), .val (.int off), .val (.int ln), .val (.int (2 : Int32))] [] := by first | (simp [entryFrame, mkF, argsToLocals, Value.category]; done) | rfl
def own_Q_sm2 (Z : State) (a : Addr) (ar : Addr) (off : Int32) (ln : Int32) (b : Addr) (g : Nat → Int32) (f : Nat → Int32) (cs : Int32) (fm : Value) (h0 : Heap) (n0 : Nat) (v : Option Value) (h : Heap) (L : List Loc) : Prop := v = some (.int 1) ∧ Fr n0 L ∧ h = h0
set_option maxRecDepth 65536 in
set_option maxHeartbeats 40000000 in
theorem own_rm_sm2 (l : Launch) (Z : State) (a0 : Array Value) (hw : ∀ d ∈ tables_1, d.before a0 Z = true) (ws : List Jvm.Cond) (a : Addr) (ar : Addr) (off : Int32) (ln : Int32) (b : Addr) (g : Nat → Int32) (f : Nat → Int32) (cs : Int32) (fm : Value) (h0 : Heap) (n0 : Nat) (Z0 : n0 ≤ h0.size) (E0 : Exa Z h0 a "java/lang/String") (F1 : Fld Z h0 a "java/lang/String" "coder" "B" (.int (0 : Int32))) (F0 : Fld Z h0 a "java/lang/String" "value" "[B" (.ref b)) (V0 : own_Ia Z h0 b .byte ln.toNatClampNeg g) (V1 : own_Ia Z h0 ar .char 6 f) (SC : Sta Z h0 "java/lang/String" "COMPACT_STRINGS" "Z" (.int cs)) (hcs : ¬ cs = (0 : Int32)) (SF : Sta Z h0 "jdk/internal/util/Preconditions" "SIOOBE_FORMATTER" "Ljava/util/function/BiFunction;" fm) (hfm : fm.isRef = true) (ho : 0 ≤ off.toInt) (hl : 0 ≤ ln.toInt) (hs : off.toInt + ln.toInt ≤ 6) (hf : ∀ i, i < 6 → 0 ≤ (f i).toInt ∧ (f i).toInt ≤ 255) (hg : ∀ i, i < ln.toNatClampNeg → g i = (f (off.toNatClampNeg + i)).toInt8.toInt32) :
    MetFree l (⟨"com/example/enumconv/enumconv/core/ReadingToStringPinLaw", "same", "(Ljava/lang/String;[CIII)Z"⟩ : MethodName) (head1 (Jvm.Cond.code (⟨"com/example/enumconv/enumconv/core/ReadingToStringPinLaw", "same", "(Ljava/lang/String;[CIII)Z"⟩ : MethodName) method_4_code 5 (some .boolean) :: ws) ({ frames := 4, cells := 0, slots := 0, locals := 53 } : Room)) (fun a_ U_ => a_ = #[(.ref a), (.ref ar), (.int off), (.int ln), (.int (2 : Int32))] ∧ Z.Warmed39 U_.vm ∧ U_.heap = h0) (fun _ _ _ _ _ => True) (fun _ U_ o_ U'_ => ∃ v_ L_, o_ = .returned v_ ∧ own_Q_sm2 Z a ar off ln b g f cs fm h0 n0 v_ U'_.heap L_ ∧ FrameEnd U_ o_ U'_ L_ ({ frames := 4, cells := 0, slots := 0, locals := 53 } : Room).cells ({ frames := 4, cells := 0, slots := 0, locals := 53 } : Room).slots) := by
  refine MetFree.of_bodySF (plainFor_of_name own_pn_com_example_enumconv_enumconv_core_ReadingToStringPinLaw) hisR ?_
  intro p e s m args below meth c s₁ Bd hml0 hP hK
  obtain ⟨rfl, hZ, hh⟩ := hP
  have hx := Bd.exec
  have hby := Bd.bytes
  have hlk : meth.locks = false := BodyLoose.notSynchronized Bd
  have hml : c.maxLocals = 5 := hml0
  have hown : s.vm.findClass "com/example/enumconv/enumconv/core/ReadingToStringPinLaw" = some m.cls := findClass_of_methodNamed Bd.named
  have hnm := (name_of_methodNamed Bd.named Bd.method).1
  have X0 : Stand p l e ({ frames := 4, cells := 0, slots := 0, locals := 53 } : Room) s m #[(.ref a), (.ref ar), (.int off), (.int ln), (.int (2 : Int32))] below meth c s₁ [] 0 0 := Stand.of_body Bd
  have e0 : s₁.heap = h0 := by rw [← hh, Bd.state]; rfl
  have N0 := Fr.nil n0
  show own_Goes p e below (own_K (own_Q_sm2 Z a ar off ln b g f cs fm h0 n0) s ({ frames := 4, cells := 0, slots := 0, locals := 53 } : Room).cells ({ frames := 4, cells := 0, slots := 0, locals := 53 } : Room).slots) s₁ (entryFrame m #[(.ref a), (.ref ar), (.int off), (.int ln), (.int (2 : Int32))] 5)
  rw [own_ef_sm2]
  refine own_by (T' := s₁) (g' := (mkF m 1 #[.val (.ref a), .val (.ref ar), .val (.int off), .val (.int ln), .val (.int (2 : Int32))] [(.int ln)])) (fun t_ k_ => XS.iloadN X0.here hx rfl (hb hby own_d_sm2_0) rfl k_) ?_
  refine own_by (T' := s₁) (g' := (mkF m 3 #[.val (.ref a), .val (.ref ar), .val (.int off), .val (.int ln), .val (.int (2 : Int32))] [(.int (2 : Int32)), (.int ln)])) (fun t_ k_ => XS.iload X0.here hx rfl (hb hby own_d_sm2_1) rfl k_) ?_
  by_cases c3_1 : (2 : Int32) < ln
  · skip
    refine own_by (T' := s₁) (g' := (mkF m 6 #[.val (.ref a), .val (.ref ar), .val (.int off), .val (.int ln), .val (.int (2 : Int32))] [])) (fun t_ k_ => XS.icmpNo X0.here hx rfl (hb hby own_d_sm2_3) rfl (tlt (c3_1 : (2 : Int32) < ln)).2.2.2 k_) ?_
    refine own_by (T' := s₁) (g' := (mkF m 7 #[.val (.ref a), .val (.ref ar), .val (.int off), .val (.int ln), .val (.int (2 : Int32))] [(.ref a)])) (fun t_ k_ => XS.aloadN X0.here hx rfl (hb hby own_d_sm2_6) rfl rfl k_) ?_
    refine own_by (T' := s₁) (g' := (mkF m 9 #[.val (.ref a), .val (.ref ar), .val (.int off), .val (.int ln), .val (.int (2 : Int32))] [(.int (2 : Int32)), (.ref a)])) (fun t_ k_ => XS.iload X0.here hx rfl (hb hby own_d_sm2_7) rfl k_) ?_
    obtain ⟨_, T2, L2, X2, hQ2, st2⟩ := own_callV X0 hx hZ (y := (⟨"java/lang/String", "charAt", "(I)C"⟩ : MethodName)) hown (hw _ (List.mem_of_getElem? (i := 107) rfl)) (hw _ (List.mem_of_getElem? (i := 108) rfl)) (hw _ (List.mem_of_getElem? (i := 110) rfl)) (hw _ (List.mem_of_getElem? (i := 109) rfl)) (hw _ (List.mem_of_getElem? (i := 58) rfl)) (hw _ (List.mem_of_getElem? (i := 111) rfl)) (by decide) (argsL := [(.int (2 : Int32))]) (rest := []) E0 (own_rm_cha l Z a0 hw [] a (2 : Int32) b ln g cs fm (f (off + (2 : Int32)).toNatClampNeg) h0 n0 Z0 E0 F1 F0 V0 SC hcs SF hfm (own_j1 ln (2 : Int32) (by decide) c3_1) (own_j2 off ln (2 : Int32) f g ho hl hs c3_1 hf hg (by decide)) (own_j3 _ (hf _ (own_j4 off ln (2 : Int32) ho hl hs c3_1 (by decide)).2))) e0 (W := 0) (by decide) (by decide) (by decide) (by decide) (g := (mkF m 9 #[.val (.ref a), .val (.ref ar), .val (.int off), .val (.int ln), .val (.int (2 : Int32))] [(.int (2 : Int32)), (.ref a)])) rfl (by rw [hml]; rfl) (lenOf own_pd1 rfl) rfl (by show 2 * 0 + _ ≤ _; exact Nat.le_of_eq rfl) (hb hby own_d_sm2_9)
    obtain ⟨rfl, Nq2, e2⟩ := hQ2
    have N2 := Fr.app N0 Nq2
    refine st2 _ ?_
    show own_Goes p e below _ T2 (mkF m 12 #[.val (.ref a), .val (.ref ar), .val (.int off), .val (.int ln), .val (.int (2 : Int32))] [(.int (f (off + (2 : Int32)).toNatClampNeg))])
    refine own_by (T' := T2) (g' := (mkF m 13 #[.val (.ref a), .val (.ref ar), .val (.int off), .val (.int ln), .val (.int (2 : Int32))] [(.ref ar), (.int (f (off + (2 : Int32)).toNatClampNeg))])) (fun t_ k_ => XS.aloadN X2.here hx rfl (hb hby own_d_sm2_12) rfl rfl k_) ?_
    refine own_by (T' := T2) (g' := (mkF m 14 #[.val (.ref a), .val (.ref ar), .val (.int off), .val (.int ln), .val (.int (2 : Int32))] [(.int off), (.ref ar), (.int (f (off + (2 : Int32)).toNatClampNeg))])) (fun t_ k_ => XS.iloadN X2.here hx rfl (hb hby own_d_sm2_13) rfl k_) ?_
    refine own_by (T' := T2) (g' := (mkF m 16 #[.val (.ref a), .val (.ref ar), .val (.int off), .val (.int ln), .val (.int (2 : Int32))] [(.int (2 : Int32)), (.int off), (.ref ar), (.int (f (off + (2 : Int32)).toNatClampNeg))])) (fun t_ k_ => XS.iload X2.here hx rfl (hb hby own_d_sm2_14) rfl k_) ?_
    refine own_by (T' := T2) (g' := (mkF m 17 #[.val (.ref a), .val (.ref ar), .val (.int off), .val (.int ln), .val (.int (2 : Int32))] [(.int (off + (2 : Int32))), (.ref ar), (.int (f (off + (2 : Int32)).toNatClampNeg))])) (fun t_ k_ => XS.iadd X2.here hx rfl (hb hby own_d_sm2_16) rfl k_) ?_
    refine own_by (T' := T2) (g' := (mkF m 18 #[.val (.ref a), .val (.ref ar), .val (.int off), .val (.int ln), .val (.int (2 : Int32))] [(.int (f (off + (2 : Int32)).toNatClampNeg)), (.int (f (off + (2 : Int32)).toNatClampNeg))])) (fun t_ k_ => own_cal X2 hx hZ e2 V1 (j := (off + (2 : Int32))) (own_j4 off ln (2 : Int32) ho hl hs c3_1 (by decide)).1 (own_j4 off ln (2 : Int32) ho hl hs c3_1 (by decide)).2 (g := (mkF m 17 #[.val (.ref a), .val (.ref ar), .val (.int off), .val (.int ln), .val (.int (2 : Int32))] [(.int (off + (2 : Int32))), (.ref ar), (.int (f (off + (2 : Int32)).toNatClampNeg))])) rfl rfl (hb hby own_d_sm2_17) _ k_) ?_
    refine own_by (T' := T2) (g' := (mkF m 21 #[.val (.ref a), .val (.ref ar), .val (.int off), .val (.int ln), .val (.int (2 : Int32))] [])) (fun t_ k_ => XS.icmpNo X2.here hx rfl (hb hby own_d_sm2_18) rfl (teq (rfl : (f (off + (2 : Int32)).toNatClampNeg) = (f (off + (2 : Int32)).toNatClampNeg))).2 k_) ?_
    refine own_by (T' := T2) (g' := (mkF m 22 #[.val (.ref a), .val (.ref ar), .val (.int off), .val (.int ln), .val (.int (2 : Int32))] [(.int (1 : Int32))])) (fun t_ k_ => XS.iconst X2.here hx rfl (hb hby own_d_sm2_21) k_) ?_
    refine own_by (T' := T2) (g' := (mkF m 26 #[.val (.ref a), .val (.ref ar), .val (.int off), .val (.int ln), .val (.int (2 : Int32))] [(.int (1 : Int32))])) (fun t_ k_ => XS.goto X2.here hx rfl (pc0 := 22) (pc' := 26) rfl (hb hby own_d_sm2_22) (by decide) (by decide) k_) ?_
    refine own_retN X2 hx (t := .boolean) Bd.returns hlk (by simp) (hb hby own_d_sm2_26) (by decide) (by decide) (v := (1 : Int32)) rfl ?_
    rw [e2]
    exact ⟨rfl, N2, rfl⟩
  · skip
    refine own_by (T' := s₁) (g' := (mkF m 21 #[.val (.ref a), .val (.ref ar), .val (.int off), .val (.int ln), .val (.int (2 : Int32))] [])) (fun t_ k_ => XS.icmpYes X0.here hx rfl (pc0 := 3) (pc' := 21) rfl (hb hby own_d_sm2_3) rfl (flt (c3_1 : ¬ ((2 : Int32) < ln))).2.2.2 (by decide) (by decide) k_) ?_
    refine own_by (T' := s₁) (g' := (mkF m 22 #[.val (.ref a), .val (.ref ar), .val (.int off), .val (.int ln), .val (.int (2 : Int32))] [(.int (1 : Int32))])) (fun t_ k_ => XS.iconst X0.here hx rfl (hb hby own_d_sm2_21) k_) ?_
    refine own_by (T' := s₁) (g' := (mkF m 26 #[.val (.ref a), .val (.ref ar), .val (.int off), .val (.int ln), .val (.int (2 : Int32))] [(.int (1 : Int32))])) (fun t_ k_ => XS.goto X0.here hx rfl (pc0 := 22) (pc' := 26) rfl (hb hby own_d_sm2_22) (by decide) (by decide) k_) ?_
    refine own_retN X0 hx (t := .boolean) Bd.returns hlk (by simp) (hb hby own_d_sm2_26) (by decide) (by decide) (v := (1 : Int32)) rfl ?_
    rw [e0]
    exact ⟨rfl, N0, rfl⟩
theorem own_d_sm3_0 : decode method_4_code 0 = .ok (.iload_n 3, 1) := by decide +kernel
theorem own_d_sm3_1 : decode method_4_code 1 = .ok (.iload 4, 2) := by decide +kernel
theorem own_d_sm3_3 : decode method_4_code 3 = .ok (.if_icmp .le 18, 3) := by decide +kernel
theorem own_d_sm3_6 : decode method_4_code 6 = .ok (.aload_n 0, 1) := by decide +kernel
theorem own_d_sm3_7 : decode method_4_code 7 = .ok (.iload 4, 2) := by decide +kernel
theorem own_d_sm3_9 : decode method_4_code 9 = .ok (.invokevirtual 37, 3) := by decide +kernel
theorem own_d_sm3_12 : decode method_4_code 12 = .ok (.aload_n 1, 1) := by decide +kernel
theorem own_d_sm3_13 : decode method_4_code 13 = .ok (.iload_n 2, 1) := by decide +kernel
theorem own_d_sm3_14 : decode method_4_code 14 = .ok (.iload 4, 2) := by decide +kernel
theorem own_d_sm3_16 : decode method_4_code 16 = .ok (.iadd, 1) := by decide +kernel
theorem own_d_sm3_17 : decode method_4_code 17 = .ok (.caload, 1) := by decide +kernel
theorem own_d_sm3_18 : decode method_4_code 18 = .ok (.if_icmp .ne 7, 3) := by decide +kernel
theorem own_d_sm3_21 : decode method_4_code 21 = .ok (.iconst 1, 1) := by decide +kernel
theorem own_d_sm3_22 : decode method_4_code 22 = .ok (.goto 4, 3) := by decide +kernel
theorem own_d_sm3_26 : decode method_4_code 26 = .ok (.ireturn, 1) := by decide +kernel
theorem own_ef_sm3 (m : MethodId) (a : Addr) (ar : Addr) (off : Int32) (ln : Int32) : entryFrame m #[(.ref a), (.ref ar), (.int off), (.int ln), (.int (3 : Int32))] 5 = mkF m 0 #[.val (.ref a), .val (.ref ar), .val (.int off), .val (.int ln), .val (.int (3 : Int32))] [] := by first | (simp [entryFrame, mkF, argsToLocals, Value.category]; done) | rfl
def own_Q_sm3 (Z : State) (a : Addr) (ar : Addr) (off : Int32) (ln : Int32) (b : Addr) (g : Nat → Int32) (f : Nat → Int32) (cs : Int32) (fm : Value) (h0 : Heap) (n0 : Nat) (v : Option Value) (h : Heap) (L : List Loc) : Prop := v = some (.int 1) ∧ Fr n0 L ∧ h = h0
set_option maxRecDepth 65536 in
set_option maxHeartbeats 40000000 in
theorem own_rm_sm3 (l : Launch) (Z : State) (a0 : Array Value) (hw : ∀ d ∈ tables_1, d.before a0 Z = true) (ws : List Jvm.Cond) (a : Addr) (ar : Addr) (off : Int32) (ln : Int32) (b : Addr) (g : Nat → Int32) (f : Nat → Int32) (cs : Int32) (fm : Value) (h0 : Heap) (n0 : Nat) (Z0 : n0 ≤ h0.size) (E0 : Exa Z h0 a "java/lang/String") (F1 : Fld Z h0 a "java/lang/String" "coder" "B" (.int (0 : Int32))) (F0 : Fld Z h0 a "java/lang/String" "value" "[B" (.ref b)) (V0 : own_Ia Z h0 b .byte ln.toNatClampNeg g) (V1 : own_Ia Z h0 ar .char 6 f) (SC : Sta Z h0 "java/lang/String" "COMPACT_STRINGS" "Z" (.int cs)) (hcs : ¬ cs = (0 : Int32)) (SF : Sta Z h0 "jdk/internal/util/Preconditions" "SIOOBE_FORMATTER" "Ljava/util/function/BiFunction;" fm) (hfm : fm.isRef = true) (ho : 0 ≤ off.toInt) (hl : 0 ≤ ln.toInt) (hs : off.toInt + ln.toInt ≤ 6) (hf : ∀ i, i < 6 → 0 ≤ (f i).toInt ∧ (f i).toInt ≤ 255) (hg : ∀ i, i < ln.toNatClampNeg → g i = (f (off.toNatClampNeg + i)).toInt8.toInt32) :
    MetFree l (⟨"com/example/enumconv/enumconv/core/ReadingToStringPinLaw", "same", "(Ljava/lang/String;[CIII)Z"⟩ : MethodName) (head1 (Jvm.Cond.code (⟨"com/example/enumconv/enumconv/core/ReadingToStringPinLaw", "same", "(Ljava/lang/String;[CIII)Z"⟩ : MethodName) method_4_code 5 (some .boolean) :: ws) ({ frames := 4, cells := 0, slots := 0, locals := 53 } : Room)) (fun a_ U_ => a_ = #[(.ref a), (.ref ar), (.int off), (.int ln), (.int (3 : Int32))] ∧ Z.Warmed39 U_.vm ∧ U_.heap = h0) (fun _ _ _ _ _ => True) (fun _ U_ o_ U'_ => ∃ v_ L_, o_ = .returned v_ ∧ own_Q_sm3 Z a ar off ln b g f cs fm h0 n0 v_ U'_.heap L_ ∧ FrameEnd U_ o_ U'_ L_ ({ frames := 4, cells := 0, slots := 0, locals := 53 } : Room).cells ({ frames := 4, cells := 0, slots := 0, locals := 53 } : Room).slots) := by
  refine MetFree.of_bodySF (plainFor_of_name own_pn_com_example_enumconv_enumconv_core_ReadingToStringPinLaw) hisR ?_
  intro p e s m args below meth c s₁ Bd hml0 hP hK
  obtain ⟨rfl, hZ, hh⟩ := hP
  have hx := Bd.exec
  have hby := Bd.bytes
  have hlk : meth.locks = false := BodyLoose.notSynchronized Bd
  have hml : c.maxLocals = 5 := hml0
  have hown : s.vm.findClass "com/example/enumconv/enumconv/core/ReadingToStringPinLaw" = some m.cls := findClass_of_methodNamed Bd.named
  have hnm := (name_of_methodNamed Bd.named Bd.method).1
  have X0 : Stand p l e ({ frames := 4, cells := 0, slots := 0, locals := 53 } : Room) s m #[(.ref a), (.ref ar), (.int off), (.int ln), (.int (3 : Int32))] below meth c s₁ [] 0 0 := Stand.of_body Bd
  have e0 : s₁.heap = h0 := by rw [← hh, Bd.state]; rfl
  have N0 := Fr.nil n0
  show own_Goes p e below (own_K (own_Q_sm3 Z a ar off ln b g f cs fm h0 n0) s ({ frames := 4, cells := 0, slots := 0, locals := 53 } : Room).cells ({ frames := 4, cells := 0, slots := 0, locals := 53 } : Room).slots) s₁ (entryFrame m #[(.ref a), (.ref ar), (.int off), (.int ln), (.int (3 : Int32))] 5)
  rw [own_ef_sm3]
  refine own_by (T' := s₁) (g' := (mkF m 1 #[.val (.ref a), .val (.ref ar), .val (.int off), .val (.int ln), .val (.int (3 : Int32))] [(.int ln)])) (fun t_ k_ => XS.iloadN X0.here hx rfl (hb hby own_d_sm3_0) rfl k_) ?_
  refine own_by (T' := s₁) (g' := (mkF m 3 #[.val (.ref a), .val (.ref ar), .val (.int off), .val (.int ln), .val (.int (3 : Int32))] [(.int (3 : Int32)), (.int ln)])) (fun t_ k_ => XS.iload X0.here hx rfl (hb hby own_d_sm3_1) rfl k_) ?_
  by_cases c3_1 : (3 : Int32) < ln
  · skip
    refine own_by (T' := s₁) (g' := (mkF m 6 #[.val (.ref a), .val (.ref ar), .val (.int off), .val (.int ln), .val (.int (3 : Int32))] [])) (fun t_ k_ => XS.icmpNo X0.here hx rfl (hb hby own_d_sm3_3) rfl (tlt (c3_1 : (3 : Int32) < ln)).2.2.2 k_) ?_
    refine own_by (T' := s₁) (g' := (mkF m 7 #[.val (.ref a), .val (.ref ar), .val (.int off), .val (.int ln), .val (.int (3 : Int32))] [(.ref a)])) (fun t_ k_ => XS.aloadN X0.here hx rfl (hb hby own_d_sm3_6) rfl rfl k_) ?_
    refine own_by (T' := s₁) (g' := (mkF m 9 #[.val (.ref a), .val (.ref ar), .val (.int off), .val (.int ln), .val (.int (3 : Int32))] [(.int (3 : Int32)), (.ref a)])) (fun t_ k_ => XS.iload X0.here hx rfl (hb hby own_d_sm3_7) rfl k_) ?_
    obtain ⟨_, T2, L2, X2, hQ2, st2⟩ := own_callV X0 hx hZ (y := (⟨"java/lang/String", "charAt", "(I)C"⟩ : MethodName)) hown (hw _ (List.mem_of_getElem? (i := 107) rfl)) (hw _ (List.mem_of_getElem? (i := 108) rfl)) (hw _ (List.mem_of_getElem? (i := 110) rfl)) (hw _ (List.mem_of_getElem? (i := 109) rfl)) (hw _ (List.mem_of_getElem? (i := 58) rfl)) (hw _ (List.mem_of_getElem? (i := 111) rfl)) (by decide) (argsL := [(.int (3 : Int32))]) (rest := []) E0 (own_rm_cha l Z a0 hw [] a (3 : Int32) b ln g cs fm (f (off + (3 : Int32)).toNatClampNeg) h0 n0 Z0 E0 F1 F0 V0 SC hcs SF hfm (own_j1 ln (3 : Int32) (by decide) c3_1) (own_j2 off ln (3 : Int32) f g ho hl hs c3_1 hf hg (by decide)) (own_j3 _ (hf _ (own_j4 off ln (3 : Int32) ho hl hs c3_1 (by decide)).2))) e0 (W := 0) (by decide) (by decide) (by decide) (by decide) (g := (mkF m 9 #[.val (.ref a), .val (.ref ar), .val (.int off), .val (.int ln), .val (.int (3 : Int32))] [(.int (3 : Int32)), (.ref a)])) rfl (by rw [hml]; rfl) (lenOf own_pd1 rfl) rfl (by show 2 * 0 + _ ≤ _; exact Nat.le_of_eq rfl) (hb hby own_d_sm3_9)
    obtain ⟨rfl, Nq2, e2⟩ := hQ2
    have N2 := Fr.app N0 Nq2
    refine st2 _ ?_
    show own_Goes p e below _ T2 (mkF m 12 #[.val (.ref a), .val (.ref ar), .val (.int off), .val (.int ln), .val (.int (3 : Int32))] [(.int (f (off + (3 : Int32)).toNatClampNeg))])
    refine own_by (T' := T2) (g' := (mkF m 13 #[.val (.ref a), .val (.ref ar), .val (.int off), .val (.int ln), .val (.int (3 : Int32))] [(.ref ar), (.int (f (off + (3 : Int32)).toNatClampNeg))])) (fun t_ k_ => XS.aloadN X2.here hx rfl (hb hby own_d_sm3_12) rfl rfl k_) ?_
    refine own_by (T' := T2) (g' := (mkF m 14 #[.val (.ref a), .val (.ref ar), .val (.int off), .val (.int ln), .val (.int (3 : Int32))] [(.int off), (.ref ar), (.int (f (off + (3 : Int32)).toNatClampNeg))])) (fun t_ k_ => XS.iloadN X2.here hx rfl (hb hby own_d_sm3_13) rfl k_) ?_
    refine own_by (T' := T2) (g' := (mkF m 16 #[.val (.ref a), .val (.ref ar), .val (.int off), .val (.int ln), .val (.int (3 : Int32))] [(.int (3 : Int32)), (.int off), (.ref ar), (.int (f (off + (3 : Int32)).toNatClampNeg))])) (fun t_ k_ => XS.iload X2.here hx rfl (hb hby own_d_sm3_14) rfl k_) ?_
    refine own_by (T' := T2) (g' := (mkF m 17 #[.val (.ref a), .val (.ref ar), .val (.int off), .val (.int ln), .val (.int (3 : Int32))] [(.int (off + (3 : Int32))), (.ref ar), (.int (f (off + (3 : Int32)).toNatClampNeg))])) (fun t_ k_ => XS.iadd X2.here hx rfl (hb hby own_d_sm3_16) rfl k_) ?_
    refine own_by (T' := T2) (g' := (mkF m 18 #[.val (.ref a), .val (.ref ar), .val (.int off), .val (.int ln), .val (.int (3 : Int32))] [(.int (f (off + (3 : Int32)).toNatClampNeg)), (.int (f (off + (3 : Int32)).toNatClampNeg))])) (fun t_ k_ => own_cal X2 hx hZ e2 V1 (j := (off + (3 : Int32))) (own_j4 off ln (3 : Int32) ho hl hs c3_1 (by decide)).1 (own_j4 off ln (3 : Int32) ho hl hs c3_1 (by decide)).2 (g := (mkF m 17 #[.val (.ref a), .val (.ref ar), .val (.int off), .val (.int ln), .val (.int (3 : Int32))] [(.int (off + (3 : Int32))), (.ref ar), (.int (f (off + (3 : Int32)).toNatClampNeg))])) rfl rfl (hb hby own_d_sm3_17) _ k_) ?_
    refine own_by (T' := T2) (g' := (mkF m 21 #[.val (.ref a), .val (.ref ar), .val (.int off), .val (.int ln), .val (.int (3 : Int32))] [])) (fun t_ k_ => XS.icmpNo X2.here hx rfl (hb hby own_d_sm3_18) rfl (teq (rfl : (f (off + (3 : Int32)).toNatClampNeg) = (f (off + (3 : Int32)).toNatClampNeg))).2 k_) ?_
    refine own_by (T' := T2) (g' := (mkF m 22 #[.val (.ref a), .val (.ref ar), .val (.int off), .val (.int ln), .val (.int (3 : Int32))] [(.int (1 : Int32))])) (fun t_ k_ => XS.iconst X2.here hx rfl (hb hby own_d_sm3_21) k_) ?_
    refine own_by (T' := T2) (g' := (mkF m 26 #[.val (.ref a), .val (.ref ar), .val (.int off), .val (.int ln), .val (.int (3 : Int32))] [(.int (1 : Int32))])) (fun t_ k_ => XS.goto X2.here hx rfl (pc0 := 22) (pc' := 26) rfl (hb hby own_d_sm3_22) (by decide) (by decide) k_) ?_
    refine own_retN X2 hx (t := .boolean) Bd.returns hlk (by simp) (hb hby own_d_sm3_26) (by decide) (by decide) (v := (1 : Int32)) rfl ?_
    rw [e2]
    exact ⟨rfl, N2, rfl⟩
  · skip
    refine own_by (T' := s₁) (g' := (mkF m 21 #[.val (.ref a), .val (.ref ar), .val (.int off), .val (.int ln), .val (.int (3 : Int32))] [])) (fun t_ k_ => XS.icmpYes X0.here hx rfl (pc0 := 3) (pc' := 21) rfl (hb hby own_d_sm3_3) rfl (flt (c3_1 : ¬ ((3 : Int32) < ln))).2.2.2 (by decide) (by decide) k_) ?_
    refine own_by (T' := s₁) (g' := (mkF m 22 #[.val (.ref a), .val (.ref ar), .val (.int off), .val (.int ln), .val (.int (3 : Int32))] [(.int (1 : Int32))])) (fun t_ k_ => XS.iconst X0.here hx rfl (hb hby own_d_sm3_21) k_) ?_
    refine own_by (T' := s₁) (g' := (mkF m 26 #[.val (.ref a), .val (.ref ar), .val (.int off), .val (.int ln), .val (.int (3 : Int32))] [(.int (1 : Int32))])) (fun t_ k_ => XS.goto X0.here hx rfl (pc0 := 22) (pc' := 26) rfl (hb hby own_d_sm3_22) (by decide) (by decide) k_) ?_
    refine own_retN X0 hx (t := .boolean) Bd.returns hlk (by simp) (hb hby own_d_sm3_26) (by decide) (by decide) (v := (1 : Int32)) rfl ?_
    rw [e0]
    exact ⟨rfl, N0, rfl⟩
theorem own_d_sm4_0 : decode method_4_code 0 = .ok (.iload_n 3, 1) := by decide +kernel
theorem own_d_sm4_1 : decode method_4_code 1 = .ok (.iload 4, 2) := by decide +kernel
theorem own_d_sm4_3 : decode method_4_code 3 = .ok (.if_icmp .le 18, 3) := by decide +kernel
theorem own_d_sm4_6 : decode method_4_code 6 = .ok (.aload_n 0, 1) := by decide +kernel
theorem own_d_sm4_7 : decode method_4_code 7 = .ok (.iload 4, 2) := by decide +kernel
theorem own_d_sm4_9 : decode method_4_code 9 = .ok (.invokevirtual 37, 3) := by decide +kernel
theorem own_d_sm4_12 : decode method_4_code 12 = .ok (.aload_n 1, 1) := by decide +kernel
theorem own_d_sm4_13 : decode method_4_code 13 = .ok (.iload_n 2, 1) := by decide +kernel
theorem own_d_sm4_14 : decode method_4_code 14 = .ok (.iload 4, 2) := by decide +kernel
theorem own_d_sm4_16 : decode method_4_code 16 = .ok (.iadd, 1) := by decide +kernel
theorem own_d_sm4_17 : decode method_4_code 17 = .ok (.caload, 1) := by decide +kernel
theorem own_d_sm4_18 : decode method_4_code 18 = .ok (.if_icmp .ne 7, 3) := by decide +kernel
theorem own_d_sm4_21 : decode method_4_code 21 = .ok (.iconst 1, 1) := by decide +kernel
theorem own_d_sm4_22 : decode method_4_code 22 = .ok (.goto 4, 3) := by decide +kernel
theorem own_d_sm4_26 : decode method_4_code 26 = .ok (.ireturn, 1) := by decide +kernel
theorem own_ef_sm4 (m : MethodId) (a : Addr) (ar : Addr) (off : Int32) (ln : Int32) : entryFrame m #[(.ref a), (.ref ar), (.int off), (.int ln), (.int (4 : Int32))] 5 = mkF m 0 #[.val (.ref a), .val (.ref ar), .val (.int off), .val (.int ln), .val (.int (4 : Int32))] [] := by first | (simp [entryFrame, mkF, argsToLocals, Value.category]; done) | rfl
def own_Q_sm4 (Z : State) (a : Addr) (ar : Addr) (off : Int32) (ln : Int32) (b : Addr) (g : Nat → Int32) (f : Nat → Int32) (cs : Int32) (fm : Value) (h0 : Heap) (n0 : Nat) (v : Option Value) (h : Heap) (L : List Loc) : Prop := v = some (.int 1) ∧ Fr n0 L ∧ h = h0
set_option maxRecDepth 65536 in
set_option maxHeartbeats 40000000 in
theorem own_rm_sm4 (l : Launch) (Z : State) (a0 : Array Value) (hw : ∀ d ∈ tables_1, d.before a0 Z = true) (ws : List Jvm.Cond) (a : Addr) (ar : Addr) (off : Int32) (ln : Int32) (b : Addr) (g : Nat → Int32) (f : Nat → Int32) (cs : Int32) (fm : Value) (h0 : Heap) (n0 : Nat) (Z0 : n0 ≤ h0.size) (E0 : Exa Z h0 a "java/lang/String") (F1 : Fld Z h0 a "java/lang/String" "coder" "B" (.int (0 : Int32))) (F0 : Fld Z h0 a "java/lang/String" "value" "[B" (.ref b)) (V0 : own_Ia Z h0 b .byte ln.toNatClampNeg g) (V1 : own_Ia Z h0 ar .char 6 f) (SC : Sta Z h0 "java/lang/String" "COMPACT_STRINGS" "Z" (.int cs)) (hcs : ¬ cs = (0 : Int32)) (SF : Sta Z h0 "jdk/internal/util/Preconditions" "SIOOBE_FORMATTER" "Ljava/util/function/BiFunction;" fm) (hfm : fm.isRef = true) (ho : 0 ≤ off.toInt) (hl : 0 ≤ ln.toInt) (hs : off.toInt + ln.toInt ≤ 6) (hf : ∀ i, i < 6 → 0 ≤ (f i).toInt ∧ (f i).toInt ≤ 255) (hg : ∀ i, i < ln.toNatClampNeg → g i = (f (off.toNatClampNeg + i)).toInt8.toInt32) :
    MetFree l (⟨"com/example/enumconv/enumconv/core/ReadingToStringPinLaw", "same", "(Ljava/lang/String;[CIII)Z"⟩ : MethodName) (head1 (Jvm.Cond.code (⟨"com/example/enumconv/enumconv/core/ReadingToStringPinLaw", "same", "(Ljava/lang/String;[CIII)Z"⟩ : MethodName) method_4_code 5 (some .boolean) :: ws) ({ frames := 4, cells := 0, slots := 0, locals := 53 } : Room)) (fun a_ U_ => a_ = #[(.ref a), (.ref ar), (.int off), (.int ln), (.int (4 : Int32))] ∧ Z.Warmed39 U_.vm ∧ U_.heap = h0) (fun _ _ _ _ _ => True) (fun _ U_ o_ U'_ => ∃ v_ L_, o_ = .returned v_ ∧ own_Q_sm4 Z a ar off ln b g f cs fm h0 n0 v_ U'_.heap L_ ∧ FrameEnd U_ o_ U'_ L_ ({ frames := 4, cells := 0, slots := 0, locals := 53 } : Room).cells ({ frames := 4, cells := 0, slots := 0, locals := 53 } : Room).slots) := by
  refine MetFree.of_bodySF (plainFor_of_name own_pn_com_example_enumconv_enumconv_core_ReadingToStringPinLaw) hisR ?_
  intro p e s m args below meth c s₁ Bd hml0 hP hK
  obtain ⟨rfl, hZ, hh⟩ := hP
  have hx := Bd.exec
  have hby := Bd.bytes
  have hlk : meth.locks = false := BodyLoose.notSynchronized Bd
  have hml : c.maxLocals = 5 := hml0
  have hown : s.vm.findClass "com/example/enumconv/enumconv/core/ReadingToStringPinLaw" = some m.cls := findClass_of_methodNamed Bd.named
  have hnm := (name_of_methodNamed Bd.named Bd.method).1
  have X0 : Stand p l e ({ frames := 4, cells := 0, slots := 0, locals := 53 } : Room) s m #[(.ref a), (.ref ar), (.int off), (.int ln), (.int (4 : Int32))] below meth c s₁ [] 0 0 := Stand.of_body Bd
  have e0 : s₁.heap = h0 := by rw [← hh, Bd.state]; rfl
  have N0 := Fr.nil n0
  show own_Goes p e below (own_K (own_Q_sm4 Z a ar off ln b g f cs fm h0 n0) s ({ frames := 4, cells := 0, slots := 0, locals := 53 } : Room).cells ({ frames := 4, cells := 0, slots := 0, locals := 53 } : Room).slots) s₁ (entryFrame m #[(.ref a), (.ref ar), (.int off), (.int ln), (.int (4 : Int32))] 5)
  rw [own_ef_sm4]
  refine own_by (T' := s₁) (g' := (mkF m 1 #[.val (.ref a), .val (.ref ar), .val (.int off), .val (.int ln), .val (.int (4 : Int32))] [(.int ln)])) (fun t_ k_ => XS.iloadN X0.here hx rfl (hb hby own_d_sm4_0) rfl k_) ?_
  refine own_by (T' := s₁) (g' := (mkF m 3 #[.val (.ref a), .val (.ref ar), .val (.int off), .val (.int ln), .val (.int (4 : Int32))] [(.int (4 : Int32)), (.int ln)])) (fun t_ k_ => XS.iload X0.here hx rfl (hb hby own_d_sm4_1) rfl k_) ?_
  by_cases c3_1 : (4 : Int32) < ln
  · skip
    refine own_by (T' := s₁) (g' := (mkF m 6 #[.val (.ref a), .val (.ref ar), .val (.int off), .val (.int ln), .val (.int (4 : Int32))] [])) (fun t_ k_ => XS.icmpNo X0.here hx rfl (hb hby own_d_sm4_3) rfl (tlt (c3_1 : (4 : Int32) < ln)).2.2.2 k_) ?_
    refine own_by (T' := s₁) (g' := (mkF m 7 #[.val (.ref a), .val (.ref ar), .val (.int off), .val (.int ln), .val (.int (4 : Int32))] [(.ref a)])) (fun t_ k_ => XS.aloadN X0.here hx rfl (hb hby own_d_sm4_6) rfl rfl k_) ?_
    refine own_by (T' := s₁) (g' := (mkF m 9 #[.val (.ref a), .val (.ref ar), .val (.int off), .val (.int ln), .val (.int (4 : Int32))] [(.int (4 : Int32)), (.ref a)])) (fun t_ k_ => XS.iload X0.here hx rfl (hb hby own_d_sm4_7) rfl k_) ?_
    obtain ⟨_, T2, L2, X2, hQ2, st2⟩ := own_callV X0 hx hZ (y := (⟨"java/lang/String", "charAt", "(I)C"⟩ : MethodName)) hown (hw _ (List.mem_of_getElem? (i := 107) rfl)) (hw _ (List.mem_of_getElem? (i := 108) rfl)) (hw _ (List.mem_of_getElem? (i := 110) rfl)) (hw _ (List.mem_of_getElem? (i := 109) rfl)) (hw _ (List.mem_of_getElem? (i := 58) rfl)) (hw _ (List.mem_of_getElem? (i := 111) rfl)) (by decide) (argsL := [(.int (4 : Int32))]) (rest := []) E0 (own_rm_cha l Z a0 hw [] a (4 : Int32) b ln g cs fm (f (off + (4 : Int32)).toNatClampNeg) h0 n0 Z0 E0 F1 F0 V0 SC hcs SF hfm (own_j1 ln (4 : Int32) (by decide) c3_1) (own_j2 off ln (4 : Int32) f g ho hl hs c3_1 hf hg (by decide)) (own_j3 _ (hf _ (own_j4 off ln (4 : Int32) ho hl hs c3_1 (by decide)).2))) e0 (W := 0) (by decide) (by decide) (by decide) (by decide) (g := (mkF m 9 #[.val (.ref a), .val (.ref ar), .val (.int off), .val (.int ln), .val (.int (4 : Int32))] [(.int (4 : Int32)), (.ref a)])) rfl (by rw [hml]; rfl) (lenOf own_pd1 rfl) rfl (by show 2 * 0 + _ ≤ _; exact Nat.le_of_eq rfl) (hb hby own_d_sm4_9)
    obtain ⟨rfl, Nq2, e2⟩ := hQ2
    have N2 := Fr.app N0 Nq2
    refine st2 _ ?_
    show own_Goes p e below _ T2 (mkF m 12 #[.val (.ref a), .val (.ref ar), .val (.int off), .val (.int ln), .val (.int (4 : Int32))] [(.int (f (off + (4 : Int32)).toNatClampNeg))])
    refine own_by (T' := T2) (g' := (mkF m 13 #[.val (.ref a), .val (.ref ar), .val (.int off), .val (.int ln), .val (.int (4 : Int32))] [(.ref ar), (.int (f (off + (4 : Int32)).toNatClampNeg))])) (fun t_ k_ => XS.aloadN X2.here hx rfl (hb hby own_d_sm4_12) rfl rfl k_) ?_
    refine own_by (T' := T2) (g' := (mkF m 14 #[.val (.ref a), .val (.ref ar), .val (.int off), .val (.int ln), .val (.int (4 : Int32))] [(.int off), (.ref ar), (.int (f (off + (4 : Int32)).toNatClampNeg))])) (fun t_ k_ => XS.iloadN X2.here hx rfl (hb hby own_d_sm4_13) rfl k_) ?_
    refine own_by (T' := T2) (g' := (mkF m 16 #[.val (.ref a), .val (.ref ar), .val (.int off), .val (.int ln), .val (.int (4 : Int32))] [(.int (4 : Int32)), (.int off), (.ref ar), (.int (f (off + (4 : Int32)).toNatClampNeg))])) (fun t_ k_ => XS.iload X2.here hx rfl (hb hby own_d_sm4_14) rfl k_) ?_
    refine own_by (T' := T2) (g' := (mkF m 17 #[.val (.ref a), .val (.ref ar), .val (.int off), .val (.int ln), .val (.int (4 : Int32))] [(.int (off + (4 : Int32))), (.ref ar), (.int (f (off + (4 : Int32)).toNatClampNeg))])) (fun t_ k_ => XS.iadd X2.here hx rfl (hb hby own_d_sm4_16) rfl k_) ?_
    refine own_by (T' := T2) (g' := (mkF m 18 #[.val (.ref a), .val (.ref ar), .val (.int off), .val (.int ln), .val (.int (4 : Int32))] [(.int (f (off + (4 : Int32)).toNatClampNeg)), (.int (f (off + (4 : Int32)).toNatClampNeg))])) (fun t_ k_ => own_cal X2 hx hZ e2 V1 (j := (off + (4 : Int32))) (own_j4 off ln (4 : Int32) ho hl hs c3_1 (by decide)).1 (own_j4 off ln (4 : Int32) ho hl hs c3_1 (by decide)).2 (g := (mkF m 17 #[.val (.ref a), .val (.ref ar), .val (.int off), .val (.int ln), .val (.int (4 : Int32))] [(.int (off + (4 : Int32))), (.ref ar), (.int (f (off + (4 : Int32)).toNatClampNeg))])) rfl rfl (hb hby own_d_sm4_17) _ k_) ?_
    refine own_by (T' := T2) (g' := (mkF m 21 #[.val (.ref a), .val (.ref ar), .val (.int off), .val (.int ln), .val (.int (4 : Int32))] [])) (fun t_ k_ => XS.icmpNo X2.here hx rfl (hb hby own_d_sm4_18) rfl (teq (rfl : (f (off + (4 : Int32)).toNatClampNeg) = (f (off + (4 : Int32)).toNatClampNeg))).2 k_) ?_
    refine own_by (T' := T2) (g' := (mkF m 22 #[.val (.ref a), .val (.ref ar), .val (.int off), .val (.int ln), .val (.int (4 : Int32))] [(.int (1 : Int32))])) (fun t_ k_ => XS.iconst X2.here hx rfl (hb hby own_d_sm4_21) k_) ?_
    refine own_by (T' := T2) (g' := (mkF m 26 #[.val (.ref a), .val (.ref ar), .val (.int off), .val (.int ln), .val (.int (4 : Int32))] [(.int (1 : Int32))])) (fun t_ k_ => XS.goto X2.here hx rfl (pc0 := 22) (pc' := 26) rfl (hb hby own_d_sm4_22) (by decide) (by decide) k_) ?_
    refine own_retN X2 hx (t := .boolean) Bd.returns hlk (by simp) (hb hby own_d_sm4_26) (by decide) (by decide) (v := (1 : Int32)) rfl ?_
    rw [e2]
    exact ⟨rfl, N2, rfl⟩
  · skip
    refine own_by (T' := s₁) (g' := (mkF m 21 #[.val (.ref a), .val (.ref ar), .val (.int off), .val (.int ln), .val (.int (4 : Int32))] [])) (fun t_ k_ => XS.icmpYes X0.here hx rfl (pc0 := 3) (pc' := 21) rfl (hb hby own_d_sm4_3) rfl (flt (c3_1 : ¬ ((4 : Int32) < ln))).2.2.2 (by decide) (by decide) k_) ?_
    refine own_by (T' := s₁) (g' := (mkF m 22 #[.val (.ref a), .val (.ref ar), .val (.int off), .val (.int ln), .val (.int (4 : Int32))] [(.int (1 : Int32))])) (fun t_ k_ => XS.iconst X0.here hx rfl (hb hby own_d_sm4_21) k_) ?_
    refine own_by (T' := s₁) (g' := (mkF m 26 #[.val (.ref a), .val (.ref ar), .val (.int off), .val (.int ln), .val (.int (4 : Int32))] [(.int (1 : Int32))])) (fun t_ k_ => XS.goto X0.here hx rfl (pc0 := 22) (pc' := 26) rfl (hb hby own_d_sm4_22) (by decide) (by decide) k_) ?_
    refine own_retN X0 hx (t := .boolean) Bd.returns hlk (by simp) (hb hby own_d_sm4_26) (by decide) (by decide) (v := (1 : Int32)) rfl ?_
    rw [e0]
    exact ⟨rfl, N0, rfl⟩
theorem own_d_sm5_0 : decode method_4_code 0 = .ok (.iload_n 3, 1) := by decide +kernel
theorem own_d_sm5_1 : decode method_4_code 1 = .ok (.iload 4, 2) := by decide +kernel
theorem own_d_sm5_3 : decode method_4_code 3 = .ok (.if_icmp .le 18, 3) := by decide +kernel
theorem own_d_sm5_6 : decode method_4_code 6 = .ok (.aload_n 0, 1) := by decide +kernel
theorem own_d_sm5_7 : decode method_4_code 7 = .ok (.iload 4, 2) := by decide +kernel
theorem own_d_sm5_9 : decode method_4_code 9 = .ok (.invokevirtual 37, 3) := by decide +kernel
theorem own_d_sm5_12 : decode method_4_code 12 = .ok (.aload_n 1, 1) := by decide +kernel
theorem own_d_sm5_13 : decode method_4_code 13 = .ok (.iload_n 2, 1) := by decide +kernel
theorem own_d_sm5_14 : decode method_4_code 14 = .ok (.iload 4, 2) := by decide +kernel
theorem own_d_sm5_16 : decode method_4_code 16 = .ok (.iadd, 1) := by decide +kernel
theorem own_d_sm5_17 : decode method_4_code 17 = .ok (.caload, 1) := by decide +kernel
theorem own_d_sm5_18 : decode method_4_code 18 = .ok (.if_icmp .ne 7, 3) := by decide +kernel
theorem own_d_sm5_21 : decode method_4_code 21 = .ok (.iconst 1, 1) := by decide +kernel
theorem own_d_sm5_22 : decode method_4_code 22 = .ok (.goto 4, 3) := by decide +kernel
theorem own_d_sm5_26 : decode method_4_code 26 = .ok (.ireturn, 1) := by decide +kernel
theorem own_ef_sm5 (m : MethodId) (a : Addr) (ar : Addr) (off : Int32) (ln : Int32) : entryFrame m #[(.ref a), (.ref ar), (.int off), (.int ln), (.int (5 : Int32))] 5 = mkF m 0 #[.val (.ref a), .val (.ref ar), .val (.int off), .val (.int ln), .val (.int (5 : Int32))] [] := by first | (simp [entryFrame, mkF, argsToLocals, Value.category]; done) | rfl
def own_Q_sm5 (Z : State) (a : Addr) (ar : Addr) (off : Int32) (ln : Int32) (b : Addr) (g : Nat → Int32) (f : Nat → Int32) (cs : Int32) (fm : Value) (h0 : Heap) (n0 : Nat) (v : Option Value) (h : Heap) (L : List Loc) : Prop := v = some (.int 1) ∧ Fr n0 L ∧ h = h0
set_option maxRecDepth 65536 in
set_option maxHeartbeats 40000000 in
theorem own_rm_sm5 (l : Launch) (Z : State) (a0 : Array Value) (hw : ∀ d ∈ tables_1, d.before a0 Z = true) (ws : List Jvm.Cond) (a : Addr) (ar : Addr) (off : Int32) (ln : Int32) (b : Addr) (g : Nat → Int32) (f : Nat → Int32) (cs : Int32) (fm : Value) (h0 : Heap) (n0 : Nat) (Z0 : n0 ≤ h0.size) (E0 : Exa Z h0 a "java/lang/String") (F1 : Fld Z h0 a "java/lang/String" "coder" "B" (.int (0 : Int32))) (F0 : Fld Z h0 a "java/lang/String" "value" "[B" (.ref b)) (V0 : own_Ia Z h0 b .byte ln.toNatClampNeg g) (V1 : own_Ia Z h0 ar .char 6 f) (SC : Sta Z h0 "java/lang/String" "COMPACT_STRINGS" "Z" (.int cs)) (hcs : ¬ cs = (0 : Int32)) (SF : Sta Z h0 "jdk/internal/util/Preconditions" "SIOOBE_FORMATTER" "Ljava/util/function/BiFunction;" fm) (hfm : fm.isRef = true) (ho : 0 ≤ off.toInt) (hl : 0 ≤ ln.toInt) (hs : off.toInt + ln.toInt ≤ 6) (hf : ∀ i, i < 6 → 0 ≤ (f i).toInt ∧ (f i).toInt ≤ 255) (hg : ∀ i, i < ln.toNatClampNeg → g i = (f (off.toNatClampNeg + i)).toInt8.toInt32) :
    MetFree l (⟨"com/example/enumconv/enumconv/core/ReadingToStringPinLaw", "same", "(Ljava/lang/String;[CIII)Z"⟩ : MethodName) (head1 (Jvm.Cond.code (⟨"com/example/enumconv/enumconv/core/ReadingToStringPinLaw", "same", "(Ljava/lang/String;[CIII)Z"⟩ : MethodName) method_4_code 5 (some .boolean) :: ws) ({ frames := 4, cells := 0, slots := 0, locals := 53 } : Room)) (fun a_ U_ => a_ = #[(.ref a), (.ref ar), (.int off), (.int ln), (.int (5 : Int32))] ∧ Z.Warmed39 U_.vm ∧ U_.heap = h0) (fun _ _ _ _ _ => True) (fun _ U_ o_ U'_ => ∃ v_ L_, o_ = .returned v_ ∧ own_Q_sm5 Z a ar off ln b g f cs fm h0 n0 v_ U'_.heap L_ ∧ FrameEnd U_ o_ U'_ L_ ({ frames := 4, cells := 0, slots := 0, locals := 53 } : Room).cells ({ frames := 4, cells := 0, slots := 0, locals := 53 } : Room).slots) := by
  refine MetFree.of_bodySF (plainFor_of_name own_pn_com_example_enumconv_enumconv_core_ReadingToStringPinLaw) hisR ?_
  intro p e s m args below meth c s₁ Bd hml0 hP hK
  obtain ⟨rfl, hZ, hh⟩ := hP
  have hx := Bd.exec
  have hby := Bd.bytes
  have hlk : meth.locks = false := BodyLoose.notSynchronized Bd
  have hml : c.maxLocals = 5 := hml0
  have hown : s.vm.findClass "com/example/enumconv/enumconv/core/ReadingToStringPinLaw" = some m.cls := findClass_of_methodNamed Bd.named
  have hnm := (name_of_methodNamed Bd.named Bd.method).1
  have X0 : Stand p l e ({ frames := 4, cells := 0, slots := 0, locals := 53 } : Room) s m #[(.ref a), (.ref ar), (.int off), (.int ln), (.int (5 : Int32))] below meth c s₁ [] 0 0 := Stand.of_body Bd
  have e0 : s₁.heap = h0 := by rw [← hh, Bd.state]; rfl
  have N0 := Fr.nil n0
  show own_Goes p e below (own_K (own_Q_sm5 Z a ar off ln b g f cs fm h0 n0) s ({ frames := 4, cells := 0, slots := 0, locals := 53 } : Room).cells ({ frames := 4, cells := 0, slots := 0, locals := 53 } : Room).slots) s₁ (entryFrame m #[(.ref a), (.ref ar), (.int off), (.int ln), (.int (5 : Int32))] 5)
  rw [own_ef_sm5]
  refine own_by (T' := s₁) (g' := (mkF m 1 #[.val (.ref a), .val (.ref ar), .val (.int off), .val (.int ln), .val (.int (5 : Int32))] [(.int ln)])) (fun t_ k_ => XS.iloadN X0.here hx rfl (hb hby own_d_sm5_0) rfl k_) ?_
  refine own_by (T' := s₁) (g' := (mkF m 3 #[.val (.ref a), .val (.ref ar), .val (.int off), .val (.int ln), .val (.int (5 : Int32))] [(.int (5 : Int32)), (.int ln)])) (fun t_ k_ => XS.iload X0.here hx rfl (hb hby own_d_sm5_1) rfl k_) ?_
  by_cases c3_1 : (5 : Int32) < ln
  · skip
    refine own_by (T' := s₁) (g' := (mkF m 6 #[.val (.ref a), .val (.ref ar), .val (.int off), .val (.int ln), .val (.int (5 : Int32))] [])) (fun t_ k_ => XS.icmpNo X0.here hx rfl (hb hby own_d_sm5_3) rfl (tlt (c3_1 : (5 : Int32) < ln)).2.2.2 k_) ?_
    refine own_by (T' := s₁) (g' := (mkF m 7 #[.val (.ref a), .val (.ref ar), .val (.int off), .val (.int ln), .val (.int (5 : Int32))] [(.ref a)])) (fun t_ k_ => XS.aloadN X0.here hx rfl (hb hby own_d_sm5_6) rfl rfl k_) ?_
    refine own_by (T' := s₁) (g' := (mkF m 9 #[.val (.ref a), .val (.ref ar), .val (.int off), .val (.int ln), .val (.int (5 : Int32))] [(.int (5 : Int32)), (.ref a)])) (fun t_ k_ => XS.iload X0.here hx rfl (hb hby own_d_sm5_7) rfl k_) ?_
    obtain ⟨_, T2, L2, X2, hQ2, st2⟩ := own_callV X0 hx hZ (y := (⟨"java/lang/String", "charAt", "(I)C"⟩ : MethodName)) hown (hw _ (List.mem_of_getElem? (i := 107) rfl)) (hw _ (List.mem_of_getElem? (i := 108) rfl)) (hw _ (List.mem_of_getElem? (i := 110) rfl)) (hw _ (List.mem_of_getElem? (i := 109) rfl)) (hw _ (List.mem_of_getElem? (i := 58) rfl)) (hw _ (List.mem_of_getElem? (i := 111) rfl)) (by decide) (argsL := [(.int (5 : Int32))]) (rest := []) E0 (own_rm_cha l Z a0 hw [] a (5 : Int32) b ln g cs fm (f (off + (5 : Int32)).toNatClampNeg) h0 n0 Z0 E0 F1 F0 V0 SC hcs SF hfm (own_j1 ln (5 : Int32) (by decide) c3_1) (own_j2 off ln (5 : Int32) f g ho hl hs c3_1 hf hg (by decide)) (own_j3 _ (hf _ (own_j4 off ln (5 : Int32) ho hl hs c3_1 (by decide)).2))) e0 (W := 0) (by decide) (by decide) (by decide) (by decide) (g := (mkF m 9 #[.val (.ref a), .val (.ref ar), .val (.int off), .val (.int ln), .val (.int (5 : Int32))] [(.int (5 : Int32)), (.ref a)])) rfl (by rw [hml]; rfl) (lenOf own_pd1 rfl) rfl (by show 2 * 0 + _ ≤ _; exact Nat.le_of_eq rfl) (hb hby own_d_sm5_9)
    obtain ⟨rfl, Nq2, e2⟩ := hQ2
    have N2 := Fr.app N0 Nq2
    refine st2 _ ?_
    show own_Goes p e below _ T2 (mkF m 12 #[.val (.ref a), .val (.ref ar), .val (.int off), .val (.int ln), .val (.int (5 : Int32))] [(.int (f (off + (5 : Int32)).toNatClampNeg))])
    refine own_by (T' := T2) (g' := (mkF m 13 #[.val (.ref a), .val (.ref ar), .val (.int off), .val (.int ln), .val (.int (5 : Int32))] [(.ref ar), (.int (f (off + (5 : Int32)).toNatClampNeg))])) (fun t_ k_ => XS.aloadN X2.here hx rfl (hb hby own_d_sm5_12) rfl rfl k_) ?_
    refine own_by (T' := T2) (g' := (mkF m 14 #[.val (.ref a), .val (.ref ar), .val (.int off), .val (.int ln), .val (.int (5 : Int32))] [(.int off), (.ref ar), (.int (f (off + (5 : Int32)).toNatClampNeg))])) (fun t_ k_ => XS.iloadN X2.here hx rfl (hb hby own_d_sm5_13) rfl k_) ?_
    refine own_by (T' := T2) (g' := (mkF m 16 #[.val (.ref a), .val (.ref ar), .val (.int off), .val (.int ln), .val (.int (5 : Int32))] [(.int (5 : Int32)), (.int off), (.ref ar), (.int (f (off + (5 : Int32)).toNatClampNeg))])) (fun t_ k_ => XS.iload X2.here hx rfl (hb hby own_d_sm5_14) rfl k_) ?_
    refine own_by (T' := T2) (g' := (mkF m 17 #[.val (.ref a), .val (.ref ar), .val (.int off), .val (.int ln), .val (.int (5 : Int32))] [(.int (off + (5 : Int32))), (.ref ar), (.int (f (off + (5 : Int32)).toNatClampNeg))])) (fun t_ k_ => XS.iadd X2.here hx rfl (hb hby own_d_sm5_16) rfl k_) ?_
    refine own_by (T' := T2) (g' := (mkF m 18 #[.val (.ref a), .val (.ref ar), .val (.int off), .val (.int ln), .val (.int (5 : Int32))] [(.int (f (off + (5 : Int32)).toNatClampNeg)), (.int (f (off + (5 : Int32)).toNatClampNeg))])) (fun t_ k_ => own_cal X2 hx hZ e2 V1 (j := (off + (5 : Int32))) (own_j4 off ln (5 : Int32) ho hl hs c3_1 (by decide)).1 (own_j4 off ln (5 : Int32) ho hl hs c3_1 (by decide)).2 (g := (mkF m 17 #[.val (.ref a), .val (.ref ar), .val (.int off), .val (.int ln), .val (.int (5 : Int32))] [(.int (off + (5 : Int32))), (.ref ar), (.int (f (off + (5 : Int32)).toNatClampNeg))])) rfl rfl (hb hby own_d_sm5_17) _ k_) ?_
    refine own_by (T' := T2) (g' := (mkF m 21 #[.val (.ref a), .val (.ref ar), .val (.int off), .val (.int ln), .val (.int (5 : Int32))] [])) (fun t_ k_ => XS.icmpNo X2.here hx rfl (hb hby own_d_sm5_18) rfl (teq (rfl : (f (off + (5 : Int32)).toNatClampNeg) = (f (off + (5 : Int32)).toNatClampNeg))).2 k_) ?_
    refine own_by (T' := T2) (g' := (mkF m 22 #[.val (.ref a), .val (.ref ar), .val (.int off), .val (.int ln), .val (.int (5 : Int32))] [(.int (1 : Int32))])) (fun t_ k_ => XS.iconst X2.here hx rfl (hb hby own_d_sm5_21) k_) ?_
    refine own_by (T' := T2) (g' := (mkF m 26 #[.val (.ref a), .val (.ref ar), .val (.int off), .val (.int ln), .val (.int (5 : Int32))] [(.int (1 : Int32))])) (fun t_ k_ => XS.goto X2.here hx rfl (pc0 := 22) (pc' := 26) rfl (hb hby own_d_sm5_22) (by decide) (by decide) k_) ?_
    refine own_retN X2 hx (t := .boolean) Bd.returns hlk (by simp) (hb hby own_d_sm5_26) (by decide) (by decide) (v := (1 : Int32)) rfl ?_
    rw [e2]
    exact ⟨rfl, N2, rfl⟩
  · skip
    refine own_by (T' := s₁) (g' := (mkF m 21 #[.val (.ref a), .val (.ref ar), .val (.int off), .val (.int ln), .val (.int (5 : Int32))] [])) (fun t_ k_ => XS.icmpYes X0.here hx rfl (pc0 := 3) (pc' := 21) rfl (hb hby own_d_sm5_3) rfl (flt (c3_1 : ¬ ((5 : Int32) < ln))).2.2.2 (by decide) (by decide) k_) ?_
    refine own_by (T' := s₁) (g' := (mkF m 22 #[.val (.ref a), .val (.ref ar), .val (.int off), .val (.int ln), .val (.int (5 : Int32))] [(.int (1 : Int32))])) (fun t_ k_ => XS.iconst X0.here hx rfl (hb hby own_d_sm5_21) k_) ?_
    refine own_by (T' := s₁) (g' := (mkF m 26 #[.val (.ref a), .val (.ref ar), .val (.int off), .val (.int ln), .val (.int (5 : Int32))] [(.int (1 : Int32))])) (fun t_ k_ => XS.goto X0.here hx rfl (pc0 := 22) (pc' := 26) rfl (hb hby own_d_sm5_22) (by decide) (by decide) k_) ?_
    refine own_retN X0 hx (t := .boolean) Bd.returns hlk (by simp) (hb hby own_d_sm5_26) (by decide) (by decide) (v := (1 : Int32)) rfl ?_
    rw [e0]
    exact ⟨rfl, N0, rfl⟩
theorem own_d_chs_0 : decode method_3_code 0 = .ok (.bipush 6, 2) := by decide +kernel
theorem own_d_chs_2 : decode method_3_code 2 = .ok (.newarray .char, 2) := by decide +kernel
theorem own_d_chs_4 : decode method_3_code 4 = .ok (.astore_n 2, 1) := by decide +kernel
theorem own_d_chs_5 : decode method_3_code 5 = .ok (.aload_n 2, 1) := by decide +kernel
theorem own_d_chs_6 : decode method_3_code 6 = .ok (.iconst 0, 1) := by decide +kernel
theorem own_d_chs_7 : decode method_3_code 7 = .ok (.lload_n 0, 1) := by decide +kernel
theorem own_d_chs_8 : decode method_3_code 8 = .ok (.ldc2_w 35, 3) := by decide +kernel
theorem own_d_chs_11 : decode method_3_code 11 = .ok (.land, 1) := by decide +kernel
theorem own_d_chs_12 : decode method_3_code 12 = .ok (.l2i, 1) := by decide +kernel
theorem own_d_chs_13 : decode method_3_code 13 = .ok (.i2c, 1) := by decide +kernel
theorem own_d_chs_14 : decode method_3_code 14 = .ok (.castore, 1) := by decide +kernel
theorem own_d_chs_15 : decode method_3_code 15 = .ok (.aload_n 2, 1) := by decide +kernel
theorem own_d_chs_16 : decode method_3_code 16 = .ok (.iconst 1, 1) := by decide +kernel
theorem own_d_chs_17 : decode method_3_code 17 = .ok (.lload_n 0, 1) := by decide +kernel
theorem own_d_chs_18 : decode method_3_code 18 = .ok (.bipush 8, 2) := by decide +kernel
theorem own_d_chs_20 : decode method_3_code 20 = .ok (.lushr, 1) := by decide +kernel
theorem own_d_chs_21 : decode method_3_code 21 = .ok (.ldc2_w 35, 3) := by decide +kernel
theorem own_d_chs_24 : decode method_3_code 24 = .ok (.land, 1) := by decide +kernel
theorem own_d_chs_25 : decode method_3_code 25 = .ok (.l2i, 1) := by decide +kernel
theorem own_d_chs_26 : decode method_3_code 26 = .ok (.i2c, 1) := by decide +kernel
theorem own_d_chs_27 : decode method_3_code 27 = .ok (.castore, 1) := by decide +kernel
theorem own_d_chs_28 : decode method_3_code 28 = .ok (.aload_n 2, 1) := by decide +kernel
theorem own_d_chs_29 : decode method_3_code 29 = .ok (.iconst 2, 1) := by decide +kernel
theorem own_d_chs_30 : decode method_3_code 30 = .ok (.lload_n 0, 1) := by decide +kernel
theorem own_d_chs_31 : decode method_3_code 31 = .ok (.bipush 16, 2) := by decide +kernel
theorem own_d_chs_33 : decode method_3_code 33 = .ok (.lushr, 1) := by decide +kernel
theorem own_d_chs_34 : decode method_3_code 34 = .ok (.ldc2_w 35, 3) := by decide +kernel
theorem own_d_chs_37 : decode method_3_code 37 = .ok (.land, 1) := by decide +kernel
theorem own_d_chs_38 : decode method_3_code 38 = .ok (.l2i, 1) := by decide +kernel
theorem own_d_chs_39 : decode method_3_code 39 = .ok (.i2c, 1) := by decide +kernel
theorem own_d_chs_40 : decode method_3_code 40 = .ok (.castore, 1) := by decide +kernel
theorem own_d_chs_41 : decode method_3_code 41 = .ok (.aload_n 2, 1) := by decide +kernel
theorem own_d_chs_42 : decode method_3_code 42 = .ok (.iconst 3, 1) := by decide +kernel
theorem own_d_chs_43 : decode method_3_code 43 = .ok (.lload_n 0, 1) := by decide +kernel
theorem own_d_chs_44 : decode method_3_code 44 = .ok (.bipush 24, 2) := by decide +kernel
theorem own_d_chs_46 : decode method_3_code 46 = .ok (.lushr, 1) := by decide +kernel
theorem own_d_chs_47 : decode method_3_code 47 = .ok (.ldc2_w 35, 3) := by decide +kernel
theorem own_d_chs_50 : decode method_3_code 50 = .ok (.land, 1) := by decide +kernel
theorem own_d_chs_51 : decode method_3_code 51 = .ok (.l2i, 1) := by decide +kernel
theorem own_d_chs_52 : decode method_3_code 52 = .ok (.i2c, 1) := by decide +kernel
theorem own_d_chs_53 : decode method_3_code 53 = .ok (.castore, 1) := by decide +kernel
theorem own_d_chs_54 : decode method_3_code 54 = .ok (.aload_n 2, 1) := by decide +kernel
theorem own_d_chs_55 : decode method_3_code 55 = .ok (.iconst 4, 1) := by decide +kernel
theorem own_d_chs_56 : decode method_3_code 56 = .ok (.lload_n 0, 1) := by decide +kernel
theorem own_d_chs_57 : decode method_3_code 57 = .ok (.bipush 32, 2) := by decide +kernel
theorem own_d_chs_59 : decode method_3_code 59 = .ok (.lushr, 1) := by decide +kernel
theorem own_d_chs_60 : decode method_3_code 60 = .ok (.ldc2_w 35, 3) := by decide +kernel
theorem own_d_chs_63 : decode method_3_code 63 = .ok (.land, 1) := by decide +kernel
theorem own_d_chs_64 : decode method_3_code 64 = .ok (.l2i, 1) := by decide +kernel
theorem own_d_chs_65 : decode method_3_code 65 = .ok (.i2c, 1) := by decide +kernel
theorem own_d_chs_66 : decode method_3_code 66 = .ok (.castore, 1) := by decide +kernel
theorem own_d_chs_67 : decode method_3_code 67 = .ok (.aload_n 2, 1) := by decide +kernel
theorem own_d_chs_68 : decode method_3_code 68 = .ok (.iconst 5, 1) := by decide +kernel
theorem own_d_chs_69 : decode method_3_code 69 = .ok (.lload_n 0, 1) := by decide +kernel
theorem own_d_chs_70 : decode method_3_code 70 = .ok (.bipush 40, 2) := by decide +kernel
theorem own_d_chs_72 : decode method_3_code 72 = .ok (.lushr, 1) := by decide +kernel
theorem own_d_chs_73 : decode method_3_code 73 = .ok (.ldc2_w 35, 3) := by decide +kernel
theorem own_d_chs_76 : decode method_3_code 76 = .ok (.land, 1) := by decide +kernel
theorem own_d_chs_77 : decode method_3_code 77 = .ok (.l2i, 1) := by decide +kernel
theorem own_d_chs_78 : decode method_3_code 78 = .ok (.i2c, 1) := by decide +kernel
theorem own_d_chs_79 : decode method_3_code 79 = .ok (.castore, 1) := by decide +kernel
theorem own_d_chs_80 : decode method_3_code 80 = .ok (.aload_n 2, 1) := by decide +kernel
theorem own_d_chs_81 : decode method_3_code 81 = .ok (.areturn, 1) := by decide +kernel
theorem own_ef_chs (m : MethodId) (dd : Int64) : entryFrame m #[(.long dd)] 3 = mkF m 0 #[.val (.long dd), .second, .unset] [] := by first | (simp [entryFrame, mkF, argsToLocals, Value.category]; done) | rfl
def own_Q_chs (Z : State) (dd : Int64) (h0 : Heap) (n0 : Nat) (v : Option Value) (h : Heap) (L : List Loc) : Prop := ∃ (ar : Addr) (f : Nat → Int32), v = some (.ref ar) ∧ Fr n0 L ∧ Keep h0 h [] ∧ own_Ia Z h ar .char 6 f ∧ n0 ≤ ar ∧ ∀ i, i < 6 → 0 ≤ (f i).toInt ∧ (f i).toInt ≤ 255
set_option maxRecDepth 65536 in
set_option maxHeartbeats 40000000 in
theorem own_rm_chs (l : Launch) (Z : State) (a0 : Array Value) (hw : ∀ d ∈ tables_1, d.before a0 Z = true) (ws : List Jvm.Cond) (dd : Int64) (h0 : Heap) (n0 : Nat) (Z0 : n0 ≤ h0.size) :
    MetFree l (⟨"com/example/enumconv/enumconv/core/ReadingToStringPinLaw", "chars", "(J)[C"⟩ : MethodName) (head1 (Jvm.Cond.code (⟨"com/example/enumconv/enumconv/core/ReadingToStringPinLaw", "chars", "(J)[C"⟩ : MethodName) method_3_code 3 (some (.array .char)) :: ws) ({ frames := 0, cells := 1, slots := 6, locals := 0 } : Room)) (fun a_ U_ => a_ = #[(.long dd)] ∧ Z.Warmed39 U_.vm ∧ U_.heap = h0) (fun _ _ _ _ _ => True) (fun _ U_ o_ U'_ => ∃ v_ L_, o_ = .returned v_ ∧ own_Q_chs Z dd h0 n0 v_ U'_.heap L_ ∧ FrameEnd U_ o_ U'_ L_ ({ frames := 0, cells := 1, slots := 6, locals := 0 } : Room).cells ({ frames := 0, cells := 1, slots := 6, locals := 0 } : Room).slots) := by
  refine MetFree.of_bodySF (plainFor_of_name own_pn_com_example_enumconv_enumconv_core_ReadingToStringPinLaw) hisR ?_
  intro p e s m args below meth c s₁ Bd hml0 hP hK
  obtain ⟨rfl, hZ, hh⟩ := hP
  have hx := Bd.exec
  have hby := Bd.bytes
  have hlk : meth.locks = false := BodyLoose.notSynchronized Bd
  have hml : c.maxLocals = 3 := hml0
  have hown : s.vm.findClass "com/example/enumconv/enumconv/core/ReadingToStringPinLaw" = some m.cls := findClass_of_methodNamed Bd.named
  have hnm := (name_of_methodNamed Bd.named Bd.method).1
  have X0 : Stand p l e ({ frames := 0, cells := 1, slots := 6, locals := 0 } : Room) s m #[(.long dd)] below meth c s₁ [] 0 0 := Stand.of_body Bd
  have e0 : s₁.heap = h0 := by rw [← hh, Bd.state]; rfl
  have N0 := Fr.nil n0
  show own_Goes p e below (own_K (own_Q_chs Z dd h0 n0) s ({ frames := 0, cells := 1, slots := 6, locals := 0 } : Room).cells ({ frames := 0, cells := 1, slots := 6, locals := 0 } : Room).slots) s₁ (entryFrame m #[(.long dd)] 3)
  rw [own_ef_chs]
  have K0 := Keep.refl h0 []
  refine own_by (T' := s₁) (g' := (mkF m 2 #[.val (.long dd), .second, .unset] [(.int (6 : Int32))])) (fun t_ k_ => XS.bipush X0.here hx rfl (hb hby own_d_chs_0) k_) ?_
  obtain ⟨T1, h1, k1, X1, e1, E1, A1, st1⟩ := newP X0 hx hZ (hw _ (List.mem_of_getElem? (i := 4) rfl)) e0 (g := (mkF m 2 #[.val (.long dd), .second, .unset] [(.int (6 : Int32))])) rfl (hb hby own_d_chs_2) rfl (by decide) (cap := 6) (by decide) (by decide) (by decide) (by decide)
  obtain ⟨b1, g1⟩ : ∃ z, z = h0.size := ⟨_, rfl⟩
  rw [← g1] at A1 st1
  have g_b1 : n0 ≤ b1 := Nat.le_trans Z0 (Nat.le_of_eq g1.symm)
  have k_b1 : h0.size ≤ b1 := Nat.le_trans K0.1 (Nat.le_of_eq g1.symm)
  have f2 := Nat.le_trans Z0 E1.1
  have f3 := K0.ext E1
  have V1 : own_Ia Z h1 b1 .char 6 (fun _ => (0 : Int32)) := own_Ia_new A1 rfl rfl rfl
  refine own_by (T' := T1) (g' := (mkF m 4 #[.val (.long dd), .second, .unset] [(.ref b1)])) st1 ?_
  refine own_by (T' := T1) (g' := (mkF m 5 #[.val (.long dd), .second, .val (.ref b1)] [])) (fun t_ k_ => XS.astoreN X1.here hx rfl (hb hby own_d_chs_4) rfl rfl (l' := #[.val (.long dd), .second, .val (.ref b1)]) rfl k_) ?_
  refine own_by (T' := T1) (g' := (mkF m 6 #[.val (.long dd), .second, .val (.ref b1)] [(.ref b1)])) (fun t_ k_ => XS.aloadN X1.here hx rfl (hb hby own_d_chs_5) rfl rfl k_) ?_
  refine own_by (T' := T1) (g' := (mkF m 7 #[.val (.long dd), .second, .val (.ref b1)] [(.int (0 : Int32)), (.ref b1)])) (fun t_ k_ => XS.iconst X1.here hx rfl (hb hby own_d_chs_6) k_) ?_
  refine own_by (T' := T1) (g' := (mkF m 8 #[.val (.long dd), .second, .val (.ref b1)] [(.long dd), (.int (0 : Int32)), (.ref b1)])) (fun t_ k_ => XS.lloadN X1.here hx rfl (hb hby own_d_chs_7) rfl k_) ?_
  refine own_by (T' := T1) (g' := (mkF m 11 #[.val (.long dd), .second, .val (.ref b1)] [(.long (255 : Int64)), (.long dd), (.int (0 : Int32)), (.ref b1)])) (fun t_ k_ => X1.ldc2Long hx hown (mvT hZ (hw _ (List.mem_of_getElem? (i := 5) rfl))) (g := (mkF m 8 #[.val (.long dd), .second, .val (.ref b1)] [(.long dd), (.int (0 : Int32)), (.ref b1)])) rfl (hb hby own_d_chs_8) _ k_) ?_
  refine own_by (T' := T1) (g' := (mkF m 12 #[.val (.long dd), .second, .val (.ref b1)] [(.long (dd &&& (255 : Int64))), (.int (0 : Int32)), (.ref b1)])) (fun t_ k_ => XS.land X1.here hx rfl (hb hby own_d_chs_11) rfl k_) ?_
  refine own_by (T' := T1) (g' := (mkF m 13 #[.val (.long dd), .second, .val (.ref b1)] [(.int (dd &&& (255 : Int64)).toInt32), (.int (0 : Int32)), (.ref b1)])) (fun t_ k_ => XS.l2i X1.here hx rfl (hb hby own_d_chs_12) rfl k_) ?_
  refine own_by (T' := T1) (g' := (mkF m 14 #[.val (.long dd), .second, .val (.ref b1)] [(.int ((dd &&& (255 : Int64)).toInt32).toUInt32.toUInt16.toUInt32.toInt32), (.int (0 : Int32)), (.ref b1)])) (fun t_ k_ => XS.i2c X1.here hx rfl (hb hby own_d_chs_13) rfl k_) ?_
  obtain ⟨T4, h4, X4, e4, W4, st4⟩ := own_cas X1 hx hZ e1 V1 (j := (0 : Int32)) (by decide) (by decide) (g := (mkF m 14 #[.val (.long dd), .second, .val (.ref b1)] [(.int ((dd &&& (255 : Int64)).toInt32).toUInt32.toUInt16.toUInt32.toInt32), (.int (0 : Int32)), (.ref b1)])) rfl rfl (hb hby own_d_chs_14)
  refine own_by (T' := T4) (g' := (mkF m 15 #[.val (.long dd), .second, .val (.ref b1)] [])) st4 ?_
  have N4 := Fr.snoc X4 N0 g_b1
  have f5 := Nat.le_trans f2 (Keep.of_wr W4).1
  have f6 := Keep.wr f3 W4 (Or.inr k_b1)
  have V7 : own_Ia Z h4 b1 .char 6 (fun z_ => if z_ = 0 then (nar .char (((dd &&& (255 : Int64)).toInt32).toUInt32.toUInt16.toUInt32.toInt32)) else (fun _ => (0 : Int32)) z_) := own_Ia_set W4 V1 (fits_nar_char _)
  refine own_by (T' := T4) (g' := (mkF m 16 #[.val (.long dd), .second, .val (.ref b1)] [(.ref b1)])) (fun t_ k_ => XS.aloadN X4.here hx rfl (hb hby own_d_chs_15) rfl rfl k_) ?_
  refine own_by (T' := T4) (g' := (mkF m 17 #[.val (.long dd), .second, .val (.ref b1)] [(.int (1 : Int32)), (.ref b1)])) (fun t_ k_ => XS.iconst X4.here hx rfl (hb hby own_d_chs_16) k_) ?_
  refine own_by (T' := T4) (g' := (mkF m 18 #[.val (.long dd), .second, .val (.ref b1)] [(.long dd), (.int (1 : Int32)), (.ref b1)])) (fun t_ k_ => XS.lloadN X4.here hx rfl (hb hby own_d_chs_17) rfl k_) ?_
  refine own_by (T' := T4) (g' := (mkF m 20 #[.val (.long dd), .second, .val (.ref b1)] [(.int (8 : Int32)), (.long dd), (.int (1 : Int32)), (.ref b1)])) (fun t_ k_ => XS.bipush X4.here hx rfl (hb hby own_d_chs_18) k_) ?_
  refine own_by (T' := T4) (g' := (mkF m 21 #[.val (.long dd), .second, .val (.ref b1)] [(.long ((dd.toUInt64 >>> ((8 : Int32) &&& 0x3f).toInt64.toUInt64).toInt64)), (.int (1 : Int32)), (.ref b1)])) (fun t_ k_ => XS.lushr X4.here hx rfl (hb hby own_d_chs_20) rfl k_) ?_
  refine own_by (T' := T4) (g' := (mkF m 24 #[.val (.long dd), .second, .val (.ref b1)] [(.long (255 : Int64)), (.long ((dd.toUInt64 >>> ((8 : Int32) &&& 0x3f).toInt64.toUInt64).toInt64)), (.int (1 : Int32)), (.ref b1)])) (fun t_ k_ => X4.ldc2Long hx hown (mvT hZ (hw _ (List.mem_of_getElem? (i := 5) rfl))) (g := (mkF m 21 #[.val (.long dd), .second, .val (.ref b1)] [(.long ((dd.toUInt64 >>> ((8 : Int32) &&& 0x3f).toInt64.toUInt64).toInt64)), (.int (1 : Int32)), (.ref b1)])) rfl (hb hby own_d_chs_21) _ k_) ?_
  refine own_by (T' := T4) (g' := (mkF m 25 #[.val (.long dd), .second, .val (.ref b1)] [(.long (((dd.toUInt64 >>> ((8 : Int32) &&& 0x3f).toInt64.toUInt64).toInt64) &&& (255 : Int64))), (.int (1 : Int32)), (.ref b1)])) (fun t_ k_ => XS.land X4.here hx rfl (hb hby own_d_chs_24) rfl k_) ?_
  refine own_by (T' := T4) (g' := (mkF m 26 #[.val (.long dd), .second, .val (.ref b1)] [(.int ((((dd.toUInt64 >>> ((8 : Int32) &&& 0x3f).toInt64.toUInt64).toInt64) &&& (255 : Int64))).toInt32), (.int (1 : Int32)), (.ref b1)])) (fun t_ k_ => XS.l2i X4.here hx rfl (hb hby own_d_chs_25) rfl k_) ?_
  refine own_by (T' := T4) (g' := (mkF m 27 #[.val (.long dd), .second, .val (.ref b1)] [(.int (((((dd.toUInt64 >>> ((8 : Int32) &&& 0x3f).toInt64.toUInt64).toInt64) &&& (255 : Int64))).toInt32).toUInt32.toUInt16.toUInt32.toInt32), (.int (1 : Int32)), (.ref b1)])) (fun t_ k_ => XS.i2c X4.here hx rfl (hb hby own_d_chs_26) rfl k_) ?_
  obtain ⟨T8, h8, X8, e8, W8, st8⟩ := own_cas X4 hx hZ e4 V7 (j := (1 : Int32)) (by decide) (by decide) (g := (mkF m 27 #[.val (.long dd), .second, .val (.ref b1)] [(.int (((((dd.toUInt64 >>> ((8 : Int32) &&& 0x3f).toInt64.toUInt64).toInt64) &&& (255 : Int64))).toInt32).toUInt32.toUInt16.toUInt32.toInt32), (.int (1 : Int32)), (.ref b1)])) rfl rfl (hb hby own_d_chs_27)
  refine own_by (T' := T8) (g' := (mkF m 28 #[.val (.long dd), .second, .val (.ref b1)] [])) st8 ?_
  have N8 := Fr.snoc X8 N4 g_b1
  have f9 := Nat.le_trans f5 (Keep.of_wr W8).1
  have f10 := Keep.wr f6 W8 (Or.inr k_b1)
  have V11 : own_Ia Z h8 b1 .char 6 (fun z_ => if z_ = 1 then (nar .char ((((((dd.toUInt64 >>> ((8 : Int32) &&& 0x3f).toInt64.toUInt64).toInt64) &&& (255 : Int64))).toInt32).toUInt32.toUInt16.toUInt32.toInt32)) else (fun z_ => if z_ = 0 then (nar .char (((dd &&& (255 : Int64)).toInt32).toUInt32.toUInt16.toUInt32.toInt32)) else (fun _ => (0 : Int32)) z_) z_) := own_Ia_set W8 V7 (fits_nar_char _)
  refine own_by (T' := T8) (g' := (mkF m 29 #[.val (.long dd), .second, .val (.ref b1)] [(.ref b1)])) (fun t_ k_ => XS.aloadN X8.here hx rfl (hb hby own_d_chs_28) rfl rfl k_) ?_
  refine own_by (T' := T8) (g' := (mkF m 30 #[.val (.long dd), .second, .val (.ref b1)] [(.int (2 : Int32)), (.ref b1)])) (fun t_ k_ => XS.iconst X8.here hx rfl (hb hby own_d_chs_29) k_) ?_
  refine own_by (T' := T8) (g' := (mkF m 31 #[.val (.long dd), .second, .val (.ref b1)] [(.long dd), (.int (2 : Int32)), (.ref b1)])) (fun t_ k_ => XS.lloadN X8.here hx rfl (hb hby own_d_chs_30) rfl k_) ?_
  refine own_by (T' := T8) (g' := (mkF m 33 #[.val (.long dd), .second, .val (.ref b1)] [(.int (16 : Int32)), (.long dd), (.int (2 : Int32)), (.ref b1)])) (fun t_ k_ => XS.bipush X8.here hx rfl (hb hby own_d_chs_31) k_) ?_
  refine own_by (T' := T8) (g' := (mkF m 34 #[.val (.long dd), .second, .val (.ref b1)] [(.long ((dd.toUInt64 >>> ((16 : Int32) &&& 0x3f).toInt64.toUInt64).toInt64)), (.int (2 : Int32)), (.ref b1)])) (fun t_ k_ => XS.lushr X8.here hx rfl (hb hby own_d_chs_33) rfl k_) ?_
  refine own_by (T' := T8) (g' := (mkF m 37 #[.val (.long dd), .second, .val (.ref b1)] [(.long (255 : Int64)), (.long ((dd.toUInt64 >>> ((16 : Int32) &&& 0x3f).toInt64.toUInt64).toInt64)), (.int (2 : Int32)), (.ref b1)])) (fun t_ k_ => X8.ldc2Long hx hown (mvT hZ (hw _ (List.mem_of_getElem? (i := 5) rfl))) (g := (mkF m 34 #[.val (.long dd), .second, .val (.ref b1)] [(.long ((dd.toUInt64 >>> ((16 : Int32) &&& 0x3f).toInt64.toUInt64).toInt64)), (.int (2 : Int32)), (.ref b1)])) rfl (hb hby own_d_chs_34) _ k_) ?_
  refine own_by (T' := T8) (g' := (mkF m 38 #[.val (.long dd), .second, .val (.ref b1)] [(.long (((dd.toUInt64 >>> ((16 : Int32) &&& 0x3f).toInt64.toUInt64).toInt64) &&& (255 : Int64))), (.int (2 : Int32)), (.ref b1)])) (fun t_ k_ => XS.land X8.here hx rfl (hb hby own_d_chs_37) rfl k_) ?_
  refine own_by (T' := T8) (g' := (mkF m 39 #[.val (.long dd), .second, .val (.ref b1)] [(.int ((((dd.toUInt64 >>> ((16 : Int32) &&& 0x3f).toInt64.toUInt64).toInt64) &&& (255 : Int64))).toInt32), (.int (2 : Int32)), (.ref b1)])) (fun t_ k_ => XS.l2i X8.here hx rfl (hb hby own_d_chs_38) rfl k_) ?_
  refine own_by (T' := T8) (g' := (mkF m 40 #[.val (.long dd), .second, .val (.ref b1)] [(.int (((((dd.toUInt64 >>> ((16 : Int32) &&& 0x3f).toInt64.toUInt64).toInt64) &&& (255 : Int64))).toInt32).toUInt32.toUInt16.toUInt32.toInt32), (.int (2 : Int32)), (.ref b1)])) (fun t_ k_ => XS.i2c X8.here hx rfl (hb hby own_d_chs_39) rfl k_) ?_
  obtain ⟨T12, h12, X12, e12, W12, st12⟩ := own_cas X8 hx hZ e8 V11 (j := (2 : Int32)) (by decide) (by decide) (g := (mkF m 40 #[.val (.long dd), .second, .val (.ref b1)] [(.int (((((dd.toUInt64 >>> ((16 : Int32) &&& 0x3f).toInt64.toUInt64).toInt64) &&& (255 : Int64))).toInt32).toUInt32.toUInt16.toUInt32.toInt32), (.int (2 : Int32)), (.ref b1)])) rfl rfl (hb hby own_d_chs_40)
  refine own_by (T' := T12) (g' := (mkF m 41 #[.val (.long dd), .second, .val (.ref b1)] [])) st12 ?_
  have N12 := Fr.snoc X12 N8 g_b1
  have f13 := Nat.le_trans f9 (Keep.of_wr W12).1
  have f14 := Keep.wr f10 W12 (Or.inr k_b1)
  have V15 : own_Ia Z h12 b1 .char 6 (fun z_ => if z_ = 2 then (nar .char ((((((dd.toUInt64 >>> ((16 : Int32) &&& 0x3f).toInt64.toUInt64).toInt64) &&& (255 : Int64))).toInt32).toUInt32.toUInt16.toUInt32.toInt32)) else (fun z_ => if z_ = 1 then (nar .char ((((((dd.toUInt64 >>> ((8 : Int32) &&& 0x3f).toInt64.toUInt64).toInt64) &&& (255 : Int64))).toInt32).toUInt32.toUInt16.toUInt32.toInt32)) else (fun z_ => if z_ = 0 then (nar .char (((dd &&& (255 : Int64)).toInt32).toUInt32.toUInt16.toUInt32.toInt32)) else (fun _ => (0 : Int32)) z_) z_) z_) := own_Ia_set W12 V11 (fits_nar_char _)
  refine own_by (T' := T12) (g' := (mkF m 42 #[.val (.long dd), .second, .val (.ref b1)] [(.ref b1)])) (fun t_ k_ => XS.aloadN X12.here hx rfl (hb hby own_d_chs_41) rfl rfl k_) ?_
  refine own_by (T' := T12) (g' := (mkF m 43 #[.val (.long dd), .second, .val (.ref b1)] [(.int (3 : Int32)), (.ref b1)])) (fun t_ k_ => XS.iconst X12.here hx rfl (hb hby own_d_chs_42) k_) ?_
  refine own_by (T' := T12) (g' := (mkF m 44 #[.val (.long dd), .second, .val (.ref b1)] [(.long dd), (.int (3 : Int32)), (.ref b1)])) (fun t_ k_ => XS.lloadN X12.here hx rfl (hb hby own_d_chs_43) rfl k_) ?_
  refine own_by (T' := T12) (g' := (mkF m 46 #[.val (.long dd), .second, .val (.ref b1)] [(.int (24 : Int32)), (.long dd), (.int (3 : Int32)), (.ref b1)])) (fun t_ k_ => XS.bipush X12.here hx rfl (hb hby own_d_chs_44) k_) ?_
  refine own_by (T' := T12) (g' := (mkF m 47 #[.val (.long dd), .second, .val (.ref b1)] [(.long ((dd.toUInt64 >>> ((24 : Int32) &&& 0x3f).toInt64.toUInt64).toInt64)), (.int (3 : Int32)), (.ref b1)])) (fun t_ k_ => XS.lushr X12.here hx rfl (hb hby own_d_chs_46) rfl k_) ?_
  refine own_by (T' := T12) (g' := (mkF m 50 #[.val (.long dd), .second, .val (.ref b1)] [(.long (255 : Int64)), (.long ((dd.toUInt64 >>> ((24 : Int32) &&& 0x3f).toInt64.toUInt64).toInt64)), (.int (3 : Int32)), (.ref b1)])) (fun t_ k_ => X12.ldc2Long hx hown (mvT hZ (hw _ (List.mem_of_getElem? (i := 5) rfl))) (g := (mkF m 47 #[.val (.long dd), .second, .val (.ref b1)] [(.long ((dd.toUInt64 >>> ((24 : Int32) &&& 0x3f).toInt64.toUInt64).toInt64)), (.int (3 : Int32)), (.ref b1)])) rfl (hb hby own_d_chs_47) _ k_) ?_
  refine own_by (T' := T12) (g' := (mkF m 51 #[.val (.long dd), .second, .val (.ref b1)] [(.long (((dd.toUInt64 >>> ((24 : Int32) &&& 0x3f).toInt64.toUInt64).toInt64) &&& (255 : Int64))), (.int (3 : Int32)), (.ref b1)])) (fun t_ k_ => XS.land X12.here hx rfl (hb hby own_d_chs_50) rfl k_) ?_
  refine own_by (T' := T12) (g' := (mkF m 52 #[.val (.long dd), .second, .val (.ref b1)] [(.int ((((dd.toUInt64 >>> ((24 : Int32) &&& 0x3f).toInt64.toUInt64).toInt64) &&& (255 : Int64))).toInt32), (.int (3 : Int32)), (.ref b1)])) (fun t_ k_ => XS.l2i X12.here hx rfl (hb hby own_d_chs_51) rfl k_) ?_
  refine own_by (T' := T12) (g' := (mkF m 53 #[.val (.long dd), .second, .val (.ref b1)] [(.int (((((dd.toUInt64 >>> ((24 : Int32) &&& 0x3f).toInt64.toUInt64).toInt64) &&& (255 : Int64))).toInt32).toUInt32.toUInt16.toUInt32.toInt32), (.int (3 : Int32)), (.ref b1)])) (fun t_ k_ => XS.i2c X12.here hx rfl (hb hby own_d_chs_52) rfl k_) ?_
  obtain ⟨T16, h16, X16, e16, W16, st16⟩ := own_cas X12 hx hZ e12 V15 (j := (3 : Int32)) (by decide) (by decide) (g := (mkF m 53 #[.val (.long dd), .second, .val (.ref b1)] [(.int (((((dd.toUInt64 >>> ((24 : Int32) &&& 0x3f).toInt64.toUInt64).toInt64) &&& (255 : Int64))).toInt32).toUInt32.toUInt16.toUInt32.toInt32), (.int (3 : Int32)), (.ref b1)])) rfl rfl (hb hby own_d_chs_53)
  refine own_by (T' := T16) (g' := (mkF m 54 #[.val (.long dd), .second, .val (.ref b1)] [])) st16 ?_
  have N16 := Fr.snoc X16 N12 g_b1
  have f17 := Nat.le_trans f13 (Keep.of_wr W16).1
  have f18 := Keep.wr f14 W16 (Or.inr k_b1)
  have V19 : own_Ia Z h16 b1 .char 6 (fun z_ => if z_ = 3 then (nar .char ((((((dd.toUInt64 >>> ((24 : Int32) &&& 0x3f).toInt64.toUInt64).toInt64) &&& (255 : Int64))).toInt32).toUInt32.toUInt16.toUInt32.toInt32)) else (fun z_ => if z_ = 2 then (nar .char ((((((dd.toUInt64 >>> ((16 : Int32) &&& 0x3f).toInt64.toUInt64).toInt64) &&& (255 : Int64))).toInt32).toUInt32.toUInt16.toUInt32.toInt32)) else (fun z_ => if z_ = 1 then (nar .char ((((((dd.toUInt64 >>> ((8 : Int32) &&& 0x3f).toInt64.toUInt64).toInt64) &&& (255 : Int64))).toInt32).toUInt32.toUInt16.toUInt32.toInt32)) else (fun z_ => if z_ = 0 then (nar .char (((dd &&& (255 : Int64)).toInt32).toUInt32.toUInt16.toUInt32.toInt32)) else (fun _ => (0 : Int32)) z_) z_) z_) z_) := own_Ia_set W16 V15 (fits_nar_char _)
  refine own_by (T' := T16) (g' := (mkF m 55 #[.val (.long dd), .second, .val (.ref b1)] [(.ref b1)])) (fun t_ k_ => XS.aloadN X16.here hx rfl (hb hby own_d_chs_54) rfl rfl k_) ?_
  refine own_by (T' := T16) (g' := (mkF m 56 #[.val (.long dd), .second, .val (.ref b1)] [(.int (4 : Int32)), (.ref b1)])) (fun t_ k_ => XS.iconst X16.here hx rfl (hb hby own_d_chs_55) k_) ?_
  refine own_by (T' := T16) (g' := (mkF m 57 #[.val (.long dd), .second, .val (.ref b1)] [(.long dd), (.int (4 : Int32)), (.ref b1)])) (fun t_ k_ => XS.lloadN X16.here hx rfl (hb hby own_d_chs_56) rfl k_) ?_
  refine own_by (T' := T16) (g' := (mkF m 59 #[.val (.long dd), .second, .val (.ref b1)] [(.int (32 : Int32)), (.long dd), (.int (4 : Int32)), (.ref b1)])) (fun t_ k_ => XS.bipush X16.here hx rfl (hb hby own_d_chs_57) k_) ?_
  refine own_by (T' := T16) (g' := (mkF m 60 #[.val (.long dd), .second, .val (.ref b1)] [(.long ((dd.toUInt64 >>> ((32 : Int32) &&& 0x3f).toInt64.toUInt64).toInt64)), (.int (4 : Int32)), (.ref b1)])) (fun t_ k_ => XS.lushr X16.here hx rfl (hb hby own_d_chs_59) rfl k_) ?_
  refine own_by (T' := T16) (g' := (mkF m 63 #[.val (.long dd), .second, .val (.ref b1)] [(.long (255 : Int64)), (.long ((dd.toUInt64 >>> ((32 : Int32) &&& 0x3f).toInt64.toUInt64).toInt64)), (.int (4 : Int32)), (.ref b1)])) (fun t_ k_ => X16.ldc2Long hx hown (mvT hZ (hw _ (List.mem_of_getElem? (i := 5) rfl))) (g := (mkF m 60 #[.val (.long dd), .second, .val (.ref b1)] [(.long ((dd.toUInt64 >>> ((32 : Int32) &&& 0x3f).toInt64.toUInt64).toInt64)), (.int (4 : Int32)), (.ref b1)])) rfl (hb hby own_d_chs_60) _ k_) ?_
  refine own_by (T' := T16) (g' := (mkF m 64 #[.val (.long dd), .second, .val (.ref b1)] [(.long (((dd.toUInt64 >>> ((32 : Int32) &&& 0x3f).toInt64.toUInt64).toInt64) &&& (255 : Int64))), (.int (4 : Int32)), (.ref b1)])) (fun t_ k_ => XS.land X16.here hx rfl (hb hby own_d_chs_63) rfl k_) ?_
  refine own_by (T' := T16) (g' := (mkF m 65 #[.val (.long dd), .second, .val (.ref b1)] [(.int ((((dd.toUInt64 >>> ((32 : Int32) &&& 0x3f).toInt64.toUInt64).toInt64) &&& (255 : Int64))).toInt32), (.int (4 : Int32)), (.ref b1)])) (fun t_ k_ => XS.l2i X16.here hx rfl (hb hby own_d_chs_64) rfl k_) ?_
  refine own_by (T' := T16) (g' := (mkF m 66 #[.val (.long dd), .second, .val (.ref b1)] [(.int (((((dd.toUInt64 >>> ((32 : Int32) &&& 0x3f).toInt64.toUInt64).toInt64) &&& (255 : Int64))).toInt32).toUInt32.toUInt16.toUInt32.toInt32), (.int (4 : Int32)), (.ref b1)])) (fun t_ k_ => XS.i2c X16.here hx rfl (hb hby own_d_chs_65) rfl k_) ?_
  obtain ⟨T20, h20, X20, e20, W20, st20⟩ := own_cas X16 hx hZ e16 V19 (j := (4 : Int32)) (by decide) (by decide) (g := (mkF m 66 #[.val (.long dd), .second, .val (.ref b1)] [(.int (((((dd.toUInt64 >>> ((32 : Int32) &&& 0x3f).toInt64.toUInt64).toInt64) &&& (255 : Int64))).toInt32).toUInt32.toUInt16.toUInt32.toInt32), (.int (4 : Int32)), (.ref b1)])) rfl rfl (hb hby own_d_chs_66)
  refine own_by (T' := T20) (g' := (mkF m 67 #[.val (.long dd), .second, .val (.ref b1)] [])) st20 ?_
  have N20 := Fr.snoc X20 N16 g_b1
  have f21 := Nat.le_trans f17 (Keep.of_wr W20).1
  have f22 := Keep.wr f18 W20 (Or.inr k_b1)
  have V23 : own_Ia Z h20 b1 .char 6 (fun z_ => if z_ = 4 then (nar .char ((((((dd.toUInt64 >>> ((32 : Int32) &&& 0x3f).toInt64.toUInt64).toInt64) &&& (255 : Int64))).toInt32).toUInt32.toUInt16.toUInt32.toInt32)) else (fun z_ => if z_ = 3 then (nar .char ((((((dd.toUInt64 >>> ((24 : Int32) &&& 0x3f).toInt64.toUInt64).toInt64) &&& (255 : Int64))).toInt32).toUInt32.toUInt16.toUInt32.toInt32)) else (fun z_ => if z_ = 2 then (nar .char ((((((dd.toUInt64 >>> ((16 : Int32) &&& 0x3f).toInt64.toUInt64).toInt64) &&& (255 : Int64))).toInt32).toUInt32.toUInt16.toUInt32.toInt32)) else (fun z_ => if z_ = 1 then (nar .char ((((((dd.toUInt64 >>> ((8 : Int32) &&& 0x3f).toInt64.toUInt64).toInt64) &&& (255 : Int64))).toInt32).toUInt32.toUInt16.toUInt32.toInt32)) else (fun z_ => if z_ = 0 then (nar .char (((dd &&& (255 : Int64)).toInt32).toUInt32.toUInt16.toUInt32.toInt32)) else (fun _ => (0 : Int32)) z_) z_) z_) z_) z_) := own_Ia_set W20 V19 (fits_nar_char _)
  refine own_by (T' := T20) (g' := (mkF m 68 #[.val (.long dd), .second, .val (.ref b1)] [(.ref b1)])) (fun t_ k_ => XS.aloadN X20.here hx rfl (hb hby own_d_chs_67) rfl rfl k_) ?_
  refine own_by (T' := T20) (g' := (mkF m 69 #[.val (.long dd), .second, .val (.ref b1)] [(.int (5 : Int32)), (.ref b1)])) (fun t_ k_ => XS.iconst X20.here hx rfl (hb hby own_d_chs_68) k_) ?_
  refine own_by (T' := T20) (g' := (mkF m 70 #[.val (.long dd), .second, .val (.ref b1)] [(.long dd), (.int (5 : Int32)), (.ref b1)])) (fun t_ k_ => XS.lloadN X20.here hx rfl (hb hby own_d_chs_69) rfl k_) ?_
  refine own_by (T' := T20) (g' := (mkF m 72 #[.val (.long dd), .second, .val (.ref b1)] [(.int (40 : Int32)), (.long dd), (.int (5 : Int32)), (.ref b1)])) (fun t_ k_ => XS.bipush X20.here hx rfl (hb hby own_d_chs_70) k_) ?_
  refine own_by (T' := T20) (g' := (mkF m 73 #[.val (.long dd), .second, .val (.ref b1)] [(.long ((dd.toUInt64 >>> ((40 : Int32) &&& 0x3f).toInt64.toUInt64).toInt64)), (.int (5 : Int32)), (.ref b1)])) (fun t_ k_ => XS.lushr X20.here hx rfl (hb hby own_d_chs_72) rfl k_) ?_
  refine own_by (T' := T20) (g' := (mkF m 76 #[.val (.long dd), .second, .val (.ref b1)] [(.long (255 : Int64)), (.long ((dd.toUInt64 >>> ((40 : Int32) &&& 0x3f).toInt64.toUInt64).toInt64)), (.int (5 : Int32)), (.ref b1)])) (fun t_ k_ => X20.ldc2Long hx hown (mvT hZ (hw _ (List.mem_of_getElem? (i := 5) rfl))) (g := (mkF m 73 #[.val (.long dd), .second, .val (.ref b1)] [(.long ((dd.toUInt64 >>> ((40 : Int32) &&& 0x3f).toInt64.toUInt64).toInt64)), (.int (5 : Int32)), (.ref b1)])) rfl (hb hby own_d_chs_73) _ k_) ?_
  refine own_by (T' := T20) (g' := (mkF m 77 #[.val (.long dd), .second, .val (.ref b1)] [(.long (((dd.toUInt64 >>> ((40 : Int32) &&& 0x3f).toInt64.toUInt64).toInt64) &&& (255 : Int64))), (.int (5 : Int32)), (.ref b1)])) (fun t_ k_ => XS.land X20.here hx rfl (hb hby own_d_chs_76) rfl k_) ?_
  refine own_by (T' := T20) (g' := (mkF m 78 #[.val (.long dd), .second, .val (.ref b1)] [(.int ((((dd.toUInt64 >>> ((40 : Int32) &&& 0x3f).toInt64.toUInt64).toInt64) &&& (255 : Int64))).toInt32), (.int (5 : Int32)), (.ref b1)])) (fun t_ k_ => XS.l2i X20.here hx rfl (hb hby own_d_chs_77) rfl k_) ?_
  refine own_by (T' := T20) (g' := (mkF m 79 #[.val (.long dd), .second, .val (.ref b1)] [(.int (((((dd.toUInt64 >>> ((40 : Int32) &&& 0x3f).toInt64.toUInt64).toInt64) &&& (255 : Int64))).toInt32).toUInt32.toUInt16.toUInt32.toInt32), (.int (5 : Int32)), (.ref b1)])) (fun t_ k_ => XS.i2c X20.here hx rfl (hb hby own_d_chs_78) rfl k_) ?_
  obtain ⟨T24, h24, X24, e24, W24, st24⟩ := own_cas X20 hx hZ e20 V23 (j := (5 : Int32)) (by decide) (by decide) (g := (mkF m 79 #[.val (.long dd), .second, .val (.ref b1)] [(.int (((((dd.toUInt64 >>> ((40 : Int32) &&& 0x3f).toInt64.toUInt64).toInt64) &&& (255 : Int64))).toInt32).toUInt32.toUInt16.toUInt32.toInt32), (.int (5 : Int32)), (.ref b1)])) rfl rfl (hb hby own_d_chs_79)
  refine own_by (T' := T24) (g' := (mkF m 80 #[.val (.long dd), .second, .val (.ref b1)] [])) st24 ?_
  have N24 := Fr.snoc X24 N20 g_b1
  have f25 := Nat.le_trans f21 (Keep.of_wr W24).1
  have f26 := Keep.wr f22 W24 (Or.inr k_b1)
  have V27 : own_Ia Z h24 b1 .char 6 (fun z_ => if z_ = 5 then (nar .char ((((((dd.toUInt64 >>> ((40 : Int32) &&& 0x3f).toInt64.toUInt64).toInt64) &&& (255 : Int64))).toInt32).toUInt32.toUInt16.toUInt32.toInt32)) else (fun z_ => if z_ = 4 then (nar .char ((((((dd.toUInt64 >>> ((32 : Int32) &&& 0x3f).toInt64.toUInt64).toInt64) &&& (255 : Int64))).toInt32).toUInt32.toUInt16.toUInt32.toInt32)) else (fun z_ => if z_ = 3 then (nar .char ((((((dd.toUInt64 >>> ((24 : Int32) &&& 0x3f).toInt64.toUInt64).toInt64) &&& (255 : Int64))).toInt32).toUInt32.toUInt16.toUInt32.toInt32)) else (fun z_ => if z_ = 2 then (nar .char ((((((dd.toUInt64 >>> ((16 : Int32) &&& 0x3f).toInt64.toUInt64).toInt64) &&& (255 : Int64))).toInt32).toUInt32.toUInt16.toUInt32.toInt32)) else (fun z_ => if z_ = 1 then (nar .char ((((((dd.toUInt64 >>> ((8 : Int32) &&& 0x3f).toInt64.toUInt64).toInt64) &&& (255 : Int64))).toInt32).toUInt32.toUInt16.toUInt32.toInt32)) else (fun z_ => if z_ = 0 then (nar .char (((dd &&& (255 : Int64)).toInt32).toUInt32.toUInt16.toUInt32.toInt32)) else (fun _ => (0 : Int32)) z_) z_) z_) z_) z_) z_) := own_Ia_set W24 V23 (fits_nar_char _)
  refine own_by (T' := T24) (g' := (mkF m 81 #[.val (.long dd), .second, .val (.ref b1)] [(.ref b1)])) (fun t_ k_ => XS.aloadN X24.here hx rfl (hb hby own_d_chs_80) rfl rfl k_) ?_
  refine own_retR X24 hx Bd.returns hlk rfl rfl (hb hby own_d_chs_81) (by decide) (by decide) ?_
  rw [e24]
  exact ⟨b1, _, rfl, N24, f26, V27, g_b1, own_rng6 _ _ _ _ _ _ (own_chr dd) (own_chr _) (own_chr _) (own_chr _) (own_chr _) (own_chr _)⟩
theorem own_pd15 : parseMethodDescriptor "(J)[C" = some ⟨[.long], some (.array .char)⟩ := by decide +kernel
theorem own_pd16 : parseMethodDescriptor "()V" = some ⟨[], none⟩ := by decide +kernel
theorem own_pd17 : parseMethodDescriptor "([CII)Lcom/example/enumconv/enumconv/core/Decimal$Reading;" = some ⟨[(.array .char), .int, .int], some (.object "com/example/enumconv/enumconv/core/Decimal$Reading")⟩ := by decide +kernel
theorem own_pd18 : parseMethodDescriptor "()Ljava/lang/String;" = some ⟨[], some (.object "java/lang/String")⟩ := by decide +kernel
theorem own_pd19 : parseMethodDescriptor "()I" = some ⟨[], some .int⟩ := by decide +kernel
theorem own_pd20 : parseMethodDescriptor "(Ljava/lang/String;[CIII)Z" = some ⟨[(.object "java/lang/String"), (.array .char), .int, .int, .int], some .boolean⟩ := by decide +kernel
theorem own_ef_law (m : MethodId) (xx : Int64) (yy : Int64) (j1 : Int32) (m1 : Int32) (j2 : Int32) (m2 : Int32) : entryFrame m #[(.long xx), (.long yy), (.int j1), (.int m1), (.int j2), (.int m2)] maxLocals = mkF m 0 #[.val (.long xx), .second, .val (.long yy), .second, .val (.int j1), .val (.int m1), .val (.int j2), .val (.int m2), .unset, .unset, .unset, .unset, .unset, .unset, .unset, .unset] [] := by first | (simp [entryFrame, mkF, argsToLocals, Value.category, maxLocals]; done) | rfl
def own_Q_law (Z : State) (xx : Int64) (yy : Int64) (j1 : Int32) (m1 : Int32) (j2 : Int32) (m2 : Int32) (cs : Int32) (fm : Value) (h0 : Heap) (n0 : Nat) (v : Option Value) (h : Heap) (L : List Loc) : Prop := v = some (.int 1) ∧ Fr n0 L
set_option maxRecDepth 65536 in
set_option maxHeartbeats 40000000 in
theorem own_rm_law (l : Launch) (Z : State) (a0 : Array Value) (hw : ∀ d ∈ tables_1, d.before a0 Z = true) (ws : List Jvm.Cond) (xx : Int64) (yy : Int64) (j1 : Int32) (m1 : Int32) (j2 : Int32) (m2 : Int32) (cs : Int32) (fm : Value) (h0 : Heap) (n0 : Nat) (Z0 : n0 ≤ h0.size) (SC : Sta Z h0 "java/lang/String" "COMPACT_STRINGS" "Z" (.int cs)) (hcs : ¬ cs = (0 : Int32)) (SF : Sta Z h0 "jdk/internal/util/Preconditions" "SIOOBE_FORMATTER" "Ljava/util/function/BiFunction;" fm) (hfm : fm.isRef = true) (hold : ∀ (b : Addr) (cl : Cell), Z.heap[b]? = some cl → h0[b]? = some cl) (hcst : Jvm.Lit.constHeld Z "java/lang/String" 7) (hcw : Jvm.Lit.compactW.before a0 Z = true) :
    MetFree l x (head1 (Jvm.Cond.code x code maxLocals ret :: ws) room_1) (fun a_ U_ => a_ = #[(.long xx), (.long yy), (.int j1), (.int m1), (.int j2), (.int m2)] ∧ Z.Warmed39 U_.vm ∧ U_.heap = h0 ∧ U_.vm.interned = Z.vm.interned) (fun _ _ _ _ _ => True) (fun _ U_ o_ U'_ => ∃ v_ L_, o_ = .returned v_ ∧ own_Q_law Z xx yy j1 m1 j2 m2 cs fm h0 n0 v_ U'_.heap L_ ∧ ReturnedEndW U_ o_ U'_ L_ room_1.cells room_1.slots) := by
  refine MetFree.of_bodySF (plainFor_of_name own_pn_com_example_enumconv_enumconv_core_ReadingToStringPinLaw) hisR ?_
  intro p e s m args below meth c s₁ Bd hml0 hP hK
  obtain ⟨rfl, hZ, hh, hI⟩ := hP
  have hx := Bd.exec
  have hby := Bd.bytes
  have hlk : meth.locks = false := BodyLoose.notSynchronized Bd
  have hml : c.maxLocals = 16 := hml0
  have hown : s.vm.findClass "com/example/enumconv/enumconv/core/ReadingToStringPinLaw" = some m.cls := findClass_of_methodNamed Bd.named
  have hnm := (name_of_methodNamed Bd.named Bd.method).1
  have X0 : Stand p l e room_1 s m #[(.long xx), (.long yy), (.int j1), (.int m1), (.int j2), (.int m2)] below meth c s₁ [] 0 0 := Stand.of_body Bd
  have e0 : s₁.heap = h0 := by rw [← hh, Bd.state]; rfl
  have N0 := Fr.nil n0
  show own_Goes p e below (own_KS (own_Q_law Z xx yy j1 m1 j2 m2 cs fm h0 n0) s room_1.cells room_1.slots) s₁ (entryFrame m #[(.long xx), (.long yy), (.int j1), (.int m1), (.int j2), (.int m2)] maxLocals)
  rw [own_ef_law]
  have K0 := Keep.refl h0 []
  refine own_by (T' := s₁) (g' := (mkF m 1 #[.val (.long xx), .second, .val (.long yy), .second, .val (.int j1), .val (.int m1), .val (.int j2), .val (.int m2), .unset, .unset, .unset, .unset, .unset, .unset, .unset, .unset] [(.long yy)])) (fun t_ k_ => XS.lloadN X0.here hx rfl (hb hby at_0) rfl k_) ?_
  obtain ⟨_, T1, L1, X1, hQ1, st1⟩ := own_callS X0 hx hZ (y := (⟨"com/example/enumconv/enumconv/core/ReadingToStringPinLaw", "chars", "(J)[C"⟩ : MethodName)) hown (hw _ (List.mem_of_getElem? (i := 0) rfl)) (hw _ (List.mem_of_getElem? (i := 1) rfl)) (hw _ (List.mem_of_getElem? (i := 2) rfl)) (hw _ (List.mem_of_getElem? (i := 3) rfl)) (by decide) (argsL := [(.long yy)]) (rest := []) (own_rm_chs l Z a0 hw [] yy h0 n0 Z0) e0 (W := 0) (by decide) (by decide) (by decide) (by decide) (g := (mkF m 1 #[.val (.long xx), .second, .val (.long yy), .second, .val (.int j1), .val (.int m1), .val (.int j2), .val (.int m2), .unset, .unset, .unset, .unset, .unset, .unset, .unset, .unset] [(.long yy)])) rfl (by rw [hml]; rfl) (lenOf own_pd15 rfl) rfl (by show 2 * 0 + _ ≤ _; exact Nat.le_of_eq rfl) (hb hby at_1)
  obtain ⟨t1, tf1, rfl, Nq1, Kq1, Vt1, gt1, hf1⟩ := hQ1
  have N1 := Fr.app N0 Nq1
  have f2 := own_Sta_keep SC Kq1 all0
  have f3 := own_Sta_keep SF Kq1 all0
  have f4 := Nat.le_trans Z0 Kq1.1
  have f5 := Keep.trans K0 Kq1 all0
  refine st1 _ ?_
  show own_Goes p e below _ T1 (mkF m 4 #[.val (.long xx), .second, .val (.long yy), .second, .val (.int j1), .val (.int m1), .val (.int j2), .val (.int m2), .unset, .unset, .unset, .unset, .unset, .unset, .unset, .unset] [(.ref t1)])
  refine own_by (T' := T1) (g' := (mkF m 6 #[.val (.long xx), .second, .val (.long yy), .second, .val (.int j1), .val (.int m1), .val (.int j2), .val (.int m2), .val (.ref t1), .unset, .unset, .unset, .unset, .unset, .unset, .unset] [])) (fun t_ k_ => XS.astore X1.here hx rfl (hb hby at_4) rfl rfl (l' := #[.val (.long xx), .second, .val (.long yy), .second, .val (.int j1), .val (.int m1), .val (.int j2), .val (.int m2), .val (.ref t1), .unset, .unset, .unset, .unset, .unset, .unset, .unset]) rfl k_) ?_
  refine own_by (T' := T1) (g' := (mkF m 7 #[.val (.long xx), .second, .val (.long yy), .second, .val (.int j1), .val (.int m1), .val (.int j2), .val (.int m2), .val (.ref t1), .unset, .unset, .unset, .unset, .unset, .unset, .unset] [(.long xx)])) (fun t_ k_ => XS.lloadN X1.here hx rfl (hb hby at_6) rfl k_) ?_
  obtain ⟨_, T6, L6, X6, hQ6, st6⟩ := own_callS X1 hx hZ (y := (⟨"com/example/enumconv/enumconv/core/ReadingToStringPinLaw", "chars", "(J)[C"⟩ : MethodName)) hown (hw _ (List.mem_of_getElem? (i := 0) rfl)) (hw _ (List.mem_of_getElem? (i := 1) rfl)) (hw _ (List.mem_of_getElem? (i := 2) rfl)) (hw _ (List.mem_of_getElem? (i := 3) rfl)) (by decide) (argsL := [(.long xx)]) (rest := []) (own_rm_chs l Z a0 hw [] xx T1.heap n0 f4) rfl (W := 0) (by decide) (by decide) (by decide) (by decide) (g := (mkF m 7 #[.val (.long xx), .second, .val (.long yy), .second, .val (.int j1), .val (.int m1), .val (.int j2), .val (.int m2), .val (.ref t1), .unset, .unset, .unset, .unset, .unset, .unset, .unset] [(.long xx)])) rfl (by rw [hml]; rfl) (lenOf own_pd15 rfl) rfl (by show 2 * 0 + _ ≤ _; exact Nat.le_of_eq rfl) (hb hby at_7)
  obtain ⟨t2, tf2, rfl, Nq6, Kq6, Vt2, gt2, hf2⟩ := hQ6
  have N6 := Fr.app N1 Nq6
  have f7 := own_Sta_keep f2 Kq6 all0
  have f8 := own_Sta_keep f3 Kq6 all0
  have f9 := Nat.le_trans f4 Kq6.1
  have f10 := Keep.trans f5 Kq6 all0
  have f11 := own_Ia_keep Kq6 Vt1 nin0
  refine st6 _ ?_
  show own_Goes p e below _ T6 (mkF m 10 #[.val (.long xx), .second, .val (.long yy), .second, .val (.int j1), .val (.int m1), .val (.int j2), .val (.int m2), .val (.ref t1), .unset, .unset, .unset, .unset, .unset, .unset, .unset] [(.ref t2)])
  refine own_by (T' := T6) (g' := (mkF m 12 #[.val (.long xx), .second, .val (.long yy), .second, .val (.int j1), .val (.int m1), .val (.int j2), .val (.int m2), .val (.ref t1), .val (.ref t2), .unset, .unset, .unset, .unset, .unset, .unset] [])) (fun t_ k_ => XS.astore X6.here hx rfl (hb hby at_10) rfl rfl (l' := #[.val (.long xx), .second, .val (.long yy), .second, .val (.int j1), .val (.int m1), .val (.int j2), .val (.int m2), .val (.ref t1), .val (.ref t2), .unset, .unset, .unset, .unset, .unset, .unset]) rfl k_) ?_
  refine own_by (T' := T6) (g' := (mkF m 14 #[.val (.long xx), .second, .val (.long yy), .second, .val (.int j1), .val (.int m1), .val (.int j2), .val (.int m2), .val (.ref t1), .val (.ref t2), .unset, .unset, .unset, .unset, .unset, .unset] [(.int j1)])) (fun t_ k_ => XS.iload X6.here hx rfl (hb hby at_12) rfl k_) ?_
  refine own_by (T' := T6) (g' := (mkF m 16 #[.val (.long xx), .second, .val (.long yy), .second, .val (.int j1), .val (.int m1), .val (.int j2), .val (.int m2), .val (.ref t1), .val (.ref t2), .unset, .unset, .unset, .unset, .unset, .unset] [(.int (2147483647 : Int32)), (.int j1)])) (fun t_ k_ => X6.ldcInt hx hown (mvT hZ (hw _ (List.mem_of_getElem? (i := 6) rfl))) (g := (mkF m 14 #[.val (.long xx), .second, .val (.long yy), .second, .val (.int j1), .val (.int m1), .val (.int j2), .val (.int m2), .val (.ref t1), .val (.ref t2), .unset, .unset, .unset, .unset, .unset, .unset] [(.int j1)])) rfl (hb hby at_14) _ k_) ?_
  refine own_by (T' := T6) (g' := (mkF m 17 #[.val (.long xx), .second, .val (.long yy), .second, .val (.int j1), .val (.int m1), .val (.int j2), .val (.int m2), .val (.ref t1), .val (.ref t2), .unset, .unset, .unset, .unset, .unset, .unset] [(.int (j1 &&& (2147483647 : Int32)))])) (fun t_ k_ => XS.iand X6.here hx rfl (hb hby at_16) rfl k_) ?_
  refine own_by (T' := T6) (g' := (mkF m 19 #[.val (.long xx), .second, .val (.long yy), .second, .val (.int j1), .val (.int m1), .val (.int j2), .val (.int m2), .val (.ref t1), .val (.ref t2), .unset, .unset, .unset, .unset, .unset, .unset] [(.int (7 : Int32)), (.int (j1 &&& (2147483647 : Int32)))])) (fun t_ k_ => XS.bipush X6.here hx rfl (hb hby at_17) k_) ?_
  refine own_by (T' := T6) (g' := (mkF m 20 #[.val (.long xx), .second, .val (.long yy), .second, .val (.int j1), .val (.int m1), .val (.int j2), .val (.int m2), .val (.ref t1), .val (.ref t2), .unset, .unset, .unset, .unset, .unset, .unset] [(.int ((j1 &&& (2147483647 : Int32)) % (7 : Int32)))])) (fun t_ k_ => Jvm.RoadKit.iremM X6 hx rfl (hb hby at_19) rfl (by decide) k_) ?_
  refine own_by (T' := T6) (g' := (mkF m 22 #[.val (.long xx), .second, .val (.long yy), .second, .val (.int j1), .val (.int m1), .val (.int j2), .val (.int m2), .val (.ref t1), .val (.ref t2), .val (.int ((j1 &&& (2147483647 : Int32)) % (7 : Int32))), .unset, .unset, .unset, .unset, .unset] [])) (fun t_ k_ => XS.istore X6.here hx rfl (hb hby at_20) rfl (l' := #[.val (.long xx), .second, .val (.long yy), .second, .val (.int j1), .val (.int m1), .val (.int j2), .val (.int m2), .val (.ref t1), .val (.ref t2), .val (.int ((j1 &&& (2147483647 : Int32)) % (7 : Int32))), .unset, .unset, .unset, .unset, .unset]) rfl k_) ?_
  obtain ⟨o1, ho1⟩ : ∃ z, z = ((j1 &&& (2147483647 : Int32)) % (7 : Int32)) := ⟨_, rfl⟩
  rw [← ho1]
  have po1 := own_of7 j1
  rw [← ho1] at po1
  refine own_by (T' := T6) (g' := (mkF m 24 #[.val (.long xx), .second, .val (.long yy), .second, .val (.int j1), .val (.int m1), .val (.int j2), .val (.int m2), .val (.ref t1), .val (.ref t2), .val (.int o1), .unset, .unset, .unset, .unset, .unset] [(.int m1)])) (fun t_ k_ => XS.iload X6.here hx rfl (hb hby at_22) rfl k_) ?_
  refine own_by (T' := T6) (g' := (mkF m 26 #[.val (.long xx), .second, .val (.long yy), .second, .val (.int j1), .val (.int m1), .val (.int j2), .val (.int m2), .val (.ref t1), .val (.ref t2), .val (.int o1), .unset, .unset, .unset, .unset, .unset] [(.int (2147483647 : Int32)), (.int m1)])) (fun t_ k_ => X6.ldcInt hx hown (mvT hZ (hw _ (List.mem_of_getElem? (i := 6) rfl))) (g := (mkF m 24 #[.val (.long xx), .second, .val (.long yy), .second, .val (.int j1), .val (.int m1), .val (.int j2), .val (.int m2), .val (.ref t1), .val (.ref t2), .val (.int o1), .unset, .unset, .unset, .unset, .unset] [(.int m1)])) rfl (hb hby at_24) _ k_) ?_
  refine own_by (T' := T6) (g' := (mkF m 27 #[.val (.long xx), .second, .val (.long yy), .second, .val (.int j1), .val (.int m1), .val (.int j2), .val (.int m2), .val (.ref t1), .val (.ref t2), .val (.int o1), .unset, .unset, .unset, .unset, .unset] [(.int (m1 &&& (2147483647 : Int32)))])) (fun t_ k_ => XS.iand X6.here hx rfl (hb hby at_26) rfl k_) ?_
  refine own_by (T' := T6) (g' := (mkF m 29 #[.val (.long xx), .second, .val (.long yy), .second, .val (.int j1), .val (.int m1), .val (.int j2), .val (.int m2), .val (.ref t1), .val (.ref t2), .val (.int o1), .unset, .unset, .unset, .unset, .unset] [(.int (7 : Int32)), (.int (m1 &&& (2147483647 : Int32)))])) (fun t_ k_ => XS.bipush X6.here hx rfl (hb hby at_27) k_) ?_
  refine own_by (T' := T6) (g' := (mkF m 31 #[.val (.long xx), .second, .val (.long yy), .second, .val (.int j1), .val (.int m1), .val (.int j2), .val (.int m2), .val (.ref t1), .val (.ref t2), .val (.int o1), .unset, .unset, .unset, .unset, .unset] [(.int o1), (.int (7 : Int32)), (.int (m1 &&& (2147483647 : Int32)))])) (fun t_ k_ => XS.iload X6.here hx rfl (hb hby at_29) rfl k_) ?_
  refine own_by (T' := T6) (g' := (mkF m 32 #[.val (.long xx), .second, .val (.long yy), .second, .val (.int j1), .val (.int m1), .val (.int j2), .val (.int m2), .val (.ref t1), .val (.ref t2), .val (.int o1), .unset, .unset, .unset, .unset, .unset] [(.int ((7 : Int32) - o1)), (.int (m1 &&& (2147483647 : Int32)))])) (fun t_ k_ => XS.isub X6.here hx rfl (hb hby at_31) rfl k_) ?_
  refine own_by (T' := T6) (g' := (mkF m 33 #[.val (.long xx), .second, .val (.long yy), .second, .val (.int j1), .val (.int m1), .val (.int j2), .val (.int m2), .val (.ref t1), .val (.ref t2), .val (.int o1), .unset, .unset, .unset, .unset, .unset] [(.int ((m1 &&& (2147483647 : Int32)) % ((7 : Int32) - o1)))])) (fun t_ k_ => Jvm.RoadKit.iremM X6 hx rfl (hb hby at_32) rfl (own_nz7 o1 po1) k_) ?_
  refine own_by (T' := T6) (g' := (mkF m 35 #[.val (.long xx), .second, .val (.long yy), .second, .val (.int j1), .val (.int m1), .val (.int j2), .val (.int m2), .val (.ref t1), .val (.ref t2), .val (.int o1), .val (.int ((m1 &&& (2147483647 : Int32)) % ((7 : Int32) - o1))), .unset, .unset, .unset, .unset] [])) (fun t_ k_ => XS.istore X6.here hx rfl (hb hby at_33) rfl (l' := #[.val (.long xx), .second, .val (.long yy), .second, .val (.int j1), .val (.int m1), .val (.int j2), .val (.int m2), .val (.ref t1), .val (.ref t2), .val (.int o1), .val (.int ((m1 &&& (2147483647 : Int32)) % ((7 : Int32) - o1))), .unset, .unset, .unset, .unset]) rfl k_) ?_
  obtain ⟨l1, hl1⟩ : ∃ z, z = ((m1 &&& (2147483647 : Int32)) % ((7 : Int32) - o1)) := ⟨_, rfl⟩
  rw [← hl1]
  have pl1 := own_ln7 m1 o1 po1
  rw [← hl1] at pl1
  have p1 : 0 ≤ o1.toInt ∧ 0 ≤ l1.toInt ∧ o1.toInt + l1.toInt ≤ 6 := ⟨po1.1, pl1.1, pl1.2⟩
  refine own_by (T' := T6) (g' := (mkF m 37 #[.val (.long xx), .second, .val (.long yy), .second, .val (.int j1), .val (.int m1), .val (.int j2), .val (.int m2), .val (.ref t1), .val (.ref t2), .val (.int o1), .val (.int l1), .unset, .unset, .unset, .unset] [(.int j2)])) (fun t_ k_ => XS.iload X6.here hx rfl (hb hby at_35) rfl k_) ?_
  refine own_by (T' := T6) (g' := (mkF m 39 #[.val (.long xx), .second, .val (.long yy), .second, .val (.int j1), .val (.int m1), .val (.int j2), .val (.int m2), .val (.ref t1), .val (.ref t2), .val (.int o1), .val (.int l1), .unset, .unset, .unset, .unset] [(.int (2147483647 : Int32)), (.int j2)])) (fun t_ k_ => X6.ldcInt hx hown (mvT hZ (hw _ (List.mem_of_getElem? (i := 6) rfl))) (g := (mkF m 37 #[.val (.long xx), .second, .val (.long yy), .second, .val (.int j1), .val (.int m1), .val (.int j2), .val (.int m2), .val (.ref t1), .val (.ref t2), .val (.int o1), .val (.int l1), .unset, .unset, .unset, .unset] [(.int j2)])) rfl (hb hby at_37) _ k_) ?_
  refine own_by (T' := T6) (g' := (mkF m 40 #[.val (.long xx), .second, .val (.long yy), .second, .val (.int j1), .val (.int m1), .val (.int j2), .val (.int m2), .val (.ref t1), .val (.ref t2), .val (.int o1), .val (.int l1), .unset, .unset, .unset, .unset] [(.int (j2 &&& (2147483647 : Int32)))])) (fun t_ k_ => XS.iand X6.here hx rfl (hb hby at_39) rfl k_) ?_
  refine own_by (T' := T6) (g' := (mkF m 42 #[.val (.long xx), .second, .val (.long yy), .second, .val (.int j1), .val (.int m1), .val (.int j2), .val (.int m2), .val (.ref t1), .val (.ref t2), .val (.int o1), .val (.int l1), .unset, .unset, .unset, .unset] [(.int (7 : Int32)), (.int (j2 &&& (2147483647 : Int32)))])) (fun t_ k_ => XS.bipush X6.here hx rfl (hb hby at_40) k_) ?_
  refine own_by (T' := T6) (g' := (mkF m 43 #[.val (.long xx), .second, .val (.long yy), .second, .val (.int j1), .val (.int m1), .val (.int j2), .val (.int m2), .val (.ref t1), .val (.ref t2), .val (.int o1), .val (.int l1), .unset, .unset, .unset, .unset] [(.int ((j2 &&& (2147483647 : Int32)) % (7 : Int32)))])) (fun t_ k_ => Jvm.RoadKit.iremM X6 hx rfl (hb hby at_42) rfl (by decide) k_) ?_
  refine own_by (T' := T6) (g' := (mkF m 45 #[.val (.long xx), .second, .val (.long yy), .second, .val (.int j1), .val (.int m1), .val (.int j2), .val (.int m2), .val (.ref t1), .val (.ref t2), .val (.int o1), .val (.int l1), .val (.int ((j2 &&& (2147483647 : Int32)) % (7 : Int32))), .unset, .unset, .unset] [])) (fun t_ k_ => XS.istore X6.here hx rfl (hb hby at_43) rfl (l' := #[.val (.long xx), .second, .val (.long yy), .second, .val (.int j1), .val (.int m1), .val (.int j2), .val (.int m2), .val (.ref t1), .val (.ref t2), .val (.int o1), .val (.int l1), .val (.int ((j2 &&& (2147483647 : Int32)) % (7 : Int32))), .unset, .unset, .unset]) rfl k_) ?_
  obtain ⟨o2, ho2⟩ : ∃ z, z = ((j2 &&& (2147483647 : Int32)) % (7 : Int32)) := ⟨_, rfl⟩
  rw [← ho2]
  have po2 := own_of7 j2
  rw [← ho2] at po2
  refine own_by (T' := T6) (g' := (mkF m 47 #[.val (.long xx), .second, .val (.long yy), .second, .val (.int j1), .val (.int m1), .val (.int j2), .val (.int m2), .val (.ref t1), .val (.ref t2), .val (.int o1), .val (.int l1), .val (.int o2), .unset, .unset, .unset] [(.int m2)])) (fun t_ k_ => XS.iload X6.here hx rfl (hb hby at_45) rfl k_) ?_
  refine own_by (T' := T6) (g' := (mkF m 49 #[.val (.long xx), .second, .val (.long yy), .second, .val (.int j1), .val (.int m1), .val (.int j2), .val (.int m2), .val (.ref t1), .val (.ref t2), .val (.int o1), .val (.int l1), .val (.int o2), .unset, .unset, .unset] [(.int (2147483647 : Int32)), (.int m2)])) (fun t_ k_ => X6.ldcInt hx hown (mvT hZ (hw _ (List.mem_of_getElem? (i := 6) rfl))) (g := (mkF m 47 #[.val (.long xx), .second, .val (.long yy), .second, .val (.int j1), .val (.int m1), .val (.int j2), .val (.int m2), .val (.ref t1), .val (.ref t2), .val (.int o1), .val (.int l1), .val (.int o2), .unset, .unset, .unset] [(.int m2)])) rfl (hb hby at_47) _ k_) ?_
  refine own_by (T' := T6) (g' := (mkF m 50 #[.val (.long xx), .second, .val (.long yy), .second, .val (.int j1), .val (.int m1), .val (.int j2), .val (.int m2), .val (.ref t1), .val (.ref t2), .val (.int o1), .val (.int l1), .val (.int o2), .unset, .unset, .unset] [(.int (m2 &&& (2147483647 : Int32)))])) (fun t_ k_ => XS.iand X6.here hx rfl (hb hby at_49) rfl k_) ?_
  refine own_by (T' := T6) (g' := (mkF m 52 #[.val (.long xx), .second, .val (.long yy), .second, .val (.int j1), .val (.int m1), .val (.int j2), .val (.int m2), .val (.ref t1), .val (.ref t2), .val (.int o1), .val (.int l1), .val (.int o2), .unset, .unset, .unset] [(.int (7 : Int32)), (.int (m2 &&& (2147483647 : Int32)))])) (fun t_ k_ => XS.bipush X6.here hx rfl (hb hby at_50) k_) ?_
  refine own_by (T' := T6) (g' := (mkF m 54 #[.val (.long xx), .second, .val (.long yy), .second, .val (.int j1), .val (.int m1), .val (.int j2), .val (.int m2), .val (.ref t1), .val (.ref t2), .val (.int o1), .val (.int l1), .val (.int o2), .unset, .unset, .unset] [(.int o2), (.int (7 : Int32)), (.int (m2 &&& (2147483647 : Int32)))])) (fun t_ k_ => XS.iload X6.here hx rfl (hb hby at_52) rfl k_) ?_
  refine own_by (T' := T6) (g' := (mkF m 55 #[.val (.long xx), .second, .val (.long yy), .second, .val (.int j1), .val (.int m1), .val (.int j2), .val (.int m2), .val (.ref t1), .val (.ref t2), .val (.int o1), .val (.int l1), .val (.int o2), .unset, .unset, .unset] [(.int ((7 : Int32) - o2)), (.int (m2 &&& (2147483647 : Int32)))])) (fun t_ k_ => XS.isub X6.here hx rfl (hb hby at_54) rfl k_) ?_
  refine own_by (T' := T6) (g' := (mkF m 56 #[.val (.long xx), .second, .val (.long yy), .second, .val (.int j1), .val (.int m1), .val (.int j2), .val (.int m2), .val (.ref t1), .val (.ref t2), .val (.int o1), .val (.int l1), .val (.int o2), .unset, .unset, .unset] [(.int ((m2 &&& (2147483647 : Int32)) % ((7 : Int32) - o2)))])) (fun t_ k_ => Jvm.RoadKit.iremM X6 hx rfl (hb hby at_55) rfl (own_nz7 o2 po2) k_) ?_
  refine own_by (T' := T6) (g' := (mkF m 58 #[.val (.long xx), .second, .val (.long yy), .second, .val (.int j1), .val (.int m1), .val (.int j2), .val (.int m2), .val (.ref t1), .val (.ref t2), .val (.int o1), .val (.int l1), .val (.int o2), .val (.int ((m2 &&& (2147483647 : Int32)) % ((7 : Int32) - o2))), .unset, .unset] [])) (fun t_ k_ => XS.istore X6.here hx rfl (hb hby at_56) rfl (l' := #[.val (.long xx), .second, .val (.long yy), .second, .val (.int j1), .val (.int m1), .val (.int j2), .val (.int m2), .val (.ref t1), .val (.ref t2), .val (.int o1), .val (.int l1), .val (.int o2), .val (.int ((m2 &&& (2147483647 : Int32)) % ((7 : Int32) - o2))), .unset, .unset]) rfl k_) ?_
  obtain ⟨l2, hl2⟩ : ∃ z, z = ((m2 &&& (2147483647 : Int32)) % ((7 : Int32) - o2)) := ⟨_, rfl⟩
  rw [← hl2]
  have pl2 := own_ln7 m2 o2 po2
  rw [← hl2] at pl2
  have p2 : 0 ≤ o2.toInt ∧ 0 ≤ l2.toInt ∧ o2.toInt + l2.toInt ≤ 6 := ⟨po2.1, pl2.1, pl2.2⟩
  obtain ⟨T12, h12, X12, e12, E12, A12, D12, -, st12⟩ := newO X6 hx hZ hown (hw _ (List.mem_of_getElem? (i := 7) rfl)) (hw _ (List.mem_of_getElem? (i := 8) rfl)) (hw _ (List.mem_of_getElem? (i := 9) rfl)) rfl (g := (mkF m 58 #[.val (.long xx), .second, .val (.long yy), .second, .val (.int j1), .val (.int m1), .val (.int j2), .val (.int m2), .val (.ref t1), .val (.ref t2), .val (.int o1), .val (.int l1), .val (.int o2), .val (.int l2), .unset, .unset] [])) rfl (hb hby at_58) (by decide) (by decide)
  obtain ⟨b12, g12⟩ : ∃ z, z = T6.heap.size := ⟨_, rfl⟩
  rw [← g12] at A12 D12 st12
  have g_b12 : n0 ≤ b12 := Nat.le_trans f9 (Nat.le_of_eq g12.symm)
  have ne13 : t1 ≠ b12 := Nat.ne_of_lt (Nat.lt_of_lt_of_le (own_Ia_lt f11) (Nat.le_of_eq g12.symm))
  have ne14 : t2 ≠ b12 := Nat.ne_of_lt (Nat.lt_of_lt_of_le (own_Ia_lt Vt2) (Nat.le_of_eq g12.symm))
  have k_b12 : h0.size ≤ b12 := Nat.le_trans f10.1 (Nat.le_of_eq g12.symm)
  have f15 := Nat.le_trans f9 E12.1
  have f16 := Sta.ext E12 f7
  have f17 := Sta.ext E12 f8
  have f18 := f10.ext E12
  have f19 := own_Ia_ext E12 f11
  have f20 := own_Ia_ext E12 Vt2
  have F12_text : Fld Z h12 b12 "com/example/enumconv/enumconv/core/Decimal$Reading" "text" "[C" .null := D12 (Or.inl (hw _ (List.mem_of_getElem? (i := 22) rfl))) (ty := (.array .char)) (by decide)
  have F12_start : Fld Z h12 b12 "com/example/enumconv/enumconv/core/Decimal$Reading" "start" "I" (.int (0 : Int32)) := D12 (Or.inl (hw _ (List.mem_of_getElem? (i := 24) rfl))) (ty := .int) (by decide)
  have F12_stop : Fld Z h12 b12 "com/example/enumconv/enumconv/core/Decimal$Reading" "stop" "I" (.int (0 : Int32)) := D12 (Or.inl (hw _ (List.mem_of_getElem? (i := 26) rfl))) (ty := .int) (by decide)
  have F12_negative : Fld Z h12 b12 "com/example/enumconv/enumconv/core/Decimal$Reading" "negative" "Z" (.int (0 : Int32)) := D12 (Or.inl (hw _ (List.mem_of_getElem? (i := 28) rfl))) (ty := .boolean) (by decide)
  have F12_digitsAt : Fld Z h12 b12 "com/example/enumconv/enumconv/core/Decimal$Reading" "digitsAt" "I" (.int (0 : Int32)) := D12 (Or.inl (hw _ (List.mem_of_getElem? (i := 30) rfl))) (ty := .int) (by decide)
  have F12_end : Fld Z h12 b12 "com/example/enumconv/enumconv/core/Decimal$Reading" "end" "I" (.int (0 : Int32)) := D12 (Or.inl (hw _ (List.mem_of_getElem? (i := 32) rfl))) (ty := .int) (by decide)
  have F12_point : Fld Z h12 b12 "com/example/enumconv/enumconv/core/Decimal$Reading" "point" "I" (.int (0 : Int32)) := D12 (Or.inl (hw _ (List.mem_of_getElem? (i := 34) rfl))) (ty := .int) (by decide)
  have F12_first : Fld Z h12 b12 "com/example/enumconv/enumconv/core/Decimal$Reading" "first" "I" (.int (0 : Int32)) := D12 (Or.inl (hw _ (List.mem_of_getElem? (i := 36) rfl))) (ty := .int) (by decide)
  have F12_last : Fld Z h12 b12 "com/example/enumconv/enumconv/core/Decimal$Reading" "last" "I" (.int (0 : Int32)) := D12 (Or.inl (hw _ (List.mem_of_getElem? (i := 42) rfl))) (ty := .int) (by decide)
  have F12_exponentAt : Fld Z h12 b12 "com/example/enumconv/enumconv/core/Decimal$Reading" "exponentAt" "I" (.int (0 : Int32)) := D12 (Or.inl (hw _ (List.mem_of_getElem? (i := 48) rfl))) (ty := .int) (by decide)
  have F12_negativeExponent : Fld Z h12 b12 "com/example/enumconv/enumconv/core/Decimal$Reading" "negativeExponent" "Z" (.int (0 : Int32)) := D12 (Or.inl (hw _ (List.mem_of_getElem? (i := 50) rfl))) (ty := .boolean) (by decide)
  refine own_by (T' := T12) (g' := (mkF m 61 #[.val (.long xx), .second, .val (.long yy), .second, .val (.int j1), .val (.int m1), .val (.int j2), .val (.int m2), .val (.ref t1), .val (.ref t2), .val (.int o1), .val (.int l1), .val (.int o2), .val (.int l2), .unset, .unset] [(.ref b12)])) st12 ?_
  refine own_by (T' := T12) (g' := (mkF m 62 #[.val (.long xx), .second, .val (.long yy), .second, .val (.int j1), .val (.int m1), .val (.int j2), .val (.int m2), .val (.ref t1), .val (.ref t2), .val (.int o1), .val (.int l1), .val (.int o2), .val (.int l2), .unset, .unset] [(.ref b12), (.ref b12)])) (fun t_ k_ => XS.dup X12.here hx rfl (hb hby at_61) rfl rfl k_) ?_
  obtain ⟨_, T21, L21, X21, hQ21, st21⟩ := own_callI X12 hx hZ (y := (⟨"com/example/enumconv/enumconv/core/Decimal$Reading", "<init>", "()V"⟩ : MethodName)) rfl hown (hw _ (List.mem_of_getElem? (i := 10) rfl)) (hw _ (List.mem_of_getElem? (i := 11) rfl)) (hw _ (List.mem_of_getElem? (i := 9) rfl)) (hw _ (List.mem_of_getElem? (i := 12) rfl)) (by decide) (argsL := []) (rest := [(.ref b12)]) (own_rm_ini l Z a0 hw [] b12  h12 n0 f15 ) e12 (W := 1) (by decide) (by decide) (by decide) (by decide) (g := (mkF m 62 #[.val (.long xx), .second, .val (.long yy), .second, .val (.int j1), .val (.int m1), .val (.int j2), .val (.int m2), .val (.ref t1), .val (.ref t2), .val (.int o1), .val (.int l1), .val (.int o2), .val (.int l2), .unset, .unset] [(.ref b12), (.ref b12)])) rfl (by rw [hml]; rfl) (lenOf own_pd16 rfl) rfl (by show 2 * 0 + _ ≤ _; exact Nat.le_of_eq rfl) (hb hby at_62)
  obtain ⟨rfl, Nq21, e21⟩ := hQ21
  have N21 := Fr.app N6 Nq21
  refine st21 _ ?_
  show own_Goes p e below _ T21 (mkF m 65 #[.val (.long xx), .second, .val (.long yy), .second, .val (.int j1), .val (.int m1), .val (.int j2), .val (.int m2), .val (.ref t1), .val (.ref t2), .val (.int o1), .val (.int l1), .val (.int o2), .val (.int l2), .unset, .unset] [(.ref b12)])
  refine own_by (T' := T21) (g' := (mkF m 67 #[.val (.long xx), .second, .val (.long yy), .second, .val (.int j1), .val (.int m1), .val (.int j2), .val (.int m2), .val (.ref t1), .val (.ref t2), .val (.int o1), .val (.int l1), .val (.int o2), .val (.int l2), .val (.ref b12), .unset] [])) (fun t_ k_ => XS.astore X21.here hx rfl (hb hby at_65) rfl rfl (l' := #[.val (.long xx), .second, .val (.long yy), .second, .val (.int j1), .val (.int m1), .val (.int j2), .val (.int m2), .val (.ref t1), .val (.ref t2), .val (.int o1), .val (.int l1), .val (.int o2), .val (.int l2), .val (.ref b12), .unset]) rfl k_) ?_
  refine own_by (T' := T21) (g' := (mkF m 69 #[.val (.long xx), .second, .val (.long yy), .second, .val (.int j1), .val (.int m1), .val (.int j2), .val (.int m2), .val (.ref t1), .val (.ref t2), .val (.int o1), .val (.int l1), .val (.int o2), .val (.int l2), .val (.ref b12), .unset] [(.ref b12)])) (fun t_ k_ => XS.aload X21.here hx rfl (hb hby at_67) rfl rfl k_) ?_
  refine own_by (T' := T21) (g' := (mkF m 71 #[.val (.long xx), .second, .val (.long yy), .second, .val (.int j1), .val (.int m1), .val (.int j2), .val (.int m2), .val (.ref t1), .val (.ref t2), .val (.int o1), .val (.int l1), .val (.int o2), .val (.int l2), .val (.ref b12), .unset] [(.ref t1), (.ref b12)])) (fun t_ k_ => XS.aload X21.here hx rfl (hb hby at_69) rfl rfl k_) ?_
  refine own_by (T' := T21) (g' := (mkF m 73 #[.val (.long xx), .second, .val (.long yy), .second, .val (.int j1), .val (.int m1), .val (.int j2), .val (.int m2), .val (.ref t1), .val (.ref t2), .val (.int o1), .val (.int l1), .val (.int o2), .val (.int l2), .val (.ref b12), .unset] [(.int o1), (.ref t1), (.ref b12)])) (fun t_ k_ => XS.iload X21.here hx rfl (hb hby at_71) rfl k_) ?_
  refine own_by (T' := T21) (g' := (mkF m 75 #[.val (.long xx), .second, .val (.long yy), .second, .val (.int j1), .val (.int m1), .val (.int j2), .val (.int m2), .val (.ref t1), .val (.ref t2), .val (.int o1), .val (.int l1), .val (.int o2), .val (.int l2), .val (.ref b12), .unset] [(.int l1), (.int o1), (.ref t1), (.ref b12)])) (fun t_ k_ => XS.iload X21.here hx rfl (hb hby at_73) rfl k_) ?_
  obtain ⟨_, T22, L22, X22, hQ22, st22⟩ := own_callV X21 hx hZ (y := (⟨"com/example/enumconv/enumconv/core/Decimal$Reading", "read", "([CII)Lcom/example/enumconv/enumconv/core/Decimal$Reading;"⟩ : MethodName)) hown (hw _ (List.mem_of_getElem? (i := 16) rfl)) (hw _ (List.mem_of_getElem? (i := 17) rfl)) (hw _ (List.mem_of_getElem? (i := 19) rfl)) (hw _ (List.mem_of_getElem? (i := 18) rfl)) (hw _ (List.mem_of_getElem? (i := 9) rfl)) (hw _ (List.mem_of_getElem? (i := 20) rfl)) (by decide) (argsL := [(.ref t1), (.int o1), (.int l1)]) (rest := []) A12 (own_rm_read l Z a0 hw [] b12 t1 o1 l1 tf1 .null (0 : Int32) (0 : Int32) (0 : Int32) (0 : Int32) (0 : Int32) (0 : Int32) (0 : Int32) (0 : Int32) (0 : Int32) (0 : Int32) h12 n0 f15 A12 g_b12 f19 ne13 p1.1 p1.2.1 p1.2.2 F12_text F12_start F12_stop F12_negative F12_digitsAt F12_end F12_point F12_first F12_last F12_exponentAt F12_negativeExponent) e21 (W := 0) (by decide) (by decide) (by decide) (by decide) (g := (mkF m 75 #[.val (.long xx), .second, .val (.long yy), .second, .val (.int j1), .val (.int m1), .val (.int j2), .val (.int m2), .val (.ref t1), .val (.ref t2), .val (.int o1), .val (.int l1), .val (.int o2), .val (.int l2), .val (.ref b12), .unset] [(.int l1), (.int o1), (.ref t1), (.ref b12)])) rfl (by rw [hml]; rfl) (lenOf own_pd17 rfl) rfl (by show 2 * 0 + _ ≤ _; exact Nat.le_of_eq rfl) (hb hby at_75)
  obtain ⟨q22_1, q22_2, q22_3, q22_4, q22_5, q22_6, q22_7, q22_8, rfl, Nq22, Kq22, Eq22, Fq22_0, Fq22_1, Fq22_2, Fq22_3, Fq22_4, Fq22_5, Fq22_6, Fq22_7, Fq22_8, Fq22_9, Fq22_10, hR22⟩ := hQ22
  have N22 := Fr.app N21 Nq22
  have f23 := own_Sta_keep f16 Kq22 (allS (fun cell hc => by obtain ⟨c1, _, h1, -, -, h4, -⟩ := A12; cases h1.symm.trans hc; exact h4) all0)
  have f24 := own_Sta_keep f17 Kq22 (allS (fun cell hc => by obtain ⟨c1, _, h1, -, -, h4, -⟩ := A12; cases h1.symm.trans hc; exact h4) all0)
  have f25 := Nat.le_trans f15 Kq22.1
  have f26 := Keep.trans f18 Kq22 (allS (Or.inr k_b12) all0)
  have f27 := own_Ia_keep Kq22 f19 (ninS ne13 nin0)
  have f28 := own_Ia_keep Kq22 f20 (ninS ne14 nin0)
  have f29 := Exa.keep A12 Kq22
  refine st22 _ ?_
  show own_Goes p e below _ T22 (mkF m 78 #[.val (.long xx), .second, .val (.long yy), .second, .val (.int j1), .val (.int m1), .val (.int j2), .val (.int m2), .val (.ref t1), .val (.ref t2), .val (.int o1), .val (.int l1), .val (.int o2), .val (.int l2), .val (.ref b12), .unset] [(.ref b12)])
  refine own_by (T' := T22) (g' := (mkF m 79 #[.val (.long xx), .second, .val (.long yy), .second, .val (.int j1), .val (.int m1), .val (.int j2), .val (.int m2), .val (.ref t1), .val (.ref t2), .val (.int o1), .val (.int l1), .val (.int o2), .val (.int l2), .val (.ref b12), .unset] [])) (fun t_ k_ => XS.pop X22.here hx rfl (hb hby at_78) rfl rfl k_) ?_
  refine own_by (T' := T22) (g' := (mkF m 81 #[.val (.long xx), .second, .val (.long yy), .second, .val (.int j1), .val (.int m1), .val (.int j2), .val (.int m2), .val (.ref t1), .val (.ref t2), .val (.int o1), .val (.int l1), .val (.int o2), .val (.int l2), .val (.ref b12), .unset] [(.ref b12)])) (fun t_ k_ => XS.aload X22.here hx rfl (hb hby at_79) rfl rfl k_) ?_
  refine own_by (T' := T22) (g' := (mkF m 83 #[.val (.long xx), .second, .val (.long yy), .second, .val (.int j1), .val (.int m1), .val (.int j2), .val (.int m2), .val (.ref t1), .val (.ref t2), .val (.int o1), .val (.int l1), .val (.int o2), .val (.int l2), .val (.ref b12), .unset] [(.ref t2), (.ref b12)])) (fun t_ k_ => XS.aload X22.here hx rfl (hb hby at_81) rfl rfl k_) ?_
  refine own_by (T' := T22) (g' := (mkF m 85 #[.val (.long xx), .second, .val (.long yy), .second, .val (.int j1), .val (.int m1), .val (.int j2), .val (.int m2), .val (.ref t1), .val (.ref t2), .val (.int o1), .val (.int l1), .val (.int o2), .val (.int l2), .val (.ref b12), .unset] [(.int o2), (.ref t2), (.ref b12)])) (fun t_ k_ => XS.iload X22.here hx rfl (hb hby at_83) rfl k_) ?_
  refine own_by (T' := T22) (g' := (mkF m 87 #[.val (.long xx), .second, .val (.long yy), .second, .val (.int j1), .val (.int m1), .val (.int j2), .val (.int m2), .val (.ref t1), .val (.ref t2), .val (.int o1), .val (.int l1), .val (.int o2), .val (.int l2), .val (.ref b12), .unset] [(.int l2), (.int o2), (.ref t2), (.ref b12)])) (fun t_ k_ => XS.iload X22.here hx rfl (hb hby at_85) rfl k_) ?_
  obtain ⟨_, T30, L30, X30, hQ30, st30⟩ := own_callV X22 hx hZ (y := (⟨"com/example/enumconv/enumconv/core/Decimal$Reading", "read", "([CII)Lcom/example/enumconv/enumconv/core/Decimal$Reading;"⟩ : MethodName)) hown (hw _ (List.mem_of_getElem? (i := 16) rfl)) (hw _ (List.mem_of_getElem? (i := 17) rfl)) (hw _ (List.mem_of_getElem? (i := 19) rfl)) (hw _ (List.mem_of_getElem? (i := 18) rfl)) (hw _ (List.mem_of_getElem? (i := 9) rfl)) (hw _ (List.mem_of_getElem? (i := 20) rfl)) (by decide) (argsL := [(.ref t2), (.int o2), (.int l2)]) (rest := []) f29 (own_rm_read l Z a0 hw [] b12 t2 o2 l2 tf2 (.ref t1) o1 (o1 + l1) q22_1 q22_2 q22_3 q22_4 q22_5 q22_6 q22_7 q22_8 T22.heap n0 f25 f29 g_b12 f28 ne14 p2.1 p2.2.1 p2.2.2 Fq22_0 Fq22_1 Fq22_2 Fq22_3 Fq22_4 Fq22_5 Fq22_6 Fq22_7 Fq22_8 Fq22_9 Fq22_10) rfl (W := 0) (by decide) (by decide) (by decide) (by decide) (g := (mkF m 87 #[.val (.long xx), .second, .val (.long yy), .second, .val (.int j1), .val (.int m1), .val (.int j2), .val (.int m2), .val (.ref t1), .val (.ref t2), .val (.int o1), .val (.int l1), .val (.int o2), .val (.int l2), .val (.ref b12), .unset] [(.int l2), (.int o2), (.ref t2), (.ref b12)])) rfl (by rw [hml]; rfl) (lenOf own_pd17 rfl) rfl (by show 2 * 0 + _ ≤ _; exact Nat.le_of_eq rfl) (hb hby at_87)
  obtain ⟨q30_1, q30_2, q30_3, q30_4, q30_5, q30_6, q30_7, q30_8, rfl, Nq30, Kq30, Eq30, Fq30_0, Fq30_1, Fq30_2, Fq30_3, Fq30_4, Fq30_5, Fq30_6, Fq30_7, Fq30_8, Fq30_9, Fq30_10, hR30⟩ := hQ30
  have N30 := Fr.app N22 Nq30
  have f31 := own_Sta_keep f23 Kq30 (allS (fun cell hc => by obtain ⟨c1, _, h1, -, -, h4, -⟩ := f29; cases h1.symm.trans hc; exact h4) all0)
  have f32 := own_Sta_keep f24 Kq30 (allS (fun cell hc => by obtain ⟨c1, _, h1, -, -, h4, -⟩ := f29; cases h1.symm.trans hc; exact h4) all0)
  have f33 := Nat.le_trans f25 Kq30.1
  have f34 := Keep.trans f26 Kq30 (allS (Or.inr k_b12) all0)
  have f35 := own_Ia_keep Kq30 f27 (ninS ne13 nin0)
  have f36 := own_Ia_keep Kq30 f28 (ninS ne14 nin0)
  have f37 := Exa.keep f29 Kq30
  refine st30 _ ?_
  show own_Goes p e below _ T30 (mkF m 90 #[.val (.long xx), .second, .val (.long yy), .second, .val (.int j1), .val (.int m1), .val (.int j2), .val (.int m2), .val (.ref t1), .val (.ref t2), .val (.int o1), .val (.int l1), .val (.int o2), .val (.int l2), .val (.ref b12), .unset] [(.ref b12)])
  obtain ⟨_, T38, L38, X38, hS38, hZ, hown, hQ38, st38⟩ := own_callVS X30 hx hZ hI (y := (⟨"com/example/enumconv/enumconv/core/Decimal$Reading", "toString", "()Ljava/lang/String;"⟩ : MethodName)) hown (hw _ (List.mem_of_getElem? (i := 51) rfl)) (hw _ (List.mem_of_getElem? (i := 52) rfl)) (hw _ (List.mem_of_getElem? (i := 54) rfl)) (hw _ (List.mem_of_getElem? (i := 53) rfl)) (hw _ (List.mem_of_getElem? (i := 9) rfl)) (hw _ (List.mem_of_getElem? (i := 55) rfl)) (by decide) (argsL := []) (rest := []) f37 (own_rm_ts l Z a0 hw [] b12 t2 o2 l2 tf2 cs fm T30.heap n0 f33 Fq30_0 Fq30_1 Fq30_2 f37 f36 p2.1 p2.2.1 p2.2.2 hf2 f31 hcs (own_kold hold f34) hcst hcw f32 hfm) rfl (W := 0) (by decide) (by decide) (by decide) (by decide) (g := (mkF m 90 #[.val (.long xx), .second, .val (.long yy), .second, .val (.int j1), .val (.int m1), .val (.int j2), .val (.int m2), .val (.ref t1), .val (.ref t2), .val (.int o1), .val (.int l1), .val (.int o2), .val (.int l2), .val (.ref b12), .unset] [(.ref b12)])) rfl (by rw [hml]; rfl) (lenOf own_pd18 rfl) rfl (by show 2 * 0 + _ ≤ _; exact Nat.le_of_eq rfl) (hb hby at_90)
  obtain ⟨sx, bx, g, rfl, Nq38, Kq38, Ex_, Fcx, Fvx, Vx, hg⟩ := hQ38
  have N38 := Fr.app N30 Nq38
  have f39 := own_Sta_keep f31 Kq38 all0
  have f40 := own_Sta_keep f32 Kq38 all0
  have f41 := Nat.le_trans f33 Kq38.1
  have f42 := Keep.trans f34 Kq38 all0
  have f43 := own_Ia_keep Kq38 f35 nin0
  have f44 := own_Ia_keep Kq38 f36 nin0
  have f45 := Exa.keep f37 Kq38
  have f46 := Fld.keep Fq30_0 Kq38 nin0
  have f47 := Fld.keep Fq30_1 Kq38 nin0
  have f48 := Fld.keep Fq30_2 Kq38 nin0
  have f49 := Fld.keep Fq30_3 Kq38 nin0
  have f50 := Fld.keep Fq30_4 Kq38 nin0
  have f51 := Fld.keep Fq30_5 Kq38 nin0
  have f52 := Fld.keep Fq30_6 Kq38 nin0
  have f53 := Fld.keep Fq30_7 Kq38 nin0
  have f54 := Fld.keep Fq30_8 Kq38 nin0
  have f55 := Fld.keep Fq30_9 Kq38 nin0
  have f56 := Fld.keep Fq30_10 Kq38 nin0
  refine st38 _ ?_
  show own_Goes p e below _ T38 (mkF m 93 #[.val (.long xx), .second, .val (.long yy), .second, .val (.int j1), .val (.int m1), .val (.int j2), .val (.int m2), .val (.ref t1), .val (.ref t2), .val (.int o1), .val (.int l1), .val (.int o2), .val (.int l2), .val (.ref b12), .unset] [(.ref sx)])
  refine own_by (T' := T38) (g' := (mkF m 95 #[.val (.long xx), .second, .val (.long yy), .second, .val (.int j1), .val (.int m1), .val (.int j2), .val (.int m2), .val (.ref t1), .val (.ref t2), .val (.int o1), .val (.int l1), .val (.int o2), .val (.int l2), .val (.ref b12), .val (.ref sx)] [])) (fun t_ k_ => XS.astore X38.here hx rfl (hb hby at_93) rfl rfl (l' := #[.val (.long xx), .second, .val (.long yy), .second, .val (.int j1), .val (.int m1), .val (.int j2), .val (.int m2), .val (.ref t1), .val (.ref t2), .val (.int o1), .val (.int l1), .val (.int o2), .val (.int l2), .val (.ref b12), .val (.ref sx)]) rfl k_) ?_
  refine own_by (T' := T38) (g' := (mkF m 97 #[.val (.long xx), .second, .val (.long yy), .second, .val (.int j1), .val (.int m1), .val (.int j2), .val (.int m2), .val (.ref t1), .val (.ref t2), .val (.int o1), .val (.int l1), .val (.int o2), .val (.int l2), .val (.ref b12), .val (.ref sx)] [(.ref sx)])) (fun t_ k_ => XS.aload X38.here hx rfl (hb hby at_95) rfl rfl k_) ?_
  obtain ⟨_, T57, L57, X57, hQ57, st57⟩ := own_callV X38 hx hZ (y := (⟨"java/lang/String", "length", "()I"⟩ : MethodName)) hown (hw _ (List.mem_of_getElem? (i := 94) rfl)) (hw _ (List.mem_of_getElem? (i := 95) rfl)) (hw _ (List.mem_of_getElem? (i := 97) rfl)) (hw _ (List.mem_of_getElem? (i := 96) rfl)) (hw _ (List.mem_of_getElem? (i := 58) rfl)) (hw _ (List.mem_of_getElem? (i := 98) rfl)) (by decide) (argsL := []) (rest := []) Ex_ (own_rm_leng l Z a0 hw [] sx bx l2 g cs T38.heap n0 f41 Ex_ Fcx Fvx Vx f39 hcs p2.2.1) rfl (W := 0) (by decide) (by decide) (by decide) (by decide) (g := (mkF m 97 #[.val (.long xx), .second, .val (.long yy), .second, .val (.int j1), .val (.int m1), .val (.int j2), .val (.int m2), .val (.ref t1), .val (.ref t2), .val (.int o1), .val (.int l1), .val (.int o2), .val (.int l2), .val (.ref b12), .val (.ref sx)] [(.ref sx)])) rfl (by rw [hml]; rfl) (lenOf own_pd19 rfl) rfl (by show 2 * 0 + _ ≤ _; exact Nat.le_of_eq rfl) (hb hby at_97)
  obtain ⟨rfl, Nq57, e57⟩ := hQ57
  have N57 := Fr.app N38 Nq57
  refine st57 _ ?_
  show own_Goes p e below _ T57 (mkF m 100 #[.val (.long xx), .second, .val (.long yy), .second, .val (.int j1), .val (.int m1), .val (.int j2), .val (.int m2), .val (.ref t1), .val (.ref t2), .val (.int o1), .val (.int l1), .val (.int o2), .val (.int l2), .val (.ref b12), .val (.ref sx)] [(.int l2)])
  refine own_by (T' := T57) (g' := (mkF m 102 #[.val (.long xx), .second, .val (.long yy), .second, .val (.int j1), .val (.int m1), .val (.int j2), .val (.int m2), .val (.ref t1), .val (.ref t2), .val (.int o1), .val (.int l1), .val (.int o2), .val (.int l2), .val (.ref b12), .val (.ref sx)] [(.int l2), (.int l2)])) (fun t_ k_ => XS.iload X57.here hx rfl (hb hby at_100) rfl k_) ?_
  refine own_by (T' := T57) (g' := (mkF m 105 #[.val (.long xx), .second, .val (.long yy), .second, .val (.int j1), .val (.int m1), .val (.int j2), .val (.int m2), .val (.ref t1), .val (.ref t2), .val (.int o1), .val (.int l1), .val (.int o2), .val (.int l2), .val (.ref b12), .val (.ref sx)] [])) (fun t_ k_ => XS.icmpNo X57.here hx rfl (hb hby at_102) rfl (teq (rfl : l2 = l2)).2 k_) ?_
  refine own_by (T' := T57) (g' := (mkF m 107 #[.val (.long xx), .second, .val (.long yy), .second, .val (.int j1), .val (.int m1), .val (.int j2), .val (.int m2), .val (.ref t1), .val (.ref t2), .val (.int o1), .val (.int l1), .val (.int o2), .val (.int l2), .val (.ref b12), .val (.ref sx)] [(.ref sx)])) (fun t_ k_ => XS.aload X57.here hx rfl (hb hby at_105) rfl rfl k_) ?_
  refine own_by (T' := T57) (g' := (mkF m 109 #[.val (.long xx), .second, .val (.long yy), .second, .val (.int j1), .val (.int m1), .val (.int j2), .val (.int m2), .val (.ref t1), .val (.ref t2), .val (.int o1), .val (.int l1), .val (.int o2), .val (.int l2), .val (.ref b12), .val (.ref sx)] [(.ref t2), (.ref sx)])) (fun t_ k_ => XS.aload X57.here hx rfl (hb hby at_107) rfl rfl k_) ?_
  refine own_by (T' := T57) (g' := (mkF m 111 #[.val (.long xx), .second, .val (.long yy), .second, .val (.int j1), .val (.int m1), .val (.int j2), .val (.int m2), .val (.ref t1), .val (.ref t2), .val (.int o1), .val (.int l1), .val (.int o2), .val (.int l2), .val (.ref b12), .val (.ref sx)] [(.int o2), (.ref t2), (.ref sx)])) (fun t_ k_ => XS.iload X57.here hx rfl (hb hby at_109) rfl k_) ?_
  refine own_by (T' := T57) (g' := (mkF m 113 #[.val (.long xx), .second, .val (.long yy), .second, .val (.int j1), .val (.int m1), .val (.int j2), .val (.int m2), .val (.ref t1), .val (.ref t2), .val (.int o1), .val (.int l1), .val (.int o2), .val (.int l2), .val (.ref b12), .val (.ref sx)] [(.int l2), (.int o2), (.ref t2), (.ref sx)])) (fun t_ k_ => XS.iload X57.here hx rfl (hb hby at_111) rfl k_) ?_
  refine own_by (T' := T57) (g' := (mkF m 114 #[.val (.long xx), .second, .val (.long yy), .second, .val (.int j1), .val (.int m1), .val (.int j2), .val (.int m2), .val (.ref t1), .val (.ref t2), .val (.int o1), .val (.int l1), .val (.int o2), .val (.int l2), .val (.ref b12), .val (.ref sx)] [(.int (0 : Int32)), (.int l2), (.int o2), (.ref t2), (.ref sx)])) (fun t_ k_ => XS.iconst X57.here hx rfl (hb hby at_113) k_) ?_
  obtain ⟨_, T58, L58, X58, hQ58, st58⟩ := own_callS X57 hx hZ (y := (⟨"com/example/enumconv/enumconv/core/ReadingToStringPinLaw", "same", "(Ljava/lang/String;[CIII)Z"⟩ : MethodName)) hown (hw _ (List.mem_of_getElem? (i := 104) rfl)) (hw _ (List.mem_of_getElem? (i := 105) rfl)) (hw _ (List.mem_of_getElem? (i := 2) rfl)) (hw _ (List.mem_of_getElem? (i := 106) rfl)) (by decide) (argsL := [(.ref sx), (.ref t2), (.int o2), (.int l2), (.int (0 : Int32))]) (rest := []) (own_rm_sm0 l Z a0 hw [] sx t2 o2 l2 bx g tf2 cs fm T38.heap n0 f41 Ex_ Fcx Fvx Vx f44 f39 hcs f40 hfm p2.1 p2.2.1 p2.2.2 hf2 hg) e57 (W := 0) (by decide) (by decide) (by decide) (by decide) (g := (mkF m 114 #[.val (.long xx), .second, .val (.long yy), .second, .val (.int j1), .val (.int m1), .val (.int j2), .val (.int m2), .val (.ref t1), .val (.ref t2), .val (.int o1), .val (.int l1), .val (.int o2), .val (.int l2), .val (.ref b12), .val (.ref sx)] [(.int (0 : Int32)), (.int l2), (.int o2), (.ref t2), (.ref sx)])) rfl (by rw [hml]; rfl) (lenOf own_pd20 rfl) rfl (by show 2 * 0 + _ ≤ _; exact Nat.le_of_eq rfl) (hb hby at_114)
  obtain ⟨rfl, Nq58, e58⟩ := hQ58
  have N58 := Fr.app N57 Nq58
  refine st58 _ ?_
  show own_Goes p e below _ T58 (mkF m 117 #[.val (.long xx), .second, .val (.long yy), .second, .val (.int j1), .val (.int m1), .val (.int j2), .val (.int m2), .val (.ref t1), .val (.ref t2), .val (.int o1), .val (.int l1), .val (.int o2), .val (.int l2), .val (.ref b12), .val (.ref sx)] [(.int (1 : Int32))])
  refine own_by (T' := T58) (g' := (mkF m 120 #[.val (.long xx), .second, .val (.long yy), .second, .val (.int j1), .val (.int m1), .val (.int j2), .val (.int m2), .val (.ref t1), .val (.ref t2), .val (.int o1), .val (.int l1), .val (.int o2), .val (.int l2), .val (.ref b12), .val (.ref sx)] [])) (fun t_ k_ => XS.ifNo X58.here hx rfl (hb hby at_117) rfl ((if0 _ _).trans (feq ((by decide) : ¬ ((1 : Int32) = (0 : Int32)))).1) k_) ?_
  refine own_by (T' := T58) (g' := (mkF m 122 #[.val (.long xx), .second, .val (.long yy), .second, .val (.int j1), .val (.int m1), .val (.int j2), .val (.int m2), .val (.ref t1), .val (.ref t2), .val (.int o1), .val (.int l1), .val (.int o2), .val (.int l2), .val (.ref b12), .val (.ref sx)] [(.ref sx)])) (fun t_ k_ => XS.aload X58.here hx rfl (hb hby at_120) rfl rfl k_) ?_
  refine own_by (T' := T58) (g' := (mkF m 124 #[.val (.long xx), .second, .val (.long yy), .second, .val (.int j1), .val (.int m1), .val (.int j2), .val (.int m2), .val (.ref t1), .val (.ref t2), .val (.int o1), .val (.int l1), .val (.int o2), .val (.int l2), .val (.ref b12), .val (.ref sx)] [(.ref t2), (.ref sx)])) (fun t_ k_ => XS.aload X58.here hx rfl (hb hby at_122) rfl rfl k_) ?_
  refine own_by (T' := T58) (g' := (mkF m 126 #[.val (.long xx), .second, .val (.long yy), .second, .val (.int j1), .val (.int m1), .val (.int j2), .val (.int m2), .val (.ref t1), .val (.ref t2), .val (.int o1), .val (.int l1), .val (.int o2), .val (.int l2), .val (.ref b12), .val (.ref sx)] [(.int o2), (.ref t2), (.ref sx)])) (fun t_ k_ => XS.iload X58.here hx rfl (hb hby at_124) rfl k_) ?_
  refine own_by (T' := T58) (g' := (mkF m 128 #[.val (.long xx), .second, .val (.long yy), .second, .val (.int j1), .val (.int m1), .val (.int j2), .val (.int m2), .val (.ref t1), .val (.ref t2), .val (.int o1), .val (.int l1), .val (.int o2), .val (.int l2), .val (.ref b12), .val (.ref sx)] [(.int l2), (.int o2), (.ref t2), (.ref sx)])) (fun t_ k_ => XS.iload X58.here hx rfl (hb hby at_126) rfl k_) ?_
  refine own_by (T' := T58) (g' := (mkF m 129 #[.val (.long xx), .second, .val (.long yy), .second, .val (.int j1), .val (.int m1), .val (.int j2), .val (.int m2), .val (.ref t1), .val (.ref t2), .val (.int o1), .val (.int l1), .val (.int o2), .val (.int l2), .val (.ref b12), .val (.ref sx)] [(.int (1 : Int32)), (.int l2), (.int o2), (.ref t2), (.ref sx)])) (fun t_ k_ => XS.iconst X58.here hx rfl (hb hby at_128) k_) ?_
  obtain ⟨_, T59, L59, X59, hQ59, st59⟩ := own_callS X58 hx hZ (y := (⟨"com/example/enumconv/enumconv/core/ReadingToStringPinLaw", "same", "(Ljava/lang/String;[CIII)Z"⟩ : MethodName)) hown (hw _ (List.mem_of_getElem? (i := 104) rfl)) (hw _ (List.mem_of_getElem? (i := 105) rfl)) (hw _ (List.mem_of_getElem? (i := 2) rfl)) (hw _ (List.mem_of_getElem? (i := 106) rfl)) (by decide) (argsL := [(.ref sx), (.ref t2), (.int o2), (.int l2), (.int (1 : Int32))]) (rest := []) (own_rm_sm1 l Z a0 hw [] sx t2 o2 l2 bx g tf2 cs fm T38.heap n0 f41 Ex_ Fcx Fvx Vx f44 f39 hcs f40 hfm p2.1 p2.2.1 p2.2.2 hf2 hg) e58 (W := 0) (by decide) (by decide) (by decide) (by decide) (g := (mkF m 129 #[.val (.long xx), .second, .val (.long yy), .second, .val (.int j1), .val (.int m1), .val (.int j2), .val (.int m2), .val (.ref t1), .val (.ref t2), .val (.int o1), .val (.int l1), .val (.int o2), .val (.int l2), .val (.ref b12), .val (.ref sx)] [(.int (1 : Int32)), (.int l2), (.int o2), (.ref t2), (.ref sx)])) rfl (by rw [hml]; rfl) (lenOf own_pd20 rfl) rfl (by show 2 * 0 + _ ≤ _; exact Nat.le_of_eq rfl) (hb hby at_129)
  obtain ⟨rfl, Nq59, e59⟩ := hQ59
  have N59 := Fr.app N58 Nq59
  refine st59 _ ?_
  show own_Goes p e below _ T59 (mkF m 132 #[.val (.long xx), .second, .val (.long yy), .second, .val (.int j1), .val (.int m1), .val (.int j2), .val (.int m2), .val (.ref t1), .val (.ref t2), .val (.int o1), .val (.int l1), .val (.int o2), .val (.int l2), .val (.ref b12), .val (.ref sx)] [(.int (1 : Int32))])
  refine own_by (T' := T59) (g' := (mkF m 135 #[.val (.long xx), .second, .val (.long yy), .second, .val (.int j1), .val (.int m1), .val (.int j2), .val (.int m2), .val (.ref t1), .val (.ref t2), .val (.int o1), .val (.int l1), .val (.int o2), .val (.int l2), .val (.ref b12), .val (.ref sx)] [])) (fun t_ k_ => XS.ifNo X59.here hx rfl (hb hby at_132) rfl ((if0 _ _).trans (feq ((by decide) : ¬ ((1 : Int32) = (0 : Int32)))).1) k_) ?_
  refine own_by (T' := T59) (g' := (mkF m 137 #[.val (.long xx), .second, .val (.long yy), .second, .val (.int j1), .val (.int m1), .val (.int j2), .val (.int m2), .val (.ref t1), .val (.ref t2), .val (.int o1), .val (.int l1), .val (.int o2), .val (.int l2), .val (.ref b12), .val (.ref sx)] [(.ref sx)])) (fun t_ k_ => XS.aload X59.here hx rfl (hb hby at_135) rfl rfl k_) ?_
  refine own_by (T' := T59) (g' := (mkF m 139 #[.val (.long xx), .second, .val (.long yy), .second, .val (.int j1), .val (.int m1), .val (.int j2), .val (.int m2), .val (.ref t1), .val (.ref t2), .val (.int o1), .val (.int l1), .val (.int o2), .val (.int l2), .val (.ref b12), .val (.ref sx)] [(.ref t2), (.ref sx)])) (fun t_ k_ => XS.aload X59.here hx rfl (hb hby at_137) rfl rfl k_) ?_
  refine own_by (T' := T59) (g' := (mkF m 141 #[.val (.long xx), .second, .val (.long yy), .second, .val (.int j1), .val (.int m1), .val (.int j2), .val (.int m2), .val (.ref t1), .val (.ref t2), .val (.int o1), .val (.int l1), .val (.int o2), .val (.int l2), .val (.ref b12), .val (.ref sx)] [(.int o2), (.ref t2), (.ref sx)])) (fun t_ k_ => XS.iload X59.here hx rfl (hb hby at_139) rfl k_) ?_
  refine own_by (T' := T59) (g' := (mkF m 143 #[.val (.long xx), .second, .val (.long yy), .second, .val (.int j1), .val (.int m1), .val (.int j2), .val (.int m2), .val (.ref t1), .val (.ref t2), .val (.int o1), .val (.int l1), .val (.int o2), .val (.int l2), .val (.ref b12), .val (.ref sx)] [(.int l2), (.int o2), (.ref t2), (.ref sx)])) (fun t_ k_ => XS.iload X59.here hx rfl (hb hby at_141) rfl k_) ?_
  refine own_by (T' := T59) (g' := (mkF m 144 #[.val (.long xx), .second, .val (.long yy), .second, .val (.int j1), .val (.int m1), .val (.int j2), .val (.int m2), .val (.ref t1), .val (.ref t2), .val (.int o1), .val (.int l1), .val (.int o2), .val (.int l2), .val (.ref b12), .val (.ref sx)] [(.int (2 : Int32)), (.int l2), (.int o2), (.ref t2), (.ref sx)])) (fun t_ k_ => XS.iconst X59.here hx rfl (hb hby at_143) k_) ?_
  obtain ⟨_, T60, L60, X60, hQ60, st60⟩ := own_callS X59 hx hZ (y := (⟨"com/example/enumconv/enumconv/core/ReadingToStringPinLaw", "same", "(Ljava/lang/String;[CIII)Z"⟩ : MethodName)) hown (hw _ (List.mem_of_getElem? (i := 104) rfl)) (hw _ (List.mem_of_getElem? (i := 105) rfl)) (hw _ (List.mem_of_getElem? (i := 2) rfl)) (hw _ (List.mem_of_getElem? (i := 106) rfl)) (by decide) (argsL := [(.ref sx), (.ref t2), (.int o2), (.int l2), (.int (2 : Int32))]) (rest := []) (own_rm_sm2 l Z a0 hw [] sx t2 o2 l2 bx g tf2 cs fm T38.heap n0 f41 Ex_ Fcx Fvx Vx f44 f39 hcs f40 hfm p2.1 p2.2.1 p2.2.2 hf2 hg) e59 (W := 0) (by decide) (by decide) (by decide) (by decide) (g := (mkF m 144 #[.val (.long xx), .second, .val (.long yy), .second, .val (.int j1), .val (.int m1), .val (.int j2), .val (.int m2), .val (.ref t1), .val (.ref t2), .val (.int o1), .val (.int l1), .val (.int o2), .val (.int l2), .val (.ref b12), .val (.ref sx)] [(.int (2 : Int32)), (.int l2), (.int o2), (.ref t2), (.ref sx)])) rfl (by rw [hml]; rfl) (lenOf own_pd20 rfl) rfl (by show 2 * 0 + _ ≤ _; exact Nat.le_of_eq rfl) (hb hby at_144)
  obtain ⟨rfl, Nq60, e60⟩ := hQ60
  have N60 := Fr.app N59 Nq60
  refine st60 _ ?_
  show own_Goes p e below _ T60 (mkF m 147 #[.val (.long xx), .second, .val (.long yy), .second, .val (.int j1), .val (.int m1), .val (.int j2), .val (.int m2), .val (.ref t1), .val (.ref t2), .val (.int o1), .val (.int l1), .val (.int o2), .val (.int l2), .val (.ref b12), .val (.ref sx)] [(.int (1 : Int32))])
  refine own_by (T' := T60) (g' := (mkF m 150 #[.val (.long xx), .second, .val (.long yy), .second, .val (.int j1), .val (.int m1), .val (.int j2), .val (.int m2), .val (.ref t1), .val (.ref t2), .val (.int o1), .val (.int l1), .val (.int o2), .val (.int l2), .val (.ref b12), .val (.ref sx)] [])) (fun t_ k_ => XS.ifNo X60.here hx rfl (hb hby at_147) rfl ((if0 _ _).trans (feq ((by decide) : ¬ ((1 : Int32) = (0 : Int32)))).1) k_) ?_
  refine own_by (T' := T60) (g' := (mkF m 152 #[.val (.long xx), .second, .val (.long yy), .second, .val (.int j1), .val (.int m1), .val (.int j2), .val (.int m2), .val (.ref t1), .val (.ref t2), .val (.int o1), .val (.int l1), .val (.int o2), .val (.int l2), .val (.ref b12), .val (.ref sx)] [(.ref sx)])) (fun t_ k_ => XS.aload X60.here hx rfl (hb hby at_150) rfl rfl k_) ?_
  refine own_by (T' := T60) (g' := (mkF m 154 #[.val (.long xx), .second, .val (.long yy), .second, .val (.int j1), .val (.int m1), .val (.int j2), .val (.int m2), .val (.ref t1), .val (.ref t2), .val (.int o1), .val (.int l1), .val (.int o2), .val (.int l2), .val (.ref b12), .val (.ref sx)] [(.ref t2), (.ref sx)])) (fun t_ k_ => XS.aload X60.here hx rfl (hb hby at_152) rfl rfl k_) ?_
  refine own_by (T' := T60) (g' := (mkF m 156 #[.val (.long xx), .second, .val (.long yy), .second, .val (.int j1), .val (.int m1), .val (.int j2), .val (.int m2), .val (.ref t1), .val (.ref t2), .val (.int o1), .val (.int l1), .val (.int o2), .val (.int l2), .val (.ref b12), .val (.ref sx)] [(.int o2), (.ref t2), (.ref sx)])) (fun t_ k_ => XS.iload X60.here hx rfl (hb hby at_154) rfl k_) ?_
  refine own_by (T' := T60) (g' := (mkF m 158 #[.val (.long xx), .second, .val (.long yy), .second, .val (.int j1), .val (.int m1), .val (.int j2), .val (.int m2), .val (.ref t1), .val (.ref t2), .val (.int o1), .val (.int l1), .val (.int o2), .val (.int l2), .val (.ref b12), .val (.ref sx)] [(.int l2), (.int o2), (.ref t2), (.ref sx)])) (fun t_ k_ => XS.iload X60.here hx rfl (hb hby at_156) rfl k_) ?_
  refine own_by (T' := T60) (g' := (mkF m 159 #[.val (.long xx), .second, .val (.long yy), .second, .val (.int j1), .val (.int m1), .val (.int j2), .val (.int m2), .val (.ref t1), .val (.ref t2), .val (.int o1), .val (.int l1), .val (.int o2), .val (.int l2), .val (.ref b12), .val (.ref sx)] [(.int (3 : Int32)), (.int l2), (.int o2), (.ref t2), (.ref sx)])) (fun t_ k_ => XS.iconst X60.here hx rfl (hb hby at_158) k_) ?_
  obtain ⟨_, T61, L61, X61, hQ61, st61⟩ := own_callS X60 hx hZ (y := (⟨"com/example/enumconv/enumconv/core/ReadingToStringPinLaw", "same", "(Ljava/lang/String;[CIII)Z"⟩ : MethodName)) hown (hw _ (List.mem_of_getElem? (i := 104) rfl)) (hw _ (List.mem_of_getElem? (i := 105) rfl)) (hw _ (List.mem_of_getElem? (i := 2) rfl)) (hw _ (List.mem_of_getElem? (i := 106) rfl)) (by decide) (argsL := [(.ref sx), (.ref t2), (.int o2), (.int l2), (.int (3 : Int32))]) (rest := []) (own_rm_sm3 l Z a0 hw [] sx t2 o2 l2 bx g tf2 cs fm T38.heap n0 f41 Ex_ Fcx Fvx Vx f44 f39 hcs f40 hfm p2.1 p2.2.1 p2.2.2 hf2 hg) e60 (W := 0) (by decide) (by decide) (by decide) (by decide) (g := (mkF m 159 #[.val (.long xx), .second, .val (.long yy), .second, .val (.int j1), .val (.int m1), .val (.int j2), .val (.int m2), .val (.ref t1), .val (.ref t2), .val (.int o1), .val (.int l1), .val (.int o2), .val (.int l2), .val (.ref b12), .val (.ref sx)] [(.int (3 : Int32)), (.int l2), (.int o2), (.ref t2), (.ref sx)])) rfl (by rw [hml]; rfl) (lenOf own_pd20 rfl) rfl (by show 2 * 0 + _ ≤ _; exact Nat.le_of_eq rfl) (hb hby at_159)
  obtain ⟨rfl, Nq61, e61⟩ := hQ61
  have N61 := Fr.app N60 Nq61
  refine st61 _ ?_
  show own_Goes p e below _ T61 (mkF m 162 #[.val (.long xx), .second, .val (.long yy), .second, .val (.int j1), .val (.int m1), .val (.int j2), .val (.int m2), .val (.ref t1), .val (.ref t2), .val (.int o1), .val (.int l1), .val (.int o2), .val (.int l2), .val (.ref b12), .val (.ref sx)] [(.int (1 : Int32))])
  refine own_by (T' := T61) (g' := (mkF m 165 #[.val (.long xx), .second, .val (.long yy), .second, .val (.int j1), .val (.int m1), .val (.int j2), .val (.int m2), .val (.ref t1), .val (.ref t2), .val (.int o1), .val (.int l1), .val (.int o2), .val (.int l2), .val (.ref b12), .val (.ref sx)] [])) (fun t_ k_ => XS.ifNo X61.here hx rfl (hb hby at_162) rfl ((if0 _ _).trans (feq ((by decide) : ¬ ((1 : Int32) = (0 : Int32)))).1) k_) ?_
  refine own_by (T' := T61) (g' := (mkF m 167 #[.val (.long xx), .second, .val (.long yy), .second, .val (.int j1), .val (.int m1), .val (.int j2), .val (.int m2), .val (.ref t1), .val (.ref t2), .val (.int o1), .val (.int l1), .val (.int o2), .val (.int l2), .val (.ref b12), .val (.ref sx)] [(.ref sx)])) (fun t_ k_ => XS.aload X61.here hx rfl (hb hby at_165) rfl rfl k_) ?_
  refine own_by (T' := T61) (g' := (mkF m 169 #[.val (.long xx), .second, .val (.long yy), .second, .val (.int j1), .val (.int m1), .val (.int j2), .val (.int m2), .val (.ref t1), .val (.ref t2), .val (.int o1), .val (.int l1), .val (.int o2), .val (.int l2), .val (.ref b12), .val (.ref sx)] [(.ref t2), (.ref sx)])) (fun t_ k_ => XS.aload X61.here hx rfl (hb hby at_167) rfl rfl k_) ?_
  refine own_by (T' := T61) (g' := (mkF m 171 #[.val (.long xx), .second, .val (.long yy), .second, .val (.int j1), .val (.int m1), .val (.int j2), .val (.int m2), .val (.ref t1), .val (.ref t2), .val (.int o1), .val (.int l1), .val (.int o2), .val (.int l2), .val (.ref b12), .val (.ref sx)] [(.int o2), (.ref t2), (.ref sx)])) (fun t_ k_ => XS.iload X61.here hx rfl (hb hby at_169) rfl k_) ?_
  refine own_by (T' := T61) (g' := (mkF m 173 #[.val (.long xx), .second, .val (.long yy), .second, .val (.int j1), .val (.int m1), .val (.int j2), .val (.int m2), .val (.ref t1), .val (.ref t2), .val (.int o1), .val (.int l1), .val (.int o2), .val (.int l2), .val (.ref b12), .val (.ref sx)] [(.int l2), (.int o2), (.ref t2), (.ref sx)])) (fun t_ k_ => XS.iload X61.here hx rfl (hb hby at_171) rfl k_) ?_
  refine own_by (T' := T61) (g' := (mkF m 174 #[.val (.long xx), .second, .val (.long yy), .second, .val (.int j1), .val (.int m1), .val (.int j2), .val (.int m2), .val (.ref t1), .val (.ref t2), .val (.int o1), .val (.int l1), .val (.int o2), .val (.int l2), .val (.ref b12), .val (.ref sx)] [(.int (4 : Int32)), (.int l2), (.int o2), (.ref t2), (.ref sx)])) (fun t_ k_ => XS.iconst X61.here hx rfl (hb hby at_173) k_) ?_
  obtain ⟨_, T62, L62, X62, hQ62, st62⟩ := own_callS X61 hx hZ (y := (⟨"com/example/enumconv/enumconv/core/ReadingToStringPinLaw", "same", "(Ljava/lang/String;[CIII)Z"⟩ : MethodName)) hown (hw _ (List.mem_of_getElem? (i := 104) rfl)) (hw _ (List.mem_of_getElem? (i := 105) rfl)) (hw _ (List.mem_of_getElem? (i := 2) rfl)) (hw _ (List.mem_of_getElem? (i := 106) rfl)) (by decide) (argsL := [(.ref sx), (.ref t2), (.int o2), (.int l2), (.int (4 : Int32))]) (rest := []) (own_rm_sm4 l Z a0 hw [] sx t2 o2 l2 bx g tf2 cs fm T38.heap n0 f41 Ex_ Fcx Fvx Vx f44 f39 hcs f40 hfm p2.1 p2.2.1 p2.2.2 hf2 hg) e61 (W := 0) (by decide) (by decide) (by decide) (by decide) (g := (mkF m 174 #[.val (.long xx), .second, .val (.long yy), .second, .val (.int j1), .val (.int m1), .val (.int j2), .val (.int m2), .val (.ref t1), .val (.ref t2), .val (.int o1), .val (.int l1), .val (.int o2), .val (.int l2), .val (.ref b12), .val (.ref sx)] [(.int (4 : Int32)), (.int l2), (.int o2), (.ref t2), (.ref sx)])) rfl (by rw [hml]; rfl) (lenOf own_pd20 rfl) rfl (by show 2 * 0 + _ ≤ _; exact Nat.le_of_eq rfl) (hb hby at_174)
  obtain ⟨rfl, Nq62, e62⟩ := hQ62
  have N62 := Fr.app N61 Nq62
  refine st62 _ ?_
  show own_Goes p e below _ T62 (mkF m 177 #[.val (.long xx), .second, .val (.long yy), .second, .val (.int j1), .val (.int m1), .val (.int j2), .val (.int m2), .val (.ref t1), .val (.ref t2), .val (.int o1), .val (.int l1), .val (.int o2), .val (.int l2), .val (.ref b12), .val (.ref sx)] [(.int (1 : Int32))])
  refine own_by (T' := T62) (g' := (mkF m 180 #[.val (.long xx), .second, .val (.long yy), .second, .val (.int j1), .val (.int m1), .val (.int j2), .val (.int m2), .val (.ref t1), .val (.ref t2), .val (.int o1), .val (.int l1), .val (.int o2), .val (.int l2), .val (.ref b12), .val (.ref sx)] [])) (fun t_ k_ => XS.ifNo X62.here hx rfl (hb hby at_177) rfl ((if0 _ _).trans (feq ((by decide) : ¬ ((1 : Int32) = (0 : Int32)))).1) k_) ?_
  refine own_by (T' := T62) (g' := (mkF m 182 #[.val (.long xx), .second, .val (.long yy), .second, .val (.int j1), .val (.int m1), .val (.int j2), .val (.int m2), .val (.ref t1), .val (.ref t2), .val (.int o1), .val (.int l1), .val (.int o2), .val (.int l2), .val (.ref b12), .val (.ref sx)] [(.ref sx)])) (fun t_ k_ => XS.aload X62.here hx rfl (hb hby at_180) rfl rfl k_) ?_
  refine own_by (T' := T62) (g' := (mkF m 184 #[.val (.long xx), .second, .val (.long yy), .second, .val (.int j1), .val (.int m1), .val (.int j2), .val (.int m2), .val (.ref t1), .val (.ref t2), .val (.int o1), .val (.int l1), .val (.int o2), .val (.int l2), .val (.ref b12), .val (.ref sx)] [(.ref t2), (.ref sx)])) (fun t_ k_ => XS.aload X62.here hx rfl (hb hby at_182) rfl rfl k_) ?_
  refine own_by (T' := T62) (g' := (mkF m 186 #[.val (.long xx), .second, .val (.long yy), .second, .val (.int j1), .val (.int m1), .val (.int j2), .val (.int m2), .val (.ref t1), .val (.ref t2), .val (.int o1), .val (.int l1), .val (.int o2), .val (.int l2), .val (.ref b12), .val (.ref sx)] [(.int o2), (.ref t2), (.ref sx)])) (fun t_ k_ => XS.iload X62.here hx rfl (hb hby at_184) rfl k_) ?_
  refine own_by (T' := T62) (g' := (mkF m 188 #[.val (.long xx), .second, .val (.long yy), .second, .val (.int j1), .val (.int m1), .val (.int j2), .val (.int m2), .val (.ref t1), .val (.ref t2), .val (.int o1), .val (.int l1), .val (.int o2), .val (.int l2), .val (.ref b12), .val (.ref sx)] [(.int l2), (.int o2), (.ref t2), (.ref sx)])) (fun t_ k_ => XS.iload X62.here hx rfl (hb hby at_186) rfl k_) ?_
  refine own_by (T' := T62) (g' := (mkF m 189 #[.val (.long xx), .second, .val (.long yy), .second, .val (.int j1), .val (.int m1), .val (.int j2), .val (.int m2), .val (.ref t1), .val (.ref t2), .val (.int o1), .val (.int l1), .val (.int o2), .val (.int l2), .val (.ref b12), .val (.ref sx)] [(.int (5 : Int32)), (.int l2), (.int o2), (.ref t2), (.ref sx)])) (fun t_ k_ => XS.iconst X62.here hx rfl (hb hby at_188) k_) ?_
  obtain ⟨_, T63, L63, X63, hQ63, st63⟩ := own_callS X62 hx hZ (y := (⟨"com/example/enumconv/enumconv/core/ReadingToStringPinLaw", "same", "(Ljava/lang/String;[CIII)Z"⟩ : MethodName)) hown (hw _ (List.mem_of_getElem? (i := 104) rfl)) (hw _ (List.mem_of_getElem? (i := 105) rfl)) (hw _ (List.mem_of_getElem? (i := 2) rfl)) (hw _ (List.mem_of_getElem? (i := 106) rfl)) (by decide) (argsL := [(.ref sx), (.ref t2), (.int o2), (.int l2), (.int (5 : Int32))]) (rest := []) (own_rm_sm5 l Z a0 hw [] sx t2 o2 l2 bx g tf2 cs fm T38.heap n0 f41 Ex_ Fcx Fvx Vx f44 f39 hcs f40 hfm p2.1 p2.2.1 p2.2.2 hf2 hg) e62 (W := 0) (by decide) (by decide) (by decide) (by decide) (g := (mkF m 189 #[.val (.long xx), .second, .val (.long yy), .second, .val (.int j1), .val (.int m1), .val (.int j2), .val (.int m2), .val (.ref t1), .val (.ref t2), .val (.int o1), .val (.int l1), .val (.int o2), .val (.int l2), .val (.ref b12), .val (.ref sx)] [(.int (5 : Int32)), (.int l2), (.int o2), (.ref t2), (.ref sx)])) rfl (by rw [hml]; rfl) (lenOf own_pd20 rfl) rfl (by show 2 * 0 + _ ≤ _; exact Nat.le_of_eq rfl) (hb hby at_189)
  obtain ⟨rfl, Nq63, e63⟩ := hQ63
  have N63 := Fr.app N62 Nq63
  refine st63 _ ?_
  show own_Goes p e below _ T63 (mkF m 192 #[.val (.long xx), .second, .val (.long yy), .second, .val (.int j1), .val (.int m1), .val (.int j2), .val (.int m2), .val (.ref t1), .val (.ref t2), .val (.int o1), .val (.int l1), .val (.int o2), .val (.int l2), .val (.ref b12), .val (.ref sx)] [(.int (1 : Int32))])
  refine own_by (T' := T63) (g' := (mkF m 195 #[.val (.long xx), .second, .val (.long yy), .second, .val (.int j1), .val (.int m1), .val (.int j2), .val (.int m2), .val (.ref t1), .val (.ref t2), .val (.int o1), .val (.int l1), .val (.int o2), .val (.int l2), .val (.ref b12), .val (.ref sx)] [])) (fun t_ k_ => XS.ifNo X63.here hx rfl (hb hby at_192) rfl ((if0 _ _).trans (feq ((by decide) : ¬ ((1 : Int32) = (0 : Int32)))).1) k_) ?_
  refine own_by (T' := T63) (g' := (mkF m 196 #[.val (.long xx), .second, .val (.long yy), .second, .val (.int j1), .val (.int m1), .val (.int j2), .val (.int m2), .val (.ref t1), .val (.ref t2), .val (.int o1), .val (.int l1), .val (.int o2), .val (.int l2), .val (.ref b12), .val (.ref sx)] [(.int (1 : Int32))])) (fun t_ k_ => XS.iconst X63.here hx rfl (hb hby at_195) k_) ?_
  refine own_by (T' := T63) (g' := (mkF m 200 #[.val (.long xx), .second, .val (.long yy), .second, .val (.int j1), .val (.int m1), .val (.int j2), .val (.int m2), .val (.ref t1), .val (.ref t2), .val (.int o1), .val (.int l1), .val (.int o2), .val (.int l2), .val (.ref b12), .val (.ref sx)] [(.int (1 : Int32))])) (fun t_ k_ => XS.goto X63.here hx rfl (pc0 := 196) (pc' := 200) rfl (hb hby at_196) (by decide) (by decide) k_) ?_
  refine own_retNW X63 hS38 (by rw [e63]; exact (Nat.le_refl T38.heap.size)) hx (t := .boolean) Bd.returns hlk (by simp) (hb hby at_200) (by decide) (by decide) (v := (1 : Int32)) rfl ?_
  rw [e63]
  exact ⟨rfl, N63⟩
set_option maxRecDepth 65536 in
set_option maxHeartbeats 40000000 in
theorem own_comes {Post : Tables → Env → Array Value → State → Outcome → State → Prop} (hpost : ∀ tb e args s v u, (limb_1_1.after args s (.returned v) u = true ∧ limb_1_2.after args s (.returned v) u = true ∧ True) → ReturnedEndW s (.returned v) u (Jvm.fieldLocs frame_1_writes args s ++ Jvm.arrayLocs frame_1_arrays args s ++ Jvm.staticLocs frame_1_statics s) 24 1216 → Post tb e args s (.returned v) u) :
    ArmFor flags0 classFile x code maxLocals ret World_1 tables_1 room_1 Calls_1 rest_1 Pre_1 Post := by
  intro l hfl _ _ p e ha hc hk s m args below hf hA hF happ hP
  obtain ⟨hcalls, hrest, hpre⟩ := hP
  obtain ⟨-, -, -, hnamed, -, -, -, hat⟩ := (Spec.applies_iff hf).mp happ
  obtain ⟨hg, hn⟩ := and_e (Cond.before_iff.mp (show (Jvm.Cond.and given_1 narrow_1).before args s = true from hpre))
  obtain ⟨g0, gr0⟩ := and_e hg
  obtain ⟨w0, w1, w2, w3, w4, w5, rfl⟩ : ∃ w0 w1 w2 w3 w4 w5 : Value, args = #[w0, w1, w2, w3, w4, w5] := by
    have hs : args.size = 6 := by simpa [Cond.value, given_1] using g0
    obtain ⟨L⟩ := args
    match L, hs with
    | [w0, w1, w2, w3, w4, w5], _ => exact ⟨w0, w1, w2, w3, w4, w5, rfl⟩
  have hw := fun d (hd : d ∈ tables_1) => atoms_spec (ws := Jvm.Cond.code x code maxLocals ret :: tables_1) hat d (List.mem_cons_of_mem _ hd)
  have hfit : Fit s := fun {y c} hc i hi => by
    obtain ⟨ha, rfl⟩ := Array.getElem?_eq_some_iff.mp hc
    have q := List.all_eq_true.mp ((Array.all_eq_true_iff_forall_mem.mp hF) _ (Array.getElem_mem ha)) i (List.mem_range.mpr hi)
    simpa [Array.getElem?_eq_getElem hi] using q
  obtain ⟨q0, gr1⟩ := and_e gr0
  obtain ⟨q1, gr2⟩ := and_e gr1
  obtain ⟨q2, gr3⟩ := and_e gr2
  obtain ⟨q3, gr4⟩ := and_e gr3
  obtain ⟨q4, gr5⟩ := and_e gr4
  obtain ⟨i0, ei0⟩ := isL_v q0
  obtain rfl : w0 = (.long i0) := Option.some.inj ei0
  obtain ⟨i1, ei1⟩ := isL_v q1
  obtain rfl : w1 = (.long i1) := Option.some.inj ei1
  obtain ⟨i2, ei2⟩ := is_v q2
  obtain rfl : w2 = (.int i2) := Option.some.inj ei2
  obtain ⟨i3, ei3⟩ := is_v q3
  obtain rfl : w3 = (.int i3) := Option.some.inj ei3
  obtain ⟨i4, ei4⟩ := is_v q4
  obtain rfl : w4 = (.int i4) := Option.some.inj ei4
  obtain ⟨i5, ei5⟩ := is_v gr5
  obtain rfl : w5 = (.int i5) := Option.some.inj ei5
  obtain ⟨hj, -⟩ := atoms_of jdkStatics_1 (show (jdkStatics_1.foldr Jvm.Cond.and restOwn_1).before _ s = true from by rw [← rest_1_c_eq]; exact hrest)
  obtain ⟨cs, ecs⟩ := is_v (Cond.before_iff.mp (hj _ (List.mem_of_getElem? (i := 1) rfl)))
  have SC := Sta.start ecs (Or.inl (hj _ (List.mem_of_getElem? (i := 0) rfl)))
  have hcs : ¬ cs = (0 : Int32) := gotF (Cond.eq_ints ecs (Term.int_eval 0)) (not_v (Cond.before_iff.mp (hj _ (List.mem_of_getElem? (i := 2) rfl))))
  obtain ⟨fm, efm, hfm⟩ := isR_v (Cond.before_iff.mp (hj _ (List.mem_of_getElem? (i := 8) rfl)))
  have SF := Sta.start efm (Or.inl (hj _ (List.mem_of_getElem? (i := 7) rfl)))
  have hcst : Jvm.Lit.constHeld s "java/lang/String" 7 := hcalls.1 ("java/lang/String", 7) (by decide)
  obtain ⟨n, o, h1, h2, h3, _, L, rfl, ⟨rfl, N⟩, hq⟩ := own_rm_law l s _ hw tables_1 i0 i1 i2 i3 i4 i5 cs fm s.heap s.heap.size (Nat.le_refl _) SC hcs SF hfm (fun _ _ q => q) hcst (hj _ (List.mem_of_getElem? (i := 2) rfl)) p e ha hc hk s m _ below hf ((Spec.applies_iff_loose hf).mp happ).1 ⟨rfl, State.Warmed39.refl s, rfl, rfl⟩ trivial
  refine ⟨n, _, h1, h2, h3, hpost _ _ _ _ _ _ ⟨Cond.after_iff.mpr rfl, Cond.after_iff.mpr (eq_i res_at (Term.int_eval (1)) rfl), trivial⟩ ⟨hq.1, hq.2.1, hq.2.2.1, (hq.2.2.2.sift fun y hy => Or.inr (N y hy)).mono (by decide) (by decide)⟩⟩
theorem main_1_1 : Claimed_1_1 := own_comes fun _ _ _ _ _ _ h hF => ⟨h.1, hF⟩
theorem main_1_2 : Claimed_1_2 := own_comes fun _ _ _ _ _ _ h hF => ⟨h.2.1, hF⟩
end Jvm.Pilot.@@N@@
namespace Jvm.Pilot.@@N@@
open Jvm Jvm.ClassFile Sem Op Lib Jvm.Free Jvm.Stand Jvm.Pilot.@@N@@.Jvm.D
/-! MADE BY PROGRAM (witnessworld.py) out of the Statement's table words and the real class files: 21 classes; the members and pool entries that the words name. The judged class is class 1, her method 1. -/
namespace start1
open Jvm.ClassFile
def u (s : String) : CpInfo := .utf8 (stringToUtf16 s)
/-- a pool by its gaps: so many unusable entries, then the entry; so many at the end -/
def gap : Nat → List CpInfo → List CpInfo
  | 0, r => r
  | n + 1, r => .unusable :: gap n r
def poolList (es : List (Nat × CpInfo)) (last : Nat) : List CpInfo := es.foldr (fun e r => gap e.1 (e.2 :: r)) (gap last [])
def pool (es : List (Nat × CpInfo)) (last : Nat) : Array CpInfo := ⟨poolList es last⟩
def fileOf (pool : Array CpInfo) (this : Nat) (attrs : Array Attribute := #[]) (ms : Array MethodInfo := #[]) (fl : Nat := 33) (sup : Nat := 0) (ifs : Array Nat := #[]) (fds : Array FieldInfo := #[]) : ClassFile where
  minorVersion := 0
  majorVersion := 65
  constantPool := pool
  accessFlags := fl
  thisClass := this
  superClass := sup
  interfaces := ifs
  fields := fds
  methods := ms
  attributes := attrs
def plain (name : String) (sup : Option ClassId) : Class where
  name := name
  kind := .ordinary
  loader := none
  accessFlags := 33
  super := sup
  interfaces := #[]
  cf := none
  fields := #[]
  methods := #[]
  instanceTypes := #[]
  staticTypes := #[]
  resolved := #[]
  callSites := []
  init := .initialized
  statics := none
  mirror := none

def pool0 : Array CpInfo := pool [(5, u "<init>"), (0, u "()V"), (1, .class_ 10), (1, u "java/lang/Object")] 113

def k0c0 : Code := { maxStack := 0, maxLocals := 1, code := object_method_1_code, exceptionTable := #[], attributes := #[] }
def k0m0 : Method := { name := "<init>", desc := "()V", sig := { parameters := [], returnType := none }, accessFlags := 1, code := some k0c0 }
/-- java/lang/Object -/
def k0 : Class := { plain "java/lang/Object" none with
  accessFlags := 33
  interfaces := #[]
  cf := some (fileOf pool0 8 #[] #[{ accessFlags := 1, nameIndex := 5, descriptorIndex := 6, attributes := #[] }] 33 0 #[] #[])
  fields := #[]
  methods := #[k0m0]
  instanceTypes := #[]
  staticTypes := #[]
  resolved := Array.replicate 124 none
  statics := none }

def pool1 : Array CpInfo := pool [(2, .class_ 4), (0, .nameAndType 5 6), (0, u "java/lang/Object"), (0, u "<init>"), (0, u "()V"), (0, .methodref 8 9), (0, .class_ 10), (0, .nameAndType 11 12), (0, u "com/example/enumconv/enumconv/core/ReadingToStringPinLaw"), (0, u "chars"), (0, u "(J)[C"), (0, .integer 2147483647), (0, .class_ 15), (0, u "com/example/enumconv/enumconv/core/Decimal$Reading"), (0, .methodref 14 3), (0, .methodref 14 18), (0, .nameAndType 19 20), (0, u "read"), (0, u "([CII)Lcom/example/enumconv/enumconv/core/Decimal$Reading;"), (0, .methodref 14 22), (0, .nameAndType 23 24), (0, u "toString"), (0, u "()Ljava/lang/String;"), (0, .methodref 26 27), (0, .class_ 28), (0, .nameAndType 29 30), (0, u "java/lang/String"), (0, u "length"), (0, u "()I"), (0, .methodref 8 32), (0, .nameAndType 33 34), (0, u "same"), (0, u "(Ljava/lang/String;[CIII)Z"), (0, .long 255), (1, .methodref 26 38), (0, .nameAndType 39 40), (0, u "charAt"), (0, u "(I)C"), (2, u "law"), (0, u "(JJIIII)Z")] 9

def k1m0 : Method := { name := "<init>", desc := "()V", sig := { parameters := [], returnType := none }, accessFlags := 1, code := none }
def k1c1 : Code := { maxStack := 5, maxLocals := 16, code := code, exceptionTable := #[], attributes := #[] }
def k1m1 : Method := { name := "law", desc := "(JJIIII)Z", sig := { parameters := [.long, .long, .int, .int, .int, .int], returnType := some .boolean }, accessFlags := 9, code := some k1c1 }
def k1c2 : Code := { maxStack := 6, maxLocals := 3, code := method_3_code, exceptionTable := #[], attributes := #[] }
def k1m2 : Method := { name := "chars", desc := "(J)[C", sig := { parameters := [.long], returnType := some (.array .char) }, accessFlags := 10, code := some k1c2 }
def k1c3 : Code := { maxStack := 4, maxLocals := 5, code := method_4_code, exceptionTable := #[], attributes := #[] }
def k1m3 : Method := { name := "same", desc := "(Ljava/lang/String;[CIII)Z", sig := { parameters := [(.object "java/lang/String"), (.array .char), .int, .int, .int], returnType := some .boolean }, accessFlags := 10, code := some k1c3 }
/-- com/example/enumconv/enumconv/core/ReadingToStringPinLaw -/
def k1 : Class := { plain "com/example/enumconv/enumconv/core/ReadingToStringPinLaw" (some 0) with
  accessFlags := 49
  interfaces := #[]
  cf := some (fileOf pool1 8 #[] #[{ accessFlags := 1, nameIndex := 5, descriptorIndex := 6, attributes := #[] }, { accessFlags := 9, nameIndex := 43, descriptorIndex := 44, attributes := #[] }, { accessFlags := 10, nameIndex := 11, descriptorIndex := 12, attributes := #[] }, { accessFlags := 10, nameIndex := 33, descriptorIndex := 34, attributes := #[] }] 49 2 #[] #[])
  fields := #[]
  methods := #[k1m0, k1m1, k1m2, k1m3]
  instanceTypes := #[]
  staticTypes := #[]
  resolved := Array.replicate 54 none
  statics := none }

def pool2 : Array CpInfo := pool [(1, .class_ 2), (0, u "com/example/enumconv/enumconv/core/Decimal"), (0, .methodref 4 5), (0, .class_ 6), (0, .nameAndType 7 8), (0, u "java/lang/Object"), (0, u "<init>"), (0, u "()V"), (0, .class_ 10), (0, u "com/example/enumconv/enumconv/core/Decimal$Reading"), (2, .class_ 15), (1, u "java/lang/String"), (8, u "read"), (0, u "([CII)Lcom/example/enumconv/enumconv/core/Decimal$Reading;"), (0, .fieldref 9 27), (0, .nameAndType 28 29), (0, u "text"), (0, u "[C"), (0, .fieldref 9 31), (0, .nameAndType 32 33), (0, u "start"), (0, u "I"), (0, .fieldref 9 35), (0, .nameAndType 36 33), (0, u "stop"), (0, .fieldref 9 38), (0, .nameAndType 39 40), (0, u "negative"), (0, u "Z"), (0, .fieldref 9 42), (0, .nameAndType 43 33), (0, u "digitsAt"), (0, .fieldref 9 45), (0, .nameAndType 46 33), (0, u "end"), (0, .fieldref 9 48), (0, .nameAndType 49 33), (0, u "point"), (0, .fieldref 9 51), (0, .nameAndType 52 33), (0, u "first"), (0, .methodref 9 54), (0, .nameAndType 55 56), (0, u "digit"), (0, u "(I)C"), (0, .fieldref 9 58), (0, .nameAndType 59 33), (0, u "last"), (0, .methodref 61 62), (0, .class_ 63), (0, .nameAndType 64 65), (0, u "java/lang/Math"), (0, u "min"), (0, u "(II)I"), (0, .fieldref 9 67), (0, .nameAndType 68 33), (0, u "exponentAt"), (0, .fieldref 9 70), (0, .nameAndType 71 40), (0, u "negativeExponent"), (31, u "toString"), (0, u "()Ljava/lang/String;"), (47, .methodref 13 153), (0, .nameAndType 7 154), (0, u "([CII)V")] 13

def k2c0 : Code := { maxStack := 1, maxLocals := 1, code := prog_3_method_1_code, exceptionTable := #[], attributes := #[] }
def k2m0 : Method := { name := "<init>", desc := "()V", sig := { parameters := [], returnType := none }, accessFlags := 0, code := some k2c0 }
def k2c1 : Code := { maxStack := 3, maxLocals := 5, code := prog_3_method_3_code, exceptionTable := #[], attributes := #[] }
def k2m1 : Method := { name := "read", desc := "([CII)Lcom/example/enumconv/enumconv/core/Decimal$Reading;", sig := { parameters := [(.array .char), .int, .int], returnType := some (.object "com/example/enumconv/enumconv/core/Decimal$Reading") }, accessFlags := 0, code := some k2c1 }
def k2c2 : Code := { maxStack := 3, maxLocals := 3, code := prog_3_method_10_code, exceptionTable := #[], attributes := #[] }
def k2m2 : Method := { name := "digit", desc := "(I)C", sig := { parameters := [.int], returnType := some .char }, accessFlags := 2, code := some k2c2 }
def k2c3 : Code := { maxStack := 6, maxLocals := 1, code := prog_3_method_14_code, exceptionTable := #[], attributes := #[] }
def k2m3 : Method := { name := "toString", desc := "()Ljava/lang/String;", sig := { parameters := [], returnType := some (.object "java/lang/String") }, accessFlags := 1, code := some k2c3 }
/-- com/example/enumconv/enumconv/core/Decimal$Reading -/
def k2 : Class := { plain "com/example/enumconv/enumconv/core/Decimal$Reading" (some 0) with
  accessFlags := 48
  interfaces := #[]
  cf := some (fileOf pool2 9 #[.nestHost 1] #[{ accessFlags := 0, nameIndex := 7, descriptorIndex := 8, attributes := #[] }, { accessFlags := 0, nameIndex := 24, descriptorIndex := 25, attributes := #[] }, { accessFlags := 2, nameIndex := 55, descriptorIndex := 56, attributes := #[] }, { accessFlags := 1, nameIndex := 103, descriptorIndex := 104, attributes := #[] }] 48 4 #[] #[{ accessFlags := 2, nameIndex := 28, descriptorIndex := 29, attributes := #[] }, { accessFlags := 2, nameIndex := 32, descriptorIndex := 33, attributes := #[] }, { accessFlags := 2, nameIndex := 36, descriptorIndex := 33, attributes := #[] }, { accessFlags := 2, nameIndex := 39, descriptorIndex := 40, attributes := #[] }, { accessFlags := 2, nameIndex := 43, descriptorIndex := 33, attributes := #[] }, { accessFlags := 2, nameIndex := 46, descriptorIndex := 33, attributes := #[] }, { accessFlags := 2, nameIndex := 49, descriptorIndex := 33, attributes := #[] }, { accessFlags := 2, nameIndex := 52, descriptorIndex := 33, attributes := #[] }, { accessFlags := 2, nameIndex := 59, descriptorIndex := 33, attributes := #[] }, { accessFlags := 2, nameIndex := 68, descriptorIndex := 33, attributes := #[] }, { accessFlags := 2, nameIndex := 71, descriptorIndex := 40, attributes := #[] }])
  fields := #[{ name := "text", type := (.array .char), accessFlags := 2, slot := 0, constantValue := 0 }, { name := "start", type := .int, accessFlags := 2, slot := 1, constantValue := 0 }, { name := "stop", type := .int, accessFlags := 2, slot := 2, constantValue := 0 }, { name := "negative", type := .boolean, accessFlags := 2, slot := 3, constantValue := 0 }, { name := "digitsAt", type := .int, accessFlags := 2, slot := 4, constantValue := 0 }, { name := "end", type := .int, accessFlags := 2, slot := 5, constantValue := 0 }, { name := "point", type := .int, accessFlags := 2, slot := 6, constantValue := 0 }, { name := "first", type := .int, accessFlags := 2, slot := 7, constantValue := 0 }, { name := "last", type := .int, accessFlags := 2, slot := 8, constantValue := 0 }, { name := "exponentAt", type := .int, accessFlags := 2, slot := 9, constantValue := 0 }, { name := "negativeExponent", type := .boolean, accessFlags := 2, slot := 10, constantValue := 0 }]
  methods := #[k2m0, k2m1, k2m2, k2m3]
  instanceTypes := #[(.array .char), .int, .int, .boolean, .int, .int, .int, .int, .int, .int, .boolean]
  staticTypes := #[]
  resolved := Array.replicate 168 none
  statics := none }

def pool3 : Array CpInfo := pool [(1, .class_ 2), (0, u "java/lang/Math"), (1, .class_ 6), (1, u "java/lang/Object"), (0, u "<init>"), (0, u "()V"), (89, .class_ 100), (1, u "java/lang/Math$RandomNumberGeneratorHolder"), (71, u "negativeZeroFloatBits"), (0, u "J"), (2, u "negativeZeroDoubleBits"), (24, u "min"), (43, u "$assertionsDisabled"), (0, u "Z"), (88, u "(II)I"), (2, u "twoToTheDoubleScaleDown"), (0, u "D"), (4, u "twoToTheDoubleScaleUp"), (9, u "E"), (3, u "PI"), (2, u "TAU"), (2, u "DEGREES_TO_RADIANS"), (0, u "RADIANS_TO_DEGREES")] 94

def k3m0 : Method := { name := "<init>", desc := "()V", sig := { parameters := [], returnType := none }, accessFlags := 2, code := none }
def k3c1 : Code := { maxStack := 2, maxLocals := 2, code := jdk_29_method_69_code, exceptionTable := #[], attributes := #[] }
def k3m1 : Method := { name := "min", desc := "(II)I", sig := { parameters := [.int, .int], returnType := some .int }, accessFlags := 9, code := some k3c1 }
/-- java/lang/Math -/
def k3 : Class := { plain "java/lang/Math" (some 0) with
  accessFlags := 49
  interfaces := #[]
  cf := some (fileOf pool3 1 #[.nestMembers #[98]] #[{ accessFlags := 2, nameIndex := 7, descriptorIndex := 8, attributes := #[] }, { accessFlags := 9, nameIndex := 201, descriptorIndex := 335, attributes := #[] }] 49 4 #[] #[{ accessFlags := 25, nameIndex := 354, descriptorIndex := 339, attributes := #[] }, { accessFlags := 25, nameIndex := 358, descriptorIndex := 339, attributes := #[] }, { accessFlags := 25, nameIndex := 361, descriptorIndex := 339, attributes := #[] }, { accessFlags := 26, nameIndex := 364, descriptorIndex := 339, attributes := #[] }, { accessFlags := 26, nameIndex := 365, descriptorIndex := 339, attributes := #[] }, { accessFlags := 26, nameIndex := 172, descriptorIndex := 173, attributes := #[] }, { accessFlags := 26, nameIndex := 176, descriptorIndex := 173, attributes := #[] }, { accessFlags := 8, nameIndex := 344, descriptorIndex := 339, attributes := #[] }, { accessFlags := 8, nameIndex := 338, descriptorIndex := 339, attributes := #[] }, { accessFlags := 4120, nameIndex := 245, descriptorIndex := 246, attributes := #[] }])
  fields := #[{ name := "E", type := .double, accessFlags := 25, slot := 0, constantValue := 0 }, { name := "PI", type := .double, accessFlags := 25, slot := 1, constantValue := 0 }, { name := "TAU", type := .double, accessFlags := 25, slot := 2, constantValue := 0 }, { name := "DEGREES_TO_RADIANS", type := .double, accessFlags := 26, slot := 3, constantValue := 0 }, { name := "RADIANS_TO_DEGREES", type := .double, accessFlags := 26, slot := 4, constantValue := 0 }, { name := "negativeZeroFloatBits", type := .long, accessFlags := 26, slot := 5, constantValue := 0 }, { name := "negativeZeroDoubleBits", type := .long, accessFlags := 26, slot := 6, constantValue := 0 }, { name := "twoToTheDoubleScaleUp", type := .double, accessFlags := 8, slot := 7, constantValue := 0 }, { name := "twoToTheDoubleScaleDown", type := .double, accessFlags := 8, slot := 8, constantValue := 0 }, { name := "$assertionsDisabled", type := .boolean, accessFlags := 4120, slot := 9, constantValue := 0 }]
  methods := #[k3m0, k3m1]
  instanceTypes := #[]
  staticTypes := #[.double, .double, .double, .double, .double, .long, .long, .double, .double, .boolean]
  resolved := Array.replicate 460 none
  statics := none }

def pool4 : Array CpInfo := pool [(1, .class_ 2), (0, u "java/io/Serializable"), (0, .class_ 4), (0, u "java/lang/Object")] 2

/-- java/io/Serializable -/
def k4 : Class := { plain "java/io/Serializable" (some 0) with
  accessFlags := 1537
  interfaces := #[]
  cf := some (fileOf pool4 1 #[] #[] 1537 3 #[] #[])
  fields := #[]
  methods := #[]
  instanceTypes := #[]
  staticTypes := #[]
  resolved := Array.replicate 7 none
  statics := none }

def pool5 : Array CpInfo := pool [(1, .class_ 2), (0, u "java/lang/Comparable"), (0, .class_ 4), (0, u "java/lang/Object")] 7

/-- java/lang/Comparable -/
def k5 : Class := { plain "java/lang/Comparable" (some 0) with
  accessFlags := 1537
  interfaces := #[]
  cf := some (fileOf pool5 1 #[] #[] 1537 3 #[] #[])
  fields := #[]
  methods := #[]
  instanceTypes := #[]
  staticTypes := #[]
  resolved := Array.replicate 12 none
  statics := none }

def pool6 : Array CpInfo := pool [(2, .class_ 4), (1, u "java/lang/CharSequence"), (42, .class_ 48), (0, u "java/lang/CharSequence$1CodePointIterator"), (10, .class_ 60), (0, u "java/lang/CharSequence$1CharIterator"), (5, .class_ 67), (0, u "java/lang/Object")] 63

/-- java/lang/CharSequence -/
def k6 : Class := { plain "java/lang/CharSequence" (some 0) with
  accessFlags := 1537
  interfaces := #[]
  cf := some (fileOf pool6 2 #[.nestMembers #[47, 59]] #[] 1537 66 #[] #[])
  fields := #[]
  methods := #[]
  instanceTypes := #[]
  staticTypes := #[]
  resolved := Array.replicate 131 none
  statics := none }

def pool7 : Array CpInfo := pool [(1, .class_ 2), (0, u "java/lang/constant/Constable"), (0, .class_ 4), (0, u "java/lang/Object")] 6

/-- java/lang/constant/Constable -/
def k7 : Class := { plain "java/lang/constant/Constable" (some 0) with
  accessFlags := 1537
  interfaces := #[]
  cf := some (fileOf pool7 1 #[] #[] 1537 3 #[] #[])
  fields := #[]
  methods := #[]
  instanceTypes := #[]
  staticTypes := #[]
  resolved := Array.replicate 11 none
  statics := none }

def pool8 : Array CpInfo := pool [(1, .class_ 2), (0, u "java/lang/constant/ConstantDesc"), (0, .class_ 4), (0, u "java/lang/Object")] 32

/-- java/lang/constant/ConstantDesc -/
def k8 : Class := { plain "java/lang/constant/ConstantDesc" (some 0) with
  accessFlags := 1537
  interfaces := #[]
  cf := some (fileOf pool8 1 #[] #[] 1537 3 #[] #[])
  fields := #[]
  methods := #[]
  instanceTypes := #[]
  staticTypes := #[]
  resolved := Array.replicate 37 none
  statics := none }

def pool9 : Array CpInfo := pool [(1, .methodref 2 3), (0, .class_ 4), (0, .nameAndType 5 6), (0, u "java/lang/Object"), (0, u "<init>"), (0, u "()V"), (0, .string 8), (0, u ""), (0, .fieldref 10 11), (0, .class_ 12), (0, .nameAndType 13 14), (0, u "java/lang/String"), (0, u "value"), (0, u "[B"), (0, .fieldref 10 16), (0, .nameAndType 17 18), (0, u "coder"), (0, u "B"), (2, u "hash"), (0, u "I"), (2, u "hashIsZero"), (0, u "Z"), (0, .methodref 10 28), (0, .nameAndType 5 29), (0, u "([CIILjava/lang/Void;)V"), (0, .methodref 10 31), (0, .nameAndType 32 33), (0, u "rangeCheck"), (0, u "([CII)Ljava/lang/Void;"), (0, .methodref 10 35), (0, .nameAndType 36 37), (0, u "checkBoundsOffCount"), (0, u "(III)I"), (0, .fieldref 10 39), (0, .nameAndType 40 26), (0, u "COMPACT_STRINGS"), (1, .class_ 44), (1, u "java/lang/StringUTF16"), (0, u "compress"), (1, .methodref 42 48), (0, .nameAndType 49 50), (0, u "coderFromArrayLen"), (0, u "([BI)B"), (56, .class_ 109), (1, u "java/lang/StringLatin1"), (32, u "()Z"), (34, .methodref 42 178), (0, .nameAndType 45 179), (0, u "([CII)[B"), (154, u "()I"), (0, .methodref 10 336), (0, .nameAndType 17 337), (0, u "()B"), (25, u "([BI)C"), (27, u "(II)V"), (35, u "(I)C"), (64, .methodref 10 493), (0, .nameAndType 494 142), (0, u "isLatin1"), (0, .methodref 107 496), (0, .nameAndType 497 363), (0, u "charAt"), (3, u "checkIndex"), (5, u "length"), (67, .class_ 576), (0, u "java/lang/CharSequence"), (22, u "CASE_INSENSITIVE_ORDER"), (0, u "Ljava/util/Comparator;"), (371, u "([CII)V"), (80, .fieldref 1054 1055), (0, .class_ 1056), (0, .nameAndType 1057 1058), (0, u "jdk/internal/util/Preconditions"), (0, u "SIOOBE_FORMATTER"), (0, u "Ljava/util/function/BiFunction;"), (0, .methodref 1054 1060), (0, .nameAndType 501 1061), (0, u "(IILjava/util/function/BiFunction;)I"), (2, u "(IIILjava/util/function/BiFunction;)I"), (0, .methodref 1054 1066), (0, .nameAndType 1067 1064), (0, u "checkFromIndexSize"), (33, u "serialPersistentFields"), (0, u "[Ljava/io/ObjectStreamField;"), (0, .class_ 1104), (0, u "java/lang/String$CaseInsensitiveComparator"), (1, .class_ 1107), (0, u "java/io/Serializable"), (0, .class_ 1109), (0, u "java/lang/Comparable"), (0, .class_ 1111), (0, u "java/lang/constant/Constable"), (0, .class_ 1113), (0, u "java/lang/constant/ConstantDesc"), (2, u "serialVersionUID"), (0, u "J"), (3, u "REPL"), (0, u "C"), (2, u "LATIN1"), (1, u "UTF16")] 323

def k9m0 : Method := { name := "<init>", desc := "()V", sig := { parameters := [], returnType := none }, accessFlags := 1, code := none }
def k9c1 : Code := { maxStack := 7, maxLocals := 4, code := jdk_42_method_4_code, exceptionTable := #[], attributes := #[] }
def k9m1 : Method := { name := "<init>", desc := "([CII)V", sig := { parameters := [(.array .char), .int, .int], returnType := none }, accessFlags := 1, code := some k9c1 }
def k9c2 : Code := { maxStack := 3, maxLocals := 3, code := jdk_42_method_5_code, exceptionTable := #[], attributes := #[] }
def k9m2 : Method := { name := "rangeCheck", desc := "([CII)Ljava/lang/Void;", sig := { parameters := [(.array .char), .int, .int], returnType := some (.object "java/lang/Void") }, accessFlags := 10, code := some k9c2 }
def k9c3 : Code := { maxStack := 2, maxLocals := 1, code := jdk_42_method_54_code, exceptionTable := #[], attributes := #[] }
def k9m3 : Method := { name := "length", desc := "()I", sig := { parameters := [], returnType := some .int }, accessFlags := 1, code := some k9c3 }
def k9c4 : Code := { maxStack := 2, maxLocals := 2, code := jdk_42_method_56_code, exceptionTable := #[], attributes := #[] }
def k9m4 : Method := { name := "charAt", desc := "(I)C", sig := { parameters := [.int], returnType := some .char }, accessFlags := 1, code := some k9c4 }
def k9c5 : Code := { maxStack := 4, maxLocals := 6, code := jdk_42_method_149_code, exceptionTable := #[], attributes := #[] }
def k9m5 : Method := { name := "<init>", desc := "([CIILjava/lang/Void;)V", sig := { parameters := [(.array .char), .int, .int, (.object "java/lang/Void")], returnType := none }, accessFlags := 2, code := some k9c5 }
def k9c6 : Code := { maxStack := 1, maxLocals := 1, code := jdk_42_method_152_code, exceptionTable := #[], attributes := #[] }
def k9m6 : Method := { name := "coder", desc := "()B", sig := { parameters := [], returnType := some .byte }, accessFlags := 0, code := some k9c6 }
def k9c7 : Code := { maxStack := 1, maxLocals := 1, code := jdk_42_method_154_code, exceptionTable := #[], attributes := #[] }
def k9m7 : Method := { name := "isLatin1", desc := "()Z", sig := { parameters := [], returnType := some .boolean }, accessFlags := 0, code := some k9c7 }
def k9c8 : Code := { maxStack := 3, maxLocals := 2, code := jdk_42_method_155_code, exceptionTable := #[], attributes := #[] }
def k9m8 : Method := { name := "checkIndex", desc := "(II)V", sig := { parameters := [.int, .int], returnType := none }, accessFlags := 8, code := some k9c8 }
def k9c9 : Code := { maxStack := 4, maxLocals := 3, code := jdk_42_method_157_code, exceptionTable := #[], attributes := #[] }
def k9m9 : Method := { name := "checkBoundsOffCount", desc := "(III)I", sig := { parameters := [.int, .int, .int], returnType := some .int }, accessFlags := 8, code := some k9c9 }
/-- java/lang/String -/
def k9 : Class := { plain "java/lang/String" (some 0) with
  accessFlags := 49
  interfaces := #[4, 5, 6, 7, 8]
  cf := some (fileOf pool9 10 #[.nestMembers #[1103]] #[{ accessFlags := 1, nameIndex := 5, descriptorIndex := 6, attributes := #[] }, { accessFlags := 1, nameIndex := 5, descriptorIndex := 972, attributes := #[] }, { accessFlags := 10, nameIndex := 32, descriptorIndex := 33, attributes := #[] }, { accessFlags := 1, nameIndex := 507, descriptorIndex := 334, attributes := #[] }, { accessFlags := 1, nameIndex := 497, descriptorIndex := 427, attributes := #[] }, { accessFlags := 2, nameIndex := 5, descriptorIndex := 29, attributes := #[] }, { accessFlags := 0, nameIndex := 17, descriptorIndex := 337, attributes := #[] }, { accessFlags := 0, nameIndex := 494, descriptorIndex := 142, attributes := #[] }, { accessFlags := 8, nameIndex := 501, descriptorIndex := 391, attributes := #[] }, { accessFlags := 8, nameIndex := 36, descriptorIndex := 37, attributes := #[] }] 49 2 #[1106, 1108, 575, 1110, 1112] #[{ accessFlags := 18, nameIndex := 13, descriptorIndex := 14, attributes := #[] }, { accessFlags := 18, nameIndex := 17, descriptorIndex := 18, attributes := #[] }, { accessFlags := 2, nameIndex := 21, descriptorIndex := 22, attributes := #[] }, { accessFlags := 2, nameIndex := 25, descriptorIndex := 26, attributes := #[] }, { accessFlags := 26, nameIndex := 1116, descriptorIndex := 1117, attributes := #[] }, { accessFlags := 24, nameIndex := 40, descriptorIndex := 26, attributes := #[] }, { accessFlags := 26, nameIndex := 1101, descriptorIndex := 1102, attributes := #[] }, { accessFlags := 26, nameIndex := 1121, descriptorIndex := 1122, attributes := #[] }, { accessFlags := 25, nameIndex := 599, descriptorIndex := 600, attributes := #[] }, { accessFlags := 24, nameIndex := 1125, descriptorIndex := 18, attributes := #[] }, { accessFlags := 24, nameIndex := 1127, descriptorIndex := 18, attributes := #[] }])
  fields := #[{ name := "value", type := (.array .byte), accessFlags := 18, slot := 0, constantValue := 0 }, { name := "coder", type := .byte, accessFlags := 18, slot := 1, constantValue := 0 }, { name := "hash", type := .int, accessFlags := 2, slot := 2, constantValue := 0 }, { name := "hashIsZero", type := .boolean, accessFlags := 2, slot := 3, constantValue := 0 }, { name := "serialVersionUID", type := .long, accessFlags := 26, slot := 0, constantValue := 0 }, { name := "COMPACT_STRINGS", type := .boolean, accessFlags := 24, slot := 1, constantValue := 0 }, { name := "serialPersistentFields", type := (.array (.object "java/io/ObjectStreamField")), accessFlags := 26, slot := 2, constantValue := 0 }, { name := "REPL", type := .char, accessFlags := 26, slot := 3, constantValue := 0 }, { name := "CASE_INSENSITIVE_ORDER", type := (.object "java/util/Comparator"), accessFlags := 25, slot := 4, constantValue := 0 }, { name := "LATIN1", type := .byte, accessFlags := 24, slot := 5, constantValue := 0 }, { name := "UTF16", type := .byte, accessFlags := 24, slot := 6, constantValue := 0 }]
  methods := #[k9m0, k9m1, k9m2, k9m3, k9m4, k9m5, k9m6, k9m7, k9m8, k9m9]
  instanceTypes := #[(.array .byte), .byte, .int, .boolean]
  staticTypes := #[.long, .boolean, (.array (.object "java/io/ObjectStreamField")), .char, (.object "java/util/Comparator"), .byte, .byte]
  resolved := Array.replicate 1451 none
  statics := some 0 }

def pool10 : Array CpInfo := pool [(2, .class_ 4), (1, u "java/lang/Object"), (0, u "<init>"), (0, u "()V"), (17, .class_ 26), (1, u "jdk/internal/util/Preconditions"), (6, u "checkIndex"), (15, u "checkFromIndexSize"), (5, .class_ 56), (0, u "jdk/internal/util/Preconditions$4"), (57, .class_ 115), (0, u "jdk/internal/util/Preconditions$1"), (7, u "SIOOBE_FORMATTER"), (0, u "Ljava/util/function/BiFunction;"), (0, .class_ 126), (0, u "jdk/internal/util/Preconditions$2"), (3, u "AIOOBE_FORMATTER"), (0, .class_ 132), (0, u "jdk/internal/util/Preconditions$3"), (3, u "IOOBE_FORMATTER"), (41, u "(IILjava/util/function/BiFunction;)I"), (4, u "(IIILjava/util/function/BiFunction;)I")] 10

def k10m0 : Method := { name := "<init>", desc := "()V", sig := { parameters := [], returnType := none }, accessFlags := 1, code := none }
def k10c1 : Code := { maxStack := 3, maxLocals := 3, code := jdk_41_method_11_code, exceptionTable := #[], attributes := #[] }
def k10m1 : Method := { name := "checkIndex", desc := "(IILjava/util/function/BiFunction;)I", sig := { parameters := [.int, .int, (.object "java/util/function/BiFunction")], returnType := some .int }, accessFlags := 9, code := some k10c1 }
def k10c2 : Code := { maxStack := 4, maxLocals := 4, code := jdk_41_method_13_code, exceptionTable := #[], attributes := #[] }
def k10m2 : Method := { name := "checkFromIndexSize", desc := "(IIILjava/util/function/BiFunction;)I", sig := { parameters := [.int, .int, .int, (.object "java/util/function/BiFunction")], returnType := some .int }, accessFlags := 9, code := some k10c2 }
/-- jdk/internal/util/Preconditions -/
def k10 : Class := { plain "jdk/internal/util/Preconditions" (some 0) with
  accessFlags := 33
  interfaces := #[]
  cf := some (fileOf pool10 24 #[.nestMembers #[55, 131, 125, 114]] #[{ accessFlags := 1, nameIndex := 5, descriptorIndex := 6, attributes := #[] }, { accessFlags := 9, nameIndex := 33, descriptorIndex := 178, attributes := #[] }, { accessFlags := 9, nameIndex := 49, descriptorIndex := 183, attributes := #[] }] 33 2 #[] #[{ accessFlags := 25, nameIndex := 123, descriptorIndex := 124, attributes := #[] }, { accessFlags := 25, nameIndex := 130, descriptorIndex := 124, attributes := #[] }, { accessFlags := 25, nameIndex := 136, descriptorIndex := 124, attributes := #[] }])
  fields := #[{ name := "SIOOBE_FORMATTER", type := (.object "java/util/function/BiFunction"), accessFlags := 25, slot := 0, constantValue := 0 }, { name := "AIOOBE_FORMATTER", type := (.object "java/util/function/BiFunction"), accessFlags := 25, slot := 1, constantValue := 0 }, { name := "IOOBE_FORMATTER", type := (.object "java/util/function/BiFunction"), accessFlags := 25, slot := 2, constantValue := 0 }]
  methods := #[k10m0, k10m1, k10m2]
  instanceTypes := #[]
  staticTypes := #[(.object "java/util/function/BiFunction"), (.object "java/util/function/BiFunction"), (.object "java/util/function/BiFunction")]
  resolved := Array.replicate 194 none
  statics := some 1 }

def pool11 : Array CpInfo := pool [(6, .class_ 8), (1, u "java/lang/Object"), (0, u "<init>"), (0, u "()V"), (1, .class_ 14), (1, u "java/lang/StringUTF16"), (31, u "$assertionsDisabled"), (0, u "Z"), (13, u "HI_BYTE_SHIFT"), (0, u "I"), (2, u "LO_BYTE_SHIFT"), (49, .methodref 12 116), (0, .nameAndType 117 118), (0, u "compress"), (0, u "([CI[BII)I"), (3, u "([CII)[B"), (138, u "coderFromArrayLen"), (0, u "([BI)B"), (106, .class_ 371), (1, u "java/lang/StringUTF16$LinesSpliterator"), (58, u "MAX_LENGTH"), (196, .class_ 628), (0, u "java/lang/StringUTF16$CodePointsSpliterator"), (0, .class_ 630), (0, u "java/lang/StringUTF16$CharsSpliterator")] 4

def k11m0 : Method := { name := "<init>", desc := "()V", sig := { parameters := [], returnType := none }, accessFlags := 0, code := none }
def k11c1 : Code := { maxStack := 2, maxLocals := 2, code := jdk_52_method_15_code, exceptionTable := #[], attributes := #[] }
def k11m1 : Method := { name := "coderFromArrayLen", desc := "([BI)B", sig := { parameters := [(.array .byte), .int], returnType := some .byte }, accessFlags := 8, code := some k11c1 }
def k11c2 : Code := { maxStack := 5, maxLocals := 6, code := jdk_52_method_16_code, exceptionTable := #[], attributes := #[] }
def k11m2 : Method := { name := "compress", desc := "([CII)[B", sig := { parameters := [(.array .char), .int, .int], returnType := some (.array .byte) }, accessFlags := 9, code := some k11c2 }
def k11c3 : Code := { maxStack := 3, maxLocals := 7, code := jdk_52_method_21_code, exceptionTable := #[], attributes := #[] }
def k11m3 : Method := { name := "compress", desc := "([CI[BII)I", sig := { parameters := [(.array .char), .int, (.array .byte), .int, .int], returnType := some .int }, accessFlags := 9, code := some k11c3 }
/-- java/lang/StringUTF16 -/
def k11 : Class := { plain "java/lang/StringUTF16" (some 0) with
  accessFlags := 48
  interfaces := #[]
  cf := some (fileOf pool11 12 #[.nestMembers #[627, 629, 369]] #[{ accessFlags := 0, nameIndex := 9, descriptorIndex := 10, attributes := #[] }, { accessFlags := 8, nameIndex := 261, descriptorIndex := 262, attributes := #[] }, { accessFlags := 9, nameIndex := 117, descriptorIndex := 122, attributes := #[] }, { accessFlags := 9, nameIndex := 117, descriptorIndex := 118, attributes := #[] }] 48 6 #[] #[{ accessFlags := 26, nameIndex := 61, descriptorIndex := 62, attributes := #[] }, { accessFlags := 26, nameIndex := 65, descriptorIndex := 62, attributes := #[] }, { accessFlags := 24, nameIndex := 430, descriptorIndex := 62, attributes := #[] }, { accessFlags := 4120, nameIndex := 46, descriptorIndex := 47, attributes := #[] }])
  fields := #[{ name := "HI_BYTE_SHIFT", type := .int, accessFlags := 26, slot := 0, constantValue := 0 }, { name := "LO_BYTE_SHIFT", type := .int, accessFlags := 26, slot := 1, constantValue := 0 }, { name := "MAX_LENGTH", type := .int, accessFlags := 24, slot := 2, constantValue := 0 }, { name := "$assertionsDisabled", type := .boolean, accessFlags := 4120, slot := 3, constantValue := 0 }]
  methods := #[k11m0, k11m1, k11m2, k11m3]
  instanceTypes := #[]
  staticTypes := #[.int, .int, .int, .boolean]
  resolved := Array.replicate 635 none
  statics := none }

def pool12 : Array CpInfo := pool [(1, .class_ 2), (0, u "java/lang/String"), (1, .class_ 6), (1, u "java/lang/Object"), (0, u "<init>"), (0, u "()V"), (0, .methodref 1 10), (0, .nameAndType 11 12), (0, u "checkIndex"), (0, u "(II)V"), (1, .class_ 16), (1, u "java/lang/StringLatin1"), (36, u "([BI)C"), (67, u "$assertionsDisabled"), (0, u "Z"), (98, .class_ 223), (1, u "java/lang/StringLatin1$LinesSpliterator"), (28, u "charAt"), (137, .class_ 391), (0, u "java/lang/StringLatin1$CharsSpliterator")] 3

def k12m0 : Method := { name := "<init>", desc := "()V", sig := { parameters := [], returnType := none }, accessFlags := 0, code := none }
def k12c1 : Code := { maxStack := 2, maxLocals := 2, code := jdk_43_method_2_code, exceptionTable := #[], attributes := #[] }
def k12m1 : Method := { name := "charAt", desc := "([BI)C", sig := { parameters := [(.array .byte), .int], returnType := some .char }, accessFlags := 9, code := some k12c1 }
/-- java/lang/StringLatin1 -/
def k12 : Class := { plain "java/lang/StringLatin1" (some 0) with
  accessFlags := 48
  interfaces := #[]
  cf := some (fileOf pool12 14 #[.nestMembers #[390, 221]] #[{ accessFlags := 0, nameIndex := 7, descriptorIndex := 8, attributes := #[] }, { accessFlags := 9, nameIndex := 252, descriptorIndex := 53, attributes := #[] }] 48 4 #[] #[{ accessFlags := 4120, nameIndex := 121, descriptorIndex := 122, attributes := #[] }])
  fields := #[{ name := "$assertionsDisabled", type := .boolean, accessFlags := 4120, slot := 0, constantValue := 0 }]
  methods := #[k12m0, k12m1]
  instanceTypes := #[]
  staticTypes := #[.boolean]
  resolved := Array.replicate 395 none
  statics := none }

def pool13 : Array CpInfo := pool [(9, u "<init>"), (6, .class_ 18), (1, u "java/lang/Object"), (0, u "()V"), (1, .class_ 23), (1, u "jdk/internal/util/ArraysSupport"), (0, u "LOG2_ARRAY_LONG_INDEX_SCALE"), (0, u "I"), (2, u "U"), (0, u "Ljdk/internal/misc/Unsafe;"), (8, u "BIG_ENDIAN"), (0, u "Z"), (8, u "LOG2_BYTE_BIT_SIZE"), (4, u "LOG2_ARRAY_INT_INDEX_SCALE"), (54, u "JLA"), (0, u "Ljdk/internal/access/JavaLangAccess;"), (11, u "LOG2_ARRAY_BOOLEAN_INDEX_SCALE"), (9, u "LOG2_ARRAY_BYTE_INDEX_SCALE"), (5, u "LOG2_ARRAY_CHAR_INDEX_SCALE"), (5, u "LOG2_ARRAY_SHORT_INDEX_SCALE"), (18, u "LOG2_ARRAY_FLOAT_INDEX_SCALE"), (24, u "LOG2_ARRAY_DOUBLE_INDEX_SCALE"), (89, u "T_BOOLEAN"), (2, u "T_CHAR"), (1, u "T_FLOAT"), (1, u "T_DOUBLE"), (1, u "T_BYTE"), (1, u "T_SHORT"), (1, u "T_INT"), (1, u "T_LONG"), (1, u "SOFT_MAX_ARRAY_LENGTH")] 83

def k13m0 : Method := { name := "<init>", desc := "()V", sig := { parameters := [], returnType := none }, accessFlags := 2, code := none }
/-- jdk/internal/util/ArraysSupport -/
def k13 : Class := { plain "jdk/internal/util/ArraysSupport" (some 0) with
  accessFlags := 33
  interfaces := #[]
  cf := some (fileOf pool13 21 #[] #[{ accessFlags := 2, nameIndex := 9, descriptorIndex := 19, attributes := #[] }] 33 16 #[] #[{ accessFlags := 24, nameIndex := 28, descriptorIndex := 29, attributes := #[] }, { accessFlags := 26, nameIndex := 38, descriptorIndex := 39, attributes := #[] }, { accessFlags := 25, nameIndex := 121, descriptorIndex := 25, attributes := #[] }, { accessFlags := 25, nameIndex := 131, descriptorIndex := 25, attributes := #[] }, { accessFlags := 25, nameIndex := 137, descriptorIndex := 25, attributes := #[] }, { accessFlags := 25, nameIndex := 143, descriptorIndex := 25, attributes := #[] }, { accessFlags := 25, nameIndex := 53, descriptorIndex := 25, attributes := #[] }, { accessFlags := 25, nameIndex := 24, descriptorIndex := 25, attributes := #[] }, { accessFlags := 25, nameIndex := 162, descriptorIndex := 25, attributes := #[] }, { accessFlags := 25, nameIndex := 187, descriptorIndex := 25, attributes := #[] }, { accessFlags := 26, nameIndex := 48, descriptorIndex := 25, attributes := #[] }, { accessFlags := 25, nameIndex := 277, descriptorIndex := 25, attributes := #[] }, { accessFlags := 25, nameIndex := 280, descriptorIndex := 25, attributes := #[] }, { accessFlags := 25, nameIndex := 282, descriptorIndex := 25, attributes := #[] }, { accessFlags := 25, nameIndex := 284, descriptorIndex := 25, attributes := #[] }, { accessFlags := 25, nameIndex := 286, descriptorIndex := 25, attributes := #[] }, { accessFlags := 25, nameIndex := 288, descriptorIndex := 25, attributes := #[] }, { accessFlags := 25, nameIndex := 290, descriptorIndex := 25, attributes := #[] }, { accessFlags := 25, nameIndex := 292, descriptorIndex := 25, attributes := #[] }, { accessFlags := 26, nameIndex := 108, descriptorIndex := 109, attributes := #[] }, { accessFlags := 25, nameIndex := 294, descriptorIndex := 25, attributes := #[] }])
  fields := #[{ name := "U", type := (.object "jdk/internal/misc/Unsafe"), accessFlags := 24, slot := 0, constantValue := 0 }, { name := "BIG_ENDIAN", type := .boolean, accessFlags := 26, slot := 1, constantValue := 0 }, { name := "LOG2_ARRAY_BOOLEAN_INDEX_SCALE", type := .int, accessFlags := 25, slot := 2, constantValue := 0 }, { name := "LOG2_ARRAY_BYTE_INDEX_SCALE", type := .int, accessFlags := 25, slot := 3, constantValue := 0 }, { name := "LOG2_ARRAY_CHAR_INDEX_SCALE", type := .int, accessFlags := 25, slot := 4, constantValue := 0 }, { name := "LOG2_ARRAY_SHORT_INDEX_SCALE", type := .int, accessFlags := 25, slot := 5, constantValue := 0 }, { name := "LOG2_ARRAY_INT_INDEX_SCALE", type := .int, accessFlags := 25, slot := 6, constantValue := 0 }, { name := "LOG2_ARRAY_LONG_INDEX_SCALE", type := .int, accessFlags := 25, slot := 7, constantValue := 0 }, { name := "LOG2_ARRAY_FLOAT_INDEX_SCALE", type := .int, accessFlags := 25, slot := 8, constantValue := 0 }, { name := "LOG2_ARRAY_DOUBLE_INDEX_SCALE", type := .int, accessFlags := 25, slot := 9, constantValue := 0 }, { name := "LOG2_BYTE_BIT_SIZE", type := .int, accessFlags := 26, slot := 10, constantValue := 0 }, { name := "T_BOOLEAN", type := .int, accessFlags := 25, slot := 11, constantValue := 0 }, { name := "T_CHAR", type := .int, accessFlags := 25, slot := 12, constantValue := 0 }, { name := "T_FLOAT", type := .int, accessFlags := 25, slot := 13, constantValue := 0 }, { name := "T_DOUBLE", type := .int, accessFlags := 25, slot := 14, constantValue := 0 }, { name := "T_BYTE", type := .int, accessFlags := 25, slot := 15, constantValue := 0 }, { name := "T_SHORT", type := .int, accessFlags := 25, slot := 16, constantValue := 0 }, { name := "T_INT", type := .int, accessFlags := 25, slot := 17, constantValue := 0 }, { name := "T_LONG", type := .int, accessFlags := 25, slot := 18, constantValue := 0 }, { name := "JLA", type := (.object "jdk/internal/access/JavaLangAccess"), accessFlags := 26, slot := 19, constantValue := 0 }, { name := "SOFT_MAX_ARRAY_LENGTH", type := .int, accessFlags := 25, slot := 20, constantValue := 0 }]
  methods := #[k13m0]
  instanceTypes := #[]
  staticTypes := #[(.object "jdk/internal/misc/Unsafe"), .boolean, .int, .int, .int, .int, .int, .int, .int, .int, .int, .int, .int, .int, .int, .int, .int, .int, .int, (.object "jdk/internal/access/JavaLangAccess"), .int]
  resolved := Array.replicate 378 none
  statics := none }

def pool14 : Array CpInfo := pool [(1, u "java/lang/Cloneable"), (0, .class_ 1), (0, u "java/lang/Object"), (0, .class_ 3)] 3

/-- java/lang/Cloneable -/
def k14 : Class := { plain "java/lang/Cloneable" (some 0) with
  accessFlags := 1537
  interfaces := #[]
  cf := some (fileOf pool14 2 #[] #[] 1537 4 #[] #[])
  fields := #[]
  methods := #[]
  instanceTypes := #[]
  staticTypes := #[]
  resolved := Array.replicate 8 none
  statics := none }

/-- the primitive byte -/
def k15 : Class := { plain "byte" none with kind := .primitive 'B', accessFlags := 0x411 }
/-- [B -/
def k16 : Class := { plain "[B" (some 0) with kind := .array 15 .byte, interfaces := #[14, 4], accessFlags := 1041 }

/-- the primitive char -/
def k17 : Class := { plain "char" none with kind := .primitive 'C', accessFlags := 0x411 }
/-- [C -/
def k18 : Class := { plain "[C" (some 0) with kind := .array 17 .char, interfaces := #[14, 4], accessFlags := 1041 }

/-- the primitive int -/
def k19 : Class := { plain "int" none with kind := .primitive 'I', accessFlags := 0x411 }
/-- [I -/
def k20 : Class := { plain "[I" (some 0) with kind := .array 19 .int, interfaces := #[14, 4], accessFlags := 1041 }

def heap : Heap := #[{ cls := 9, slots := #[.long 0, .int 1, .null, .int 0, .null, .int 0, .int 0], vm := .statics 9 },
  { cls := 10, slots := #[.null, .null, .null], vm := .statics 10 }]
def classes : Array Class := #[k0, k1, k2, k3, k4, k5, k6, k7, k8, k9, k10, k11, k12, k13, k14, k15, k16, k17, k18, k19, k20]
def interned : List (Array UInt16 × Addr) := []
def slotsUsed : Nat := 10
def theMethod : MethodId := ⟨1, 1⟩
def args0 : Array Value := #[.long 5, .long 7, .int 1, .int 2, .int 3, .int 4]
def aboutOver (below : List Frame) : State where
  vm := { classes := classes, interned := interned.toArray }
  heap := heap
  slotsUsed := slotsUsed
  threads := #[{ frames := .invoking theMethod args0 :: below }]
def below0 : List Frame := [.native { method := ⟨0, 0⟩, args := #[] }]
def about1 : State := aboutOver below0
def p0 : Program := .bare "" "" ""
def e0 : Env := launch0.env 0 0 0
theorem w_frames : about1.frames = Frame.invoking theMethod args0 :: below0 := rfl
set_option maxRecDepth 65536 in
theorem w_args : argsFit about1.vm theMethod args0 = true := by decide +kernel
set_option maxRecDepth 65536 in
theorem w_heap : heapFits about1 = true := by decide +kernel
set_option maxRecDepth 65536 in
theorem w_runnable : about1.curStatus? = some .runnable := by decide +kernel
set_option maxRecDepth 65536 in
theorem w_alone : about1.alone = true := by decide +kernel
set_option maxRecDepth 65536 in
theorem w_named : about1.methodNamed? x = some theMethod := by decide +kernel
set_option maxRecDepth 65536 in
theorem w_hears : about1.hears theMethod below0 = true := by decide +kernel
set_option maxRecDepth 65536 in
theorem w_ripe : about1.ripe theMethod args0 below0 = true := by decide +kernel
theorem w_running : about1.status = .running := rfl
set_option maxRecDepth 65536 in
theorem w_room : about1.hasRoom e0.platform room_1 = true :=
  launch0.hasRoom_least _ room_1 (by decide +kernel) (by decide +kernel) (by decide +kernel) (by decide +kernel) (by decide +kernel) (by decide +kernel)
theorem allAtoms_all (ts : List Jvm.Cond) (a : Array Jvm.Value) (st : Jvm.State) : (allAtoms ts).before a st = ts.all (fun c => c.before a st) := by
  induction ts with
  | nil => rfl
  | cons c t ih =>
    show (Jvm.Cond.and c (allAtoms t)).before a st = _
    rw [Jvm.Cond.before_and, ih, List.all_cons]
def words1 : List Jvm.Cond := Jvm.Cond.code x code maxLocals ret :: tables_1
/-- a 'code' word, met by the world's own term for the bytes: nothing is compared byte by byte -/
theorem code_word {y : MethodName} {bytes : ByteArray} {mx : Nat} {rt : Option FieldType} {a : Array Value} {s : State} {m : MethodId} {meth : Method} {c : Code} (h1 : s.methodNamed? y = some m) (h2 : s.vm.method? m = some meth) (h3 : meth.code = some c) (h4 : c.code = bytes)
    (h5 : (c.maxLocals == mx && c.exceptionTable.isEmpty && decide (c.maxStack ≤ mostOperands) && decide (meth.sig.returnType = rt) && !meth.locks && decide (parseMethodDescriptor y.desc = some meth.sig)) = true) : (Jvm.Cond.code y bytes mx rt).before a s = true := by
  simp only [Bool.and_eq_true, beq_iff_eq, Bool.not_eq_true', decide_eq_true_eq] at h5
  obtain ⟨⟨⟨⟨⟨g1, g2⟩, g3⟩, g4⟩, g5⟩, g6⟩ := h5
  simp [Cond.before, Cond.holds, Cond.value, h1, h2, h3, h4, g1, g2, g3, g4, g5, g6]
def isCode : Jvm.Cond → Bool
  | .code _ _ _ _ => true
  | _ => false
theorem all_split {L : List Jvm.Cond} {P : Jvm.Cond → Bool} (h1 : L.all (fun c => isCode c || P c) = true) (h2 : ∀ c ∈ L.filter isCode, P c = true) : L.all P = true := by
  refine List.all_eq_true.mpr fun c hc => ?_
  have h := List.all_eq_true.mp h1 c hc
  rcases Bool.eq_false_or_eq_true (isCode c) with hi | hi
  · exact h2 c (List.mem_filter.mpr ⟨hc, hi⟩)
  · simpa [hi] using h
set_option maxRecDepth 65536 in
theorem w_c0 : (Jvm.Cond.code x code maxLocals ret).before args0 about1 = true := code_word (m := ⟨1, 1⟩) (meth := k1m1) (c := k1c1) (by decide +kernel) rfl rfl rfl (by decide +kernel)
set_option maxRecDepth 65536 in
theorem w_c1 : (Jvm.Cond.code ({ cls := "com/example/enumconv/enumconv/core/ReadingToStringPinLaw", name := "chars", desc := "(J)[C" } : Jvm.MethodName) method_3_code (3 : Nat) (Option.some (Jvm.ClassFile.FieldType.array Jvm.ClassFile.FieldType.char))).before args0 about1 = true := code_word (m := ⟨1, 2⟩) (meth := k1m2) (c := k1c2) (by decide +kernel) rfl rfl rfl (by decide +kernel)
set_option maxRecDepth 65536 in
theorem w_c2 : (Jvm.Cond.code ({ cls := "com/example/enumconv/enumconv/core/Decimal$Reading", name := "<init>", desc := "()V" } : Jvm.MethodName) prog_3_method_1_code (1 : Nat) (Option.none : Option Jvm.ClassFile.FieldType)).before args0 about1 = true := code_word (m := ⟨2, 0⟩) (meth := k2m0) (c := k2c0) (by decide +kernel) rfl rfl rfl (by decide +kernel)
set_option maxRecDepth 65536 in
theorem w_c3 : (Jvm.Cond.code ({ cls := "java/lang/Object", name := "<init>", desc := "()V" } : Jvm.MethodName) object_method_1_code (1 : Nat) (Option.none : Option Jvm.ClassFile.FieldType)).before args0 about1 = true := code_word (m := ⟨0, 0⟩) (meth := k0m0) (c := k0c0) (by decide +kernel) rfl rfl rfl (by decide +kernel)
set_option maxRecDepth 65536 in
theorem w_c4 : (Jvm.Cond.code ({ cls := "com/example/enumconv/enumconv/core/Decimal$Reading", name := "read", desc := "([CII)Lcom/example/enumconv/enumconv/core/Decimal$Reading;" } : Jvm.MethodName) prog_3_method_3_code (5 : Nat) (Option.some (Jvm.ClassFile.FieldType.object "com/example/enumconv/enumconv/core/Decimal$Reading"))).before args0 about1 = true := code_word (m := ⟨2, 1⟩) (meth := k2m1) (c := k2c1) (by decide +kernel) rfl rfl rfl (by decide +kernel)
set_option maxRecDepth 65536 in
theorem w_c5 : (Jvm.Cond.code ({ cls := "com/example/enumconv/enumconv/core/Decimal$Reading", name := "digit", desc := "(I)C" } : Jvm.MethodName) prog_3_method_10_code (3 : Nat) (Option.some Jvm.ClassFile.FieldType.char)).before args0 about1 = true := code_word (m := ⟨2, 2⟩) (meth := k2m2) (c := k2c2) (by decide +kernel) rfl rfl rfl (by decide +kernel)
set_option maxRecDepth 65536 in
theorem w_c6 : (Jvm.Cond.code ({ cls := "java/lang/Math", name := "min", desc := "(II)I" } : Jvm.MethodName) jdk_29_method_69_code (2 : Nat) (Option.some Jvm.ClassFile.FieldType.int)).before args0 about1 = true := code_word (m := ⟨3, 1⟩) (meth := k3m1) (c := k3c1) (by decide +kernel) rfl rfl rfl (by decide +kernel)
set_option maxRecDepth 65536 in
theorem w_c7 : (Jvm.Cond.code ({ cls := "com/example/enumconv/enumconv/core/Decimal$Reading", name := "toString", desc := "()Ljava/lang/String;" } : Jvm.MethodName) prog_3_method_14_code (1 : Nat) (Option.some (Jvm.ClassFile.FieldType.object "java/lang/String"))).before args0 about1 = true := code_word (m := ⟨2, 3⟩) (meth := k2m3) (c := k2c3) (by decide +kernel) rfl rfl rfl (by decide +kernel)
set_option maxRecDepth 65536 in
theorem w_c8 : (Jvm.Cond.code ({ cls := "java/lang/String", name := "<init>", desc := "([CII)V" } : Jvm.MethodName) jdk_42_method_4_code (4 : Nat) (Option.none : Option Jvm.ClassFile.FieldType)).before args0 about1 = true := code_word (m := ⟨9, 1⟩) (meth := k9m1) (c := k9c1) (by decide +kernel) rfl rfl rfl (by decide +kernel)
set_option maxRecDepth 65536 in
theorem w_c9 : (Jvm.Cond.code ({ cls := "java/lang/String", name := "rangeCheck", desc := "([CII)Ljava/lang/Void;" } : Jvm.MethodName) jdk_42_method_5_code (3 : Nat) (Option.some (Jvm.ClassFile.FieldType.object "java/lang/Void"))).before args0 about1 = true := code_word (m := ⟨9, 2⟩) (meth := k9m2) (c := k9c2) (by decide +kernel) rfl rfl rfl (by decide +kernel)
set_option maxRecDepth 65536 in
theorem w_c10 : (Jvm.Cond.code ({ cls := "java/lang/String", name := "checkBoundsOffCount", desc := "(III)I" } : Jvm.MethodName) jdk_42_method_157_code (3 : Nat) (Option.some Jvm.ClassFile.FieldType.int)).before args0 about1 = true := code_word (m := ⟨9, 9⟩) (meth := k9m9) (c := k9c9) (by decide +kernel) rfl rfl rfl (by decide +kernel)
set_option maxRecDepth 65536 in
theorem w_c11 : (Jvm.Cond.code ({ cls := "jdk/internal/util/Preconditions", name := "checkFromIndexSize", desc := "(IIILjava/util/function/BiFunction;)I" } : Jvm.MethodName) jdk_41_method_13_code (4 : Nat) (Option.some Jvm.ClassFile.FieldType.int)).before args0 about1 = true := code_word (m := ⟨10, 2⟩) (meth := k10m2) (c := k10c2) (by decide +kernel) rfl rfl rfl (by decide +kernel)
set_option maxRecDepth 65536 in
theorem w_c12 : (Jvm.Cond.code ({ cls := "java/lang/String", name := "<init>", desc := "([CIILjava/lang/Void;)V" } : Jvm.MethodName) jdk_42_method_149_code (6 : Nat) (Option.none : Option Jvm.ClassFile.FieldType)).before args0 about1 = true := code_word (m := ⟨9, 5⟩) (meth := k9m5) (c := k9c5) (by decide +kernel) rfl rfl rfl (by decide +kernel)
set_option maxRecDepth 65536 in
theorem w_c13 : (Jvm.Cond.code ({ cls := "java/lang/StringUTF16", name := "compress", desc := "([CII)[B" } : Jvm.MethodName) jdk_52_method_16_code (6 : Nat) (Option.some (Jvm.ClassFile.FieldType.array Jvm.ClassFile.FieldType.byte))).before args0 about1 = true := code_word (m := ⟨11, 2⟩) (meth := k11m2) (c := k11c2) (by decide +kernel) rfl rfl rfl (by decide +kernel)
set_option maxRecDepth 65536 in
theorem w_c14 : (Jvm.Cond.code ({ cls := "java/lang/StringUTF16", name := "compress", desc := "([CI[BII)I" } : Jvm.MethodName) jdk_52_method_21_code (7 : Nat) (Option.some Jvm.ClassFile.FieldType.int)).before args0 about1 = true := code_word (m := ⟨11, 3⟩) (meth := k11m3) (c := k11c3) (by decide +kernel) rfl rfl rfl (by decide +kernel)
set_option maxRecDepth 65536 in
theorem w_c15 : (Jvm.Cond.code ({ cls := "java/lang/StringUTF16", name := "coderFromArrayLen", desc := "([BI)B" } : Jvm.MethodName) jdk_52_method_15_code (2 : Nat) (Option.some Jvm.ClassFile.FieldType.byte)).before args0 about1 = true := code_word (m := ⟨11, 1⟩) (meth := k11m1) (c := k11c1) (by decide +kernel) rfl rfl rfl (by decide +kernel)
set_option maxRecDepth 65536 in
theorem w_c16 : (Jvm.Cond.code ({ cls := "java/lang/String", name := "length", desc := "()I" } : Jvm.MethodName) jdk_42_method_54_code (1 : Nat) (Option.some Jvm.ClassFile.FieldType.int)).before args0 about1 = true := code_word (m := ⟨9, 3⟩) (meth := k9m3) (c := k9c3) (by decide +kernel) rfl rfl rfl (by decide +kernel)
set_option maxRecDepth 65536 in
theorem w_c17 : (Jvm.Cond.code ({ cls := "java/lang/String", name := "coder", desc := "()B" } : Jvm.MethodName) jdk_42_method_152_code (1 : Nat) (Option.some Jvm.ClassFile.FieldType.byte)).before args0 about1 = true := code_word (m := ⟨9, 6⟩) (meth := k9m6) (c := k9c6) (by decide +kernel) rfl rfl rfl (by decide +kernel)
set_option maxRecDepth 65536 in
theorem w_c18 : (Jvm.Cond.code ({ cls := "com/example/enumconv/enumconv/core/ReadingToStringPinLaw", name := "same", desc := "(Ljava/lang/String;[CIII)Z" } : Jvm.MethodName) method_4_code (5 : Nat) (Option.some Jvm.ClassFile.FieldType.boolean)).before args0 about1 = true := code_word (m := ⟨1, 3⟩) (meth := k1m3) (c := k1c3) (by decide +kernel) rfl rfl rfl (by decide +kernel)
set_option maxRecDepth 65536 in
theorem w_c19 : (Jvm.Cond.code ({ cls := "java/lang/String", name := "charAt", desc := "(I)C" } : Jvm.MethodName) jdk_42_method_56_code (2 : Nat) (Option.some Jvm.ClassFile.FieldType.char)).before args0 about1 = true := code_word (m := ⟨9, 4⟩) (meth := k9m4) (c := k9c4) (by decide +kernel) rfl rfl rfl (by decide +kernel)
set_option maxRecDepth 65536 in
theorem w_c20 : (Jvm.Cond.code ({ cls := "java/lang/String", name := "isLatin1", desc := "()Z" } : Jvm.MethodName) jdk_42_method_154_code (1 : Nat) (Option.some Jvm.ClassFile.FieldType.boolean)).before args0 about1 = true := code_word (m := ⟨9, 7⟩) (meth := k9m7) (c := k9c7) (by decide +kernel) rfl rfl rfl (by decide +kernel)
set_option maxRecDepth 65536 in
theorem w_c21 : (Jvm.Cond.code ({ cls := "java/lang/StringLatin1", name := "charAt", desc := "([BI)C" } : Jvm.MethodName) jdk_43_method_2_code (2 : Nat) (Option.some Jvm.ClassFile.FieldType.char)).before args0 about1 = true := code_word (m := ⟨12, 1⟩) (meth := k12m1) (c := k12c1) (by decide +kernel) rfl rfl rfl (by decide +kernel)
set_option maxRecDepth 65536 in
theorem w_c22 : (Jvm.Cond.code ({ cls := "java/lang/String", name := "checkIndex", desc := "(II)V" } : Jvm.MethodName) jdk_42_method_155_code (2 : Nat) (Option.none : Option Jvm.ClassFile.FieldType)).before args0 about1 = true := code_word (m := ⟨9, 8⟩) (meth := k9m8) (c := k9c8) (by decide +kernel) rfl rfl rfl (by decide +kernel)
set_option maxRecDepth 65536 in
theorem w_c23 : (Jvm.Cond.code ({ cls := "jdk/internal/util/Preconditions", name := "checkIndex", desc := "(IILjava/util/function/BiFunction;)I" } : Jvm.MethodName) jdk_41_method_11_code (3 : Nat) (Option.some Jvm.ClassFile.FieldType.int)).before args0 about1 = true := code_word (m := ⟨10, 1⟩) (meth := k10m1) (c := k10c1) (by decide +kernel) rfl rfl rfl (by decide +kernel)
def codes1 : List Jvm.Cond := [Jvm.Cond.code x code maxLocals ret, Jvm.Cond.code ({ cls := "com/example/enumconv/enumconv/core/ReadingToStringPinLaw", name := "chars", desc := "(J)[C" } : Jvm.MethodName) method_3_code (3 : Nat) (Option.some (Jvm.ClassFile.FieldType.array Jvm.ClassFile.FieldType.char)), Jvm.Cond.code ({ cls := "com/example/enumconv/enumconv/core/Decimal$Reading", name := "<init>", desc := "()V" } : Jvm.MethodName) prog_3_method_1_code (1 : Nat) (Option.none : Option Jvm.ClassFile.FieldType), Jvm.Cond.code ({ cls := "java/lang/Object", name := "<init>", desc := "()V" } : Jvm.MethodName) object_method_1_code (1 : Nat) (Option.none : Option Jvm.ClassFile.FieldType), Jvm.Cond.code ({ cls := "com/example/enumconv/enumconv/core/Decimal$Reading", name := "read", desc := "([CII)Lcom/example/enumconv/enumconv/core/Decimal$Reading;" } : Jvm.MethodName) prog_3_method_3_code (5 : Nat) (Option.some (Jvm.ClassFile.FieldType.object "com/example/enumconv/enumconv/core/Decimal$Reading")), Jvm.Cond.code ({ cls := "com/example/enumconv/enumconv/core/Decimal$Reading", name := "digit", desc := "(I)C" } : Jvm.MethodName) prog_3_method_10_code (3 : Nat) (Option.some Jvm.ClassFile.FieldType.char), Jvm.Cond.code ({ cls := "java/lang/Math", name := "min", desc := "(II)I" } : Jvm.MethodName) jdk_29_method_69_code (2 : Nat) (Option.some Jvm.ClassFile.FieldType.int), Jvm.Cond.code ({ cls := "com/example/enumconv/enumconv/core/Decimal$Reading", name := "toString", desc := "()Ljava/lang/String;" } : Jvm.MethodName) prog_3_method_14_code (1 : Nat) (Option.some (Jvm.ClassFile.FieldType.object "java/lang/String")), Jvm.Cond.code ({ cls := "java/lang/String", name := "<init>", desc := "([CII)V" } : Jvm.MethodName) jdk_42_method_4_code (4 : Nat) (Option.none : Option Jvm.ClassFile.FieldType), Jvm.Cond.code ({ cls := "java/lang/String", name := "rangeCheck", desc := "([CII)Ljava/lang/Void;" } : Jvm.MethodName) jdk_42_method_5_code (3 : Nat) (Option.some (Jvm.ClassFile.FieldType.object "java/lang/Void")), Jvm.Cond.code ({ cls := "java/lang/String", name := "checkBoundsOffCount", desc := "(III)I" } : Jvm.MethodName) jdk_42_method_157_code (3 : Nat) (Option.some Jvm.ClassFile.FieldType.int), Jvm.Cond.code ({ cls := "jdk/internal/util/Preconditions", name := "checkFromIndexSize", desc := "(IIILjava/util/function/BiFunction;)I" } : Jvm.MethodName) jdk_41_method_13_code (4 : Nat) (Option.some Jvm.ClassFile.FieldType.int), Jvm.Cond.code ({ cls := "java/lang/String", name := "<init>", desc := "([CIILjava/lang/Void;)V" } : Jvm.MethodName) jdk_42_method_149_code (6 : Nat) (Option.none : Option Jvm.ClassFile.FieldType), Jvm.Cond.code ({ cls := "java/lang/StringUTF16", name := "compress", desc := "([CII)[B" } : Jvm.MethodName) jdk_52_method_16_code (6 : Nat) (Option.some (Jvm.ClassFile.FieldType.array Jvm.ClassFile.FieldType.byte)), Jvm.Cond.code ({ cls := "java/lang/StringUTF16", name := "compress", desc := "([CI[BII)I" } : Jvm.MethodName) jdk_52_method_21_code (7 : Nat) (Option.some Jvm.ClassFile.FieldType.int), Jvm.Cond.code ({ cls := "java/lang/StringUTF16", name := "coderFromArrayLen", desc := "([BI)B" } : Jvm.MethodName) jdk_52_method_15_code (2 : Nat) (Option.some Jvm.ClassFile.FieldType.byte), Jvm.Cond.code ({ cls := "java/lang/String", name := "length", desc := "()I" } : Jvm.MethodName) jdk_42_method_54_code (1 : Nat) (Option.some Jvm.ClassFile.FieldType.int), Jvm.Cond.code ({ cls := "java/lang/String", name := "coder", desc := "()B" } : Jvm.MethodName) jdk_42_method_152_code (1 : Nat) (Option.some Jvm.ClassFile.FieldType.byte), Jvm.Cond.code ({ cls := "com/example/enumconv/enumconv/core/ReadingToStringPinLaw", name := "same", desc := "(Ljava/lang/String;[CIII)Z" } : Jvm.MethodName) method_4_code (5 : Nat) (Option.some Jvm.ClassFile.FieldType.boolean), Jvm.Cond.code ({ cls := "java/lang/String", name := "charAt", desc := "(I)C" } : Jvm.MethodName) jdk_42_method_56_code (2 : Nat) (Option.some Jvm.ClassFile.FieldType.char), Jvm.Cond.code ({ cls := "java/lang/String", name := "isLatin1", desc := "()Z" } : Jvm.MethodName) jdk_42_method_154_code (1 : Nat) (Option.some Jvm.ClassFile.FieldType.boolean), Jvm.Cond.code ({ cls := "java/lang/StringLatin1", name := "charAt", desc := "([BI)C" } : Jvm.MethodName) jdk_43_method_2_code (2 : Nat) (Option.some Jvm.ClassFile.FieldType.char), Jvm.Cond.code ({ cls := "java/lang/String", name := "checkIndex", desc := "(II)V" } : Jvm.MethodName) jdk_42_method_155_code (2 : Nat) (Option.none : Option Jvm.ClassFile.FieldType), Jvm.Cond.code ({ cls := "jdk/internal/util/Preconditions", name := "checkIndex", desc := "(IILjava/util/function/BiFunction;)I" } : Jvm.MethodName) jdk_41_method_11_code (3 : Nat) (Option.some Jvm.ClassFile.FieldType.int)]
set_option maxRecDepth 65536 in
theorem codes_eq : words1.filter isCode = codes1 := rfl
theorem w_codes : ∀ c ∈ words1.filter isCode, c.before args0 about1 = true := by
  rw [codes_eq]
  intro c hc
  simp only [codes1, List.mem_cons, List.not_mem_nil, or_false] at hc
  rcases hc with rfl | rfl | rfl | rfl | rfl | rfl | rfl | rfl | rfl | rfl | rfl | rfl | rfl | rfl | rfl | rfl | rfl | rfl | rfl | rfl | rfl | rfl | rfl | rfl
  · exact w_c0
  · exact w_c1
  · exact w_c2
  · exact w_c3
  · exact w_c4
  · exact w_c5
  · exact w_c6
  · exact w_c7
  · exact w_c8
  · exact w_c9
  · exact w_c10
  · exact w_c11
  · exact w_c12
  · exact w_c13
  · exact w_c14
  · exact w_c15
  · exact w_c16
  · exact w_c17
  · exact w_c18
  · exact w_c19
  · exact w_c20
  · exact w_c21
  · exact w_c22
  · exact w_c23
set_option maxRecDepth 65536 in
theorem w_t1 : (words1.take 24).all (fun c => isCode c || c.before args0 about1) = true := by decide +kernel
set_option maxRecDepth 65536 in
theorem w_t2 : ((words1.drop 24).take 24).all (fun c => isCode c || c.before args0 about1) = true := by decide +kernel
set_option maxRecDepth 65536 in
theorem w_t3 : (((words1.drop 24).drop 24).take 24).all (fun c => isCode c || c.before args0 about1) = true := by decide +kernel
set_option maxRecDepth 65536 in
theorem w_t4 : ((((words1.drop 24).drop 24).drop 24).take 24).all (fun c => isCode c || c.before args0 about1) = true := by decide +kernel
set_option maxRecDepth 65536 in
theorem w_t5 : (((((words1.drop 24).drop 24).drop 24).drop 24).take 24).all (fun c => isCode c || c.before args0 about1) = true := by decide +kernel
set_option maxRecDepth 65536 in
theorem w_t6 : (((((words1.drop 24).drop 24).drop 24).drop 24).drop 24).all (fun c => isCode c || c.before args0 about1) = true := by decide +kernel
theorem w_tables : (allAtoms (Jvm.Cond.code x code maxLocals ret :: tables_1)).before args0 about1 = true := by
  rw [allAtoms_all]
  show words1.all (fun c => c.before args0 about1) = true
  refine all_split ?_ w_codes
  rw [← List.take_append_drop 24 words1, List.all_append, w_t1, ← List.take_append_drop 24 (words1.drop 24), List.all_append, w_t2, ← List.take_append_drop 24 ((words1.drop 24).drop 24), List.all_append, w_t3, ← List.take_append_drop 24 (((words1.drop 24).drop 24).drop 24), List.all_append, w_t4, ← List.take_append_drop 24 ((((words1.drop 24).drop 24).drop 24).drop 24), List.all_append, w_t5, w_t6]
  rfl
set_option maxRecDepth 65536 in
theorem w_rest : rest_1_c.before args0 about1 = true := by decide +kernel
set_option maxRecDepth 65536 in
theorem w_case : (Jvm.Cond.and given_1 narrow_1).before args0 about1 = true := by decide +kernel
set_option maxRecDepth 65536 in
theorem w_consts : constsHeld consts_1 about1 := Jvm.Lit.constsHeldB_iff.mp (by decide +kernel)
theorem w_applies : (headSpec (Jvm.Cond.code x code maxLocals ret :: tables_1) room_1).applies x e0.platform about1 = true :=
  (Spec.applies_iff w_frames).mpr ⟨w_running, w_runnable, w_alone, w_named, w_hears, w_ripe, w_room, w_tables⟩
theorem atStart : AtStart classFile x code maxLocals ret World_1 tables_1 room_1 Calls_1 rest_1 Pre_1 launch0 p0 e0 about1 theMethod args0 below0 :=
  ⟨lists_1, trivial, launch0.admits_env _ _ _, launch0.least_env, fairChoices_fair.cas, fairChoices_fair.clock, w_frames, w_args, w_heap, w_applies, ⟨w_consts, trivial⟩, w_rest, w_case⟩
end start1
theorem witness_1 : WitnessClaimed_1 := ⟨start1.p0, start1.e0, start1.about1, start1.theMethod, start1.args0, start1.below0, start1.atStart⟩
end Jvm.Pilot.@@N@@
