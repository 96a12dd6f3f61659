import JvmDerived
import JvmDerived.Pilot.@@N@@Statement
import JvmDerived.Pilot.@@N@@Code
set_option linter.unusedVariables false
set_option linter.unusedSimpArgs false
namespace Jvm.Pilot.@@N@@
open Jvm Jvm.ClassFile Sem Op Lib Jvm.Free Jvm.Stand Jvm.LawKit Jvm.RoadKit Bundle Jvm.Pilot.@@N@@.Jvm.D
/-! A walk in the backward style: 'own_Goes K T g': from the frame g over T the run comes to an end of which K holds. -/
def own_Goes (p : Program) (e : Env) (below : List Frame) (K : Outcome → State → Prop) (T : State) (g : JFrame) : Prop :=
  ∃ s₂ o, Steps p.tables e below (T.setTop g) s₂ ∧ s₂.status = .running ∧ Ended s₂ below o ∧ K o s₂
def own_K (Q : Option Value → Heap → List Loc → Prop) (U : State) (C S : Nat) : Outcome → State → Prop :=
  fun o U' => ∃ v L, o = .returned v ∧ Q v U'.heap L ∧ FrameEnd U o U' L C S
section OwnKit
variable {p : Program} {l : Launch} {e : Env} {R : Room} {s : State} {m : MethodId} {args : Array Value} {below : List Frame} {meth : Method} {c : Code} {T T' : State} {locs : List Loc} {cells slots : Nat} {Z : State} {a0 : Array Value} {h : Heap} {K : Outcome → State → Prop} {Q : Option Value → Heap → List Loc → Prop} {C S : Nat}
theorem own_by {g g' : JFrame} (st : ∀ t, Steps p.tables e below (T'.setTop g') t → Steps p.tables e below (T.setTop g) t) (k : own_Goes p e below K T' g') : own_Goes p e below K T g := by
  obtain ⟨s₂, o, h1, r⟩ := k
  exact ⟨s₂, o, st _ h1, r⟩
theorem own_retN (X : Stand p l e R s m args below meth c T locs cells slots) (hx : p.tables.exec = Jvm.exec) {pc : Nat} {Ls : Array Slot} {z : Int32} {t : FieldType} {rest : List Value} (hret : meth.sig.returnType = some t) (hlocks : meth.locks = false) (ht : t = .boolean ∨ t = .byte ∨ t = .char ∨ t = .short)
    (hd : decode c.code pc = .ok (.ireturn, 1)) (hc : cells ≤ C) (hs : slots ≤ S) {v : Int32} (hv : nar t z = v) (q : Q (some (.int v)) T.heap locs) : own_Goes p e below (own_K Q s C S) T (mkF m pc Ls (.int z :: rest)) := by
  subst hv
  obtain ⟨fs, hr, hrun, hended, hW, hsame⟩ := X.leave (v := some (.int (nar t z))) (fun h => by rw [hret] at h; cases h) hlocks
  exact ⟨_, _, retN X hx hret ht hd hr, hrun, hended, _, _, rfl, q, ⟨_, rfl⟩, hW, hsame.mono hc hs⟩
theorem own_retV (X : Stand p l e R s m args below meth c T locs cells slots) (hx : p.tables.exec = Jvm.exec) {pc : Nat} {Ls : Array Slot} {w : Value} {t : FieldType} {i : Instr} {rest : List Value} (hret : meth.sig.returnType = some t) (hlocks : meth.locks = false) (hn : narrow t w = w)
    (hi : (i = .ireturn ∧ (t = .int ∨ t = .boolean ∨ t = .byte ∨ t = .char ∨ t = .short) ∧ ∃ z, w = .int z) ∨ (i = .lreturn ∧ t = .long ∧ ∃ z, w = .long z) ∨ (i = .dreturn ∧ t = .double ∧ ∃ z, w = .double z) ∨ (i = .freturn ∧ t = .float ∧ ∃ z, w = .float z) ∨ (i = .areturn ∧ t.isReference = true ∧ w.isRef = true))
    (hd : decode c.code pc = .ok (i, 1)) (hc : cells ≤ C) (hs : slots ≤ S) (q : Q (some w) T.heap locs) : own_Goes p e below (own_K Q s C S) T (mkF m pc Ls (w :: rest)) := by
  obtain ⟨fs, hr, hrun, hended, hW, hsame⟩ := X.leave (v := some w) (fun h => by rw [hret] at h; cases h) hlocks
  exact ⟨_, _, retOut X hx hret hn hi hd hr, hrun, hended, _, _, rfl, q, ⟨_, rfl⟩, hW, hsame.mono hc hs⟩
theorem own_retI (X : Stand p l e R s m args below meth c T locs cells slots) (hx : p.tables.exec = Jvm.exec) {pc : Nat} {Ls : Array Slot} {z : Int32} {rest : List Value} (hret : meth.sig.returnType = some .int) (hlocks : meth.locks = false)
    (hd : decode c.code pc = .ok (.ireturn, 1)) (hc : cells ≤ C) (hs : slots ≤ S) (q : Q (some (.int z)) T.heap locs) : own_Goes p e below (own_K Q s C S) T (mkF m pc Ls (.int z :: rest)) :=
  own_retV X hx hret hlocks rfl (Or.inl ⟨rfl, Or.inl rfl, z, rfl⟩) hd hc hs q
theorem own_retJ (X : Stand p l e R s m args below meth c T locs cells slots) (hx : p.tables.exec = Jvm.exec) {pc : Nat} {Ls : Array Slot} {z : Int64} {rest : List Value} (hret : meth.sig.returnType = some .long) (hlocks : meth.locks = false)
    (hd : decode c.code pc = .ok (.lreturn, 1)) (hc : cells ≤ C) (hs : slots ≤ S) (q : Q (some (.long z)) T.heap locs) : own_Goes p e below (own_K Q s C S) T (mkF m pc Ls (.long z :: rest)) :=
  own_retV X hx hret hlocks rfl (Or.inr (Or.inl ⟨rfl, rfl, z, rfl⟩)) hd hc hs q
theorem own_retR (X : Stand p l e R s m args below meth c T locs cells slots) (hx : p.tables.exec = Jvm.exec) {pc : Nat} {Ls : Array Slot} {w : Value} {t : FieldType} {rest : List Value} (hret : meth.sig.returnType = some t) (hlocks : meth.locks = false) (ht : t.isReference = true) (hw : w.isRef = true)
    (hd : decode c.code pc = .ok (.areturn, 1)) (hc : cells ≤ C) (hs : slots ≤ S) (q : Q (some w) T.heap locs) : own_Goes p e below (own_K Q s C S) T (mkF m pc Ls (w :: rest)) :=
  own_retV X hx hret hlocks (by cases t <;> first | (cases ht; done) | (cases w <;> rfl)) (Or.inr (Or.inr (Or.inr (Or.inr ⟨rfl, ht, hw⟩)))) hd hc hs q
theorem own_ret0 (X : Stand p l e R s m args below meth c T locs cells slots) (hx : p.tables.exec = Jvm.exec) {pc : Nat} {Ls : Array Slot} (hret : meth.sig.returnType = none) (hlocks : meth.locks = false)
    (hd : decode c.code pc = .ok (.return_, 1)) (hc : cells ≤ C) (hs : slots ≤ S) (q : Q none T.heap locs) : own_Goes p e below (own_K Q s C S) T (mkF m pc Ls []) := by
  obtain ⟨fs, hr, hrun, hended, hW, hsame⟩ := X.leave (v := none) (fun _ => rfl) hlocks
  exact ⟨_, _, X.returnOut hx hret hd hr, hrun, hended, _, _, rfl, q, ⟨_, rfl⟩, hW, hsame.mono hc hs⟩
theorem own_lrem {g : JFrame} {target : State} (X : Stand p l e R s m args below meth c T locs cells slots) (hx : p.tables.exec = Jvm.exec) (hg : g.method = m) {x y : Int64} {rest : List Value} (hd : decode c.code g.pc = .ok (.lrem, 1)) (hs : g.stack = .long y :: .long x :: rest) (hy : y ≠ 0)
    (hr : Steps p.tables e below (T.setTop { g with pc := g.pc + 1, stack := .long (x % y) :: rest }) target) : Steps p.tables e below (T.setTop g) target := by
  have q : x - x / y * y = x % y := lrem_mod x y
  exact XS.lrem X.here hx hg hd hs hy (by rw [q]; exact hr)
/-- what a callee's theorem says -/
abbrev own_Met (l : Launch) (Z : State) (y : MethodName) (bytes : ByteArray) (maxL : Nat) (ret : Option FieldType) (rm : Room) (as' : Array Value) (h : Heap) (Q : Option Value → Heap → List Loc → Prop) : Prop :=
  MetFree l y (head1 [Cond.code y bytes maxL ret] rm) (fun a U => a = as' ∧ Z.Warmed39 U.vm ∧ U.heap = h) (fun _ _ _ _ _ => True) (fun _ U o U' => ∃ v L, o = .returned v ∧ Q v U'.heap L ∧ FrameEnd U o U' L rm.cells rm.slots)
theorem own_callS (X : Stand p l e R s m args below meth c T locs cells slots) (hx : p.tables.exec = Jvm.exec) (hZ : Z.Warmed39 s.vm) {own : String} {index : Nat} {y : MethodName} {bytes : ByteArray} {maxL : Nat} {ret : Option FieldType}
    (hown : s.vm.findClass own = some m.cls) (w1 : (Cond.methodLink own index y).before a0 Z = true) (w2 : (Cond.static y).before a0 Z = true) (w3 : (Cond.initialized y.cls).before a0 Z = true) (w4 : (Cond.code y bytes maxL ret).before a0 Z = true) (hy : y.cls ≠ "java/lang/invoke/MethodHandle" ∧ y.cls ≠ "java/lang/invoke/VarHandle")
    {rm : Room} {argsL rest : List Value} (hM : own_Met l Z y bytes maxL ret rm argsL.toArray h Q) (eT : T.heap = h) {W : Nat} (hf : rm.frames + 1 ≤ R.frames) (hl : W + (maxL + 11) + rm.locals ≤ R.locals) (hc : cells + rm.cells ≤ R.cells) (hs : slots + rm.slots ≤ R.slots)
    {g : JFrame} (hg : g.method = m) (hsize : g.locals.size = c.maxLocals) (hlen : ∀ sig, parseMethodDescriptor y.desc = some sig → argsL.length = sig.parameters.length)
    (hstack : g.stack = argsL.reverse ++ rest) (hW : 2 * g.monitorRoom + (rest.map fun v => v.category).sum ≤ W) (hdg : decode c.code g.pc = .ok (.invokestatic index, 3)) :
    ∃ (v : Option Value) (T' : State) (L : List Loc), Stand p l e R s m args below meth c T' (locs ++ L) (cells + rm.cells) (slots + rm.slots) ∧ Q v T'.heap L ∧ ∀ K, own_Goes p e below K T' { g with pc := g.pc + 3, stack := v.toList ++ rest } → own_Goes p e below K T g := by
  obtain ⟨v, vm₁, ⟨T', L', k', n'⟩, -, X', ⟨L, hQ, l1, l2, l3⟩, st⟩ := Jvm.LawKit.callS X hx hown (mvT hZ w1) (mvT hZ w2) (mvT hZ w3) (mvT hZ w4) hy (backOf (W := W) hM hZ w4 w3 hf hl) hg hsize hlen hstack hW hdg (fun _ _ => ⟨rfl, eT, hc, hs⟩)
  dsimp only [Pt.U, Pt.locs, Pt.cells, Pt.slots] at X' l1 l2 l3 st hQ
  subst l1 l2 l3
  exact ⟨v, T', L, X', hQ, fun K k => own_by st k⟩
theorem own_callI (X : Stand p l e R s m args below meth c T locs cells slots) (hx : p.tables.exec = Jvm.exec) (hZ : Z.Warmed39 s.vm) {own : String} {index : Nat} {y : MethodName} {bytes : ByteArray} {maxL : Nat} (hy1 : y.name = "<init>")
    (hown : s.vm.findClass own = some m.cls) (w1 : (Cond.methodLink own index y).before a0 Z = true) (w2 : (Cond.instanceMethod y).before a0 Z = true) (w3 : (Cond.initialized y.cls).before a0 Z = true) (w4 : (Cond.code y bytes maxL none).before a0 Z = true) (hy : y.cls ≠ "java/lang/invoke/MethodHandle" ∧ y.cls ≠ "java/lang/invoke/VarHandle")
    {rm : Room} {a : Addr} {argsL rest : List Value} (hM : own_Met l Z y bytes maxL none rm (.ref a :: argsL).toArray h Q) (eT : T.heap = h) {W : Nat} (hf : rm.frames + 1 ≤ R.frames) (hl : W + (maxL + 11) + rm.locals ≤ R.locals) (hc : cells + rm.cells ≤ R.cells) (hs : slots + rm.slots ≤ R.slots)
    {g : JFrame} (hg : g.method = m) (hsize : g.locals.size = c.maxLocals) (hlen : ∀ sig, parseMethodDescriptor y.desc = some sig → argsL.length = sig.parameters.length)
    (hstack : g.stack = argsL.reverse ++ .ref a :: rest) (hW : 2 * g.monitorRoom + (rest.map fun v => v.category).sum ≤ W) (hdg : decode c.code g.pc = .ok (.invokespecial index, 3)) :
    ∃ (v : Option Value) (T' : State) (L : List Loc), Stand p l e R s m args below meth c T' (locs ++ L) (cells + rm.cells) (slots + rm.slots) ∧ Q v T'.heap L ∧ ∀ K, own_Goes p e below K T' { g with pc := g.pc + 3, stack := v.toList ++ rest } → own_Goes p e below K T g := by
  obtain ⟨v, vm₁, ⟨T', L', k', n'⟩, -, X', ⟨L, hQ, l1, l2, l3⟩, st⟩ := X.specialBack hx hy1 hown (mvT hZ w1) (mvT hZ w2) (mvT hZ w4) hy (backOf (W := W) hM hZ w4 w3 hf hl) hg hsize (Steps.refl _) hlen hstack hW hdg (fun _ _ => ⟨rfl, eT, hc, hs⟩)
  dsimp only [Pt.U, Pt.locs, Pt.cells, Pt.slots] at X' l1 l2 l3 st hQ
  subst l1 l2 l3
  exact ⟨v, T', L, X', hQ, fun K k => own_by (fun t k => st.trans k) k⟩
theorem own_callV (X : Stand p l e R s m args below meth c T locs cells slots) (hx : p.tables.exec = Jvm.exec) (hZ : Z.Warmed39 s.vm) {own C : String} {index : Nat} {y : MethodName} {bytes : ByteArray} {maxL : Nat} {ret : Option FieldType}
    (hown : s.vm.findClass own = some m.cls) (w1 : (Cond.methodLink own index y).before a0 Z = true) (w5 : (Cond.declares y).before a0 Z = true) (w6 : (Cond.selects C y y).before a0 Z = true) (w2 : (Cond.instanceMethod y).before a0 Z = true) (w3 : (Cond.initialized y.cls).before a0 Z = true) (w4 : (Cond.code y bytes maxL ret).before a0 Z = true) (hy : y.cls ≠ "java/lang/invoke/MethodHandle" ∧ y.cls ≠ "java/lang/invoke/VarHandle")
    {rm : Room} {a : Addr} {argsL rest : List Value} (E : Exa Z h a C) (hM : own_Met l Z y bytes maxL ret rm (.ref a :: argsL).toArray h Q) (eT : T.heap = h) {W : Nat} (hf : rm.frames + 1 ≤ R.frames) (hl : W + (maxL + 11) + rm.locals ≤ R.locals) (hc : cells + rm.cells ≤ R.cells) (hs : slots + rm.slots ≤ R.slots)
    {g : JFrame} (hg : g.method = m) (hsize : g.locals.size = c.maxLocals) (hlen : ∀ sig, parseMethodDescriptor y.desc = some sig → argsL.length = sig.parameters.length)
    (hstack : g.stack = argsL.reverse ++ .ref a :: rest) (hW : 2 * g.monitorRoom + (rest.map fun v => v.category).sum ≤ W) (hdg : decode c.code g.pc = .ok (.invokevirtual index, 3)) :
    ∃ (v : Option Value) (T' : State) (L : List Loc), Stand p l e R s m args below meth c T' (locs ++ L) (cells + rm.cells) (slots + rm.slots) ∧ Q v T'.heap L ∧ ∀ K, own_Goes p e below K T' { g with pc := g.pc + 3, stack := v.toList ++ rest } → own_Goes p e below K T g := by
  obtain ⟨cB, kB, q1, q2, q3⟩ := isOf hZ eT E
  obtain ⟨v, vm₁, ⟨T', L', k', n'⟩, -, X', ⟨L, hQ, l1, l2, l3⟩, st⟩ := X.virtualBack hx hown (mvT hZ w1) (mvT hZ w5) (notFace_of_selects (args := #[]) (mvT hZ w6)) (mvT hZ w6) (mvT hZ w2) hy (backOf (W := W) hM hZ w4 w3 hf hl) q1 q3 hg hsize (Steps.refl _) hlen hstack hW hdg (fun _ _ => ⟨rfl, eT, hc, hs⟩)
  dsimp only [Pt.U, Pt.locs, Pt.cells, Pt.slots] at X' l1 l2 l3 st hQ
  subst l1 l2 l3
  exact ⟨v, T', L, X', hQ, fun K k => own_by (fun t k => st.trans k) k⟩
theorem own_callPv (X : Stand p l e R s m args below meth c T locs cells slots) (hx : p.tables.exec = Jvm.exec) (hZ : Z.Warmed39 s.vm) {own C : String} {index : Nat} {y : MethodName} {bytes : ByteArray} {maxL : Nat} {ret : Option FieldType}
    (hown : s.vm.findClass own = some m.cls) (w1 : (Cond.methodLink own index y).before a0 Z = true) (w6 : (Cond.selects y.cls y y).before a0 Z = true) (w2 : (Cond.instanceMethod y).before a0 Z = true) (w7 : (Cond.privateMethod y).before a0 Z = true) (w3 : (Cond.initialized y.cls).before a0 Z = true) (w4 : (Cond.code y bytes maxL ret).before a0 Z = true) (hy : y.cls ≠ "java/lang/invoke/MethodHandle" ∧ y.cls ≠ "java/lang/invoke/VarHandle")
    {rm : Room} {a : Addr} {argsL rest : List Value} (E : Exa Z h a C) (hM : own_Met l Z y bytes maxL ret rm (.ref a :: argsL).toArray h Q) (eT : T.heap = h) {W : Nat} (hf : rm.frames + 1 ≤ R.frames) (hl : W + (maxL + 11) + rm.locals ≤ R.locals) (hc : cells + rm.cells ≤ R.cells) (hs : slots + rm.slots ≤ R.slots)
    {g : JFrame} (hg : g.method = m) (hsize : g.locals.size = c.maxLocals) (hlen : ∀ sig, parseMethodDescriptor y.desc = some sig → argsL.length = sig.parameters.length)
    (hstack : g.stack = argsL.reverse ++ .ref a :: rest) (hW : 2 * g.monitorRoom + (rest.map fun v => v.category).sum ≤ W) (hdg : decode c.code g.pc = .ok (.invokevirtual index, 3)) :
    ∃ (v : Option Value) (T' : State) (L : List Loc), Stand p l e R s m args below meth c T' (locs ++ L) (cells + rm.cells) (slots + rm.slots) ∧ Q v T'.heap L ∧ ∀ K, own_Goes p e below K T' { g with pc := g.pc + 3, stack := v.toList ++ rest } → own_Goes p e below K T g := by
  obtain ⟨cq, q1, q2⟩ := E.cell
  obtain ⟨v, vm₁, ⟨T', L', k', n'⟩, -, X', ⟨L, hQ, l1, l2, l3⟩, st⟩ := X.privateBack hx hown (mvT hZ w1) (mvT hZ w2) (mvT hZ w6) (Cond.privateMethod_at (mvP hZ w7 (args := #[]))) (mvT hZ w4) hy (backOf (W := W) hM hZ w4 w3 hf hl) hg hsize (Steps.refl _) (by rw [eT]; exact q1) q2 hlen hstack hW hdg (fun _ _ => ⟨rfl, eT, hc, hs⟩)
  dsimp only [Pt.U, Pt.locs, Pt.cells, Pt.slots] at X' l1 l2 l3 st hQ
  subst l1 l2 l3
  exact ⟨v, T', L, X', hQ, fun K k => own_by (fun t k => st.trans k) k⟩
theorem own_Sta_keep {h' : Heap} {ws : List Addr} {O n d : String} {v : Value} (F : Sta Z h O n d v) (K : Keep h h' ws) (q : ∀ a ∈ ws, ∀ cell : Cell, h[a]? = some cell → cell.vm.isStatics = false) : Sta Z h' O n d v := by
  obtain ⟨cf, i, k, f, st, cell, h1, h2, h3, h4, h5, h6, h7⟩ := F
  refine ⟨cf, i, k, f, st, cell, h1, h2, h3, h4, K.2.1 st cell h5 (fun y => ?_), h6, h7⟩
  rw [q st y cell h5] at h6; cases h6
theorem own_selp {y : MethodName} {k : Nat} (w7 : (Cond.privateMethod y).before a0 Z = true) (w2 : (Cond.instanceMethod y).before a0 Z = true) (wi : (Cond.instantiable y.cls k).before a0 Z = true) (hy : y.cls ≠ "java/lang/invoke/MethodHandle" ∧ y.cls ≠ "java/lang/invoke/VarHandle") : (Cond.selects y.cls y y).before a0 Z = true := by
  obtain ⟨c, k, i1, i2, i3, i4, -⟩ := Cond.instantiable_spec wi
  rw [Bool.or_eq_false_iff] at i4
  exact Jvm.Stand.selects_self_of_private i1 i2 i4.1 (Cond.privateMethod_at w7) w2 hy
end OwnKit
/-! arrays of ints, bytes, chars: a length and a function -/
def own_Ia (Z : State) (h : Heap) (a : Addr) (ty : FieldType) (n : Nat) (f : Nat → Int32) : Prop := ∃ c : Cell, Arr Z h a c ty ∧ c.slots.size = n ∧ (∀ i, i < n → c.slots[i]? = some (.int (f i))) ∧ ∀ i, i < n → fits ty (.int (f i)) = true
section OwnArr
variable {p : Program} {l : Launch} {e : Env} {R : Room} {s : State} {m : MethodId} {args : Array Value} {below : List Frame} {meth : Method} {c : Code} {T T' : State} {locs : List Loc} {cells slots : Nat} {Z : State} {a0 : Array Value} {h h' : Heap} {a b : Addr} {ty : FieldType} {n : Nat} {f : Nat → Int32}
theorem own_Ia_lt (F : own_Ia Z h a ty n f) : a < h.size := by obtain ⟨c, A, -⟩ := F; exact A.lt
theorem own_Ia_ext (E : Ext h h') (F : own_Ia Z h a ty n f) : own_Ia Z h' a ty n f := by obtain ⟨c, A, r⟩ := F; exact ⟨c, A.ext E, r⟩
theorem own_Ia_other {sl : Nat} {v : Value} (W : Wr h h' b sl v) (F : own_Ia Z h a ty n f) (q : a ≠ b) : own_Ia Z h' a ty n f := by obtain ⟨c, A, r⟩ := F; exact ⟨c, A.other W q, r⟩
theorem own_Ia_keep {ws : List Addr} (K : Keep h h' ws) (F : own_Ia Z h a ty n f) (q : a ∉ ws) : own_Ia Z h' a ty n f := by obtain ⟨c, A, r⟩ := F; exact ⟨c, ⟨K.2.1 a c A.1 q, A.2⟩, r⟩
theorem own_Ia_set {j : Nat} {x : Int32} (W : Wr h h' a j (.int x)) (F : own_Ia Z h a ty n f) (hf : fits ty (.int x) = true) : own_Ia Z h' a ty n (fun i => if i = j then x else f i) := by
  obtain ⟨c, A, S, H, G⟩ := F
  refine ⟨c.setSlot j (.int x), A.same W, by rw [sz_set]; exact S, fun i hi => ?_, fun i hi => ?_⟩
  · by_cases q : i = j
    · subst q
      have : i < c.slots.size := by rw [S]; exact hi
      simp [Cell.setSlot, this]
    · have := H i hi
      simp only [Cell.setSlot, if_neg q]
      rw [Array.getElem?_setIfInBounds_ne (Ne.symm q)]; exact this
  · dsimp only
    by_cases q : i = j
    · rw [if_pos q]; exact hf
    · rw [if_neg q]; exact G i hi
theorem own_Ia_new {k : ClassId} {z : Int32} (A : Arr Z h a (newA k ty z) ty) (hd : defaultValue ty = .int 0) (hf : fits ty (.int 0) = true) (hz : z.toNatClampNeg = n) : own_Ia Z h a ty n (fun _ => 0) := by
  subst hz
  refine ⟨_, A, sz_new _ _ _, fun i hi => ?_, fun i hi => hf⟩
  simp [newA, hd, hi]
theorem own_Ia_congr {f' : Nat → Int32} (F : own_Ia Z h a ty n f) (q : ∀ i, i < n → f i = f' i) : own_Ia Z h a ty n f' := by
  obtain ⟨c, A, S, H, G⟩ := F; exact ⟨c, A, S, fun i hi => by rw [H i hi, q i hi], fun i hi => by rw [← q i hi]; exact G i hi⟩
theorem own_bal (X : Stand p l e R s m args below meth c T locs cells slots) (hx : p.tables.exec = Jvm.exec) (hZ : Z.Warmed39 s.vm) (eT : T.heap = h) (F : own_Ia Z h a .byte n f) {j : Int32} (hj0 : ¬ j < 0) (hj1 : j.toNatClampNeg < n) {g : JFrame} (hg : g.method = m) {rest : List Value} (hs : g.stack = .int j :: .ref a :: rest) (hd : decode c.code g.pc = .ok (.baload, 1)) (t : State)
    (k : Steps p.tables e below (T.setTop { g with pc := g.pc + 1, stack := .int (f j.toNatClampNeg) :: rest }) t) : Steps p.tables e below (T.setTop g) t := by
  obtain ⟨c, A, S, H, G⟩ := F
  exact X.baloadBytes hx (by rw [eT]; exact A.1) (State.isArrayOf_alike hZ.alike A.2.1) A.2.2 (fun q => q.elim hj0 (fun q => absurd hj1 (by rw [← S]; exact Nat.not_lt.mpr q))) (H _ hj1) hg hs hd t k
theorem own_cal (X : Stand p l e R s m args below meth c T locs cells slots) (hx : p.tables.exec = Jvm.exec) (hZ : Z.Warmed39 s.vm) (eT : T.heap = h) (F : own_Ia Z h a .char n f) {j : Int32} (hj0 : ¬ j < 0) (hj1 : j.toNatClampNeg < n) {g : JFrame} (hg : g.method = m) {rest : List Value} (hs : g.stack = .int j :: .ref a :: rest) (hd : decode c.code g.pc = .ok (.caload, 1)) (t : State)
    (k : Steps p.tables e below (T.setTop { g with pc := g.pc + 1, stack := .int (f j.toNatClampNeg) :: rest }) t) : Steps p.tables e below (T.setTop g) t := by
  obtain ⟨c, A, S, H, G⟩ := F
  exact X.caload hx (by rw [eT]; exact A.1) (State.isArrayOf_alike hZ.alike A.2.1) A.2.2 (fun q => q.elim hj0 (fun q => absurd hj1 (by rw [← S]; exact Nat.not_lt.mpr q))) (H _ hj1) hg hs hd t k
theorem own_ial (X : Stand p l e R s m args below meth c T locs cells slots) (hx : p.tables.exec = Jvm.exec) (hZ : Z.Warmed39 s.vm) (eT : T.heap = h) (F : own_Ia Z h a .int n f) {j : Int32} (hj0 : ¬ j < 0) (hj1 : j.toNatClampNeg < n) {g : JFrame} (hg : g.method = m) {rest : List Value} (hs : g.stack = .int j :: .ref a :: rest) (hd : decode c.code g.pc = .ok (.iaload, 1)) (t : State)
    (k : Steps p.tables e below (T.setTop { g with pc := g.pc + 1, stack := .int (f j.toNatClampNeg) :: rest }) t) : Steps p.tables e below (T.setTop g) t := by
  obtain ⟨c, A, S, H, G⟩ := F
  exact X.iaload hx (by rw [eT]; exact A.1) (State.isArrayOf_alike hZ.alike A.2.1) A.2.2 (fun q => q.elim hj0 (fun q => absurd hj1 (by rw [← S]; exact Nat.not_lt.mpr q))) (H _ hj1) hg hs hd t k
theorem own_alen (X : Stand p l e R s m args below meth c T locs cells slots) (hx : p.tables.exec = Jvm.exec) (hZ : Z.Warmed39 s.vm) (eT : T.heap = h) (F : own_Ia Z h a ty n f) {z : Int32} (hz : n.toInt32 = z) {g : JFrame} (hg : g.method = m) {rest : List Value} (hs : g.stack = .ref a :: rest) (hd : decode c.code g.pc = .ok (.arraylength, 1)) (t : State)
    (k : Steps p.tables e below (T.setTop { g with pc := g.pc + 1, stack := .int z :: rest }) t) : Steps p.tables e below (T.setTop g) t := by
  obtain ⟨c, A, S, H, G⟩ := F
  subst hz S
  exact X.arraylength hx (by rw [eT]; exact A.1) (State.isArrayOf_alike hZ.alike A.2.1) hg hs hd t k
theorem own_bas (X : Stand p l e R s m args below meth c T locs cells slots) (hx : p.tables.exec = Jvm.exec) (hZ : Z.Warmed39 s.vm) (eT : T.heap = h) (F : own_Ia Z h a .byte n f) {j x : Int32} (hj0 : ¬ j < 0) (hj1 : j.toNatClampNeg < n) {g : JFrame} (hg : g.method = m) {rest : List Value} (hs : g.stack = .int x :: .int j :: .ref a :: rest) (hd : decode c.code g.pc = .ok (.bastore, 1)) :
    ∃ T' h', Stand p l e R s m args below meth c T' (locs ++ [⟨a, j.toNatClampNeg⟩]) cells slots ∧ T'.heap = h' ∧ Wr h h' a j.toNatClampNeg (.int (nar .byte x)) ∧ ∀ target, Steps p.tables e below (T'.setTop { g with pc := g.pc + 1, stack := rest }) target → Steps p.tables e below (T.setTop g) target := by
  obtain ⟨c, A, S, H, G⟩ := F
  exact stB X hx hZ eT A (fun q => q.elim hj0 (fun q => absurd hj1 (by rw [← S]; exact Nat.not_lt.mpr q))) hg hs hd
theorem own_cas (X : Stand p l e R s m args below meth c T locs cells slots) (hx : p.tables.exec = Jvm.exec) (hZ : Z.Warmed39 s.vm) (eT : T.heap = h) (F : own_Ia Z h a .char n f) {j x : Int32} (hj0 : ¬ j < 0) (hj1 : j.toNatClampNeg < n) {g : JFrame} (hg : g.method = m) {rest : List Value} (hs : g.stack = .int x :: .int j :: .ref a :: rest) (hd : decode c.code g.pc = .ok (.castore, 1)) :
    ∃ T' h', Stand p l e R s m args below meth c T' (locs ++ [⟨a, j.toNatClampNeg⟩]) cells slots ∧ T'.heap = h' ∧ Wr h h' a j.toNatClampNeg (.int (nar .char x)) ∧ ∀ target, Steps p.tables e below (T'.setTop { g with pc := g.pc + 1, stack := rest }) target → Steps p.tables e below (T.setTop g) target := by
  obtain ⟨c, A, S, H, G⟩ := F
  exact stC X hx hZ eT A (fun q => q.elim hj0 (fun q => absurd hj1 (by rw [← S]; exact Nat.not_lt.mpr q))) hg hs hd
theorem own_ias (X : Stand p l e R s m args below meth c T locs cells slots) (hx : p.tables.exec = Jvm.exec) (hZ : Z.Warmed39 s.vm) (eT : T.heap = h) (F : own_Ia Z h a .int n f) {j x : Int32} (hj0 : ¬ j < 0) (hj1 : j.toNatClampNeg < n) {g : JFrame} (hg : g.method = m) {rest : List Value} (hs : g.stack = .int x :: .int j :: .ref a :: rest) (hd : decode c.code g.pc = .ok (.iastore, 1)) :
    ∃ T' h', Stand p l e R s m args below meth c T' (locs ++ [⟨a, j.toNatClampNeg⟩]) cells slots ∧ T'.heap = h' ∧ Wr h h' a j.toNatClampNeg (.int x) ∧ ∀ target, Steps p.tables e below (T'.setTop { g with pc := g.pc + 1, stack := rest }) target → Steps p.tables e below (T.setTop g) target := by
  obtain ⟨c, A, S, H, G⟩ := F
  exact stI X hx hZ eT A (fun q => q.elim hj0 (fun q => absurd hj1 (by rw [← S]; exact Nat.not_lt.mpr q))) hg hs hd
end OwnArr
def own_st (acc b : Int32) : Int32 := (acc ^^^ (b &&& (255 : Int32))) * (16777619 : Int32)
def own_HG (st : Int32 → Int32 → Int32) (f : Nat → Int32) : Nat → Nat → Int32 → Int32
  | 0, _, acc => acc
  | k + 1, i, acc => own_HG st f k (i + 1) (st acc (f i))
theorem own_HG0 (st : Int32 → Int32 → Int32) (f : Nat → Int32) (i : Nat) (acc : Int32) : own_HG st f 0 i acc = acc := rfl
theorem own_HGc (st : Int32 → Int32 → Int32) (f : Nat → Int32) (i k : Nat) (acc : Int32) : own_HG st f (k + 1) i acc = own_HG st f k (i + 1) (st acc (f i)) := rfl
theorem own_HGs (st : Int32 → Int32 → Int32) (f : Nat → Int32) : ∀ (k i : Nat) (acc : Int32), own_HG st f (k + 1) i acc = st (own_HG st f k i acc) (f (i + k))
  | 0, i, acc => by rw [own_HGc, own_HG0, own_HG0, Nat.add_zero]
  | k + 1, i, acc => by rw [own_HGc, own_HGs st f k (i + 1), own_HGc, show i + 1 + k = i + (k + 1) by omega]
def own_H (f : Nat → Int32) (i k : Nat) (acc : Int32) : Int32 := own_HG own_st f k i acc
def own_hash (f : Nat → Int32) (i t : Int32) : Int32 := own_H f i.toNatClampNeg (t.toInt - i.toInt).toNat (-2128831035 : Int32)
theorem own_Hd (f : Nat → Int32) (i k : Nat) (acc : Int32) : own_H f i k acc = own_HG own_st f k i acc := by rw [own_H]
theorem own_H0 (f : Nat → Int32) (i : Nat) (acc : Int32) : own_H f i 0 acc = acc := by rw [own_Hd, own_HG0]
theorem own_Hc (f : Nat → Int32) (i k : Nat) (acc : Int32) : own_H f i (k + 1) acc = own_H f (i + 1) k (own_st acc (f i)) := by rw [own_Hd, own_Hd, own_HGc]
theorem own_hd (f : Nat → Int32) (i t : Int32) : own_hash f i t = own_H f i.toNatClampNeg (t.toInt - i.toInt).toNat (-2128831035 : Int32) := by rw [own_hash]
theorem own_std (acc b : Int32) : own_st acc b = (acc ^^^ (b &&& (255 : Int32))) * (16777619 : Int32) := by rw [own_st]
theorem own_Hs (f : Nat → Int32) (k i : Nat) (acc : Int32) : own_H f i (k + 1) acc = own_st (own_H f i k acc) (f (i + k)) := by rw [own_Hd, own_Hd, own_HGs]
theorem own_z : (0 : Int32).toInt = 0 := rfl
theorem own_one : (1 : Int32).toInt = 1 := rfl
theorem own_ge (i t : Int32) (h : (t.toInt - i.toInt).toNat = 0) : ¬ i < t := by rw [Int32.lt_iff_toInt_lt]; omega
theorem own_lt (i t : Int32) (k : Nat) (h : (t.toInt - i.toInt).toNat = k + 1) : i < t := by rw [Int32.lt_iff_toInt_lt]; omega
theorem own_nn (i : Int32) (h : 0 ≤ i.toInt) : ¬ i < 0 := by rw [Int32.lt_iff_toInt_lt, own_z]; omega
theorem own_ix (i t : Int32) (ht : t.toInt ≤ 8) (h : 0 ≤ i.toInt) (hl : i < t) : i.toNatClampNeg < 8 := by rw [Int32.lt_iff_toInt_lt] at hl; simp only [Int32.toNatClampNeg]; omega
theorem own_pl (i t : Int32) (ht : t.toInt ≤ 8) (h : 0 ≤ i.toInt) (hl : i < t) : (i + (1 : Int32)).toInt = i.toInt + 1 := by
  rw [Int32.lt_iff_toInt_lt] at hl; have a := c_iadd i 1; rw [own_one] at a; have := rng32 (i + 1); omega
theorem own_i1 (i t : Int32) (ht : t.toInt ≤ 8) (h : 0 ≤ i.toInt) (hl : i < t) : 0 ≤ (i + (1 : Int32)).toInt := by rw [own_pl i t ht h hl]; omega
theorem own_i2 (i t : Int32) (ht : t.toInt ≤ 8) (h : 0 ≤ i.toInt) (hl : i < t) : (i + (1 : Int32)).toNatClampNeg = i.toNatClampNeg + 1 := by simp only [Int32.toNatClampNeg]; rw [own_pl i t ht h hl]; omega
theorem own_i3 (i t : Int32) (k : Nat) (ht : t.toInt ≤ 8) (h : 0 ≤ i.toInt) (hk : (t.toInt - i.toInt).toNat = k + 1) : (t.toInt - (i + (1 : Int32)).toInt).toNat = k := by rw [own_pl i t ht h (own_lt i t k hk)]; omega
theorem own_rng (q : Int32) : 0 ≤ ((q &&& (2147483647 : Int32)) % (9 : Int32)).toInt ∧ ((q &&& (2147483647 : Int32)) % (9 : Int32)).toInt ≤ 8 := by
  have e := c_mask q 2147483647 31 (by decide) (by decide)
  have z := (c_irem (q &&& (2147483647 : Int32)) (9 : Int32) 9 rfl).1 (by rw [e]; exact Int.emod_nonneg _ (by decide))
  have l1 := Int.emod_nonneg (q &&& (2147483647 : Int32)).toInt (show (9 : Int) ≠ 0 by decide)
  have l2 := Int.emod_lt_of_pos (q &&& (2147483647 : Int32)).toInt (show (0 : Int) < 9 by decide)
  rw [z]; omega
theorem own_m1 (t i : Int32) (ht : t.toInt ≤ 8) (hi : 0 ≤ i.toInt) (hl : i < t) : (t - (1 : Int32)).toInt = t.toInt - 1 := by
  rw [Int32.lt_iff_toInt_lt] at hl; have a := c_isub t 1; rw [own_one] at a; have := rng32 (t - 1); omega
theorem own_t1 (t i : Int32) (ht : t.toInt ≤ 8) (hi : 0 ≤ i.toInt) (hl : i < t) : (t - (1 : Int32)).toInt ≤ 8 ∧ ¬ (t - (1 : Int32)) < 0 ∧ (t - (1 : Int32)).toNatClampNeg < 8 ∧ 0 ≤ (t - (1 : Int32)).toInt := by
  have e := own_m1 t i ht hi hl
  have hl' := hl
  rw [Int32.lt_iff_toInt_lt] at hl'
  refine ⟨by omega, own_nn _ (by omega), ?_, by omega⟩
  simp only [Int32.toNatClampNeg]; omega
theorem own_hash0 (f : Nat → Int32) (i t : Int32) (h : ¬ i < t) : own_hash f i t = (-2128831035 : Int32) := by
  rw [Int32.lt_iff_toInt_lt] at h; rw [own_hd, show (t.toInt - i.toInt).toNat = 0 by omega, own_H0]
theorem own_hash1 (f : Nat → Int32) (i t : Int32) (h : (t - (1 : Int32)) = i) : own_hash f i (t - (1 : Int32)) = (-2128831035 : Int32) := by
  apply own_hash0; rw [h]; exact Int32.lt_irrefl
theorem own_hashS (f : Nat → Int32) (i t : Int32) (ht : t.toInt ≤ 8) (hi : 0 ≤ i.toInt) (hl : i < t) : own_hash f i t = ((own_hash f i (t - (1 : Int32)) ^^^ ((f (t - (1 : Int32)).toNatClampNeg) &&& (255 : Int32))) * (16777619 : Int32)) := by
  have e := own_m1 t i ht hi hl
  rw [Int32.lt_iff_toInt_lt] at hl
  have k1 : (t.toInt - i.toInt).toNat = ((t - (1 : Int32)).toInt - i.toInt).toNat + 1 := by omega
  rw [own_hd, own_hd]
  rw [k1, own_Hs]
  have k2 : i.toNatClampNeg + ((t - (1 : Int32)).toInt - i.toInt).toNat = (t - (1 : Int32)).toNatClampNeg := by simp only [Int32.toNatClampNeg]; omega
  rw [k2, own_std]
theorem own_d_hash_0 : decode prog_98_method_4_code 0 = .ok (.ldc 32, 2) := by decide +kernel
theorem own_d_hash_2 : decode prog_98_method_4_code 2 = .ok (.istore_n 3, 1) := by decide +kernel
theorem own_d_hash_3 : decode prog_98_method_4_code 3 = .ok (.iload_n 1, 1) := by decide +kernel
theorem own_d_hash_4 : decode prog_98_method_4_code 4 = .ok (.istore 4, 2) := by decide +kernel
theorem own_d_hash_6 : decode prog_98_method_4_code 6 = .ok (.iload 4, 2) := by decide +kernel
theorem own_d_hash_8 : decode prog_98_method_4_code 8 = .ok (.iload_n 2, 1) := by decide +kernel
theorem own_d_hash_9 : decode prog_98_method_4_code 9 = .ok (.if_icmp .ge 23, 3) := by decide +kernel
theorem own_d_hash_12 : decode prog_98_method_4_code 12 = .ok (.iload_n 3, 1) := by decide +kernel
theorem own_d_hash_13 : decode prog_98_method_4_code 13 = .ok (.aload_n 0, 1) := by decide +kernel
theorem own_d_hash_14 : decode prog_98_method_4_code 14 = .ok (.iload 4, 2) := by decide +kernel
theorem own_d_hash_16 : decode prog_98_method_4_code 16 = .ok (.baload, 1) := by decide +kernel
theorem own_d_hash_17 : decode prog_98_method_4_code 17 = .ok (.sipush 255, 3) := by decide +kernel
theorem own_d_hash_20 : decode prog_98_method_4_code 20 = .ok (.iand, 1) := by decide +kernel
theorem own_d_hash_21 : decode prog_98_method_4_code 21 = .ok (.ixor, 1) := by decide +kernel
theorem own_d_hash_22 : decode prog_98_method_4_code 22 = .ok (.ldc 33, 2) := by decide +kernel
theorem own_d_hash_24 : decode prog_98_method_4_code 24 = .ok (.imul, 1) := by decide +kernel
theorem own_d_hash_25 : decode prog_98_method_4_code 25 = .ok (.istore_n 3, 1) := by decide +kernel
theorem own_d_hash_26 : decode prog_98_method_4_code 26 = .ok (.iinc 4 1, 3) := by decide +kernel
theorem own_d_hash_29 : decode prog_98_method_4_code 29 = .ok (.goto (-23), 3) := by decide +kernel
theorem own_d_hash_32 : decode prog_98_method_4_code 32 = .ok (.iload_n 3, 1) := by decide +kernel
theorem own_d_hash_33 : decode prog_98_method_4_code 33 = .ok (.ireturn, 1) := by decide +kernel
theorem own_pn_com_example_redoubt_redoubt_job_Lines : plainName "com/example/redoubt/redoubt/job/Lines" = true := by first | (simp [plainName, overriddenIn]; done) | decide +kernel
theorem own_ef_hash (m : MethodId) (a : Addr) (i0 : Int32) (tt : Int32) : entryFrame m #[(.ref a), (.int i0), (.int tt)] 5 = mkF m 0 #[.val (.ref a), .val (.int i0), .val (.int tt), .unset, .unset] [] := by first | (simp [entryFrame, mkF, argsToLocals, Value.category]; done) | rfl
def own_Q_hash (Z : State) (a : Addr) (i0 : Int32) (tt : Int32) (f : Nat → Int32) (r : Int32) (h0 : Heap) (n0 : Nat) (v : Option Value) (h : Heap) (L : List Loc) : Prop := v = some (.int r) ∧ Fr n0 L ∧ h = h0
set_option maxRecDepth 65536 in
set_option maxHeartbeats 40000000 in
theorem own_rm_hash (l : Launch) (Z : State) (a0 : Array Value) (hw : ∀ d ∈ tables_1, d.before a0 Z = true) (ws : List Jvm.Cond) (a : Addr) (i0 : Int32) (tt : Int32) (f : Nat → Int32) (r : Int32) (h0 : Heap) (n0 : Nat) (Z0 : n0 ≤ h0.size) (V0 : own_Ia Z h0 a .byte 8 f) (hi0 : 0 ≤ i0.toInt) (htt : tt.toInt ≤ 8) (hr : own_hash f i0 tt = r) :
    MetFree l (⟨"com/example/redoubt/redoubt/job/Lines", "hash", "([BII)I"⟩ : MethodName) (head1 (Jvm.Cond.code (⟨"com/example/redoubt/redoubt/job/Lines", "hash", "([BII)I"⟩ : MethodName) prog_98_method_4_code 5 (some .int) :: ws) ({ frames := 0, cells := 0, slots := 0, locals := 0 } : Room)) (fun a_ U_ => a_ = #[(.ref a), (.int i0), (.int tt)] ∧ Z.Warmed39 U_.vm ∧ U_.heap = h0) (fun _ _ _ _ _ => True) (fun _ U_ o_ U'_ => ∃ v_ L_, o_ = .returned v_ ∧ own_Q_hash Z a i0 tt f r h0 n0 v_ U'_.heap L_ ∧ FrameEnd U_ o_ U'_ L_ ({ frames := 0, cells := 0, slots := 0, locals := 0 } : Room).cells ({ frames := 0, cells := 0, slots := 0, locals := 0 } : Room).slots) := by
  refine MetFree.of_bodySF (plainFor_of_name own_pn_com_example_redoubt_redoubt_job_Lines) hisR ?_
  intro p e s m args below meth c s₁ Bd hml0 hP hK
  obtain ⟨rfl, hZ, hh⟩ := hP
  have hx := Bd.exec
  have hby := Bd.bytes
  have hlk : meth.locks = false := BodyLoose.notSynchronized Bd
  have hml : c.maxLocals = 5 := hml0
  have hown : s.vm.findClass "com/example/redoubt/redoubt/job/Lines" = some m.cls := findClass_of_methodNamed Bd.named
  have hnm := (name_of_methodNamed Bd.named Bd.method).1
  have X0 : Stand p l e ({ frames := 0, cells := 0, slots := 0, locals := 0 } : Room) s m #[(.ref a), (.int i0), (.int tt)] below meth c s₁ [] 0 0 := Stand.of_body Bd
  have e0 : s₁.heap = h0 := by rw [← hh, Bd.state]; rfl
  have N0 := Fr.nil n0
  show own_Goes p e below (own_K (own_Q_hash Z a i0 tt f r h0 n0) s ({ frames := 0, cells := 0, slots := 0, locals := 0 } : Room).cells ({ frames := 0, cells := 0, slots := 0, locals := 0 } : Room).slots) s₁ (entryFrame m #[(.ref a), (.int i0), (.int tt)] 5)
  rw [own_ef_hash]
  have loop : ∀ (kk : Nat) (i acc : Int32), 0 ≤ i.toInt → (tt.toInt - i.toInt).toNat = kk → own_H f i.toNatClampNeg kk acc = r → own_Goes p e below (own_K (own_Q_hash Z a i0 tt f r h0 n0) s ({ frames := 0, cells := 0, slots := 0, locals := 0 } : Room).cells ({ frames := 0, cells := 0, slots := 0, locals := 0 } : Room).slots) s₁ (mkF m 6 #[.val (.ref a), .val (.int i0), .val (.int tt), .val (.int acc), .val (.int i)] []) := by
    intro kk
    induction kk with
    | zero =>
      intro i acc r1 r2 r3
      refine own_by (T' := s₁) (g' := (mkF m 8 #[.val (.ref a), .val (.int i0), .val (.int tt), .val (.int acc), .val (.int i)] [(.int i)])) (fun t_ k_ => XS.iload X0.here hx rfl (hb hby own_d_hash_6) rfl k_) ?_
      refine own_by (T' := s₁) (g' := (mkF m 9 #[.val (.ref a), .val (.int i0), .val (.int tt), .val (.int acc), .val (.int i)] [(.int tt), (.int i)])) (fun t_ k_ => XS.iloadN X0.here hx rfl (hb hby own_d_hash_8) rfl k_) ?_
      refine own_by (T' := s₁) (g' := (mkF m 32 #[.val (.ref a), .val (.int i0), .val (.int tt), .val (.int acc), .val (.int i)] [])) (fun t_ k_ => XS.icmpYes X0.here hx rfl (pc0 := 9) (pc' := 32) rfl (hb hby own_d_hash_9) rfl (flt ((own_ge i tt r2) : ¬ (i < tt))).2.1 (by decide) (by decide) k_) ?_
      refine own_by (T' := s₁) (g' := (mkF m 33 #[.val (.ref a), .val (.int i0), .val (.int tt), .val (.int acc), .val (.int i)] [(.int acc)])) (fun t_ k_ => XS.iloadN X0.here hx rfl (hb hby own_d_hash_32) rfl k_) ?_
      refine own_retI X0 hx Bd.returns hlk (hb hby own_d_hash_33) (by decide) (by decide) ?_
      rw [e0]
      exact ⟨by rw [← r3, own_H0], N0, rfl⟩
    | succ kk ih =>
      intro i acc r1 r2 r3
      refine own_by (T' := s₁) (g' := (mkF m 8 #[.val (.ref a), .val (.int i0), .val (.int tt), .val (.int acc), .val (.int i)] [(.int i)])) (fun t_ k_ => XS.iload X0.here hx rfl (hb hby own_d_hash_6) rfl k_) ?_
      refine own_by (T' := s₁) (g' := (mkF m 9 #[.val (.ref a), .val (.int i0), .val (.int tt), .val (.int acc), .val (.int i)] [(.int tt), (.int i)])) (fun t_ k_ => XS.iloadN X0.here hx rfl (hb hby own_d_hash_8) rfl k_) ?_
      refine own_by (T' := s₁) (g' := (mkF m 12 #[.val (.ref a), .val (.int i0), .val (.int tt), .val (.int acc), .val (.int i)] [])) (fun t_ k_ => XS.icmpNo X0.here hx rfl (hb hby own_d_hash_9) rfl (tlt ((own_lt i tt kk r2) : i < tt)).2.1 k_) ?_
      refine own_by (T' := s₁) (g' := (mkF m 13 #[.val (.ref a), .val (.int i0), .val (.int tt), .val (.int acc), .val (.int i)] [(.int acc)])) (fun t_ k_ => XS.iloadN X0.here hx rfl (hb hby own_d_hash_12) rfl k_) ?_
      refine own_by (T' := s₁) (g' := (mkF m 14 #[.val (.ref a), .val (.int i0), .val (.int tt), .val (.int acc), .val (.int i)] [(.ref a), (.int acc)])) (fun t_ k_ => XS.aloadN X0.here hx rfl (hb hby own_d_hash_13) rfl rfl k_) ?_
      refine own_by (T' := s₁) (g' := (mkF m 16 #[.val (.ref a), .val (.int i0), .val (.int tt), .val (.int acc), .val (.int i)] [(.int i), (.ref a), (.int acc)])) (fun t_ k_ => XS.iload X0.here hx rfl (hb hby own_d_hash_14) rfl k_) ?_
      refine own_by (T' := s₁) (g' := (mkF m 17 #[.val (.ref a), .val (.int i0), .val (.int tt), .val (.int acc), .val (.int i)] [(.int (f i.toNatClampNeg)), (.int acc)])) (fun t_ k_ => own_bal X0 hx hZ e0 V0 (j := i) (own_nn i r1) (own_ix i tt htt r1 (own_lt i tt kk r2)) (g := (mkF m 16 #[.val (.ref a), .val (.int i0), .val (.int tt), .val (.int acc), .val (.int i)] [(.int i), (.ref a), (.int acc)])) rfl rfl (hb hby own_d_hash_16) _ k_) ?_
      refine own_by (T' := s₁) (g' := (mkF m 20 #[.val (.ref a), .val (.int i0), .val (.int tt), .val (.int acc), .val (.int i)] [(.int (255 : Int32)), (.int (f i.toNatClampNeg)), (.int acc)])) (fun t_ k_ => XS.sipush X0.here hx rfl (hb hby own_d_hash_17) k_) ?_
      refine own_by (T' := s₁) (g' := (mkF m 21 #[.val (.ref a), .val (.int i0), .val (.int tt), .val (.int acc), .val (.int i)] [(.int ((f i.toNatClampNeg) &&& (255 : Int32))), (.int acc)])) (fun t_ k_ => XS.iand X0.here hx rfl (hb hby own_d_hash_20) rfl k_) ?_
      refine own_by (T' := s₁) (g' := (mkF m 22 #[.val (.ref a), .val (.int i0), .val (.int tt), .val (.int acc), .val (.int i)] [(.int (acc ^^^ ((f i.toNatClampNeg) &&& (255 : Int32))))])) (fun t_ k_ => XS.ixor X0.here hx rfl (hb hby own_d_hash_21) rfl k_) ?_
      refine own_by (T' := s₁) (g' := (mkF m 24 #[.val (.ref a), .val (.int i0), .val (.int tt), .val (.int acc), .val (.int i)] [(.int (16777619 : Int32)), (.int (acc ^^^ ((f i.toNatClampNeg) &&& (255 : Int32))))])) (fun t_ k_ => X0.ldcInt hx hown (mvT hZ (hw _ (List.mem_of_getElem? (i := 8) rfl))) (g := (mkF m 22 #[.val (.ref a), .val (.int i0), .val (.int tt), .val (.int acc), .val (.int i)] [(.int (acc ^^^ ((f i.toNatClampNeg) &&& (255 : Int32))))])) rfl (hb hby own_d_hash_22) _ k_) ?_
      refine own_by (T' := s₁) (g' := (mkF m 25 #[.val (.ref a), .val (.int i0), .val (.int tt), .val (.int acc), .val (.int i)] [(.int ((acc ^^^ ((f i.toNatClampNeg) &&& (255 : Int32))) * (16777619 : Int32)))])) (fun t_ k_ => XS.imul X0.here hx rfl (hb hby own_d_hash_24) rfl k_) ?_
      refine own_by (T' := s₁) (g' := (mkF m 26 #[.val (.ref a), .val (.int i0), .val (.int tt), .val (.int ((acc ^^^ ((f i.toNatClampNeg) &&& (255 : Int32))) * (16777619 : Int32))), .val (.int i)] [])) (fun t_ k_ => XS.istoreN X0.here hx rfl (hb hby own_d_hash_25) rfl (l' := #[.val (.ref a), .val (.int i0), .val (.int tt), .val (.int ((acc ^^^ ((f i.toNatClampNeg) &&& (255 : Int32))) * (16777619 : Int32))), .val (.int i)]) rfl k_) ?_
      refine own_by (T' := s₁) (g' := (mkF m 29 #[.val (.ref a), .val (.int i0), .val (.int tt), .val (.int ((acc ^^^ ((f i.toNatClampNeg) &&& (255 : Int32))) * (16777619 : Int32))), .val (.int (i + (1 : Int32)))] [])) (fun t_ k_ => XS.iinc X0.here hx rfl (hb hby own_d_hash_26) rfl (l' := #[.val (.ref a), .val (.int i0), .val (.int tt), .val (.int ((acc ^^^ ((f i.toNatClampNeg) &&& (255 : Int32))) * (16777619 : Int32))), .val (.int (i + (1 : Int32)))]) rfl k_) ?_
      refine own_by (T' := s₁) (g' := (mkF m 6 #[.val (.ref a), .val (.int i0), .val (.int tt), .val (.int ((acc ^^^ ((f i.toNatClampNeg) &&& (255 : Int32))) * (16777619 : Int32))), .val (.int (i + (1 : Int32)))] [])) (fun t_ k_ => XS.goto X0.here hx rfl (pc0 := 29) (pc' := 6) rfl (hb hby own_d_hash_29) (by decide) (by decide) k_) ?_
      exact ih _ _ (own_i1 i tt htt r1 (own_lt i tt kk r2)) (own_i3 i tt kk htt r1 r2) (by rw [own_i2 i tt htt r1 (own_lt i tt kk r2), ← own_std, ← own_Hc]; exact r3)
  refine own_by (T' := s₁) (g' := (mkF m 2 #[.val (.ref a), .val (.int i0), .val (.int tt), .unset, .unset] [(.int (-2128831035 : Int32))])) (fun t_ k_ => X0.ldcInt hx hown (mvT hZ (hw _ (List.mem_of_getElem? (i := 6) rfl))) (g := (mkF m 0 #[.val (.ref a), .val (.int i0), .val (.int tt), .unset, .unset] [])) rfl (hb hby own_d_hash_0) _ k_) ?_
  refine own_by (T' := s₁) (g' := (mkF m 3 #[.val (.ref a), .val (.int i0), .val (.int tt), .val (.int (-2128831035 : Int32)), .unset] [])) (fun t_ k_ => XS.istoreN X0.here hx rfl (hb hby own_d_hash_2) rfl (l' := #[.val (.ref a), .val (.int i0), .val (.int tt), .val (.int (-2128831035 : Int32)), .unset]) rfl k_) ?_
  refine own_by (T' := s₁) (g' := (mkF m 4 #[.val (.ref a), .val (.int i0), .val (.int tt), .val (.int (-2128831035 : Int32)), .unset] [(.int i0)])) (fun t_ k_ => XS.iloadN X0.here hx rfl (hb hby own_d_hash_3) rfl k_) ?_
  refine own_by (T' := s₁) (g' := (mkF m 6 #[.val (.ref a), .val (.int i0), .val (.int tt), .val (.int (-2128831035 : Int32)), .val (.int i0)] [])) (fun t_ k_ => XS.istore X0.here hx rfl (hb hby own_d_hash_4) rfl (l' := #[.val (.ref a), .val (.int i0), .val (.int tt), .val (.int (-2128831035 : Int32)), .val (.int i0)]) rfl k_) ?_
  exact loop _ _ _ hi0 rfl (by rw [← hr, own_hd])
theorem own_pd0 : parseMethodDescriptor "([BII)I" = some ⟨[(.array .byte), .int, .int], some .int⟩ := by decide +kernel
theorem own_pn_com_example_redoubt_redoubt_job_LinesHashPinLaw : plainName "com/example/redoubt/redoubt/job/LinesHashPinLaw" = true := by first | (simp [plainName, overriddenIn]; done) | decide +kernel
theorem own_ef_law (m : MethodId) (dd : Int64) (fa : Int32) (ta : Int32) : entryFrame m #[(.long dd), (.int fa), (.int ta)] maxLocals = mkF m 0 #[.val (.long dd), .second, .val (.int fa), .val (.int ta), .unset, .unset, .unset, .unset, .unset] [] := by first | (simp [entryFrame, mkF, argsToLocals, Value.category, maxLocals]; done) | rfl
def own_Q_law (Z : State) (dd : Int64) (fa : Int32) (ta : Int32) (h0 : Heap) (n0 : Nat) (v : Option Value) (h : Heap) (L : List Loc) : Prop := v = some (.int 1) ∧ Fr n0 L
set_option maxRecDepth 65536 in
set_option maxHeartbeats 40000000 in
theorem own_rm_law (l : Launch) (Z : State) (a0 : Array Value) (hw : ∀ d ∈ tables_1, d.before a0 Z = true) (ws : List Jvm.Cond) (dd : Int64) (fa : Int32) (ta : Int32) (h0 : Heap) (n0 : Nat) (Z0 : n0 ≤ h0.size) :
    MetFree l x (head1 (Jvm.Cond.code x code maxLocals ret :: ws) room_1) (fun a_ U_ => a_ = #[(.long dd), (.int fa), (.int ta)] ∧ Z.Warmed39 U_.vm ∧ U_.heap = h0) (fun _ _ _ _ _ => True) (fun _ U_ o_ U'_ => ∃ v_ L_, o_ = .returned v_ ∧ own_Q_law Z dd fa ta h0 n0 v_ U'_.heap L_ ∧ FrameEnd U_ o_ U'_ L_ room_1.cells room_1.slots) := by
  refine MetFree.of_bodySF (plainFor_of_name own_pn_com_example_redoubt_redoubt_job_LinesHashPinLaw) hisR ?_
  intro p e s m args below meth c s₁ Bd hml0 hP hK
  obtain ⟨rfl, hZ, hh⟩ := hP
  have hx := Bd.exec
  have hby := Bd.bytes
  have hlk : meth.locks = false := BodyLoose.notSynchronized Bd
  have hml : c.maxLocals = 9 := hml0
  have hown : s.vm.findClass "com/example/redoubt/redoubt/job/LinesHashPinLaw" = some m.cls := findClass_of_methodNamed Bd.named
  have hnm := (name_of_methodNamed Bd.named Bd.method).1
  have X0 : Stand p l e room_1 s m #[(.long dd), (.int fa), (.int ta)] below meth c s₁ [] 0 0 := Stand.of_body Bd
  have e0 : s₁.heap = h0 := by rw [← hh, Bd.state]; rfl
  have N0 := Fr.nil n0
  show own_Goes p e below (own_K (own_Q_law Z dd fa ta h0 n0) s room_1.cells room_1.slots) s₁ (entryFrame m #[(.long dd), (.int fa), (.int ta)] maxLocals)
  rw [own_ef_law]
  refine own_by (T' := s₁) (g' := (mkF m 2 #[.val (.long dd), .second, .val (.int fa), .val (.int ta), .unset, .unset, .unset, .unset, .unset] [(.int (8 : Int32))])) (fun t_ k_ => XS.bipush X0.here hx rfl (hb hby at_0) k_) ?_
  obtain ⟨T1, h1, k1, X1, e1, E1, A1, st1⟩ := newP X0 hx hZ (hw _ (List.mem_of_getElem? (i := 0) rfl)) e0 (g := (mkF m 2 #[.val (.long dd), .second, .val (.int fa), .val (.int ta), .unset, .unset, .unset, .unset, .unset] [(.int (8 : Int32))])) rfl (hb hby at_2) rfl (by decide) (cap := 8) (by decide) (by decide) (by decide) (by decide)
  obtain ⟨b1, g1⟩ : ∃ z, z = h0.size := ⟨_, rfl⟩
  rw [← g1] at A1 st1
  have g_b1 : n0 ≤ b1 := Nat.le_trans Z0 (Nat.le_of_eq g1.symm)
  have f2 := Nat.le_trans Z0 E1.1
  have V1 : own_Ia Z h1 b1 .byte 8 (fun _ => (0 : Int32)) := own_Ia_new A1 rfl rfl rfl
  refine own_by (T' := T1) (g' := (mkF m 4 #[.val (.long dd), .second, .val (.int fa), .val (.int ta), .unset, .unset, .unset, .unset, .unset] [(.ref b1)])) st1 ?_
  refine own_by (T' := T1) (g' := (mkF m 6 #[.val (.long dd), .second, .val (.int fa), .val (.int ta), .val (.ref b1), .unset, .unset, .unset, .unset] [])) (fun t_ k_ => XS.astore X1.here hx rfl (hb hby at_4) rfl rfl (l' := #[.val (.long dd), .second, .val (.int fa), .val (.int ta), .val (.ref b1), .unset, .unset, .unset, .unset]) rfl k_) ?_
  refine own_by (T' := T1) (g' := (mkF m 8 #[.val (.long dd), .second, .val (.int fa), .val (.int ta), .val (.ref b1), .unset, .unset, .unset, .unset] [(.ref b1)])) (fun t_ k_ => XS.aload X1.here hx rfl (hb hby at_6) rfl rfl k_) ?_
  refine own_by (T' := T1) (g' := (mkF m 9 #[.val (.long dd), .second, .val (.int fa), .val (.int ta), .val (.ref b1), .unset, .unset, .unset, .unset] [(.int (0 : Int32)), (.ref b1)])) (fun t_ k_ => XS.iconst X1.here hx rfl (hb hby at_8) k_) ?_
  refine own_by (T' := T1) (g' := (mkF m 10 #[.val (.long dd), .second, .val (.int fa), .val (.int ta), .val (.ref b1), .unset, .unset, .unset, .unset] [(.long dd), (.int (0 : Int32)), (.ref b1)])) (fun t_ k_ => XS.lloadN X1.here hx rfl (hb hby at_9) rfl k_) ?_
  refine own_by (T' := T1) (g' := (mkF m 11 #[.val (.long dd), .second, .val (.int fa), .val (.int ta), .val (.ref b1), .unset, .unset, .unset, .unset] [(.int dd.toInt32), (.int (0 : Int32)), (.ref b1)])) (fun t_ k_ => XS.l2i X1.here hx rfl (hb hby at_10) rfl k_) ?_
  refine own_by (T' := T1) (g' := (mkF m 12 #[.val (.long dd), .second, .val (.int fa), .val (.int ta), .val (.ref b1), .unset, .unset, .unset, .unset] [(.int dd.toInt32.toInt8.toInt32), (.int (0 : Int32)), (.ref b1)])) (fun t_ k_ => XS.i2b X1.here hx rfl (hb hby at_11) rfl k_) ?_
  obtain ⟨T3, h3, X3, e3, W3, st3⟩ := own_bas X1 hx hZ e1 V1 (j := (0 : Int32)) (by decide) (by decide) (g := (mkF m 12 #[.val (.long dd), .second, .val (.int fa), .val (.int ta), .val (.ref b1), .unset, .unset, .unset, .unset] [(.int dd.toInt32.toInt8.toInt32), (.int (0 : Int32)), (.ref b1)])) rfl rfl (hb hby at_12)
  refine own_by (T' := T3) (g' := (mkF m 13 #[.val (.long dd), .second, .val (.int fa), .val (.int ta), .val (.ref b1), .unset, .unset, .unset, .unset] [])) st3 ?_
  have N3 := Fr.snoc X3 N0 g_b1
  have f4 := Nat.le_trans f2 (Keep.of_wr W3).1
  have V5 : own_Ia Z h3 b1 .byte 8 (fun z_ => if z_ = 0 then (nar .byte dd.toInt32.toInt8.toInt32) else (fun _ => (0 : Int32)) z_) := own_Ia_set W3 V1 (fits_nar_byte _)
  refine own_by (T' := T3) (g' := (mkF m 15 #[.val (.long dd), .second, .val (.int fa), .val (.int ta), .val (.ref b1), .unset, .unset, .unset, .unset] [(.ref b1)])) (fun t_ k_ => XS.aload X3.here hx rfl (hb hby at_13) rfl rfl k_) ?_
  refine own_by (T' := T3) (g' := (mkF m 16 #[.val (.long dd), .second, .val (.int fa), .val (.int ta), .val (.ref b1), .unset, .unset, .unset, .unset] [(.int (1 : Int32)), (.ref b1)])) (fun t_ k_ => XS.iconst X3.here hx rfl (hb hby at_15) k_) ?_
  refine own_by (T' := T3) (g' := (mkF m 17 #[.val (.long dd), .second, .val (.int fa), .val (.int ta), .val (.ref b1), .unset, .unset, .unset, .unset] [(.long dd), (.int (1 : Int32)), (.ref b1)])) (fun t_ k_ => XS.lloadN X3.here hx rfl (hb hby at_16) rfl k_) ?_
  refine own_by (T' := T3) (g' := (mkF m 19 #[.val (.long dd), .second, .val (.int fa), .val (.int ta), .val (.ref b1), .unset, .unset, .unset, .unset] [(.int (8 : Int32)), (.long dd), (.int (1 : Int32)), (.ref b1)])) (fun t_ k_ => XS.bipush X3.here hx rfl (hb hby at_17) k_) ?_
  refine own_by (T' := T3) (g' := (mkF m 20 #[.val (.long dd), .second, .val (.int fa), .val (.int ta), .val (.ref b1), .unset, .unset, .unset, .unset] [(.long ((dd.toUInt64 >>> ((8 : Int32) &&& 0x3f).toInt64.toUInt64).toInt64)), (.int (1 : Int32)), (.ref b1)])) (fun t_ k_ => XS.lushr X3.here hx rfl (hb hby at_19) rfl k_) ?_
  refine own_by (T' := T3) (g' := (mkF m 21 #[.val (.long dd), .second, .val (.int fa), .val (.int ta), .val (.ref b1), .unset, .unset, .unset, .unset] [(.int ((dd.toUInt64 >>> ((8 : Int32) &&& 0x3f).toInt64.toUInt64).toInt64).toInt32), (.int (1 : Int32)), (.ref b1)])) (fun t_ k_ => XS.l2i X3.here hx rfl (hb hby at_20) rfl k_) ?_
  refine own_by (T' := T3) (g' := (mkF m 22 #[.val (.long dd), .second, .val (.int fa), .val (.int ta), .val (.ref b1), .unset, .unset, .unset, .unset] [(.int (((dd.toUInt64 >>> ((8 : Int32) &&& 0x3f).toInt64.toUInt64).toInt64).toInt32).toInt8.toInt32), (.int (1 : Int32)), (.ref b1)])) (fun t_ k_ => XS.i2b X3.here hx rfl (hb hby at_21) rfl k_) ?_
  obtain ⟨T6, h6, X6, e6, W6, st6⟩ := own_bas X3 hx hZ e3 V5 (j := (1 : Int32)) (by decide) (by decide) (g := (mkF m 22 #[.val (.long dd), .second, .val (.int fa), .val (.int ta), .val (.ref b1), .unset, .unset, .unset, .unset] [(.int (((dd.toUInt64 >>> ((8 : Int32) &&& 0x3f).toInt64.toUInt64).toInt64).toInt32).toInt8.toInt32), (.int (1 : Int32)), (.ref b1)])) rfl rfl (hb hby at_22)
  refine own_by (T' := T6) (g' := (mkF m 23 #[.val (.long dd), .second, .val (.int fa), .val (.int ta), .val (.ref b1), .unset, .unset, .unset, .unset] [])) st6 ?_
  have N6 := Fr.snoc X6 N3 g_b1
  have f7 := Nat.le_trans f4 (Keep.of_wr W6).1
  have V8 : own_Ia Z h6 b1 .byte 8 (fun z_ => if z_ = 1 then (nar .byte ((((dd.toUInt64 >>> ((8 : Int32) &&& 0x3f).toInt64.toUInt64).toInt64).toInt32).toInt8.toInt32)) else (fun z_ => if z_ = 0 then (nar .byte dd.toInt32.toInt8.toInt32) else (fun _ => (0 : Int32)) z_) z_) := own_Ia_set W6 V5 (fits_nar_byte _)
  refine own_by (T' := T6) (g' := (mkF m 25 #[.val (.long dd), .second, .val (.int fa), .val (.int ta), .val (.ref b1), .unset, .unset, .unset, .unset] [(.ref b1)])) (fun t_ k_ => XS.aload X6.here hx rfl (hb hby at_23) rfl rfl k_) ?_
  refine own_by (T' := T6) (g' := (mkF m 26 #[.val (.long dd), .second, .val (.int fa), .val (.int ta), .val (.ref b1), .unset, .unset, .unset, .unset] [(.int (2 : Int32)), (.ref b1)])) (fun t_ k_ => XS.iconst X6.here hx rfl (hb hby at_25) k_) ?_
  refine own_by (T' := T6) (g' := (mkF m 27 #[.val (.long dd), .second, .val (.int fa), .val (.int ta), .val (.ref b1), .unset, .unset, .unset, .unset] [(.long dd), (.int (2 : Int32)), (.ref b1)])) (fun t_ k_ => XS.lloadN X6.here hx rfl (hb hby at_26) rfl k_) ?_
  refine own_by (T' := T6) (g' := (mkF m 29 #[.val (.long dd), .second, .val (.int fa), .val (.int ta), .val (.ref b1), .unset, .unset, .unset, .unset] [(.int (16 : Int32)), (.long dd), (.int (2 : Int32)), (.ref b1)])) (fun t_ k_ => XS.bipush X6.here hx rfl (hb hby at_27) k_) ?_
  refine own_by (T' := T6) (g' := (mkF m 30 #[.val (.long dd), .second, .val (.int fa), .val (.int ta), .val (.ref b1), .unset, .unset, .unset, .unset] [(.long ((dd.toUInt64 >>> ((16 : Int32) &&& 0x3f).toInt64.toUInt64).toInt64)), (.int (2 : Int32)), (.ref b1)])) (fun t_ k_ => XS.lushr X6.here hx rfl (hb hby at_29) rfl k_) ?_
  refine own_by (T' := T6) (g' := (mkF m 31 #[.val (.long dd), .second, .val (.int fa), .val (.int ta), .val (.ref b1), .unset, .unset, .unset, .unset] [(.int ((dd.toUInt64 >>> ((16 : Int32) &&& 0x3f).toInt64.toUInt64).toInt64).toInt32), (.int (2 : Int32)), (.ref b1)])) (fun t_ k_ => XS.l2i X6.here hx rfl (hb hby at_30) rfl k_) ?_
  refine own_by (T' := T6) (g' := (mkF m 32 #[.val (.long dd), .second, .val (.int fa), .val (.int ta), .val (.ref b1), .unset, .unset, .unset, .unset] [(.int (((dd.toUInt64 >>> ((16 : Int32) &&& 0x3f).toInt64.toUInt64).toInt64).toInt32).toInt8.toInt32), (.int (2 : Int32)), (.ref b1)])) (fun t_ k_ => XS.i2b X6.here hx rfl (hb hby at_31) rfl k_) ?_
  obtain ⟨T9, h9, X9, e9, W9, st9⟩ := own_bas X6 hx hZ e6 V8 (j := (2 : Int32)) (by decide) (by decide) (g := (mkF m 32 #[.val (.long dd), .second, .val (.int fa), .val (.int ta), .val (.ref b1), .unset, .unset, .unset, .unset] [(.int (((dd.toUInt64 >>> ((16 : Int32) &&& 0x3f).toInt64.toUInt64).toInt64).toInt32).toInt8.toInt32), (.int (2 : Int32)), (.ref b1)])) rfl rfl (hb hby at_32)
  refine own_by (T' := T9) (g' := (mkF m 33 #[.val (.long dd), .second, .val (.int fa), .val (.int ta), .val (.ref b1), .unset, .unset, .unset, .unset] [])) st9 ?_
  have N9 := Fr.snoc X9 N6 g_b1
  have f10 := Nat.le_trans f7 (Keep.of_wr W9).1
  have V11 : own_Ia Z h9 b1 .byte 8 (fun z_ => if z_ = 2 then (nar .byte ((((dd.toUInt64 >>> ((16 : Int32) &&& 0x3f).toInt64.toUInt64).toInt64).toInt32).toInt8.toInt32)) else (fun z_ => if z_ = 1 then (nar .byte ((((dd.toUInt64 >>> ((8 : Int32) &&& 0x3f).toInt64.toUInt64).toInt64).toInt32).toInt8.toInt32)) else (fun z_ => if z_ = 0 then (nar .byte dd.toInt32.toInt8.toInt32) else (fun _ => (0 : Int32)) z_) z_) z_) := own_Ia_set W9 V8 (fits_nar_byte _)
  refine own_by (T' := T9) (g' := (mkF m 35 #[.val (.long dd), .second, .val (.int fa), .val (.int ta), .val (.ref b1), .unset, .unset, .unset, .unset] [(.ref b1)])) (fun t_ k_ => XS.aload X9.here hx rfl (hb hby at_33) rfl rfl k_) ?_
  refine own_by (T' := T9) (g' := (mkF m 36 #[.val (.long dd), .second, .val (.int fa), .val (.int ta), .val (.ref b1), .unset, .unset, .unset, .unset] [(.int (3 : Int32)), (.ref b1)])) (fun t_ k_ => XS.iconst X9.here hx rfl (hb hby at_35) k_) ?_
  refine own_by (T' := T9) (g' := (mkF m 37 #[.val (.long dd), .second, .val (.int fa), .val (.int ta), .val (.ref b1), .unset, .unset, .unset, .unset] [(.long dd), (.int (3 : Int32)), (.ref b1)])) (fun t_ k_ => XS.lloadN X9.here hx rfl (hb hby at_36) rfl k_) ?_
  refine own_by (T' := T9) (g' := (mkF m 39 #[.val (.long dd), .second, .val (.int fa), .val (.int ta), .val (.ref b1), .unset, .unset, .unset, .unset] [(.int (24 : Int32)), (.long dd), (.int (3 : Int32)), (.ref b1)])) (fun t_ k_ => XS.bipush X9.here hx rfl (hb hby at_37) k_) ?_
  refine own_by (T' := T9) (g' := (mkF m 40 #[.val (.long dd), .second, .val (.int fa), .val (.int ta), .val (.ref b1), .unset, .unset, .unset, .unset] [(.long ((dd.toUInt64 >>> ((24 : Int32) &&& 0x3f).toInt64.toUInt64).toInt64)), (.int (3 : Int32)), (.ref b1)])) (fun t_ k_ => XS.lushr X9.here hx rfl (hb hby at_39) rfl k_) ?_
  refine own_by (T' := T9) (g' := (mkF m 41 #[.val (.long dd), .second, .val (.int fa), .val (.int ta), .val (.ref b1), .unset, .unset, .unset, .unset] [(.int ((dd.toUInt64 >>> ((24 : Int32) &&& 0x3f).toInt64.toUInt64).toInt64).toInt32), (.int (3 : Int32)), (.ref b1)])) (fun t_ k_ => XS.l2i X9.here hx rfl (hb hby at_40) rfl k_) ?_
  refine own_by (T' := T9) (g' := (mkF m 42 #[.val (.long dd), .second, .val (.int fa), .val (.int ta), .val (.ref b1), .unset, .unset, .unset, .unset] [(.int (((dd.toUInt64 >>> ((24 : Int32) &&& 0x3f).toInt64.toUInt64).toInt64).toInt32).toInt8.toInt32), (.int (3 : Int32)), (.ref b1)])) (fun t_ k_ => XS.i2b X9.here hx rfl (hb hby at_41) rfl k_) ?_
  obtain ⟨T12, h12, X12, e12, W12, st12⟩ := own_bas X9 hx hZ e9 V11 (j := (3 : Int32)) (by decide) (by decide) (g := (mkF m 42 #[.val (.long dd), .second, .val (.int fa), .val (.int ta), .val (.ref b1), .unset, .unset, .unset, .unset] [(.int (((dd.toUInt64 >>> ((24 : Int32) &&& 0x3f).toInt64.toUInt64).toInt64).toInt32).toInt8.toInt32), (.int (3 : Int32)), (.ref b1)])) rfl rfl (hb hby at_42)
  refine own_by (T' := T12) (g' := (mkF m 43 #[.val (.long dd), .second, .val (.int fa), .val (.int ta), .val (.ref b1), .unset, .unset, .unset, .unset] [])) st12 ?_
  have N12 := Fr.snoc X12 N9 g_b1
  have f13 := Nat.le_trans f10 (Keep.of_wr W12).1
  have V14 : own_Ia Z h12 b1 .byte 8 (fun z_ => if z_ = 3 then (nar .byte ((((dd.toUInt64 >>> ((24 : Int32) &&& 0x3f).toInt64.toUInt64).toInt64).toInt32).toInt8.toInt32)) else (fun z_ => if z_ = 2 then (nar .byte ((((dd.toUInt64 >>> ((16 : Int32) &&& 0x3f).toInt64.toUInt64).toInt64).toInt32).toInt8.toInt32)) else (fun z_ => if z_ = 1 then (nar .byte ((((dd.toUInt64 >>> ((8 : Int32) &&& 0x3f).toInt64.toUInt64).toInt64).toInt32).toInt8.toInt32)) else (fun z_ => if z_ = 0 then (nar .byte dd.toInt32.toInt8.toInt32) else (fun _ => (0 : Int32)) z_) z_) z_) z_) := own_Ia_set W12 V11 (fits_nar_byte _)
  refine own_by (T' := T12) (g' := (mkF m 45 #[.val (.long dd), .second, .val (.int fa), .val (.int ta), .val (.ref b1), .unset, .unset, .unset, .unset] [(.ref b1)])) (fun t_ k_ => XS.aload X12.here hx rfl (hb hby at_43) rfl rfl k_) ?_
  refine own_by (T' := T12) (g' := (mkF m 46 #[.val (.long dd), .second, .val (.int fa), .val (.int ta), .val (.ref b1), .unset, .unset, .unset, .unset] [(.int (4 : Int32)), (.ref b1)])) (fun t_ k_ => XS.iconst X12.here hx rfl (hb hby at_45) k_) ?_
  refine own_by (T' := T12) (g' := (mkF m 47 #[.val (.long dd), .second, .val (.int fa), .val (.int ta), .val (.ref b1), .unset, .unset, .unset, .unset] [(.long dd), (.int (4 : Int32)), (.ref b1)])) (fun t_ k_ => XS.lloadN X12.here hx rfl (hb hby at_46) rfl k_) ?_
  refine own_by (T' := T12) (g' := (mkF m 49 #[.val (.long dd), .second, .val (.int fa), .val (.int ta), .val (.ref b1), .unset, .unset, .unset, .unset] [(.int (32 : Int32)), (.long dd), (.int (4 : Int32)), (.ref b1)])) (fun t_ k_ => XS.bipush X12.here hx rfl (hb hby at_47) k_) ?_
  refine own_by (T' := T12) (g' := (mkF m 50 #[.val (.long dd), .second, .val (.int fa), .val (.int ta), .val (.ref b1), .unset, .unset, .unset, .unset] [(.long ((dd.toUInt64 >>> ((32 : Int32) &&& 0x3f).toInt64.toUInt64).toInt64)), (.int (4 : Int32)), (.ref b1)])) (fun t_ k_ => XS.lushr X12.here hx rfl (hb hby at_49) rfl k_) ?_
  refine own_by (T' := T12) (g' := (mkF m 51 #[.val (.long dd), .second, .val (.int fa), .val (.int ta), .val (.ref b1), .unset, .unset, .unset, .unset] [(.int ((dd.toUInt64 >>> ((32 : Int32) &&& 0x3f).toInt64.toUInt64).toInt64).toInt32), (.int (4 : Int32)), (.ref b1)])) (fun t_ k_ => XS.l2i X12.here hx rfl (hb hby at_50) rfl k_) ?_
  refine own_by (T' := T12) (g' := (mkF m 52 #[.val (.long dd), .second, .val (.int fa), .val (.int ta), .val (.ref b1), .unset, .unset, .unset, .unset] [(.int (((dd.toUInt64 >>> ((32 : Int32) &&& 0x3f).toInt64.toUInt64).toInt64).toInt32).toInt8.toInt32), (.int (4 : Int32)), (.ref b1)])) (fun t_ k_ => XS.i2b X12.here hx rfl (hb hby at_51) rfl k_) ?_
  obtain ⟨T15, h15, X15, e15, W15, st15⟩ := own_bas X12 hx hZ e12 V14 (j := (4 : Int32)) (by decide) (by decide) (g := (mkF m 52 #[.val (.long dd), .second, .val (.int fa), .val (.int ta), .val (.ref b1), .unset, .unset, .unset, .unset] [(.int (((dd.toUInt64 >>> ((32 : Int32) &&& 0x3f).toInt64.toUInt64).toInt64).toInt32).toInt8.toInt32), (.int (4 : Int32)), (.ref b1)])) rfl rfl (hb hby at_52)
  refine own_by (T' := T15) (g' := (mkF m 53 #[.val (.long dd), .second, .val (.int fa), .val (.int ta), .val (.ref b1), .unset, .unset, .unset, .unset] [])) st15 ?_
  have N15 := Fr.snoc X15 N12 g_b1
  have f16 := Nat.le_trans f13 (Keep.of_wr W15).1
  have V17 : own_Ia Z h15 b1 .byte 8 (fun z_ => if z_ = 4 then (nar .byte ((((dd.toUInt64 >>> ((32 : Int32) &&& 0x3f).toInt64.toUInt64).toInt64).toInt32).toInt8.toInt32)) else (fun z_ => if z_ = 3 then (nar .byte ((((dd.toUInt64 >>> ((24 : Int32) &&& 0x3f).toInt64.toUInt64).toInt64).toInt32).toInt8.toInt32)) else (fun z_ => if z_ = 2 then (nar .byte ((((dd.toUInt64 >>> ((16 : Int32) &&& 0x3f).toInt64.toUInt64).toInt64).toInt32).toInt8.toInt32)) else (fun z_ => if z_ = 1 then (nar .byte ((((dd.toUInt64 >>> ((8 : Int32) &&& 0x3f).toInt64.toUInt64).toInt64).toInt32).toInt8.toInt32)) else (fun z_ => if z_ = 0 then (nar .byte dd.toInt32.toInt8.toInt32) else (fun _ => (0 : Int32)) z_) z_) z_) z_) z_) := own_Ia_set W15 V14 (fits_nar_byte _)
  refine own_by (T' := T15) (g' := (mkF m 55 #[.val (.long dd), .second, .val (.int fa), .val (.int ta), .val (.ref b1), .unset, .unset, .unset, .unset] [(.ref b1)])) (fun t_ k_ => XS.aload X15.here hx rfl (hb hby at_53) rfl rfl k_) ?_
  refine own_by (T' := T15) (g' := (mkF m 56 #[.val (.long dd), .second, .val (.int fa), .val (.int ta), .val (.ref b1), .unset, .unset, .unset, .unset] [(.int (5 : Int32)), (.ref b1)])) (fun t_ k_ => XS.iconst X15.here hx rfl (hb hby at_55) k_) ?_
  refine own_by (T' := T15) (g' := (mkF m 57 #[.val (.long dd), .second, .val (.int fa), .val (.int ta), .val (.ref b1), .unset, .unset, .unset, .unset] [(.long dd), (.int (5 : Int32)), (.ref b1)])) (fun t_ k_ => XS.lloadN X15.here hx rfl (hb hby at_56) rfl k_) ?_
  refine own_by (T' := T15) (g' := (mkF m 59 #[.val (.long dd), .second, .val (.int fa), .val (.int ta), .val (.ref b1), .unset, .unset, .unset, .unset] [(.int (40 : Int32)), (.long dd), (.int (5 : Int32)), (.ref b1)])) (fun t_ k_ => XS.bipush X15.here hx rfl (hb hby at_57) k_) ?_
  refine own_by (T' := T15) (g' := (mkF m 60 #[.val (.long dd), .second, .val (.int fa), .val (.int ta), .val (.ref b1), .unset, .unset, .unset, .unset] [(.long ((dd.toUInt64 >>> ((40 : Int32) &&& 0x3f).toInt64.toUInt64).toInt64)), (.int (5 : Int32)), (.ref b1)])) (fun t_ k_ => XS.lushr X15.here hx rfl (hb hby at_59) rfl k_) ?_
  refine own_by (T' := T15) (g' := (mkF m 61 #[.val (.long dd), .second, .val (.int fa), .val (.int ta), .val (.ref b1), .unset, .unset, .unset, .unset] [(.int ((dd.toUInt64 >>> ((40 : Int32) &&& 0x3f).toInt64.toUInt64).toInt64).toInt32), (.int (5 : Int32)), (.ref b1)])) (fun t_ k_ => XS.l2i X15.here hx rfl (hb hby at_60) rfl k_) ?_
  refine own_by (T' := T15) (g' := (mkF m 62 #[.val (.long dd), .second, .val (.int fa), .val (.int ta), .val (.ref b1), .unset, .unset, .unset, .unset] [(.int (((dd.toUInt64 >>> ((40 : Int32) &&& 0x3f).toInt64.toUInt64).toInt64).toInt32).toInt8.toInt32), (.int (5 : Int32)), (.ref b1)])) (fun t_ k_ => XS.i2b X15.here hx rfl (hb hby at_61) rfl k_) ?_
  obtain ⟨T18, h18, X18, e18, W18, st18⟩ := own_bas X15 hx hZ e15 V17 (j := (5 : Int32)) (by decide) (by decide) (g := (mkF m 62 #[.val (.long dd), .second, .val (.int fa), .val (.int ta), .val (.ref b1), .unset, .unset, .unset, .unset] [(.int (((dd.toUInt64 >>> ((40 : Int32) &&& 0x3f).toInt64.toUInt64).toInt64).toInt32).toInt8.toInt32), (.int (5 : Int32)), (.ref b1)])) rfl rfl (hb hby at_62)
  refine own_by (T' := T18) (g' := (mkF m 63 #[.val (.long dd), .second, .val (.int fa), .val (.int ta), .val (.ref b1), .unset, .unset, .unset, .unset] [])) st18 ?_
  have N18 := Fr.snoc X18 N15 g_b1
  have f19 := Nat.le_trans f16 (Keep.of_wr W18).1
  have V20 : own_Ia Z h18 b1 .byte 8 (fun z_ => if z_ = 5 then (nar .byte ((((dd.toUInt64 >>> ((40 : Int32) &&& 0x3f).toInt64.toUInt64).toInt64).toInt32).toInt8.toInt32)) else (fun z_ => if z_ = 4 then (nar .byte ((((dd.toUInt64 >>> ((32 : Int32) &&& 0x3f).toInt64.toUInt64).toInt64).toInt32).toInt8.toInt32)) else (fun z_ => if z_ = 3 then (nar .byte ((((dd.toUInt64 >>> ((24 : Int32) &&& 0x3f).toInt64.toUInt64).toInt64).toInt32).toInt8.toInt32)) else (fun z_ => if z_ = 2 then (nar .byte ((((dd.toUInt64 >>> ((16 : Int32) &&& 0x3f).toInt64.toUInt64).toInt64).toInt32).toInt8.toInt32)) else (fun z_ => if z_ = 1 then (nar .byte ((((dd.toUInt64 >>> ((8 : Int32) &&& 0x3f).toInt64.toUInt64).toInt64).toInt32).toInt8.toInt32)) else (fun z_ => if z_ = 0 then (nar .byte dd.toInt32.toInt8.toInt32) else (fun _ => (0 : Int32)) z_) z_) z_) z_) z_) z_) := own_Ia_set W18 V17 (fits_nar_byte _)
  refine own_by (T' := T18) (g' := (mkF m 65 #[.val (.long dd), .second, .val (.int fa), .val (.int ta), .val (.ref b1), .unset, .unset, .unset, .unset] [(.ref b1)])) (fun t_ k_ => XS.aload X18.here hx rfl (hb hby at_63) rfl rfl k_) ?_
  refine own_by (T' := T18) (g' := (mkF m 67 #[.val (.long dd), .second, .val (.int fa), .val (.int ta), .val (.ref b1), .unset, .unset, .unset, .unset] [(.int (6 : Int32)), (.ref b1)])) (fun t_ k_ => XS.bipush X18.here hx rfl (hb hby at_65) k_) ?_
  refine own_by (T' := T18) (g' := (mkF m 68 #[.val (.long dd), .second, .val (.int fa), .val (.int ta), .val (.ref b1), .unset, .unset, .unset, .unset] [(.long dd), (.int (6 : Int32)), (.ref b1)])) (fun t_ k_ => XS.lloadN X18.here hx rfl (hb hby at_67) rfl k_) ?_
  refine own_by (T' := T18) (g' := (mkF m 70 #[.val (.long dd), .second, .val (.int fa), .val (.int ta), .val (.ref b1), .unset, .unset, .unset, .unset] [(.int (48 : Int32)), (.long dd), (.int (6 : Int32)), (.ref b1)])) (fun t_ k_ => XS.bipush X18.here hx rfl (hb hby at_68) k_) ?_
  refine own_by (T' := T18) (g' := (mkF m 71 #[.val (.long dd), .second, .val (.int fa), .val (.int ta), .val (.ref b1), .unset, .unset, .unset, .unset] [(.long ((dd.toUInt64 >>> ((48 : Int32) &&& 0x3f).toInt64.toUInt64).toInt64)), (.int (6 : Int32)), (.ref b1)])) (fun t_ k_ => XS.lushr X18.here hx rfl (hb hby at_70) rfl k_) ?_
  refine own_by (T' := T18) (g' := (mkF m 72 #[.val (.long dd), .second, .val (.int fa), .val (.int ta), .val (.ref b1), .unset, .unset, .unset, .unset] [(.int ((dd.toUInt64 >>> ((48 : Int32) &&& 0x3f).toInt64.toUInt64).toInt64).toInt32), (.int (6 : Int32)), (.ref b1)])) (fun t_ k_ => XS.l2i X18.here hx rfl (hb hby at_71) rfl k_) ?_
  refine own_by (T' := T18) (g' := (mkF m 73 #[.val (.long dd), .second, .val (.int fa), .val (.int ta), .val (.ref b1), .unset, .unset, .unset, .unset] [(.int (((dd.toUInt64 >>> ((48 : Int32) &&& 0x3f).toInt64.toUInt64).toInt64).toInt32).toInt8.toInt32), (.int (6 : Int32)), (.ref b1)])) (fun t_ k_ => XS.i2b X18.here hx rfl (hb hby at_72) rfl k_) ?_
  obtain ⟨T21, h21, X21, e21, W21, st21⟩ := own_bas X18 hx hZ e18 V20 (j := (6 : Int32)) (by decide) (by decide) (g := (mkF m 73 #[.val (.long dd), .second, .val (.int fa), .val (.int ta), .val (.ref b1), .unset, .unset, .unset, .unset] [(.int (((dd.toUInt64 >>> ((48 : Int32) &&& 0x3f).toInt64.toUInt64).toInt64).toInt32).toInt8.toInt32), (.int (6 : Int32)), (.ref b1)])) rfl rfl (hb hby at_73)
  refine own_by (T' := T21) (g' := (mkF m 74 #[.val (.long dd), .second, .val (.int fa), .val (.int ta), .val (.ref b1), .unset, .unset, .unset, .unset] [])) st21 ?_
  have N21 := Fr.snoc X21 N18 g_b1
  have f22 := Nat.le_trans f19 (Keep.of_wr W21).1
  have V23 : own_Ia Z h21 b1 .byte 8 (fun z_ => if z_ = 6 then (nar .byte ((((dd.toUInt64 >>> ((48 : Int32) &&& 0x3f).toInt64.toUInt64).toInt64).toInt32).toInt8.toInt32)) else (fun z_ => if z_ = 5 then (nar .byte ((((dd.toUInt64 >>> ((40 : Int32) &&& 0x3f).toInt64.toUInt64).toInt64).toInt32).toInt8.toInt32)) else (fun z_ => if z_ = 4 then (nar .byte ((((dd.toUInt64 >>> ((32 : Int32) &&& 0x3f).toInt64.toUInt64).toInt64).toInt32).toInt8.toInt32)) else (fun z_ => if z_ = 3 then (nar .byte ((((dd.toUInt64 >>> ((24 : Int32) &&& 0x3f).toInt64.toUInt64).toInt64).toInt32).toInt8.toInt32)) else (fun z_ => if z_ = 2 then (nar .byte ((((dd.toUInt64 >>> ((16 : Int32) &&& 0x3f).toInt64.toUInt64).toInt64).toInt32).toInt8.toInt32)) else (fun z_ => if z_ = 1 then (nar .byte ((((dd.toUInt64 >>> ((8 : Int32) &&& 0x3f).toInt64.toUInt64).toInt64).toInt32).toInt8.toInt32)) else (fun z_ => if z_ = 0 then (nar .byte dd.toInt32.toInt8.toInt32) else (fun _ => (0 : Int32)) z_) z_) z_) z_) z_) z_) z_) := own_Ia_set W21 V20 (fits_nar_byte _)
  refine own_by (T' := T21) (g' := (mkF m 76 #[.val (.long dd), .second, .val (.int fa), .val (.int ta), .val (.ref b1), .unset, .unset, .unset, .unset] [(.ref b1)])) (fun t_ k_ => XS.aload X21.here hx rfl (hb hby at_74) rfl rfl k_) ?_
  refine own_by (T' := T21) (g' := (mkF m 78 #[.val (.long dd), .second, .val (.int fa), .val (.int ta), .val (.ref b1), .unset, .unset, .unset, .unset] [(.int (7 : Int32)), (.ref b1)])) (fun t_ k_ => XS.bipush X21.here hx rfl (hb hby at_76) k_) ?_
  refine own_by (T' := T21) (g' := (mkF m 79 #[.val (.long dd), .second, .val (.int fa), .val (.int ta), .val (.ref b1), .unset, .unset, .unset, .unset] [(.long dd), (.int (7 : Int32)), (.ref b1)])) (fun t_ k_ => XS.lloadN X21.here hx rfl (hb hby at_78) rfl k_) ?_
  refine own_by (T' := T21) (g' := (mkF m 81 #[.val (.long dd), .second, .val (.int fa), .val (.int ta), .val (.ref b1), .unset, .unset, .unset, .unset] [(.int (56 : Int32)), (.long dd), (.int (7 : Int32)), (.ref b1)])) (fun t_ k_ => XS.bipush X21.here hx rfl (hb hby at_79) k_) ?_
  refine own_by (T' := T21) (g' := (mkF m 82 #[.val (.long dd), .second, .val (.int fa), .val (.int ta), .val (.ref b1), .unset, .unset, .unset, .unset] [(.long ((dd.toUInt64 >>> ((56 : Int32) &&& 0x3f).toInt64.toUInt64).toInt64)), (.int (7 : Int32)), (.ref b1)])) (fun t_ k_ => XS.lushr X21.here hx rfl (hb hby at_81) rfl k_) ?_
  refine own_by (T' := T21) (g' := (mkF m 83 #[.val (.long dd), .second, .val (.int fa), .val (.int ta), .val (.ref b1), .unset, .unset, .unset, .unset] [(.int ((dd.toUInt64 >>> ((56 : Int32) &&& 0x3f).toInt64.toUInt64).toInt64).toInt32), (.int (7 : Int32)), (.ref b1)])) (fun t_ k_ => XS.l2i X21.here hx rfl (hb hby at_82) rfl k_) ?_
  refine own_by (T' := T21) (g' := (mkF m 84 #[.val (.long dd), .second, .val (.int fa), .val (.int ta), .val (.ref b1), .unset, .unset, .unset, .unset] [(.int (((dd.toUInt64 >>> ((56 : Int32) &&& 0x3f).toInt64.toUInt64).toInt64).toInt32).toInt8.toInt32), (.int (7 : Int32)), (.ref b1)])) (fun t_ k_ => XS.i2b X21.here hx rfl (hb hby at_83) rfl k_) ?_
  obtain ⟨T24, h24, X24, e24, W24, st24⟩ := own_bas X21 hx hZ e21 V23 (j := (7 : Int32)) (by decide) (by decide) (g := (mkF m 84 #[.val (.long dd), .second, .val (.int fa), .val (.int ta), .val (.ref b1), .unset, .unset, .unset, .unset] [(.int (((dd.toUInt64 >>> ((56 : Int32) &&& 0x3f).toInt64.toUInt64).toInt64).toInt32).toInt8.toInt32), (.int (7 : Int32)), (.ref b1)])) rfl rfl (hb hby at_84)
  refine own_by (T' := T24) (g' := (mkF m 85 #[.val (.long dd), .second, .val (.int fa), .val (.int ta), .val (.ref b1), .unset, .unset, .unset, .unset] [])) st24 ?_
  have N24 := Fr.snoc X24 N21 g_b1
  have f25 := Nat.le_trans f22 (Keep.of_wr W24).1
  have V26 : own_Ia Z h24 b1 .byte 8 (fun z_ => if z_ = 7 then (nar .byte ((((dd.toUInt64 >>> ((56 : Int32) &&& 0x3f).toInt64.toUInt64).toInt64).toInt32).toInt8.toInt32)) else (fun z_ => if z_ = 6 then (nar .byte ((((dd.toUInt64 >>> ((48 : Int32) &&& 0x3f).toInt64.toUInt64).toInt64).toInt32).toInt8.toInt32)) else (fun z_ => if z_ = 5 then (nar .byte ((((dd.toUInt64 >>> ((40 : Int32) &&& 0x3f).toInt64.toUInt64).toInt64).toInt32).toInt8.toInt32)) else (fun z_ => if z_ = 4 then (nar .byte ((((dd.toUInt64 >>> ((32 : Int32) &&& 0x3f).toInt64.toUInt64).toInt64).toInt32).toInt8.toInt32)) else (fun z_ => if z_ = 3 then (nar .byte ((((dd.toUInt64 >>> ((24 : Int32) &&& 0x3f).toInt64.toUInt64).toInt64).toInt32).toInt8.toInt32)) else (fun z_ => if z_ = 2 then (nar .byte ((((dd.toUInt64 >>> ((16 : Int32) &&& 0x3f).toInt64.toUInt64).toInt64).toInt32).toInt8.toInt32)) else (fun z_ => if z_ = 1 then (nar .byte ((((dd.toUInt64 >>> ((8 : Int32) &&& 0x3f).toInt64.toUInt64).toInt64).toInt32).toInt8.toInt32)) else (fun z_ => if z_ = 0 then (nar .byte dd.toInt32.toInt8.toInt32) else (fun _ => (0 : Int32)) z_) z_) z_) z_) z_) z_) z_) z_) := own_Ia_set W24 V23 (fits_nar_byte _)
  obtain ⟨f, Vf⟩ : ∃ f, own_Ia Z h24 b1 .byte 8 f := ⟨_, V26⟩
  refine own_by (T' := T24) (g' := (mkF m 86 #[.val (.long dd), .second, .val (.int fa), .val (.int ta), .val (.ref b1), .unset, .unset, .unset, .unset] [(.int fa)])) (fun t_ k_ => XS.iloadN X24.here hx rfl (hb hby at_85) rfl k_) ?_
  refine own_by (T' := T24) (g' := (mkF m 88 #[.val (.long dd), .second, .val (.int fa), .val (.int ta), .val (.ref b1), .unset, .unset, .unset, .unset] [(.int (2147483647 : Int32)), (.int fa)])) (fun t_ k_ => X24.ldcInt hx hown (mvT hZ (hw _ (List.mem_of_getElem? (i := 1) rfl))) (g := (mkF m 86 #[.val (.long dd), .second, .val (.int fa), .val (.int ta), .val (.ref b1), .unset, .unset, .unset, .unset] [(.int fa)])) rfl (hb hby at_86) _ k_) ?_
  refine own_by (T' := T24) (g' := (mkF m 89 #[.val (.long dd), .second, .val (.int fa), .val (.int ta), .val (.ref b1), .unset, .unset, .unset, .unset] [(.int (fa &&& (2147483647 : Int32)))])) (fun t_ k_ => XS.iand X24.here hx rfl (hb hby at_88) rfl k_) ?_
  refine own_by (T' := T24) (g' := (mkF m 91 #[.val (.long dd), .second, .val (.int fa), .val (.int ta), .val (.ref b1), .unset, .unset, .unset, .unset] [(.int (9 : Int32)), (.int (fa &&& (2147483647 : Int32)))])) (fun t_ k_ => XS.bipush X24.here hx rfl (hb hby at_89) k_) ?_
  refine own_by (T' := T24) (g' := (mkF m 92 #[.val (.long dd), .second, .val (.int fa), .val (.int ta), .val (.ref b1), .unset, .unset, .unset, .unset] [(.int ((fa &&& (2147483647 : Int32)) % (9 : Int32)))])) (fun t_ k_ => Jvm.RoadKit.iremM X24 hx rfl (hb hby at_91) rfl (by decide) k_) ?_
  refine own_by (T' := T24) (g' := (mkF m 94 #[.val (.long dd), .second, .val (.int fa), .val (.int ta), .val (.ref b1), .val (.int ((fa &&& (2147483647 : Int32)) % (9 : Int32))), .unset, .unset, .unset] [])) (fun t_ k_ => XS.istore X24.here hx rfl (hb hby at_92) rfl (l' := #[.val (.long dd), .second, .val (.int fa), .val (.int ta), .val (.ref b1), .val (.int ((fa &&& (2147483647 : Int32)) % (9 : Int32))), .unset, .unset, .unset]) rfl k_) ?_
  refine own_by (T' := T24) (g' := (mkF m 95 #[.val (.long dd), .second, .val (.int fa), .val (.int ta), .val (.ref b1), .val (.int ((fa &&& (2147483647 : Int32)) % (9 : Int32))), .unset, .unset, .unset] [(.int ta)])) (fun t_ k_ => XS.iloadN X24.here hx rfl (hb hby at_94) rfl k_) ?_
  refine own_by (T' := T24) (g' := (mkF m 97 #[.val (.long dd), .second, .val (.int fa), .val (.int ta), .val (.ref b1), .val (.int ((fa &&& (2147483647 : Int32)) % (9 : Int32))), .unset, .unset, .unset] [(.int (2147483647 : Int32)), (.int ta)])) (fun t_ k_ => X24.ldcInt hx hown (mvT hZ (hw _ (List.mem_of_getElem? (i := 1) rfl))) (g := (mkF m 95 #[.val (.long dd), .second, .val (.int fa), .val (.int ta), .val (.ref b1), .val (.int ((fa &&& (2147483647 : Int32)) % (9 : Int32))), .unset, .unset, .unset] [(.int ta)])) rfl (hb hby at_95) _ k_) ?_
  refine own_by (T' := T24) (g' := (mkF m 98 #[.val (.long dd), .second, .val (.int fa), .val (.int ta), .val (.ref b1), .val (.int ((fa &&& (2147483647 : Int32)) % (9 : Int32))), .unset, .unset, .unset] [(.int (ta &&& (2147483647 : Int32)))])) (fun t_ k_ => XS.iand X24.here hx rfl (hb hby at_97) rfl k_) ?_
  refine own_by (T' := T24) (g' := (mkF m 100 #[.val (.long dd), .second, .val (.int fa), .val (.int ta), .val (.ref b1), .val (.int ((fa &&& (2147483647 : Int32)) % (9 : Int32))), .unset, .unset, .unset] [(.int (9 : Int32)), (.int (ta &&& (2147483647 : Int32)))])) (fun t_ k_ => XS.bipush X24.here hx rfl (hb hby at_98) k_) ?_
  refine own_by (T' := T24) (g' := (mkF m 101 #[.val (.long dd), .second, .val (.int fa), .val (.int ta), .val (.ref b1), .val (.int ((fa &&& (2147483647 : Int32)) % (9 : Int32))), .unset, .unset, .unset] [(.int ((ta &&& (2147483647 : Int32)) % (9 : Int32)))])) (fun t_ k_ => Jvm.RoadKit.iremM X24 hx rfl (hb hby at_100) rfl (by decide) k_) ?_
  refine own_by (T' := T24) (g' := (mkF m 103 #[.val (.long dd), .second, .val (.int fa), .val (.int ta), .val (.ref b1), .val (.int ((fa &&& (2147483647 : Int32)) % (9 : Int32))), .val (.int ((ta &&& (2147483647 : Int32)) % (9 : Int32))), .unset, .unset] [])) (fun t_ k_ => XS.istore X24.here hx rfl (hb hby at_101) rfl (l' := #[.val (.long dd), .second, .val (.int fa), .val (.int ta), .val (.ref b1), .val (.int ((fa &&& (2147483647 : Int32)) % (9 : Int32))), .val (.int ((ta &&& (2147483647 : Int32)) % (9 : Int32))), .unset, .unset]) rfl k_) ?_
  obtain ⟨fi, hfi⟩ : ∃ z, z = ((fa &&& (2147483647 : Int32)) % (9 : Int32)) := ⟨_, rfl⟩
  rw [← hfi]
  obtain ⟨fi1, fi2⟩ := own_rng fa
  rw [← hfi] at fi1 fi2
  obtain ⟨ti, hti⟩ : ∃ z, z = ((ta &&& (2147483647 : Int32)) % (9 : Int32)) := ⟨_, rfl⟩
  rw [← hti]
  obtain ⟨ti1, ti2⟩ := own_rng ta
  rw [← hti] at ti1 ti2
  refine own_by (T' := T24) (g' := (mkF m 105 #[.val (.long dd), .second, .val (.int fa), .val (.int ta), .val (.ref b1), .val (.int fi), .val (.int ti), .unset, .unset] [(.ref b1)])) (fun t_ k_ => XS.aload X24.here hx rfl (hb hby at_103) rfl rfl k_) ?_
  refine own_by (T' := T24) (g' := (mkF m 107 #[.val (.long dd), .second, .val (.int fa), .val (.int ta), .val (.ref b1), .val (.int fi), .val (.int ti), .unset, .unset] [(.int fi), (.ref b1)])) (fun t_ k_ => XS.iload X24.here hx rfl (hb hby at_105) rfl k_) ?_
  refine own_by (T' := T24) (g' := (mkF m 109 #[.val (.long dd), .second, .val (.int fa), .val (.int ta), .val (.ref b1), .val (.int fi), .val (.int ti), .unset, .unset] [(.int ti), (.int fi), (.ref b1)])) (fun t_ k_ => XS.iload X24.here hx rfl (hb hby at_107) rfl k_) ?_
  obtain ⟨_, T27, L27, X27, hQ27, st27⟩ := own_callS X24 hx hZ (y := (⟨"com/example/redoubt/redoubt/job/Lines", "hash", "([BII)I"⟩ : MethodName)) hown (hw _ (List.mem_of_getElem? (i := 2) rfl)) (hw _ (List.mem_of_getElem? (i := 3) rfl)) (hw _ (List.mem_of_getElem? (i := 4) rfl)) (hw _ (List.mem_of_getElem? (i := 5) rfl)) (by decide) (argsL := [(.ref b1), (.int fi), (.int ti)]) (rest := []) (own_rm_hash l Z a0 hw [] b1 fi ti f (own_hash f fi ti) h24 n0 f25 Vf fi1 ti2 rfl) e24 (W := 0) (by decide) (by decide) (by decide) (by decide) (g := (mkF m 109 #[.val (.long dd), .second, .val (.int fa), .val (.int ta), .val (.ref b1), .val (.int fi), .val (.int ti), .unset, .unset] [(.int ti), (.int fi), (.ref b1)])) rfl (by rw [hml]; rfl) (lenOf own_pd0 rfl) rfl (by show 2 * 0 + _ ≤ _; exact Nat.le_of_eq rfl) (hb hby at_109)
  obtain ⟨rfl, Nq27, e27⟩ := hQ27
  have N27 := Fr.app N24 Nq27
  refine st27 _ ?_
  show own_Goes p e below _ T27 (mkF m 112 #[.val (.long dd), .second, .val (.int fa), .val (.int ta), .val (.ref b1), .val (.int fi), .val (.int ti), .unset, .unset] [(.int (own_hash f fi ti))])
  refine own_by (T' := T27) (g' := (mkF m 114 #[.val (.long dd), .second, .val (.int fa), .val (.int ta), .val (.ref b1), .val (.int fi), .val (.int ti), .val (.int (own_hash f fi ti)), .unset] [])) (fun t_ k_ => XS.istore X27.here hx rfl (hb hby at_112) rfl (l' := #[.val (.long dd), .second, .val (.int fa), .val (.int ta), .val (.ref b1), .val (.int fi), .val (.int ti), .val (.int (own_hash f fi ti)), .unset]) rfl k_) ?_
  refine own_by (T' := T27) (g' := (mkF m 116 #[.val (.long dd), .second, .val (.int fa), .val (.int ta), .val (.ref b1), .val (.int fi), .val (.int ti), .val (.int (own_hash f fi ti)), .unset] [(.int ti)])) (fun t_ k_ => XS.iload X27.here hx rfl (hb hby at_114) rfl k_) ?_
  refine own_by (T' := T27) (g' := (mkF m 118 #[.val (.long dd), .second, .val (.int fa), .val (.int ta), .val (.ref b1), .val (.int fi), .val (.int ti), .val (.int (own_hash f fi ti)), .unset] [(.int fi), (.int ti)])) (fun t_ k_ => XS.iload X27.here hx rfl (hb hby at_116) rfl k_) ?_
  by_cases c118_28 : fi < ti
  · skip
    refine own_by (T' := T27) (g' := (mkF m 134 #[.val (.long dd), .second, .val (.int fa), .val (.int ta), .val (.ref b1), .val (.int fi), .val (.int ti), .val (.int (own_hash f fi ti)), .unset] [])) (fun t_ k_ => XS.icmpYes X27.here hx rfl (pc0 := 118) (pc' := 134) rfl (hb hby at_118) rfl (tlt (c118_28 : fi < ti)).2.2.1 (by decide) (by decide) k_) ?_
    refine own_by (T' := T27) (g' := (mkF m 136 #[.val (.long dd), .second, .val (.int fa), .val (.int ta), .val (.ref b1), .val (.int fi), .val (.int ti), .val (.int (own_hash f fi ti)), .unset] [(.ref b1)])) (fun t_ k_ => XS.aload X27.here hx rfl (hb hby at_134) rfl rfl k_) ?_
    refine own_by (T' := T27) (g' := (mkF m 138 #[.val (.long dd), .second, .val (.int fa), .val (.int ta), .val (.ref b1), .val (.int fi), .val (.int ti), .val (.int (own_hash f fi ti)), .unset] [(.int fi), (.ref b1)])) (fun t_ k_ => XS.iload X27.here hx rfl (hb hby at_136) rfl k_) ?_
    refine own_by (T' := T27) (g' := (mkF m 140 #[.val (.long dd), .second, .val (.int fa), .val (.int ta), .val (.ref b1), .val (.int fi), .val (.int ti), .val (.int (own_hash f fi ti)), .unset] [(.int ti), (.int fi), (.ref b1)])) (fun t_ k_ => XS.iload X27.here hx rfl (hb hby at_138) rfl k_) ?_
    refine own_by (T' := T27) (g' := (mkF m 141 #[.val (.long dd), .second, .val (.int fa), .val (.int ta), .val (.ref b1), .val (.int fi), .val (.int ti), .val (.int (own_hash f fi ti)), .unset] [(.int (1 : Int32)), (.int ti), (.int fi), (.ref b1)])) (fun t_ k_ => XS.iconst X27.here hx rfl (hb hby at_140) k_) ?_
    refine own_by (T' := T27) (g' := (mkF m 142 #[.val (.long dd), .second, .val (.int fa), .val (.int ta), .val (.ref b1), .val (.int fi), .val (.int ti), .val (.int (own_hash f fi ti)), .unset] [(.int (ti - (1 : Int32))), (.int fi), (.ref b1)])) (fun t_ k_ => XS.isub X27.here hx rfl (hb hby at_141) rfl k_) ?_
    obtain ⟨_, T29, L29, X29, hQ29, st29⟩ := own_callS X27 hx hZ (y := (⟨"com/example/redoubt/redoubt/job/Lines", "hash", "([BII)I"⟩ : MethodName)) hown (hw _ (List.mem_of_getElem? (i := 2) rfl)) (hw _ (List.mem_of_getElem? (i := 3) rfl)) (hw _ (List.mem_of_getElem? (i := 4) rfl)) (hw _ (List.mem_of_getElem? (i := 5) rfl)) (by decide) (argsL := [(.ref b1), (.int fi), (.int (ti - (1 : Int32)))]) (rest := []) (own_rm_hash l Z a0 hw [] b1 fi (ti - (1 : Int32)) f (own_hash f fi (ti - (1 : Int32))) h24 n0 f25 Vf fi1 (own_t1 ti fi ti2 fi1 c118_28).1 rfl) e27 (W := 0) (by decide) (by decide) (by decide) (by decide) (g := (mkF m 142 #[.val (.long dd), .second, .val (.int fa), .val (.int ta), .val (.ref b1), .val (.int fi), .val (.int ti), .val (.int (own_hash f fi ti)), .unset] [(.int (ti - (1 : Int32))), (.int fi), (.ref b1)])) rfl (by rw [hml]; rfl) (lenOf own_pd0 rfl) rfl (by show 2 * 0 + _ ≤ _; exact Nat.le_of_eq rfl) (hb hby at_142)
    obtain ⟨rfl, Nq29, e29⟩ := hQ29
    have N29 := Fr.app N27 Nq29
    refine st29 _ ?_
    show own_Goes p e below _ T29 (mkF m 145 #[.val (.long dd), .second, .val (.int fa), .val (.int ta), .val (.ref b1), .val (.int fi), .val (.int ti), .val (.int (own_hash f fi ti)), .unset] [(.int (own_hash f fi (ti - (1 : Int32))))])
    refine own_by (T' := T29) (g' := (mkF m 147 #[.val (.long dd), .second, .val (.int fa), .val (.int ta), .val (.ref b1), .val (.int fi), .val (.int ti), .val (.int (own_hash f fi ti)), .val (.int (own_hash f fi (ti - (1 : Int32))))] [])) (fun t_ k_ => XS.istore X29.here hx rfl (hb hby at_145) rfl (l' := #[.val (.long dd), .second, .val (.int fa), .val (.int ta), .val (.ref b1), .val (.int fi), .val (.int ti), .val (.int (own_hash f fi ti)), .val (.int (own_hash f fi (ti - (1 : Int32))))]) rfl k_) ?_
    refine own_by (T' := T29) (g' := (mkF m 149 #[.val (.long dd), .second, .val (.int fa), .val (.int ta), .val (.ref b1), .val (.int fi), .val (.int ti), .val (.int (own_hash f fi ti)), .val (.int (own_hash f fi (ti - (1 : Int32))))] [(.int ti)])) (fun t_ k_ => XS.iload X29.here hx rfl (hb hby at_147) rfl k_) ?_
    refine own_by (T' := T29) (g' := (mkF m 150 #[.val (.long dd), .second, .val (.int fa), .val (.int ta), .val (.ref b1), .val (.int fi), .val (.int ti), .val (.int (own_hash f fi ti)), .val (.int (own_hash f fi (ti - (1 : Int32))))] [(.int (1 : Int32)), (.int ti)])) (fun t_ k_ => XS.iconst X29.here hx rfl (hb hby at_149) k_) ?_
    refine own_by (T' := T29) (g' := (mkF m 151 #[.val (.long dd), .second, .val (.int fa), .val (.int ta), .val (.ref b1), .val (.int fi), .val (.int ti), .val (.int (own_hash f fi ti)), .val (.int (own_hash f fi (ti - (1 : Int32))))] [(.int (ti - (1 : Int32)))])) (fun t_ k_ => XS.isub X29.here hx rfl (hb hby at_150) rfl k_) ?_
    refine own_by (T' := T29) (g' := (mkF m 153 #[.val (.long dd), .second, .val (.int fa), .val (.int ta), .val (.ref b1), .val (.int fi), .val (.int ti), .val (.int (own_hash f fi ti)), .val (.int (own_hash f fi (ti - (1 : Int32))))] [(.int fi), (.int (ti - (1 : Int32)))])) (fun t_ k_ => XS.iload X29.here hx rfl (hb hby at_151) rfl k_) ?_
    by_cases c153_30 : (ti - (1 : Int32)) = fi
    · skip
      refine own_by (T' := T29) (g' := (mkF m 156 #[.val (.long dd), .second, .val (.int fa), .val (.int ta), .val (.ref b1), .val (.int fi), .val (.int ti), .val (.int (own_hash f fi ti)), .val (.int (own_hash f fi (ti - (1 : Int32))))] [])) (fun t_ k_ => XS.icmpNo X29.here hx rfl (hb hby at_153) rfl (teq (c153_30 : (ti - (1 : Int32)) = fi)).2 k_) ?_
      refine own_by (T' := T29) (g' := (mkF m 158 #[.val (.long dd), .second, .val (.int fa), .val (.int ta), .val (.ref b1), .val (.int fi), .val (.int ti), .val (.int (own_hash f fi ti)), .val (.int (own_hash f fi (ti - (1 : Int32))))] [(.int (own_hash f fi (ti - (1 : Int32))))])) (fun t_ k_ => XS.iload X29.here hx rfl (hb hby at_156) rfl k_) ?_
      refine own_by (T' := T29) (g' := (mkF m 160 #[.val (.long dd), .second, .val (.int fa), .val (.int ta), .val (.ref b1), .val (.int fi), .val (.int ti), .val (.int (own_hash f fi ti)), .val (.int (own_hash f fi (ti - (1 : Int32))))] [(.int (-2128831035 : Int32)), (.int (own_hash f fi (ti - (1 : Int32))))])) (fun t_ k_ => X29.ldcInt hx hown (mvT hZ (hw _ (List.mem_of_getElem? (i := 7) rfl))) (g := (mkF m 158 #[.val (.long dd), .second, .val (.int fa), .val (.int ta), .val (.ref b1), .val (.int fi), .val (.int ti), .val (.int (own_hash f fi ti)), .val (.int (own_hash f fi (ti - (1 : Int32))))] [(.int (own_hash f fi (ti - (1 : Int32))))])) rfl (hb hby at_158) _ k_) ?_
      refine own_by (T' := T29) (g' := (mkF m 165 #[.val (.long dd), .second, .val (.int fa), .val (.int ta), .val (.ref b1), .val (.int fi), .val (.int ti), .val (.int (own_hash f fi ti)), .val (.int (own_hash f fi (ti - (1 : Int32))))] [])) (fun t_ k_ => XS.icmpYes X29.here hx rfl (pc0 := 160) (pc' := 165) rfl (hb hby at_160) rfl (teq ((own_hash1 f fi ti c153_30) : (own_hash f fi (ti - (1 : Int32))) = (-2128831035 : Int32))).1 (by decide) (by decide) k_) ?_
      refine own_by (T' := T29) (g' := (mkF m 167 #[.val (.long dd), .second, .val (.int fa), .val (.int ta), .val (.ref b1), .val (.int fi), .val (.int ti), .val (.int (own_hash f fi ti)), .val (.int (own_hash f fi (ti - (1 : Int32))))] [(.int (own_hash f fi ti))])) (fun t_ k_ => XS.iload X29.here hx rfl (hb hby at_165) rfl k_) ?_
      refine own_by (T' := T29) (g' := (mkF m 169 #[.val (.long dd), .second, .val (.int fa), .val (.int ta), .val (.ref b1), .val (.int fi), .val (.int ti), .val (.int (own_hash f fi ti)), .val (.int (own_hash f fi (ti - (1 : Int32))))] [(.int (own_hash f fi (ti - (1 : Int32)))), (.int (own_hash f fi ti))])) (fun t_ k_ => XS.iload X29.here hx rfl (hb hby at_167) rfl k_) ?_
      refine own_by (T' := T29) (g' := (mkF m 171 #[.val (.long dd), .second, .val (.int fa), .val (.int ta), .val (.ref b1), .val (.int fi), .val (.int ti), .val (.int (own_hash f fi ti)), .val (.int (own_hash f fi (ti - (1 : Int32))))] [(.ref b1), (.int (own_hash f fi (ti - (1 : Int32)))), (.int (own_hash f fi ti))])) (fun t_ k_ => XS.aload X29.here hx rfl (hb hby at_169) rfl rfl k_) ?_
      refine own_by (T' := T29) (g' := (mkF m 173 #[.val (.long dd), .second, .val (.int fa), .val (.int ta), .val (.ref b1), .val (.int fi), .val (.int ti), .val (.int (own_hash f fi ti)), .val (.int (own_hash f fi (ti - (1 : Int32))))] [(.int ti), (.ref b1), (.int (own_hash f fi (ti - (1 : Int32)))), (.int (own_hash f fi ti))])) (fun t_ k_ => XS.iload X29.here hx rfl (hb hby at_171) rfl k_) ?_
      refine own_by (T' := T29) (g' := (mkF m 174 #[.val (.long dd), .second, .val (.int fa), .val (.int ta), .val (.ref b1), .val (.int fi), .val (.int ti), .val (.int (own_hash f fi ti)), .val (.int (own_hash f fi (ti - (1 : Int32))))] [(.int (1 : Int32)), (.int ti), (.ref b1), (.int (own_hash f fi (ti - (1 : Int32)))), (.int (own_hash f fi ti))])) (fun t_ k_ => XS.iconst X29.here hx rfl (hb hby at_173) k_) ?_
      refine own_by (T' := T29) (g' := (mkF m 175 #[.val (.long dd), .second, .val (.int fa), .val (.int ta), .val (.ref b1), .val (.int fi), .val (.int ti), .val (.int (own_hash f fi ti)), .val (.int (own_hash f fi (ti - (1 : Int32))))] [(.int (ti - (1 : Int32))), (.ref b1), (.int (own_hash f fi (ti - (1 : Int32)))), (.int (own_hash f fi ti))])) (fun t_ k_ => XS.isub X29.here hx rfl (hb hby at_174) rfl k_) ?_
      refine own_by (T' := T29) (g' := (mkF m 176 #[.val (.long dd), .second, .val (.int fa), .val (.int ta), .val (.ref b1), .val (.int fi), .val (.int ti), .val (.int (own_hash f fi ti)), .val (.int (own_hash f fi (ti - (1 : Int32))))] [(.int (f (ti - (1 : Int32)).toNatClampNeg)), (.int (own_hash f fi (ti - (1 : Int32)))), (.int (own_hash f fi ti))])) (fun t_ k_ => own_bal X29 hx hZ e29 Vf (j := (ti - (1 : Int32))) (own_t1 ti fi ti2 fi1 c118_28).2.1 (own_t1 ti fi ti2 fi1 c118_28).2.2.1 (g := (mkF m 175 #[.val (.long dd), .second, .val (.int fa), .val (.int ta), .val (.ref b1), .val (.int fi), .val (.int ti), .val (.int (own_hash f fi ti)), .val (.int (own_hash f fi (ti - (1 : Int32))))] [(.int (ti - (1 : Int32))), (.ref b1), (.int (own_hash f fi (ti - (1 : Int32)))), (.int (own_hash f fi ti))])) rfl rfl (hb hby at_175) _ k_) ?_
      refine own_by (T' := T29) (g' := (mkF m 179 #[.val (.long dd), .second, .val (.int fa), .val (.int ta), .val (.ref b1), .val (.int fi), .val (.int ti), .val (.int (own_hash f fi ti)), .val (.int (own_hash f fi (ti - (1 : Int32))))] [(.int (255 : Int32)), (.int (f (ti - (1 : Int32)).toNatClampNeg)), (.int (own_hash f fi (ti - (1 : Int32)))), (.int (own_hash f fi ti))])) (fun t_ k_ => XS.sipush X29.here hx rfl (hb hby at_176) k_) ?_
      refine own_by (T' := T29) (g' := (mkF m 180 #[.val (.long dd), .second, .val (.int fa), .val (.int ta), .val (.ref b1), .val (.int fi), .val (.int ti), .val (.int (own_hash f fi ti)), .val (.int (own_hash f fi (ti - (1 : Int32))))] [(.int ((f (ti - (1 : Int32)).toNatClampNeg) &&& (255 : Int32))), (.int (own_hash f fi (ti - (1 : Int32)))), (.int (own_hash f fi ti))])) (fun t_ k_ => XS.iand X29.here hx rfl (hb hby at_179) rfl k_) ?_
      refine own_by (T' := T29) (g' := (mkF m 181 #[.val (.long dd), .second, .val (.int fa), .val (.int ta), .val (.ref b1), .val (.int fi), .val (.int ti), .val (.int (own_hash f fi ti)), .val (.int (own_hash f fi (ti - (1 : Int32))))] [(.int ((own_hash f fi (ti - (1 : Int32))) ^^^ ((f (ti - (1 : Int32)).toNatClampNeg) &&& (255 : Int32)))), (.int (own_hash f fi ti))])) (fun t_ k_ => XS.ixor X29.here hx rfl (hb hby at_180) rfl k_) ?_
      refine own_by (T' := T29) (g' := (mkF m 183 #[.val (.long dd), .second, .val (.int fa), .val (.int ta), .val (.ref b1), .val (.int fi), .val (.int ti), .val (.int (own_hash f fi ti)), .val (.int (own_hash f fi (ti - (1 : Int32))))] [(.int (16777619 : Int32)), (.int ((own_hash f fi (ti - (1 : Int32))) ^^^ ((f (ti - (1 : Int32)).toNatClampNeg) &&& (255 : Int32)))), (.int (own_hash f fi ti))])) (fun t_ k_ => X29.ldcInt hx hown (mvT hZ (hw _ (List.mem_of_getElem? (i := 9) rfl))) (g := (mkF m 181 #[.val (.long dd), .second, .val (.int fa), .val (.int ta), .val (.ref b1), .val (.int fi), .val (.int ti), .val (.int (own_hash f fi ti)), .val (.int (own_hash f fi (ti - (1 : Int32))))] [(.int ((own_hash f fi (ti - (1 : Int32))) ^^^ ((f (ti - (1 : Int32)).toNatClampNeg) &&& (255 : Int32)))), (.int (own_hash f fi ti))])) rfl (hb hby at_181) _ k_) ?_
      refine own_by (T' := T29) (g' := (mkF m 184 #[.val (.long dd), .second, .val (.int fa), .val (.int ta), .val (.ref b1), .val (.int fi), .val (.int ti), .val (.int (own_hash f fi ti)), .val (.int (own_hash f fi (ti - (1 : Int32))))] [(.int (((own_hash f fi (ti - (1 : Int32))) ^^^ ((f (ti - (1 : Int32)).toNatClampNeg) &&& (255 : Int32))) * (16777619 : Int32))), (.int (own_hash f fi ti))])) (fun t_ k_ => XS.imul X29.here hx rfl (hb hby at_183) rfl k_) ?_
      refine own_by (T' := T29) (g' := (mkF m 187 #[.val (.long dd), .second, .val (.int fa), .val (.int ta), .val (.ref b1), .val (.int fi), .val (.int ti), .val (.int (own_hash f fi ti)), .val (.int (own_hash f fi (ti - (1 : Int32))))] [])) (fun t_ k_ => XS.icmpNo X29.here hx rfl (hb hby at_184) rfl (teq ((own_hashS f fi ti ti2 fi1 c118_28) : (own_hash f fi ti) = (((own_hash f fi (ti - (1 : Int32))) ^^^ ((f (ti - (1 : Int32)).toNatClampNeg) &&& (255 : Int32))) * (16777619 : Int32)))).2 k_) ?_
      refine own_by (T' := T29) (g' := (mkF m 188 #[.val (.long dd), .second, .val (.int fa), .val (.int ta), .val (.ref b1), .val (.int fi), .val (.int ti), .val (.int (own_hash f fi ti)), .val (.int (own_hash f fi (ti - (1 : Int32))))] [(.int (1 : Int32))])) (fun t_ k_ => XS.iconst X29.here hx rfl (hb hby at_187) k_) ?_
      refine own_by (T' := T29) (g' := (mkF m 192 #[.val (.long dd), .second, .val (.int fa), .val (.int ta), .val (.ref b1), .val (.int fi), .val (.int ti), .val (.int (own_hash f fi ti)), .val (.int (own_hash f fi (ti - (1 : Int32))))] [(.int (1 : Int32))])) (fun t_ k_ => XS.goto X29.here hx rfl (pc0 := 188) (pc' := 192) rfl (hb hby at_188) (by decide) (by decide) k_) ?_
      refine own_retN X29 hx (t := .boolean) Bd.returns hlk (by simp) (hb hby at_192) (by decide) (by decide) (v := (1 : Int32)) rfl ?_
      rw [e29]
      exact ⟨rfl, N29⟩
    · skip
      refine own_by (T' := T29) (g' := (mkF m 165 #[.val (.long dd), .second, .val (.int fa), .val (.int ta), .val (.ref b1), .val (.int fi), .val (.int ti), .val (.int (own_hash f fi ti)), .val (.int (own_hash f fi (ti - (1 : Int32))))] [])) (fun t_ k_ => XS.icmpYes X29.here hx rfl (pc0 := 153) (pc' := 165) rfl (hb hby at_153) rfl (feq (c153_30 : ¬ ((ti - (1 : Int32)) = fi))).2 (by decide) (by decide) k_) ?_
      refine own_by (T' := T29) (g' := (mkF m 167 #[.val (.long dd), .second, .val (.int fa), .val (.int ta), .val (.ref b1), .val (.int fi), .val (.int ti), .val (.int (own_hash f fi ti)), .val (.int (own_hash f fi (ti - (1 : Int32))))] [(.int (own_hash f fi ti))])) (fun t_ k_ => XS.iload X29.here hx rfl (hb hby at_165) rfl k_) ?_
      refine own_by (T' := T29) (g' := (mkF m 169 #[.val (.long dd), .second, .val (.int fa), .val (.int ta), .val (.ref b1), .val (.int fi), .val (.int ti), .val (.int (own_hash f fi ti)), .val (.int (own_hash f fi (ti - (1 : Int32))))] [(.int (own_hash f fi (ti - (1 : Int32)))), (.int (own_hash f fi ti))])) (fun t_ k_ => XS.iload X29.here hx rfl (hb hby at_167) rfl k_) ?_
      refine own_by (T' := T29) (g' := (mkF m 171 #[.val (.long dd), .second, .val (.int fa), .val (.int ta), .val (.ref b1), .val (.int fi), .val (.int ti), .val (.int (own_hash f fi ti)), .val (.int (own_hash f fi (ti - (1 : Int32))))] [(.ref b1), (.int (own_hash f fi (ti - (1 : Int32)))), (.int (own_hash f fi ti))])) (fun t_ k_ => XS.aload X29.here hx rfl (hb hby at_169) rfl rfl k_) ?_
      refine own_by (T' := T29) (g' := (mkF m 173 #[.val (.long dd), .second, .val (.int fa), .val (.int ta), .val (.ref b1), .val (.int fi), .val (.int ti), .val (.int (own_hash f fi ti)), .val (.int (own_hash f fi (ti - (1 : Int32))))] [(.int ti), (.ref b1), (.int (own_hash f fi (ti - (1 : Int32)))), (.int (own_hash f fi ti))])) (fun t_ k_ => XS.iload X29.here hx rfl (hb hby at_171) rfl k_) ?_
      refine own_by (T' := T29) (g' := (mkF m 174 #[.val (.long dd), .second, .val (.int fa), .val (.int ta), .val (.ref b1), .val (.int fi), .val (.int ti), .val (.int (own_hash f fi ti)), .val (.int (own_hash f fi (ti - (1 : Int32))))] [(.int (1 : Int32)), (.int ti), (.ref b1), (.int (own_hash f fi (ti - (1 : Int32)))), (.int (own_hash f fi ti))])) (fun t_ k_ => XS.iconst X29.here hx rfl (hb hby at_173) k_) ?_
      refine own_by (T' := T29) (g' := (mkF m 175 #[.val (.long dd), .second, .val (.int fa), .val (.int ta), .val (.ref b1), .val (.int fi), .val (.int ti), .val (.int (own_hash f fi ti)), .val (.int (own_hash f fi (ti - (1 : Int32))))] [(.int (ti - (1 : Int32))), (.ref b1), (.int (own_hash f fi (ti - (1 : Int32)))), (.int (own_hash f fi ti))])) (fun t_ k_ => XS.isub X29.here hx rfl (hb hby at_174) rfl k_) ?_
      refine own_by (T' := T29) (g' := (mkF m 176 #[.val (.long dd), .second, .val (.int fa), .val (.int ta), .val (.ref b1), .val (.int fi), .val (.int ti), .val (.int (own_hash f fi ti)), .val (.int (own_hash f fi (ti - (1 : Int32))))] [(.int (f (ti - (1 : Int32)).toNatClampNeg)), (.int (own_hash f fi (ti - (1 : Int32)))), (.int (own_hash f fi ti))])) (fun t_ k_ => own_bal X29 hx hZ e29 Vf (j := (ti - (1 : Int32))) (own_t1 ti fi ti2 fi1 c118_28).2.1 (own_t1 ti fi ti2 fi1 c118_28).2.2.1 (g := (mkF m 175 #[.val (.long dd), .second, .val (.int fa), .val (.int ta), .val (.ref b1), .val (.int fi), .val (.int ti), .val (.int (own_hash f fi ti)), .val (.int (own_hash f fi (ti - (1 : Int32))))] [(.int (ti - (1 : Int32))), (.ref b1), (.int (own_hash f fi (ti - (1 : Int32)))), (.int (own_hash f fi ti))])) rfl rfl (hb hby at_175) _ k_) ?_
      refine own_by (T' := T29) (g' := (mkF m 179 #[.val (.long dd), .second, .val (.int fa), .val (.int ta), .val (.ref b1), .val (.int fi), .val (.int ti), .val (.int (own_hash f fi ti)), .val (.int (own_hash f fi (ti - (1 : Int32))))] [(.int (255 : Int32)), (.int (f (ti - (1 : Int32)).toNatClampNeg)), (.int (own_hash f fi (ti - (1 : Int32)))), (.int (own_hash f fi ti))])) (fun t_ k_ => XS.sipush X29.here hx rfl (hb hby at_176) k_) ?_
      refine own_by (T' := T29) (g' := (mkF m 180 #[.val (.long dd), .second, .val (.int fa), .val (.int ta), .val (.ref b1), .val (.int fi), .val (.int ti), .val (.int (own_hash f fi ti)), .val (.int (own_hash f fi (ti - (1 : Int32))))] [(.int ((f (ti - (1 : Int32)).toNatClampNeg) &&& (255 : Int32))), (.int (own_hash f fi (ti - (1 : Int32)))), (.int (own_hash f fi ti))])) (fun t_ k_ => XS.iand X29.here hx rfl (hb hby at_179) rfl k_) ?_
      refine own_by (T' := T29) (g' := (mkF m 181 #[.val (.long dd), .second, .val (.int fa), .val (.int ta), .val (.ref b1), .val (.int fi), .val (.int ti), .val (.int (own_hash f fi ti)), .val (.int (own_hash f fi (ti - (1 : Int32))))] [(.int ((own_hash f fi (ti - (1 : Int32))) ^^^ ((f (ti - (1 : Int32)).toNatClampNeg) &&& (255 : Int32)))), (.int (own_hash f fi ti))])) (fun t_ k_ => XS.ixor X29.here hx rfl (hb hby at_180) rfl k_) ?_
      refine own_by (T' := T29) (g' := (mkF m 183 #[.val (.long dd), .second, .val (.int fa), .val (.int ta), .val (.ref b1), .val (.int fi), .val (.int ti), .val (.int (own_hash f fi ti)), .val (.int (own_hash f fi (ti - (1 : Int32))))] [(.int (16777619 : Int32)), (.int ((own_hash f fi (ti - (1 : Int32))) ^^^ ((f (ti - (1 : Int32)).toNatClampNeg) &&& (255 : Int32)))), (.int (own_hash f fi ti))])) (fun t_ k_ => X29.ldcInt hx hown (mvT hZ (hw _ (List.mem_of_getElem? (i := 9) rfl))) (g := (mkF m 181 #[.val (.long dd), .second, .val (.int fa), .val (.int ta), .val (.ref b1), .val (.int fi), .val (.int ti), .val (.int (own_hash f fi ti)), .val (.int (own_hash f fi (ti - (1 : Int32))))] [(.int ((own_hash f fi (ti - (1 : Int32))) ^^^ ((f (ti - (1 : Int32)).toNatClampNeg) &&& (255 : Int32)))), (.int (own_hash f fi ti))])) rfl (hb hby at_181) _ k_) ?_
      refine own_by (T' := T29) (g' := (mkF m 184 #[.val (.long dd), .second, .val (.int fa), .val (.int ta), .val (.ref b1), .val (.int fi), .val (.int ti), .val (.int (own_hash f fi ti)), .val (.int (own_hash f fi (ti - (1 : Int32))))] [(.int (((own_hash f fi (ti - (1 : Int32))) ^^^ ((f (ti - (1 : Int32)).toNatClampNeg) &&& (255 : Int32))) * (16777619 : Int32))), (.int (own_hash f fi ti))])) (fun t_ k_ => XS.imul X29.here hx rfl (hb hby at_183) rfl k_) ?_
      refine own_by (T' := T29) (g' := (mkF m 187 #[.val (.long dd), .second, .val (.int fa), .val (.int ta), .val (.ref b1), .val (.int fi), .val (.int ti), .val (.int (own_hash f fi ti)), .val (.int (own_hash f fi (ti - (1 : Int32))))] [])) (fun t_ k_ => XS.icmpNo X29.here hx rfl (hb hby at_184) rfl (teq ((own_hashS f fi ti ti2 fi1 c118_28) : (own_hash f fi ti) = (((own_hash f fi (ti - (1 : Int32))) ^^^ ((f (ti - (1 : Int32)).toNatClampNeg) &&& (255 : Int32))) * (16777619 : Int32)))).2 k_) ?_
      refine own_by (T' := T29) (g' := (mkF m 188 #[.val (.long dd), .second, .val (.int fa), .val (.int ta), .val (.ref b1), .val (.int fi), .val (.int ti), .val (.int (own_hash f fi ti)), .val (.int (own_hash f fi (ti - (1 : Int32))))] [(.int (1 : Int32))])) (fun t_ k_ => XS.iconst X29.here hx rfl (hb hby at_187) k_) ?_
      refine own_by (T' := T29) (g' := (mkF m 192 #[.val (.long dd), .second, .val (.int fa), .val (.int ta), .val (.ref b1), .val (.int fi), .val (.int ti), .val (.int (own_hash f fi ti)), .val (.int (own_hash f fi (ti - (1 : Int32))))] [(.int (1 : Int32))])) (fun t_ k_ => XS.goto X29.here hx rfl (pc0 := 188) (pc' := 192) rfl (hb hby at_188) (by decide) (by decide) k_) ?_
      refine own_retN X29 hx (t := .boolean) Bd.returns hlk (by simp) (hb hby at_192) (by decide) (by decide) (v := (1 : Int32)) rfl ?_
      rw [e29]
      exact ⟨rfl, N29⟩
  · skip
    refine own_by (T' := T27) (g' := (mkF m 121 #[.val (.long dd), .second, .val (.int fa), .val (.int ta), .val (.ref b1), .val (.int fi), .val (.int ti), .val (.int (own_hash f fi ti)), .unset] [])) (fun t_ k_ => XS.icmpNo X27.here hx rfl (hb hby at_118) rfl (flt (c118_28 : ¬ (fi < ti))).2.2.1 k_) ?_
    refine own_by (T' := T27) (g' := (mkF m 123 #[.val (.long dd), .second, .val (.int fa), .val (.int ta), .val (.ref b1), .val (.int fi), .val (.int ti), .val (.int (own_hash f fi ti)), .unset] [(.int (own_hash f fi ti))])) (fun t_ k_ => XS.iload X27.here hx rfl (hb hby at_121) rfl k_) ?_
    refine own_by (T' := T27) (g' := (mkF m 125 #[.val (.long dd), .second, .val (.int fa), .val (.int ta), .val (.ref b1), .val (.int fi), .val (.int ti), .val (.int (own_hash f fi ti)), .unset] [(.int (-2128831035 : Int32)), (.int (own_hash f fi ti))])) (fun t_ k_ => X27.ldcInt hx hown (mvT hZ (hw _ (List.mem_of_getElem? (i := 7) rfl))) (g := (mkF m 123 #[.val (.long dd), .second, .val (.int fa), .val (.int ta), .val (.ref b1), .val (.int fi), .val (.int ti), .val (.int (own_hash f fi ti)), .unset] [(.int (own_hash f fi ti))])) rfl (hb hby at_123) _ k_) ?_
    refine own_by (T' := T27) (g' := (mkF m 128 #[.val (.long dd), .second, .val (.int fa), .val (.int ta), .val (.ref b1), .val (.int fi), .val (.int ti), .val (.int (own_hash f fi ti)), .unset] [])) (fun t_ k_ => XS.icmpNo X27.here hx rfl (hb hby at_125) rfl (teq ((own_hash0 f fi ti c118_28) : (own_hash f fi ti) = (-2128831035 : Int32))).2 k_) ?_
    refine own_by (T' := T27) (g' := (mkF m 129 #[.val (.long dd), .second, .val (.int fa), .val (.int ta), .val (.ref b1), .val (.int fi), .val (.int ti), .val (.int (own_hash f fi ti)), .unset] [(.int (1 : Int32))])) (fun t_ k_ => XS.iconst X27.here hx rfl (hb hby at_128) k_) ?_
    refine own_by (T' := T27) (g' := (mkF m 133 #[.val (.long dd), .second, .val (.int fa), .val (.int ta), .val (.ref b1), .val (.int fi), .val (.int ti), .val (.int (own_hash f fi ti)), .unset] [(.int (1 : Int32))])) (fun t_ k_ => XS.goto X27.here hx rfl (pc0 := 129) (pc' := 133) rfl (hb hby at_129) (by decide) (by decide) k_) ?_
    refine own_retN X27 hx (t := .boolean) Bd.returns hlk (by simp) (hb hby at_133) (by decide) (by decide) (v := (1 : Int32)) rfl ?_
    rw [e27]
    exact ⟨rfl, N27⟩
set_option maxRecDepth 65536 in
set_option maxHeartbeats 40000000 in
theorem own_comes {Post : Tables → Env → Array Value → State → Outcome → State → Prop} (hpost : ∀ tb e args s v u, (limb_1_1.after args s (.returned v) u = true ∧ limb_1_2.after args s (.returned v) u = true ∧ True) → FrameEnd s (.returned v) u (Jvm.fieldLocs frame_1_writes args s ++ Jvm.arrayLocs frame_1_arrays args s ++ Jvm.staticLocs frame_1_statics s) 16 128 → Post tb e args s (.returned v) u) :
    ArmFor flags0 classFile x code maxLocals ret World_1 tables_1 room_1 Calls_1 rest_1 Pre_1 Post := by
  intro l hfl _ _ p e ha hc hk s m args below hf hA hF happ hP
  obtain ⟨hcalls, hrest, hpre⟩ := hP
  obtain ⟨-, -, -, hnamed, -, -, -, hat⟩ := (Spec.applies_iff hf).mp happ
  obtain ⟨hg, hn⟩ := and_e (Cond.before_iff.mp (show (Jvm.Cond.and given_1 narrow_1).before args s = true from hpre))
  obtain ⟨g0, gr0⟩ := and_e hg
  obtain ⟨w0, w1, w2, rfl⟩ : ∃ w0 w1 w2 : Value, args = #[w0, w1, w2] := by
    have hs : args.size = 3 := by simpa [Cond.value, given_1] using g0
    obtain ⟨L⟩ := args
    match L, hs with
    | [w0, w1, w2], _ => exact ⟨w0, w1, w2, rfl⟩
  have hw := fun d (hd : d ∈ tables_1) => atoms_spec (ws := Jvm.Cond.code x code maxLocals ret :: tables_1) hat d (List.mem_cons_of_mem _ hd)
  have hfit : Fit s := fun {y c} hc i hi => by
    obtain ⟨ha, rfl⟩ := Array.getElem?_eq_some_iff.mp hc
    have q := List.all_eq_true.mp ((Array.all_eq_true_iff_forall_mem.mp hF) _ (Array.getElem_mem ha)) i (List.mem_range.mpr hi)
    simpa [Array.getElem?_eq_getElem hi] using q
  obtain ⟨q0, gr1⟩ := and_e gr0
  obtain ⟨q1, gr2⟩ := and_e gr1
  obtain ⟨i0, ei0⟩ := isL_v q0
  obtain rfl : w0 = (.long i0) := Option.some.inj ei0
  obtain ⟨i1, ei1⟩ := is_v q1
  obtain rfl : w1 = (.int i1) := Option.some.inj ei1
  obtain ⟨i2, ei2⟩ := is_v gr2
  obtain rfl : w2 = (.int i2) := Option.some.inj ei2
  obtain ⟨n, o, h1, h2, h3, _, L, rfl, ⟨rfl, N⟩, hq⟩ := own_rm_law l s _ hw tables_1 i0 i1 i2  s.heap s.heap.size (Nat.le_refl _)  p e ha hc hk s m _ below hf ((Spec.applies_iff_loose hf).mp happ).1 ⟨rfl, State.Warmed39.refl s, rfl⟩ trivial
  refine ⟨n, _, h1, h2, h3, hpost _ _ _ _ _ _ ⟨Cond.after_iff.mpr rfl, Cond.after_iff.mpr (eq_i res_at (Term.int_eval (1)) rfl), trivial⟩ ⟨hq.1, hq.2.1, (hq.2.2.sift fun y hy => Or.inr (N y hy)).mono (by decide) (by decide)⟩⟩
theorem main_1_1 : Claimed_1_1 := own_comes fun _ _ _ _ _ _ h hF => ⟨h.1, hF⟩
theorem main_1_2 : Claimed_1_2 := own_comes fun _ _ _ _ _ _ h hF => ⟨h.2.1, hF⟩
end Jvm.Pilot.@@N@@
namespace Jvm.Pilot.@@N@@
open Jvm Jvm.ClassFile Sem Op Lib Jvm.Free Jvm.Stand Jvm.Pilot.@@N@@.Jvm.D
/-! MADE BY PROGRAM (witnessworld.py) out of the Statement's table words and the real class files: 9 classes; the members and pool entries that the words name. The judged class is class 1, her method 1. -/
namespace start1
open Jvm.ClassFile
def u (s : String) : CpInfo := .utf8 (stringToUtf16 s)
/-- a pool by its gaps: so many unusable entries, then the entry; so many at the end -/
def gap : Nat → List CpInfo → List CpInfo
  | 0, r => r
  | n + 1, r => .unusable :: gap n r
def poolList (es : List (Nat × CpInfo)) (last : Nat) : List CpInfo := es.foldr (fun e r => gap e.1 (e.2 :: r)) (gap last [])
def pool (es : List (Nat × CpInfo)) (last : Nat) : Array CpInfo := ⟨poolList es last⟩
def fileOf (pool : Array CpInfo) (this : Nat) (attrs : Array Attribute := #[]) (ms : Array MethodInfo := #[]) (fl : Nat := 33) (sup : Nat := 0) (ifs : Array Nat := #[]) (fds : Array FieldInfo := #[]) : ClassFile where
  minorVersion := 0
  majorVersion := 65
  constantPool := pool
  accessFlags := fl
  thisClass := this
  superClass := sup
  interfaces := ifs
  fields := fds
  methods := ms
  attributes := attrs
def plain (name : String) (sup : Option ClassId) : Class where
  name := name
  kind := .ordinary
  loader := none
  accessFlags := 33
  super := sup
  interfaces := #[]
  cf := none
  fields := #[]
  methods := #[]
  instanceTypes := #[]
  staticTypes := #[]
  resolved := #[]
  callSites := []
  init := .initialized
  statics := none
  mirror := none

def pool0 : Array CpInfo := pool [(5, u "<init>"), (0, u "()V"), (1, .class_ 10), (1, u "java/lang/Object")] 113

def k0m0 : Method := { name := "<init>", desc := "()V", sig := { parameters := [], returnType := none }, accessFlags := 1, code := none }
/-- java/lang/Object -/
def k0 : Class := { plain "java/lang/Object" none with
  accessFlags := 33
  interfaces := #[]
  cf := some (fileOf pool0 8 #[] #[{ accessFlags := 1, nameIndex := 5, descriptorIndex := 6, attributes := #[] }] 33 0 #[] #[])
  fields := #[]
  methods := #[k0m0]
  instanceTypes := #[]
  staticTypes := #[]
  resolved := Array.replicate 124 none
  statics := none }

def pool1 : Array CpInfo := pool [(2, .class_ 4), (1, u "java/lang/Object"), (0, u "<init>"), (0, u "()V"), (0, .integer 2147483647), (0, .methodref 9 10), (0, .class_ 11), (0, .nameAndType 12 13), (0, u "com/example/redoubt/redoubt/job/Lines"), (0, u "hash"), (0, u "([BII)I"), (0, .integer 2166136261), (0, .integer 16777619), (0, .class_ 17), (0, u "com/example/redoubt/redoubt/job/LinesHashPinLaw"), (2, u "law"), (0, u "(JII)Z")] 5

def k1m0 : Method := { name := "<init>", desc := "()V", sig := { parameters := [], returnType := none }, accessFlags := 2, code := none }
def k1c1 : Code := { maxStack := 5, maxLocals := 9, code := code, exceptionTable := #[], attributes := #[] }
def k1m1 : Method := { name := "law", desc := "(JII)Z", sig := { parameters := [.long, .int, .int], returnType := some .boolean }, accessFlags := 9, code := some k1c1 }
/-- com/example/redoubt/redoubt/job/LinesHashPinLaw -/
def k1 : Class := { plain "com/example/redoubt/redoubt/job/LinesHashPinLaw" (some 0) with
  accessFlags := 49
  interfaces := #[]
  cf := some (fileOf pool1 16 #[] #[{ accessFlags := 2, nameIndex := 5, descriptorIndex := 6, attributes := #[] }, { accessFlags := 9, nameIndex := 20, descriptorIndex := 21, attributes := #[] }] 49 2 #[] #[])
  fields := #[]
  methods := #[k1m0, k1m1]
  instanceTypes := #[]
  staticTypes := #[]
  resolved := Array.replicate 27 none
  statics := none }

def pool2 : Array CpInfo := pool [(2, .class_ 4), (1, u "java/lang/Object"), (0, u "<init>"), (0, u "()V"), (1, .class_ 10), (1, u "com/example/redoubt/redoubt/job/Lines"), (11, u "([BII)I"), (2, u "hash"), (6, .integer 2166136261), (0, .integer 16777619), (5, .class_ 40), (0, u "com/example/redoubt/redoubt/job/Lines$1"), (54, .class_ 96), (0, u "com/example/redoubt/redoubt/job/Lines$Merge"), (3, u "READ_BUFFER"), (0, u "I")] 22

def k2m0 : Method := { name := "<init>", desc := "()V", sig := { parameters := [], returnType := none }, accessFlags := 2, code := none }
def k2c1 : Code := { maxStack := 3, maxLocals := 5, code := prog_98_method_4_code, exceptionTable := #[], attributes := #[] }
def k2m1 : Method := { name := "hash", desc := "([BII)I", sig := { parameters := [(.array .byte), .int, .int], returnType := some .int }, accessFlags := 8, code := some k2c1 }
/-- com/example/redoubt/redoubt/job/Lines -/
def k2 : Class := { plain "com/example/redoubt/redoubt/job/Lines" (some 0) with
  accessFlags := 49
  interfaces := #[]
  cf := some (fileOf pool2 8 #[.nestMembers #[95, 39]] #[{ accessFlags := 2, nameIndex := 5, descriptorIndex := 6, attributes := #[] }, { accessFlags := 8, nameIndex := 25, descriptorIndex := 22, attributes := #[] }] 49 2 #[] #[{ accessFlags := 24, nameIndex := 100, descriptorIndex := 101, attributes := #[] }])
  fields := #[{ name := "READ_BUFFER", type := .int, accessFlags := 24, slot := 0, constantValue := 0 }]
  methods := #[k2m0, k2m1]
  instanceTypes := #[]
  staticTypes := #[.int]
  resolved := Array.replicate 124 none
  statics := none }

def pool3 : Array CpInfo := pool [(1, u "java/lang/Cloneable"), (0, .class_ 1), (0, u "java/lang/Object"), (0, .class_ 3)] 3

/-- java/lang/Cloneable -/
def k3 : Class := { plain "java/lang/Cloneable" (some 0) with
  accessFlags := 1537
  interfaces := #[]
  cf := some (fileOf pool3 2 #[] #[] 1537 4 #[] #[])
  fields := #[]
  methods := #[]
  instanceTypes := #[]
  staticTypes := #[]
  resolved := Array.replicate 8 none
  statics := none }

def pool4 : Array CpInfo := pool [(1, u "java/io/Serializable"), (0, .class_ 1), (0, u "java/lang/Object"), (0, .class_ 3)] 3

/-- java/io/Serializable -/
def k4 : Class := { plain "java/io/Serializable" (some 0) with
  accessFlags := 1537
  interfaces := #[]
  cf := some (fileOf pool4 2 #[] #[] 1537 4 #[] #[])
  fields := #[]
  methods := #[]
  instanceTypes := #[]
  staticTypes := #[]
  resolved := Array.replicate 8 none
  statics := none }

/-- the primitive byte -/
def k5 : Class := { plain "byte" none with kind := .primitive 'B', accessFlags := 0x411 }
/-- [B -/
def k6 : Class := { plain "[B" (some 0) with kind := .array 5 .byte, interfaces := #[3, 4], accessFlags := 1041 }

/-- the primitive int -/
def k7 : Class := { plain "int" none with kind := .primitive 'I', accessFlags := 0x411 }
/-- [I -/
def k8 : Class := { plain "[I" (some 0) with kind := .array 7 .int, interfaces := #[3, 4], accessFlags := 1041 }

def heap : Heap := #[]
def classes : Array Class := #[k0, k1, k2, k3, k4, k5, k6, k7, k8]
def interned : List (Array UInt16 × Addr) := []
def slotsUsed : Nat := 0
def theMethod : MethodId := ⟨1, 1⟩
def args0 : Array Value := #[.long 5, .int 5, .int 7]
def aboutOver (below : List Frame) : State where
  vm := { classes := classes, interned := interned.toArray }
  heap := heap
  slotsUsed := slotsUsed
  threads := #[{ frames := .invoking theMethod args0 :: below }]
def below0 : List Frame := [.native { method := ⟨0, 0⟩, args := #[] }]
def about1 : State := aboutOver below0
def p0 : Program := .bare "" "" ""
def e0 : Env := launch0.env 0 0 0
theorem w_frames : about1.frames = Frame.invoking theMethod args0 :: below0 := rfl
set_option maxRecDepth 65536 in
theorem w_args : argsFit about1.vm theMethod args0 = true := by decide +kernel
set_option maxRecDepth 65536 in
theorem w_heap : heapFits about1 = true := by decide +kernel
set_option maxRecDepth 65536 in
theorem w_runnable : about1.curStatus? = some .runnable := by decide +kernel
set_option maxRecDepth 65536 in
theorem w_alone : about1.alone = true := by decide +kernel
set_option maxRecDepth 65536 in
theorem w_named : about1.methodNamed? x = some theMethod := by decide +kernel
set_option maxRecDepth 65536 in
theorem w_hears : about1.hears theMethod below0 = true := by decide +kernel
set_option maxRecDepth 65536 in
theorem w_ripe : about1.ripe theMethod args0 below0 = true := by decide +kernel
theorem w_running : about1.status = .running := rfl
set_option maxRecDepth 65536 in
theorem w_room : about1.hasRoom e0.platform room_1 = true :=
  launch0.hasRoom_least _ room_1 (by decide +kernel) (by decide +kernel) (by decide +kernel) (by decide +kernel) (by decide +kernel) (by decide +kernel)
theorem allAtoms_all (ts : List Jvm.Cond) (a : Array Jvm.Value) (st : Jvm.State) : (allAtoms ts).before a st = ts.all (fun c => c.before a st) := by
  induction ts with
  | nil => rfl
  | cons c t ih =>
    show (Jvm.Cond.and c (allAtoms t)).before a st = _
    rw [Jvm.Cond.before_and, ih, List.all_cons]
def words1 : List Jvm.Cond := Jvm.Cond.code x code maxLocals ret :: tables_1
/-- a 'code' word, met by the world's own term for the bytes: nothing is compared byte by byte -/
theorem code_word {y : MethodName} {bytes : ByteArray} {mx : Nat} {rt : Option FieldType} {a : Array Value} {s : State} {m : MethodId} {meth : Method} {c : Code} (h1 : s.methodNamed? y = some m) (h2 : s.vm.method? m = some meth) (h3 : meth.code = some c) (h4 : c.code = bytes)
    (h5 : (c.maxLocals == mx && c.exceptionTable.isEmpty && decide (c.maxStack ≤ mostOperands) && decide (meth.sig.returnType = rt) && !meth.locks && decide (parseMethodDescriptor y.desc = some meth.sig)) = true) : (Jvm.Cond.code y bytes mx rt).before a s = true := by
  simp only [Bool.and_eq_true, beq_iff_eq, Bool.not_eq_true', decide_eq_true_eq] at h5
  obtain ⟨⟨⟨⟨⟨g1, g2⟩, g3⟩, g4⟩, g5⟩, g6⟩ := h5
  simp [Cond.before, Cond.holds, Cond.value, h1, h2, h3, h4, g1, g2, g3, g4, g5, g6]
def isCode : Jvm.Cond → Bool
  | .code _ _ _ _ => true
  | _ => false
theorem all_split {L : List Jvm.Cond} {P : Jvm.Cond → Bool} (h1 : L.all (fun c => isCode c || P c) = true) (h2 : ∀ c ∈ L.filter isCode, P c = true) : L.all P = true := by
  refine List.all_eq_true.mpr fun c hc => ?_
  have h := List.all_eq_true.mp h1 c hc
  rcases Bool.eq_false_or_eq_true (isCode c) with hi | hi
  · exact h2 c (List.mem_filter.mpr ⟨hc, hi⟩)
  · simpa [hi] using h
set_option maxRecDepth 65536 in
theorem w_c0 : (Jvm.Cond.code x code maxLocals ret).before args0 about1 = true := code_word (m := ⟨1, 1⟩) (meth := k1m1) (c := k1c1) (by decide +kernel) rfl rfl rfl (by decide +kernel)
set_option maxRecDepth 65536 in
theorem w_c1 : (Jvm.Cond.code ({ cls := "com/example/redoubt/redoubt/job/Lines", name := "hash", desc := "([BII)I" } : Jvm.MethodName) prog_98_method_4_code (5 : Nat) (Option.some Jvm.ClassFile.FieldType.int)).before args0 about1 = true := code_word (m := ⟨2, 1⟩) (meth := k2m1) (c := k2c1) (by decide +kernel) rfl rfl rfl (by decide +kernel)
def codes1 : List Jvm.Cond := [Jvm.Cond.code x code maxLocals ret, Jvm.Cond.code ({ cls := "com/example/redoubt/redoubt/job/Lines", name := "hash", desc := "([BII)I" } : Jvm.MethodName) prog_98_method_4_code (5 : Nat) (Option.some Jvm.ClassFile.FieldType.int)]
set_option maxRecDepth 65536 in
theorem codes_eq : words1.filter isCode = codes1 := rfl
theorem w_codes : ∀ c ∈ words1.filter isCode, c.before args0 about1 = true := by
  rw [codes_eq]
  intro c hc
  simp only [codes1, List.mem_cons, List.not_mem_nil, or_false] at hc
  rcases hc with rfl | rfl
  · exact w_c0
  · exact w_c1
set_option maxRecDepth 65536 in
theorem w_t1 : words1.all (fun c => isCode c || c.before args0 about1) = true := by decide +kernel
theorem w_tables : (allAtoms (Jvm.Cond.code x code maxLocals ret :: tables_1)).before args0 about1 = true := by
  rw [allAtoms_all]
  show words1.all (fun c => c.before args0 about1) = true
  refine all_split ?_ w_codes
  rw [w_t1]
set_option maxRecDepth 65536 in
theorem w_case : (Jvm.Cond.and given_1 narrow_1).before args0 about1 = true := by decide +kernel
theorem w_applies : (headSpec (Jvm.Cond.code x code maxLocals ret :: tables_1) room_1).applies x e0.platform about1 = true :=
  (Spec.applies_iff w_frames).mpr ⟨w_running, w_runnable, w_alone, w_named, w_hears, w_ripe, w_room, w_tables⟩
theorem atStart : AtStart classFile x code maxLocals ret World_1 tables_1 room_1 Calls_1 rest_1 Pre_1 launch0 p0 e0 about1 theMethod args0 below0 :=
  ⟨lists_1, trivial, launch0.admits_env _ _ _, launch0.least_env, fairChoices_fair.cas, fairChoices_fair.clock, w_frames, w_args, w_heap, w_applies, trivial, trivial, w_case⟩
end start1
theorem witness_1 : WitnessClaimed_1 := ⟨start1.p0, start1.e0, start1.about1, start1.theMethod, start1.args0, start1.below0, start1.atStart⟩
end Jvm.Pilot.@@N@@
