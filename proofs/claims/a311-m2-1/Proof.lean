import JvmDerived
import JvmDerived.Pilot.@@N@@Statement
import JvmDerived.Pilot.@@N@@Code
set_option linter.unusedVariables false
set_option linter.unusedSimpArgs false
namespace Jvm.Pilot.@@N@@
open Jvm Jvm.ClassFile Sem Op Lib Jvm.Free Jvm.Stand Jvm.LawKit Jvm.RoadKit Bundle Jvm.Pilot.@@N@@.Jvm.D
/-! A walk in the backward style: 'own_Goes K T g': from the frame g over T the run comes to an end of which K holds. -/
def own_Goes (p : Program) (e : Env) (below : List Frame) (K : Outcome → State → Prop) (T : State) (g : JFrame) : Prop :=
  ∃ s₂ o, Steps p.tables e below (T.setTop g) s₂ ∧ s₂.status = .running ∧ Ended s₂ below o ∧ K o s₂
def own_K (Q : Option Value → Heap → List Loc → Prop) (U : State) (C S : Nat) : Outcome → State → Prop :=
  fun o U' => ∃ v L, o = .returned v ∧ Q v U'.heap L ∧ FrameEnd U o U' L C S
section OwnKit
variable {p : Program} {l : Launch} {e : Env} {R : Room} {s : State} {m : MethodId} {args : Array Value} {below : List Frame} {meth : Method} {c : Code} {T T' : State} {locs : List Loc} {cells slots : Nat} {Z : State} {a0 : Array Value} {h : Heap} {K : Outcome → State → Prop} {Q : Option Value → Heap → List Loc → Prop} {C S : Nat}
theorem own_by {g g' : JFrame} (st : ∀ t, Steps p.tables e below (T'.setTop g') t → Steps p.tables e below (T.setTop g) t) (k : own_Goes p e below K T' g') : own_Goes p e below K T g := by
  obtain ⟨s₂, o, h1, r⟩ := k
  exact ⟨s₂, o, st _ h1, r⟩
theorem own_retN (X : Stand p l e R s m args below meth c T locs cells slots) (hx : p.tables.exec = Jvm.exec) {pc : Nat} {Ls : Array Slot} {z : Int32} {t : FieldType} {rest : List Value} (hret : meth.sig.returnType = some t) (hlocks : meth.locks = false) (ht : t = .boolean ∨ t = .byte ∨ t = .char ∨ t = .short)
    (hd : decode c.code pc = .ok (.ireturn, 1)) (hc : cells ≤ C) (hs : slots ≤ S) {v : Int32} (hv : nar t z = v) (q : Q (some (.int v)) T.heap locs) : own_Goes p e below (own_K Q s C S) T (mkF m pc Ls (.int z :: rest)) := by
  subst hv
  obtain ⟨fs, hr, hrun, hended, hW, hsame⟩ := X.leave (v := some (.int (nar t z))) (fun h => by rw [hret] at h; cases h) hlocks
  exact ⟨_, _, retN X hx hret ht hd hr, hrun, hended, _, _, rfl, q, ⟨_, rfl⟩, hW, hsame.mono hc hs⟩
theorem own_retV (X : Stand p l e R s m args below meth c T locs cells slots) (hx : p.tables.exec = Jvm.exec) {pc : Nat} {Ls : Array Slot} {w : Value} {t : FieldType} {i : Instr} {rest : List Value} (hret : meth.sig.returnType = some t) (hlocks : meth.locks = false) (hn : narrow t w = w)
    (hi : (i = .ireturn ∧ (t = .int ∨ t = .boolean ∨ t = .byte ∨ t = .char ∨ t = .short) ∧ ∃ z, w = .int z) ∨ (i = .lreturn ∧ t = .long ∧ ∃ z, w = .long z) ∨ (i = .dreturn ∧ t = .double ∧ ∃ z, w = .double z) ∨ (i = .freturn ∧ t = .float ∧ ∃ z, w = .float z) ∨ (i = .areturn ∧ t.isReference = true ∧ w.isRef = true))
    (hd : decode c.code pc = .ok (i, 1)) (hc : cells ≤ C) (hs : slots ≤ S) (q : Q (some w) T.heap locs) : own_Goes p e below (own_K Q s C S) T (mkF m pc Ls (w :: rest)) := by
  obtain ⟨fs, hr, hrun, hended, hW, hsame⟩ := X.leave (v := some w) (fun h => by rw [hret] at h; cases h) hlocks
  exact ⟨_, _, retOut X hx hret hn hi hd hr, hrun, hended, _, _, rfl, q, ⟨_, rfl⟩, hW, hsame.mono hc hs⟩
theorem own_retI (X : Stand p l e R s m args below meth c T locs cells slots) (hx : p.tables.exec = Jvm.exec) {pc : Nat} {Ls : Array Slot} {z : Int32} {rest : List Value} (hret : meth.sig.returnType = some .int) (hlocks : meth.locks = false)
    (hd : decode c.code pc = .ok (.ireturn, 1)) (hc : cells ≤ C) (hs : slots ≤ S) (q : Q (some (.int z)) T.heap locs) : own_Goes p e below (own_K Q s C S) T (mkF m pc Ls (.int z :: rest)) :=
  own_retV X hx hret hlocks rfl (Or.inl ⟨rfl, Or.inl rfl, z, rfl⟩) hd hc hs q
theorem own_retJ (X : Stand p l e R s m args below meth c T locs cells slots) (hx : p.tables.exec = Jvm.exec) {pc : Nat} {Ls : Array Slot} {z : Int64} {rest : List Value} (hret : meth.sig.returnType = some .long) (hlocks : meth.locks = false)
    (hd : decode c.code pc = .ok (.lreturn, 1)) (hc : cells ≤ C) (hs : slots ≤ S) (q : Q (some (.long z)) T.heap locs) : own_Goes p e below (own_K Q s C S) T (mkF m pc Ls (.long z :: rest)) :=
  own_retV X hx hret hlocks rfl (Or.inr (Or.inl ⟨rfl, rfl, z, rfl⟩)) hd hc hs q
theorem own_retR (X : Stand p l e R s m args below meth c T locs cells slots) (hx : p.tables.exec = Jvm.exec) {pc : Nat} {Ls : Array Slot} {w : Value} {t : FieldType} {rest : List Value} (hret : meth.sig.returnType = some t) (hlocks : meth.locks = false) (ht : t.isReference = true) (hw : w.isRef = true)
    (hd : decode c.code pc = .ok (.areturn, 1)) (hc : cells ≤ C) (hs : slots ≤ S) (q : Q (some w) T.heap locs) : own_Goes p e below (own_K Q s C S) T (mkF m pc Ls (w :: rest)) :=
  own_retV X hx hret hlocks (by cases t <;> first | (cases ht; done) | (cases w <;> rfl)) (Or.inr (Or.inr (Or.inr (Or.inr ⟨rfl, ht, hw⟩)))) hd hc hs q
theorem own_ret0 (X : Stand p l e R s m args below meth c T locs cells slots) (hx : p.tables.exec = Jvm.exec) {pc : Nat} {Ls : Array Slot} (hret : meth.sig.returnType = none) (hlocks : meth.locks = false)
    (hd : decode c.code pc = .ok (.return_, 1)) (hc : cells ≤ C) (hs : slots ≤ S) (q : Q none T.heap locs) : own_Goes p e below (own_K Q s C S) T (mkF m pc Ls []) := by
  obtain ⟨fs, hr, hrun, hended, hW, hsame⟩ := X.leave (v := none) (fun _ => rfl) hlocks
  exact ⟨_, _, X.returnOut hx hret hd hr, hrun, hended, _, _, rfl, q, ⟨_, rfl⟩, hW, hsame.mono hc hs⟩
theorem own_lrem {g : JFrame} {target : State} (X : Stand p l e R s m args below meth c T locs cells slots) (hx : p.tables.exec = Jvm.exec) (hg : g.method = m) {x y : Int64} {rest : List Value} (hd : decode c.code g.pc = .ok (.lrem, 1)) (hs : g.stack = .long y :: .long x :: rest) (hy : y ≠ 0)
    (hr : Steps p.tables e below (T.setTop { g with pc := g.pc + 1, stack := .long (x % y) :: rest }) target) : Steps p.tables e below (T.setTop g) target := by
  have q : x - x / y * y = x % y := lrem_mod x y
  exact XS.lrem X.here hx hg hd hs hy (by rw [q]; exact hr)
/-- what a callee's theorem says -/
abbrev own_Met (l : Launch) (Z : State) (y : MethodName) (bytes : ByteArray) (maxL : Nat) (ret : Option FieldType) (rm : Room) (as' : Array Value) (h : Heap) (Q : Option Value → Heap → List Loc → Prop) : Prop :=
  MetFree l y (head1 [Cond.code y bytes maxL ret] rm) (fun a U => a = as' ∧ Z.Warmed39 U.vm ∧ U.heap = h) (fun _ _ _ _ _ => True) (fun _ U o U' => ∃ v L, o = .returned v ∧ Q v U'.heap L ∧ FrameEnd U o U' L rm.cells rm.slots)
theorem own_callS (X : Stand p l e R s m args below meth c T locs cells slots) (hx : p.tables.exec = Jvm.exec) (hZ : Z.Warmed39 s.vm) {own : String} {index : Nat} {y : MethodName} {bytes : ByteArray} {maxL : Nat} {ret : Option FieldType}
    (hown : s.vm.findClass own = some m.cls) (w1 : (Cond.methodLink own index y).before a0 Z = true) (w2 : (Cond.static y).before a0 Z = true) (w3 : (Cond.initialized y.cls).before a0 Z = true) (w4 : (Cond.code y bytes maxL ret).before a0 Z = true) (hy : y.cls ≠ "java/lang/invoke/MethodHandle" ∧ y.cls ≠ "java/lang/invoke/VarHandle")
    {rm : Room} {argsL rest : List Value} (hM : own_Met l Z y bytes maxL ret rm argsL.toArray h Q) (eT : T.heap = h) {W : Nat} (hf : rm.frames + 1 ≤ R.frames) (hl : W + (maxL + 11) + rm.locals ≤ R.locals) (hc : cells + rm.cells ≤ R.cells) (hs : slots + rm.slots ≤ R.slots)
    {g : JFrame} (hg : g.method = m) (hsize : g.locals.size = c.maxLocals) (hlen : ∀ sig, parseMethodDescriptor y.desc = some sig → argsL.length = sig.parameters.length)
    (hstack : g.stack = argsL.reverse ++ rest) (hW : 2 * g.monitorRoom + (rest.map fun v => v.category).sum ≤ W) (hdg : decode c.code g.pc = .ok (.invokestatic index, 3)) :
    ∃ (v : Option Value) (T' : State) (L : List Loc), Stand p l e R s m args below meth c T' (locs ++ L) (cells + rm.cells) (slots + rm.slots) ∧ Q v T'.heap L ∧ ∀ K, own_Goes p e below K T' { g with pc := g.pc + 3, stack := v.toList ++ rest } → own_Goes p e below K T g := by
  obtain ⟨v, vm₁, ⟨T', L', k', n'⟩, -, X', ⟨L, hQ, l1, l2, l3⟩, st⟩ := Jvm.LawKit.callS X hx hown (mvT hZ w1) (mvT hZ w2) (mvT hZ w3) (mvT hZ w4) hy (backOf (W := W) hM hZ w4 w3 hf hl) hg hsize hlen hstack hW hdg (fun _ _ => ⟨rfl, eT, hc, hs⟩)
  dsimp only [Pt.U, Pt.locs, Pt.cells, Pt.slots] at X' l1 l2 l3 st hQ
  subst l1 l2 l3
  exact ⟨v, T', L, X', hQ, fun K k => own_by st k⟩
theorem own_callI (X : Stand p l e R s m args below meth c T locs cells slots) (hx : p.tables.exec = Jvm.exec) (hZ : Z.Warmed39 s.vm) {own : String} {index : Nat} {y : MethodName} {bytes : ByteArray} {maxL : Nat} (hy1 : y.name = "<init>")
    (hown : s.vm.findClass own = some m.cls) (w1 : (Cond.methodLink own index y).before a0 Z = true) (w2 : (Cond.instanceMethod y).before a0 Z = true) (w3 : (Cond.initialized y.cls).before a0 Z = true) (w4 : (Cond.code y bytes maxL none).before a0 Z = true) (hy : y.cls ≠ "java/lang/invoke/MethodHandle" ∧ y.cls ≠ "java/lang/invoke/VarHandle")
    {rm : Room} {a : Addr} {argsL rest : List Value} (hM : own_Met l Z y bytes maxL none rm (.ref a :: argsL).toArray h Q) (eT : T.heap = h) {W : Nat} (hf : rm.frames + 1 ≤ R.frames) (hl : W + (maxL + 11) + rm.locals ≤ R.locals) (hc : cells + rm.cells ≤ R.cells) (hs : slots + rm.slots ≤ R.slots)
    {g : JFrame} (hg : g.method = m) (hsize : g.locals.size = c.maxLocals) (hlen : ∀ sig, parseMethodDescriptor y.desc = some sig → argsL.length = sig.parameters.length)
    (hstack : g.stack = argsL.reverse ++ .ref a :: rest) (hW : 2 * g.monitorRoom + (rest.map fun v => v.category).sum ≤ W) (hdg : decode c.code g.pc = .ok (.invokespecial index, 3)) :
    ∃ (v : Option Value) (T' : State) (L : List Loc), Stand p l e R s m args below meth c T' (locs ++ L) (cells + rm.cells) (slots + rm.slots) ∧ Q v T'.heap L ∧ ∀ K, own_Goes p e below K T' { g with pc := g.pc + 3, stack := v.toList ++ rest } → own_Goes p e below K T g := by
  obtain ⟨v, vm₁, ⟨T', L', k', n'⟩, -, X', ⟨L, hQ, l1, l2, l3⟩, st⟩ := X.specialBack hx hy1 hown (mvT hZ w1) (mvT hZ w2) (mvT hZ w4) hy (backOf (W := W) hM hZ w4 w3 hf hl) hg hsize (Steps.refl _) hlen hstack hW hdg (fun _ _ => ⟨rfl, eT, hc, hs⟩)
  dsimp only [Pt.U, Pt.locs, Pt.cells, Pt.slots] at X' l1 l2 l3 st hQ
  subst l1 l2 l3
  exact ⟨v, T', L, X', hQ, fun K k => own_by (fun t k => st.trans k) k⟩
theorem own_callV (X : Stand p l e R s m args below meth c T locs cells slots) (hx : p.tables.exec = Jvm.exec) (hZ : Z.Warmed39 s.vm) {own C : String} {index : Nat} {y : MethodName} {bytes : ByteArray} {maxL : Nat} {ret : Option FieldType}
    (hown : s.vm.findClass own = some m.cls) (w1 : (Cond.methodLink own index y).before a0 Z = true) (w5 : (Cond.declares y).before a0 Z = true) (w6 : (Cond.selects C y y).before a0 Z = true) (w2 : (Cond.instanceMethod y).before a0 Z = true) (w3 : (Cond.initialized y.cls).before a0 Z = true) (w4 : (Cond.code y bytes maxL ret).before a0 Z = true) (hy : y.cls ≠ "java/lang/invoke/MethodHandle" ∧ y.cls ≠ "java/lang/invoke/VarHandle")
    {rm : Room} {a : Addr} {argsL rest : List Value} (E : Exa Z h a C) (hM : own_Met l Z y bytes maxL ret rm (.ref a :: argsL).toArray h Q) (eT : T.heap = h) {W : Nat} (hf : rm.frames + 1 ≤ R.frames) (hl : W + (maxL + 11) + rm.locals ≤ R.locals) (hc : cells + rm.cells ≤ R.cells) (hs : slots + rm.slots ≤ R.slots)
    {g : JFrame} (hg : g.method = m) (hsize : g.locals.size = c.maxLocals) (hlen : ∀ sig, parseMethodDescriptor y.desc = some sig → argsL.length = sig.parameters.length)
    (hstack : g.stack = argsL.reverse ++ .ref a :: rest) (hW : 2 * g.monitorRoom + (rest.map fun v => v.category).sum ≤ W) (hdg : decode c.code g.pc = .ok (.invokevirtual index, 3)) :
    ∃ (v : Option Value) (T' : State) (L : List Loc), Stand p l e R s m args below meth c T' (locs ++ L) (cells + rm.cells) (slots + rm.slots) ∧ Q v T'.heap L ∧ ∀ K, own_Goes p e below K T' { g with pc := g.pc + 3, stack := v.toList ++ rest } → own_Goes p e below K T g := by
  obtain ⟨cB, kB, q1, q2, q3⟩ := isOf hZ eT E
  obtain ⟨v, vm₁, ⟨T', L', k', n'⟩, -, X', ⟨L, hQ, l1, l2, l3⟩, st⟩ := X.virtualBack hx hown (mvT hZ w1) (mvT hZ w5) (notFace_of_selects (args := #[]) (mvT hZ w6)) (mvT hZ w6) (mvT hZ w2) hy (backOf (W := W) hM hZ w4 w3 hf hl) q1 q3 hg hsize (Steps.refl _) hlen hstack hW hdg (fun _ _ => ⟨rfl, eT, hc, hs⟩)
  dsimp only [Pt.U, Pt.locs, Pt.cells, Pt.slots] at X' l1 l2 l3 st hQ
  subst l1 l2 l3
  exact ⟨v, T', L, X', hQ, fun K k => own_by (fun t k => st.trans k) k⟩
theorem own_callPv (X : Stand p l e R s m args below meth c T locs cells slots) (hx : p.tables.exec = Jvm.exec) (hZ : Z.Warmed39 s.vm) {own C : String} {index : Nat} {y : MethodName} {bytes : ByteArray} {maxL : Nat} {ret : Option FieldType}
    (hown : s.vm.findClass own = some m.cls) (w1 : (Cond.methodLink own index y).before a0 Z = true) (w6 : (Cond.selects y.cls y y).before a0 Z = true) (w2 : (Cond.instanceMethod y).before a0 Z = true) (w7 : (Cond.privateMethod y).before a0 Z = true) (w3 : (Cond.initialized y.cls).before a0 Z = true) (w4 : (Cond.code y bytes maxL ret).before a0 Z = true) (hy : y.cls ≠ "java/lang/invoke/MethodHandle" ∧ y.cls ≠ "java/lang/invoke/VarHandle")
    {rm : Room} {a : Addr} {argsL rest : List Value} (E : Exa Z h a C) (hM : own_Met l Z y bytes maxL ret rm (.ref a :: argsL).toArray h Q) (eT : T.heap = h) {W : Nat} (hf : rm.frames + 1 ≤ R.frames) (hl : W + (maxL + 11) + rm.locals ≤ R.locals) (hc : cells + rm.cells ≤ R.cells) (hs : slots + rm.slots ≤ R.slots)
    {g : JFrame} (hg : g.method = m) (hsize : g.locals.size = c.maxLocals) (hlen : ∀ sig, parseMethodDescriptor y.desc = some sig → argsL.length = sig.parameters.length)
    (hstack : g.stack = argsL.reverse ++ .ref a :: rest) (hW : 2 * g.monitorRoom + (rest.map fun v => v.category).sum ≤ W) (hdg : decode c.code g.pc = .ok (.invokevirtual index, 3)) :
    ∃ (v : Option Value) (T' : State) (L : List Loc), Stand p l e R s m args below meth c T' (locs ++ L) (cells + rm.cells) (slots + rm.slots) ∧ Q v T'.heap L ∧ ∀ K, own_Goes p e below K T' { g with pc := g.pc + 3, stack := v.toList ++ rest } → own_Goes p e below K T g := by
  obtain ⟨cq, q1, q2⟩ := E.cell
  obtain ⟨v, vm₁, ⟨T', L', k', n'⟩, -, X', ⟨L, hQ, l1, l2, l3⟩, st⟩ := X.privateBack hx hown (mvT hZ w1) (mvT hZ w2) (mvT hZ w6) (Cond.privateMethod_at (mvP hZ w7 (args := #[]))) (mvT hZ w4) hy (backOf (W := W) hM hZ w4 w3 hf hl) hg hsize (Steps.refl _) (by rw [eT]; exact q1) q2 hlen hstack hW hdg (fun _ _ => ⟨rfl, eT, hc, hs⟩)
  dsimp only [Pt.U, Pt.locs, Pt.cells, Pt.slots] at X' l1 l2 l3 st hQ
  subst l1 l2 l3
  exact ⟨v, T', L, X', hQ, fun K k => own_by (fun t k => st.trans k) k⟩
theorem own_Sta_keep {h' : Heap} {ws : List Addr} {O n d : String} {v : Value} (F : Sta Z h O n d v) (K : Keep h h' ws) (q : ∀ a ∈ ws, ∀ cell : Cell, h[a]? = some cell → cell.vm.isStatics = false) : Sta Z h' O n d v := by
  obtain ⟨cf, i, k, f, st, cell, h1, h2, h3, h4, h5, h6, h7⟩ := F
  refine ⟨cf, i, k, f, st, cell, h1, h2, h3, h4, K.2.1 st cell h5 (fun y => ?_), h6, h7⟩
  rw [q st y cell h5] at h6; cases h6
theorem own_selp {y : MethodName} {k : Nat} (w7 : (Cond.privateMethod y).before a0 Z = true) (w2 : (Cond.instanceMethod y).before a0 Z = true) (wi : (Cond.instantiable y.cls k).before a0 Z = true) (hy : y.cls ≠ "java/lang/invoke/MethodHandle" ∧ y.cls ≠ "java/lang/invoke/VarHandle") : (Cond.selects y.cls y y).before a0 Z = true := by
  obtain ⟨c, k, i1, i2, i3, i4, -⟩ := Cond.instantiable_spec wi
  rw [Bool.or_eq_false_iff] at i4
  exact Jvm.Stand.selects_self_of_private i1 i2 i4.1 (Cond.privateMethod_at w7) w2 hy
end OwnKit
/-! arrays of ints, bytes, chars: a length and a function -/
def own_Ia (Z : State) (h : Heap) (a : Addr) (ty : FieldType) (n : Nat) (f : Nat → Int32) : Prop := ∃ c : Cell, Arr Z h a c ty ∧ c.slots.size = n ∧ (∀ i, i < n → c.slots[i]? = some (.int (f i))) ∧ ∀ i, i < n → fits ty (.int (f i)) = true
section OwnArr
variable {p : Program} {l : Launch} {e : Env} {R : Room} {s : State} {m : MethodId} {args : Array Value} {below : List Frame} {meth : Method} {c : Code} {T T' : State} {locs : List Loc} {cells slots : Nat} {Z : State} {a0 : Array Value} {h h' : Heap} {a b : Addr} {ty : FieldType} {n : Nat} {f : Nat → Int32}
theorem own_Ia_lt (F : own_Ia Z h a ty n f) : a < h.size := by obtain ⟨c, A, -⟩ := F; exact A.lt
theorem own_Ia_ext (E : Ext h h') (F : own_Ia Z h a ty n f) : own_Ia Z h' a ty n f := by obtain ⟨c, A, r⟩ := F; exact ⟨c, A.ext E, r⟩
theorem own_Ia_other {sl : Nat} {v : Value} (W : Wr h h' b sl v) (F : own_Ia Z h a ty n f) (q : a ≠ b) : own_Ia Z h' a ty n f := by obtain ⟨c, A, r⟩ := F; exact ⟨c, A.other W q, r⟩
theorem own_Ia_keep {ws : List Addr} (K : Keep h h' ws) (F : own_Ia Z h a ty n f) (q : a ∉ ws) : own_Ia Z h' a ty n f := by obtain ⟨c, A, r⟩ := F; exact ⟨c, ⟨K.2.1 a c A.1 q, A.2⟩, r⟩
theorem own_Ia_set {j : Nat} {x : Int32} (W : Wr h h' a j (.int x)) (F : own_Ia Z h a ty n f) (hf : fits ty (.int x) = true) : own_Ia Z h' a ty n (fun i => if i = j then x else f i) := by
  obtain ⟨c, A, S, H, G⟩ := F
  refine ⟨c.setSlot j (.int x), A.same W, by rw [sz_set]; exact S, fun i hi => ?_, fun i hi => ?_⟩
  · by_cases q : i = j
    · subst q
      have : i < c.slots.size := by rw [S]; exact hi
      simp [Cell.setSlot, this]
    · have := H i hi
      simp only [Cell.setSlot, if_neg q]
      rw [Array.getElem?_setIfInBounds_ne (Ne.symm q)]; exact this
  · dsimp only
    by_cases q : i = j
    · rw [if_pos q]; exact hf
    · rw [if_neg q]; exact G i hi
theorem own_Ia_new {k : ClassId} {z : Int32} (A : Arr Z h a (newA k ty z) ty) (hd : defaultValue ty = .int 0) (hf : fits ty (.int 0) = true) (hz : z.toNatClampNeg = n) : own_Ia Z h a ty n (fun _ => 0) := by
  subst hz
  refine ⟨_, A, sz_new _ _ _, fun i hi => ?_, fun i hi => hf⟩
  simp [newA, hd, hi]
theorem own_Ia_congr {f' : Nat → Int32} (F : own_Ia Z h a ty n f) (q : ∀ i, i < n → f i = f' i) : own_Ia Z h a ty n f' := by
  obtain ⟨c, A, S, H, G⟩ := F; exact ⟨c, A, S, fun i hi => by rw [H i hi, q i hi], fun i hi => by rw [← q i hi]; exact G i hi⟩
theorem own_bal (X : Stand p l e R s m args below meth c T locs cells slots) (hx : p.tables.exec = Jvm.exec) (hZ : Z.Warmed39 s.vm) (eT : T.heap = h) (F : own_Ia Z h a .byte n f) {j : Int32} (hj0 : ¬ j < 0) (hj1 : j.toNatClampNeg < n) {g : JFrame} (hg : g.method = m) {rest : List Value} (hs : g.stack = .int j :: .ref a :: rest) (hd : decode c.code g.pc = .ok (.baload, 1)) (t : State)
    (k : Steps p.tables e below (T.setTop { g with pc := g.pc + 1, stack := .int (f j.toNatClampNeg) :: rest }) t) : Steps p.tables e below (T.setTop g) t := by
  obtain ⟨c, A, S, H, G⟩ := F
  exact X.baloadBytes hx (by rw [eT]; exact A.1) (State.isArrayOf_alike hZ.alike A.2.1) A.2.2 (fun q => q.elim hj0 (fun q => absurd hj1 (by rw [← S]; exact Nat.not_lt.mpr q))) (H _ hj1) hg hs hd t k
theorem own_cal (X : Stand p l e R s m args below meth c T locs cells slots) (hx : p.tables.exec = Jvm.exec) (hZ : Z.Warmed39 s.vm) (eT : T.heap = h) (F : own_Ia Z h a .char n f) {j : Int32} (hj0 : ¬ j < 0) (hj1 : j.toNatClampNeg < n) {g : JFrame} (hg : g.method = m) {rest : List Value} (hs : g.stack = .int j :: .ref a :: rest) (hd : decode c.code g.pc = .ok (.caload, 1)) (t : State)
    (k : Steps p.tables e below (T.setTop { g with pc := g.pc + 1, stack := .int (f j.toNatClampNeg) :: rest }) t) : Steps p.tables e below (T.setTop g) t := by
  obtain ⟨c, A, S, H, G⟩ := F
  exact X.caload hx (by rw [eT]; exact A.1) (State.isArrayOf_alike hZ.alike A.2.1) A.2.2 (fun q => q.elim hj0 (fun q => absurd hj1 (by rw [← S]; exact Nat.not_lt.mpr q))) (H _ hj1) hg hs hd t k
theorem own_ial (X : Stand p l e R s m args below meth c T locs cells slots) (hx : p.tables.exec = Jvm.exec) (hZ : Z.Warmed39 s.vm) (eT : T.heap = h) (F : own_Ia Z h a .int n f) {j : Int32} (hj0 : ¬ j < 0) (hj1 : j.toNatClampNeg < n) {g : JFrame} (hg : g.method = m) {rest : List Value} (hs : g.stack = .int j :: .ref a :: rest) (hd : decode c.code g.pc = .ok (.iaload, 1)) (t : State)
    (k : Steps p.tables e below (T.setTop { g with pc := g.pc + 1, stack := .int (f j.toNatClampNeg) :: rest }) t) : Steps p.tables e below (T.setTop g) t := by
  obtain ⟨c, A, S, H, G⟩ := F
  exact X.iaload hx (by rw [eT]; exact A.1) (State.isArrayOf_alike hZ.alike A.2.1) A.2.2 (fun q => q.elim hj0 (fun q => absurd hj1 (by rw [← S]; exact Nat.not_lt.mpr q))) (H _ hj1) hg hs hd t k
theorem own_alen (X : Stand p l e R s m args below meth c T locs cells slots) (hx : p.tables.exec = Jvm.exec) (hZ : Z.Warmed39 s.vm) (eT : T.heap = h) (F : own_Ia Z h a ty n f) {z : Int32} (hz : n.toInt32 = z) {g : JFrame} (hg : g.method = m) {rest : List Value} (hs : g.stack = .ref a :: rest) (hd : decode c.code g.pc = .ok (.arraylength, 1)) (t : State)
    (k : Steps p.tables e below (T.setTop { g with pc := g.pc + 1, stack := .int z :: rest }) t) : Steps p.tables e below (T.setTop g) t := by
  obtain ⟨c, A, S, H, G⟩ := F
  subst hz S
  exact X.arraylength hx (by rw [eT]; exact A.1) (State.isArrayOf_alike hZ.alike A.2.1) hg hs hd t k
theorem own_bas (X : Stand p l e R s m args below meth c T locs cells slots) (hx : p.tables.exec = Jvm.exec) (hZ : Z.Warmed39 s.vm) (eT : T.heap = h) (F : own_Ia Z h a .byte n f) {j x : Int32} (hj0 : ¬ j < 0) (hj1 : j.toNatClampNeg < n) {g : JFrame} (hg : g.method = m) {rest : List Value} (hs : g.stack = .int x :: .int j :: .ref a :: rest) (hd : decode c.code g.pc = .ok (.bastore, 1)) :
    ∃ T' h', Stand p l e R s m args below meth c T' (locs ++ [⟨a, j.toNatClampNeg⟩]) cells slots ∧ T'.heap = h' ∧ Wr h h' a j.toNatClampNeg (.int (nar .byte x)) ∧ ∀ target, Steps p.tables e below (T'.setTop { g with pc := g.pc + 1, stack := rest }) target → Steps p.tables e below (T.setTop g) target := by
  obtain ⟨c, A, S, H, G⟩ := F
  exact stB X hx hZ eT A (fun q => q.elim hj0 (fun q => absurd hj1 (by rw [← S]; exact Nat.not_lt.mpr q))) hg hs hd
theorem own_cas (X : Stand p l e R s m args below meth c T locs cells slots) (hx : p.tables.exec = Jvm.exec) (hZ : Z.Warmed39 s.vm) (eT : T.heap = h) (F : own_Ia Z h a .char n f) {j x : Int32} (hj0 : ¬ j < 0) (hj1 : j.toNatClampNeg < n) {g : JFrame} (hg : g.method = m) {rest : List Value} (hs : g.stack = .int x :: .int j :: .ref a :: rest) (hd : decode c.code g.pc = .ok (.castore, 1)) :
    ∃ T' h', Stand p l e R s m args below meth c T' (locs ++ [⟨a, j.toNatClampNeg⟩]) cells slots ∧ T'.heap = h' ∧ Wr h h' a j.toNatClampNeg (.int (nar .char x)) ∧ ∀ target, Steps p.tables e below (T'.setTop { g with pc := g.pc + 1, stack := rest }) target → Steps p.tables e below (T.setTop g) target := by
  obtain ⟨c, A, S, H, G⟩ := F
  exact stC X hx hZ eT A (fun q => q.elim hj0 (fun q => absurd hj1 (by rw [← S]; exact Nat.not_lt.mpr q))) hg hs hd
theorem own_ias (X : Stand p l e R s m args below meth c T locs cells slots) (hx : p.tables.exec = Jvm.exec) (hZ : Z.Warmed39 s.vm) (eT : T.heap = h) (F : own_Ia Z h a .int n f) {j x : Int32} (hj0 : ¬ j < 0) (hj1 : j.toNatClampNeg < n) {g : JFrame} (hg : g.method = m) {rest : List Value} (hs : g.stack = .int x :: .int j :: .ref a :: rest) (hd : decode c.code g.pc = .ok (.iastore, 1)) :
    ∃ T' h', Stand p l e R s m args below meth c T' (locs ++ [⟨a, j.toNatClampNeg⟩]) cells slots ∧ T'.heap = h' ∧ Wr h h' a j.toNatClampNeg (.int x) ∧ ∀ target, Steps p.tables e below (T'.setTop { g with pc := g.pc + 1, stack := rest }) target → Steps p.tables e below (T.setTop g) target := by
  obtain ⟨c, A, S, H, G⟩ := F
  exact stI X hx hZ eT A (fun q => q.elim hj0 (fun q => absurd hj1 (by rw [← S]; exact Nat.not_lt.mpr q))) hg hs hd
end OwnArr
theorem own_fI {s : State} {args : Array Value} {t : Term} {O n d : String} {a : Addr} {k : Int32} (ht : t.eval args s none [] s = some (.ref a)) (h : (Jvm.Cond.eq (.field t O n d) (.int k)).value args s none s [] = some true) : Fld s s.heap a O n d (.int k) := by
  obtain ⟨x, y, e1, e2, k1, k2⟩ := cmp_v (Or.inl h)
  cases e2
  obtain ⟨z, rfl⟩ := k2
  have e3 : (Term.int k).eval args s none [] s = some (.int k) := rfl
  have q : z = k := by simpa [Cond.value, e1, e3] using h
  subst q
  exact Fld.start (by rw [← fld_at ht]; exact e1)
theorem own_fN {s : State} {args : Array Value} {t : Term} {O n d : String} {a : Addr} (ht : t.eval args s none [] s = some (.ref a)) (h : (Jvm.Cond.eq (.field t O n d) .null).value args s none s [] = some true) : Fld s s.heap a O n d .null :=
  Fld.start (by rw [← fld_at ht]; exact null_v h)
theorem own_fR {s : State} {args : Array Value} {t u : Term} {O n d : String} {a b : Addr} (ht : t.eval args s none [] s = some (.ref a)) (hu : u.eval args s none [] s = some (.ref b)) (h : (Jvm.Cond.eq (.field t O n d) u).value args s none s [] = some true) : Fld s s.heap a O n d (.ref b) := by
  obtain ⟨x, y, e1, e2, k1, k2⟩ := cmp_v (Or.inl h)
  cases hu.symm.trans e2
  have q : x = .ref b := by
    rcases ref_cases k2.2 with rfl | ⟨z, rfl⟩
    · simp [Cond.value, e1, e2] at h
    · simp [Cond.value, e1, e2] at h; rw [h]
  subst q
  exact Fld.start (by rw [← fld_at ht]; exact e1)
theorem own_fL {s : State} {args : Array Value} {t : Term} {O n d : String} {a : Addr} {k : Int64} (ht : t.eval args s none [] s = some (.ref a)) (h : (Jvm.Cond.eq (.field t O n d) (.long k)).value args s none s [] = some true) : Fld s s.heap a O n d (.long k) := by
  obtain ⟨x, y, e1, e2, k1, k2⟩ := cmp_v (Or.inl h)
  cases e2
  obtain ⟨z, rfl⟩ := k2
  have q : z = k := gotT (eq_L e1 (long_at k)) h
  subst q
  exact Fld.start (by rw [← fld_at ht]; exact e1)
theorem own_pos (q : Int64) (h : ¬ (q &&& (9223372036854775807 : Int64)) = (0 : Int64)) : (0 : Int64) < (q &&& (9223372036854775807 : Int64)) := by
  have e := c_maskL q 9223372036854775807 63 (by decide) (by decide)
  rw [← Int64.toInt_inj] at h
  rw [Int64.lt_iff_toInt_lt]
  have z : (0 : Int64).toInt = 0 := rfl
  rw [e] at h ⊢
  rw [z] at h ⊢
  have := Int.emod_nonneg q.toInt (show ((2 ^ 63 : Nat) : Int) ≠ 0 by decide)
  omega
theorem own_zL : (0 : Int64).toInt = 0 := rfl
theorem own_zI : (0 : Int32).toInt = 0 := rfl
theorem own_G9 : (1000000000 : Int64).toInt = 1000000000 := rfl
theorem own_dv (x y : Int64) (d : Int) (hy : y.toInt = d) (hd : y ≠ -1) (h : 0 ≤ x.toInt) : (x / y).toInt = x.toInt / d := (c_ldiv x y d hy hd).1 h
theorem own_md (x y : Int64) (d : Int) (hy : y.toInt = d) (h : 0 ≤ x.toInt) : (x % y).toInt = x.toInt % d := by rw [← lrem_mod]; exact (c_lrem x y d hy).1 h
theorem own_or0 (sc : Int64) (na : Int32) (h : (sc ||| na.toInt64) = (0 : Int64)) : sc = 0 ∧ na = 0 := by
  have h' : sc.toBitVec ||| na.toInt64.toBitVec = 0#64 := by rw [← Int64.toBitVec_or, h]; rfl
  have hb : sc.toBitVec = 0#64 ∧ na.toInt64.toBitVec = 0#64 := by
    constructor
    · apply BitVec.eq_of_getLsbD_eq
      intro i hi
      have := congrArg (fun b => b.getLsbD i) h'
      simp only [BitVec.getLsbD_or] at this
      simp only [BitVec.getLsbD_zero, Bool.or_eq_false_iff] at this ⊢
      exact this.1
    · apply BitVec.eq_of_getLsbD_eq
      intro i hi
      have := congrArg (fun b => b.getLsbD i) h'
      simp only [BitVec.getLsbD_or] at this
      simp only [BitVec.getLsbD_zero, Bool.or_eq_false_iff] at this ⊢
      exact this.2
  have h1 : sc = 0 := Int64.toBitVec_inj.mp (by rw [hb.1]; rfl)
  have h2 : na.toInt64 = 0 := Int64.toBitVec_inj.mp (by rw [hb.2]; rfl)
  refine ⟨h1, ?_⟩
  rw [← Int32.toInt_inj, ← c_i2l, h2]; rfl
theorem own_xs (xa : Int64) (h : 0 ≤ xa.toInt) : ¬ (xa ^^^ (1000000000 : Int64)) < (0 : Int64) := by
  rw [Int64.lt_iff_toInt_lt, own_zL]
  have := (c_xorSL xa 1000000000).2.2.2 h (by decide)
  omega
theorem own_add0 (xa xb : Int64) (h1 : 0 ≤ xa.toInt) (h2 : 0 ≤ xb.toInt) (h3 : xa.toInt + xb.toInt < 9223372036854775808) : ¬ ((xa ^^^ (xa + xb)) &&& (xb ^^^ (xa + xb))) < (0 : Int64) := by
  rw [Int64.lt_iff_toInt_lt, own_zL]
  have e : 0 ≤ (xa + xb).toInt := by have a := c_ladd xa xb; have := rng64 (xa + xb); omega
  have := (c_xorSL xa (xa + xb)).2.2.2 h1 e
  have := (c_andSL (xa ^^^ (xa + xb)) (xb ^^^ (xa + xb))).2.1 this
  omega
theorem own_om0 (q : Int64) (h : 0 ≤ q.toInt) : ¬ (q % (1000 : Int64)).toInt32 < (0 : Int32) := by
  have e := own_md q 1000 1000 rfl h
  have a := c_l2i (q % (1000 : Int64)); have := rng32 (q % (1000 : Int64)).toInt32
  rw [Int32.lt_iff_toInt_lt, own_zI]; omega
theorem own_om (q s2 : Int64) (n2 : Int32) (h : 0 ≤ q.toInt) (e : s2 = (q / (1000 : Int64)) ∧ n2 = ((q % (1000 : Int64)).toInt32 * (1000000 : Int32))) : s2.toInt = q.toInt / 1000 ∧ n2.toInt = (q.toInt % 1000) * 1000000 := by
  obtain ⟨rfl, rfl⟩ := e
  refine ⟨own_dv q 1000 1000 rfl (by decide) h, ?_⟩
  have e := own_md q 1000 1000 rfl h
  have a := c_l2i (q % (1000 : Int64)); have := rng32 (q % (1000 : Int64)).toInt32
  have b := c_imul (q % (1000 : Int64)).toInt32 1000000; have := rng32 ((q % (1000 : Int64)).toInt32 * (1000000 : Int32))
  rw [show (1000000 : Int32).toInt = 1000000 from rfl] at b
  omega
theorem own_ad0 (sc na : Int64) (hs : 0 ≤ sc.toInt) (h1 : 0 ≤ na.toInt) (h2 : na.toInt < 1000000000) : ¬ ((sc ^^^ (sc + (na / (1000000000 : Int64)))) &&& ((na / (1000000000 : Int64)) ^^^ (sc + (na / (1000000000 : Int64))))) < (0 : Int64) := by
  have e := own_dv na 1000000000 1000000000 rfl (by decide) h1
  have := rng64 sc
  exact own_add0 _ _ hs (by omega) (by omega)
theorem own_os (sc na s2 : Int64) (n2 : Int32) (hs : 0 ≤ sc.toInt) (h1 : 0 ≤ na.toInt) (h2 : na.toInt < 1000000000) (e : s2 = (sc + (na / (1000000000 : Int64))) ∧ n2 = (na % (1000000000 : Int64)).toInt32) : s2.toInt = sc.toInt ∧ n2.toInt = na.toInt := by
  obtain ⟨rfl, rfl⟩ := e
  have e1 := own_dv na 1000000000 1000000000 rfl (by decide) h1
  have e2 := own_md na 1000000000 1000000000 rfl h1
  have a := c_ladd sc (na / (1000000000 : Int64)); have := rng64 (sc + (na / (1000000000 : Int64))); have := rng64 sc
  have b := c_l2i (na % (1000000000 : Int64)); have := rng32 (na % (1000000000 : Int64)).toInt32
  constructor <;> omega
theorem own_ad1 (sc : Int64) (hs : 0 ≤ sc.toInt) : ¬ ((sc ^^^ (sc + (0 : Int64))) &&& ((0 : Int64) ^^^ (sc + (0 : Int64)))) < (0 : Int64) := by
  have := rng64 sc; exact own_add0 _ _ hs (by decide) (by rw [own_zL]; omega)
theorem own_p0 (sc : Int64) : (sc + (0 : Int64)) = sc := Int64.add_zero sc
theorem own_ad2 (sc nn : Int64) (hs : 0 ≤ sc.toInt) (h1 : 0 ≤ nn.toInt) (h2 : nn.toInt < 1000000000) : ¬ (((sc + (0 : Int64)) ^^^ ((sc + (0 : Int64)) + (nn / (1000000000 : Int64)))) &&& ((nn / (1000000000 : Int64)) ^^^ ((sc + (0 : Int64)) + (nn / (1000000000 : Int64))))) < (0 : Int64) := by
  rw [own_p0]; exact own_ad0 sc nn hs h1 h2
theorem own_pl_s (sc nn : Int64) (hs : 0 ≤ sc.toInt) (h1 : 0 ≤ nn.toInt) (h2 : nn.toInt < 1000000000) : 0 ≤ ((sc + (0 : Int64)) + (nn / (1000000000 : Int64))).toInt := by
  rw [own_p0]
  have e1 := own_dv nn 1000000000 1000000000 rfl (by decide) h1
  have a := c_ladd sc (nn / (1000000000 : Int64)); have := rng64 (sc + (nn / (1000000000 : Int64))); have := rng64 sc
  omega
theorem own_pl_v (nv : Int32) (nn : Int64) (h1 : 0 ≤ nv.toInt) (h2 : 0 ≤ nn.toInt) (h3 : nn.toInt < 1000000000) : (nv.toInt64 + (nn % (1000000000 : Int64))).toInt = nv.toInt + nn.toInt := by
  have e2 := own_md nn 1000000000 1000000000 rfl h2
  have a := c_ladd nv.toInt64 (nn % (1000000000 : Int64)); have := rng64 (nv.toInt64 + (nn % (1000000000 : Int64))); have := rng32 nv
  rw [c_i2l] at a; omega
theorem own_pl_1 (nv : Int32) (nn : Int64) (h1 : 0 ≤ nv.toInt) (h2 : 0 ≤ nn.toInt) : 0 ≤ (nv.toInt64 + (nn % (1000000000 : Int64))).toInt := by
  have e2 := own_md nn 1000000000 1000000000 rfl h2
  have a := c_ladd nv.toInt64 (nn % (1000000000 : Int64)); have := rng64 (nv.toInt64 + (nn % (1000000000 : Int64))); have := rng32 nv
  rw [c_i2l] at a; omega
theorem own_pl_2 (nv : Int32) (nn : Int64) (h1 : 0 ≤ nv.toInt) (h2 : 0 ≤ nn.toInt) (h3 : nv.toInt + nn.toInt < 1000000000) : (nv.toInt64 + (nn % (1000000000 : Int64))).toInt < 1000000000 := by
  rw [own_pl_v nv nn h1 h2 (by omega)]; exact h3
theorem own_nn0 (nn : Int64) (nv : Int32) (h : ((0 : Int64) ||| nn) = (0 : Int64)) : nv.toInt = nv.toInt + nn.toInt := by
  rw [Int64.zero_or] at h; rw [h, own_zL]; omega
theorem own_plq (sc nn : Int64) (nv : Int32) (s2 : Int64) (n2 : Int32) (hs : 0 ≤ sc.toInt) (h1 : 0 ≤ nv.toInt) (h2 : 0 ≤ nn.toInt) (h3 : nn.toInt < 1000000000) (h4 : nv.toInt + nn.toInt < 1000000000)
    (e : s2.toInt = ((sc + (0 : Int64)) + (nn / (1000000000 : Int64))).toInt ∧ n2.toInt = (nv.toInt64 + (nn % (1000000000 : Int64))).toInt) : s2.toInt = sc.toInt ∧ n2.toInt = nv.toInt + nn.toInt := by
  rw [own_pl_v nv nn h1 h2 h3, own_p0] at e
  have e1 := own_dv nn 1000000000 1000000000 rfl (by decide) h2
  have a := c_ladd sc (nn / (1000000000 : Int64)); have := rng64 (sc + (nn / (1000000000 : Int64))); have := rng64 sc
  refine ⟨?_, e.2⟩
  rw [e.1]; omega
theorem own_q3 (q : Int64) (h : (0 : Int64) < q) : 0 ≤ (q / (3 : Int64)).toInt := by
  rw [Int64.lt_iff_toInt_lt, own_zL] at h; rw [own_dv q 3 3 rfl (by decide) (by omega)]; omega
theorem own_n3 (q : Int64) (h : (0 : Int64) < q) : (((q % (3 : Int64)) * (1000000 : Int64)) / (3 : Int64)).toInt = ((q.toInt % 3) * 1000000) / 3 := by
  rw [Int64.lt_iff_toInt_lt, own_zL] at h
  have e := own_md q 3 3 rfl (by omega)
  have b := c_lmul (q % (3 : Int64)) 1000000; have := rng64 ((q % (3 : Int64)) * (1000000 : Int64))
  rw [show (1000000 : Int64).toInt = 1000000 from rfl] at b
  have f : ((q % (3 : Int64)) * (1000000 : Int64)).toInt = (q.toInt % 3) * 1000000 := by omega
  rw [own_dv _ 3 3 rfl (by decide) (by omega), f]
theorem own_ra (q s1 : Int64) (n1 : Int32) (h : (0 : Int64) < q) (e : s1.toInt = (q / (3 : Int64)).toInt / 1000 ∧ n1.toInt = ((q / (3 : Int64)).toInt % 1000) * 1000000) : 0 < q.toInt ∧ s1.toInt = (q.toInt / 3) / 1000 ∧ n1.toInt = ((q.toInt / 3) % 1000) * 1000000 := by
  have h' := h
  rw [Int64.lt_iff_toInt_lt, own_zL] at h'
  rw [own_dv q 3 3 rfl (by decide) (by omega)] at e
  exact ⟨h', e⟩
theorem own_r1 (q s1 : Int64) (n1 : Int32) (h : (0 : Int64) < q) (e : s1.toInt = (q / (3 : Int64)).toInt / 1000 ∧ n1.toInt = ((q / (3 : Int64)).toInt % 1000) * 1000000) : 0 ≤ s1.toInt := by
  obtain ⟨a, b, c⟩ := own_ra q s1 n1 h e; omega
theorem own_r2 (q s1 : Int64) (n1 : Int32) (h : (0 : Int64) < q) (e : s1.toInt = (q / (3 : Int64)).toInt / 1000 ∧ n1.toInt = ((q / (3 : Int64)).toInt % 1000) * 1000000) : 0 ≤ n1.toInt := by
  obtain ⟨a, b, c⟩ := own_ra q s1 n1 h e; omega
theorem own_r3 (q s1 : Int64) (n1 : Int32) (h : (0 : Int64) < q) (e : s1.toInt = (q / (3 : Int64)).toInt / 1000 ∧ n1.toInt = ((q / (3 : Int64)).toInt % 1000) * 1000000) : 0 ≤ (((q % (3 : Int64)) * (1000000 : Int64)) / (3 : Int64)).toInt := by
  rw [own_n3 q h]; omega
theorem own_r4 (q s1 : Int64) (n1 : Int32) (h : (0 : Int64) < q) (e : s1.toInt = (q / (3 : Int64)).toInt / 1000 ∧ n1.toInt = ((q / (3 : Int64)).toInt % 1000) * 1000000) : (((q % (3 : Int64)) * (1000000 : Int64)) / (3 : Int64)).toInt < 1000000000 := by
  rw [own_n3 q h]; omega
theorem own_r5 (q s1 : Int64) (n1 : Int32) (h : (0 : Int64) < q) (e : s1.toInt = (q / (3 : Int64)).toInt / 1000 ∧ n1.toInt = ((q / (3 : Int64)).toInt % 1000) * 1000000) : n1.toInt + (((q % (3 : Int64)) * (1000000 : Int64)) / (3 : Int64)).toInt < 1000000000 := by
  obtain ⟨a, b, c⟩ := own_ra q s1 n1 h e; rw [own_n3 q h]; omega
theorem own_rp (q s1 : Int64) (n1 : Int32) (s2 : Int64) (n2 : Int32) (h : (0 : Int64) < q) (e : s1.toInt = (q / (3 : Int64)).toInt / 1000 ∧ n1.toInt = ((q / (3 : Int64)).toInt % 1000) * 1000000)
    (e' : s2.toInt = s1.toInt ∧ n2.toInt = n1.toInt + (((q % (3 : Int64)) * (1000000 : Int64)) / (3 : Int64)).toInt) : s2.toInt = q.toInt / 3000 ∧ n2.toInt = (q.toInt % 3000) * 1000000 / 3 := by
  obtain ⟨a, b, c⟩ := own_ra q s1 n1 h e
  rw [own_n3 q h] at e'
  have k1 : q.toInt % 3000 = 3 * ((q.toInt / 3) % 1000) + q.toInt % 3 := by omega
  refine ⟨by omega, ?_⟩
  rw [k1, e'.2, c]
  have k2 : q.toInt % 3 = 0 ∨ q.toInt % 3 = 1 ∨ q.toInt % 3 = 2 := by omega
  generalize (q.toInt / 3) % 1000 = A at *
  rcases k2 with k2 | k2 | k2 <;> rw [k2] <;> omega
theorem own_e1 (q s2 : Int64) (n2 : Int32) (h : (0 : Int64) < q) (e : s2.toInt = q.toInt / 3000 ∧ n2.toInt = (q.toInt % 3000) * 1000000 / 3) : s2 = (q / (3000 : Int64)) := by
  rw [Int64.lt_iff_toInt_lt, own_zL] at h
  rw [← Int64.toInt_inj, own_dv q 3000 3000 rfl (by decide) (by omega), e.1]
theorem own_e2 (q s2 : Int64) (n2 : Int32) (h : (0 : Int64) < q) (e : s2.toInt = q.toInt / 3000 ∧ n2.toInt = (q.toInt % 3000) * 1000000 / 3) : n2.toInt64 = (((q % (3000 : Int64)) * (1000000 : Int64)) / (3 : Int64)) := by
  rw [Int64.lt_iff_toInt_lt, own_zL] at h
  have e1 := own_md q 3000 3000 rfl (by omega)
  have b := c_lmul (q % (3000 : Int64)) 1000000; have := rng64 ((q % (3000 : Int64)) * (1000000 : Int64))
  rw [show (1000000 : Int64).toInt = 1000000 from rfl] at b
  have f : ((q % (3000 : Int64)) * (1000000 : Int64)).toInt = (q.toInt % 3000) * 1000000 := by omega
  rw [← Int64.toInt_inj, c_i2l, own_dv _ 3 3 rfl (by decide) (by omega), f, e.2]
theorem own_d_rec_0 : decode jdk_30_method_1_code 0 = .ok (.aload_n 0, 1) := by decide +kernel
theorem own_d_rec_1 : decode jdk_30_method_1_code 1 = .ok (.invokespecial 1, 3) := by decide +kernel
theorem own_d_rec_4 : decode jdk_30_method_1_code 4 = .ok (.return_, 1) := by decide +kernel
theorem own_pn_java_lang_Record : plainName "java/lang/Record" = true := by first | (simp [plainName, overriddenIn]; done) | decide +kernel
theorem own_ef_rec (m : MethodId) (a : Addr) : entryFrame m #[(.ref a)] 1 = mkF m 0 #[.val (.ref a)] [] := by first | (simp [entryFrame, mkF, argsToLocals, Value.category]; done) | rfl
def own_Q_rec (Z : State) (a : Addr) (h0 : Heap) (n0 : Nat) (v : Option Value) (h : Heap) (L : List Loc) : Prop := v = none ∧ Fr n0 L ∧ h = h0
set_option maxRecDepth 65536 in
set_option maxHeartbeats 40000000 in
theorem own_rm_rec (l : Launch) (Z : State) (a0 : Array Value) (hw : ∀ d ∈ tables_1, d.before a0 Z = true) (ws : List Jvm.Cond) (a : Addr) (h0 : Heap) (n0 : Nat) (Z0 : n0 ≤ h0.size) :
    MetFree l (⟨"java/lang/Record", "<init>", "()V"⟩ : MethodName) (head1 (Jvm.Cond.code (⟨"java/lang/Record", "<init>", "()V"⟩ : MethodName) jdk_30_method_1_code 1 none :: ws) ({ frames := 1, cells := 0, slots := 0, locals := 12 } : Room)) (fun a_ U_ => a_ = #[(.ref a)] ∧ Z.Warmed39 U_.vm ∧ U_.heap = h0) (fun _ _ _ _ _ => True) (fun _ U_ o_ U'_ => ∃ v_ L_, o_ = .returned v_ ∧ own_Q_rec Z a h0 n0 v_ U'_.heap L_ ∧ FrameEnd U_ o_ U'_ L_ ({ frames := 1, cells := 0, slots := 0, locals := 12 } : Room).cells ({ frames := 1, cells := 0, slots := 0, locals := 12 } : Room).slots) := by
  refine MetFree.of_bodySF (plainFor_of_name own_pn_java_lang_Record) hisR ?_
  intro p e s m args below meth c s₁ Bd hml0 hP hK
  obtain ⟨rfl, hZ, hh⟩ := hP
  have hx := Bd.exec
  have hby := Bd.bytes
  have hlk : meth.locks = false := BodyLoose.notSynchronized Bd
  have hml : c.maxLocals = 1 := hml0
  have hown : s.vm.findClass "java/lang/Record" = some m.cls := findClass_of_methodNamed Bd.named
  have hnm := (name_of_methodNamed Bd.named Bd.method).1
  have X0 : Stand p l e ({ frames := 1, cells := 0, slots := 0, locals := 12 } : Room) s m #[(.ref a)] below meth c s₁ [] 0 0 := Stand.of_body Bd
  have e0 : s₁.heap = h0 := by rw [← hh, Bd.state]; rfl
  have N0 := Fr.nil n0
  show own_Goes p e below (own_K (own_Q_rec Z a h0 n0) s ({ frames := 1, cells := 0, slots := 0, locals := 12 } : Room).cells ({ frames := 1, cells := 0, slots := 0, locals := 12 } : Room).slots) s₁ (entryFrame m #[(.ref a)] 1)
  rw [own_ef_rec]
  refine own_by (T' := s₁) (g' := (mkF m 1 #[.val (.ref a)] [(.ref a)])) (fun t_ k_ => XS.aloadN X0.here hx rfl (hb hby own_d_rec_0) rfl rfl k_) ?_
  obtain ⟨T1, X1, e1, st1⟩ := initO X0 hx hZ hown (hw _ (List.mem_of_getElem? (i := 12) rfl)) (hw _ (List.mem_of_getElem? (i := 13) rfl)) (hw _ (List.mem_of_getElem? (i := 14) rfl)) e0 (g := (mkF m 1 #[.val (.ref a)] [(.ref a)])) rfl (by rw [hml]; rfl) rfl (hb hby own_d_rec_1) (by decide) (W := 0) (by show 2 * 0 + _ ≤ _; exact Nat.le_of_eq rfl) (by decide)
  refine own_by (T' := T1) (g' := (mkF m 4 #[.val (.ref a)] [])) st1 ?_
  refine own_ret0 X1 hx Bd.returns hlk (hb hby own_d_rec_4) (by decide) (by decide) ?_
  rw [e1]
  exact ⟨rfl, N0, rfl⟩
theorem own_pd0 : parseMethodDescriptor "()V" = some ⟨[], none⟩ := by decide +kernel
theorem own_d_leI_0 : decode prog_3_method_1_code 0 = .ok (.aload_n 0, 1) := by decide +kernel
theorem own_d_leI_1 : decode prog_3_method_1_code 1 = .ok (.invokespecial 1, 3) := by decide +kernel
theorem own_d_leI_4 : decode prog_3_method_1_code 4 = .ok (.lload_n 1, 1) := by decide +kernel
theorem own_d_leI_5 : decode prog_3_method_1_code 5 = .ok (.lconst 0, 1) := by decide +kernel
theorem own_d_leI_6 : decode prog_3_method_1_code 6 = .ok (.lcmp, 1) := by decide +kernel
theorem own_d_leI_7 : decode prog_3_method_1_code 7 = .ok (.ifCond .gt 17, 3) := by decide +kernel
theorem own_d_leI_24 : decode prog_3_method_1_code 24 = .ok (.aload_n 0, 1) := by decide +kernel
theorem own_d_leI_25 : decode prog_3_method_1_code 25 = .ok (.lload_n 1, 1) := by decide +kernel
theorem own_d_leI_26 : decode prog_3_method_1_code 26 = .ok (.putfield 16, 3) := by decide +kernel
theorem own_d_leI_29 : decode prog_3_method_1_code 29 = .ok (.aload_n 0, 1) := by decide +kernel
theorem own_d_leI_30 : decode prog_3_method_1_code 30 = .ok (.iload_n 3, 1) := by decide +kernel
theorem own_d_leI_31 : decode prog_3_method_1_code 31 = .ok (.putfield 22, 3) := by decide +kernel
theorem own_d_leI_34 : decode prog_3_method_1_code 34 = .ok (.return_, 1) := by decide +kernel
theorem own_pn_com_example_solease_solease_Lease : plainName "com/example/solease/solease/Lease" = true := by first | (simp [plainName, overriddenIn]; done) | decide +kernel
theorem own_ef_leI (m : MethodId) (a : Addr) (q : Int64) : entryFrame m #[(.ref a), (.long q), (.int (1 : Int32))] 4 = mkF m 0 #[.val (.ref a), .val (.long q), .second, .val (.int (1 : Int32))] [] := by first | (simp [entryFrame, mkF, argsToLocals, Value.category]; done) | rfl
def own_Q_leI (Z : State) (a : Addr) (q : Int64) (h0 : Heap) (n0 : Nat) (v : Option Value) (h : Heap) (L : List Loc) : Prop := v = none ∧ Fr n0 L ∧ Keep h0 h [a] ∧ Exa Z h a "com/example/solease/solease/Lease" ∧ Fld Z h a "com/example/solease/solease/Lease" "millis" "J" (.long q) ∧ Fld Z h a "com/example/solease/solease/Lease" "renewed" "Z" (.int (1 : Int32))
set_option maxRecDepth 65536 in
set_option maxHeartbeats 40000000 in
theorem own_rm_leI (l : Launch) (Z : State) (a0 : Array Value) (hw : ∀ d ∈ tables_1, d.before a0 Z = true) (ws : List Jvm.Cond) (a : Addr) (q : Int64) (h0 : Heap) (n0 : Nat) (Z0 : n0 ≤ h0.size) (hq : (0 : Int64) < q) (E0 : Exa Z h0 a "com/example/solease/solease/Lease") (G0 : n0 ≤ a) (F0_millis : Fld Z h0 a "com/example/solease/solease/Lease" "millis" "J" (.long (0 : Int64))) (F0_renewed : Fld Z h0 a "com/example/solease/solease/Lease" "renewed" "Z" (.int (0 : Int32))) :
    MetFree l (⟨"com/example/solease/solease/Lease", "<init>", "(JZ)V"⟩ : MethodName) (head1 (Jvm.Cond.code (⟨"com/example/solease/solease/Lease", "<init>", "(JZ)V"⟩ : MethodName) prog_3_method_1_code 4 none :: ws) ({ frames := 2, cells := 0, slots := 0, locals := 24 } : Room)) (fun a_ U_ => a_ = #[(.ref a), (.long q), (.int (1 : Int32))] ∧ Z.Warmed39 U_.vm ∧ U_.heap = h0) (fun _ _ _ _ _ => True) (fun _ U_ o_ U'_ => ∃ v_ L_, o_ = .returned v_ ∧ own_Q_leI Z a q h0 n0 v_ U'_.heap L_ ∧ FrameEnd U_ o_ U'_ L_ ({ frames := 2, cells := 0, slots := 0, locals := 24 } : Room).cells ({ frames := 2, cells := 0, slots := 0, locals := 24 } : Room).slots) := by
  refine MetFree.of_bodySF (plainFor_of_name own_pn_com_example_solease_solease_Lease) hisR ?_
  intro p e s m args below meth c s₁ Bd hml0 hP hK
  obtain ⟨rfl, hZ, hh⟩ := hP
  have hx := Bd.exec
  have hby := Bd.bytes
  have hlk : meth.locks = false := BodyLoose.notSynchronized Bd
  have hml : c.maxLocals = 4 := hml0
  have hown : s.vm.findClass "com/example/solease/solease/Lease" = some m.cls := findClass_of_methodNamed Bd.named
  have hnm := (name_of_methodNamed Bd.named Bd.method).1
  have X0 : Stand p l e ({ frames := 2, cells := 0, slots := 0, locals := 24 } : Room) s m #[(.ref a), (.long q), (.int (1 : Int32))] below meth c s₁ [] 0 0 := Stand.of_body Bd
  have e0 : s₁.heap = h0 := by rw [← hh, Bd.state]; rfl
  have N0 := Fr.nil n0
  show own_Goes p e below (own_K (own_Q_leI Z a q h0 n0) s ({ frames := 2, cells := 0, slots := 0, locals := 24 } : Room).cells ({ frames := 2, cells := 0, slots := 0, locals := 24 } : Room).slots) s₁ (entryFrame m #[(.ref a), (.long q), (.int (1 : Int32))] 4)
  rw [own_ef_leI]
  have K0 := Keep.refl h0 [a]
  refine own_by (T' := s₁) (g' := (mkF m 1 #[.val (.ref a), .val (.long q), .second, .val (.int (1 : Int32))] [(.ref a)])) (fun t_ k_ => XS.aloadN X0.here hx rfl (hb hby own_d_leI_0) rfl rfl k_) ?_
  obtain ⟨_, T1, L1, X1, hQ1, st1⟩ := own_callI X0 hx hZ (y := (⟨"java/lang/Record", "<init>", "()V"⟩ : MethodName)) rfl hown (hw _ (List.mem_of_getElem? (i := 7) rfl)) (hw _ (List.mem_of_getElem? (i := 8) rfl)) (hw _ (List.mem_of_getElem? (i := 10) rfl)) (hw _ (List.mem_of_getElem? (i := 11) rfl)) (by decide) (argsL := []) (rest := []) (own_rm_rec l Z a0 hw [] a  h0 n0 Z0 ) e0 (W := 0) (by decide) (by decide) (by decide) (by decide) (g := (mkF m 1 #[.val (.ref a), .val (.long q), .second, .val (.int (1 : Int32))] [(.ref a)])) rfl (by rw [hml]; rfl) (lenOf own_pd0 rfl) rfl (by show 2 * 0 + _ ≤ _; exact Nat.le_of_eq rfl) (hb hby own_d_leI_1)
  obtain ⟨rfl, Nq1, e1⟩ := hQ1
  have N1 := Fr.app N0 Nq1
  refine st1 _ ?_
  show own_Goes p e below _ T1 (mkF m 4 #[.val (.ref a), .val (.long q), .second, .val (.int (1 : Int32))] [])
  refine own_by (T' := T1) (g' := (mkF m 5 #[.val (.ref a), .val (.long q), .second, .val (.int (1 : Int32))] [(.long q)])) (fun t_ k_ => XS.lloadN X1.here hx rfl (hb hby own_d_leI_4) rfl k_) ?_
  refine own_by (T' := T1) (g' := (mkF m 6 #[.val (.ref a), .val (.long q), .second, .val (.int (1 : Int32))] [(.long (0 : Int64)), (.long q)])) (fun t_ k_ => XS.lconst X1.here hx rfl (hb hby own_d_leI_5) k_) ?_
  refine own_by (T' := T1) (g' := (mkF m 7 #[.val (.ref a), .val (.long q), .second, .val (.int (1 : Int32))] [(.int (lcmpW q (0 : Int64)))])) (fun t_ k_ => XS.lcmp X1.here hx rfl (hb hby own_d_leI_6) rfl k_) ?_
  refine own_by (T' := T1) (g' := (mkF m 24 #[.val (.ref a), .val (.long q), .second, .val (.int (1 : Int32))] [])) (fun t_ k_ => XS.ifYes X1.here hx rfl (pc0 := 7) (pc' := 24) rfl (hb hby own_d_leI_7) rfl ((if0 _ _).trans (tlt (((lw_gt _ _).mpr hq) : (0 : Int32) < (lcmpW q (0 : Int64)))).2.2.1) (by decide) (by decide) k_) ?_
  refine own_by (T' := T1) (g' := (mkF m 25 #[.val (.ref a), .val (.long q), .second, .val (.int (1 : Int32))] [(.ref a)])) (fun t_ k_ => XS.aloadN X1.here hx rfl (hb hby own_d_leI_24) rfl rfl k_) ?_
  refine own_by (T' := T1) (g' := (mkF m 26 #[.val (.ref a), .val (.long q), .second, .val (.int (1 : Int32))] [(.long q), (.ref a)])) (fun t_ k_ => XS.lloadN X1.here hx rfl (hb hby own_d_leI_25) rfl k_) ?_
  obtain ⟨T2, h2, X2, e2, W2, st2⟩ := putF X1 hx hZ hown (host := "") (Or.inl (hw _ (List.mem_of_getElem? (i := 15) rfl))) Via.refl e1 F0_millis E0 (Or.inr ⟨(hw _ (List.mem_of_getElem? (i := 16) rfl)), rfl, hnm⟩) (hw _ (List.mem_of_getElem? (i := 2) rfl)) (ty := .long) (by decide) rfl rfl (g := (mkF m 26 #[.val (.ref a), .val (.long q), .second, .val (.int (1 : Int32))] [(.long q), (.ref a)])) rfl rfl (hb hby own_d_leI_26)
  refine own_by (T' := T2) (g' := (mkF m 29 #[.val (.ref a), .val (.long q), .second, .val (.int (1 : Int32))] [])) st2 ?_
  have N2 := Fr.snoc X2 N1 G0
  have f3 := Nat.le_trans Z0 (Keep.of_wr W2).1
  have f4 := Exa.wr W2 E0
  have f5 := Fld.same W2 F0_millis
  have f6 := Fld.other W2 F0_renewed (Or.inr (slot_ne (Or.inr (hw _ (List.mem_of_getElem? (i := 18) rfl))) (Or.inr (hw _ (List.mem_of_getElem? (i := 16) rfl))) (by decide) (t := .boolean) (t' := .long) (by decide) (by decide)))
  have f7 := Keep.wr K0 W2 (Or.inl (List.mem_of_getElem? (i := 0) rfl))
  refine own_by (T' := T2) (g' := (mkF m 30 #[.val (.ref a), .val (.long q), .second, .val (.int (1 : Int32))] [(.ref a)])) (fun t_ k_ => XS.aloadN X2.here hx rfl (hb hby own_d_leI_29) rfl rfl k_) ?_
  refine own_by (T' := T2) (g' := (mkF m 31 #[.val (.ref a), .val (.long q), .second, .val (.int (1 : Int32))] [(.int (1 : Int32)), (.ref a)])) (fun t_ k_ => XS.iloadN X2.here hx rfl (hb hby own_d_leI_30) rfl k_) ?_
  obtain ⟨T8, h8, X8, e8, W8, st8⟩ := putF X2 hx hZ hown (host := "") (Or.inl (hw _ (List.mem_of_getElem? (i := 17) rfl))) Via.refl e2 f6 f4 (Or.inr ⟨(hw _ (List.mem_of_getElem? (i := 18) rfl)), rfl, hnm⟩) (hw _ (List.mem_of_getElem? (i := 2) rfl)) (ty := .boolean) (by decide) rfl rfl (g := (mkF m 31 #[.val (.ref a), .val (.long q), .second, .val (.int (1 : Int32))] [(.int (1 : Int32)), (.ref a)])) rfl rfl (hb hby own_d_leI_31)
  refine own_by (T' := T8) (g' := (mkF m 34 #[.val (.ref a), .val (.long q), .second, .val (.int (1 : Int32))] [])) st8 ?_
  have N8 := Fr.snoc X8 N2 G0
  have f9 := Nat.le_trans f3 (Keep.of_wr W8).1
  have f10 := Exa.wr W8 f4
  have f11 := Fld.other W8 f5 (Or.inr (slot_ne (Or.inr (hw _ (List.mem_of_getElem? (i := 16) rfl))) (Or.inr (hw _ (List.mem_of_getElem? (i := 18) rfl))) (by decide) (t := .long) (t' := .boolean) (by decide) (by decide)))
  have f12 := Fld.same W8 f6
  have f13 := Keep.wr f7 W8 (Or.inl (List.mem_of_getElem? (i := 0) rfl))
  refine own_ret0 X8 hx Bd.returns hlk (hb hby own_d_leI_34) (by decide) (by decide) ?_
  rw [e8]
  exact ⟨rfl, N8, f13, f10, f11, f12⟩
theorem own_d_duI_0 : decode jdk_2316_method_17_code 0 = .ok (.aload_n 0, 1) := by decide +kernel
theorem own_d_duI_1 : decode jdk_2316_method_17_code 1 = .ok (.invokespecial 218, 3) := by decide +kernel
theorem own_d_duI_4 : decode jdk_2316_method_17_code 4 = .ok (.aload_n 0, 1) := by decide +kernel
theorem own_d_duI_5 : decode jdk_2316_method_17_code 5 = .ok (.lload_n 1, 1) := by decide +kernel
theorem own_d_duI_6 : decode jdk_2316_method_17_code 6 = .ok (.putfield 221, 3) := by decide +kernel
theorem own_d_duI_9 : decode jdk_2316_method_17_code 9 = .ok (.aload_n 0, 1) := by decide +kernel
theorem own_d_duI_10 : decode jdk_2316_method_17_code 10 = .ok (.iload_n 3, 1) := by decide +kernel
theorem own_d_duI_11 : decode jdk_2316_method_17_code 11 = .ok (.putfield 224, 3) := by decide +kernel
theorem own_d_duI_14 : decode jdk_2316_method_17_code 14 = .ok (.return_, 1) := by decide +kernel
theorem own_pn_java_time_Duration : plainName "java/time/Duration" = true := by first | (simp [plainName, overriddenIn]; done) | decide +kernel
theorem own_ef_duI (m : MethodId) (a : Addr) (sc : Int64) (na : Int32) : entryFrame m #[(.ref a), (.long sc), (.int na)] 4 = mkF m 0 #[.val (.ref a), .val (.long sc), .second, .val (.int na)] [] := by first | (simp [entryFrame, mkF, argsToLocals, Value.category]; done) | rfl
def own_Q_duI (Z : State) (a : Addr) (sc : Int64) (na : Int32) (h0 : Heap) (n0 : Nat) (v : Option Value) (h : Heap) (L : List Loc) : Prop := v = none ∧ Fr n0 L ∧ Keep h0 h [a] ∧ Exa Z h a "java/time/Duration" ∧ Fld Z h a "java/time/Duration" "seconds" "J" (.long sc) ∧ Fld Z h a "java/time/Duration" "nanos" "I" (.int na)
set_option maxRecDepth 65536 in
set_option maxHeartbeats 40000000 in
theorem own_rm_duI (l : Launch) (Z : State) (a0 : Array Value) (hw : ∀ d ∈ tables_1, d.before a0 Z = true) (ws : List Jvm.Cond) (a : Addr) (sc : Int64) (na : Int32) (h0 : Heap) (n0 : Nat) (Z0 : n0 ≤ h0.size) (E0 : Exa Z h0 a "java/time/Duration") (G0 : n0 ≤ a) (F0_seconds : Fld Z h0 a "java/time/Duration" "seconds" "J" (.long (0 : Int64))) (F0_nanos : Fld Z h0 a "java/time/Duration" "nanos" "I" (.int (0 : Int32))) :
    MetFree l (⟨"java/time/Duration", "<init>", "(JI)V"⟩ : MethodName) (head1 (Jvm.Cond.code (⟨"java/time/Duration", "<init>", "(JI)V"⟩ : MethodName) jdk_2316_method_17_code 4 none :: ws) ({ frames := 1, cells := 0, slots := 0, locals := 12 } : Room)) (fun a_ U_ => a_ = #[(.ref a), (.long sc), (.int na)] ∧ Z.Warmed39 U_.vm ∧ U_.heap = h0) (fun _ _ _ _ _ => True) (fun _ U_ o_ U'_ => ∃ v_ L_, o_ = .returned v_ ∧ own_Q_duI Z a sc na h0 n0 v_ U'_.heap L_ ∧ FrameEnd U_ o_ U'_ L_ ({ frames := 1, cells := 0, slots := 0, locals := 12 } : Room).cells ({ frames := 1, cells := 0, slots := 0, locals := 12 } : Room).slots) := by
  refine MetFree.of_bodySF (plainFor_of_name own_pn_java_time_Duration) hisR ?_
  intro p e s m args below meth c s₁ Bd hml0 hP hK
  obtain ⟨rfl, hZ, hh⟩ := hP
  have hx := Bd.exec
  have hby := Bd.bytes
  have hlk : meth.locks = false := BodyLoose.notSynchronized Bd
  have hml : c.maxLocals = 4 := hml0
  have hown : s.vm.findClass "java/time/Duration" = some m.cls := findClass_of_methodNamed Bd.named
  have hnm := (name_of_methodNamed Bd.named Bd.method).1
  have X0 : Stand p l e ({ frames := 1, cells := 0, slots := 0, locals := 12 } : Room) s m #[(.ref a), (.long sc), (.int na)] below meth c s₁ [] 0 0 := Stand.of_body Bd
  have e0 : s₁.heap = h0 := by rw [← hh, Bd.state]; rfl
  have N0 := Fr.nil n0
  show own_Goes p e below (own_K (own_Q_duI Z a sc na h0 n0) s ({ frames := 1, cells := 0, slots := 0, locals := 12 } : Room).cells ({ frames := 1, cells := 0, slots := 0, locals := 12 } : Room).slots) s₁ (entryFrame m #[(.ref a), (.long sc), (.int na)] 4)
  rw [own_ef_duI]
  have K0 := Keep.refl h0 [a]
  refine own_by (T' := s₁) (g' := (mkF m 1 #[.val (.ref a), .val (.long sc), .second, .val (.int na)] [(.ref a)])) (fun t_ k_ => XS.aloadN X0.here hx rfl (hb hby own_d_duI_0) rfl rfl k_) ?_
  obtain ⟨T1, X1, e1, st1⟩ := initO X0 hx hZ hown (hw _ (List.mem_of_getElem? (i := 40) rfl)) (hw _ (List.mem_of_getElem? (i := 13) rfl)) (hw _ (List.mem_of_getElem? (i := 14) rfl)) e0 (g := (mkF m 1 #[.val (.ref a), .val (.long sc), .second, .val (.int na)] [(.ref a)])) rfl (by rw [hml]; rfl) rfl (hb hby own_d_duI_1) (by decide) (W := 0) (by show 2 * 0 + _ ≤ _; exact Nat.le_of_eq rfl) (by decide)
  refine own_by (T' := T1) (g' := (mkF m 4 #[.val (.ref a), .val (.long sc), .second, .val (.int na)] [])) st1 ?_
  refine own_by (T' := T1) (g' := (mkF m 5 #[.val (.ref a), .val (.long sc), .second, .val (.int na)] [(.ref a)])) (fun t_ k_ => XS.aloadN X1.here hx rfl (hb hby own_d_duI_4) rfl rfl k_) ?_
  refine own_by (T' := T1) (g' := (mkF m 6 #[.val (.ref a), .val (.long sc), .second, .val (.int na)] [(.long sc), (.ref a)])) (fun t_ k_ => XS.lloadN X1.here hx rfl (hb hby own_d_duI_5) rfl k_) ?_
  obtain ⟨T2, h2, X2, e2, W2, st2⟩ := putF X1 hx hZ hown (host := "") (Or.inl (hw _ (List.mem_of_getElem? (i := 41) rfl))) Via.refl e1 F0_seconds E0 (Or.inr ⟨(hw _ (List.mem_of_getElem? (i := 42) rfl)), rfl, hnm⟩) (hw _ (List.mem_of_getElem? (i := 35) rfl)) (ty := .long) (by decide) rfl rfl (g := (mkF m 6 #[.val (.ref a), .val (.long sc), .second, .val (.int na)] [(.long sc), (.ref a)])) rfl rfl (hb hby own_d_duI_6)
  refine own_by (T' := T2) (g' := (mkF m 9 #[.val (.ref a), .val (.long sc), .second, .val (.int na)] [])) st2 ?_
  have N2 := Fr.snoc X2 N0 G0
  have f3 := Nat.le_trans Z0 (Keep.of_wr W2).1
  have f4 := Exa.wr W2 E0
  have f5 := Fld.same W2 F0_seconds
  have f6 := Fld.other W2 F0_nanos (Or.inr (slot_ne (Or.inr (hw _ (List.mem_of_getElem? (i := 44) rfl))) (Or.inr (hw _ (List.mem_of_getElem? (i := 42) rfl))) (by decide) (t := .int) (t' := .long) (by decide) (by decide)))
  have f7 := Keep.wr K0 W2 (Or.inl (List.mem_of_getElem? (i := 0) rfl))
  refine own_by (T' := T2) (g' := (mkF m 10 #[.val (.ref a), .val (.long sc), .second, .val (.int na)] [(.ref a)])) (fun t_ k_ => XS.aloadN X2.here hx rfl (hb hby own_d_duI_9) rfl rfl k_) ?_
  refine own_by (T' := T2) (g' := (mkF m 11 #[.val (.ref a), .val (.long sc), .second, .val (.int na)] [(.int na), (.ref a)])) (fun t_ k_ => XS.iloadN X2.here hx rfl (hb hby own_d_duI_10) rfl k_) ?_
  obtain ⟨T8, h8, X8, e8, W8, st8⟩ := putF X2 hx hZ hown (host := "") (Or.inl (hw _ (List.mem_of_getElem? (i := 43) rfl))) Via.refl e2 f6 f4 (Or.inr ⟨(hw _ (List.mem_of_getElem? (i := 44) rfl)), rfl, hnm⟩) (hw _ (List.mem_of_getElem? (i := 35) rfl)) (ty := .int) (by decide) rfl rfl (g := (mkF m 11 #[.val (.ref a), .val (.long sc), .second, .val (.int na)] [(.int na), (.ref a)])) rfl rfl (hb hby own_d_duI_11)
  refine own_by (T' := T8) (g' := (mkF m 14 #[.val (.ref a), .val (.long sc), .second, .val (.int na)] [])) st8 ?_
  have N8 := Fr.snoc X8 N2 G0
  have f9 := Nat.le_trans f3 (Keep.of_wr W8).1
  have f10 := Exa.wr W8 f4
  have f11 := Fld.other W8 f5 (Or.inr (slot_ne (Or.inr (hw _ (List.mem_of_getElem? (i := 42) rfl))) (Or.inr (hw _ (List.mem_of_getElem? (i := 44) rfl))) (by decide) (t := .long) (t' := .int) (by decide) (by decide)))
  have f12 := Fld.same W8 f6
  have f13 := Keep.wr f7 W8 (Or.inl (List.mem_of_getElem? (i := 0) rfl))
  refine own_ret0 X8 hx Bd.returns hlk (hb hby own_d_duI_14) (by decide) (by decide) ?_
  rw [e8]
  exact ⟨rfl, N8, f13, f10, f11, f12⟩
theorem own_d_gs_0 : decode jdk_2316_method_23_code 0 = .ok (.aload_n 0, 1) := by decide +kernel
theorem own_d_gs_1 : decode jdk_2316_method_23_code 1 = .ok (.getfield 221, 3) := by decide +kernel
theorem own_d_gs_4 : decode jdk_2316_method_23_code 4 = .ok (.lreturn, 1) := by decide +kernel
theorem own_ef_gs (m : MethodId) (a : Addr) : entryFrame m #[(.ref a)] 1 = mkF m 0 #[.val (.ref a)] [] := by first | (simp [entryFrame, mkF, argsToLocals, Value.category]; done) | rfl
def own_Q_gs (Z : State) (a : Addr) (gv : Int64) (h0 : Heap) (n0 : Nat) (v : Option Value) (h : Heap) (L : List Loc) : Prop := v = some (.long gv) ∧ Fr n0 L ∧ h = h0
set_option maxRecDepth 65536 in
set_option maxHeartbeats 40000000 in
theorem own_rm_gs (l : Launch) (Z : State) (a0 : Array Value) (hw : ∀ d ∈ tables_1, d.before a0 Z = true) (ws : List Jvm.Cond) (a : Addr) (gv : Int64) (h0 : Heap) (n0 : Nat) (Z0 : n0 ≤ h0.size) (F0 : Fld Z h0 a "java/time/Duration" "seconds" "J" (.long gv)) :
    MetFree l (⟨"java/time/Duration", "getSeconds", "()J"⟩ : MethodName) (head1 (Jvm.Cond.code (⟨"java/time/Duration", "getSeconds", "()J"⟩ : MethodName) jdk_2316_method_23_code 1 (some .long) :: ws) ({ frames := 0, cells := 0, slots := 0, locals := 0 } : Room)) (fun a_ U_ => a_ = #[(.ref a)] ∧ Z.Warmed39 U_.vm ∧ U_.heap = h0) (fun _ _ _ _ _ => True) (fun _ U_ o_ U'_ => ∃ v_ L_, o_ = .returned v_ ∧ own_Q_gs Z a gv h0 n0 v_ U'_.heap L_ ∧ FrameEnd U_ o_ U'_ L_ ({ frames := 0, cells := 0, slots := 0, locals := 0 } : Room).cells ({ frames := 0, cells := 0, slots := 0, locals := 0 } : Room).slots) := by
  refine MetFree.of_bodySF (plainFor_of_name own_pn_java_time_Duration) hisR ?_
  intro p e s m args below meth c s₁ Bd hml0 hP hK
  obtain ⟨rfl, hZ, hh⟩ := hP
  have hx := Bd.exec
  have hby := Bd.bytes
  have hlk : meth.locks = false := BodyLoose.notSynchronized Bd
  have hml : c.maxLocals = 1 := hml0
  have hown : s.vm.findClass "java/time/Duration" = some m.cls := findClass_of_methodNamed Bd.named
  have hnm := (name_of_methodNamed Bd.named Bd.method).1
  have X0 : Stand p l e ({ frames := 0, cells := 0, slots := 0, locals := 0 } : Room) s m #[(.ref a)] below meth c s₁ [] 0 0 := Stand.of_body Bd
  have e0 : s₁.heap = h0 := by rw [← hh, Bd.state]; rfl
  have N0 := Fr.nil n0
  show own_Goes p e below (own_K (own_Q_gs Z a gv h0 n0) s ({ frames := 0, cells := 0, slots := 0, locals := 0 } : Room).cells ({ frames := 0, cells := 0, slots := 0, locals := 0 } : Room).slots) s₁ (entryFrame m #[(.ref a)] 1)
  rw [own_ef_gs]
  refine own_by (T' := s₁) (g' := (mkF m 1 #[.val (.ref a)] [(.ref a)])) (fun t_ k_ => XS.aloadN X0.here hx rfl (hb hby own_d_gs_0) rfl rfl k_) ?_
  obtain ⟨T1, X1, e1, st1⟩ := getF X0 hx hZ hown (host := "") (Or.inl (hw _ (List.mem_of_getElem? (i := 41) rfl))) Via.refl e0 F0 (g := (mkF m 1 #[.val (.ref a)] [(.ref a)])) rfl rfl (hb hby own_d_gs_1)
  refine own_by (T' := T1) (g' := (mkF m 4 #[.val (.ref a)] [(.long gv)])) st1 ?_
  refine own_retJ X1 hx Bd.returns hlk (hb hby own_d_gs_4) (by decide) (by decide) ?_
  rw [e1]
  exact ⟨rfl, N0, rfl⟩
theorem own_d_gn_0 : decode jdk_2316_method_24_code 0 = .ok (.aload_n 0, 1) := by decide +kernel
theorem own_d_gn_1 : decode jdk_2316_method_24_code 1 = .ok (.getfield 224, 3) := by decide +kernel
theorem own_d_gn_4 : decode jdk_2316_method_24_code 4 = .ok (.ireturn, 1) := by decide +kernel
theorem own_ef_gn (m : MethodId) (a : Addr) : entryFrame m #[(.ref a)] 1 = mkF m 0 #[.val (.ref a)] [] := by first | (simp [entryFrame, mkF, argsToLocals, Value.category]; done) | rfl
def own_Q_gn (Z : State) (a : Addr) (gv : Int32) (h0 : Heap) (n0 : Nat) (v : Option Value) (h : Heap) (L : List Loc) : Prop := v = some (.int gv) ∧ Fr n0 L ∧ h = h0
set_option maxRecDepth 65536 in
set_option maxHeartbeats 40000000 in
theorem own_rm_gn (l : Launch) (Z : State) (a0 : Array Value) (hw : ∀ d ∈ tables_1, d.before a0 Z = true) (ws : List Jvm.Cond) (a : Addr) (gv : Int32) (h0 : Heap) (n0 : Nat) (Z0 : n0 ≤ h0.size) (F0 : Fld Z h0 a "java/time/Duration" "nanos" "I" (.int gv)) :
    MetFree l (⟨"java/time/Duration", "getNano", "()I"⟩ : MethodName) (head1 (Jvm.Cond.code (⟨"java/time/Duration", "getNano", "()I"⟩ : MethodName) jdk_2316_method_24_code 1 (some .int) :: ws) ({ frames := 0, cells := 0, slots := 0, locals := 0 } : Room)) (fun a_ U_ => a_ = #[(.ref a)] ∧ Z.Warmed39 U_.vm ∧ U_.heap = h0) (fun _ _ _ _ _ => True) (fun _ U_ o_ U'_ => ∃ v_ L_, o_ = .returned v_ ∧ own_Q_gn Z a gv h0 n0 v_ U'_.heap L_ ∧ FrameEnd U_ o_ U'_ L_ ({ frames := 0, cells := 0, slots := 0, locals := 0 } : Room).cells ({ frames := 0, cells := 0, slots := 0, locals := 0 } : Room).slots) := by
  refine MetFree.of_bodySF (plainFor_of_name own_pn_java_time_Duration) hisR ?_
  intro p e s m args below meth c s₁ Bd hml0 hP hK
  obtain ⟨rfl, hZ, hh⟩ := hP
  have hx := Bd.exec
  have hby := Bd.bytes
  have hlk : meth.locks = false := BodyLoose.notSynchronized Bd
  have hml : c.maxLocals = 1 := hml0
  have hown : s.vm.findClass "java/time/Duration" = some m.cls := findClass_of_methodNamed Bd.named
  have hnm := (name_of_methodNamed Bd.named Bd.method).1
  have X0 : Stand p l e ({ frames := 0, cells := 0, slots := 0, locals := 0 } : Room) s m #[(.ref a)] below meth c s₁ [] 0 0 := Stand.of_body Bd
  have e0 : s₁.heap = h0 := by rw [← hh, Bd.state]; rfl
  have N0 := Fr.nil n0
  show own_Goes p e below (own_K (own_Q_gn Z a gv h0 n0) s ({ frames := 0, cells := 0, slots := 0, locals := 0 } : Room).cells ({ frames := 0, cells := 0, slots := 0, locals := 0 } : Room).slots) s₁ (entryFrame m #[(.ref a)] 1)
  rw [own_ef_gn]
  refine own_by (T' := s₁) (g' := (mkF m 1 #[.val (.ref a)] [(.ref a)])) (fun t_ k_ => XS.aloadN X0.here hx rfl (hb hby own_d_gn_0) rfl rfl k_) ?_
  obtain ⟨T1, X1, e1, st1⟩ := getF X0 hx hZ hown (host := "") (Or.inl (hw _ (List.mem_of_getElem? (i := 43) rfl))) Via.refl e0 F0 (g := (mkF m 1 #[.val (.ref a)] [(.ref a)])) rfl rfl (hb hby own_d_gn_1)
  refine own_by (T' := T1) (g' := (mkF m 4 #[.val (.ref a)] [(.int gv)])) st1 ?_
  refine own_retI X1 hx Bd.returns hlk (hb hby own_d_gn_4) (by decide) (by decide) ?_
  rw [e1]
  exact ⟨rfl, N0, rfl⟩
theorem own_d_addx_0 : decode jdk_29_method_25_code 0 = .ok (.lload_n 0, 1) := by decide +kernel
theorem own_d_addx_1 : decode jdk_29_method_25_code 1 = .ok (.lload_n 2, 1) := by decide +kernel
theorem own_d_addx_2 : decode jdk_29_method_25_code 2 = .ok (.ladd, 1) := by decide +kernel
theorem own_d_addx_3 : decode jdk_29_method_25_code 3 = .ok (.lstore 4, 2) := by decide +kernel
theorem own_d_addx_5 : decode jdk_29_method_25_code 5 = .ok (.lload_n 0, 1) := by decide +kernel
theorem own_d_addx_6 : decode jdk_29_method_25_code 6 = .ok (.lload 4, 2) := by decide +kernel
theorem own_d_addx_8 : decode jdk_29_method_25_code 8 = .ok (.lxor, 1) := by decide +kernel
theorem own_d_addx_9 : decode jdk_29_method_25_code 9 = .ok (.lload_n 2, 1) := by decide +kernel
theorem own_d_addx_10 : decode jdk_29_method_25_code 10 = .ok (.lload 4, 2) := by decide +kernel
theorem own_d_addx_12 : decode jdk_29_method_25_code 12 = .ok (.lxor, 1) := by decide +kernel
theorem own_d_addx_13 : decode jdk_29_method_25_code 13 = .ok (.land, 1) := by decide +kernel
theorem own_d_addx_14 : decode jdk_29_method_25_code 14 = .ok (.lconst 0, 1) := by decide +kernel
theorem own_d_addx_15 : decode jdk_29_method_25_code 15 = .ok (.lcmp, 1) := by decide +kernel
theorem own_d_addx_16 : decode jdk_29_method_25_code 16 = .ok (.ifCond .ge 13, 3) := by decide +kernel
theorem own_d_addx_29 : decode jdk_29_method_25_code 29 = .ok (.lload 4, 2) := by decide +kernel
theorem own_d_addx_31 : decode jdk_29_method_25_code 31 = .ok (.lreturn, 1) := by decide +kernel
theorem own_ef_addx (m : MethodId) (xa : Int64) (xb : Int64) : entryFrame m #[(.long xa), (.long xb)] 6 = mkF m 0 #[.val (.long xa), .second, .val (.long xb), .second, .unset, .unset] [] := by first | (simp [entryFrame, mkF, argsToLocals, Value.category]; done) | rfl
def own_Q_addx (Z : State) (xa : Int64) (xb : Int64) (h0 : Heap) (n0 : Nat) (v : Option Value) (h : Heap) (L : List Loc) : Prop := v = some (.long (xa + xb)) ∧ Fr n0 L ∧ h = h0
set_option maxRecDepth 65536 in
set_option maxHeartbeats 40000000 in
theorem own_rm_addx (l : Launch) (Z : State) (a0 : Array Value) (hw : ∀ d ∈ tables_1, d.before a0 Z = true) (ws : List Jvm.Cond) (xa : Int64) (xb : Int64) (h0 : Heap) (n0 : Nat) (Z0 : n0 ≤ h0.size) (hno : ¬ ((xa ^^^ (xa + xb)) &&& (xb ^^^ (xa + xb))) < (0 : Int64)) :
    MetFree l (⟨"java/lang/Math", "addExact", "(JJ)J"⟩ : MethodName) (head1 (Jvm.Cond.code (⟨"java/lang/Math", "addExact", "(JJ)J"⟩ : MethodName) jdk_29_method_25_code 6 (some .long) :: ws) ({ frames := 0, cells := 0, slots := 0, locals := 0 } : Room)) (fun a_ U_ => a_ = #[(.long xa), (.long xb)] ∧ Z.Warmed39 U_.vm ∧ U_.heap = h0) (fun _ _ _ _ _ => True) (fun _ U_ o_ U'_ => ∃ v_ L_, o_ = .returned v_ ∧ own_Q_addx Z xa xb h0 n0 v_ U'_.heap L_ ∧ FrameEnd U_ o_ U'_ L_ ({ frames := 0, cells := 0, slots := 0, locals := 0 } : Room).cells ({ frames := 0, cells := 0, slots := 0, locals := 0 } : Room).slots) := by
  refine MetFree.of_bodySF (Jvm.Free.JP.mathPlain rfl (by decide +kernel)) hisR ?_
  intro p e s m args below meth c s₁ Bd hml0 hP hK
  obtain ⟨rfl, hZ, hh⟩ := hP
  have hx := Bd.exec
  have hby := Bd.bytes
  have hlk : meth.locks = false := BodyLoose.notSynchronized Bd
  have hml : c.maxLocals = 6 := hml0
  have hown : s.vm.findClass "java/lang/Math" = some m.cls := findClass_of_methodNamed Bd.named
  have hnm := (name_of_methodNamed Bd.named Bd.method).1
  have X0 : Stand p l e ({ frames := 0, cells := 0, slots := 0, locals := 0 } : Room) s m #[(.long xa), (.long xb)] below meth c s₁ [] 0 0 := Stand.of_body Bd
  have e0 : s₁.heap = h0 := by rw [← hh, Bd.state]; rfl
  have N0 := Fr.nil n0
  show own_Goes p e below (own_K (own_Q_addx Z xa xb h0 n0) s ({ frames := 0, cells := 0, slots := 0, locals := 0 } : Room).cells ({ frames := 0, cells := 0, slots := 0, locals := 0 } : Room).slots) s₁ (entryFrame m #[(.long xa), (.long xb)] 6)
  rw [own_ef_addx]
  refine own_by (T' := s₁) (g' := (mkF m 1 #[.val (.long xa), .second, .val (.long xb), .second, .unset, .unset] [(.long xa)])) (fun t_ k_ => XS.lloadN X0.here hx rfl (hb hby own_d_addx_0) rfl k_) ?_
  refine own_by (T' := s₁) (g' := (mkF m 2 #[.val (.long xa), .second, .val (.long xb), .second, .unset, .unset] [(.long xb), (.long xa)])) (fun t_ k_ => XS.lloadN X0.here hx rfl (hb hby own_d_addx_1) rfl k_) ?_
  refine own_by (T' := s₁) (g' := (mkF m 3 #[.val (.long xa), .second, .val (.long xb), .second, .unset, .unset] [(.long (xa + xb))])) (fun t_ k_ => XS.ladd X0.here hx rfl (hb hby own_d_addx_2) rfl k_) ?_
  refine own_by (T' := s₁) (g' := (mkF m 5 #[.val (.long xa), .second, .val (.long xb), .second, .val (.long (xa + xb)), .second] [])) (fun t_ k_ => XS.lstore X0.here hx rfl (hb hby own_d_addx_3) rfl (l' := #[.val (.long xa), .second, .val (.long xb), .second, .val (.long (xa + xb)), .second]) rfl k_) ?_
  refine own_by (T' := s₁) (g' := (mkF m 6 #[.val (.long xa), .second, .val (.long xb), .second, .val (.long (xa + xb)), .second] [(.long xa)])) (fun t_ k_ => XS.lloadN X0.here hx rfl (hb hby own_d_addx_5) rfl k_) ?_
  refine own_by (T' := s₁) (g' := (mkF m 8 #[.val (.long xa), .second, .val (.long xb), .second, .val (.long (xa + xb)), .second] [(.long (xa + xb)), (.long xa)])) (fun t_ k_ => XS.lload X0.here hx rfl (hb hby own_d_addx_6) rfl k_) ?_
  refine own_by (T' := s₁) (g' := (mkF m 9 #[.val (.long xa), .second, .val (.long xb), .second, .val (.long (xa + xb)), .second] [(.long (xa ^^^ (xa + xb)))])) (fun t_ k_ => XS.lxor X0.here hx rfl (hb hby own_d_addx_8) rfl k_) ?_
  refine own_by (T' := s₁) (g' := (mkF m 10 #[.val (.long xa), .second, .val (.long xb), .second, .val (.long (xa + xb)), .second] [(.long xb), (.long (xa ^^^ (xa + xb)))])) (fun t_ k_ => XS.lloadN X0.here hx rfl (hb hby own_d_addx_9) rfl k_) ?_
  refine own_by (T' := s₁) (g' := (mkF m 12 #[.val (.long xa), .second, .val (.long xb), .second, .val (.long (xa + xb)), .second] [(.long (xa + xb)), (.long xb), (.long (xa ^^^ (xa + xb)))])) (fun t_ k_ => XS.lload X0.here hx rfl (hb hby own_d_addx_10) rfl k_) ?_
  refine own_by (T' := s₁) (g' := (mkF m 13 #[.val (.long xa), .second, .val (.long xb), .second, .val (.long (xa + xb)), .second] [(.long (xb ^^^ (xa + xb))), (.long (xa ^^^ (xa + xb)))])) (fun t_ k_ => XS.lxor X0.here hx rfl (hb hby own_d_addx_12) rfl k_) ?_
  refine own_by (T' := s₁) (g' := (mkF m 14 #[.val (.long xa), .second, .val (.long xb), .second, .val (.long (xa + xb)), .second] [(.long ((xa ^^^ (xa + xb)) &&& (xb ^^^ (xa + xb))))])) (fun t_ k_ => XS.land X0.here hx rfl (hb hby own_d_addx_13) rfl k_) ?_
  refine own_by (T' := s₁) (g' := (mkF m 15 #[.val (.long xa), .second, .val (.long xb), .second, .val (.long (xa + xb)), .second] [(.long (0 : Int64)), (.long ((xa ^^^ (xa + xb)) &&& (xb ^^^ (xa + xb))))])) (fun t_ k_ => XS.lconst X0.here hx rfl (hb hby own_d_addx_14) k_) ?_
  refine own_by (T' := s₁) (g' := (mkF m 16 #[.val (.long xa), .second, .val (.long xb), .second, .val (.long (xa + xb)), .second] [(.int (lcmpW ((xa ^^^ (xa + xb)) &&& (xb ^^^ (xa + xb))) (0 : Int64)))])) (fun t_ k_ => XS.lcmp X0.here hx rfl (hb hby own_d_addx_15) rfl k_) ?_
  refine own_by (T' := s₁) (g' := (mkF m 29 #[.val (.long xa), .second, .val (.long xb), .second, .val (.long (xa + xb)), .second] [])) (fun t_ k_ => XS.ifYes X0.here hx rfl (pc0 := 16) (pc' := 29) rfl (hb hby own_d_addx_16) rfl ((if0 _ _).trans (flt ((fun q_ => hno ((lw_lt _ _).mp q_)) : ¬ ((lcmpW ((xa ^^^ (xa + xb)) &&& (xb ^^^ (xa + xb))) (0 : Int64)) < (0 : Int32)))).2.1) (by decide) (by decide) k_) ?_
  refine own_by (T' := s₁) (g' := (mkF m 31 #[.val (.long xa), .second, .val (.long xb), .second, .val (.long (xa + xb)), .second] [(.long (xa + xb))])) (fun t_ k_ => XS.lload X0.here hx rfl (hb hby own_d_addx_29) rfl k_) ?_
  refine own_retJ X0 hx Bd.returns hlk (hb hby own_d_addx_31) (by decide) (by decide) ?_
  rw [e0]
  exact ⟨rfl, N0, rfl⟩
theorem own_d_fdv_0 : decode jdk_29_method_49_code 0 = .ok (.lload_n 0, 1) := by decide +kernel
theorem own_d_fdv_1 : decode jdk_29_method_49_code 1 = .ok (.lload_n 2, 1) := by decide +kernel
theorem own_d_fdv_2 : decode jdk_29_method_49_code 2 = .ok (.ldiv, 1) := by decide +kernel
theorem own_d_fdv_3 : decode jdk_29_method_49_code 3 = .ok (.lstore 4, 2) := by decide +kernel
theorem own_d_fdv_5 : decode jdk_29_method_49_code 5 = .ok (.lload_n 0, 1) := by decide +kernel
theorem own_d_fdv_6 : decode jdk_29_method_49_code 6 = .ok (.lload_n 2, 1) := by decide +kernel
theorem own_d_fdv_7 : decode jdk_29_method_49_code 7 = .ok (.lxor, 1) := by decide +kernel
theorem own_d_fdv_8 : decode jdk_29_method_49_code 8 = .ok (.lconst 0, 1) := by decide +kernel
theorem own_d_fdv_9 : decode jdk_29_method_49_code 9 = .ok (.lcmp, 1) := by decide +kernel
theorem own_d_fdv_10 : decode jdk_29_method_49_code 10 = .ok (.ifCond .ge 17, 3) := by decide +kernel
theorem own_d_fdv_27 : decode jdk_29_method_49_code 27 = .ok (.lload 4, 2) := by decide +kernel
theorem own_d_fdv_29 : decode jdk_29_method_49_code 29 = .ok (.lreturn, 1) := by decide +kernel
theorem own_ef_fdv (m : MethodId) (xa : Int64) : entryFrame m #[(.long xa), (.long (1000000000 : Int64))] 6 = mkF m 0 #[.val (.long xa), .second, .val (.long (1000000000 : Int64)), .second, .unset, .unset] [] := by first | (simp [entryFrame, mkF, argsToLocals, Value.category]; done) | rfl
def own_Q_fdv (Z : State) (xa : Int64) (h0 : Heap) (n0 : Nat) (v : Option Value) (h : Heap) (L : List Loc) : Prop := v = some (.long (xa / (1000000000 : Int64))) ∧ Fr n0 L ∧ h = h0
set_option maxRecDepth 65536 in
set_option maxHeartbeats 40000000 in
theorem own_rm_fdv (l : Launch) (Z : State) (a0 : Array Value) (hw : ∀ d ∈ tables_1, d.before a0 Z = true) (ws : List Jvm.Cond) (xa : Int64) (h0 : Heap) (n0 : Nat) (Z0 : n0 ≤ h0.size) (hno : ¬ (xa ^^^ (1000000000 : Int64)) < (0 : Int64)) :
    MetFree l (⟨"java/lang/Math", "floorDiv", "(JJ)J"⟩ : MethodName) (head1 (Jvm.Cond.code (⟨"java/lang/Math", "floorDiv", "(JJ)J"⟩ : MethodName) jdk_29_method_49_code 6 (some .long) :: ws) ({ frames := 0, cells := 0, slots := 0, locals := 0 } : Room)) (fun a_ U_ => a_ = #[(.long xa), (.long (1000000000 : Int64))] ∧ Z.Warmed39 U_.vm ∧ U_.heap = h0) (fun _ _ _ _ _ => True) (fun _ U_ o_ U'_ => ∃ v_ L_, o_ = .returned v_ ∧ own_Q_fdv Z xa h0 n0 v_ U'_.heap L_ ∧ FrameEnd U_ o_ U'_ L_ ({ frames := 0, cells := 0, slots := 0, locals := 0 } : Room).cells ({ frames := 0, cells := 0, slots := 0, locals := 0 } : Room).slots) := by
  refine MetFree.of_bodySF (Jvm.Free.JP.mathPlain rfl (by decide +kernel)) hisR ?_
  intro p e s m args below meth c s₁ Bd hml0 hP hK
  obtain ⟨rfl, hZ, hh⟩ := hP
  have hx := Bd.exec
  have hby := Bd.bytes
  have hlk : meth.locks = false := BodyLoose.notSynchronized Bd
  have hml : c.maxLocals = 6 := hml0
  have hown : s.vm.findClass "java/lang/Math" = some m.cls := findClass_of_methodNamed Bd.named
  have hnm := (name_of_methodNamed Bd.named Bd.method).1
  have X0 : Stand p l e ({ frames := 0, cells := 0, slots := 0, locals := 0 } : Room) s m #[(.long xa), (.long (1000000000 : Int64))] below meth c s₁ [] 0 0 := Stand.of_body Bd
  have e0 : s₁.heap = h0 := by rw [← hh, Bd.state]; rfl
  have N0 := Fr.nil n0
  show own_Goes p e below (own_K (own_Q_fdv Z xa h0 n0) s ({ frames := 0, cells := 0, slots := 0, locals := 0 } : Room).cells ({ frames := 0, cells := 0, slots := 0, locals := 0 } : Room).slots) s₁ (entryFrame m #[(.long xa), (.long (1000000000 : Int64))] 6)
  rw [own_ef_fdv]
  refine own_by (T' := s₁) (g' := (mkF m 1 #[.val (.long xa), .second, .val (.long (1000000000 : Int64)), .second, .unset, .unset] [(.long xa)])) (fun t_ k_ => XS.lloadN X0.here hx rfl (hb hby own_d_fdv_0) rfl k_) ?_
  refine own_by (T' := s₁) (g' := (mkF m 2 #[.val (.long xa), .second, .val (.long (1000000000 : Int64)), .second, .unset, .unset] [(.long (1000000000 : Int64)), (.long xa)])) (fun t_ k_ => XS.lloadN X0.here hx rfl (hb hby own_d_fdv_1) rfl k_) ?_
  refine own_by (T' := s₁) (g' := (mkF m 3 #[.val (.long xa), .second, .val (.long (1000000000 : Int64)), .second, .unset, .unset] [(.long (xa / (1000000000 : Int64)))])) (fun t_ k_ => XS.ldiv X0.here hx rfl (hb hby own_d_fdv_2) rfl (by decide) k_) ?_
  refine own_by (T' := s₁) (g' := (mkF m 5 #[.val (.long xa), .second, .val (.long (1000000000 : Int64)), .second, .val (.long (xa / (1000000000 : Int64))), .second] [])) (fun t_ k_ => XS.lstore X0.here hx rfl (hb hby own_d_fdv_3) rfl (l' := #[.val (.long xa), .second, .val (.long (1000000000 : Int64)), .second, .val (.long (xa / (1000000000 : Int64))), .second]) rfl k_) ?_
  refine own_by (T' := s₁) (g' := (mkF m 6 #[.val (.long xa), .second, .val (.long (1000000000 : Int64)), .second, .val (.long (xa / (1000000000 : Int64))), .second] [(.long xa)])) (fun t_ k_ => XS.lloadN X0.here hx rfl (hb hby own_d_fdv_5) rfl k_) ?_
  refine own_by (T' := s₁) (g' := (mkF m 7 #[.val (.long xa), .second, .val (.long (1000000000 : Int64)), .second, .val (.long (xa / (1000000000 : Int64))), .second] [(.long (1000000000 : Int64)), (.long xa)])) (fun t_ k_ => XS.lloadN X0.here hx rfl (hb hby own_d_fdv_6) rfl k_) ?_
  refine own_by (T' := s₁) (g' := (mkF m 8 #[.val (.long xa), .second, .val (.long (1000000000 : Int64)), .second, .val (.long (xa / (1000000000 : Int64))), .second] [(.long (xa ^^^ (1000000000 : Int64)))])) (fun t_ k_ => XS.lxor X0.here hx rfl (hb hby own_d_fdv_7) rfl k_) ?_
  refine own_by (T' := s₁) (g' := (mkF m 9 #[.val (.long xa), .second, .val (.long (1000000000 : Int64)), .second, .val (.long (xa / (1000000000 : Int64))), .second] [(.long (0 : Int64)), (.long (xa ^^^ (1000000000 : Int64)))])) (fun t_ k_ => XS.lconst X0.here hx rfl (hb hby own_d_fdv_8) k_) ?_
  refine own_by (T' := s₁) (g' := (mkF m 10 #[.val (.long xa), .second, .val (.long (1000000000 : Int64)), .second, .val (.long (xa / (1000000000 : Int64))), .second] [(.int (lcmpW (xa ^^^ (1000000000 : Int64)) (0 : Int64)))])) (fun t_ k_ => XS.lcmp X0.here hx rfl (hb hby own_d_fdv_9) rfl k_) ?_
  refine own_by (T' := s₁) (g' := (mkF m 27 #[.val (.long xa), .second, .val (.long (1000000000 : Int64)), .second, .val (.long (xa / (1000000000 : Int64))), .second] [])) (fun t_ k_ => XS.ifYes X0.here hx rfl (pc0 := 10) (pc' := 27) rfl (hb hby own_d_fdv_10) rfl ((if0 _ _).trans (flt ((fun q_ => hno ((lw_lt _ _).mp q_)) : ¬ ((lcmpW (xa ^^^ (1000000000 : Int64)) (0 : Int64)) < (0 : Int32)))).2.1) (by decide) (by decide) k_) ?_
  refine own_by (T' := s₁) (g' := (mkF m 29 #[.val (.long xa), .second, .val (.long (1000000000 : Int64)), .second, .val (.long (xa / (1000000000 : Int64))), .second] [(.long (xa / (1000000000 : Int64)))])) (fun t_ k_ => XS.lload X0.here hx rfl (hb hby own_d_fdv_27) rfl k_) ?_
  refine own_retJ X0 hx Bd.returns hlk (hb hby own_d_fdv_29) (by decide) (by decide) ?_
  rw [e0]
  exact ⟨rfl, N0, rfl⟩
theorem own_d_fmd_0 : decode jdk_29_method_52_code 0 = .ok (.lload_n 0, 1) := by decide +kernel
theorem own_d_fmd_1 : decode jdk_29_method_52_code 1 = .ok (.lload_n 2, 1) := by decide +kernel
theorem own_d_fmd_2 : decode jdk_29_method_52_code 2 = .ok (.lrem, 1) := by decide +kernel
theorem own_d_fmd_3 : decode jdk_29_method_52_code 3 = .ok (.lstore 4, 2) := by decide +kernel
theorem own_d_fmd_5 : decode jdk_29_method_52_code 5 = .ok (.lload_n 0, 1) := by decide +kernel
theorem own_d_fmd_6 : decode jdk_29_method_52_code 6 = .ok (.lload_n 2, 1) := by decide +kernel
theorem own_d_fmd_7 : decode jdk_29_method_52_code 7 = .ok (.lxor, 1) := by decide +kernel
theorem own_d_fmd_8 : decode jdk_29_method_52_code 8 = .ok (.lconst 0, 1) := by decide +kernel
theorem own_d_fmd_9 : decode jdk_29_method_52_code 9 = .ok (.lcmp, 1) := by decide +kernel
theorem own_d_fmd_10 : decode jdk_29_method_52_code 10 = .ok (.ifCond .ge 15, 3) := by decide +kernel
theorem own_d_fmd_25 : decode jdk_29_method_52_code 25 = .ok (.lload 4, 2) := by decide +kernel
theorem own_d_fmd_27 : decode jdk_29_method_52_code 27 = .ok (.lreturn, 1) := by decide +kernel
theorem own_ef_fmd (m : MethodId) (xa : Int64) : entryFrame m #[(.long xa), (.long (1000000000 : Int64))] 6 = mkF m 0 #[.val (.long xa), .second, .val (.long (1000000000 : Int64)), .second, .unset, .unset] [] := by first | (simp [entryFrame, mkF, argsToLocals, Value.category]; done) | rfl
def own_Q_fmd (Z : State) (xa : Int64) (h0 : Heap) (n0 : Nat) (v : Option Value) (h : Heap) (L : List Loc) : Prop := v = some (.long (xa % (1000000000 : Int64))) ∧ Fr n0 L ∧ h = h0
set_option maxRecDepth 65536 in
set_option maxHeartbeats 40000000 in
theorem own_rm_fmd (l : Launch) (Z : State) (a0 : Array Value) (hw : ∀ d ∈ tables_1, d.before a0 Z = true) (ws : List Jvm.Cond) (xa : Int64) (h0 : Heap) (n0 : Nat) (Z0 : n0 ≤ h0.size) (hno : ¬ (xa ^^^ (1000000000 : Int64)) < (0 : Int64)) :
    MetFree l (⟨"java/lang/Math", "floorMod", "(JJ)J"⟩ : MethodName) (head1 (Jvm.Cond.code (⟨"java/lang/Math", "floorMod", "(JJ)J"⟩ : MethodName) jdk_29_method_52_code 6 (some .long) :: ws) ({ frames := 0, cells := 0, slots := 0, locals := 0 } : Room)) (fun a_ U_ => a_ = #[(.long xa), (.long (1000000000 : Int64))] ∧ Z.Warmed39 U_.vm ∧ U_.heap = h0) (fun _ _ _ _ _ => True) (fun _ U_ o_ U'_ => ∃ v_ L_, o_ = .returned v_ ∧ own_Q_fmd Z xa h0 n0 v_ U'_.heap L_ ∧ FrameEnd U_ o_ U'_ L_ ({ frames := 0, cells := 0, slots := 0, locals := 0 } : Room).cells ({ frames := 0, cells := 0, slots := 0, locals := 0 } : Room).slots) := by
  refine MetFree.of_bodySF (Jvm.Free.JP.mathPlain rfl (by decide +kernel)) hisR ?_
  intro p e s m args below meth c s₁ Bd hml0 hP hK
  obtain ⟨rfl, hZ, hh⟩ := hP
  have hx := Bd.exec
  have hby := Bd.bytes
  have hlk : meth.locks = false := BodyLoose.notSynchronized Bd
  have hml : c.maxLocals = 6 := hml0
  have hown : s.vm.findClass "java/lang/Math" = some m.cls := findClass_of_methodNamed Bd.named
  have hnm := (name_of_methodNamed Bd.named Bd.method).1
  have X0 : Stand p l e ({ frames := 0, cells := 0, slots := 0, locals := 0 } : Room) s m #[(.long xa), (.long (1000000000 : Int64))] below meth c s₁ [] 0 0 := Stand.of_body Bd
  have e0 : s₁.heap = h0 := by rw [← hh, Bd.state]; rfl
  have N0 := Fr.nil n0
  show own_Goes p e below (own_K (own_Q_fmd Z xa h0 n0) s ({ frames := 0, cells := 0, slots := 0, locals := 0 } : Room).cells ({ frames := 0, cells := 0, slots := 0, locals := 0 } : Room).slots) s₁ (entryFrame m #[(.long xa), (.long (1000000000 : Int64))] 6)
  rw [own_ef_fmd]
  refine own_by (T' := s₁) (g' := (mkF m 1 #[.val (.long xa), .second, .val (.long (1000000000 : Int64)), .second, .unset, .unset] [(.long xa)])) (fun t_ k_ => XS.lloadN X0.here hx rfl (hb hby own_d_fmd_0) rfl k_) ?_
  refine own_by (T' := s₁) (g' := (mkF m 2 #[.val (.long xa), .second, .val (.long (1000000000 : Int64)), .second, .unset, .unset] [(.long (1000000000 : Int64)), (.long xa)])) (fun t_ k_ => XS.lloadN X0.here hx rfl (hb hby own_d_fmd_1) rfl k_) ?_
  refine own_by (T' := s₁) (g' := (mkF m 3 #[.val (.long xa), .second, .val (.long (1000000000 : Int64)), .second, .unset, .unset] [(.long (xa % (1000000000 : Int64)))])) (fun t_ k_ => own_lrem X0 hx rfl (hb hby own_d_fmd_2) rfl (by decide) k_) ?_
  refine own_by (T' := s₁) (g' := (mkF m 5 #[.val (.long xa), .second, .val (.long (1000000000 : Int64)), .second, .val (.long (xa % (1000000000 : Int64))), .second] [])) (fun t_ k_ => XS.lstore X0.here hx rfl (hb hby own_d_fmd_3) rfl (l' := #[.val (.long xa), .second, .val (.long (1000000000 : Int64)), .second, .val (.long (xa % (1000000000 : Int64))), .second]) rfl k_) ?_
  refine own_by (T' := s₁) (g' := (mkF m 6 #[.val (.long xa), .second, .val (.long (1000000000 : Int64)), .second, .val (.long (xa % (1000000000 : Int64))), .second] [(.long xa)])) (fun t_ k_ => XS.lloadN X0.here hx rfl (hb hby own_d_fmd_5) rfl k_) ?_
  refine own_by (T' := s₁) (g' := (mkF m 7 #[.val (.long xa), .second, .val (.long (1000000000 : Int64)), .second, .val (.long (xa % (1000000000 : Int64))), .second] [(.long (1000000000 : Int64)), (.long xa)])) (fun t_ k_ => XS.lloadN X0.here hx rfl (hb hby own_d_fmd_6) rfl k_) ?_
  refine own_by (T' := s₁) (g' := (mkF m 8 #[.val (.long xa), .second, .val (.long (1000000000 : Int64)), .second, .val (.long (xa % (1000000000 : Int64))), .second] [(.long (xa ^^^ (1000000000 : Int64)))])) (fun t_ k_ => XS.lxor X0.here hx rfl (hb hby own_d_fmd_7) rfl k_) ?_
  refine own_by (T' := s₁) (g' := (mkF m 9 #[.val (.long xa), .second, .val (.long (1000000000 : Int64)), .second, .val (.long (xa % (1000000000 : Int64))), .second] [(.long (0 : Int64)), (.long (xa ^^^ (1000000000 : Int64)))])) (fun t_ k_ => XS.lconst X0.here hx rfl (hb hby own_d_fmd_8) k_) ?_
  refine own_by (T' := s₁) (g' := (mkF m 10 #[.val (.long xa), .second, .val (.long (1000000000 : Int64)), .second, .val (.long (xa % (1000000000 : Int64))), .second] [(.int (lcmpW (xa ^^^ (1000000000 : Int64)) (0 : Int64)))])) (fun t_ k_ => XS.lcmp X0.here hx rfl (hb hby own_d_fmd_9) rfl k_) ?_
  refine own_by (T' := s₁) (g' := (mkF m 25 #[.val (.long xa), .second, .val (.long (1000000000 : Int64)), .second, .val (.long (xa % (1000000000 : Int64))), .second] [])) (fun t_ k_ => XS.ifYes X0.here hx rfl (pc0 := 10) (pc' := 25) rfl (hb hby own_d_fmd_10) rfl ((if0 _ _).trans (flt ((fun q_ => hno ((lw_lt _ _).mp q_)) : ¬ ((lcmpW (xa ^^^ (1000000000 : Int64)) (0 : Int64)) < (0 : Int32)))).2.1) (by decide) (by decide) k_) ?_
  refine own_by (T' := s₁) (g' := (mkF m 27 #[.val (.long xa), .second, .val (.long (1000000000 : Int64)), .second, .val (.long (xa % (1000000000 : Int64))), .second] [(.long (xa % (1000000000 : Int64)))])) (fun t_ k_ => XS.lload X0.here hx rfl (hb hby own_d_fmd_25) rfl k_) ?_
  refine own_retJ X0 hx Bd.returns hlk (hb hby own_d_fmd_27) (by decide) (by decide) ?_
  rw [e0]
  exact ⟨rfl, N0, rfl⟩
theorem own_pd1 : parseMethodDescriptor "(JI)V" = some ⟨[.long, .int], none⟩ := by decide +kernel
theorem own_d_cr_0 : decode jdk_2316_method_16_code 0 = .ok (.lload_n 0, 1) := by decide +kernel
theorem own_d_cr_1 : decode jdk_2316_method_16_code 1 = .ok (.iload_n 2, 1) := by decide +kernel
theorem own_d_cr_2 : decode jdk_2316_method_16_code 2 = .ok (.i2l, 1) := by decide +kernel
theorem own_d_cr_3 : decode jdk_2316_method_16_code 3 = .ok (.lor, 1) := by decide +kernel
theorem own_d_cr_4 : decode jdk_2316_method_16_code 4 = .ok (.lconst 0, 1) := by decide +kernel
theorem own_d_cr_5 : decode jdk_2316_method_16_code 5 = .ok (.lcmp, 1) := by decide +kernel
theorem own_d_cr_6 : decode jdk_2316_method_16_code 6 = .ok (.ifCond .ne 7, 3) := by decide +kernel
theorem own_d_cr_9 : decode jdk_2316_method_16_code 9 = .ok (.getstatic 32, 3) := by decide +kernel
theorem own_d_cr_12 : decode jdk_2316_method_16_code 12 = .ok (.areturn, 1) := by decide +kernel
theorem own_d_cr_13 : decode jdk_2316_method_16_code 13 = .ok (.new 11, 3) := by decide +kernel
theorem own_d_cr_16 : decode jdk_2316_method_16_code 16 = .ok (.dup, 1) := by decide +kernel
theorem own_d_cr_17 : decode jdk_2316_method_16_code 17 = .ok (.lload_n 0, 1) := by decide +kernel
theorem own_d_cr_18 : decode jdk_2316_method_16_code 18 = .ok (.iload_n 2, 1) := by decide +kernel
theorem own_d_cr_19 : decode jdk_2316_method_16_code 19 = .ok (.invokespecial 215, 3) := by decide +kernel
theorem own_d_cr_22 : decode jdk_2316_method_16_code 22 = .ok (.areturn, 1) := by decide +kernel
theorem own_ef_cr (m : MethodId) (sc : Int64) (na : Int32) : entryFrame m #[(.long sc), (.int na)] 3 = mkF m 0 #[.val (.long sc), .second, .val (.int na)] [] := by first | (simp [entryFrame, mkF, argsToLocals, Value.category]; done) | rfl
def own_Q_cr (Z : State) (sc : Int64) (na : Int32) (zz : Addr) (h0 : Heap) (n0 : Nat) (v : Option Value) (h : Heap) (L : List Loc) : Prop := ∃ (x : Addr) (s2 : Int64) (n2 : Int32), v = some (.ref x) ∧ Fr n0 L ∧ Keep h0 h [] ∧ Exa Z h x "java/time/Duration" ∧ Fld Z h x "java/time/Duration" "seconds" "J" (.long s2) ∧ Fld Z h x "java/time/Duration" "nanos" "I" (.int n2) ∧ s2 = sc ∧ n2 = na
set_option maxRecDepth 65536 in
set_option maxHeartbeats 40000000 in
theorem own_rm_cr (l : Launch) (Z : State) (a0 : Array Value) (hw : ∀ d ∈ tables_1, d.before a0 Z = true) (ws : List Jvm.Cond) (sc : Int64) (na : Int32) (zz : Addr) (h0 : Heap) (n0 : Nat) (Z0 : n0 ≤ h0.size) (S_Z : Sta Z h0 "java/time/Duration" "ZERO" "Ljava/time/Duration;" (.ref zz)) (E_Z : Exa Z h0 zz "java/time/Duration") (Fz_s : Fld Z h0 zz "java/time/Duration" "seconds" "J" (.long (0 : Int64))) (Fz_n : Fld Z h0 zz "java/time/Duration" "nanos" "I" (.int (0 : Int32))) :
    MetFree l (⟨"java/time/Duration", "create", "(JI)Ljava/time/Duration;"⟩ : MethodName) (head1 (Jvm.Cond.code (⟨"java/time/Duration", "create", "(JI)Ljava/time/Duration;"⟩ : MethodName) jdk_2316_method_16_code 3 (some (.object "java/time/Duration")) :: ws) ({ frames := 2, cells := 1, slots := 2, locals := 28 } : Room)) (fun a_ U_ => a_ = #[(.long sc), (.int na)] ∧ Z.Warmed39 U_.vm ∧ U_.heap = h0) (fun _ _ _ _ _ => True) (fun _ U_ o_ U'_ => ∃ v_ L_, o_ = .returned v_ ∧ own_Q_cr Z sc na zz h0 n0 v_ U'_.heap L_ ∧ FrameEnd U_ o_ U'_ L_ ({ frames := 2, cells := 1, slots := 2, locals := 28 } : Room).cells ({ frames := 2, cells := 1, slots := 2, locals := 28 } : Room).slots) := by
  refine MetFree.of_bodySF (plainFor_of_name own_pn_java_time_Duration) hisR ?_
  intro p e s m args below meth c s₁ Bd hml0 hP hK
  obtain ⟨rfl, hZ, hh⟩ := hP
  have hx := Bd.exec
  have hby := Bd.bytes
  have hlk : meth.locks = false := BodyLoose.notSynchronized Bd
  have hml : c.maxLocals = 3 := hml0
  have hown : s.vm.findClass "java/time/Duration" = some m.cls := findClass_of_methodNamed Bd.named
  have hnm := (name_of_methodNamed Bd.named Bd.method).1
  have X0 : Stand p l e ({ frames := 2, cells := 1, slots := 2, locals := 28 } : Room) s m #[(.long sc), (.int na)] below meth c s₁ [] 0 0 := Stand.of_body Bd
  have e0 : s₁.heap = h0 := by rw [← hh, Bd.state]; rfl
  have N0 := Fr.nil n0
  show own_Goes p e below (own_K (own_Q_cr Z sc na zz h0 n0) s ({ frames := 2, cells := 1, slots := 2, locals := 28 } : Room).cells ({ frames := 2, cells := 1, slots := 2, locals := 28 } : Room).slots) s₁ (entryFrame m #[(.long sc), (.int na)] 3)
  rw [own_ef_cr]
  have K0 := Keep.refl h0 []
  refine own_by (T' := s₁) (g' := (mkF m 1 #[.val (.long sc), .second, .val (.int na)] [(.long sc)])) (fun t_ k_ => XS.lloadN X0.here hx rfl (hb hby own_d_cr_0) rfl k_) ?_
  refine own_by (T' := s₁) (g' := (mkF m 2 #[.val (.long sc), .second, .val (.int na)] [(.int na), (.long sc)])) (fun t_ k_ => XS.iloadN X0.here hx rfl (hb hby own_d_cr_1) rfl k_) ?_
  refine own_by (T' := s₁) (g' := (mkF m 3 #[.val (.long sc), .second, .val (.int na)] [(.long na.toInt64), (.long sc)])) (fun t_ k_ => XS.i2l X0.here hx rfl (hb hby own_d_cr_2) rfl k_) ?_
  refine own_by (T' := s₁) (g' := (mkF m 4 #[.val (.long sc), .second, .val (.int na)] [(.long (sc ||| na.toInt64))])) (fun t_ k_ => XS.lor X0.here hx rfl (hb hby own_d_cr_3) rfl k_) ?_
  refine own_by (T' := s₁) (g' := (mkF m 5 #[.val (.long sc), .second, .val (.int na)] [(.long (0 : Int64)), (.long (sc ||| na.toInt64))])) (fun t_ k_ => XS.lconst X0.here hx rfl (hb hby own_d_cr_4) k_) ?_
  refine own_by (T' := s₁) (g' := (mkF m 6 #[.val (.long sc), .second, .val (.int na)] [(.int (lcmpW (sc ||| na.toInt64) (0 : Int64)))])) (fun t_ k_ => XS.lcmp X0.here hx rfl (hb hby own_d_cr_5) rfl k_) ?_
  by_cases c6_1 : (sc ||| na.toInt64) = (0 : Int64)
  · skip
    refine own_by (T' := s₁) (g' := (mkF m 9 #[.val (.long sc), .second, .val (.int na)] [])) (fun t_ k_ => XS.ifNo X0.here hx rfl (hb hby own_d_cr_6) rfl ((if0 _ _).trans (teq (((lw_eq _ _).mpr c6_1) : (lcmpW (sc ||| na.toInt64) (0 : Int64)) = (0 : Int32))).2) k_) ?_
    obtain ⟨T2, X2, e2, st2⟩ := getS2 X0 hx hZ hown (host := "") (Or.inl (hw _ (List.mem_of_getElem? (i := 69) rfl))) Via.refl e0 S_Z (g := (mkF m 9 #[.val (.long sc), .second, .val (.int na)] [])) rfl (hb hby own_d_cr_9)
    refine own_by (T' := T2) (g' := (mkF m 12 #[.val (.long sc), .second, .val (.int na)] [(.ref zz)])) st2 ?_
    refine own_retR X2 hx Bd.returns hlk rfl rfl (hb hby own_d_cr_12) (by decide) (by decide) ?_
    rw [e2]
    obtain ⟨z1, z2⟩ := own_or0 sc na c6_1
    subst z1 z2
    exact ⟨zz, _, _, rfl, N0, K0, E_Z, Fz_s, Fz_n, rfl, rfl⟩
  · skip
    refine own_by (T' := s₁) (g' := (mkF m 13 #[.val (.long sc), .second, .val (.int na)] [])) (fun t_ k_ => XS.ifYes X0.here hx rfl (pc0 := 6) (pc' := 13) rfl (hb hby own_d_cr_6) rfl ((if0 _ _).trans (feq ((fun q_ => c6_1 ((lw_eq _ _).mp q_)) : ¬ ((lcmpW (sc ||| na.toInt64) (0 : Int64)) = (0 : Int32)))).2) (by decide) (by decide) k_) ?_
    obtain ⟨T3, h3, X3, e3, E3, A3, D3, -, st3⟩ := newO X0 hx hZ hown (hw _ (List.mem_of_getElem? (i := 34) rfl)) (hw _ (List.mem_of_getElem? (i := 35) rfl)) (hw _ (List.mem_of_getElem? (i := 27) rfl)) e0 (g := (mkF m 13 #[.val (.long sc), .second, .val (.int na)] [])) rfl (hb hby own_d_cr_13) (by decide) (by decide)
    obtain ⟨b3, g3⟩ : ∃ z, z = h0.size := ⟨_, rfl⟩
    rw [← g3] at A3 D3 st3
    have g_b3 : n0 ≤ b3 := Nat.le_trans Z0 (Nat.le_of_eq g3.symm)
    have ne4 : zz ≠ b3 := Nat.ne_of_lt (Nat.lt_of_lt_of_le E_Z.lt (Nat.le_of_eq g3.symm))
    have k_b3 : h0.size ≤ b3 := Nat.le_trans K0.1 (Nat.le_of_eq g3.symm)
    have f5 := Nat.le_trans Z0 E3.1
    have f6 := Sta.ext E3 S_Z
    have f7 := Exa.ext E3 E_Z
    have f8 := Fld.ext E3 Fz_s
    have f9 := Fld.ext E3 Fz_n
    have f10 := K0.ext E3
    have F3_seconds : Fld Z h3 b3 "java/time/Duration" "seconds" "J" (.long (0 : Int64)) := D3 (Or.inr (hw _ (List.mem_of_getElem? (i := 42) rfl))) (ty := .long) (by decide)
    have F3_nanos : Fld Z h3 b3 "java/time/Duration" "nanos" "I" (.int (0 : Int32)) := D3 (Or.inr (hw _ (List.mem_of_getElem? (i := 44) rfl))) (ty := .int) (by decide)
    refine own_by (T' := T3) (g' := (mkF m 16 #[.val (.long sc), .second, .val (.int na)] [(.ref b3)])) st3 ?_
    refine own_by (T' := T3) (g' := (mkF m 17 #[.val (.long sc), .second, .val (.int na)] [(.ref b3), (.ref b3)])) (fun t_ k_ => XS.dup X3.here hx rfl (hb hby own_d_cr_16) rfl rfl k_) ?_
    refine own_by (T' := T3) (g' := (mkF m 18 #[.val (.long sc), .second, .val (.int na)] [(.long sc), (.ref b3), (.ref b3)])) (fun t_ k_ => XS.lloadN X3.here hx rfl (hb hby own_d_cr_17) rfl k_) ?_
    refine own_by (T' := T3) (g' := (mkF m 19 #[.val (.long sc), .second, .val (.int na)] [(.int na), (.long sc), (.ref b3), (.ref b3)])) (fun t_ k_ => XS.iloadN X3.here hx rfl (hb hby own_d_cr_18) rfl k_) ?_
    obtain ⟨_, T11, L11, X11, hQ11, st11⟩ := own_callI X3 hx hZ (y := (⟨"java/time/Duration", "<init>", "(JI)V"⟩ : MethodName)) rfl hown (hw _ (List.mem_of_getElem? (i := 36) rfl)) (hw _ (List.mem_of_getElem? (i := 37) rfl)) (hw _ (List.mem_of_getElem? (i := 27) rfl)) (hw _ (List.mem_of_getElem? (i := 39) rfl)) (by decide) (argsL := [(.long sc), (.int na)]) (rest := [(.ref b3)]) (own_rm_duI l Z a0 hw [] b3 sc na h3 n0 f5  A3 g_b3 F3_seconds F3_nanos) e3 (W := 1) (by decide) (by decide) (by decide) (by decide) (g := (mkF m 19 #[.val (.long sc), .second, .val (.int na)] [(.int na), (.long sc), (.ref b3), (.ref b3)])) rfl (by rw [hml]; rfl) (lenOf own_pd1 rfl) rfl (by show 2 * 0 + _ ≤ _; exact Nat.le_of_eq rfl) (hb hby own_d_cr_19)
    obtain ⟨rfl, Nq11, Kq11, Eq11, Fq11_seconds, Fq11_nanos⟩ := hQ11
    have N11 := Fr.app N0 Nq11
    have f12 := own_Sta_keep f6 Kq11 (allS (fun cell hc => by obtain ⟨c1, _, h1, -, -, h4, -⟩ := A3; cases h1.symm.trans hc; exact h4) all0)
    have f13 := Nat.le_trans f5 Kq11.1
    have f14 := Exa.keep f7 Kq11
    have f15 := Fld.keep f8 Kq11 (ninS ne4 nin0)
    have f16 := Fld.keep f9 Kq11 (ninS ne4 nin0)
    have f17 := Keep.trans f10 Kq11 (allS (Or.inr k_b3) all0)
    have f18 := Exa.keep A3 Kq11
    refine st11 _ ?_
    show own_Goes p e below _ T11 (mkF m 22 #[.val (.long sc), .second, .val (.int na)] [(.ref b3)])
    refine own_retR X11 hx Bd.returns hlk rfl rfl (hb hby own_d_cr_22) (by decide) (by decide) ?_
    exact ⟨b3, _, _, rfl, N11, f17, f18, Fq11_seconds, Fq11_nanos, rfl, rfl⟩
theorem own_pd2 : parseMethodDescriptor "(JI)Ljava/time/Duration;" = some ⟨[.long, .int], some (.object "java/time/Duration")⟩ := by decide +kernel
theorem own_d_om_0 : decode jdk_2316_method_6_code 0 = .ok (.lload_n 0, 1) := by decide +kernel
theorem own_d_om_1 : decode jdk_2316_method_6_code 1 = .ok (.ldc2_w 28, 3) := by decide +kernel
theorem own_d_om_4 : decode jdk_2316_method_6_code 4 = .ok (.ldiv, 1) := by decide +kernel
theorem own_d_om_5 : decode jdk_2316_method_6_code 5 = .ok (.lstore_n 2, 1) := by decide +kernel
theorem own_d_om_6 : decode jdk_2316_method_6_code 6 = .ok (.lload_n 0, 1) := by decide +kernel
theorem own_d_om_7 : decode jdk_2316_method_6_code 7 = .ok (.ldc2_w 28, 3) := by decide +kernel
theorem own_d_om_10 : decode jdk_2316_method_6_code 10 = .ok (.lrem, 1) := by decide +kernel
theorem own_d_om_11 : decode jdk_2316_method_6_code 11 = .ok (.l2i, 1) := by decide +kernel
theorem own_d_om_12 : decode jdk_2316_method_6_code 12 = .ok (.istore 4, 2) := by decide +kernel
theorem own_d_om_14 : decode jdk_2316_method_6_code 14 = .ok (.iload 4, 2) := by decide +kernel
theorem own_d_om_16 : decode jdk_2316_method_6_code 16 = .ok (.ifCond .ge 13, 3) := by decide +kernel
theorem own_d_om_29 : decode jdk_2316_method_6_code 29 = .ok (.lload_n 2, 1) := by decide +kernel
theorem own_d_om_30 : decode jdk_2316_method_6_code 30 = .ok (.iload 4, 2) := by decide +kernel
theorem own_d_om_32 : decode jdk_2316_method_6_code 32 = .ok (.ldc 30, 2) := by decide +kernel
theorem own_d_om_34 : decode jdk_2316_method_6_code 34 = .ok (.imul, 1) := by decide +kernel
theorem own_d_om_35 : decode jdk_2316_method_6_code 35 = .ok (.invokestatic 10, 3) := by decide +kernel
theorem own_d_om_38 : decode jdk_2316_method_6_code 38 = .ok (.areturn, 1) := by decide +kernel
theorem own_ef_om (m : MethodId) (q : Int64) : entryFrame m #[(.long q)] 5 = mkF m 0 #[.val (.long q), .second, .unset, .unset, .unset] [] := by first | (simp [entryFrame, mkF, argsToLocals, Value.category]; done) | rfl
def own_Q_om (Z : State) (q : Int64) (zz : Addr) (h0 : Heap) (n0 : Nat) (v : Option Value) (h : Heap) (L : List Loc) : Prop := ∃ (x : Addr) (s2 : Int64) (n2 : Int32), v = some (.ref x) ∧ Fr n0 L ∧ Keep h0 h [] ∧ Exa Z h x "java/time/Duration" ∧ Fld Z h x "java/time/Duration" "seconds" "J" (.long s2) ∧ Fld Z h x "java/time/Duration" "nanos" "I" (.int n2) ∧ s2.toInt = q.toInt / 1000 ∧ n2.toInt = (q.toInt % 1000) * 1000000
set_option maxRecDepth 65536 in
set_option maxHeartbeats 40000000 in
theorem own_rm_om (l : Launch) (Z : State) (a0 : Array Value) (hw : ∀ d ∈ tables_1, d.before a0 Z = true) (ws : List Jvm.Cond) (q : Int64) (zz : Addr) (h0 : Heap) (n0 : Nat) (Z0 : n0 ≤ h0.size) (S_Z : Sta Z h0 "java/time/Duration" "ZERO" "Ljava/time/Duration;" (.ref zz)) (E_Z : Exa Z h0 zz "java/time/Duration") (Fz_s : Fld Z h0 zz "java/time/Duration" "seconds" "J" (.long (0 : Int64))) (Fz_n : Fld Z h0 zz "java/time/Duration" "nanos" "I" (.int (0 : Int32))) (hq : 0 ≤ q.toInt) :
    MetFree l (⟨"java/time/Duration", "ofMillis", "(J)Ljava/time/Duration;"⟩ : MethodName) (head1 (Jvm.Cond.code (⟨"java/time/Duration", "ofMillis", "(J)Ljava/time/Duration;"⟩ : MethodName) jdk_2316_method_6_code 5 (some (.object "java/time/Duration")) :: ws) ({ frames := 3, cells := 1, slots := 2, locals := 42 } : Room)) (fun a_ U_ => a_ = #[(.long q)] ∧ Z.Warmed39 U_.vm ∧ U_.heap = h0) (fun _ _ _ _ _ => True) (fun _ U_ o_ U'_ => ∃ v_ L_, o_ = .returned v_ ∧ own_Q_om Z q zz h0 n0 v_ U'_.heap L_ ∧ FrameEnd U_ o_ U'_ L_ ({ frames := 3, cells := 1, slots := 2, locals := 42 } : Room).cells ({ frames := 3, cells := 1, slots := 2, locals := 42 } : Room).slots) := by
  refine MetFree.of_bodySF (plainFor_of_name own_pn_java_time_Duration) hisR ?_
  intro p e s m args below meth c s₁ Bd hml0 hP hK
  obtain ⟨rfl, hZ, hh⟩ := hP
  have hx := Bd.exec
  have hby := Bd.bytes
  have hlk : meth.locks = false := BodyLoose.notSynchronized Bd
  have hml : c.maxLocals = 5 := hml0
  have hown : s.vm.findClass "java/time/Duration" = some m.cls := findClass_of_methodNamed Bd.named
  have hnm := (name_of_methodNamed Bd.named Bd.method).1
  have X0 : Stand p l e ({ frames := 3, cells := 1, slots := 2, locals := 42 } : Room) s m #[(.long q)] below meth c s₁ [] 0 0 := Stand.of_body Bd
  have e0 : s₁.heap = h0 := by rw [← hh, Bd.state]; rfl
  have N0 := Fr.nil n0
  show own_Goes p e below (own_K (own_Q_om Z q zz h0 n0) s ({ frames := 3, cells := 1, slots := 2, locals := 42 } : Room).cells ({ frames := 3, cells := 1, slots := 2, locals := 42 } : Room).slots) s₁ (entryFrame m #[(.long q)] 5)
  rw [own_ef_om]
  have K0 := Keep.refl h0 []
  refine own_by (T' := s₁) (g' := (mkF m 1 #[.val (.long q), .second, .unset, .unset, .unset] [(.long q)])) (fun t_ k_ => XS.lloadN X0.here hx rfl (hb hby own_d_om_0) rfl k_) ?_
  refine own_by (T' := s₁) (g' := (mkF m 4 #[.val (.long q), .second, .unset, .unset, .unset] [(.long (1000 : Int64)), (.long q)])) (fun t_ k_ => X0.ldc2Long hx hown (mvT hZ (hw _ (List.mem_of_getElem? (i := 29) rfl))) (g := (mkF m 1 #[.val (.long q), .second, .unset, .unset, .unset] [(.long q)])) rfl (hb hby own_d_om_1) _ k_) ?_
  refine own_by (T' := s₁) (g' := (mkF m 5 #[.val (.long q), .second, .unset, .unset, .unset] [(.long (q / (1000 : Int64)))])) (fun t_ k_ => XS.ldiv X0.here hx rfl (hb hby own_d_om_4) rfl (by decide) k_) ?_
  refine own_by (T' := s₁) (g' := (mkF m 6 #[.val (.long q), .second, .val (.long (q / (1000 : Int64))), .second, .unset] [])) (fun t_ k_ => XS.lstoreN X0.here hx rfl (hb hby own_d_om_5) rfl (l' := #[.val (.long q), .second, .val (.long (q / (1000 : Int64))), .second, .unset]) rfl k_) ?_
  refine own_by (T' := s₁) (g' := (mkF m 7 #[.val (.long q), .second, .val (.long (q / (1000 : Int64))), .second, .unset] [(.long q)])) (fun t_ k_ => XS.lloadN X0.here hx rfl (hb hby own_d_om_6) rfl k_) ?_
  refine own_by (T' := s₁) (g' := (mkF m 10 #[.val (.long q), .second, .val (.long (q / (1000 : Int64))), .second, .unset] [(.long (1000 : Int64)), (.long q)])) (fun t_ k_ => X0.ldc2Long hx hown (mvT hZ (hw _ (List.mem_of_getElem? (i := 29) rfl))) (g := (mkF m 7 #[.val (.long q), .second, .val (.long (q / (1000 : Int64))), .second, .unset] [(.long q)])) rfl (hb hby own_d_om_7) _ k_) ?_
  refine own_by (T' := s₁) (g' := (mkF m 11 #[.val (.long q), .second, .val (.long (q / (1000 : Int64))), .second, .unset] [(.long (q % (1000 : Int64)))])) (fun t_ k_ => own_lrem X0 hx rfl (hb hby own_d_om_10) rfl (by decide) k_) ?_
  refine own_by (T' := s₁) (g' := (mkF m 12 #[.val (.long q), .second, .val (.long (q / (1000 : Int64))), .second, .unset] [(.int (q % (1000 : Int64)).toInt32)])) (fun t_ k_ => XS.l2i X0.here hx rfl (hb hby own_d_om_11) rfl k_) ?_
  refine own_by (T' := s₁) (g' := (mkF m 14 #[.val (.long q), .second, .val (.long (q / (1000 : Int64))), .second, .val (.int (q % (1000 : Int64)).toInt32)] [])) (fun t_ k_ => XS.istore X0.here hx rfl (hb hby own_d_om_12) rfl (l' := #[.val (.long q), .second, .val (.long (q / (1000 : Int64))), .second, .val (.int (q % (1000 : Int64)).toInt32)]) rfl k_) ?_
  refine own_by (T' := s₁) (g' := (mkF m 16 #[.val (.long q), .second, .val (.long (q / (1000 : Int64))), .second, .val (.int (q % (1000 : Int64)).toInt32)] [(.int (q % (1000 : Int64)).toInt32)])) (fun t_ k_ => XS.iload X0.here hx rfl (hb hby own_d_om_14) rfl k_) ?_
  refine own_by (T' := s₁) (g' := (mkF m 29 #[.val (.long q), .second, .val (.long (q / (1000 : Int64))), .second, .val (.int (q % (1000 : Int64)).toInt32)] [])) (fun t_ k_ => XS.ifYes X0.here hx rfl (pc0 := 16) (pc' := 29) rfl (hb hby own_d_om_16) rfl ((if0 _ _).trans (flt ((own_om0 q hq) : ¬ ((q % (1000 : Int64)).toInt32 < (0 : Int32)))).2.1) (by decide) (by decide) k_) ?_
  refine own_by (T' := s₁) (g' := (mkF m 30 #[.val (.long q), .second, .val (.long (q / (1000 : Int64))), .second, .val (.int (q % (1000 : Int64)).toInt32)] [(.long (q / (1000 : Int64)))])) (fun t_ k_ => XS.lloadN X0.here hx rfl (hb hby own_d_om_29) rfl k_) ?_
  refine own_by (T' := s₁) (g' := (mkF m 32 #[.val (.long q), .second, .val (.long (q / (1000 : Int64))), .second, .val (.int (q % (1000 : Int64)).toInt32)] [(.int (q % (1000 : Int64)).toInt32), (.long (q / (1000 : Int64)))])) (fun t_ k_ => XS.iload X0.here hx rfl (hb hby own_d_om_30) rfl k_) ?_
  refine own_by (T' := s₁) (g' := (mkF m 34 #[.val (.long q), .second, .val (.long (q / (1000 : Int64))), .second, .val (.int (q % (1000 : Int64)).toInt32)] [(.int (1000000 : Int32)), (.int (q % (1000 : Int64)).toInt32), (.long (q / (1000 : Int64)))])) (fun t_ k_ => X0.ldcInt hx hown (mvT hZ (hw _ (List.mem_of_getElem? (i := 30) rfl))) (g := (mkF m 32 #[.val (.long q), .second, .val (.long (q / (1000 : Int64))), .second, .val (.int (q % (1000 : Int64)).toInt32)] [(.int (q % (1000 : Int64)).toInt32), (.long (q / (1000 : Int64)))])) rfl (hb hby own_d_om_32) _ k_) ?_
  refine own_by (T' := s₁) (g' := (mkF m 35 #[.val (.long q), .second, .val (.long (q / (1000 : Int64))), .second, .val (.int (q % (1000 : Int64)).toInt32)] [(.int ((q % (1000 : Int64)).toInt32 * (1000000 : Int32))), (.long (q / (1000 : Int64)))])) (fun t_ k_ => XS.imul X0.here hx rfl (hb hby own_d_om_34) rfl k_) ?_
  obtain ⟨_, T1, L1, X1, hQ1, st1⟩ := own_callS X0 hx hZ (y := (⟨"java/time/Duration", "create", "(JI)Ljava/time/Duration;"⟩ : MethodName)) hown (hw _ (List.mem_of_getElem? (i := 31) rfl)) (hw _ (List.mem_of_getElem? (i := 32) rfl)) (hw _ (List.mem_of_getElem? (i := 27) rfl)) (hw _ (List.mem_of_getElem? (i := 33) rfl)) (by decide) (argsL := [(.long (q / (1000 : Int64))), (.int ((q % (1000 : Int64)).toInt32 * (1000000 : Int32)))]) (rest := []) (own_rm_cr l Z a0 hw [] (q / (1000 : Int64)) (((q % (1000 : Int64)).toInt32 * (1000000 : Int32))) zz h0 n0 Z0 S_Z E_Z Fz_s Fz_n ) e0 (W := 0) (by decide) (by decide) (by decide) (by decide) (g := (mkF m 35 #[.val (.long q), .second, .val (.long (q / (1000 : Int64))), .second, .val (.int (q % (1000 : Int64)).toInt32)] [(.int ((q % (1000 : Int64)).toInt32 * (1000000 : Int32))), (.long (q / (1000 : Int64)))])) rfl (by rw [hml]; rfl) (lenOf own_pd2 rfl) rfl (by show 2 * 0 + _ ≤ _; exact Nat.le_of_eq rfl) (hb hby own_d_om_35)
  obtain ⟨x1, s1, n1, rfl, Nq1, Kq1, Eq1, Fs1, Fn1, q1⟩ := hQ1
  have N1 := Fr.app N0 Nq1
  have f2 := own_Sta_keep S_Z Kq1 all0
  have f3 := Nat.le_trans Z0 Kq1.1
  have f4 := Exa.keep E_Z Kq1
  have f5 := Fld.keep Fz_s Kq1 nin0
  have f6 := Fld.keep Fz_n Kq1 nin0
  have f7 := Keep.trans K0 Kq1 all0
  refine st1 _ ?_
  show own_Goes p e below _ T1 (mkF m 38 #[.val (.long q), .second, .val (.long (q / (1000 : Int64))), .second, .val (.int (q % (1000 : Int64)).toInt32)] [(.ref x1)])
  refine own_retR X1 hx Bd.returns hlk rfl rfl (hb hby own_d_om_38) (by decide) (by decide) ?_
  exact ⟨x1, _, _, rfl, N1, f7, Eq1, Fs1, Fn1, own_om q _ _ hq q1⟩
theorem own_pd3 : parseMethodDescriptor "(JJ)J" = some ⟨[.long, .long], some .long⟩ := by decide +kernel
theorem own_d_os_0 : decode jdk_2316_method_5_code 0 = .ok (.lload_n 0, 1) := by decide +kernel
theorem own_d_os_1 : decode jdk_2316_method_5_code 1 = .ok (.lload_n 2, 1) := by decide +kernel
theorem own_d_os_2 : decode jdk_2316_method_5_code 2 = .ok (.ldc2_w 16, 3) := by decide +kernel
theorem own_d_os_5 : decode jdk_2316_method_5_code 5 = .ok (.invokestatic 18, 3) := by decide +kernel
theorem own_d_os_8 : decode jdk_2316_method_5_code 8 = .ok (.invokestatic 22, 3) := by decide +kernel
theorem own_d_os_11 : decode jdk_2316_method_5_code 11 = .ok (.lstore 4, 2) := by decide +kernel
theorem own_d_os_13 : decode jdk_2316_method_5_code 13 = .ok (.lload_n 2, 1) := by decide +kernel
theorem own_d_os_14 : decode jdk_2316_method_5_code 14 = .ok (.ldc2_w 16, 3) := by decide +kernel
theorem own_d_os_17 : decode jdk_2316_method_5_code 17 = .ok (.invokestatic 25, 3) := by decide +kernel
theorem own_d_os_20 : decode jdk_2316_method_5_code 20 = .ok (.l2i, 1) := by decide +kernel
theorem own_d_os_21 : decode jdk_2316_method_5_code 21 = .ok (.istore 6, 2) := by decide +kernel
theorem own_d_os_23 : decode jdk_2316_method_5_code 23 = .ok (.lload 4, 2) := by decide +kernel
theorem own_d_os_25 : decode jdk_2316_method_5_code 25 = .ok (.iload 6, 2) := by decide +kernel
theorem own_d_os_27 : decode jdk_2316_method_5_code 27 = .ok (.invokestatic 10, 3) := by decide +kernel
theorem own_d_os_30 : decode jdk_2316_method_5_code 30 = .ok (.areturn, 1) := by decide +kernel
theorem own_ef_os (m : MethodId) (sc : Int64) (na : Int64) : entryFrame m #[(.long sc), (.long na)] 7 = mkF m 0 #[.val (.long sc), .second, .val (.long na), .second, .unset, .unset, .unset] [] := by first | (simp [entryFrame, mkF, argsToLocals, Value.category]; done) | rfl
def own_Q_os (Z : State) (sc : Int64) (na : Int64) (zz : Addr) (h0 : Heap) (n0 : Nat) (v : Option Value) (h : Heap) (L : List Loc) : Prop := ∃ (x : Addr) (s2 : Int64) (n2 : Int32), v = some (.ref x) ∧ Fr n0 L ∧ Keep h0 h [] ∧ Exa Z h x "java/time/Duration" ∧ Fld Z h x "java/time/Duration" "seconds" "J" (.long s2) ∧ Fld Z h x "java/time/Duration" "nanos" "I" (.int n2) ∧ s2.toInt = sc.toInt ∧ n2.toInt = na.toInt
set_option maxRecDepth 65536 in
set_option maxHeartbeats 40000000 in
theorem own_rm_os (l : Launch) (Z : State) (a0 : Array Value) (hw : ∀ d ∈ tables_1, d.before a0 Z = true) (ws : List Jvm.Cond) (sc : Int64) (na : Int64) (zz : Addr) (h0 : Heap) (n0 : Nat) (Z0 : n0 ≤ h0.size) (S_Z : Sta Z h0 "java/time/Duration" "ZERO" "Ljava/time/Duration;" (.ref zz)) (E_Z : Exa Z h0 zz "java/time/Duration") (Fz_s : Fld Z h0 zz "java/time/Duration" "seconds" "J" (.long (0 : Int64))) (Fz_n : Fld Z h0 zz "java/time/Duration" "nanos" "I" (.int (0 : Int32))) (hs : 0 ≤ sc.toInt) (hn1 : 0 ≤ na.toInt) (hn2 : na.toInt < 1000000000) :
    MetFree l (⟨"java/time/Duration", "ofSeconds", "(JJ)Ljava/time/Duration;"⟩ : MethodName) (head1 (Jvm.Cond.code (⟨"java/time/Duration", "ofSeconds", "(JJ)Ljava/time/Duration;"⟩ : MethodName) jdk_2316_method_5_code 7 (some (.object "java/time/Duration")) :: ws) ({ frames := 3, cells := 1, slots := 2, locals := 42 } : Room)) (fun a_ U_ => a_ = #[(.long sc), (.long na)] ∧ Z.Warmed39 U_.vm ∧ U_.heap = h0) (fun _ _ _ _ _ => True) (fun _ U_ o_ U'_ => ∃ v_ L_, o_ = .returned v_ ∧ own_Q_os Z sc na zz h0 n0 v_ U'_.heap L_ ∧ FrameEnd U_ o_ U'_ L_ ({ frames := 3, cells := 1, slots := 2, locals := 42 } : Room).cells ({ frames := 3, cells := 1, slots := 2, locals := 42 } : Room).slots) := by
  refine MetFree.of_bodySF (plainFor_of_name own_pn_java_time_Duration) hisR ?_
  intro p e s m args below meth c s₁ Bd hml0 hP hK
  obtain ⟨rfl, hZ, hh⟩ := hP
  have hx := Bd.exec
  have hby := Bd.bytes
  have hlk : meth.locks = false := BodyLoose.notSynchronized Bd
  have hml : c.maxLocals = 7 := hml0
  have hown : s.vm.findClass "java/time/Duration" = some m.cls := findClass_of_methodNamed Bd.named
  have hnm := (name_of_methodNamed Bd.named Bd.method).1
  have X0 : Stand p l e ({ frames := 3, cells := 1, slots := 2, locals := 42 } : Room) s m #[(.long sc), (.long na)] below meth c s₁ [] 0 0 := Stand.of_body Bd
  have e0 : s₁.heap = h0 := by rw [← hh, Bd.state]; rfl
  have N0 := Fr.nil n0
  show own_Goes p e below (own_K (own_Q_os Z sc na zz h0 n0) s ({ frames := 3, cells := 1, slots := 2, locals := 42 } : Room).cells ({ frames := 3, cells := 1, slots := 2, locals := 42 } : Room).slots) s₁ (entryFrame m #[(.long sc), (.long na)] 7)
  rw [own_ef_os]
  have K0 := Keep.refl h0 []
  refine own_by (T' := s₁) (g' := (mkF m 1 #[.val (.long sc), .second, .val (.long na), .second, .unset, .unset, .unset] [(.long sc)])) (fun t_ k_ => XS.lloadN X0.here hx rfl (hb hby own_d_os_0) rfl k_) ?_
  refine own_by (T' := s₁) (g' := (mkF m 2 #[.val (.long sc), .second, .val (.long na), .second, .unset, .unset, .unset] [(.long na), (.long sc)])) (fun t_ k_ => XS.lloadN X0.here hx rfl (hb hby own_d_os_1) rfl k_) ?_
  refine own_by (T' := s₁) (g' := (mkF m 5 #[.val (.long sc), .second, .val (.long na), .second, .unset, .unset, .unset] [(.long (1000000000 : Int64)), (.long na), (.long sc)])) (fun t_ k_ => X0.ldc2Long hx hown (mvT hZ (hw _ (List.mem_of_getElem? (i := 74) rfl))) (g := (mkF m 2 #[.val (.long sc), .second, .val (.long na), .second, .unset, .unset, .unset] [(.long na), (.long sc)])) rfl (hb hby own_d_os_2) _ k_) ?_
  obtain ⟨_, T1, L1, X1, hQ1, st1⟩ := own_callS X0 hx hZ (y := (⟨"java/lang/Math", "floorDiv", "(JJ)J"⟩ : MethodName)) hown (hw _ (List.mem_of_getElem? (i := 78) rfl)) (hw _ (List.mem_of_getElem? (i := 79) rfl)) (hw _ (List.mem_of_getElem? (i := 72) rfl)) (hw _ (List.mem_of_getElem? (i := 80) rfl)) (by decide) (argsL := [(.long na), (.long (1000000000 : Int64))]) (rest := [(.long sc)]) (own_rm_fdv l Z a0 hw [] na h0 n0 Z0 (own_xs na hn1)) e0 (W := 2) (by decide) (by decide) (by decide) (by decide) (g := (mkF m 5 #[.val (.long sc), .second, .val (.long na), .second, .unset, .unset, .unset] [(.long (1000000000 : Int64)), (.long na), (.long sc)])) rfl (by rw [hml]; rfl) (lenOf own_pd3 rfl) rfl (by show 2 * 0 + _ ≤ _; exact Nat.le_of_eq rfl) (hb hby own_d_os_5)
  obtain ⟨rfl, Nq1, e1⟩ := hQ1
  have N1 := Fr.app N0 Nq1
  refine st1 _ ?_
  show own_Goes p e below _ T1 (mkF m 8 #[.val (.long sc), .second, .val (.long na), .second, .unset, .unset, .unset] [(.long (na / (1000000000 : Int64))), (.long sc)])
  obtain ⟨_, T2, L2, X2, hQ2, st2⟩ := own_callS X1 hx hZ (y := (⟨"java/lang/Math", "addExact", "(JJ)J"⟩ : MethodName)) hown (hw _ (List.mem_of_getElem? (i := 70) rfl)) (hw _ (List.mem_of_getElem? (i := 71) rfl)) (hw _ (List.mem_of_getElem? (i := 72) rfl)) (hw _ (List.mem_of_getElem? (i := 73) rfl)) (by decide) (argsL := [(.long sc), (.long (na / (1000000000 : Int64)))]) (rest := []) (own_rm_addx l Z a0 hw [] sc (na / (1000000000 : Int64)) h0 n0 Z0 (own_ad0 sc na hs hn1 hn2)) e1 (W := 0) (by decide) (by decide) (by decide) (by decide) (g := (mkF m 8 #[.val (.long sc), .second, .val (.long na), .second, .unset, .unset, .unset] [(.long (na / (1000000000 : Int64))), (.long sc)])) rfl (by rw [hml]; rfl) (lenOf own_pd3 rfl) rfl (by show 2 * 0 + _ ≤ _; exact Nat.le_of_eq rfl) (hb hby own_d_os_8)
  obtain ⟨rfl, Nq2, e2⟩ := hQ2
  have N2 := Fr.app N1 Nq2
  refine st2 _ ?_
  show own_Goes p e below _ T2 (mkF m 11 #[.val (.long sc), .second, .val (.long na), .second, .unset, .unset, .unset] [(.long (sc + (na / (1000000000 : Int64))))])
  refine own_by (T' := T2) (g' := (mkF m 13 #[.val (.long sc), .second, .val (.long na), .second, .val (.long (sc + (na / (1000000000 : Int64)))), .second, .unset] [])) (fun t_ k_ => XS.lstore X2.here hx rfl (hb hby own_d_os_11) rfl (l' := #[.val (.long sc), .second, .val (.long na), .second, .val (.long (sc + (na / (1000000000 : Int64)))), .second, .unset]) rfl k_) ?_
  refine own_by (T' := T2) (g' := (mkF m 14 #[.val (.long sc), .second, .val (.long na), .second, .val (.long (sc + (na / (1000000000 : Int64)))), .second, .unset] [(.long na)])) (fun t_ k_ => XS.lloadN X2.here hx rfl (hb hby own_d_os_13) rfl k_) ?_
  refine own_by (T' := T2) (g' := (mkF m 17 #[.val (.long sc), .second, .val (.long na), .second, .val (.long (sc + (na / (1000000000 : Int64)))), .second, .unset] [(.long (1000000000 : Int64)), (.long na)])) (fun t_ k_ => X2.ldc2Long hx hown (mvT hZ (hw _ (List.mem_of_getElem? (i := 74) rfl))) (g := (mkF m 14 #[.val (.long sc), .second, .val (.long na), .second, .val (.long (sc + (na / (1000000000 : Int64)))), .second, .unset] [(.long na)])) rfl (hb hby own_d_os_14) _ k_) ?_
  obtain ⟨_, T3, L3, X3, hQ3, st3⟩ := own_callS X2 hx hZ (y := (⟨"java/lang/Math", "floorMod", "(JJ)J"⟩ : MethodName)) hown (hw _ (List.mem_of_getElem? (i := 81) rfl)) (hw _ (List.mem_of_getElem? (i := 82) rfl)) (hw _ (List.mem_of_getElem? (i := 72) rfl)) (hw _ (List.mem_of_getElem? (i := 83) rfl)) (by decide) (argsL := [(.long na), (.long (1000000000 : Int64))]) (rest := []) (own_rm_fmd l Z a0 hw [] na h0 n0 Z0 (own_xs na hn1)) e2 (W := 0) (by decide) (by decide) (by decide) (by decide) (g := (mkF m 17 #[.val (.long sc), .second, .val (.long na), .second, .val (.long (sc + (na / (1000000000 : Int64)))), .second, .unset] [(.long (1000000000 : Int64)), (.long na)])) rfl (by rw [hml]; rfl) (lenOf own_pd3 rfl) rfl (by show 2 * 0 + _ ≤ _; exact Nat.le_of_eq rfl) (hb hby own_d_os_17)
  obtain ⟨rfl, Nq3, e3⟩ := hQ3
  have N3 := Fr.app N2 Nq3
  refine st3 _ ?_
  show own_Goes p e below _ T3 (mkF m 20 #[.val (.long sc), .second, .val (.long na), .second, .val (.long (sc + (na / (1000000000 : Int64)))), .second, .unset] [(.long (na % (1000000000 : Int64)))])
  refine own_by (T' := T3) (g' := (mkF m 21 #[.val (.long sc), .second, .val (.long na), .second, .val (.long (sc + (na / (1000000000 : Int64)))), .second, .unset] [(.int (na % (1000000000 : Int64)).toInt32)])) (fun t_ k_ => XS.l2i X3.here hx rfl (hb hby own_d_os_20) rfl k_) ?_
  refine own_by (T' := T3) (g' := (mkF m 23 #[.val (.long sc), .second, .val (.long na), .second, .val (.long (sc + (na / (1000000000 : Int64)))), .second, .val (.int (na % (1000000000 : Int64)).toInt32)] [])) (fun t_ k_ => XS.istore X3.here hx rfl (hb hby own_d_os_21) rfl (l' := #[.val (.long sc), .second, .val (.long na), .second, .val (.long (sc + (na / (1000000000 : Int64)))), .second, .val (.int (na % (1000000000 : Int64)).toInt32)]) rfl k_) ?_
  refine own_by (T' := T3) (g' := (mkF m 25 #[.val (.long sc), .second, .val (.long na), .second, .val (.long (sc + (na / (1000000000 : Int64)))), .second, .val (.int (na % (1000000000 : Int64)).toInt32)] [(.long (sc + (na / (1000000000 : Int64))))])) (fun t_ k_ => XS.lload X3.here hx rfl (hb hby own_d_os_23) rfl k_) ?_
  refine own_by (T' := T3) (g' := (mkF m 27 #[.val (.long sc), .second, .val (.long na), .second, .val (.long (sc + (na / (1000000000 : Int64)))), .second, .val (.int (na % (1000000000 : Int64)).toInt32)] [(.int (na % (1000000000 : Int64)).toInt32), (.long (sc + (na / (1000000000 : Int64))))])) (fun t_ k_ => XS.iload X3.here hx rfl (hb hby own_d_os_25) rfl k_) ?_
  obtain ⟨_, T4, L4, X4, hQ4, st4⟩ := own_callS X3 hx hZ (y := (⟨"java/time/Duration", "create", "(JI)Ljava/time/Duration;"⟩ : MethodName)) hown (hw _ (List.mem_of_getElem? (i := 31) rfl)) (hw _ (List.mem_of_getElem? (i := 32) rfl)) (hw _ (List.mem_of_getElem? (i := 27) rfl)) (hw _ (List.mem_of_getElem? (i := 33) rfl)) (by decide) (argsL := [(.long (sc + (na / (1000000000 : Int64)))), (.int (na % (1000000000 : Int64)).toInt32)]) (rest := []) (own_rm_cr l Z a0 hw [] (sc + (na / (1000000000 : Int64))) ((na % (1000000000 : Int64)).toInt32) zz h0 n0 Z0 S_Z E_Z Fz_s Fz_n ) e3 (W := 0) (by decide) (by decide) (by decide) (by decide) (g := (mkF m 27 #[.val (.long sc), .second, .val (.long na), .second, .val (.long (sc + (na / (1000000000 : Int64)))), .second, .val (.int (na % (1000000000 : Int64)).toInt32)] [(.int (na % (1000000000 : Int64)).toInt32), (.long (sc + (na / (1000000000 : Int64))))])) rfl (by rw [hml]; rfl) (lenOf own_pd2 rfl) rfl (by show 2 * 0 + _ ≤ _; exact Nat.le_of_eq rfl) (hb hby own_d_os_27)
  obtain ⟨x4, s4, n4, rfl, Nq4, Kq4, Eq4, Fs4, Fn4, q4⟩ := hQ4
  have N4 := Fr.app N3 Nq4
  have f5 := own_Sta_keep S_Z Kq4 all0
  have f6 := Nat.le_trans Z0 Kq4.1
  have f7 := Exa.keep E_Z Kq4
  have f8 := Fld.keep Fz_s Kq4 nin0
  have f9 := Fld.keep Fz_n Kq4 nin0
  have f10 := Keep.trans K0 Kq4 all0
  refine st4 _ ?_
  show own_Goes p e below _ T4 (mkF m 30 #[.val (.long sc), .second, .val (.long na), .second, .val (.long (sc + (na / (1000000000 : Int64)))), .second, .val (.int (na % (1000000000 : Int64)).toInt32)] [(.ref x4)])
  refine own_retR X4 hx Bd.returns hlk rfl rfl (hb hby own_d_os_30) (by decide) (by decide) ?_
  exact ⟨x4, _, _, rfl, N4, f10, Eq4, Fs4, Fn4, own_os sc na _ _ hs hn1 hn2 q4⟩
theorem own_pd4 : parseMethodDescriptor "(JJ)Ljava/time/Duration;" = some ⟨[.long, .long], some (.object "java/time/Duration")⟩ := by decide +kernel
theorem own_d_pl_0 : decode jdk_2316_method_35_code 0 = .ok (.lload_n 1, 1) := by decide +kernel
theorem own_d_pl_1 : decode jdk_2316_method_35_code 1 = .ok (.lload_n 3, 1) := by decide +kernel
theorem own_d_pl_2 : decode jdk_2316_method_35_code 2 = .ok (.lor, 1) := by decide +kernel
theorem own_d_pl_3 : decode jdk_2316_method_35_code 3 = .ok (.lconst 0, 1) := by decide +kernel
theorem own_d_pl_4 : decode jdk_2316_method_35_code 4 = .ok (.lcmp, 1) := by decide +kernel
theorem own_d_pl_5 : decode jdk_2316_method_35_code 5 = .ok (.ifCond .ne 5, 3) := by decide +kernel
theorem own_d_pl_8 : decode jdk_2316_method_35_code 8 = .ok (.aload_n 0, 1) := by decide +kernel
theorem own_d_pl_9 : decode jdk_2316_method_35_code 9 = .ok (.areturn, 1) := by decide +kernel
theorem own_d_pl_10 : decode jdk_2316_method_35_code 10 = .ok (.aload_n 0, 1) := by decide +kernel
theorem own_d_pl_11 : decode jdk_2316_method_35_code 11 = .ok (.getfield 221, 3) := by decide +kernel
theorem own_d_pl_14 : decode jdk_2316_method_35_code 14 = .ok (.lload_n 1, 1) := by decide +kernel
theorem own_d_pl_15 : decode jdk_2316_method_35_code 15 = .ok (.invokestatic 22, 3) := by decide +kernel
theorem own_d_pl_18 : decode jdk_2316_method_35_code 18 = .ok (.lstore 5, 2) := by decide +kernel
theorem own_d_pl_20 : decode jdk_2316_method_35_code 20 = .ok (.lload 5, 2) := by decide +kernel
theorem own_d_pl_22 : decode jdk_2316_method_35_code 22 = .ok (.lload_n 3, 1) := by decide +kernel
theorem own_d_pl_23 : decode jdk_2316_method_35_code 23 = .ok (.ldc2_w 16, 3) := by decide +kernel
theorem own_d_pl_26 : decode jdk_2316_method_35_code 26 = .ok (.ldiv, 1) := by decide +kernel
theorem own_d_pl_27 : decode jdk_2316_method_35_code 27 = .ok (.invokestatic 22, 3) := by decide +kernel
theorem own_d_pl_30 : decode jdk_2316_method_35_code 30 = .ok (.lstore 5, 2) := by decide +kernel
theorem own_d_pl_32 : decode jdk_2316_method_35_code 32 = .ok (.lload_n 3, 1) := by decide +kernel
theorem own_d_pl_33 : decode jdk_2316_method_35_code 33 = .ok (.ldc2_w 16, 3) := by decide +kernel
theorem own_d_pl_36 : decode jdk_2316_method_35_code 36 = .ok (.lrem, 1) := by decide +kernel
theorem own_d_pl_37 : decode jdk_2316_method_35_code 37 = .ok (.lstore_n 3, 1) := by decide +kernel
theorem own_d_pl_38 : decode jdk_2316_method_35_code 38 = .ok (.aload_n 0, 1) := by decide +kernel
theorem own_d_pl_39 : decode jdk_2316_method_35_code 39 = .ok (.getfield 224, 3) := by decide +kernel
theorem own_d_pl_42 : decode jdk_2316_method_35_code 42 = .ok (.i2l, 1) := by decide +kernel
theorem own_d_pl_43 : decode jdk_2316_method_35_code 43 = .ok (.lload_n 3, 1) := by decide +kernel
theorem own_d_pl_44 : decode jdk_2316_method_35_code 44 = .ok (.ladd, 1) := by decide +kernel
theorem own_d_pl_45 : decode jdk_2316_method_35_code 45 = .ok (.lstore 7, 2) := by decide +kernel
theorem own_d_pl_47 : decode jdk_2316_method_35_code 47 = .ok (.lload 5, 2) := by decide +kernel
theorem own_d_pl_49 : decode jdk_2316_method_35_code 49 = .ok (.lload 7, 2) := by decide +kernel
theorem own_d_pl_51 : decode jdk_2316_method_35_code 51 = .ok (.invokestatic 176, 3) := by decide +kernel
theorem own_d_pl_54 : decode jdk_2316_method_35_code 54 = .ok (.areturn, 1) := by decide +kernel
theorem own_ef_pl (m : MethodId) (a : Addr) (nn : Int64) : entryFrame m #[(.ref a), (.long (0 : Int64)), (.long nn)] 9 = mkF m 0 #[.val (.ref a), .val (.long (0 : Int64)), .second, .val (.long nn), .second, .unset, .unset, .unset, .unset] [] := by first | (simp [entryFrame, mkF, argsToLocals, Value.category]; done) | rfl
def own_Q_pl (Z : State) (a : Addr) (nn : Int64) (zz : Addr) (sc : Int64) (nv : Int32) (h0 : Heap) (n0 : Nat) (v : Option Value) (h : Heap) (L : List Loc) : Prop := ∃ (x : Addr) (s2 : Int64) (n2 : Int32), v = some (.ref x) ∧ Fr n0 L ∧ Keep h0 h [] ∧ Exa Z h x "java/time/Duration" ∧ Fld Z h x "java/time/Duration" "seconds" "J" (.long s2) ∧ Fld Z h x "java/time/Duration" "nanos" "I" (.int n2) ∧ s2.toInt = sc.toInt ∧ n2.toInt = nv.toInt + nn.toInt
set_option maxRecDepth 65536 in
set_option maxHeartbeats 40000000 in
theorem own_rm_pl (l : Launch) (Z : State) (a0 : Array Value) (hw : ∀ d ∈ tables_1, d.before a0 Z = true) (ws : List Jvm.Cond) (a : Addr) (nn : Int64) (zz : Addr) (sc : Int64) (nv : Int32) (h0 : Heap) (n0 : Nat) (Z0 : n0 ≤ h0.size) (S_Z : Sta Z h0 "java/time/Duration" "ZERO" "Ljava/time/Duration;" (.ref zz)) (E_Z : Exa Z h0 zz "java/time/Duration") (Fz_s : Fld Z h0 zz "java/time/Duration" "seconds" "J" (.long (0 : Int64))) (Fz_n : Fld Z h0 zz "java/time/Duration" "nanos" "I" (.int (0 : Int32))) (E_T : Exa Z h0 a "java/time/Duration") (Ft_s : Fld Z h0 a "java/time/Duration" "seconds" "J" (.long sc)) (Ft_n : Fld Z h0 a "java/time/Duration" "nanos" "I" (.int nv)) (hs : 0 ≤ sc.toInt) (hv1 : 0 ≤ nv.toInt) (hn1 : 0 ≤ nn.toInt) (hn2 : nn.toInt < 1000000000) (hvn : nv.toInt + nn.toInt < 1000000000) :
    MetFree l (⟨"java/time/Duration", "plus", "(JJ)Ljava/time/Duration;"⟩ : MethodName) (head1 (Jvm.Cond.code (⟨"java/time/Duration", "plus", "(JJ)Ljava/time/Duration;"⟩ : MethodName) jdk_2316_method_35_code 9 (some (.object "java/time/Duration")) :: ws) ({ frames := 4, cells := 1, slots := 2, locals := 60 } : Room)) (fun a_ U_ => a_ = #[(.ref a), (.long (0 : Int64)), (.long nn)] ∧ Z.Warmed39 U_.vm ∧ U_.heap = h0) (fun _ _ _ _ _ => True) (fun _ U_ o_ U'_ => ∃ v_ L_, o_ = .returned v_ ∧ own_Q_pl Z a nn zz sc nv h0 n0 v_ U'_.heap L_ ∧ FrameEnd U_ o_ U'_ L_ ({ frames := 4, cells := 1, slots := 2, locals := 60 } : Room).cells ({ frames := 4, cells := 1, slots := 2, locals := 60 } : Room).slots) := by
  refine MetFree.of_bodySF (plainFor_of_name own_pn_java_time_Duration) hisR ?_
  intro p e s m args below meth c s₁ Bd hml0 hP hK
  obtain ⟨rfl, hZ, hh⟩ := hP
  have hx := Bd.exec
  have hby := Bd.bytes
  have hlk : meth.locks = false := BodyLoose.notSynchronized Bd
  have hml : c.maxLocals = 9 := hml0
  have hown : s.vm.findClass "java/time/Duration" = some m.cls := findClass_of_methodNamed Bd.named
  have hnm := (name_of_methodNamed Bd.named Bd.method).1
  have X0 : Stand p l e ({ frames := 4, cells := 1, slots := 2, locals := 60 } : Room) s m #[(.ref a), (.long (0 : Int64)), (.long nn)] below meth c s₁ [] 0 0 := Stand.of_body Bd
  have e0 : s₁.heap = h0 := by rw [← hh, Bd.state]; rfl
  have N0 := Fr.nil n0
  show own_Goes p e below (own_K (own_Q_pl Z a nn zz sc nv h0 n0) s ({ frames := 4, cells := 1, slots := 2, locals := 60 } : Room).cells ({ frames := 4, cells := 1, slots := 2, locals := 60 } : Room).slots) s₁ (entryFrame m #[(.ref a), (.long (0 : Int64)), (.long nn)] 9)
  rw [own_ef_pl]
  have K0 := Keep.refl h0 []
  refine own_by (T' := s₁) (g' := (mkF m 1 #[.val (.ref a), .val (.long (0 : Int64)), .second, .val (.long nn), .second, .unset, .unset, .unset, .unset] [(.long (0 : Int64))])) (fun t_ k_ => XS.lloadN X0.here hx rfl (hb hby own_d_pl_0) rfl k_) ?_
  refine own_by (T' := s₁) (g' := (mkF m 2 #[.val (.ref a), .val (.long (0 : Int64)), .second, .val (.long nn), .second, .unset, .unset, .unset, .unset] [(.long nn), (.long (0 : Int64))])) (fun t_ k_ => XS.lloadN X0.here hx rfl (hb hby own_d_pl_1) rfl k_) ?_
  refine own_by (T' := s₁) (g' := (mkF m 3 #[.val (.ref a), .val (.long (0 : Int64)), .second, .val (.long nn), .second, .unset, .unset, .unset, .unset] [(.long ((0 : Int64) ||| nn))])) (fun t_ k_ => XS.lor X0.here hx rfl (hb hby own_d_pl_2) rfl k_) ?_
  refine own_by (T' := s₁) (g' := (mkF m 4 #[.val (.ref a), .val (.long (0 : Int64)), .second, .val (.long nn), .second, .unset, .unset, .unset, .unset] [(.long (0 : Int64)), (.long ((0 : Int64) ||| nn))])) (fun t_ k_ => XS.lconst X0.here hx rfl (hb hby own_d_pl_3) k_) ?_
  refine own_by (T' := s₁) (g' := (mkF m 5 #[.val (.ref a), .val (.long (0 : Int64)), .second, .val (.long nn), .second, .unset, .unset, .unset, .unset] [(.int (lcmpW ((0 : Int64) ||| nn) (0 : Int64)))])) (fun t_ k_ => XS.lcmp X0.here hx rfl (hb hby own_d_pl_4) rfl k_) ?_
  by_cases c5_1 : ((0 : Int64) ||| nn) = (0 : Int64)
  · skip
    refine own_by (T' := s₁) (g' := (mkF m 8 #[.val (.ref a), .val (.long (0 : Int64)), .second, .val (.long nn), .second, .unset, .unset, .unset, .unset] [])) (fun t_ k_ => XS.ifNo X0.here hx rfl (hb hby own_d_pl_5) rfl ((if0 _ _).trans (teq (((lw_eq _ _).mpr c5_1) : (lcmpW ((0 : Int64) ||| nn) (0 : Int64)) = (0 : Int32))).2) k_) ?_
    refine own_by (T' := s₁) (g' := (mkF m 9 #[.val (.ref a), .val (.long (0 : Int64)), .second, .val (.long nn), .second, .unset, .unset, .unset, .unset] [(.ref a)])) (fun t_ k_ => XS.aloadN X0.here hx rfl (hb hby own_d_pl_8) rfl rfl k_) ?_
    refine own_retR X0 hx Bd.returns hlk rfl rfl (hb hby own_d_pl_9) (by decide) (by decide) ?_
    rw [e0]
    exact ⟨a, _, _, rfl, N0, K0, E_T, Ft_s, Ft_n, rfl, own_nn0 nn nv c5_1⟩
  · skip
    refine own_by (T' := s₁) (g' := (mkF m 10 #[.val (.ref a), .val (.long (0 : Int64)), .second, .val (.long nn), .second, .unset, .unset, .unset, .unset] [])) (fun t_ k_ => XS.ifYes X0.here hx rfl (pc0 := 5) (pc' := 10) rfl (hb hby own_d_pl_5) rfl ((if0 _ _).trans (feq ((fun q_ => c5_1 ((lw_eq _ _).mp q_)) : ¬ ((lcmpW ((0 : Int64) ||| nn) (0 : Int64)) = (0 : Int32)))).2) (by decide) (by decide) k_) ?_
    refine own_by (T' := s₁) (g' := (mkF m 11 #[.val (.ref a), .val (.long (0 : Int64)), .second, .val (.long nn), .second, .unset, .unset, .unset, .unset] [(.ref a)])) (fun t_ k_ => XS.aloadN X0.here hx rfl (hb hby own_d_pl_10) rfl rfl k_) ?_
    obtain ⟨T2, X2, e2, st2⟩ := getF X0 hx hZ hown (host := "") (Or.inl (hw _ (List.mem_of_getElem? (i := 41) rfl))) Via.refl e0 Ft_s (g := (mkF m 11 #[.val (.ref a), .val (.long (0 : Int64)), .second, .val (.long nn), .second, .unset, .unset, .unset, .unset] [(.ref a)])) rfl rfl (hb hby own_d_pl_11)
    refine own_by (T' := T2) (g' := (mkF m 14 #[.val (.ref a), .val (.long (0 : Int64)), .second, .val (.long nn), .second, .unset, .unset, .unset, .unset] [(.long sc)])) st2 ?_
    refine own_by (T' := T2) (g' := (mkF m 15 #[.val (.ref a), .val (.long (0 : Int64)), .second, .val (.long nn), .second, .unset, .unset, .unset, .unset] [(.long (0 : Int64)), (.long sc)])) (fun t_ k_ => XS.lloadN X2.here hx rfl (hb hby own_d_pl_14) rfl k_) ?_
    obtain ⟨_, T3, L3, X3, hQ3, st3⟩ := own_callS X2 hx hZ (y := (⟨"java/lang/Math", "addExact", "(JJ)J"⟩ : MethodName)) hown (hw _ (List.mem_of_getElem? (i := 70) rfl)) (hw _ (List.mem_of_getElem? (i := 71) rfl)) (hw _ (List.mem_of_getElem? (i := 72) rfl)) (hw _ (List.mem_of_getElem? (i := 73) rfl)) (by decide) (argsL := [(.long sc), (.long (0 : Int64))]) (rest := []) (own_rm_addx l Z a0 hw [] sc (0 : Int64) h0 n0 Z0 (own_ad1 sc hs)) e2 (W := 0) (by decide) (by decide) (by decide) (by decide) (g := (mkF m 15 #[.val (.ref a), .val (.long (0 : Int64)), .second, .val (.long nn), .second, .unset, .unset, .unset, .unset] [(.long (0 : Int64)), (.long sc)])) rfl (by rw [hml]; rfl) (lenOf own_pd3 rfl) rfl (by show 2 * 0 + _ ≤ _; exact Nat.le_of_eq rfl) (hb hby own_d_pl_15)
    obtain ⟨rfl, Nq3, e3⟩ := hQ3
    have N3 := Fr.app N0 Nq3
    refine st3 _ ?_
    show own_Goes p e below _ T3 (mkF m 18 #[.val (.ref a), .val (.long (0 : Int64)), .second, .val (.long nn), .second, .unset, .unset, .unset, .unset] [(.long (sc + (0 : Int64)))])
    refine own_by (T' := T3) (g' := (mkF m 20 #[.val (.ref a), .val (.long (0 : Int64)), .second, .val (.long nn), .second, .val (.long (sc + (0 : Int64))), .second, .unset, .unset] [])) (fun t_ k_ => XS.lstore X3.here hx rfl (hb hby own_d_pl_18) rfl (l' := #[.val (.ref a), .val (.long (0 : Int64)), .second, .val (.long nn), .second, .val (.long (sc + (0 : Int64))), .second, .unset, .unset]) rfl k_) ?_
    refine own_by (T' := T3) (g' := (mkF m 22 #[.val (.ref a), .val (.long (0 : Int64)), .second, .val (.long nn), .second, .val (.long (sc + (0 : Int64))), .second, .unset, .unset] [(.long (sc + (0 : Int64)))])) (fun t_ k_ => XS.lload X3.here hx rfl (hb hby own_d_pl_20) rfl k_) ?_
    refine own_by (T' := T3) (g' := (mkF m 23 #[.val (.ref a), .val (.long (0 : Int64)), .second, .val (.long nn), .second, .val (.long (sc + (0 : Int64))), .second, .unset, .unset] [(.long nn), (.long (sc + (0 : Int64)))])) (fun t_ k_ => XS.lloadN X3.here hx rfl (hb hby own_d_pl_22) rfl k_) ?_
    refine own_by (T' := T3) (g' := (mkF m 26 #[.val (.ref a), .val (.long (0 : Int64)), .second, .val (.long nn), .second, .val (.long (sc + (0 : Int64))), .second, .unset, .unset] [(.long (1000000000 : Int64)), (.long nn), (.long (sc + (0 : Int64)))])) (fun t_ k_ => X3.ldc2Long hx hown (mvT hZ (hw _ (List.mem_of_getElem? (i := 74) rfl))) (g := (mkF m 23 #[.val (.ref a), .val (.long (0 : Int64)), .second, .val (.long nn), .second, .val (.long (sc + (0 : Int64))), .second, .unset, .unset] [(.long nn), (.long (sc + (0 : Int64)))])) rfl (hb hby own_d_pl_23) _ k_) ?_
    refine own_by (T' := T3) (g' := (mkF m 27 #[.val (.ref a), .val (.long (0 : Int64)), .second, .val (.long nn), .second, .val (.long (sc + (0 : Int64))), .second, .unset, .unset] [(.long (nn / (1000000000 : Int64))), (.long (sc + (0 : Int64)))])) (fun t_ k_ => XS.ldiv X3.here hx rfl (hb hby own_d_pl_26) rfl (by decide) k_) ?_
    obtain ⟨_, T4, L4, X4, hQ4, st4⟩ := own_callS X3 hx hZ (y := (⟨"java/lang/Math", "addExact", "(JJ)J"⟩ : MethodName)) hown (hw _ (List.mem_of_getElem? (i := 70) rfl)) (hw _ (List.mem_of_getElem? (i := 71) rfl)) (hw _ (List.mem_of_getElem? (i := 72) rfl)) (hw _ (List.mem_of_getElem? (i := 73) rfl)) (by decide) (argsL := [(.long (sc + (0 : Int64))), (.long (nn / (1000000000 : Int64)))]) (rest := []) (own_rm_addx l Z a0 hw [] (sc + (0 : Int64)) (nn / (1000000000 : Int64)) h0 n0 Z0 (own_ad2 sc nn hs hn1 hn2)) e3 (W := 0) (by decide) (by decide) (by decide) (by decide) (g := (mkF m 27 #[.val (.ref a), .val (.long (0 : Int64)), .second, .val (.long nn), .second, .val (.long (sc + (0 : Int64))), .second, .unset, .unset] [(.long (nn / (1000000000 : Int64))), (.long (sc + (0 : Int64)))])) rfl (by rw [hml]; rfl) (lenOf own_pd3 rfl) rfl (by show 2 * 0 + _ ≤ _; exact Nat.le_of_eq rfl) (hb hby own_d_pl_27)
    obtain ⟨rfl, Nq4, e4⟩ := hQ4
    have N4 := Fr.app N3 Nq4
    refine st4 _ ?_
    show own_Goes p e below _ T4 (mkF m 30 #[.val (.ref a), .val (.long (0 : Int64)), .second, .val (.long nn), .second, .val (.long (sc + (0 : Int64))), .second, .unset, .unset] [(.long ((sc + (0 : Int64)) + (nn / (1000000000 : Int64))))])
    refine own_by (T' := T4) (g' := (mkF m 32 #[.val (.ref a), .val (.long (0 : Int64)), .second, .val (.long nn), .second, .val (.long ((sc + (0 : Int64)) + (nn / (1000000000 : Int64)))), .second, .unset, .unset] [])) (fun t_ k_ => XS.lstore X4.here hx rfl (hb hby own_d_pl_30) rfl (l' := #[.val (.ref a), .val (.long (0 : Int64)), .second, .val (.long nn), .second, .val (.long ((sc + (0 : Int64)) + (nn / (1000000000 : Int64)))), .second, .unset, .unset]) rfl k_) ?_
    refine own_by (T' := T4) (g' := (mkF m 33 #[.val (.ref a), .val (.long (0 : Int64)), .second, .val (.long nn), .second, .val (.long ((sc + (0 : Int64)) + (nn / (1000000000 : Int64)))), .second, .unset, .unset] [(.long nn)])) (fun t_ k_ => XS.lloadN X4.here hx rfl (hb hby own_d_pl_32) rfl k_) ?_
    refine own_by (T' := T4) (g' := (mkF m 36 #[.val (.ref a), .val (.long (0 : Int64)), .second, .val (.long nn), .second, .val (.long ((sc + (0 : Int64)) + (nn / (1000000000 : Int64)))), .second, .unset, .unset] [(.long (1000000000 : Int64)), (.long nn)])) (fun t_ k_ => X4.ldc2Long hx hown (mvT hZ (hw _ (List.mem_of_getElem? (i := 74) rfl))) (g := (mkF m 33 #[.val (.ref a), .val (.long (0 : Int64)), .second, .val (.long nn), .second, .val (.long ((sc + (0 : Int64)) + (nn / (1000000000 : Int64)))), .second, .unset, .unset] [(.long nn)])) rfl (hb hby own_d_pl_33) _ k_) ?_
    refine own_by (T' := T4) (g' := (mkF m 37 #[.val (.ref a), .val (.long (0 : Int64)), .second, .val (.long nn), .second, .val (.long ((sc + (0 : Int64)) + (nn / (1000000000 : Int64)))), .second, .unset, .unset] [(.long (nn % (1000000000 : Int64)))])) (fun t_ k_ => own_lrem X4 hx rfl (hb hby own_d_pl_36) rfl (by decide) k_) ?_
    refine own_by (T' := T4) (g' := (mkF m 38 #[.val (.ref a), .val (.long (0 : Int64)), .second, .val (.long (nn % (1000000000 : Int64))), .second, .val (.long ((sc + (0 : Int64)) + (nn / (1000000000 : Int64)))), .second, .unset, .unset] [])) (fun t_ k_ => XS.lstoreN X4.here hx rfl (hb hby own_d_pl_37) rfl (l' := #[.val (.ref a), .val (.long (0 : Int64)), .second, .val (.long (nn % (1000000000 : Int64))), .second, .val (.long ((sc + (0 : Int64)) + (nn / (1000000000 : Int64)))), .second, .unset, .unset]) rfl k_) ?_
    refine own_by (T' := T4) (g' := (mkF m 39 #[.val (.ref a), .val (.long (0 : Int64)), .second, .val (.long (nn % (1000000000 : Int64))), .second, .val (.long ((sc + (0 : Int64)) + (nn / (1000000000 : Int64)))), .second, .unset, .unset] [(.ref a)])) (fun t_ k_ => XS.aloadN X4.here hx rfl (hb hby own_d_pl_38) rfl rfl k_) ?_
    obtain ⟨T5, X5, e5, st5⟩ := getF X4 hx hZ hown (host := "") (Or.inl (hw _ (List.mem_of_getElem? (i := 43) rfl))) Via.refl e4 Ft_n (g := (mkF m 39 #[.val (.ref a), .val (.long (0 : Int64)), .second, .val (.long (nn % (1000000000 : Int64))), .second, .val (.long ((sc + (0 : Int64)) + (nn / (1000000000 : Int64)))), .second, .unset, .unset] [(.ref a)])) rfl rfl (hb hby own_d_pl_39)
    refine own_by (T' := T5) (g' := (mkF m 42 #[.val (.ref a), .val (.long (0 : Int64)), .second, .val (.long (nn % (1000000000 : Int64))), .second, .val (.long ((sc + (0 : Int64)) + (nn / (1000000000 : Int64)))), .second, .unset, .unset] [(.int nv)])) st5 ?_
    refine own_by (T' := T5) (g' := (mkF m 43 #[.val (.ref a), .val (.long (0 : Int64)), .second, .val (.long (nn % (1000000000 : Int64))), .second, .val (.long ((sc + (0 : Int64)) + (nn / (1000000000 : Int64)))), .second, .unset, .unset] [(.long nv.toInt64)])) (fun t_ k_ => XS.i2l X5.here hx rfl (hb hby own_d_pl_42) rfl k_) ?_
    refine own_by (T' := T5) (g' := (mkF m 44 #[.val (.ref a), .val (.long (0 : Int64)), .second, .val (.long (nn % (1000000000 : Int64))), .second, .val (.long ((sc + (0 : Int64)) + (nn / (1000000000 : Int64)))), .second, .unset, .unset] [(.long (nn % (1000000000 : Int64))), (.long nv.toInt64)])) (fun t_ k_ => XS.lloadN X5.here hx rfl (hb hby own_d_pl_43) rfl k_) ?_
    refine own_by (T' := T5) (g' := (mkF m 45 #[.val (.ref a), .val (.long (0 : Int64)), .second, .val (.long (nn % (1000000000 : Int64))), .second, .val (.long ((sc + (0 : Int64)) + (nn / (1000000000 : Int64)))), .second, .unset, .unset] [(.long (nv.toInt64 + (nn % (1000000000 : Int64))))])) (fun t_ k_ => XS.ladd X5.here hx rfl (hb hby own_d_pl_44) rfl k_) ?_
    refine own_by (T' := T5) (g' := (mkF m 47 #[.val (.ref a), .val (.long (0 : Int64)), .second, .val (.long (nn % (1000000000 : Int64))), .second, .val (.long ((sc + (0 : Int64)) + (nn / (1000000000 : Int64)))), .second, .val (.long (nv.toInt64 + (nn % (1000000000 : Int64)))), .second] [])) (fun t_ k_ => XS.lstore X5.here hx rfl (hb hby own_d_pl_45) rfl (l' := #[.val (.ref a), .val (.long (0 : Int64)), .second, .val (.long (nn % (1000000000 : Int64))), .second, .val (.long ((sc + (0 : Int64)) + (nn / (1000000000 : Int64)))), .second, .val (.long (nv.toInt64 + (nn % (1000000000 : Int64)))), .second]) rfl k_) ?_
    refine own_by (T' := T5) (g' := (mkF m 49 #[.val (.ref a), .val (.long (0 : Int64)), .second, .val (.long (nn % (1000000000 : Int64))), .second, .val (.long ((sc + (0 : Int64)) + (nn / (1000000000 : Int64)))), .second, .val (.long (nv.toInt64 + (nn % (1000000000 : Int64)))), .second] [(.long ((sc + (0 : Int64)) + (nn / (1000000000 : Int64))))])) (fun t_ k_ => XS.lload X5.here hx rfl (hb hby own_d_pl_47) rfl k_) ?_
    refine own_by (T' := T5) (g' := (mkF m 51 #[.val (.ref a), .val (.long (0 : Int64)), .second, .val (.long (nn % (1000000000 : Int64))), .second, .val (.long ((sc + (0 : Int64)) + (nn / (1000000000 : Int64)))), .second, .val (.long (nv.toInt64 + (nn % (1000000000 : Int64)))), .second] [(.long (nv.toInt64 + (nn % (1000000000 : Int64)))), (.long ((sc + (0 : Int64)) + (nn / (1000000000 : Int64))))])) (fun t_ k_ => XS.lload X5.here hx rfl (hb hby own_d_pl_49) rfl k_) ?_
    obtain ⟨_, T6, L6, X6, hQ6, st6⟩ := own_callS X5 hx hZ (y := (⟨"java/time/Duration", "ofSeconds", "(JJ)Ljava/time/Duration;"⟩ : MethodName)) hown (hw _ (List.mem_of_getElem? (i := 75) rfl)) (hw _ (List.mem_of_getElem? (i := 76) rfl)) (hw _ (List.mem_of_getElem? (i := 27) rfl)) (hw _ (List.mem_of_getElem? (i := 77) rfl)) (by decide) (argsL := [(.long ((sc + (0 : Int64)) + (nn / (1000000000 : Int64)))), (.long (nv.toInt64 + (nn % (1000000000 : Int64))))]) (rest := []) (own_rm_os l Z a0 hw [] (((sc + (0 : Int64)) + (nn / (1000000000 : Int64)))) (nv.toInt64 + (nn % (1000000000 : Int64))) zz h0 n0 Z0 S_Z E_Z Fz_s Fz_n (own_pl_s sc nn hs hn1 hn2) (own_pl_1 nv nn hv1 hn1) (own_pl_2 nv nn hv1 hn1 hvn)) e5 (W := 0) (by decide) (by decide) (by decide) (by decide) (g := (mkF m 51 #[.val (.ref a), .val (.long (0 : Int64)), .second, .val (.long (nn % (1000000000 : Int64))), .second, .val (.long ((sc + (0 : Int64)) + (nn / (1000000000 : Int64)))), .second, .val (.long (nv.toInt64 + (nn % (1000000000 : Int64)))), .second] [(.long (nv.toInt64 + (nn % (1000000000 : Int64)))), (.long ((sc + (0 : Int64)) + (nn / (1000000000 : Int64))))])) rfl (by rw [hml]; rfl) (lenOf own_pd4 rfl) rfl (by show 2 * 0 + _ ≤ _; exact Nat.le_of_eq rfl) (hb hby own_d_pl_51)
    obtain ⟨x6, s6, n6, rfl, Nq6, Kq6, Eq6, Fs6, Fn6, q6⟩ := hQ6
    have N6 := Fr.app N4 Nq6
    have f7 := own_Sta_keep S_Z Kq6 all0
    have f8 := Nat.le_trans Z0 Kq6.1
    have f9 := Exa.keep E_Z Kq6
    have f10 := Fld.keep Fz_s Kq6 nin0
    have f11 := Fld.keep Fz_n Kq6 nin0
    have f12 := Keep.trans K0 Kq6 all0
    have f13 := Exa.keep E_T Kq6
    have f14 := Fld.keep Ft_s Kq6 nin0
    have f15 := Fld.keep Ft_n Kq6 nin0
    refine st6 _ ?_
    show own_Goes p e below _ T6 (mkF m 54 #[.val (.ref a), .val (.long (0 : Int64)), .second, .val (.long (nn % (1000000000 : Int64))), .second, .val (.long ((sc + (0 : Int64)) + (nn / (1000000000 : Int64)))), .second, .val (.long (nv.toInt64 + (nn % (1000000000 : Int64)))), .second] [(.ref x6)])
    refine own_retR X6 hx Bd.returns hlk rfl rfl (hb hby own_d_pl_54) (by decide) (by decide) ?_
    exact ⟨x6, _, _, rfl, N6, f12, Eq6, Fs6, Fn6, own_plq sc nn nv _ _ hs hv1 hn1 hn2 hvn q6⟩
theorem own_d_pn_0 : decode jdk_2316_method_34_code 0 = .ok (.aload_n 0, 1) := by decide +kernel
theorem own_d_pn_1 : decode jdk_2316_method_34_code 1 = .ok (.lconst 0, 1) := by decide +kernel
theorem own_d_pn_2 : decode jdk_2316_method_34_code 2 = .ok (.lload_n 1, 1) := by decide +kernel
theorem own_d_pn_3 : decode jdk_2316_method_34_code 3 = .ok (.invokevirtual 256, 3) := by decide +kernel
theorem own_d_pn_6 : decode jdk_2316_method_34_code 6 = .ok (.areturn, 1) := by decide +kernel
theorem own_ef_pn (m : MethodId) (a : Addr) (nn : Int64) : entryFrame m #[(.ref a), (.long nn)] 3 = mkF m 0 #[.val (.ref a), .val (.long nn), .second] [] := by first | (simp [entryFrame, mkF, argsToLocals, Value.category]; done) | rfl
def own_Q_pn (Z : State) (a : Addr) (nn : Int64) (zz : Addr) (sc : Int64) (nv : Int32) (h0 : Heap) (n0 : Nat) (v : Option Value) (h : Heap) (L : List Loc) : Prop := ∃ (x : Addr) (s2 : Int64) (n2 : Int32), v = some (.ref x) ∧ Fr n0 L ∧ Keep h0 h [] ∧ Exa Z h x "java/time/Duration" ∧ Fld Z h x "java/time/Duration" "seconds" "J" (.long s2) ∧ Fld Z h x "java/time/Duration" "nanos" "I" (.int n2) ∧ s2.toInt = sc.toInt ∧ n2.toInt = nv.toInt + nn.toInt
set_option maxRecDepth 65536 in
set_option maxHeartbeats 40000000 in
theorem own_rm_pn (l : Launch) (Z : State) (a0 : Array Value) (hw : ∀ d ∈ tables_1, d.before a0 Z = true) (ws : List Jvm.Cond) (a : Addr) (nn : Int64) (zz : Addr) (sc : Int64) (nv : Int32) (h0 : Heap) (n0 : Nat) (Z0 : n0 ≤ h0.size) (S_Z : Sta Z h0 "java/time/Duration" "ZERO" "Ljava/time/Duration;" (.ref zz)) (E_Z : Exa Z h0 zz "java/time/Duration") (Fz_s : Fld Z h0 zz "java/time/Duration" "seconds" "J" (.long (0 : Int64))) (Fz_n : Fld Z h0 zz "java/time/Duration" "nanos" "I" (.int (0 : Int32))) (E_T : Exa Z h0 a "java/time/Duration") (Ft_s : Fld Z h0 a "java/time/Duration" "seconds" "J" (.long sc)) (Ft_n : Fld Z h0 a "java/time/Duration" "nanos" "I" (.int nv)) (hs : 0 ≤ sc.toInt) (hv1 : 0 ≤ nv.toInt) (hn1 : 0 ≤ nn.toInt) (hn2 : nn.toInt < 1000000000) (hvn : nv.toInt + nn.toInt < 1000000000) :
    MetFree l (⟨"java/time/Duration", "plusNanos", "(J)Ljava/time/Duration;"⟩ : MethodName) (head1 (Jvm.Cond.code (⟨"java/time/Duration", "plusNanos", "(J)Ljava/time/Duration;"⟩ : MethodName) jdk_2316_method_34_code 3 (some (.object "java/time/Duration")) :: ws) ({ frames := 5, cells := 1, slots := 2, locals := 80 } : Room)) (fun a_ U_ => a_ = #[(.ref a), (.long nn)] ∧ Z.Warmed39 U_.vm ∧ U_.heap = h0) (fun _ _ _ _ _ => True) (fun _ U_ o_ U'_ => ∃ v_ L_, o_ = .returned v_ ∧ own_Q_pn Z a nn zz sc nv h0 n0 v_ U'_.heap L_ ∧ FrameEnd U_ o_ U'_ L_ ({ frames := 5, cells := 1, slots := 2, locals := 80 } : Room).cells ({ frames := 5, cells := 1, slots := 2, locals := 80 } : Room).slots) := by
  refine MetFree.of_bodySF (plainFor_of_name own_pn_java_time_Duration) hisR ?_
  intro p e s m args below meth c s₁ Bd hml0 hP hK
  obtain ⟨rfl, hZ, hh⟩ := hP
  have hx := Bd.exec
  have hby := Bd.bytes
  have hlk : meth.locks = false := BodyLoose.notSynchronized Bd
  have hml : c.maxLocals = 3 := hml0
  have hown : s.vm.findClass "java/time/Duration" = some m.cls := findClass_of_methodNamed Bd.named
  have hnm := (name_of_methodNamed Bd.named Bd.method).1
  have X0 : Stand p l e ({ frames := 5, cells := 1, slots := 2, locals := 80 } : Room) s m #[(.ref a), (.long nn)] below meth c s₁ [] 0 0 := Stand.of_body Bd
  have e0 : s₁.heap = h0 := by rw [← hh, Bd.state]; rfl
  have N0 := Fr.nil n0
  show own_Goes p e below (own_K (own_Q_pn Z a nn zz sc nv h0 n0) s ({ frames := 5, cells := 1, slots := 2, locals := 80 } : Room).cells ({ frames := 5, cells := 1, slots := 2, locals := 80 } : Room).slots) s₁ (entryFrame m #[(.ref a), (.long nn)] 3)
  rw [own_ef_pn]
  have K0 := Keep.refl h0 []
  refine own_by (T' := s₁) (g' := (mkF m 1 #[.val (.ref a), .val (.long nn), .second] [(.ref a)])) (fun t_ k_ => XS.aloadN X0.here hx rfl (hb hby own_d_pn_0) rfl rfl k_) ?_
  refine own_by (T' := s₁) (g' := (mkF m 2 #[.val (.ref a), .val (.long nn), .second] [(.long (0 : Int64)), (.ref a)])) (fun t_ k_ => XS.lconst X0.here hx rfl (hb hby own_d_pn_1) k_) ?_
  refine own_by (T' := s₁) (g' := (mkF m 3 #[.val (.ref a), .val (.long nn), .second] [(.long nn), (.long (0 : Int64)), (.ref a)])) (fun t_ k_ => XS.lloadN X0.here hx rfl (hb hby own_d_pn_2) rfl k_) ?_
  obtain ⟨_, T1, L1, X1, hQ1, st1⟩ := own_callPv X0 hx hZ (y := (⟨"java/time/Duration", "plus", "(JJ)Ljava/time/Duration;"⟩ : MethodName)) hown (hw _ (List.mem_of_getElem? (i := 51) rfl)) (hw _ (List.mem_of_getElem? (i := 54) rfl)) (hw _ (List.mem_of_getElem? (i := 52) rfl)) (hw _ (List.mem_of_getElem? (i := 53) rfl)) (hw _ (List.mem_of_getElem? (i := 27) rfl)) (hw _ (List.mem_of_getElem? (i := 55) rfl)) (by decide) (argsL := [(.long (0 : Int64)), (.long nn)]) (rest := []) E_T (own_rm_pl l Z a0 hw [] a nn zz sc nv h0 n0 Z0 S_Z E_Z Fz_s Fz_n E_T Ft_s Ft_n hs hv1 hn1 hn2 hvn) e0 (W := 0) (by decide) (by decide) (by decide) (by decide) (g := (mkF m 3 #[.val (.ref a), .val (.long nn), .second] [(.long nn), (.long (0 : Int64)), (.ref a)])) rfl (by rw [hml]; rfl) (lenOf own_pd4 rfl) rfl (by show 2 * 0 + _ ≤ _; exact Nat.le_of_eq rfl) (hb hby own_d_pn_3)
  obtain ⟨x1, s1, n1, rfl, Nq1, Kq1, Eq1, Fs1, Fn1, q1⟩ := hQ1
  have N1 := Fr.app N0 Nq1
  have f2 := own_Sta_keep S_Z Kq1 all0
  have f3 := Nat.le_trans Z0 Kq1.1
  have f4 := Exa.keep E_Z Kq1
  have f5 := Fld.keep Fz_s Kq1 nin0
  have f6 := Fld.keep Fz_n Kq1 nin0
  have f7 := Keep.trans K0 Kq1 all0
  have f8 := Exa.keep E_T Kq1
  have f9 := Fld.keep Ft_s Kq1 nin0
  have f10 := Fld.keep Ft_n Kq1 nin0
  refine st1 _ ?_
  show own_Goes p e below _ T1 (mkF m 6 #[.val (.ref a), .val (.long nn), .second] [(.ref x1)])
  refine own_retR X1 hx Bd.returns hlk rfl rfl (hb hby own_d_pn_6) (by decide) (by decide) ?_
  exact ⟨x1, _, _, rfl, N1, f7, Eq1, Fs1, Fn1, q1⟩
theorem own_pd5 : parseMethodDescriptor "(J)Ljava/time/Duration;" = some ⟨[.long], some (.object "java/time/Duration")⟩ := by decide +kernel
theorem own_d_rp_0 : decode prog_3_method_4_code 0 = .ok (.aload_n 0, 1) := by decide +kernel
theorem own_d_rp_1 : decode prog_3_method_4_code 1 = .ok (.getfield 22, 3) := by decide +kernel
theorem own_d_rp_4 : decode prog_3_method_4_code 4 = .ok (.ifCond .ne 20, 3) := by decide +kernel
theorem own_d_rp_24 : decode prog_3_method_4_code 24 = .ok (.aload_n 0, 1) := by decide +kernel
theorem own_d_rp_25 : decode prog_3_method_4_code 25 = .ok (.getfield 16, 3) := by decide +kernel
theorem own_d_rp_28 : decode prog_3_method_4_code 28 = .ok (.ldc2_w 33, 3) := by decide +kernel
theorem own_d_rp_31 : decode prog_3_method_4_code 31 = .ok (.ldiv, 1) := by decide +kernel
theorem own_d_rp_32 : decode prog_3_method_4_code 32 = .ok (.invokestatic 35, 3) := by decide +kernel
theorem own_d_rp_35 : decode prog_3_method_4_code 35 = .ok (.aload_n 0, 1) := by decide +kernel
theorem own_d_rp_36 : decode prog_3_method_4_code 36 = .ok (.getfield 16, 3) := by decide +kernel
theorem own_d_rp_39 : decode prog_3_method_4_code 39 = .ok (.ldc2_w 33, 3) := by decide +kernel
theorem own_d_rp_42 : decode prog_3_method_4_code 42 = .ok (.lrem, 1) := by decide +kernel
theorem own_d_rp_43 : decode prog_3_method_4_code 43 = .ok (.ldc2_w 41, 3) := by decide +kernel
theorem own_d_rp_46 : decode prog_3_method_4_code 46 = .ok (.lmul, 1) := by decide +kernel
theorem own_d_rp_47 : decode prog_3_method_4_code 47 = .ok (.ldc2_w 33, 3) := by decide +kernel
theorem own_d_rp_50 : decode prog_3_method_4_code 50 = .ok (.ldiv, 1) := by decide +kernel
theorem own_d_rp_51 : decode prog_3_method_4_code 51 = .ok (.invokevirtual 43, 3) := by decide +kernel
theorem own_d_rp_54 : decode prog_3_method_4_code 54 = .ok (.areturn, 1) := by decide +kernel
theorem own_ef_rp (m : MethodId) (a : Addr) : entryFrame m #[(.ref a)] 1 = mkF m 0 #[.val (.ref a)] [] := by first | (simp [entryFrame, mkF, argsToLocals, Value.category]; done) | rfl
def own_Q_rp (Z : State) (a : Addr) (zz : Addr) (q : Int64) (h0 : Heap) (n0 : Nat) (v : Option Value) (h : Heap) (L : List Loc) : Prop := ∃ (x : Addr) (s2 : Int64) (n2 : Int32), v = some (.ref x) ∧ Fr n0 L ∧ Keep h0 h [] ∧ Exa Z h x "java/time/Duration" ∧ Fld Z h x "java/time/Duration" "seconds" "J" (.long s2) ∧ Fld Z h x "java/time/Duration" "nanos" "I" (.int n2) ∧ s2.toInt = q.toInt / 3000 ∧ n2.toInt = (q.toInt % 3000) * 1000000 / 3
set_option maxRecDepth 65536 in
set_option maxHeartbeats 40000000 in
theorem own_rm_rp (l : Launch) (Z : State) (a0 : Array Value) (hw : ∀ d ∈ tables_1, d.before a0 Z = true) (ws : List Jvm.Cond) (a : Addr) (zz : Addr) (q : Int64) (h0 : Heap) (n0 : Nat) (Z0 : n0 ≤ h0.size) (S_Z : Sta Z h0 "java/time/Duration" "ZERO" "Ljava/time/Duration;" (.ref zz)) (E_Z : Exa Z h0 zz "java/time/Duration") (Fz_s : Fld Z h0 zz "java/time/Duration" "seconds" "J" (.long (0 : Int64))) (Fz_n : Fld Z h0 zz "java/time/Duration" "nanos" "I" (.int (0 : Int32))) (E_L : Exa Z h0 a "com/example/solease/solease/Lease") (Fl_m : Fld Z h0 a "com/example/solease/solease/Lease" "millis" "J" (.long q)) (Fl_r : Fld Z h0 a "com/example/solease/solease/Lease" "renewed" "Z" (.int (1 : Int32))) (hq : (0 : Int64) < q) :
    MetFree l (⟨"com/example/solease/solease/Lease", "renewalPeriod", "()Ljava/time/Duration;"⟩ : MethodName) (head1 (Jvm.Cond.code (⟨"com/example/solease/solease/Lease", "renewalPeriod", "()Ljava/time/Duration;"⟩ : MethodName) prog_3_method_4_code 1 (some (.object "java/time/Duration")) :: ws) ({ frames := 6, cells := 2, slots := 4, locals := 94 } : Room)) (fun a_ U_ => a_ = #[(.ref a)] ∧ Z.Warmed39 U_.vm ∧ U_.heap = h0) (fun _ _ _ _ _ => True) (fun _ U_ o_ U'_ => ∃ v_ L_, o_ = .returned v_ ∧ own_Q_rp Z a zz q h0 n0 v_ U'_.heap L_ ∧ FrameEnd U_ o_ U'_ L_ ({ frames := 6, cells := 2, slots := 4, locals := 94 } : Room).cells ({ frames := 6, cells := 2, slots := 4, locals := 94 } : Room).slots) := by
  refine MetFree.of_bodySF (plainFor_of_name own_pn_com_example_solease_solease_Lease) hisR ?_
  intro p e s m args below meth c s₁ Bd hml0 hP hK
  obtain ⟨rfl, hZ, hh⟩ := hP
  have hx := Bd.exec
  have hby := Bd.bytes
  have hlk : meth.locks = false := BodyLoose.notSynchronized Bd
  have hml : c.maxLocals = 1 := hml0
  have hown : s.vm.findClass "com/example/solease/solease/Lease" = some m.cls := findClass_of_methodNamed Bd.named
  have hnm := (name_of_methodNamed Bd.named Bd.method).1
  have X0 : Stand p l e ({ frames := 6, cells := 2, slots := 4, locals := 94 } : Room) s m #[(.ref a)] below meth c s₁ [] 0 0 := Stand.of_body Bd
  have e0 : s₁.heap = h0 := by rw [← hh, Bd.state]; rfl
  have N0 := Fr.nil n0
  show own_Goes p e below (own_K (own_Q_rp Z a zz q h0 n0) s ({ frames := 6, cells := 2, slots := 4, locals := 94 } : Room).cells ({ frames := 6, cells := 2, slots := 4, locals := 94 } : Room).slots) s₁ (entryFrame m #[(.ref a)] 1)
  rw [own_ef_rp]
  have K0 := Keep.refl h0 []
  refine own_by (T' := s₁) (g' := (mkF m 1 #[.val (.ref a)] [(.ref a)])) (fun t_ k_ => XS.aloadN X0.here hx rfl (hb hby own_d_rp_0) rfl rfl k_) ?_
  obtain ⟨T1, X1, e1, st1⟩ := getF X0 hx hZ hown (host := "") (Or.inl (hw _ (List.mem_of_getElem? (i := 17) rfl))) Via.refl e0 Fl_r (g := (mkF m 1 #[.val (.ref a)] [(.ref a)])) rfl rfl (hb hby own_d_rp_1)
  refine own_by (T' := T1) (g' := (mkF m 4 #[.val (.ref a)] [(.int (1 : Int32))])) st1 ?_
  refine own_by (T' := T1) (g' := (mkF m 24 #[.val (.ref a)] [])) (fun t_ k_ => XS.ifYes X1.here hx rfl (pc0 := 4) (pc' := 24) rfl (hb hby own_d_rp_4) rfl ((if0 _ _).trans (feq ((by decide) : ¬ ((1 : Int32) = (0 : Int32)))).2) (by decide) (by decide) k_) ?_
  refine own_by (T' := T1) (g' := (mkF m 25 #[.val (.ref a)] [(.ref a)])) (fun t_ k_ => XS.aloadN X1.here hx rfl (hb hby own_d_rp_24) rfl rfl k_) ?_
  obtain ⟨T2, X2, e2, st2⟩ := getF X1 hx hZ hown (host := "") (Or.inl (hw _ (List.mem_of_getElem? (i := 15) rfl))) Via.refl e1 Fl_m (g := (mkF m 25 #[.val (.ref a)] [(.ref a)])) rfl rfl (hb hby own_d_rp_25)
  refine own_by (T' := T2) (g' := (mkF m 28 #[.val (.ref a)] [(.long q)])) st2 ?_
  refine own_by (T' := T2) (g' := (mkF m 31 #[.val (.ref a)] [(.long (3 : Int64)), (.long q)])) (fun t_ k_ => X2.ldc2Long hx hown (mvT hZ (hw _ (List.mem_of_getElem? (i := 24) rfl))) (g := (mkF m 28 #[.val (.ref a)] [(.long q)])) rfl (hb hby own_d_rp_28) _ k_) ?_
  refine own_by (T' := T2) (g' := (mkF m 32 #[.val (.ref a)] [(.long (q / (3 : Int64)))])) (fun t_ k_ => XS.ldiv X2.here hx rfl (hb hby own_d_rp_31) rfl (by decide) k_) ?_
  obtain ⟨_, T3, L3, X3, hQ3, st3⟩ := own_callS X2 hx hZ (y := (⟨"java/time/Duration", "ofMillis", "(J)Ljava/time/Duration;"⟩ : MethodName)) hown (hw _ (List.mem_of_getElem? (i := 25) rfl)) (hw _ (List.mem_of_getElem? (i := 26) rfl)) (hw _ (List.mem_of_getElem? (i := 27) rfl)) (hw _ (List.mem_of_getElem? (i := 28) rfl)) (by decide) (argsL := [(.long (q / (3 : Int64)))]) (rest := []) (own_rm_om l Z a0 hw [] (q / (3 : Int64)) zz h0 n0 Z0 S_Z E_Z Fz_s Fz_n (own_q3 q hq)) e2 (W := 0) (by decide) (by decide) (by decide) (by decide) (g := (mkF m 32 #[.val (.ref a)] [(.long (q / (3 : Int64)))])) rfl (by rw [hml]; rfl) (lenOf own_pd5 rfl) rfl (by show 2 * 0 + _ ≤ _; exact Nat.le_of_eq rfl) (hb hby own_d_rp_32)
  obtain ⟨x3, s3, n3, rfl, Nq3, Kq3, Eq3, Fs3, Fn3, q3⟩ := hQ3
  have N3 := Fr.app N0 Nq3
  have f4 := own_Sta_keep S_Z Kq3 all0
  have f5 := Nat.le_trans Z0 Kq3.1
  have f6 := Exa.keep E_Z Kq3
  have f7 := Fld.keep Fz_s Kq3 nin0
  have f8 := Fld.keep Fz_n Kq3 nin0
  have f9 := Keep.trans K0 Kq3 all0
  have f10 := Exa.keep E_L Kq3
  have f11 := Fld.keep Fl_m Kq3 nin0
  have f12 := Fld.keep Fl_r Kq3 nin0
  refine st3 _ ?_
  show own_Goes p e below _ T3 (mkF m 35 #[.val (.ref a)] [(.ref x3)])
  refine own_by (T' := T3) (g' := (mkF m 36 #[.val (.ref a)] [(.ref a), (.ref x3)])) (fun t_ k_ => XS.aloadN X3.here hx rfl (hb hby own_d_rp_35) rfl rfl k_) ?_
  obtain ⟨T13, X13, e13, st13⟩ := getF X3 hx hZ hown (host := "") (Or.inl (hw _ (List.mem_of_getElem? (i := 15) rfl))) Via.refl rfl f11 (g := (mkF m 36 #[.val (.ref a)] [(.ref a), (.ref x3)])) rfl rfl (hb hby own_d_rp_36)
  refine own_by (T' := T13) (g' := (mkF m 39 #[.val (.ref a)] [(.long q), (.ref x3)])) st13 ?_
  refine own_by (T' := T13) (g' := (mkF m 42 #[.val (.ref a)] [(.long (3 : Int64)), (.long q), (.ref x3)])) (fun t_ k_ => X13.ldc2Long hx hown (mvT hZ (hw _ (List.mem_of_getElem? (i := 24) rfl))) (g := (mkF m 39 #[.val (.ref a)] [(.long q), (.ref x3)])) rfl (hb hby own_d_rp_39) _ k_) ?_
  refine own_by (T' := T13) (g' := (mkF m 43 #[.val (.ref a)] [(.long (q % (3 : Int64))), (.ref x3)])) (fun t_ k_ => own_lrem X13 hx rfl (hb hby own_d_rp_42) rfl (by decide) k_) ?_
  refine own_by (T' := T13) (g' := (mkF m 46 #[.val (.ref a)] [(.long (1000000 : Int64)), (.long (q % (3 : Int64))), (.ref x3)])) (fun t_ k_ => X13.ldc2Long hx hown (mvT hZ (hw _ (List.mem_of_getElem? (i := 45) rfl))) (g := (mkF m 43 #[.val (.ref a)] [(.long (q % (3 : Int64))), (.ref x3)])) rfl (hb hby own_d_rp_43) _ k_) ?_
  refine own_by (T' := T13) (g' := (mkF m 47 #[.val (.ref a)] [(.long ((q % (3 : Int64)) * (1000000 : Int64))), (.ref x3)])) (fun t_ k_ => XS.lmul X13.here hx rfl (hb hby own_d_rp_46) rfl k_) ?_
  refine own_by (T' := T13) (g' := (mkF m 50 #[.val (.ref a)] [(.long (3 : Int64)), (.long ((q % (3 : Int64)) * (1000000 : Int64))), (.ref x3)])) (fun t_ k_ => X13.ldc2Long hx hown (mvT hZ (hw _ (List.mem_of_getElem? (i := 24) rfl))) (g := (mkF m 47 #[.val (.ref a)] [(.long ((q % (3 : Int64)) * (1000000 : Int64))), (.ref x3)])) rfl (hb hby own_d_rp_47) _ k_) ?_
  refine own_by (T' := T13) (g' := (mkF m 51 #[.val (.ref a)] [(.long (((q % (3 : Int64)) * (1000000 : Int64)) / (3 : Int64))), (.ref x3)])) (fun t_ k_ => XS.ldiv X13.here hx rfl (hb hby own_d_rp_50) rfl (by decide) k_) ?_
  obtain ⟨_, T14, L14, X14, hQ14, st14⟩ := own_callV X13 hx hZ (y := (⟨"java/time/Duration", "plusNanos", "(J)Ljava/time/Duration;"⟩ : MethodName)) hown (hw _ (List.mem_of_getElem? (i := 46) rfl)) (hw _ (List.mem_of_getElem? (i := 47) rfl)) (hw _ (List.mem_of_getElem? (i := 49) rfl)) (hw _ (List.mem_of_getElem? (i := 48) rfl)) (hw _ (List.mem_of_getElem? (i := 27) rfl)) (hw _ (List.mem_of_getElem? (i := 50) rfl)) (by decide) (argsL := [(.long (((q % (3 : Int64)) * (1000000 : Int64)) / (3 : Int64)))]) (rest := []) Eq3 (own_rm_pn l Z a0 hw [] x3 ((((q % (3 : Int64)) * (1000000 : Int64)) / (3 : Int64))) zz s3 n3 T3.heap n0 f5 f4 f6 f7 f8 Eq3 Fs3 Fn3 (own_r1 q _ _ hq q3) (own_r2 q _ _ hq q3) (own_r3 q _ _ hq q3) (own_r4 q _ _ hq q3) (own_r5 q _ _ hq q3)) e13 (W := 0) (by decide) (by decide) (by decide) (by decide) (g := (mkF m 51 #[.val (.ref a)] [(.long (((q % (3 : Int64)) * (1000000 : Int64)) / (3 : Int64))), (.ref x3)])) rfl (by rw [hml]; rfl) (lenOf own_pd5 rfl) rfl (by show 2 * 0 + _ ≤ _; exact Nat.le_of_eq rfl) (hb hby own_d_rp_51)
  obtain ⟨x14, s14, n14, rfl, Nq14, Kq14, Eq14, Fs14, Fn14, q14⟩ := hQ14
  have N14 := Fr.app N3 Nq14
  have f15 := own_Sta_keep f4 Kq14 all0
  have f16 := Nat.le_trans f5 Kq14.1
  have f17 := Exa.keep f6 Kq14
  have f18 := Fld.keep f7 Kq14 nin0
  have f19 := Fld.keep f8 Kq14 nin0
  have f20 := Keep.trans f9 Kq14 all0
  have f21 := Exa.keep f10 Kq14
  have f22 := Fld.keep f11 Kq14 nin0
  have f23 := Fld.keep f12 Kq14 nin0
  have f24 := Exa.keep Eq3 Kq14
  have f25 := Fld.keep Fs3 Kq14 nin0
  have f26 := Fld.keep Fn3 Kq14 nin0
  refine st14 _ ?_
  show own_Goes p e below _ T14 (mkF m 54 #[.val (.ref a)] [(.ref x14)])
  refine own_retR X14 hx Bd.returns hlk rfl rfl (hb hby own_d_rp_54) (by decide) (by decide) ?_
  exact ⟨x14, _, _, rfl, N14, f20, Eq14, Fs14, Fn14, own_rp q _ _ _ _ hq q3 q14⟩
theorem own_pd6 : parseMethodDescriptor "(JZ)V" = some ⟨[.long, .boolean], none⟩ := by decide +kernel
theorem own_pd7 : parseMethodDescriptor "()Ljava/time/Duration;" = some ⟨[], some (.object "java/time/Duration")⟩ := by decide +kernel
theorem own_pd8 : parseMethodDescriptor "()J" = some ⟨[], some .long⟩ := by decide +kernel
theorem own_pd9 : parseMethodDescriptor "()I" = some ⟨[], some .int⟩ := by decide +kernel
theorem own_pn_com_example_solease_solease_LeaseRenewalPeriodPinLaw : plainName "com/example/solease/solease/LeaseRenewalPeriodPinLaw" = true := by first | (simp [plainName, overriddenIn]; done) | decide +kernel
theorem own_ef_law (m : MethodId) (mm : Int64) : entryFrame m #[(.long mm)] maxLocals = mkF m 0 #[.val (.long mm), .second, .unset, .unset, .unset, .unset, .unset, .unset, .unset, .unset] [] := by first | (simp [entryFrame, mkF, argsToLocals, Value.category, maxLocals]; done) | rfl
def own_Q_law (Z : State) (mm : Int64) (zz : Addr) (h0 : Heap) (n0 : Nat) (v : Option Value) (h : Heap) (L : List Loc) : Prop := v = some (.int 1) ∧ Fr n0 L
set_option maxRecDepth 65536 in
set_option maxHeartbeats 40000000 in
theorem own_rm_law (l : Launch) (Z : State) (a0 : Array Value) (hw : ∀ d ∈ tables_1, d.before a0 Z = true) (ws : List Jvm.Cond) (mm : Int64) (zz : Addr) (h0 : Heap) (n0 : Nat) (Z0 : n0 ≤ h0.size) (S_Z : Sta Z h0 "java/time/Duration" "ZERO" "Ljava/time/Duration;" (.ref zz)) (E_Z : Exa Z h0 zz "java/time/Duration") (Fz_s : Fld Z h0 zz "java/time/Duration" "seconds" "J" (.long (0 : Int64))) (Fz_n : Fld Z h0 zz "java/time/Duration" "nanos" "I" (.int (0 : Int32))) :
    MetFree l x (head1 (Jvm.Cond.code x code maxLocals ret :: ws) room_1) (fun a_ U_ => a_ = #[(.long mm)] ∧ Z.Warmed39 U_.vm ∧ U_.heap = h0) (fun _ _ _ _ _ => True) (fun _ U_ o_ U'_ => ∃ v_ L_, o_ = .returned v_ ∧ own_Q_law Z mm zz h0 n0 v_ U'_.heap L_ ∧ FrameEnd U_ o_ U'_ L_ room_1.cells room_1.slots) := by
  refine MetFree.of_bodySF (plainFor_of_name own_pn_com_example_solease_solease_LeaseRenewalPeriodPinLaw) hisR ?_
  intro p e s m args below meth c s₁ Bd hml0 hP hK
  obtain ⟨rfl, hZ, hh⟩ := hP
  have hx := Bd.exec
  have hby := Bd.bytes
  have hlk : meth.locks = false := BodyLoose.notSynchronized Bd
  have hml : c.maxLocals = 10 := hml0
  have hown : s.vm.findClass "com/example/solease/solease/LeaseRenewalPeriodPinLaw" = some m.cls := findClass_of_methodNamed Bd.named
  have hnm := (name_of_methodNamed Bd.named Bd.method).1
  have X0 : Stand p l e room_1 s m #[(.long mm)] below meth c s₁ [] 0 0 := Stand.of_body Bd
  have e0 : s₁.heap = h0 := by rw [← hh, Bd.state]; rfl
  have N0 := Fr.nil n0
  show own_Goes p e below (own_K (own_Q_law Z mm zz h0 n0) s room_1.cells room_1.slots) s₁ (entryFrame m #[(.long mm)] maxLocals)
  rw [own_ef_law]
  have K0 := Keep.refl h0 []
  refine own_by (T' := s₁) (g' := (mkF m 1 #[.val (.long mm), .second, .unset, .unset, .unset, .unset, .unset, .unset, .unset, .unset] [(.long mm)])) (fun t_ k_ => XS.lloadN X0.here hx rfl (hb hby at_0) rfl k_) ?_
  refine own_by (T' := s₁) (g' := (mkF m 4 #[.val (.long mm), .second, .unset, .unset, .unset, .unset, .unset, .unset, .unset, .unset] [(.long (9223372036854775807 : Int64)), (.long mm)])) (fun t_ k_ => X0.ldc2Long hx hown (mvT hZ (hw _ (List.mem_of_getElem? (i := 0) rfl))) (g := (mkF m 1 #[.val (.long mm), .second, .unset, .unset, .unset, .unset, .unset, .unset, .unset, .unset] [(.long mm)])) rfl (hb hby at_1) _ k_) ?_
  refine own_by (T' := s₁) (g' := (mkF m 5 #[.val (.long mm), .second, .unset, .unset, .unset, .unset, .unset, .unset, .unset, .unset] [(.long (mm &&& (9223372036854775807 : Int64)))])) (fun t_ k_ => XS.land X0.here hx rfl (hb hby at_4) rfl k_) ?_
  refine own_by (T' := s₁) (g' := (mkF m 6 #[.val (.long mm), .second, .val (.long (mm &&& (9223372036854775807 : Int64))), .second, .unset, .unset, .unset, .unset, .unset, .unset] [])) (fun t_ k_ => XS.lstoreN X0.here hx rfl (hb hby at_5) rfl (l' := #[.val (.long mm), .second, .val (.long (mm &&& (9223372036854775807 : Int64))), .second, .unset, .unset, .unset, .unset, .unset, .unset]) rfl k_) ?_
  refine own_by (T' := s₁) (g' := (mkF m 7 #[.val (.long mm), .second, .val (.long (mm &&& (9223372036854775807 : Int64))), .second, .unset, .unset, .unset, .unset, .unset, .unset] [(.long (mm &&& (9223372036854775807 : Int64)))])) (fun t_ k_ => XS.lloadN X0.here hx rfl (hb hby at_6) rfl k_) ?_
  refine own_by (T' := s₁) (g' := (mkF m 8 #[.val (.long mm), .second, .val (.long (mm &&& (9223372036854775807 : Int64))), .second, .unset, .unset, .unset, .unset, .unset, .unset] [(.long (0 : Int64)), (.long (mm &&& (9223372036854775807 : Int64)))])) (fun t_ k_ => XS.lconst X0.here hx rfl (hb hby at_7) k_) ?_
  refine own_by (T' := s₁) (g' := (mkF m 9 #[.val (.long mm), .second, .val (.long (mm &&& (9223372036854775807 : Int64))), .second, .unset, .unset, .unset, .unset, .unset, .unset] [(.int (lcmpW (mm &&& (9223372036854775807 : Int64)) (0 : Int64)))])) (fun t_ k_ => XS.lcmp X0.here hx rfl (hb hby at_8) rfl k_) ?_
  by_cases c9_1 : (mm &&& (9223372036854775807 : Int64)) = (0 : Int64)
  · skip
    refine own_by (T' := s₁) (g' := (mkF m 12 #[.val (.long mm), .second, .val (.long (mm &&& (9223372036854775807 : Int64))), .second, .unset, .unset, .unset, .unset, .unset, .unset] [])) (fun t_ k_ => XS.ifNo X0.here hx rfl (hb hby at_9) rfl ((if0 _ _).trans (teq (((lw_eq _ _).mpr c9_1) : (lcmpW (mm &&& (9223372036854775807 : Int64)) (0 : Int64)) = (0 : Int32))).2) k_) ?_
    refine own_by (T' := s₁) (g' := (mkF m 13 #[.val (.long mm), .second, .val (.long (mm &&& (9223372036854775807 : Int64))), .second, .unset, .unset, .unset, .unset, .unset, .unset] [(.long (1 : Int64))])) (fun t_ k_ => XS.lconst X0.here hx rfl (hb hby at_12) k_) ?_
    refine own_by (T' := s₁) (g' := (mkF m 14 #[.val (.long mm), .second, .val (.long (1 : Int64)), .second, .unset, .unset, .unset, .unset, .unset, .unset] [])) (fun t_ k_ => XS.lstoreN X0.here hx rfl (hb hby at_13) rfl (l' := #[.val (.long mm), .second, .val (.long (1 : Int64)), .second, .unset, .unset, .unset, .unset, .unset, .unset]) rfl k_) ?_
    obtain ⟨q, hqe⟩ : ∃ z, z = (1 : Int64) := ⟨_, rfl⟩
    have hq : (0 : Int64) < q := by rw [hqe]; exact by decide
    rw [← hqe]
    obtain ⟨T2, h2, X2, e2, E2, A2, D2, -, st2⟩ := newO X0 hx hZ hown (hw _ (List.mem_of_getElem? (i := 1) rfl)) (hw _ (List.mem_of_getElem? (i := 2) rfl)) (hw _ (List.mem_of_getElem? (i := 3) rfl)) e0 (g := (mkF m 14 #[.val (.long mm), .second, .val (.long q), .second, .unset, .unset, .unset, .unset, .unset, .unset] [])) rfl (hb hby at_14) (by decide) (by decide)
    obtain ⟨b2, g2⟩ : ∃ z, z = h0.size := ⟨_, rfl⟩
    rw [← g2] at A2 D2 st2
    have g_b2 : n0 ≤ b2 := Nat.le_trans Z0 (Nat.le_of_eq g2.symm)
    have ne3 : zz ≠ b2 := Nat.ne_of_lt (Nat.lt_of_lt_of_le E_Z.lt (Nat.le_of_eq g2.symm))
    have k_b2 : h0.size ≤ b2 := Nat.le_trans K0.1 (Nat.le_of_eq g2.symm)
    have f4 := Nat.le_trans Z0 E2.1
    have f5 := Sta.ext E2 S_Z
    have f6 := Exa.ext E2 E_Z
    have f7 := Fld.ext E2 Fz_s
    have f8 := Fld.ext E2 Fz_n
    have f9 := K0.ext E2
    have F2_millis : Fld Z h2 b2 "com/example/solease/solease/Lease" "millis" "J" (.long (0 : Int64)) := D2 (Or.inr (hw _ (List.mem_of_getElem? (i := 16) rfl))) (ty := .long) (by decide)
    have F2_renewed : Fld Z h2 b2 "com/example/solease/solease/Lease" "renewed" "Z" (.int (0 : Int32)) := D2 (Or.inr (hw _ (List.mem_of_getElem? (i := 18) rfl))) (ty := .boolean) (by decide)
    refine own_by (T' := T2) (g' := (mkF m 17 #[.val (.long mm), .second, .val (.long q), .second, .unset, .unset, .unset, .unset, .unset, .unset] [(.ref b2)])) st2 ?_
    refine own_by (T' := T2) (g' := (mkF m 18 #[.val (.long mm), .second, .val (.long q), .second, .unset, .unset, .unset, .unset, .unset, .unset] [(.ref b2), (.ref b2)])) (fun t_ k_ => XS.dup X2.here hx rfl (hb hby at_17) rfl rfl k_) ?_
    refine own_by (T' := T2) (g' := (mkF m 19 #[.val (.long mm), .second, .val (.long q), .second, .unset, .unset, .unset, .unset, .unset, .unset] [(.long q), (.ref b2), (.ref b2)])) (fun t_ k_ => XS.lloadN X2.here hx rfl (hb hby at_18) rfl k_) ?_
    refine own_by (T' := T2) (g' := (mkF m 20 #[.val (.long mm), .second, .val (.long q), .second, .unset, .unset, .unset, .unset, .unset, .unset] [(.int (1 : Int32)), (.long q), (.ref b2), (.ref b2)])) (fun t_ k_ => XS.iconst X2.here hx rfl (hb hby at_19) k_) ?_
    obtain ⟨_, T10, L10, X10, hQ10, st10⟩ := own_callI X2 hx hZ (y := (⟨"com/example/solease/solease/Lease", "<init>", "(JZ)V"⟩ : MethodName)) rfl hown (hw _ (List.mem_of_getElem? (i := 4) rfl)) (hw _ (List.mem_of_getElem? (i := 5) rfl)) (hw _ (List.mem_of_getElem? (i := 3) rfl)) (hw _ (List.mem_of_getElem? (i := 6) rfl)) (by decide) (argsL := [(.long q), (.int (1 : Int32))]) (rest := [(.ref b2)]) (own_rm_leI l Z a0 hw [] b2 q h2 n0 f4 hq A2 g_b2 F2_millis F2_renewed) e2 (W := 1) (by decide) (by decide) (by decide) (by decide) (g := (mkF m 20 #[.val (.long mm), .second, .val (.long q), .second, .unset, .unset, .unset, .unset, .unset, .unset] [(.int (1 : Int32)), (.long q), (.ref b2), (.ref b2)])) rfl (by rw [hml]; rfl) (lenOf own_pd6 rfl) rfl (by show 2 * 0 + _ ≤ _; exact Nat.le_of_eq rfl) (hb hby at_20)
    obtain ⟨rfl, Nq10, Kq10, Eq10, Fq10_millis, Fq10_renewed⟩ := hQ10
    have N10 := Fr.app N0 Nq10
    have f11 := own_Sta_keep f5 Kq10 (allS (fun cell hc => by obtain ⟨c1, _, h1, -, -, h4, -⟩ := A2; cases h1.symm.trans hc; exact h4) all0)
    have f12 := Nat.le_trans f4 Kq10.1
    have f13 := Exa.keep f6 Kq10
    have f14 := Fld.keep f7 Kq10 (ninS ne3 nin0)
    have f15 := Fld.keep f8 Kq10 (ninS ne3 nin0)
    have f16 := Keep.trans f9 Kq10 (allS (Or.inr k_b2) all0)
    have f17 := Exa.keep A2 Kq10
    refine st10 _ ?_
    show own_Goes p e below _ T10 (mkF m 23 #[.val (.long mm), .second, .val (.long q), .second, .unset, .unset, .unset, .unset, .unset, .unset] [(.ref b2)])
    refine own_by (T' := T10) (g' := (mkF m 25 #[.val (.long mm), .second, .val (.long q), .second, .val (.ref b2), .unset, .unset, .unset, .unset, .unset] [])) (fun t_ k_ => XS.astore X10.here hx rfl (hb hby at_23) rfl rfl (l' := #[.val (.long mm), .second, .val (.long q), .second, .val (.ref b2), .unset, .unset, .unset, .unset, .unset]) rfl k_) ?_
    refine own_by (T' := T10) (g' := (mkF m 27 #[.val (.long mm), .second, .val (.long q), .second, .val (.ref b2), .unset, .unset, .unset, .unset, .unset] [(.ref b2)])) (fun t_ k_ => XS.aload X10.here hx rfl (hb hby at_25) rfl rfl k_) ?_
    obtain ⟨_, T18, L18, X18, hQ18, st18⟩ := own_callV X10 hx hZ (y := (⟨"com/example/solease/solease/Lease", "renewalPeriod", "()Ljava/time/Duration;"⟩ : MethodName)) hown (hw _ (List.mem_of_getElem? (i := 19) rfl)) (hw _ (List.mem_of_getElem? (i := 20) rfl)) (hw _ (List.mem_of_getElem? (i := 22) rfl)) (hw _ (List.mem_of_getElem? (i := 21) rfl)) (hw _ (List.mem_of_getElem? (i := 3) rfl)) (hw _ (List.mem_of_getElem? (i := 23) rfl)) (by decide) (argsL := []) (rest := []) f17 (own_rm_rp l Z a0 hw [] b2 zz q T10.heap n0 f12 f11 f13 f14 f15 f17 Fq10_millis Fq10_renewed hq) rfl (W := 0) (by decide) (by decide) (by decide) (by decide) (g := (mkF m 27 #[.val (.long mm), .second, .val (.long q), .second, .val (.ref b2), .unset, .unset, .unset, .unset, .unset] [(.ref b2)])) rfl (by rw [hml]; rfl) (lenOf own_pd7 rfl) rfl (by show 2 * 0 + _ ≤ _; exact Nat.le_of_eq rfl) (hb hby at_27)
    obtain ⟨x18, s18, n18, rfl, Nq18, Kq18, Eq18, Fs18, Fn18, q18⟩ := hQ18
    have N18 := Fr.app N10 Nq18
    have f19 := own_Sta_keep f11 Kq18 all0
    have f20 := Nat.le_trans f12 Kq18.1
    have f21 := Exa.keep f13 Kq18
    have f22 := Fld.keep f14 Kq18 nin0
    have f23 := Fld.keep f15 Kq18 nin0
    have f24 := Keep.trans f16 Kq18 all0
    have f25 := Exa.keep f17 Kq18
    have f26 := Fld.keep Fq10_millis Kq18 nin0
    have f27 := Fld.keep Fq10_renewed Kq18 nin0
    refine st18 _ ?_
    show own_Goes p e below _ T18 (mkF m 30 #[.val (.long mm), .second, .val (.long q), .second, .val (.ref b2), .unset, .unset, .unset, .unset, .unset] [(.ref x18)])
    refine own_by (T' := T18) (g' := (mkF m 32 #[.val (.long mm), .second, .val (.long q), .second, .val (.ref b2), .val (.ref x18), .unset, .unset, .unset, .unset] [])) (fun t_ k_ => XS.astore X18.here hx rfl (hb hby at_30) rfl rfl (l' := #[.val (.long mm), .second, .val (.long q), .second, .val (.ref b2), .val (.ref x18), .unset, .unset, .unset, .unset]) rfl k_) ?_
    refine own_by (T' := T18) (g' := (mkF m 33 #[.val (.long mm), .second, .val (.long q), .second, .val (.ref b2), .val (.ref x18), .unset, .unset, .unset, .unset] [(.long q)])) (fun t_ k_ => XS.lloadN X18.here hx rfl (hb hby at_32) rfl k_) ?_
    refine own_by (T' := T18) (g' := (mkF m 36 #[.val (.long mm), .second, .val (.long q), .second, .val (.ref b2), .val (.ref x18), .unset, .unset, .unset, .unset] [(.long (3000 : Int64)), (.long q)])) (fun t_ k_ => X18.ldc2Long hx hown (mvT hZ (hw _ (List.mem_of_getElem? (i := 56) rfl))) (g := (mkF m 33 #[.val (.long mm), .second, .val (.long q), .second, .val (.ref b2), .val (.ref x18), .unset, .unset, .unset, .unset] [(.long q)])) rfl (hb hby at_33) _ k_) ?_
    refine own_by (T' := T18) (g' := (mkF m 37 #[.val (.long mm), .second, .val (.long q), .second, .val (.ref b2), .val (.ref x18), .unset, .unset, .unset, .unset] [(.long (q / (3000 : Int64)))])) (fun t_ k_ => XS.ldiv X18.here hx rfl (hb hby at_36) rfl (by decide) k_) ?_
    refine own_by (T' := T18) (g' := (mkF m 39 #[.val (.long mm), .second, .val (.long q), .second, .val (.ref b2), .val (.ref x18), .val (.long (q / (3000 : Int64))), .second, .unset, .unset] [])) (fun t_ k_ => XS.lstore X18.here hx rfl (hb hby at_37) rfl (l' := #[.val (.long mm), .second, .val (.long q), .second, .val (.ref b2), .val (.ref x18), .val (.long (q / (3000 : Int64))), .second, .unset, .unset]) rfl k_) ?_
    refine own_by (T' := T18) (g' := (mkF m 40 #[.val (.long mm), .second, .val (.long q), .second, .val (.ref b2), .val (.ref x18), .val (.long (q / (3000 : Int64))), .second, .unset, .unset] [(.long q)])) (fun t_ k_ => XS.lloadN X18.here hx rfl (hb hby at_39) rfl k_) ?_
    refine own_by (T' := T18) (g' := (mkF m 43 #[.val (.long mm), .second, .val (.long q), .second, .val (.ref b2), .val (.ref x18), .val (.long (q / (3000 : Int64))), .second, .unset, .unset] [(.long (3000 : Int64)), (.long q)])) (fun t_ k_ => X18.ldc2Long hx hown (mvT hZ (hw _ (List.mem_of_getElem? (i := 56) rfl))) (g := (mkF m 40 #[.val (.long mm), .second, .val (.long q), .second, .val (.ref b2), .val (.ref x18), .val (.long (q / (3000 : Int64))), .second, .unset, .unset] [(.long q)])) rfl (hb hby at_40) _ k_) ?_
    refine own_by (T' := T18) (g' := (mkF m 44 #[.val (.long mm), .second, .val (.long q), .second, .val (.ref b2), .val (.ref x18), .val (.long (q / (3000 : Int64))), .second, .unset, .unset] [(.long (q % (3000 : Int64)))])) (fun t_ k_ => own_lrem X18 hx rfl (hb hby at_43) rfl (by decide) k_) ?_
    refine own_by (T' := T18) (g' := (mkF m 47 #[.val (.long mm), .second, .val (.long q), .second, .val (.ref b2), .val (.ref x18), .val (.long (q / (3000 : Int64))), .second, .unset, .unset] [(.long (1000000 : Int64)), (.long (q % (3000 : Int64)))])) (fun t_ k_ => X18.ldc2Long hx hown (mvT hZ (hw _ (List.mem_of_getElem? (i := 57) rfl))) (g := (mkF m 44 #[.val (.long mm), .second, .val (.long q), .second, .val (.ref b2), .val (.ref x18), .val (.long (q / (3000 : Int64))), .second, .unset, .unset] [(.long (q % (3000 : Int64)))])) rfl (hb hby at_44) _ k_) ?_
    refine own_by (T' := T18) (g' := (mkF m 48 #[.val (.long mm), .second, .val (.long q), .second, .val (.ref b2), .val (.ref x18), .val (.long (q / (3000 : Int64))), .second, .unset, .unset] [(.long ((q % (3000 : Int64)) * (1000000 : Int64)))])) (fun t_ k_ => XS.lmul X18.here hx rfl (hb hby at_47) rfl k_) ?_
    refine own_by (T' := T18) (g' := (mkF m 51 #[.val (.long mm), .second, .val (.long q), .second, .val (.ref b2), .val (.ref x18), .val (.long (q / (3000 : Int64))), .second, .unset, .unset] [(.long (3 : Int64)), (.long ((q % (3000 : Int64)) * (1000000 : Int64)))])) (fun t_ k_ => X18.ldc2Long hx hown (mvT hZ (hw _ (List.mem_of_getElem? (i := 58) rfl))) (g := (mkF m 48 #[.val (.long mm), .second, .val (.long q), .second, .val (.ref b2), .val (.ref x18), .val (.long (q / (3000 : Int64))), .second, .unset, .unset] [(.long ((q % (3000 : Int64)) * (1000000 : Int64)))])) rfl (hb hby at_48) _ k_) ?_
    refine own_by (T' := T18) (g' := (mkF m 52 #[.val (.long mm), .second, .val (.long q), .second, .val (.ref b2), .val (.ref x18), .val (.long (q / (3000 : Int64))), .second, .unset, .unset] [(.long (((q % (3000 : Int64)) * (1000000 : Int64)) / (3 : Int64)))])) (fun t_ k_ => XS.ldiv X18.here hx rfl (hb hby at_51) rfl (by decide) k_) ?_
    refine own_by (T' := T18) (g' := (mkF m 54 #[.val (.long mm), .second, .val (.long q), .second, .val (.ref b2), .val (.ref x18), .val (.long (q / (3000 : Int64))), .second, .val (.long (((q % (3000 : Int64)) * (1000000 : Int64)) / (3 : Int64))), .second] [])) (fun t_ k_ => XS.lstore X18.here hx rfl (hb hby at_52) rfl (l' := #[.val (.long mm), .second, .val (.long q), .second, .val (.ref b2), .val (.ref x18), .val (.long (q / (3000 : Int64))), .second, .val (.long (((q % (3000 : Int64)) * (1000000 : Int64)) / (3 : Int64))), .second]) rfl k_) ?_
    refine own_by (T' := T18) (g' := (mkF m 56 #[.val (.long mm), .second, .val (.long q), .second, .val (.ref b2), .val (.ref x18), .val (.long (q / (3000 : Int64))), .second, .val (.long (((q % (3000 : Int64)) * (1000000 : Int64)) / (3 : Int64))), .second] [(.ref x18)])) (fun t_ k_ => XS.aload X18.here hx rfl (hb hby at_54) rfl rfl k_) ?_
    obtain ⟨_, T28, L28, X28, hQ28, st28⟩ := own_callV X18 hx hZ (y := (⟨"java/time/Duration", "getSeconds", "()J"⟩ : MethodName)) hown (hw _ (List.mem_of_getElem? (i := 59) rfl)) (hw _ (List.mem_of_getElem? (i := 60) rfl)) (hw _ (List.mem_of_getElem? (i := 62) rfl)) (hw _ (List.mem_of_getElem? (i := 61) rfl)) (hw _ (List.mem_of_getElem? (i := 27) rfl)) (hw _ (List.mem_of_getElem? (i := 63) rfl)) (by decide) (argsL := []) (rest := []) Eq18 (own_rm_gs l Z a0 hw [] x18 s18 T18.heap n0 f20 Fs18) rfl (W := 0) (by decide) (by decide) (by decide) (by decide) (g := (mkF m 56 #[.val (.long mm), .second, .val (.long q), .second, .val (.ref b2), .val (.ref x18), .val (.long (q / (3000 : Int64))), .second, .val (.long (((q % (3000 : Int64)) * (1000000 : Int64)) / (3 : Int64))), .second] [(.ref x18)])) rfl (by rw [hml]; rfl) (lenOf own_pd8 rfl) rfl (by show 2 * 0 + _ ≤ _; exact Nat.le_of_eq rfl) (hb hby at_56)
    obtain ⟨rfl, Nq28, e28⟩ := hQ28
    have N28 := Fr.app N18 Nq28
    refine st28 _ ?_
    show own_Goes p e below _ T28 (mkF m 59 #[.val (.long mm), .second, .val (.long q), .second, .val (.ref b2), .val (.ref x18), .val (.long (q / (3000 : Int64))), .second, .val (.long (((q % (3000 : Int64)) * (1000000 : Int64)) / (3 : Int64))), .second] [(.long s18)])
    refine own_by (T' := T28) (g' := (mkF m 61 #[.val (.long mm), .second, .val (.long q), .second, .val (.ref b2), .val (.ref x18), .val (.long (q / (3000 : Int64))), .second, .val (.long (((q % (3000 : Int64)) * (1000000 : Int64)) / (3 : Int64))), .second] [(.long (q / (3000 : Int64))), (.long s18)])) (fun t_ k_ => XS.lload X28.here hx rfl (hb hby at_59) rfl k_) ?_
    refine own_by (T' := T28) (g' := (mkF m 62 #[.val (.long mm), .second, .val (.long q), .second, .val (.ref b2), .val (.ref x18), .val (.long (q / (3000 : Int64))), .second, .val (.long (((q % (3000 : Int64)) * (1000000 : Int64)) / (3 : Int64))), .second] [(.int (lcmpW s18 (q / (3000 : Int64))))])) (fun t_ k_ => XS.lcmp X28.here hx rfl (hb hby at_61) rfl k_) ?_
    refine own_by (T' := T28) (g' := (mkF m 65 #[.val (.long mm), .second, .val (.long q), .second, .val (.ref b2), .val (.ref x18), .val (.long (q / (3000 : Int64))), .second, .val (.long (((q % (3000 : Int64)) * (1000000 : Int64)) / (3 : Int64))), .second] [])) (fun t_ k_ => XS.ifNo X28.here hx rfl (hb hby at_62) rfl ((if0 _ _).trans (teq (((lw_eq _ _).mpr (own_e1 q _ _ hq q18)) : (lcmpW s18 (q / (3000 : Int64))) = (0 : Int32))).2) k_) ?_
    refine own_by (T' := T28) (g' := (mkF m 67 #[.val (.long mm), .second, .val (.long q), .second, .val (.ref b2), .val (.ref x18), .val (.long (q / (3000 : Int64))), .second, .val (.long (((q % (3000 : Int64)) * (1000000 : Int64)) / (3 : Int64))), .second] [(.ref x18)])) (fun t_ k_ => XS.aload X28.here hx rfl (hb hby at_65) rfl rfl k_) ?_
    obtain ⟨_, T29, L29, X29, hQ29, st29⟩ := own_callV X28 hx hZ (y := (⟨"java/time/Duration", "getNano", "()I"⟩ : MethodName)) hown (hw _ (List.mem_of_getElem? (i := 64) rfl)) (hw _ (List.mem_of_getElem? (i := 65) rfl)) (hw _ (List.mem_of_getElem? (i := 67) rfl)) (hw _ (List.mem_of_getElem? (i := 66) rfl)) (hw _ (List.mem_of_getElem? (i := 27) rfl)) (hw _ (List.mem_of_getElem? (i := 68) rfl)) (by decide) (argsL := []) (rest := []) Eq18 (own_rm_gn l Z a0 hw [] x18 n18 T18.heap n0 f20 Fn18) e28 (W := 0) (by decide) (by decide) (by decide) (by decide) (g := (mkF m 67 #[.val (.long mm), .second, .val (.long q), .second, .val (.ref b2), .val (.ref x18), .val (.long (q / (3000 : Int64))), .second, .val (.long (((q % (3000 : Int64)) * (1000000 : Int64)) / (3 : Int64))), .second] [(.ref x18)])) rfl (by rw [hml]; rfl) (lenOf own_pd9 rfl) rfl (by show 2 * 0 + _ ≤ _; exact Nat.le_of_eq rfl) (hb hby at_67)
    obtain ⟨rfl, Nq29, e29⟩ := hQ29
    have N29 := Fr.app N28 Nq29
    refine st29 _ ?_
    show own_Goes p e below _ T29 (mkF m 70 #[.val (.long mm), .second, .val (.long q), .second, .val (.ref b2), .val (.ref x18), .val (.long (q / (3000 : Int64))), .second, .val (.long (((q % (3000 : Int64)) * (1000000 : Int64)) / (3 : Int64))), .second] [(.int n18)])
    refine own_by (T' := T29) (g' := (mkF m 71 #[.val (.long mm), .second, .val (.long q), .second, .val (.ref b2), .val (.ref x18), .val (.long (q / (3000 : Int64))), .second, .val (.long (((q % (3000 : Int64)) * (1000000 : Int64)) / (3 : Int64))), .second] [(.long n18.toInt64)])) (fun t_ k_ => XS.i2l X29.here hx rfl (hb hby at_70) rfl k_) ?_
    refine own_by (T' := T29) (g' := (mkF m 73 #[.val (.long mm), .second, .val (.long q), .second, .val (.ref b2), .val (.ref x18), .val (.long (q / (3000 : Int64))), .second, .val (.long (((q % (3000 : Int64)) * (1000000 : Int64)) / (3 : Int64))), .second] [(.long (((q % (3000 : Int64)) * (1000000 : Int64)) / (3 : Int64))), (.long n18.toInt64)])) (fun t_ k_ => XS.lload X29.here hx rfl (hb hby at_71) rfl k_) ?_
    refine own_by (T' := T29) (g' := (mkF m 74 #[.val (.long mm), .second, .val (.long q), .second, .val (.ref b2), .val (.ref x18), .val (.long (q / (3000 : Int64))), .second, .val (.long (((q % (3000 : Int64)) * (1000000 : Int64)) / (3 : Int64))), .second] [(.int (lcmpW n18.toInt64 (((q % (3000 : Int64)) * (1000000 : Int64)) / (3 : Int64))))])) (fun t_ k_ => XS.lcmp X29.here hx rfl (hb hby at_73) rfl k_) ?_
    refine own_by (T' := T29) (g' := (mkF m 77 #[.val (.long mm), .second, .val (.long q), .second, .val (.ref b2), .val (.ref x18), .val (.long (q / (3000 : Int64))), .second, .val (.long (((q % (3000 : Int64)) * (1000000 : Int64)) / (3 : Int64))), .second] [])) (fun t_ k_ => XS.ifNo X29.here hx rfl (hb hby at_74) rfl ((if0 _ _).trans (teq (((lw_eq _ _).mpr (own_e2 q _ _ hq q18)) : (lcmpW n18.toInt64 (((q % (3000 : Int64)) * (1000000 : Int64)) / (3 : Int64))) = (0 : Int32))).2) k_) ?_
    refine own_by (T' := T29) (g' := (mkF m 78 #[.val (.long mm), .second, .val (.long q), .second, .val (.ref b2), .val (.ref x18), .val (.long (q / (3000 : Int64))), .second, .val (.long (((q % (3000 : Int64)) * (1000000 : Int64)) / (3 : Int64))), .second] [(.int (1 : Int32))])) (fun t_ k_ => XS.iconst X29.here hx rfl (hb hby at_77) k_) ?_
    refine own_by (T' := T29) (g' := (mkF m 82 #[.val (.long mm), .second, .val (.long q), .second, .val (.ref b2), .val (.ref x18), .val (.long (q / (3000 : Int64))), .second, .val (.long (((q % (3000 : Int64)) * (1000000 : Int64)) / (3 : Int64))), .second] [(.int (1 : Int32))])) (fun t_ k_ => XS.goto X29.here hx rfl (pc0 := 78) (pc' := 82) rfl (hb hby at_78) (by decide) (by decide) k_) ?_
    refine own_retN X29 hx (t := .boolean) Bd.returns hlk (by simp) (hb hby at_82) (by decide) (by decide) (v := (1 : Int32)) rfl ?_
    rw [e29]
    exact ⟨rfl, N29⟩
  · skip
    refine own_by (T' := s₁) (g' := (mkF m 14 #[.val (.long mm), .second, .val (.long (mm &&& (9223372036854775807 : Int64))), .second, .unset, .unset, .unset, .unset, .unset, .unset] [])) (fun t_ k_ => XS.ifYes X0.here hx rfl (pc0 := 9) (pc' := 14) rfl (hb hby at_9) rfl ((if0 _ _).trans (feq ((fun q_ => c9_1 ((lw_eq _ _).mp q_)) : ¬ ((lcmpW (mm &&& (9223372036854775807 : Int64)) (0 : Int64)) = (0 : Int32)))).2) (by decide) (by decide) k_) ?_
    obtain ⟨q, hqe⟩ : ∃ z, z = (mm &&& (9223372036854775807 : Int64)) := ⟨_, rfl⟩
    have hq : (0 : Int64) < q := by rw [hqe]; exact own_pos mm c9_1
    rw [← hqe]
    obtain ⟨T30, h30, X30, e30, E30, A30, D30, -, st30⟩ := newO X0 hx hZ hown (hw _ (List.mem_of_getElem? (i := 1) rfl)) (hw _ (List.mem_of_getElem? (i := 2) rfl)) (hw _ (List.mem_of_getElem? (i := 3) rfl)) e0 (g := (mkF m 14 #[.val (.long mm), .second, .val (.long q), .second, .unset, .unset, .unset, .unset, .unset, .unset] [])) rfl (hb hby at_14) (by decide) (by decide)
    obtain ⟨b30, g30⟩ : ∃ z, z = h0.size := ⟨_, rfl⟩
    rw [← g30] at A30 D30 st30
    have g_b30 : n0 ≤ b30 := Nat.le_trans Z0 (Nat.le_of_eq g30.symm)
    have ne31 : zz ≠ b30 := Nat.ne_of_lt (Nat.lt_of_lt_of_le E_Z.lt (Nat.le_of_eq g30.symm))
    have k_b30 : h0.size ≤ b30 := Nat.le_trans K0.1 (Nat.le_of_eq g30.symm)
    have f32 := Nat.le_trans Z0 E30.1
    have f33 := Sta.ext E30 S_Z
    have f34 := Exa.ext E30 E_Z
    have f35 := Fld.ext E30 Fz_s
    have f36 := Fld.ext E30 Fz_n
    have f37 := K0.ext E30
    have F30_millis : Fld Z h30 b30 "com/example/solease/solease/Lease" "millis" "J" (.long (0 : Int64)) := D30 (Or.inr (hw _ (List.mem_of_getElem? (i := 16) rfl))) (ty := .long) (by decide)
    have F30_renewed : Fld Z h30 b30 "com/example/solease/solease/Lease" "renewed" "Z" (.int (0 : Int32)) := D30 (Or.inr (hw _ (List.mem_of_getElem? (i := 18) rfl))) (ty := .boolean) (by decide)
    refine own_by (T' := T30) (g' := (mkF m 17 #[.val (.long mm), .second, .val (.long q), .second, .unset, .unset, .unset, .unset, .unset, .unset] [(.ref b30)])) st30 ?_
    refine own_by (T' := T30) (g' := (mkF m 18 #[.val (.long mm), .second, .val (.long q), .second, .unset, .unset, .unset, .unset, .unset, .unset] [(.ref b30), (.ref b30)])) (fun t_ k_ => XS.dup X30.here hx rfl (hb hby at_17) rfl rfl k_) ?_
    refine own_by (T' := T30) (g' := (mkF m 19 #[.val (.long mm), .second, .val (.long q), .second, .unset, .unset, .unset, .unset, .unset, .unset] [(.long q), (.ref b30), (.ref b30)])) (fun t_ k_ => XS.lloadN X30.here hx rfl (hb hby at_18) rfl k_) ?_
    refine own_by (T' := T30) (g' := (mkF m 20 #[.val (.long mm), .second, .val (.long q), .second, .unset, .unset, .unset, .unset, .unset, .unset] [(.int (1 : Int32)), (.long q), (.ref b30), (.ref b30)])) (fun t_ k_ => XS.iconst X30.here hx rfl (hb hby at_19) k_) ?_
    obtain ⟨_, T38, L38, X38, hQ38, st38⟩ := own_callI X30 hx hZ (y := (⟨"com/example/solease/solease/Lease", "<init>", "(JZ)V"⟩ : MethodName)) rfl hown (hw _ (List.mem_of_getElem? (i := 4) rfl)) (hw _ (List.mem_of_getElem? (i := 5) rfl)) (hw _ (List.mem_of_getElem? (i := 3) rfl)) (hw _ (List.mem_of_getElem? (i := 6) rfl)) (by decide) (argsL := [(.long q), (.int (1 : Int32))]) (rest := [(.ref b30)]) (own_rm_leI l Z a0 hw [] b30 q h30 n0 f32 hq A30 g_b30 F30_millis F30_renewed) e30 (W := 1) (by decide) (by decide) (by decide) (by decide) (g := (mkF m 20 #[.val (.long mm), .second, .val (.long q), .second, .unset, .unset, .unset, .unset, .unset, .unset] [(.int (1 : Int32)), (.long q), (.ref b30), (.ref b30)])) rfl (by rw [hml]; rfl) (lenOf own_pd6 rfl) rfl (by show 2 * 0 + _ ≤ _; exact Nat.le_of_eq rfl) (hb hby at_20)
    obtain ⟨rfl, Nq38, Kq38, Eq38, Fq38_millis, Fq38_renewed⟩ := hQ38
    have N38 := Fr.app N0 Nq38
    have f39 := own_Sta_keep f33 Kq38 (allS (fun cell hc => by obtain ⟨c1, _, h1, -, -, h4, -⟩ := A30; cases h1.symm.trans hc; exact h4) all0)
    have f40 := Nat.le_trans f32 Kq38.1
    have f41 := Exa.keep f34 Kq38
    have f42 := Fld.keep f35 Kq38 (ninS ne31 nin0)
    have f43 := Fld.keep f36 Kq38 (ninS ne31 nin0)
    have f44 := Keep.trans f37 Kq38 (allS (Or.inr k_b30) all0)
    have f45 := Exa.keep A30 Kq38
    refine st38 _ ?_
    show own_Goes p e below _ T38 (mkF m 23 #[.val (.long mm), .second, .val (.long q), .second, .unset, .unset, .unset, .unset, .unset, .unset] [(.ref b30)])
    refine own_by (T' := T38) (g' := (mkF m 25 #[.val (.long mm), .second, .val (.long q), .second, .val (.ref b30), .unset, .unset, .unset, .unset, .unset] [])) (fun t_ k_ => XS.astore X38.here hx rfl (hb hby at_23) rfl rfl (l' := #[.val (.long mm), .second, .val (.long q), .second, .val (.ref b30), .unset, .unset, .unset, .unset, .unset]) rfl k_) ?_
    refine own_by (T' := T38) (g' := (mkF m 27 #[.val (.long mm), .second, .val (.long q), .second, .val (.ref b30), .unset, .unset, .unset, .unset, .unset] [(.ref b30)])) (fun t_ k_ => XS.aload X38.here hx rfl (hb hby at_25) rfl rfl k_) ?_
    obtain ⟨_, T46, L46, X46, hQ46, st46⟩ := own_callV X38 hx hZ (y := (⟨"com/example/solease/solease/Lease", "renewalPeriod", "()Ljava/time/Duration;"⟩ : MethodName)) hown (hw _ (List.mem_of_getElem? (i := 19) rfl)) (hw _ (List.mem_of_getElem? (i := 20) rfl)) (hw _ (List.mem_of_getElem? (i := 22) rfl)) (hw _ (List.mem_of_getElem? (i := 21) rfl)) (hw _ (List.mem_of_getElem? (i := 3) rfl)) (hw _ (List.mem_of_getElem? (i := 23) rfl)) (by decide) (argsL := []) (rest := []) f45 (own_rm_rp l Z a0 hw [] b30 zz q T38.heap n0 f40 f39 f41 f42 f43 f45 Fq38_millis Fq38_renewed hq) rfl (W := 0) (by decide) (by decide) (by decide) (by decide) (g := (mkF m 27 #[.val (.long mm), .second, .val (.long q), .second, .val (.ref b30), .unset, .unset, .unset, .unset, .unset] [(.ref b30)])) rfl (by rw [hml]; rfl) (lenOf own_pd7 rfl) rfl (by show 2 * 0 + _ ≤ _; exact Nat.le_of_eq rfl) (hb hby at_27)
    obtain ⟨x46, s46, n46, rfl, Nq46, Kq46, Eq46, Fs46, Fn46, q46⟩ := hQ46
    have N46 := Fr.app N38 Nq46
    have f47 := own_Sta_keep f39 Kq46 all0
    have f48 := Nat.le_trans f40 Kq46.1
    have f49 := Exa.keep f41 Kq46
    have f50 := Fld.keep f42 Kq46 nin0
    have f51 := Fld.keep f43 Kq46 nin0
    have f52 := Keep.trans f44 Kq46 all0
    have f53 := Exa.keep f45 Kq46
    have f54 := Fld.keep Fq38_millis Kq46 nin0
    have f55 := Fld.keep Fq38_renewed Kq46 nin0
    refine st46 _ ?_
    show own_Goes p e below _ T46 (mkF m 30 #[.val (.long mm), .second, .val (.long q), .second, .val (.ref b30), .unset, .unset, .unset, .unset, .unset] [(.ref x46)])
    refine own_by (T' := T46) (g' := (mkF m 32 #[.val (.long mm), .second, .val (.long q), .second, .val (.ref b30), .val (.ref x46), .unset, .unset, .unset, .unset] [])) (fun t_ k_ => XS.astore X46.here hx rfl (hb hby at_30) rfl rfl (l' := #[.val (.long mm), .second, .val (.long q), .second, .val (.ref b30), .val (.ref x46), .unset, .unset, .unset, .unset]) rfl k_) ?_
    refine own_by (T' := T46) (g' := (mkF m 33 #[.val (.long mm), .second, .val (.long q), .second, .val (.ref b30), .val (.ref x46), .unset, .unset, .unset, .unset] [(.long q)])) (fun t_ k_ => XS.lloadN X46.here hx rfl (hb hby at_32) rfl k_) ?_
    refine own_by (T' := T46) (g' := (mkF m 36 #[.val (.long mm), .second, .val (.long q), .second, .val (.ref b30), .val (.ref x46), .unset, .unset, .unset, .unset] [(.long (3000 : Int64)), (.long q)])) (fun t_ k_ => X46.ldc2Long hx hown (mvT hZ (hw _ (List.mem_of_getElem? (i := 56) rfl))) (g := (mkF m 33 #[.val (.long mm), .second, .val (.long q), .second, .val (.ref b30), .val (.ref x46), .unset, .unset, .unset, .unset] [(.long q)])) rfl (hb hby at_33) _ k_) ?_
    refine own_by (T' := T46) (g' := (mkF m 37 #[.val (.long mm), .second, .val (.long q), .second, .val (.ref b30), .val (.ref x46), .unset, .unset, .unset, .unset] [(.long (q / (3000 : Int64)))])) (fun t_ k_ => XS.ldiv X46.here hx rfl (hb hby at_36) rfl (by decide) k_) ?_
    refine own_by (T' := T46) (g' := (mkF m 39 #[.val (.long mm), .second, .val (.long q), .second, .val (.ref b30), .val (.ref x46), .val (.long (q / (3000 : Int64))), .second, .unset, .unset] [])) (fun t_ k_ => XS.lstore X46.here hx rfl (hb hby at_37) rfl (l' := #[.val (.long mm), .second, .val (.long q), .second, .val (.ref b30), .val (.ref x46), .val (.long (q / (3000 : Int64))), .second, .unset, .unset]) rfl k_) ?_
    refine own_by (T' := T46) (g' := (mkF m 40 #[.val (.long mm), .second, .val (.long q), .second, .val (.ref b30), .val (.ref x46), .val (.long (q / (3000 : Int64))), .second, .unset, .unset] [(.long q)])) (fun t_ k_ => XS.lloadN X46.here hx rfl (hb hby at_39) rfl k_) ?_
    refine own_by (T' := T46) (g' := (mkF m 43 #[.val (.long mm), .second, .val (.long q), .second, .val (.ref b30), .val (.ref x46), .val (.long (q / (3000 : Int64))), .second, .unset, .unset] [(.long (3000 : Int64)), (.long q)])) (fun t_ k_ => X46.ldc2Long hx hown (mvT hZ (hw _ (List.mem_of_getElem? (i := 56) rfl))) (g := (mkF m 40 #[.val (.long mm), .second, .val (.long q), .second, .val (.ref b30), .val (.ref x46), .val (.long (q / (3000 : Int64))), .second, .unset, .unset] [(.long q)])) rfl (hb hby at_40) _ k_) ?_
    refine own_by (T' := T46) (g' := (mkF m 44 #[.val (.long mm), .second, .val (.long q), .second, .val (.ref b30), .val (.ref x46), .val (.long (q / (3000 : Int64))), .second, .unset, .unset] [(.long (q % (3000 : Int64)))])) (fun t_ k_ => own_lrem X46 hx rfl (hb hby at_43) rfl (by decide) k_) ?_
    refine own_by (T' := T46) (g' := (mkF m 47 #[.val (.long mm), .second, .val (.long q), .second, .val (.ref b30), .val (.ref x46), .val (.long (q / (3000 : Int64))), .second, .unset, .unset] [(.long (1000000 : Int64)), (.long (q % (3000 : Int64)))])) (fun t_ k_ => X46.ldc2Long hx hown (mvT hZ (hw _ (List.mem_of_getElem? (i := 57) rfl))) (g := (mkF m 44 #[.val (.long mm), .second, .val (.long q), .second, .val (.ref b30), .val (.ref x46), .val (.long (q / (3000 : Int64))), .second, .unset, .unset] [(.long (q % (3000 : Int64)))])) rfl (hb hby at_44) _ k_) ?_
    refine own_by (T' := T46) (g' := (mkF m 48 #[.val (.long mm), .second, .val (.long q), .second, .val (.ref b30), .val (.ref x46), .val (.long (q / (3000 : Int64))), .second, .unset, .unset] [(.long ((q % (3000 : Int64)) * (1000000 : Int64)))])) (fun t_ k_ => XS.lmul X46.here hx rfl (hb hby at_47) rfl k_) ?_
    refine own_by (T' := T46) (g' := (mkF m 51 #[.val (.long mm), .second, .val (.long q), .second, .val (.ref b30), .val (.ref x46), .val (.long (q / (3000 : Int64))), .second, .unset, .unset] [(.long (3 : Int64)), (.long ((q % (3000 : Int64)) * (1000000 : Int64)))])) (fun t_ k_ => X46.ldc2Long hx hown (mvT hZ (hw _ (List.mem_of_getElem? (i := 58) rfl))) (g := (mkF m 48 #[.val (.long mm), .second, .val (.long q), .second, .val (.ref b30), .val (.ref x46), .val (.long (q / (3000 : Int64))), .second, .unset, .unset] [(.long ((q % (3000 : Int64)) * (1000000 : Int64)))])) rfl (hb hby at_48) _ k_) ?_
    refine own_by (T' := T46) (g' := (mkF m 52 #[.val (.long mm), .second, .val (.long q), .second, .val (.ref b30), .val (.ref x46), .val (.long (q / (3000 : Int64))), .second, .unset, .unset] [(.long (((q % (3000 : Int64)) * (1000000 : Int64)) / (3 : Int64)))])) (fun t_ k_ => XS.ldiv X46.here hx rfl (hb hby at_51) rfl (by decide) k_) ?_
    refine own_by (T' := T46) (g' := (mkF m 54 #[.val (.long mm), .second, .val (.long q), .second, .val (.ref b30), .val (.ref x46), .val (.long (q / (3000 : Int64))), .second, .val (.long (((q % (3000 : Int64)) * (1000000 : Int64)) / (3 : Int64))), .second] [])) (fun t_ k_ => XS.lstore X46.here hx rfl (hb hby at_52) rfl (l' := #[.val (.long mm), .second, .val (.long q), .second, .val (.ref b30), .val (.ref x46), .val (.long (q / (3000 : Int64))), .second, .val (.long (((q % (3000 : Int64)) * (1000000 : Int64)) / (3 : Int64))), .second]) rfl k_) ?_
    refine own_by (T' := T46) (g' := (mkF m 56 #[.val (.long mm), .second, .val (.long q), .second, .val (.ref b30), .val (.ref x46), .val (.long (q / (3000 : Int64))), .second, .val (.long (((q % (3000 : Int64)) * (1000000 : Int64)) / (3 : Int64))), .second] [(.ref x46)])) (fun t_ k_ => XS.aload X46.here hx rfl (hb hby at_54) rfl rfl k_) ?_
    obtain ⟨_, T56, L56, X56, hQ56, st56⟩ := own_callV X46 hx hZ (y := (⟨"java/time/Duration", "getSeconds", "()J"⟩ : MethodName)) hown (hw _ (List.mem_of_getElem? (i := 59) rfl)) (hw _ (List.mem_of_getElem? (i := 60) rfl)) (hw _ (List.mem_of_getElem? (i := 62) rfl)) (hw _ (List.mem_of_getElem? (i := 61) rfl)) (hw _ (List.mem_of_getElem? (i := 27) rfl)) (hw _ (List.mem_of_getElem? (i := 63) rfl)) (by decide) (argsL := []) (rest := []) Eq46 (own_rm_gs l Z a0 hw [] x46 s46 T46.heap n0 f48 Fs46) rfl (W := 0) (by decide) (by decide) (by decide) (by decide) (g := (mkF m 56 #[.val (.long mm), .second, .val (.long q), .second, .val (.ref b30), .val (.ref x46), .val (.long (q / (3000 : Int64))), .second, .val (.long (((q % (3000 : Int64)) * (1000000 : Int64)) / (3 : Int64))), .second] [(.ref x46)])) rfl (by rw [hml]; rfl) (lenOf own_pd8 rfl) rfl (by show 2 * 0 + _ ≤ _; exact Nat.le_of_eq rfl) (hb hby at_56)
    obtain ⟨rfl, Nq56, e56⟩ := hQ56
    have N56 := Fr.app N46 Nq56
    refine st56 _ ?_
    show own_Goes p e below _ T56 (mkF m 59 #[.val (.long mm), .second, .val (.long q), .second, .val (.ref b30), .val (.ref x46), .val (.long (q / (3000 : Int64))), .second, .val (.long (((q % (3000 : Int64)) * (1000000 : Int64)) / (3 : Int64))), .second] [(.long s46)])
    refine own_by (T' := T56) (g' := (mkF m 61 #[.val (.long mm), .second, .val (.long q), .second, .val (.ref b30), .val (.ref x46), .val (.long (q / (3000 : Int64))), .second, .val (.long (((q % (3000 : Int64)) * (1000000 : Int64)) / (3 : Int64))), .second] [(.long (q / (3000 : Int64))), (.long s46)])) (fun t_ k_ => XS.lload X56.here hx rfl (hb hby at_59) rfl k_) ?_
    refine own_by (T' := T56) (g' := (mkF m 62 #[.val (.long mm), .second, .val (.long q), .second, .val (.ref b30), .val (.ref x46), .val (.long (q / (3000 : Int64))), .second, .val (.long (((q % (3000 : Int64)) * (1000000 : Int64)) / (3 : Int64))), .second] [(.int (lcmpW s46 (q / (3000 : Int64))))])) (fun t_ k_ => XS.lcmp X56.here hx rfl (hb hby at_61) rfl k_) ?_
    refine own_by (T' := T56) (g' := (mkF m 65 #[.val (.long mm), .second, .val (.long q), .second, .val (.ref b30), .val (.ref x46), .val (.long (q / (3000 : Int64))), .second, .val (.long (((q % (3000 : Int64)) * (1000000 : Int64)) / (3 : Int64))), .second] [])) (fun t_ k_ => XS.ifNo X56.here hx rfl (hb hby at_62) rfl ((if0 _ _).trans (teq (((lw_eq _ _).mpr (own_e1 q _ _ hq q46)) : (lcmpW s46 (q / (3000 : Int64))) = (0 : Int32))).2) k_) ?_
    refine own_by (T' := T56) (g' := (mkF m 67 #[.val (.long mm), .second, .val (.long q), .second, .val (.ref b30), .val (.ref x46), .val (.long (q / (3000 : Int64))), .second, .val (.long (((q % (3000 : Int64)) * (1000000 : Int64)) / (3 : Int64))), .second] [(.ref x46)])) (fun t_ k_ => XS.aload X56.here hx rfl (hb hby at_65) rfl rfl k_) ?_
    obtain ⟨_, T57, L57, X57, hQ57, st57⟩ := own_callV X56 hx hZ (y := (⟨"java/time/Duration", "getNano", "()I"⟩ : MethodName)) hown (hw _ (List.mem_of_getElem? (i := 64) rfl)) (hw _ (List.mem_of_getElem? (i := 65) rfl)) (hw _ (List.mem_of_getElem? (i := 67) rfl)) (hw _ (List.mem_of_getElem? (i := 66) rfl)) (hw _ (List.mem_of_getElem? (i := 27) rfl)) (hw _ (List.mem_of_getElem? (i := 68) rfl)) (by decide) (argsL := []) (rest := []) Eq46 (own_rm_gn l Z a0 hw [] x46 n46 T46.heap n0 f48 Fn46) e56 (W := 0) (by decide) (by decide) (by decide) (by decide) (g := (mkF m 67 #[.val (.long mm), .second, .val (.long q), .second, .val (.ref b30), .val (.ref x46), .val (.long (q / (3000 : Int64))), .second, .val (.long (((q % (3000 : Int64)) * (1000000 : Int64)) / (3 : Int64))), .second] [(.ref x46)])) rfl (by rw [hml]; rfl) (lenOf own_pd9 rfl) rfl (by show 2 * 0 + _ ≤ _; exact Nat.le_of_eq rfl) (hb hby at_67)
    obtain ⟨rfl, Nq57, e57⟩ := hQ57
    have N57 := Fr.app N56 Nq57
    refine st57 _ ?_
    show own_Goes p e below _ T57 (mkF m 70 #[.val (.long mm), .second, .val (.long q), .second, .val (.ref b30), .val (.ref x46), .val (.long (q / (3000 : Int64))), .second, .val (.long (((q % (3000 : Int64)) * (1000000 : Int64)) / (3 : Int64))), .second] [(.int n46)])
    refine own_by (T' := T57) (g' := (mkF m 71 #[.val (.long mm), .second, .val (.long q), .second, .val (.ref b30), .val (.ref x46), .val (.long (q / (3000 : Int64))), .second, .val (.long (((q % (3000 : Int64)) * (1000000 : Int64)) / (3 : Int64))), .second] [(.long n46.toInt64)])) (fun t_ k_ => XS.i2l X57.here hx rfl (hb hby at_70) rfl k_) ?_
    refine own_by (T' := T57) (g' := (mkF m 73 #[.val (.long mm), .second, .val (.long q), .second, .val (.ref b30), .val (.ref x46), .val (.long (q / (3000 : Int64))), .second, .val (.long (((q % (3000 : Int64)) * (1000000 : Int64)) / (3 : Int64))), .second] [(.long (((q % (3000 : Int64)) * (1000000 : Int64)) / (3 : Int64))), (.long n46.toInt64)])) (fun t_ k_ => XS.lload X57.here hx rfl (hb hby at_71) rfl k_) ?_
    refine own_by (T' := T57) (g' := (mkF m 74 #[.val (.long mm), .second, .val (.long q), .second, .val (.ref b30), .val (.ref x46), .val (.long (q / (3000 : Int64))), .second, .val (.long (((q % (3000 : Int64)) * (1000000 : Int64)) / (3 : Int64))), .second] [(.int (lcmpW n46.toInt64 (((q % (3000 : Int64)) * (1000000 : Int64)) / (3 : Int64))))])) (fun t_ k_ => XS.lcmp X57.here hx rfl (hb hby at_73) rfl k_) ?_
    refine own_by (T' := T57) (g' := (mkF m 77 #[.val (.long mm), .second, .val (.long q), .second, .val (.ref b30), .val (.ref x46), .val (.long (q / (3000 : Int64))), .second, .val (.long (((q % (3000 : Int64)) * (1000000 : Int64)) / (3 : Int64))), .second] [])) (fun t_ k_ => XS.ifNo X57.here hx rfl (hb hby at_74) rfl ((if0 _ _).trans (teq (((lw_eq _ _).mpr (own_e2 q _ _ hq q46)) : (lcmpW n46.toInt64 (((q % (3000 : Int64)) * (1000000 : Int64)) / (3 : Int64))) = (0 : Int32))).2) k_) ?_
    refine own_by (T' := T57) (g' := (mkF m 78 #[.val (.long mm), .second, .val (.long q), .second, .val (.ref b30), .val (.ref x46), .val (.long (q / (3000 : Int64))), .second, .val (.long (((q % (3000 : Int64)) * (1000000 : Int64)) / (3 : Int64))), .second] [(.int (1 : Int32))])) (fun t_ k_ => XS.iconst X57.here hx rfl (hb hby at_77) k_) ?_
    refine own_by (T' := T57) (g' := (mkF m 82 #[.val (.long mm), .second, .val (.long q), .second, .val (.ref b30), .val (.ref x46), .val (.long (q / (3000 : Int64))), .second, .val (.long (((q % (3000 : Int64)) * (1000000 : Int64)) / (3 : Int64))), .second] [(.int (1 : Int32))])) (fun t_ k_ => XS.goto X57.here hx rfl (pc0 := 78) (pc' := 82) rfl (hb hby at_78) (by decide) (by decide) k_) ?_
    refine own_retN X57 hx (t := .boolean) Bd.returns hlk (by simp) (hb hby at_82) (by decide) (by decide) (v := (1 : Int32)) rfl ?_
    rw [e57]
    exact ⟨rfl, N57⟩
set_option maxRecDepth 65536 in
set_option maxHeartbeats 40000000 in
theorem own_comes {Post : Tables → Env → Array Value → State → Outcome → State → Prop} (hpost : ∀ tb e args s v u, (limb_1_1.after args s (.returned v) u = true ∧ limb_1_2.after args s (.returned v) u = true ∧ True) → FrameEnd s (.returned v) u (Jvm.fieldLocs frame_1_writes args s ++ Jvm.arrayLocs frame_1_arrays args s ++ Jvm.staticLocs frame_1_statics s) 16 128 → Post tb e args s (.returned v) u) :
    ArmFor flags0 classFile x code maxLocals ret World_1 tables_1 room_1 Calls_1 rest_1 Pre_1 Post := by
  intro l hfl _ _ p e ha hc hk s m args below hf hA hF happ hP
  obtain ⟨hcalls, hrest, hpre⟩ := hP
  obtain ⟨-, -, -, hnamed, -, -, -, hat⟩ := (Spec.applies_iff hf).mp happ
  obtain ⟨hg, hn⟩ := and_e (Cond.before_iff.mp (show (Jvm.Cond.and given_1 narrow_1).before args s = true from hpre))
  obtain ⟨g0, gr0⟩ := and_e hg
  obtain ⟨w0, rfl⟩ : ∃ w0 : Value, args = #[w0] := by
    have hs : args.size = 1 := by simpa [Cond.value, given_1] using g0
    obtain ⟨L⟩ := args
    match L, hs with
    | [w0], _ => exact ⟨w0, rfl⟩
  have hw := fun d (hd : d ∈ tables_1) => atoms_spec (ws := Jvm.Cond.code x code maxLocals ret :: tables_1) hat d (List.mem_cons_of_mem _ hd)
  have hfit : Fit s := fun {y c} hc i hi => by
    obtain ⟨ha, rfl⟩ := Array.getElem?_eq_some_iff.mp hc
    have q := List.all_eq_true.mp ((Array.all_eq_true_iff_forall_mem.mp hF) _ (Array.getElem_mem ha)) i (List.mem_range.mpr hi)
    simpa [Array.getElem?_eq_getElem hi] using q
  obtain ⟨i0, ei0⟩ := isL_v gr0
  obtain rfl : w0 = (.long i0) := Option.some.inj ei0
  obtain ⟨hj, -⟩ := atoms_of jdkStatics_1 (show (jdkStatics_1.foldr Jvm.Cond.and restOwn_1).before _ s = true from by rw [← rest_1_c_eq]; exact hrest)
  have j2 := Cond.before_iff.mp (hj _ (List.mem_of_getElem? (i := 2) rfl))
  obtain ⟨zz, evz⟩ := exa_v j2
  have E_Z := Exa.start evz j2
  have S_Z := Sta.start evz (Or.inl (hj _ (List.mem_of_getElem? (i := 1) rfl)))
  have Fz_s := own_fL evz (Cond.before_iff.mp (hj _ (List.mem_of_getElem? (i := 3) rfl)))
  have Fz_n := own_fI evz (Cond.before_iff.mp (hj _ (List.mem_of_getElem? (i := 4) rfl)))
  obtain ⟨n, o, h1, h2, h3, _, L, rfl, ⟨rfl, N⟩, hq⟩ := own_rm_law l s _ hw tables_1 i0 zz s.heap s.heap.size (Nat.le_refl _) S_Z E_Z Fz_s Fz_n p e ha hc hk s m _ below hf ((Spec.applies_iff_loose hf).mp happ).1 ⟨rfl, State.Warmed39.refl s, rfl⟩ trivial
  refine ⟨n, _, h1, h2, h3, hpost _ _ _ _ _ _ ⟨Cond.after_iff.mpr rfl, Cond.after_iff.mpr (eq_i res_at (Term.int_eval (1)) rfl), trivial⟩ ⟨hq.1, hq.2.1, (hq.2.2.sift fun y hy => Or.inr (N y hy)).mono (by decide) (by decide)⟩⟩
theorem main_1_1 : Claimed_1_1 := own_comes fun _ _ _ _ _ _ h hF => ⟨h.1, hF⟩
theorem main_1_2 : Claimed_1_2 := own_comes fun _ _ _ _ _ _ h hF => ⟨h.2.1, hF⟩
end Jvm.Pilot.@@N@@
namespace Jvm.Pilot.@@N@@
open Jvm Jvm.ClassFile Sem Op Lib Jvm.Free Jvm.Stand Jvm.Pilot.@@N@@.Jvm.D
/-! MADE BY PROGRAM (witnessworld.py) out of the Statement's table words and the real class files: 14 classes; the members and pool entries that the words name. The judged class is class 1, her method 1. -/
namespace start1
open Jvm.ClassFile
def u (s : String) : CpInfo := .utf8 (stringToUtf16 s)
/-- a pool by its gaps: so many unusable entries, then the entry; so many at the end -/
def gap : Nat → List CpInfo → List CpInfo
  | 0, r => r
  | n + 1, r => .unusable :: gap n r
def poolList (es : List (Nat × CpInfo)) (last : Nat) : List CpInfo := es.foldr (fun e r => gap e.1 (e.2 :: r)) (gap last [])
def pool (es : List (Nat × CpInfo)) (last : Nat) : Array CpInfo := ⟨poolList es last⟩
def fileOf (pool : Array CpInfo) (this : Nat) (attrs : Array Attribute := #[]) (ms : Array MethodInfo := #[]) (fl : Nat := 33) (sup : Nat := 0) (ifs : Array Nat := #[]) (fds : Array FieldInfo := #[]) : ClassFile where
  minorVersion := 0
  majorVersion := 65
  constantPool := pool
  accessFlags := fl
  thisClass := this
  superClass := sup
  interfaces := ifs
  fields := fds
  methods := ms
  attributes := attrs
def plain (name : String) (sup : Option ClassId) : Class where
  name := name
  kind := .ordinary
  loader := none
  accessFlags := 33
  super := sup
  interfaces := #[]
  cf := none
  fields := #[]
  methods := #[]
  instanceTypes := #[]
  staticTypes := #[]
  resolved := #[]
  callSites := []
  init := .initialized
  statics := none
  mirror := none

def pool0 : Array CpInfo := pool [(5, u "<init>"), (0, u "()V"), (1, .class_ 10), (1, u "java/lang/Object")] 113

def k0c0 : Code := { maxStack := 0, maxLocals := 1, code := object_method_1_code, exceptionTable := #[], attributes := #[] }
def k0m0 : Method := { name := "<init>", desc := "()V", sig := { parameters := [], returnType := none }, accessFlags := 1, code := some k0c0 }
/-- java/lang/Object -/
def k0 : Class := { plain "java/lang/Object" none with
  accessFlags := 33
  interfaces := #[]
  cf := some (fileOf pool0 8 #[] #[{ accessFlags := 1, nameIndex := 5, descriptorIndex := 6, attributes := #[] }] 33 0 #[] #[])
  fields := #[]
  methods := #[k0m0]
  instanceTypes := #[]
  staticTypes := #[]
  resolved := Array.replicate 124 none
  statics := none }

def pool1 : Array CpInfo := pool [(2, .class_ 4), (1, u "java/lang/Object"), (0, u "<init>"), (0, u "()V"), (2, .long 9223372036854775807), (1, .class_ 12), (0, u "com/example/solease/solease/Lease"), (0, .methodref 11 14), (0, .nameAndType 5 15), (0, u "(JZ)V"), (0, .methodref 11 17), (0, .nameAndType 18 19), (0, u "renewalPeriod"), (0, u "()Ljava/time/Duration;"), (0, .long 3000), (1, .long 1000000), (1, .long 3), (1, .methodref 27 28), (0, .class_ 29), (0, .nameAndType 30 31), (0, u "java/time/Duration"), (0, u "getSeconds"), (0, u "()J"), (0, .methodref 27 33), (0, .nameAndType 34 35), (0, u "getNano"), (0, u "()I"), (0, .class_ 37), (0, u "com/example/solease/solease/LeaseRenewalPeriodPinLaw"), (2, u "law"), (0, u "(J)Z")] 3

def k1m0 : Method := { name := "<init>", desc := "()V", sig := { parameters := [], returnType := none }, accessFlags := 1, code := none }
def k1c1 : Code := { maxStack := 5, maxLocals := 10, code := code, exceptionTable := #[], attributes := #[] }
def k1m1 : Method := { name := "law", desc := "(J)Z", sig := { parameters := [.long], returnType := some .boolean }, accessFlags := 9, code := some k1c1 }
/-- com/example/solease/solease/LeaseRenewalPeriodPinLaw -/
def k1 : Class := { plain "com/example/solease/solease/LeaseRenewalPeriodPinLaw" (some 0) with
  accessFlags := 49
  interfaces := #[]
  cf := some (fileOf pool1 36 #[] #[{ accessFlags := 1, nameIndex := 5, descriptorIndex := 6, attributes := #[] }, { accessFlags := 9, nameIndex := 40, descriptorIndex := 41, attributes := #[] }] 49 2 #[] #[])
  fields := #[]
  methods := #[k1m0, k1m1]
  instanceTypes := #[]
  staticTypes := #[]
  resolved := Array.replicate 45 none
  statics := none }

def pool2 : Array CpInfo := pool [(1, .methodref 2 3), (0, .class_ 4), (0, .nameAndType 5 6), (0, u "java/lang/Object"), (0, u "<init>"), (0, u "()V"), (0, .class_ 8), (0, u "java/lang/Record")] 13

def k2c0 : Code := { maxStack := 1, maxLocals := 1, code := jdk_30_method_1_code, exceptionTable := #[], attributes := #[] }
def k2m0 : Method := { name := "<init>", desc := "()V", sig := { parameters := [], returnType := none }, accessFlags := 4, code := some k2c0 }
/-- java/lang/Record -/
def k2 : Class := { plain "java/lang/Record" (some 0) with
  accessFlags := 1057
  interfaces := #[]
  cf := some (fileOf pool2 7 #[] #[{ accessFlags := 4, nameIndex := 5, descriptorIndex := 6, attributes := #[] }] 1057 2 #[] #[])
  fields := #[]
  methods := #[k2m0]
  instanceTypes := #[]
  staticTypes := #[]
  resolved := Array.replicate 22 none
  statics := none }

def pool3 : Array CpInfo := pool [(1, .methodref 2 3), (0, .class_ 4), (0, .nameAndType 5 6), (0, u "java/lang/Record"), (0, u "<init>"), (0, u "()V"), (9, .fieldref 17 18), (0, .class_ 19), (0, .nameAndType 20 21), (0, u "com/example/solease/solease/Lease"), (0, u "millis"), (0, u "J"), (0, .fieldref 17 23), (0, .nameAndType 24 25), (0, u "renewed"), (0, u "Z"), (2, u "(JZ)V"), (4, .long 3), (1, .methodref 36 37), (0, .class_ 38), (0, .nameAndType 39 40), (0, u "java/time/Duration"), (0, u "ofMillis"), (0, u "(J)Ljava/time/Duration;"), (0, .long 1000000), (1, .methodref 36 44), (0, .nameAndType 45 40), (0, u "plusNanos"), (20, u "DEFAULT"), (0, u "Lcom/example/solease/solease/Lease;"), (5, u "renewalPeriod"), (0, u "()Ljava/time/Duration;")] 37

def k3c0 : Code := { maxStack := 4, maxLocals := 4, code := prog_3_method_1_code, exceptionTable := #[], attributes := #[] }
def k3m0 : Method := { name := "<init>", desc := "(JZ)V", sig := { parameters := [.long, .boolean], returnType := none }, accessFlags := 1, code := some k3c0 }
def k3c1 : Code := { maxStack := 5, maxLocals := 1, code := prog_3_method_4_code, exceptionTable := #[], attributes := #[] }
def k3m1 : Method := { name := "renewalPeriod", desc := "()Ljava/time/Duration;", sig := { parameters := [], returnType := some (.object "java/time/Duration") }, accessFlags := 1, code := some k3c1 }
/-- com/example/solease/solease/Lease -/
def k3 : Class := { plain "com/example/solease/solease/Lease" (some 2) with
  accessFlags := 49
  interfaces := #[]
  cf := some (fileOf pool3 17 #[] #[{ accessFlags := 1, nameIndex := 5, descriptorIndex := 28, attributes := #[] }, { accessFlags := 1, nameIndex := 73, descriptorIndex := 74, attributes := #[] }] 49 2 #[] #[{ accessFlags := 18, nameIndex := 20, descriptorIndex := 21, attributes := #[] }, { accessFlags := 18, nameIndex := 24, descriptorIndex := 25, attributes := #[] }, { accessFlags := 25, nameIndex := 66, descriptorIndex := 67, attributes := #[] }])
  fields := #[{ name := "millis", type := .long, accessFlags := 18, slot := 0, constantValue := 0 }, { name := "renewed", type := .boolean, accessFlags := 18, slot := 1, constantValue := 0 }, { name := "DEFAULT", type := (.object "com/example/solease/solease/Lease"), accessFlags := 25, slot := 0, constantValue := 0 }]
  methods := #[k3m0, k3m1]
  instanceTypes := #[.long, .boolean]
  staticTypes := #[(.object "com/example/solease/solease/Lease")]
  resolved := Array.replicate 112 none
  statics := none }

def pool4 : Array CpInfo := pool [(1, .class_ 2), (0, u "java/time/temporal/TemporalAmount"), (0, .class_ 4), (0, u "java/lang/Object")] 11

/-- java/time/temporal/TemporalAmount -/
def k4 : Class := { plain "java/time/temporal/TemporalAmount" (some 0) with
  accessFlags := 1537
  interfaces := #[]
  cf := some (fileOf pool4 1 #[] #[] 1537 3 #[] #[])
  fields := #[]
  methods := #[]
  instanceTypes := #[]
  staticTypes := #[]
  resolved := Array.replicate 16 none
  statics := none }

def pool5 : Array CpInfo := pool [(1, .class_ 2), (0, u "java/lang/Comparable"), (0, .class_ 4), (0, u "java/lang/Object")] 7

/-- java/lang/Comparable -/
def k5 : Class := { plain "java/lang/Comparable" (some 0) with
  accessFlags := 1537
  interfaces := #[]
  cf := some (fileOf pool5 1 #[] #[] 1537 3 #[] #[])
  fields := #[]
  methods := #[]
  instanceTypes := #[]
  staticTypes := #[]
  resolved := Array.replicate 12 none
  statics := none }

def pool6 : Array CpInfo := pool [(1, .class_ 2), (0, u "java/io/Serializable"), (0, .class_ 4), (0, u "java/lang/Object")] 2

/-- java/io/Serializable -/
def k6 : Class := { plain "java/io/Serializable" (some 0) with
  accessFlags := 1537
  interfaces := #[]
  cf := some (fileOf pool6 1 #[] #[] 1537 3 #[] #[])
  fields := #[]
  methods := #[]
  instanceTypes := #[]
  staticTypes := #[]
  resolved := Array.replicate 7 none
  statics := none }

def pool7 : Array CpInfo := pool [(5, .class_ 7), (1, u "java/lang/Math"), (2, .methodref 11 12), (0, .class_ 13), (0, .nameAndType 14 15), (0, u "java/time/Duration"), (0, u "create"), (0, u "(JI)Ljava/time/Duration;"), (0, .long 1000000000), (1, .methodref 5 19), (0, .nameAndType 20 21), (0, u "floorDiv"), (0, u "(JJ)J"), (0, .methodref 5 23), (0, .nameAndType 24 21), (0, u "addExact"), (0, .methodref 5 26), (0, .nameAndType 27 21), (0, u "floorMod"), (0, .long 1000), (1, .integer 1000000), (1, .fieldref 11 33), (0, .nameAndType 34 35), (0, u "ZERO"), (0, u "Ljava/time/Duration;"), (2, u "plus"), (10, .class_ 51), (1, u "java/time/temporal/TemporalAmount"), (27, .class_ 81), (1, u "java/time/Duration$Lazy"), (35, u "seconds"), (21, u "<init>"), (17, .nameAndType 139 158), (0, u "()V"), (17, .methodref 11 177), (0, .nameAndType 178 179), (0, u "ofSeconds"), (0, u "(JJ)Ljava/time/Duration;"), (19, u "(J)Ljava/time/Duration;"), (15, .methodref 11 216), (0, .nameAndType 139 217), (0, u "(JI)V"), (0, .methodref 219 157), (0, .class_ 220), (0, u "java/lang/Object"), (0, .fieldref 11 222), (0, .nameAndType 117 223), (0, u "J"), (0, .fieldref 11 225), (0, .nameAndType 226 227), (0, u "nanos"), (0, u "I"), (11, .class_ 241), (1, u "java/time/Duration$DurationUnits"), (8, u "getSeconds"), (0, u "()J"), (2, u "getNano"), (0, u "()I"), (0, .methodref 11 257), (0, .nameAndType 38 179), (11, .class_ 271), (1, u "java/time/Duration$1"), (7, u "plusNanos"), (83, u "BI_NANOS_PER_SECOND"), (0, u "Ljava/math/BigInteger;"), (120, .class_ 486), (0, u "java/lang/Comparable"), (0, .class_ 488), (0, u "java/io/Serializable"), (0, u "serialVersionUID"), (12, u "ofMillis")] 153

def k7c0 : Code := { maxStack := 6, maxLocals := 7, code := jdk_2316_method_5_code, exceptionTable := #[], attributes := #[] }
def k7m0 : Method := { name := "ofSeconds", desc := "(JJ)Ljava/time/Duration;", sig := { parameters := [.long, .long], returnType := some (.object "java/time/Duration") }, accessFlags := 9, code := some k7c0 }
def k7c1 : Code := { maxStack := 4, maxLocals := 5, code := jdk_2316_method_6_code, exceptionTable := #[], attributes := #[] }
def k7m1 : Method := { name := "ofMillis", desc := "(J)Ljava/time/Duration;", sig := { parameters := [.long], returnType := some (.object "java/time/Duration") }, accessFlags := 9, code := some k7c1 }
def k7c2 : Code := { maxStack := 5, maxLocals := 3, code := jdk_2316_method_16_code, exceptionTable := #[], attributes := #[] }
def k7m2 : Method := { name := "create", desc := "(JI)Ljava/time/Duration;", sig := { parameters := [.long, .int], returnType := some (.object "java/time/Duration") }, accessFlags := 10, code := some k7c2 }
def k7c3 : Code := { maxStack := 3, maxLocals := 4, code := jdk_2316_method_17_code, exceptionTable := #[], attributes := #[] }
def k7m3 : Method := { name := "<init>", desc := "(JI)V", sig := { parameters := [.long, .int], returnType := none }, accessFlags := 2, code := some k7c3 }
def k7c4 : Code := { maxStack := 2, maxLocals := 1, code := jdk_2316_method_23_code, exceptionTable := #[], attributes := #[] }
def k7m4 : Method := { name := "getSeconds", desc := "()J", sig := { parameters := [], returnType := some .long }, accessFlags := 1, code := some k7c4 }
def k7c5 : Code := { maxStack := 1, maxLocals := 1, code := jdk_2316_method_24_code, exceptionTable := #[], attributes := #[] }
def k7m5 : Method := { name := "getNano", desc := "()I", sig := { parameters := [], returnType := some .int }, accessFlags := 1, code := some k7c5 }
def k7c6 : Code := { maxStack := 5, maxLocals := 3, code := jdk_2316_method_34_code, exceptionTable := #[], attributes := #[] }
def k7m6 : Method := { name := "plusNanos", desc := "(J)Ljava/time/Duration;", sig := { parameters := [.long], returnType := some (.object "java/time/Duration") }, accessFlags := 1, code := some k7c6 }
def k7c7 : Code := { maxStack := 6, maxLocals := 9, code := jdk_2316_method_35_code, exceptionTable := #[], attributes := #[] }
def k7m7 : Method := { name := "plus", desc := "(JJ)Ljava/time/Duration;", sig := { parameters := [.long, .long], returnType := some (.object "java/time/Duration") }, accessFlags := 2, code := some k7c7 }
/-- java/time/Duration -/
def k7 : Class := { plain "java/time/Duration" (some 0) with
  accessFlags := 49
  interfaces := #[4, 5, 6]
  cf := some (fileOf pool7 11 #[.nestMembers #[269, 239, 79]] #[{ accessFlags := 9, nameIndex := 178, descriptorIndex := 179, attributes := #[] }, { accessFlags := 9, nameIndex := 502, descriptorIndex := 199, attributes := #[] }, { accessFlags := 10, nameIndex := 14, descriptorIndex := 15, attributes := #[] }, { accessFlags := 2, nameIndex := 139, descriptorIndex := 217, attributes := #[] }, { accessFlags := 1, nameIndex := 250, descriptorIndex := 251, attributes := #[] }, { accessFlags := 1, nameIndex := 254, descriptorIndex := 255, attributes := #[] }, { accessFlags := 1, nameIndex := 279, descriptorIndex := 199, attributes := #[] }, { accessFlags := 2, nameIndex := 38, descriptorIndex := 179, attributes := #[] }] 49 219 #[49, 485, 487] #[{ accessFlags := 25, nameIndex := 34, descriptorIndex := 35, attributes := #[] }, { accessFlags := 26, nameIndex := 489, descriptorIndex := 223, attributes := #[] }, { accessFlags := 26, nameIndex := 363, descriptorIndex := 364, attributes := #[] }, { accessFlags := 18, nameIndex := 117, descriptorIndex := 223, attributes := #[] }, { accessFlags := 18, nameIndex := 226, descriptorIndex := 227, attributes := #[] }])
  fields := #[{ name := "ZERO", type := (.object "java/time/Duration"), accessFlags := 25, slot := 0, constantValue := 0 }, { name := "serialVersionUID", type := .long, accessFlags := 26, slot := 1, constantValue := 0 }, { name := "BI_NANOS_PER_SECOND", type := (.object "java/math/BigInteger"), accessFlags := 26, slot := 2, constantValue := 0 }, { name := "seconds", type := .long, accessFlags := 18, slot := 0, constantValue := 0 }, { name := "nanos", type := .int, accessFlags := 18, slot := 1, constantValue := 0 }]
  methods := #[k7m0, k7m1, k7m2, k7m3, k7m4, k7m5, k7m6, k7m7]
  instanceTypes := #[.long, .int]
  staticTypes := #[(.object "java/time/Duration"), .long, (.object "java/math/BigInteger")]
  resolved := Array.replicate 656 none
  statics := some 0 }

def pool8 : Array CpInfo := pool [(1, .class_ 2), (0, u "java/lang/Math"), (1, .class_ 6), (1, u "java/lang/Object"), (0, u "<init>"), (0, u "()V"), (89, .class_ 100), (1, u "java/lang/Math$RandomNumberGeneratorHolder"), (20, u "(JJ)J"), (23, u "floorDiv"), (2, u "floorMod"), (23, u "negativeZeroFloatBits"), (0, u "J"), (2, u "negativeZeroDoubleBits"), (68, u "$assertionsDisabled"), (0, u "Z"), (91, u "twoToTheDoubleScaleDown"), (0, u "D"), (4, u "twoToTheDoubleScaleUp"), (9, u "E"), (3, u "PI"), (2, u "TAU"), (2, u "DEGREES_TO_RADIANS"), (0, u "RADIANS_TO_DEGREES"), (27, u "addExact")] 66

def k8m0 : Method := { name := "<init>", desc := "()V", sig := { parameters := [], returnType := none }, accessFlags := 2, code := none }
def k8c1 : Code := { maxStack := 6, maxLocals := 6, code := jdk_29_method_25_code, exceptionTable := #[], attributes := #[] }
def k8m1 : Method := { name := "addExact", desc := "(JJ)J", sig := { parameters := [.long, .long], returnType := some .long }, accessFlags := 9, code := some k8c1 }
def k8c2 : Code := { maxStack := 4, maxLocals := 6, code := jdk_29_method_49_code, exceptionTable := #[], attributes := #[] }
def k8m2 : Method := { name := "floorDiv", desc := "(JJ)J", sig := { parameters := [.long, .long], returnType := some .long }, accessFlags := 9, code := some k8c2 }
def k8c3 : Code := { maxStack := 4, maxLocals := 6, code := jdk_29_method_52_code, exceptionTable := #[], attributes := #[] }
def k8m3 : Method := { name := "floorMod", desc := "(JJ)J", sig := { parameters := [.long, .long], returnType := some .long }, accessFlags := 9, code := some k8c3 }
/-- java/lang/Math -/
def k8 : Class := { plain "java/lang/Math" (some 0) with
  accessFlags := 49
  interfaces := #[]
  cf := some (fileOf pool8 1 #[.nestMembers #[98]] #[{ accessFlags := 2, nameIndex := 7, descriptorIndex := 8, attributes := #[] }, { accessFlags := 9, nameIndex := 393, descriptorIndex := 121, attributes := #[] }, { accessFlags := 9, nameIndex := 145, descriptorIndex := 121, attributes := #[] }, { accessFlags := 9, nameIndex := 148, descriptorIndex := 121, attributes := #[] }] 49 4 #[] #[{ accessFlags := 25, nameIndex := 354, descriptorIndex := 339, attributes := #[] }, { accessFlags := 25, nameIndex := 358, descriptorIndex := 339, attributes := #[] }, { accessFlags := 25, nameIndex := 361, descriptorIndex := 339, attributes := #[] }, { accessFlags := 26, nameIndex := 364, descriptorIndex := 339, attributes := #[] }, { accessFlags := 26, nameIndex := 365, descriptorIndex := 339, attributes := #[] }, { accessFlags := 26, nameIndex := 172, descriptorIndex := 173, attributes := #[] }, { accessFlags := 26, nameIndex := 176, descriptorIndex := 173, attributes := #[] }, { accessFlags := 8, nameIndex := 344, descriptorIndex := 339, attributes := #[] }, { accessFlags := 8, nameIndex := 338, descriptorIndex := 339, attributes := #[] }, { accessFlags := 4120, nameIndex := 245, descriptorIndex := 246, attributes := #[] }])
  fields := #[{ name := "E", type := .double, accessFlags := 25, slot := 0, constantValue := 0 }, { name := "PI", type := .double, accessFlags := 25, slot := 1, constantValue := 0 }, { name := "TAU", type := .double, accessFlags := 25, slot := 2, constantValue := 0 }, { name := "DEGREES_TO_RADIANS", type := .double, accessFlags := 26, slot := 3, constantValue := 0 }, { name := "RADIANS_TO_DEGREES", type := .double, accessFlags := 26, slot := 4, constantValue := 0 }, { name := "negativeZeroFloatBits", type := .long, accessFlags := 26, slot := 5, constantValue := 0 }, { name := "negativeZeroDoubleBits", type := .long, accessFlags := 26, slot := 6, constantValue := 0 }, { name := "twoToTheDoubleScaleUp", type := .double, accessFlags := 8, slot := 7, constantValue := 0 }, { name := "twoToTheDoubleScaleDown", type := .double, accessFlags := 8, slot := 8, constantValue := 0 }, { name := "$assertionsDisabled", type := .boolean, accessFlags := 4120, slot := 9, constantValue := 0 }]
  methods := #[k8m0, k8m1, k8m2, k8m3]
  instanceTypes := #[]
  staticTypes := #[.double, .double, .double, .double, .double, .long, .long, .double, .double, .boolean]
  resolved := Array.replicate 460 none
  statics := none }

def pool9 : Array CpInfo := pool [(1, u "java/lang/Cloneable"), (0, .class_ 1), (0, u "java/lang/Object"), (0, .class_ 3)] 3

/-- java/lang/Cloneable -/
def k9 : Class := { plain "java/lang/Cloneable" (some 0) with
  accessFlags := 1537
  interfaces := #[]
  cf := some (fileOf pool9 2 #[] #[] 1537 4 #[] #[])
  fields := #[]
  methods := #[]
  instanceTypes := #[]
  staticTypes := #[]
  resolved := Array.replicate 8 none
  statics := none }

/-- the primitive byte -/
def k10 : Class := { plain "byte" none with kind := .primitive 'B', accessFlags := 0x411 }
/-- [B -/
def k11 : Class := { plain "[B" (some 0) with kind := .array 10 .byte, interfaces := #[9, 6], accessFlags := 1041 }

/-- the primitive int -/
def k12 : Class := { plain "int" none with kind := .primitive 'I', accessFlags := 0x411 }
/-- [I -/
def k13 : Class := { plain "[I" (some 0) with kind := .array 12 .int, interfaces := #[9, 6], accessFlags := 1041 }

def heap : Heap := #[{ cls := 7, slots := #[.ref 1, .long 0, .null], vm := .statics 7 },
  { cls := 7, slots := #[.long 0, .int 0], vm := .none }]
def classes : Array Class := #[k0, k1, k2, k3, k4, k5, k6, k7, k8, k9, k10, k11, k12, k13]
def interned : List (Array UInt16 × Addr) := []
def slotsUsed : Nat := 5
def theMethod : MethodId := ⟨1, 1⟩
def args0 : Array Value := #[.long 5]
def aboutOver (below : List Frame) : State where
  vm := { classes := classes, interned := interned.toArray }
  heap := heap
  slotsUsed := slotsUsed
  threads := #[{ frames := .invoking theMethod args0 :: below }]
def below0 : List Frame := [.native { method := ⟨0, 0⟩, args := #[] }]
def about1 : State := aboutOver below0
def p0 : Program := .bare "" "" ""
def e0 : Env := launch0.env 0 0 0
theorem w_frames : about1.frames = Frame.invoking theMethod args0 :: below0 := rfl
set_option maxRecDepth 65536 in
theorem w_args : argsFit about1.vm theMethod args0 = true := by decide +kernel
set_option maxRecDepth 65536 in
theorem w_heap : heapFits about1 = true := by decide +kernel
set_option maxRecDepth 65536 in
theorem w_runnable : about1.curStatus? = some .runnable := by decide +kernel
set_option maxRecDepth 65536 in
theorem w_alone : about1.alone = true := by decide +kernel
set_option maxRecDepth 65536 in
theorem w_named : about1.methodNamed? x = some theMethod := by decide +kernel
set_option maxRecDepth 65536 in
theorem w_hears : about1.hears theMethod below0 = true := by decide +kernel
set_option maxRecDepth 65536 in
theorem w_ripe : about1.ripe theMethod args0 below0 = true := by decide +kernel
theorem w_running : about1.status = .running := rfl
set_option maxRecDepth 65536 in
theorem w_room : about1.hasRoom e0.platform room_1 = true :=
  launch0.hasRoom_least _ room_1 (by decide +kernel) (by decide +kernel) (by decide +kernel) (by decide +kernel) (by decide +kernel) (by decide +kernel)
theorem allAtoms_all (ts : List Jvm.Cond) (a : Array Jvm.Value) (st : Jvm.State) : (allAtoms ts).before a st = ts.all (fun c => c.before a st) := by
  induction ts with
  | nil => rfl
  | cons c t ih =>
    show (Jvm.Cond.and c (allAtoms t)).before a st = _
    rw [Jvm.Cond.before_and, ih, List.all_cons]
def words1 : List Jvm.Cond := Jvm.Cond.code x code maxLocals ret :: tables_1
/-- a 'code' word, met by the world's own term for the bytes: nothing is compared byte by byte -/
theorem code_word {y : MethodName} {bytes : ByteArray} {mx : Nat} {rt : Option FieldType} {a : Array Value} {s : State} {m : MethodId} {meth : Method} {c : Code} (h1 : s.methodNamed? y = some m) (h2 : s.vm.method? m = some meth) (h3 : meth.code = some c) (h4 : c.code = bytes)
    (h5 : (c.maxLocals == mx && c.exceptionTable.isEmpty && decide (c.maxStack ≤ mostOperands) && decide (meth.sig.returnType = rt) && !meth.locks && decide (parseMethodDescriptor y.desc = some meth.sig)) = true) : (Jvm.Cond.code y bytes mx rt).before a s = true := by
  simp only [Bool.and_eq_true, beq_iff_eq, Bool.not_eq_true', decide_eq_true_eq] at h5
  obtain ⟨⟨⟨⟨⟨g1, g2⟩, g3⟩, g4⟩, g5⟩, g6⟩ := h5
  simp [Cond.before, Cond.holds, Cond.value, h1, h2, h3, h4, g1, g2, g3, g4, g5, g6]
def isCode : Jvm.Cond → Bool
  | .code _ _ _ _ => true
  | _ => false
theorem all_split {L : List Jvm.Cond} {P : Jvm.Cond → Bool} (h1 : L.all (fun c => isCode c || P c) = true) (h2 : ∀ c ∈ L.filter isCode, P c = true) : L.all P = true := by
  refine List.all_eq_true.mpr fun c hc => ?_
  have h := List.all_eq_true.mp h1 c hc
  rcases Bool.eq_false_or_eq_true (isCode c) with hi | hi
  · exact h2 c (List.mem_filter.mpr ⟨hc, hi⟩)
  · simpa [hi] using h
set_option maxRecDepth 65536 in
theorem w_c0 : (Jvm.Cond.code x code maxLocals ret).before args0 about1 = true := code_word (m := ⟨1, 1⟩) (meth := k1m1) (c := k1c1) (by decide +kernel) rfl rfl rfl (by decide +kernel)
set_option maxRecDepth 65536 in
theorem w_c1 : (Jvm.Cond.code ({ cls := "com/example/solease/solease/Lease", name := "<init>", desc := "(JZ)V" } : Jvm.MethodName) prog_3_method_1_code (4 : Nat) (Option.none : Option Jvm.ClassFile.FieldType)).before args0 about1 = true := code_word (m := ⟨3, 0⟩) (meth := k3m0) (c := k3c0) (by decide +kernel) rfl rfl rfl (by decide +kernel)
set_option maxRecDepth 65536 in
theorem w_c2 : (Jvm.Cond.code ({ cls := "java/lang/Record", name := "<init>", desc := "()V" } : Jvm.MethodName) jdk_30_method_1_code (1 : Nat) (Option.none : Option Jvm.ClassFile.FieldType)).before args0 about1 = true := code_word (m := ⟨2, 0⟩) (meth := k2m0) (c := k2c0) (by decide +kernel) rfl rfl rfl (by decide +kernel)
set_option maxRecDepth 65536 in
theorem w_c3 : (Jvm.Cond.code ({ cls := "java/lang/Object", name := "<init>", desc := "()V" } : Jvm.MethodName) object_method_1_code (1 : Nat) (Option.none : Option Jvm.ClassFile.FieldType)).before args0 about1 = true := code_word (m := ⟨0, 0⟩) (meth := k0m0) (c := k0c0) (by decide +kernel) rfl rfl rfl (by decide +kernel)
set_option maxRecDepth 65536 in
theorem w_c4 : (Jvm.Cond.code ({ cls := "com/example/solease/solease/Lease", name := "renewalPeriod", desc := "()Ljava/time/Duration;" } : Jvm.MethodName) prog_3_method_4_code (1 : Nat) (Option.some (Jvm.ClassFile.FieldType.object "java/time/Duration"))).before args0 about1 = true := code_word (m := ⟨3, 1⟩) (meth := k3m1) (c := k3c1) (by decide +kernel) rfl rfl rfl (by decide +kernel)
set_option maxRecDepth 65536 in
theorem w_c5 : (Jvm.Cond.code ({ cls := "java/time/Duration", name := "ofMillis", desc := "(J)Ljava/time/Duration;" } : Jvm.MethodName) jdk_2316_method_6_code (5 : Nat) (Option.some (Jvm.ClassFile.FieldType.object "java/time/Duration"))).before args0 about1 = true := code_word (m := ⟨7, 1⟩) (meth := k7m1) (c := k7c1) (by decide +kernel) rfl rfl rfl (by decide +kernel)
set_option maxRecDepth 65536 in
theorem w_c6 : (Jvm.Cond.code ({ cls := "java/time/Duration", name := "create", desc := "(JI)Ljava/time/Duration;" } : Jvm.MethodName) jdk_2316_method_16_code (3 : Nat) (Option.some (Jvm.ClassFile.FieldType.object "java/time/Duration"))).before args0 about1 = true := code_word (m := ⟨7, 2⟩) (meth := k7m2) (c := k7c2) (by decide +kernel) rfl rfl rfl (by decide +kernel)
set_option maxRecDepth 65536 in
theorem w_c7 : (Jvm.Cond.code ({ cls := "java/time/Duration", name := "<init>", desc := "(JI)V" } : Jvm.MethodName) jdk_2316_method_17_code (4 : Nat) (Option.none : Option Jvm.ClassFile.FieldType)).before args0 about1 = true := code_word (m := ⟨7, 3⟩) (meth := k7m3) (c := k7c3) (by decide +kernel) rfl rfl rfl (by decide +kernel)
set_option maxRecDepth 65536 in
theorem w_c8 : (Jvm.Cond.code ({ cls := "java/time/Duration", name := "plusNanos", desc := "(J)Ljava/time/Duration;" } : Jvm.MethodName) jdk_2316_method_34_code (3 : Nat) (Option.some (Jvm.ClassFile.FieldType.object "java/time/Duration"))).before args0 about1 = true := code_word (m := ⟨7, 6⟩) (meth := k7m6) (c := k7c6) (by decide +kernel) rfl rfl rfl (by decide +kernel)
set_option maxRecDepth 65536 in
theorem w_c9 : (Jvm.Cond.code ({ cls := "java/time/Duration", name := "plus", desc := "(JJ)Ljava/time/Duration;" } : Jvm.MethodName) jdk_2316_method_35_code (9 : Nat) (Option.some (Jvm.ClassFile.FieldType.object "java/time/Duration"))).before args0 about1 = true := code_word (m := ⟨7, 7⟩) (meth := k7m7) (c := k7c7) (by decide +kernel) rfl rfl rfl (by decide +kernel)
set_option maxRecDepth 65536 in
theorem w_c10 : (Jvm.Cond.code ({ cls := "java/time/Duration", name := "getSeconds", desc := "()J" } : Jvm.MethodName) jdk_2316_method_23_code (1 : Nat) (Option.some Jvm.ClassFile.FieldType.long)).before args0 about1 = true := code_word (m := ⟨7, 4⟩) (meth := k7m4) (c := k7c4) (by decide +kernel) rfl rfl rfl (by decide +kernel)
set_option maxRecDepth 65536 in
theorem w_c11 : (Jvm.Cond.code ({ cls := "java/time/Duration", name := "getNano", desc := "()I" } : Jvm.MethodName) jdk_2316_method_24_code (1 : Nat) (Option.some Jvm.ClassFile.FieldType.int)).before args0 about1 = true := code_word (m := ⟨7, 5⟩) (meth := k7m5) (c := k7c5) (by decide +kernel) rfl rfl rfl (by decide +kernel)
set_option maxRecDepth 65536 in
theorem w_c12 : (Jvm.Cond.code ({ cls := "java/lang/Math", name := "addExact", desc := "(JJ)J" } : Jvm.MethodName) jdk_29_method_25_code (6 : Nat) (Option.some Jvm.ClassFile.FieldType.long)).before args0 about1 = true := code_word (m := ⟨8, 1⟩) (meth := k8m1) (c := k8c1) (by decide +kernel) rfl rfl rfl (by decide +kernel)
set_option maxRecDepth 65536 in
theorem w_c13 : (Jvm.Cond.code ({ cls := "java/time/Duration", name := "ofSeconds", desc := "(JJ)Ljava/time/Duration;" } : Jvm.MethodName) jdk_2316_method_5_code (7 : Nat) (Option.some (Jvm.ClassFile.FieldType.object "java/time/Duration"))).before args0 about1 = true := code_word (m := ⟨7, 0⟩) (meth := k7m0) (c := k7c0) (by decide +kernel) rfl rfl rfl (by decide +kernel)
set_option maxRecDepth 65536 in
theorem w_c14 : (Jvm.Cond.code ({ cls := "java/lang/Math", name := "floorDiv", desc := "(JJ)J" } : Jvm.MethodName) jdk_29_method_49_code (6 : Nat) (Option.some Jvm.ClassFile.FieldType.long)).before args0 about1 = true := code_word (m := ⟨8, 2⟩) (meth := k8m2) (c := k8c2) (by decide +kernel) rfl rfl rfl (by decide +kernel)
set_option maxRecDepth 65536 in
theorem w_c15 : (Jvm.Cond.code ({ cls := "java/lang/Math", name := "floorMod", desc := "(JJ)J" } : Jvm.MethodName) jdk_29_method_52_code (6 : Nat) (Option.some Jvm.ClassFile.FieldType.long)).before args0 about1 = true := code_word (m := ⟨8, 3⟩) (meth := k8m3) (c := k8c3) (by decide +kernel) rfl rfl rfl (by decide +kernel)
def codes1 : List Jvm.Cond := [Jvm.Cond.code x code maxLocals ret, Jvm.Cond.code ({ cls := "com/example/solease/solease/Lease", name := "<init>", desc := "(JZ)V" } : Jvm.MethodName) prog_3_method_1_code (4 : Nat) (Option.none : Option Jvm.ClassFile.FieldType), Jvm.Cond.code ({ cls := "java/lang/Record", name := "<init>", desc := "()V" } : Jvm.MethodName) jdk_30_method_1_code (1 : Nat) (Option.none : Option Jvm.ClassFile.FieldType), Jvm.Cond.code ({ cls := "java/lang/Object", name := "<init>", desc := "()V" } : Jvm.MethodName) object_method_1_code (1 : Nat) (Option.none : Option Jvm.ClassFile.FieldType), Jvm.Cond.code ({ cls := "com/example/solease/solease/Lease", name := "renewalPeriod", desc := "()Ljava/time/Duration;" } : Jvm.MethodName) prog_3_method_4_code (1 : Nat) (Option.some (Jvm.ClassFile.FieldType.object "java/time/Duration")), Jvm.Cond.code ({ cls := "java/time/Duration", name := "ofMillis", desc := "(J)Ljava/time/Duration;" } : Jvm.MethodName) jdk_2316_method_6_code (5 : Nat) (Option.some (Jvm.ClassFile.FieldType.object "java/time/Duration")), Jvm.Cond.code ({ cls := "java/time/Duration", name := "create", desc := "(JI)Ljava/time/Duration;" } : Jvm.MethodName) jdk_2316_method_16_code (3 : Nat) (Option.some (Jvm.ClassFile.FieldType.object "java/time/Duration")), Jvm.Cond.code ({ cls := "java/time/Duration", name := "<init>", desc := "(JI)V" } : Jvm.MethodName) jdk_2316_method_17_code (4 : Nat) (Option.none : Option Jvm.ClassFile.FieldType), Jvm.Cond.code ({ cls := "java/time/Duration", name := "plusNanos", desc := "(J)Ljava/time/Duration;" } : Jvm.MethodName) jdk_2316_method_34_code (3 : Nat) (Option.some (Jvm.ClassFile.FieldType.object "java/time/Duration")), Jvm.Cond.code ({ cls := "java/time/Duration", name := "plus", desc := "(JJ)Ljava/time/Duration;" } : Jvm.MethodName) jdk_2316_method_35_code (9 : Nat) (Option.some (Jvm.ClassFile.FieldType.object "java/time/Duration")), Jvm.Cond.code ({ cls := "java/time/Duration", name := "getSeconds", desc := "()J" } : Jvm.MethodName) jdk_2316_method_23_code (1 : Nat) (Option.some Jvm.ClassFile.FieldType.long), Jvm.Cond.code ({ cls := "java/time/Duration", name := "getNano", desc := "()I" } : Jvm.MethodName) jdk_2316_method_24_code (1 : Nat) (Option.some Jvm.ClassFile.FieldType.int), Jvm.Cond.code ({ cls := "java/lang/Math", name := "addExact", desc := "(JJ)J" } : Jvm.MethodName) jdk_29_method_25_code (6 : Nat) (Option.some Jvm.ClassFile.FieldType.long), Jvm.Cond.code ({ cls := "java/time/Duration", name := "ofSeconds", desc := "(JJ)Ljava/time/Duration;" } : Jvm.MethodName) jdk_2316_method_5_code (7 : Nat) (Option.some (Jvm.ClassFile.FieldType.object "java/time/Duration")), Jvm.Cond.code ({ cls := "java/lang/Math", name := "floorDiv", desc := "(JJ)J" } : Jvm.MethodName) jdk_29_method_49_code (6 : Nat) (Option.some Jvm.ClassFile.FieldType.long), Jvm.Cond.code ({ cls := "java/lang/Math", name := "floorMod", desc := "(JJ)J" } : Jvm.MethodName) jdk_29_method_52_code (6 : Nat) (Option.some Jvm.ClassFile.FieldType.long)]
set_option maxRecDepth 65536 in
theorem codes_eq : words1.filter isCode = codes1 := rfl
theorem w_codes : ∀ c ∈ words1.filter isCode, c.before args0 about1 = true := by
  rw [codes_eq]
  intro c hc
  simp only [codes1, List.mem_cons, List.not_mem_nil, or_false] at hc
  rcases hc with rfl | rfl | rfl | rfl | rfl | rfl | rfl | rfl | rfl | rfl | rfl | rfl | rfl | rfl | rfl | rfl
  · exact w_c0
  · exact w_c1
  · exact w_c2
  · exact w_c3
  · exact w_c4
  · exact w_c5
  · exact w_c6
  · exact w_c7
  · exact w_c8
  · exact w_c9
  · exact w_c10
  · exact w_c11
  · exact w_c12
  · exact w_c13
  · exact w_c14
  · exact w_c15
set_option maxRecDepth 65536 in
theorem w_t1 : (words1.take 24).all (fun c => isCode c || c.before args0 about1) = true := by decide +kernel
set_option maxRecDepth 65536 in
theorem w_t2 : ((words1.drop 24).take 24).all (fun c => isCode c || c.before args0 about1) = true := by decide +kernel
set_option maxRecDepth 65536 in
theorem w_t3 : (((words1.drop 24).drop 24).take 24).all (fun c => isCode c || c.before args0 about1) = true := by decide +kernel
set_option maxRecDepth 65536 in
theorem w_t4 : (((words1.drop 24).drop 24).drop 24).all (fun c => isCode c || c.before args0 about1) = true := by decide +kernel
theorem w_tables : (allAtoms (Jvm.Cond.code x code maxLocals ret :: tables_1)).before args0 about1 = true := by
  rw [allAtoms_all]
  show words1.all (fun c => c.before args0 about1) = true
  refine all_split ?_ w_codes
  rw [← List.take_append_drop 24 words1, List.all_append, w_t1, ← List.take_append_drop 24 (words1.drop 24), List.all_append, w_t2, ← List.take_append_drop 24 ((words1.drop 24).drop 24), List.all_append, w_t3, w_t4]
  rfl
set_option maxRecDepth 65536 in
theorem w_rest : rest_1_c.before args0 about1 = true := by decide +kernel
set_option maxRecDepth 65536 in
theorem w_case : (Jvm.Cond.and given_1 narrow_1).before args0 about1 = true := by decide +kernel
theorem w_applies : (headSpec (Jvm.Cond.code x code maxLocals ret :: tables_1) room_1).applies x e0.platform about1 = true :=
  (Spec.applies_iff w_frames).mpr ⟨w_running, w_runnable, w_alone, w_named, w_hears, w_ripe, w_room, w_tables⟩
theorem atStart : AtStart classFile x code maxLocals ret World_1 tables_1 room_1 Calls_1 rest_1 Pre_1 launch0 p0 e0 about1 theMethod args0 below0 :=
  ⟨lists_1, trivial, launch0.admits_env _ _ _, launch0.least_env, fairChoices_fair.cas, fairChoices_fair.clock, w_frames, w_args, w_heap, w_applies, trivial, w_rest, w_case⟩
end start1
theorem witness_1 : WitnessClaimed_1 := ⟨start1.p0, start1.e0, start1.about1, start1.theMethod, start1.args0, start1.below0, start1.atStart⟩
end Jvm.Pilot.@@N@@
