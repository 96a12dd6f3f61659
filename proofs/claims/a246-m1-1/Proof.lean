import JvmDerived
import JvmDerived.Pilot.@@N@@Statement
import JvmDerived.Pilot.@@N@@Code
set_option linter.unusedVariables false
set_option linter.unusedSimpArgs false
namespace Jvm.Pilot.@@N@@
open Jvm Jvm.ClassFile Sem Op Lib Jvm.Free Jvm.Stand Jvm.LawKit Jvm.RoadKit Bundle Jvm.Pilot.@@N@@.Jvm.D
/-! A walk in the backward style: 'own_Goes K T g': from the frame g over T the run comes to an end of which K holds. -/
def own_Goes (p : Program) (e : Env) (below : List Frame) (K : Outcome → State → Prop) (T : State) (g : JFrame) : Prop :=
  ∃ s₂ o, Steps p.tables e below (T.setTop g) s₂ ∧ s₂.status = .running ∧ Ended s₂ below o ∧ K o s₂
def own_K (Q : Option Value → Heap → List Loc → Prop) (U : State) (C S : Nat) : Outcome → State → Prop :=
  fun o U' => ∃ v L, o = .returned v ∧ Q v U'.heap L ∧ FrameEnd U o U' L C S
section OwnKit
variable {p : Program} {l : Launch} {e : Env} {R : Room} {s : State} {m : MethodId} {args : Array Value} {below : List Frame} {meth : Method} {c : Code} {T T' : State} {locs : List Loc} {cells slots : Nat} {Z : State} {a0 : Array Value} {h : Heap} {K : Outcome → State → Prop} {Q : Option Value → Heap → List Loc → Prop} {C S : Nat}
theorem own_by {g g' : JFrame} (st : ∀ t, Steps p.tables e below (T'.setTop g') t → Steps p.tables e below (T.setTop g) t) (k : own_Goes p e below K T' g') : own_Goes p e below K T g := by
  obtain ⟨s₂, o, h1, r⟩ := k
  exact ⟨s₂, o, st _ h1, r⟩
theorem own_retN (X : Stand p l e R s m args below meth c T locs cells slots) (hx : p.tables.exec = Jvm.exec) {pc : Nat} {Ls : Array Slot} {z : Int32} {t : FieldType} {rest : List Value} (hret : meth.sig.returnType = some t) (hlocks : meth.locks = false) (ht : t = .boolean ∨ t = .byte ∨ t = .char ∨ t = .short)
    (hd : decode c.code pc = .ok (.ireturn, 1)) (hc : cells ≤ C) (hs : slots ≤ S) {v : Int32} (hv : nar t z = v) (q : Q (some (.int v)) T.heap locs) : own_Goes p e below (own_K Q s C S) T (mkF m pc Ls (.int z :: rest)) := by
  subst hv
  obtain ⟨fs, hr, hrun, hended, hW, hsame⟩ := X.leave (v := some (.int (nar t z))) (fun h => by rw [hret] at h; cases h) hlocks
  exact ⟨_, _, retN X hx hret ht hd hr, hrun, hended, _, _, rfl, q, ⟨_, rfl⟩, hW, hsame.mono hc hs⟩
theorem own_retV (X : Stand p l e R s m args below meth c T locs cells slots) (hx : p.tables.exec = Jvm.exec) {pc : Nat} {Ls : Array Slot} {w : Value} {t : FieldType} {i : Instr} {rest : List Value} (hret : meth.sig.returnType = some t) (hlocks : meth.locks = false) (hn : narrow t w = w)
    (hi : (i = .ireturn ∧ (t = .int ∨ t = .boolean ∨ t = .byte ∨ t = .char ∨ t = .short) ∧ ∃ z, w = .int z) ∨ (i = .lreturn ∧ t = .long ∧ ∃ z, w = .long z) ∨ (i = .dreturn ∧ t = .double ∧ ∃ z, w = .double z) ∨ (i = .freturn ∧ t = .float ∧ ∃ z, w = .float z) ∨ (i = .areturn ∧ t.isReference = true ∧ w.isRef = true))
    (hd : decode c.code pc = .ok (i, 1)) (hc : cells ≤ C) (hs : slots ≤ S) (q : Q (some w) T.heap locs) : own_Goes p e below (own_K Q s C S) T (mkF m pc Ls (w :: rest)) := by
  obtain ⟨fs, hr, hrun, hended, hW, hsame⟩ := X.leave (v := some w) (fun h => by rw [hret] at h; cases h) hlocks
  exact ⟨_, _, retOut X hx hret hn hi hd hr, hrun, hended, _, _, rfl, q, ⟨_, rfl⟩, hW, hsame.mono hc hs⟩
theorem own_retI (X : Stand p l e R s m args below meth c T locs cells slots) (hx : p.tables.exec = Jvm.exec) {pc : Nat} {Ls : Array Slot} {z : Int32} {rest : List Value} (hret : meth.sig.returnType = some .int) (hlocks : meth.locks = false)
    (hd : decode c.code pc = .ok (.ireturn, 1)) (hc : cells ≤ C) (hs : slots ≤ S) (q : Q (some (.int z)) T.heap locs) : own_Goes p e below (own_K Q s C S) T (mkF m pc Ls (.int z :: rest)) :=
  own_retV X hx hret hlocks rfl (Or.inl ⟨rfl, Or.inl rfl, z, rfl⟩) hd hc hs q
theorem own_retJ (X : Stand p l e R s m args below meth c T locs cells slots) (hx : p.tables.exec = Jvm.exec) {pc : Nat} {Ls : Array Slot} {z : Int64} {rest : List Value} (hret : meth.sig.returnType = some .long) (hlocks : meth.locks = false)
    (hd : decode c.code pc = .ok (.lreturn, 1)) (hc : cells ≤ C) (hs : slots ≤ S) (q : Q (some (.long z)) T.heap locs) : own_Goes p e below (own_K Q s C S) T (mkF m pc Ls (.long z :: rest)) :=
  own_retV X hx hret hlocks rfl (Or.inr (Or.inl ⟨rfl, rfl, z, rfl⟩)) hd hc hs q
theorem own_retR (X : Stand p l e R s m args below meth c T locs cells slots) (hx : p.tables.exec = Jvm.exec) {pc : Nat} {Ls : Array Slot} {w : Value} {t : FieldType} {rest : List Value} (hret : meth.sig.returnType = some t) (hlocks : meth.locks = false) (ht : t.isReference = true) (hw : w.isRef = true)
    (hd : decode c.code pc = .ok (.areturn, 1)) (hc : cells ≤ C) (hs : slots ≤ S) (q : Q (some w) T.heap locs) : own_Goes p e below (own_K Q s C S) T (mkF m pc Ls (w :: rest)) :=
  own_retV X hx hret hlocks (by cases t <;> first | (cases ht; done) | (cases w <;> rfl)) (Or.inr (Or.inr (Or.inr (Or.inr ⟨rfl, ht, hw⟩)))) hd hc hs q
theorem own_ret0 (X : Stand p l e R s m args below meth c T locs cells slots) (hx : p.tables.exec = Jvm.exec) {pc : Nat} {Ls : Array Slot} (hret : meth.sig.returnType = none) (hlocks : meth.locks = false)
    (hd : decode c.code pc = .ok (.return_, 1)) (hc : cells ≤ C) (hs : slots ≤ S) (q : Q none T.heap locs) : own_Goes p e below (own_K Q s C S) T (mkF m pc Ls []) := by
  obtain ⟨fs, hr, hrun, hended, hW, hsame⟩ := X.leave (v := none) (fun _ => rfl) hlocks
  exact ⟨_, _, X.returnOut hx hret hd hr, hrun, hended, _, _, rfl, q, ⟨_, rfl⟩, hW, hsame.mono hc hs⟩
theorem own_lrem {g : JFrame} {target : State} (X : Stand p l e R s m args below meth c T locs cells slots) (hx : p.tables.exec = Jvm.exec) (hg : g.method = m) {x y : Int64} {rest : List Value} (hd : decode c.code g.pc = .ok (.lrem, 1)) (hs : g.stack = .long y :: .long x :: rest) (hy : y ≠ 0)
    (hr : Steps p.tables e below (T.setTop { g with pc := g.pc + 1, stack := .long (x % y) :: rest }) target) : Steps p.tables e below (T.setTop g) target := by
  have q : x - x / y * y = x % y := lrem_mod x y
  exact XS.lrem X.here hx hg hd hs hy (by rw [q]; exact hr)
/-- what a callee's theorem says -/
abbrev own_Met (l : Launch) (Z : State) (y : MethodName) (bytes : ByteArray) (maxL : Nat) (ret : Option FieldType) (rm : Room) (as' : Array Value) (h : Heap) (Q : Option Value → Heap → List Loc → Prop) : Prop :=
  MetFree l y (head1 [Cond.code y bytes maxL ret] rm) (fun a U => a = as' ∧ Z.Warmed39 U.vm ∧ U.heap = h) (fun _ _ _ _ _ => True) (fun _ U o U' => ∃ v L, o = .returned v ∧ Q v U'.heap L ∧ FrameEnd U o U' L rm.cells rm.slots)
theorem own_callS (X : Stand p l e R s m args below meth c T locs cells slots) (hx : p.tables.exec = Jvm.exec) (hZ : Z.Warmed39 s.vm) {own : String} {index : Nat} {y : MethodName} {bytes : ByteArray} {maxL : Nat} {ret : Option FieldType}
    (hown : s.vm.findClass own = some m.cls) (w1 : (Cond.methodLink own index y).before a0 Z = true) (w2 : (Cond.static y).before a0 Z = true) (w3 : (Cond.initialized y.cls).before a0 Z = true) (w4 : (Cond.code y bytes maxL ret).before a0 Z = true) (hy : y.cls ≠ "java/lang/invoke/MethodHandle" ∧ y.cls ≠ "java/lang/invoke/VarHandle")
    {rm : Room} {argsL rest : List Value} (hM : own_Met l Z y bytes maxL ret rm argsL.toArray h Q) (eT : T.heap = h) {W : Nat} (hf : rm.frames + 1 ≤ R.frames) (hl : W + (maxL + 11) + rm.locals ≤ R.locals) (hc : cells + rm.cells ≤ R.cells) (hs : slots + rm.slots ≤ R.slots)
    {g : JFrame} (hg : g.method = m) (hsize : g.locals.size = c.maxLocals) (hlen : ∀ sig, parseMethodDescriptor y.desc = some sig → argsL.length = sig.parameters.length)
    (hstack : g.stack = argsL.reverse ++ rest) (hW : 2 * g.monitorRoom + (rest.map fun v => v.category).sum ≤ W) (hdg : decode c.code g.pc = .ok (.invokestatic index, 3)) :
    ∃ (v : Option Value) (T' : State) (L : List Loc), Stand p l e R s m args below meth c T' (locs ++ L) (cells + rm.cells) (slots + rm.slots) ∧ Q v T'.heap L ∧ ∀ K, own_Goes p e below K T' { g with pc := g.pc + 3, stack := v.toList ++ rest } → own_Goes p e below K T g := by
  obtain ⟨v, vm₁, ⟨T', L', k', n'⟩, -, X', ⟨L, hQ, l1, l2, l3⟩, st⟩ := Jvm.LawKit.callS X hx hown (mvT hZ w1) (mvT hZ w2) (mvT hZ w3) (mvT hZ w4) hy (backOf (W := W) hM hZ w4 w3 hf hl) hg hsize hlen hstack hW hdg (fun _ _ => ⟨rfl, eT, hc, hs⟩)
  dsimp only [Pt.U, Pt.locs, Pt.cells, Pt.slots] at X' l1 l2 l3 st hQ
  subst l1 l2 l3
  exact ⟨v, T', L, X', hQ, fun K k => own_by st k⟩
theorem own_callI (X : Stand p l e R s m args below meth c T locs cells slots) (hx : p.tables.exec = Jvm.exec) (hZ : Z.Warmed39 s.vm) {own : String} {index : Nat} {y : MethodName} {bytes : ByteArray} {maxL : Nat} (hy1 : y.name = "<init>")
    (hown : s.vm.findClass own = some m.cls) (w1 : (Cond.methodLink own index y).before a0 Z = true) (w2 : (Cond.instanceMethod y).before a0 Z = true) (w3 : (Cond.initialized y.cls).before a0 Z = true) (w4 : (Cond.code y bytes maxL none).before a0 Z = true) (hy : y.cls ≠ "java/lang/invoke/MethodHandle" ∧ y.cls ≠ "java/lang/invoke/VarHandle")
    {rm : Room} {a : Addr} {argsL rest : List Value} (hM : own_Met l Z y bytes maxL none rm (.ref a :: argsL).toArray h Q) (eT : T.heap = h) {W : Nat} (hf : rm.frames + 1 ≤ R.frames) (hl : W + (maxL + 11) + rm.locals ≤ R.locals) (hc : cells + rm.cells ≤ R.cells) (hs : slots + rm.slots ≤ R.slots)
    {g : JFrame} (hg : g.method = m) (hsize : g.locals.size = c.maxLocals) (hlen : ∀ sig, parseMethodDescriptor y.desc = some sig → argsL.length = sig.parameters.length)
    (hstack : g.stack = argsL.reverse ++ .ref a :: rest) (hW : 2 * g.monitorRoom + (rest.map fun v => v.category).sum ≤ W) (hdg : decode c.code g.pc = .ok (.invokespecial index, 3)) :
    ∃ (v : Option Value) (T' : State) (L : List Loc), Stand p l e R s m args below meth c T' (locs ++ L) (cells + rm.cells) (slots + rm.slots) ∧ Q v T'.heap L ∧ ∀ K, own_Goes p e below K T' { g with pc := g.pc + 3, stack := v.toList ++ rest } → own_Goes p e below K T g := by
  obtain ⟨v, vm₁, ⟨T', L', k', n'⟩, -, X', ⟨L, hQ, l1, l2, l3⟩, st⟩ := X.specialBack hx hy1 hown (mvT hZ w1) (mvT hZ w2) (mvT hZ w4) hy (backOf (W := W) hM hZ w4 w3 hf hl) hg hsize (Steps.refl _) hlen hstack hW hdg (fun _ _ => ⟨rfl, eT, hc, hs⟩)
  dsimp only [Pt.U, Pt.locs, Pt.cells, Pt.slots] at X' l1 l2 l3 st hQ
  subst l1 l2 l3
  exact ⟨v, T', L, X', hQ, fun K k => own_by (fun t k => st.trans k) k⟩
theorem own_callV (X : Stand p l e R s m args below meth c T locs cells slots) (hx : p.tables.exec = Jvm.exec) (hZ : Z.Warmed39 s.vm) {own C : String} {index : Nat} {y : MethodName} {bytes : ByteArray} {maxL : Nat} {ret : Option FieldType}
    (hown : s.vm.findClass own = some m.cls) (w1 : (Cond.methodLink own index y).before a0 Z = true) (w5 : (Cond.declares y).before a0 Z = true) (w6 : (Cond.selects C y y).before a0 Z = true) (w2 : (Cond.instanceMethod y).before a0 Z = true) (w3 : (Cond.initialized y.cls).before a0 Z = true) (w4 : (Cond.code y bytes maxL ret).before a0 Z = true) (hy : y.cls ≠ "java/lang/invoke/MethodHandle" ∧ y.cls ≠ "java/lang/invoke/VarHandle")
    {rm : Room} {a : Addr} {argsL rest : List Value} (E : Exa Z h a C) (hM : own_Met l Z y bytes maxL ret rm (.ref a :: argsL).toArray h Q) (eT : T.heap = h) {W : Nat} (hf : rm.frames + 1 ≤ R.frames) (hl : W + (maxL + 11) + rm.locals ≤ R.locals) (hc : cells + rm.cells ≤ R.cells) (hs : slots + rm.slots ≤ R.slots)
    {g : JFrame} (hg : g.method = m) (hsize : g.locals.size = c.maxLocals) (hlen : ∀ sig, parseMethodDescriptor y.desc = some sig → argsL.length = sig.parameters.length)
    (hstack : g.stack = argsL.reverse ++ .ref a :: rest) (hW : 2 * g.monitorRoom + (rest.map fun v => v.category).sum ≤ W) (hdg : decode c.code g.pc = .ok (.invokevirtual index, 3)) :
    ∃ (v : Option Value) (T' : State) (L : List Loc), Stand p l e R s m args below meth c T' (locs ++ L) (cells + rm.cells) (slots + rm.slots) ∧ Q v T'.heap L ∧ ∀ K, own_Goes p e below K T' { g with pc := g.pc + 3, stack := v.toList ++ rest } → own_Goes p e below K T g := by
  obtain ⟨cB, kB, q1, q2, q3⟩ := isOf hZ eT E
  obtain ⟨v, vm₁, ⟨T', L', k', n'⟩, -, X', ⟨L, hQ, l1, l2, l3⟩, st⟩ := X.virtualBack hx hown (mvT hZ w1) (mvT hZ w5) (notFace_of_selects (args := #[]) (mvT hZ w6)) (mvT hZ w6) (mvT hZ w2) hy (backOf (W := W) hM hZ w4 w3 hf hl) q1 q3 hg hsize (Steps.refl _) hlen hstack hW hdg (fun _ _ => ⟨rfl, eT, hc, hs⟩)
  dsimp only [Pt.U, Pt.locs, Pt.cells, Pt.slots] at X' l1 l2 l3 st hQ
  subst l1 l2 l3
  exact ⟨v, T', L, X', hQ, fun K k => own_by (fun t k => st.trans k) k⟩
theorem own_callPv (X : Stand p l e R s m args below meth c T locs cells slots) (hx : p.tables.exec = Jvm.exec) (hZ : Z.Warmed39 s.vm) {own C : String} {index : Nat} {y : MethodName} {bytes : ByteArray} {maxL : Nat} {ret : Option FieldType}
    (hown : s.vm.findClass own = some m.cls) (w1 : (Cond.methodLink own index y).before a0 Z = true) (w6 : (Cond.selects y.cls y y).before a0 Z = true) (w2 : (Cond.instanceMethod y).before a0 Z = true) (w7 : (Cond.privateMethod y).before a0 Z = true) (w3 : (Cond.initialized y.cls).before a0 Z = true) (w4 : (Cond.code y bytes maxL ret).before a0 Z = true) (hy : y.cls ≠ "java/lang/invoke/MethodHandle" ∧ y.cls ≠ "java/lang/invoke/VarHandle")
    {rm : Room} {a : Addr} {argsL rest : List Value} (E : Exa Z h a C) (hM : own_Met l Z y bytes maxL ret rm (.ref a :: argsL).toArray h Q) (eT : T.heap = h) {W : Nat} (hf : rm.frames + 1 ≤ R.frames) (hl : W + (maxL + 11) + rm.locals ≤ R.locals) (hc : cells + rm.cells ≤ R.cells) (hs : slots + rm.slots ≤ R.slots)
    {g : JFrame} (hg : g.method = m) (hsize : g.locals.size = c.maxLocals) (hlen : ∀ sig, parseMethodDescriptor y.desc = some sig → argsL.length = sig.parameters.length)
    (hstack : g.stack = argsL.reverse ++ .ref a :: rest) (hW : 2 * g.monitorRoom + (rest.map fun v => v.category).sum ≤ W) (hdg : decode c.code g.pc = .ok (.invokevirtual index, 3)) :
    ∃ (v : Option Value) (T' : State) (L : List Loc), Stand p l e R s m args below meth c T' (locs ++ L) (cells + rm.cells) (slots + rm.slots) ∧ Q v T'.heap L ∧ ∀ K, own_Goes p e below K T' { g with pc := g.pc + 3, stack := v.toList ++ rest } → own_Goes p e below K T g := by
  obtain ⟨cq, q1, q2⟩ := E.cell
  obtain ⟨v, vm₁, ⟨T', L', k', n'⟩, -, X', ⟨L, hQ, l1, l2, l3⟩, st⟩ := X.privateBack hx hown (mvT hZ w1) (mvT hZ w2) (mvT hZ w6) (Cond.privateMethod_at (mvP hZ w7 (args := #[]))) (mvT hZ w4) hy (backOf (W := W) hM hZ w4 w3 hf hl) hg hsize (Steps.refl _) (by rw [eT]; exact q1) q2 hlen hstack hW hdg (fun _ _ => ⟨rfl, eT, hc, hs⟩)
  dsimp only [Pt.U, Pt.locs, Pt.cells, Pt.slots] at X' l1 l2 l3 st hQ
  subst l1 l2 l3
  exact ⟨v, T', L, X', hQ, fun K k => own_by (fun t k => st.trans k) k⟩
theorem own_Sta_keep {h' : Heap} {ws : List Addr} {O n d : String} {v : Value} (F : Sta Z h O n d v) (K : Keep h h' ws) (q : ∀ a ∈ ws, ∀ cell : Cell, h[a]? = some cell → cell.vm.isStatics = false) : Sta Z h' O n d v := by
  obtain ⟨cf, i, k, f, st, cell, h1, h2, h3, h4, h5, h6, h7⟩ := F
  refine ⟨cf, i, k, f, st, cell, h1, h2, h3, h4, K.2.1 st cell h5 (fun y => ?_), h6, h7⟩
  rw [q st y cell h5] at h6; cases h6
theorem own_selp {y : MethodName} {k : Nat} (w7 : (Cond.privateMethod y).before a0 Z = true) (w2 : (Cond.instanceMethod y).before a0 Z = true) (wi : (Cond.instantiable y.cls k).before a0 Z = true) (hy : y.cls ≠ "java/lang/invoke/MethodHandle" ∧ y.cls ≠ "java/lang/invoke/VarHandle") : (Cond.selects y.cls y y).before a0 Z = true := by
  obtain ⟨c, k, i1, i2, i3, i4, -⟩ := Cond.instantiable_spec wi
  rw [Bool.or_eq_false_iff] at i4
  exact Jvm.Stand.selects_self_of_private i1 i2 i4.1 (Cond.privateMethod_at w7) w2 hy
end OwnKit
def own_tk (n : Int32) (c : Int64) : Int32 := if (256 : Int32) < n then 1 else if (4096 : Int64) < c then 1 else 0
theorem own_tk0 (n : Int32) (c : Int64) : own_tk n c = (0 : Int32) ↔ n.toInt ≤ 256 ∧ c.toInt ≤ 4096 := by
  unfold own_tk
  by_cases h1 : (256 : Int32) < n
  · rw [if_pos h1]; rw [Int32.lt_iff_toInt_lt, show (256 : Int32).toInt = 256 from rfl] at h1
    exact ⟨fun h => absurd h (by decide), fun h => absurd h.1 (by omega)⟩
  · rw [if_neg h1]; rw [Int32.lt_iff_toInt_lt, show (256 : Int32).toInt = 256 from rfl] at h1
    by_cases h2 : (4096 : Int64) < c
    · rw [if_pos h2]; rw [Int64.lt_iff_toInt_lt, show (4096 : Int64).toInt = 4096 from rfl] at h2
      exact ⟨fun h => absurd h (by decide), fun h => absurd h.2 (by omega)⟩
    · rw [if_neg h2]; rw [Int64.lt_iff_toInt_lt, show (4096 : Int64).toInt = 4096 from rfl] at h2
      exact ⟨fun _ => ⟨by omega, by omega⟩, fun _ => rfl⟩
theorem own_mono (n1 n2 : Int32) (c1 c2 : Int64) (h : ¬ own_tk (if n2 < n1 then n2 else n1) (if c2 < c1 then c2 else c1) = (0 : Int32)) : ¬ own_tk (if n1 < n2 then n2 else n1) (if c1 < c2 then c2 else c1) = (0 : Int32) := by
  rw [own_tk0] at h ⊢
  have a : (if n2 < n1 then n2 else n1).toInt ≤ (if n1 < n2 then n2 else n1).toInt := by
    by_cases p : n2 < n1 <;> by_cases q : n1 < n2 <;> simp only [p, q, if_true, if_false] <;> rw [Int32.lt_iff_toInt_lt] at p q <;> omega
  have b : (if c2 < c1 then c2 else c1).toInt ≤ (if c1 < c2 then c2 else c1).toInt := by
    by_cases p : c2 < c1 <;> by_cases q : c1 < c2 <;> simp only [p, q, if_true, if_false] <;> rw [Int64.lt_iff_toInt_lt] at p q <;> omega
  omega
theorem own_d_minI_0 : decode jdk_29_method_69_code 0 = .ok (.iload_n 0, 1) := by decide +kernel
theorem own_d_minI_1 : decode jdk_29_method_69_code 1 = .ok (.iload_n 1, 1) := by decide +kernel
theorem own_d_minI_2 : decode jdk_29_method_69_code 2 = .ok (.if_icmp .gt 7, 3) := by decide +kernel
theorem own_d_minI_5 : decode jdk_29_method_69_code 5 = .ok (.iload_n 0, 1) := by decide +kernel
theorem own_d_minI_6 : decode jdk_29_method_69_code 6 = .ok (.goto 4, 3) := by decide +kernel
theorem own_d_minI_9 : decode jdk_29_method_69_code 9 = .ok (.iload_n 1, 1) := by decide +kernel
theorem own_d_minI_10 : decode jdk_29_method_69_code 10 = .ok (.ireturn, 1) := by decide +kernel
theorem own_ef_minI (m : MethodId) (a : Int32) (b : Int32) : entryFrame m #[(.int a), (.int b)] 2 = mkF m 0 #[.val (.int a), .val (.int b)] [] := by first | (simp [entryFrame, mkF, argsToLocals, Value.category]; done) | rfl
def own_Q_minI (Z : State) (a : Int32) (b : Int32) (h0 : Heap) (n0 : Nat) (v : Option Value) (h : Heap) (L : List Loc) : Prop := v = some (.int (if b < a then b else a)) ∧ Fr n0 L ∧ h = h0
set_option maxRecDepth 65536 in
set_option maxHeartbeats 40000000 in
theorem own_rm_minI (l : Launch) (Z : State) (a0 : Array Value) (hw : ∀ d ∈ tables_1, d.before a0 Z = true) (ws : List Jvm.Cond) (a : Int32) (b : Int32) (h0 : Heap) (n0 : Nat) (Z0 : n0 ≤ h0.size) :
    MetFree l (⟨"java/lang/Math", "min", "(II)I"⟩ : MethodName) (head1 (Jvm.Cond.code (⟨"java/lang/Math", "min", "(II)I"⟩ : MethodName) jdk_29_method_69_code 2 (some .int) :: ws) ({ frames := 0, cells := 0, slots := 0, locals := 0 } : Room)) (fun a_ U_ => a_ = #[(.int a), (.int b)] ∧ Z.Warmed39 U_.vm ∧ U_.heap = h0) (fun _ _ _ _ _ => True) (fun _ U_ o_ U'_ => ∃ v_ L_, o_ = .returned v_ ∧ own_Q_minI Z a b h0 n0 v_ U'_.heap L_ ∧ FrameEnd U_ o_ U'_ L_ ({ frames := 0, cells := 0, slots := 0, locals := 0 } : Room).cells ({ frames := 0, cells := 0, slots := 0, locals := 0 } : Room).slots) := by
  refine MetFree.of_bodySF (Jvm.Free.JP.mathPlain rfl (by decide +kernel)) hisR ?_
  intro p e s m args below meth c s₁ Bd hml0 hP hK
  obtain ⟨rfl, hZ, hh⟩ := hP
  have hx := Bd.exec
  have hby := Bd.bytes
  have hlk : meth.locks = false := BodyLoose.notSynchronized Bd
  have hml : c.maxLocals = 2 := hml0
  have hown : s.vm.findClass "java/lang/Math" = some m.cls := findClass_of_methodNamed Bd.named
  have hnm := (name_of_methodNamed Bd.named Bd.method).1
  have X0 : Stand p l e ({ frames := 0, cells := 0, slots := 0, locals := 0 } : Room) s m #[(.int a), (.int b)] below meth c s₁ [] 0 0 := Stand.of_body Bd
  have e0 : s₁.heap = h0 := by rw [← hh, Bd.state]; rfl
  have N0 := Fr.nil n0
  show own_Goes p e below (own_K (own_Q_minI Z a b h0 n0) s ({ frames := 0, cells := 0, slots := 0, locals := 0 } : Room).cells ({ frames := 0, cells := 0, slots := 0, locals := 0 } : Room).slots) s₁ (entryFrame m #[(.int a), (.int b)] 2)
  rw [own_ef_minI]
  refine own_by (T' := s₁) (g' := (mkF m 1 #[.val (.int a), .val (.int b)] [(.int a)])) (fun t_ k_ => XS.iloadN X0.here hx rfl (hb hby own_d_minI_0) rfl k_) ?_
  refine own_by (T' := s₁) (g' := (mkF m 2 #[.val (.int a), .val (.int b)] [(.int b), (.int a)])) (fun t_ k_ => XS.iloadN X0.here hx rfl (hb hby own_d_minI_1) rfl k_) ?_
  by_cases c2_1 : b < a
  · skip
    refine own_by (T' := s₁) (g' := (mkF m 9 #[.val (.int a), .val (.int b)] [])) (fun t_ k_ => XS.icmpYes X0.here hx rfl (pc0 := 2) (pc' := 9) rfl (hb hby own_d_minI_2) rfl (tlt (c2_1 : b < a)).2.2.1 (by decide) (by decide) k_) ?_
    refine own_by (T' := s₁) (g' := (mkF m 10 #[.val (.int a), .val (.int b)] [(.int b)])) (fun t_ k_ => XS.iloadN X0.here hx rfl (hb hby own_d_minI_9) rfl k_) ?_
    refine own_retI X0 hx Bd.returns hlk (hb hby own_d_minI_10) (by decide) (by decide) ?_
    rw [e0]
    exact ⟨by simp [c2_1], N0, rfl⟩
  · skip
    refine own_by (T' := s₁) (g' := (mkF m 5 #[.val (.int a), .val (.int b)] [])) (fun t_ k_ => XS.icmpNo X0.here hx rfl (hb hby own_d_minI_2) rfl (flt (c2_1 : ¬ (b < a))).2.2.1 k_) ?_
    refine own_by (T' := s₁) (g' := (mkF m 6 #[.val (.int a), .val (.int b)] [(.int a)])) (fun t_ k_ => XS.iloadN X0.here hx rfl (hb hby own_d_minI_5) rfl k_) ?_
    refine own_by (T' := s₁) (g' := (mkF m 10 #[.val (.int a), .val (.int b)] [(.int a)])) (fun t_ k_ => XS.goto X0.here hx rfl (pc0 := 6) (pc' := 10) rfl (hb hby own_d_minI_6) (by decide) (by decide) k_) ?_
    refine own_retI X0 hx Bd.returns hlk (hb hby own_d_minI_10) (by decide) (by decide) ?_
    rw [e0]
    exact ⟨by simp [c2_1], N0, rfl⟩
theorem own_d_minJ_0 : decode jdk_29_method_70_code 0 = .ok (.lload_n 0, 1) := by decide +kernel
theorem own_d_minJ_1 : decode jdk_29_method_70_code 1 = .ok (.lload_n 2, 1) := by decide +kernel
theorem own_d_minJ_2 : decode jdk_29_method_70_code 2 = .ok (.lcmp, 1) := by decide +kernel
theorem own_d_minJ_3 : decode jdk_29_method_70_code 3 = .ok (.ifCond .gt 7, 3) := by decide +kernel
theorem own_d_minJ_6 : decode jdk_29_method_70_code 6 = .ok (.lload_n 0, 1) := by decide +kernel
theorem own_d_minJ_7 : decode jdk_29_method_70_code 7 = .ok (.goto 4, 3) := by decide +kernel
theorem own_d_minJ_10 : decode jdk_29_method_70_code 10 = .ok (.lload_n 2, 1) := by decide +kernel
theorem own_d_minJ_11 : decode jdk_29_method_70_code 11 = .ok (.lreturn, 1) := by decide +kernel
theorem own_ef_minJ (m : MethodId) (a : Int64) (b : Int64) : entryFrame m #[(.long a), (.long b)] 4 = mkF m 0 #[.val (.long a), .second, .val (.long b), .second] [] := by first | (simp [entryFrame, mkF, argsToLocals, Value.category]; done) | rfl
def own_Q_minJ (Z : State) (a : Int64) (b : Int64) (h0 : Heap) (n0 : Nat) (v : Option Value) (h : Heap) (L : List Loc) : Prop := v = some (.long (if b < a then b else a)) ∧ Fr n0 L ∧ h = h0
set_option maxRecDepth 65536 in
set_option maxHeartbeats 40000000 in
theorem own_rm_minJ (l : Launch) (Z : State) (a0 : Array Value) (hw : ∀ d ∈ tables_1, d.before a0 Z = true) (ws : List Jvm.Cond) (a : Int64) (b : Int64) (h0 : Heap) (n0 : Nat) (Z0 : n0 ≤ h0.size) :
    MetFree l (⟨"java/lang/Math", "min", "(JJ)J"⟩ : MethodName) (head1 (Jvm.Cond.code (⟨"java/lang/Math", "min", "(JJ)J"⟩ : MethodName) jdk_29_method_70_code 4 (some .long) :: ws) ({ frames := 0, cells := 0, slots := 0, locals := 0 } : Room)) (fun a_ U_ => a_ = #[(.long a), (.long b)] ∧ Z.Warmed39 U_.vm ∧ U_.heap = h0) (fun _ _ _ _ _ => True) (fun _ U_ o_ U'_ => ∃ v_ L_, o_ = .returned v_ ∧ own_Q_minJ Z a b h0 n0 v_ U'_.heap L_ ∧ FrameEnd U_ o_ U'_ L_ ({ frames := 0, cells := 0, slots := 0, locals := 0 } : Room).cells ({ frames := 0, cells := 0, slots := 0, locals := 0 } : Room).slots) := by
  refine MetFree.of_bodySF (Jvm.Free.JP.mathPlain rfl (by decide +kernel)) hisR ?_
  intro p e s m args below meth c s₁ Bd hml0 hP hK
  obtain ⟨rfl, hZ, hh⟩ := hP
  have hx := Bd.exec
  have hby := Bd.bytes
  have hlk : meth.locks = false := BodyLoose.notSynchronized Bd
  have hml : c.maxLocals = 4 := hml0
  have hown : s.vm.findClass "java/lang/Math" = some m.cls := findClass_of_methodNamed Bd.named
  have hnm := (name_of_methodNamed Bd.named Bd.method).1
  have X0 : Stand p l e ({ frames := 0, cells := 0, slots := 0, locals := 0 } : Room) s m #[(.long a), (.long b)] below meth c s₁ [] 0 0 := Stand.of_body Bd
  have e0 : s₁.heap = h0 := by rw [← hh, Bd.state]; rfl
  have N0 := Fr.nil n0
  show own_Goes p e below (own_K (own_Q_minJ Z a b h0 n0) s ({ frames := 0, cells := 0, slots := 0, locals := 0 } : Room).cells ({ frames := 0, cells := 0, slots := 0, locals := 0 } : Room).slots) s₁ (entryFrame m #[(.long a), (.long b)] 4)
  rw [own_ef_minJ]
  refine own_by (T' := s₁) (g' := (mkF m 1 #[.val (.long a), .second, .val (.long b), .second] [(.long a)])) (fun t_ k_ => XS.lloadN X0.here hx rfl (hb hby own_d_minJ_0) rfl k_) ?_
  refine own_by (T' := s₁) (g' := (mkF m 2 #[.val (.long a), .second, .val (.long b), .second] [(.long b), (.long a)])) (fun t_ k_ => XS.lloadN X0.here hx rfl (hb hby own_d_minJ_1) rfl k_) ?_
  refine own_by (T' := s₁) (g' := (mkF m 3 #[.val (.long a), .second, .val (.long b), .second] [(.int (lcmpW a b))])) (fun t_ k_ => XS.lcmp X0.here hx rfl (hb hby own_d_minJ_2) rfl k_) ?_
  by_cases c3_1 : b < a
  · skip
    refine own_by (T' := s₁) (g' := (mkF m 10 #[.val (.long a), .second, .val (.long b), .second] [])) (fun t_ k_ => XS.ifYes X0.here hx rfl (pc0 := 3) (pc' := 10) rfl (hb hby own_d_minJ_3) rfl ((if0 _ _).trans (tlt (((lw_gt _ _).mpr c3_1) : (0 : Int32) < (lcmpW a b))).2.2.1) (by decide) (by decide) k_) ?_
    refine own_by (T' := s₁) (g' := (mkF m 11 #[.val (.long a), .second, .val (.long b), .second] [(.long b)])) (fun t_ k_ => XS.lloadN X0.here hx rfl (hb hby own_d_minJ_10) rfl k_) ?_
    refine own_retJ X0 hx Bd.returns hlk (hb hby own_d_minJ_11) (by decide) (by decide) ?_
    rw [e0]
    exact ⟨by simp [c3_1], N0, rfl⟩
  · skip
    refine own_by (T' := s₁) (g' := (mkF m 6 #[.val (.long a), .second, .val (.long b), .second] [])) (fun t_ k_ => XS.ifNo X0.here hx rfl (hb hby own_d_minJ_3) rfl ((if0 _ _).trans (flt ((fun q_ => c3_1 ((lw_gt _ _).mp q_)) : ¬ ((0 : Int32) < (lcmpW a b)))).2.2.1) k_) ?_
    refine own_by (T' := s₁) (g' := (mkF m 7 #[.val (.long a), .second, .val (.long b), .second] [(.long a)])) (fun t_ k_ => XS.lloadN X0.here hx rfl (hb hby own_d_minJ_6) rfl k_) ?_
    refine own_by (T' := s₁) (g' := (mkF m 11 #[.val (.long a), .second, .val (.long b), .second] [(.long a)])) (fun t_ k_ => XS.goto X0.here hx rfl (pc0 := 7) (pc' := 11) rfl (hb hby own_d_minJ_7) (by decide) (by decide) k_) ?_
    refine own_retJ X0 hx Bd.returns hlk (hb hby own_d_minJ_11) (by decide) (by decide) ?_
    rw [e0]
    exact ⟨by simp [c3_1], N0, rfl⟩
theorem own_d_maxI_0 : decode jdk_29_method_65_code 0 = .ok (.iload_n 0, 1) := by decide +kernel
theorem own_d_maxI_1 : decode jdk_29_method_65_code 1 = .ok (.iload_n 1, 1) := by decide +kernel
theorem own_d_maxI_2 : decode jdk_29_method_65_code 2 = .ok (.if_icmp .lt 7, 3) := by decide +kernel
theorem own_d_maxI_5 : decode jdk_29_method_65_code 5 = .ok (.iload_n 0, 1) := by decide +kernel
theorem own_d_maxI_6 : decode jdk_29_method_65_code 6 = .ok (.goto 4, 3) := by decide +kernel
theorem own_d_maxI_9 : decode jdk_29_method_65_code 9 = .ok (.iload_n 1, 1) := by decide +kernel
theorem own_d_maxI_10 : decode jdk_29_method_65_code 10 = .ok (.ireturn, 1) := by decide +kernel
theorem own_ef_maxI (m : MethodId) (a : Int32) (b : Int32) : entryFrame m #[(.int a), (.int b)] 2 = mkF m 0 #[.val (.int a), .val (.int b)] [] := by first | (simp [entryFrame, mkF, argsToLocals, Value.category]; done) | rfl
def own_Q_maxI (Z : State) (a : Int32) (b : Int32) (h0 : Heap) (n0 : Nat) (v : Option Value) (h : Heap) (L : List Loc) : Prop := v = some (.int (if a < b then b else a)) ∧ Fr n0 L ∧ h = h0
set_option maxRecDepth 65536 in
set_option maxHeartbeats 40000000 in
theorem own_rm_maxI (l : Launch) (Z : State) (a0 : Array Value) (hw : ∀ d ∈ tables_1, d.before a0 Z = true) (ws : List Jvm.Cond) (a : Int32) (b : Int32) (h0 : Heap) (n0 : Nat) (Z0 : n0 ≤ h0.size) :
    MetFree l (⟨"java/lang/Math", "max", "(II)I"⟩ : MethodName) (head1 (Jvm.Cond.code (⟨"java/lang/Math", "max", "(II)I"⟩ : MethodName) jdk_29_method_65_code 2 (some .int) :: ws) ({ frames := 0, cells := 0, slots := 0, locals := 0 } : Room)) (fun a_ U_ => a_ = #[(.int a), (.int b)] ∧ Z.Warmed39 U_.vm ∧ U_.heap = h0) (fun _ _ _ _ _ => True) (fun _ U_ o_ U'_ => ∃ v_ L_, o_ = .returned v_ ∧ own_Q_maxI Z a b h0 n0 v_ U'_.heap L_ ∧ FrameEnd U_ o_ U'_ L_ ({ frames := 0, cells := 0, slots := 0, locals := 0 } : Room).cells ({ frames := 0, cells := 0, slots := 0, locals := 0 } : Room).slots) := by
  refine MetFree.of_bodySF (Jvm.Free.JP.mathPlain rfl (by decide +kernel)) hisR ?_
  intro p e s m args below meth c s₁ Bd hml0 hP hK
  obtain ⟨rfl, hZ, hh⟩ := hP
  have hx := Bd.exec
  have hby := Bd.bytes
  have hlk : meth.locks = false := BodyLoose.notSynchronized Bd
  have hml : c.maxLocals = 2 := hml0
  have hown : s.vm.findClass "java/lang/Math" = some m.cls := findClass_of_methodNamed Bd.named
  have hnm := (name_of_methodNamed Bd.named Bd.method).1
  have X0 : Stand p l e ({ frames := 0, cells := 0, slots := 0, locals := 0 } : Room) s m #[(.int a), (.int b)] below meth c s₁ [] 0 0 := Stand.of_body Bd
  have e0 : s₁.heap = h0 := by rw [← hh, Bd.state]; rfl
  have N0 := Fr.nil n0
  show own_Goes p e below (own_K (own_Q_maxI Z a b h0 n0) s ({ frames := 0, cells := 0, slots := 0, locals := 0 } : Room).cells ({ frames := 0, cells := 0, slots := 0, locals := 0 } : Room).slots) s₁ (entryFrame m #[(.int a), (.int b)] 2)
  rw [own_ef_maxI]
  refine own_by (T' := s₁) (g' := (mkF m 1 #[.val (.int a), .val (.int b)] [(.int a)])) (fun t_ k_ => XS.iloadN X0.here hx rfl (hb hby own_d_maxI_0) rfl k_) ?_
  refine own_by (T' := s₁) (g' := (mkF m 2 #[.val (.int a), .val (.int b)] [(.int b), (.int a)])) (fun t_ k_ => XS.iloadN X0.here hx rfl (hb hby own_d_maxI_1) rfl k_) ?_
  by_cases c2_1 : a < b
  · skip
    refine own_by (T' := s₁) (g' := (mkF m 9 #[.val (.int a), .val (.int b)] [])) (fun t_ k_ => XS.icmpYes X0.here hx rfl (pc0 := 2) (pc' := 9) rfl (hb hby own_d_maxI_2) rfl (tlt (c2_1 : a < b)).1 (by decide) (by decide) k_) ?_
    refine own_by (T' := s₁) (g' := (mkF m 10 #[.val (.int a), .val (.int b)] [(.int b)])) (fun t_ k_ => XS.iloadN X0.here hx rfl (hb hby own_d_maxI_9) rfl k_) ?_
    refine own_retI X0 hx Bd.returns hlk (hb hby own_d_maxI_10) (by decide) (by decide) ?_
    rw [e0]
    exact ⟨by simp [c2_1], N0, rfl⟩
  · skip
    refine own_by (T' := s₁) (g' := (mkF m 5 #[.val (.int a), .val (.int b)] [])) (fun t_ k_ => XS.icmpNo X0.here hx rfl (hb hby own_d_maxI_2) rfl (flt (c2_1 : ¬ (a < b))).1 k_) ?_
    refine own_by (T' := s₁) (g' := (mkF m 6 #[.val (.int a), .val (.int b)] [(.int a)])) (fun t_ k_ => XS.iloadN X0.here hx rfl (hb hby own_d_maxI_5) rfl k_) ?_
    refine own_by (T' := s₁) (g' := (mkF m 10 #[.val (.int a), .val (.int b)] [(.int a)])) (fun t_ k_ => XS.goto X0.here hx rfl (pc0 := 6) (pc' := 10) rfl (hb hby own_d_maxI_6) (by decide) (by decide) k_) ?_
    refine own_retI X0 hx Bd.returns hlk (hb hby own_d_maxI_10) (by decide) (by decide) ?_
    rw [e0]
    exact ⟨by simp [c2_1], N0, rfl⟩
theorem own_d_maxJ_0 : decode jdk_29_method_66_code 0 = .ok (.lload_n 0, 1) := by decide +kernel
theorem own_d_maxJ_1 : decode jdk_29_method_66_code 1 = .ok (.lload_n 2, 1) := by decide +kernel
theorem own_d_maxJ_2 : decode jdk_29_method_66_code 2 = .ok (.lcmp, 1) := by decide +kernel
theorem own_d_maxJ_3 : decode jdk_29_method_66_code 3 = .ok (.ifCond .lt 7, 3) := by decide +kernel
theorem own_d_maxJ_6 : decode jdk_29_method_66_code 6 = .ok (.lload_n 0, 1) := by decide +kernel
theorem own_d_maxJ_7 : decode jdk_29_method_66_code 7 = .ok (.goto 4, 3) := by decide +kernel
theorem own_d_maxJ_10 : decode jdk_29_method_66_code 10 = .ok (.lload_n 2, 1) := by decide +kernel
theorem own_d_maxJ_11 : decode jdk_29_method_66_code 11 = .ok (.lreturn, 1) := by decide +kernel
theorem own_ef_maxJ (m : MethodId) (a : Int64) (b : Int64) : entryFrame m #[(.long a), (.long b)] 4 = mkF m 0 #[.val (.long a), .second, .val (.long b), .second] [] := by first | (simp [entryFrame, mkF, argsToLocals, Value.category]; done) | rfl
def own_Q_maxJ (Z : State) (a : Int64) (b : Int64) (h0 : Heap) (n0 : Nat) (v : Option Value) (h : Heap) (L : List Loc) : Prop := v = some (.long (if a < b then b else a)) ∧ Fr n0 L ∧ h = h0
set_option maxRecDepth 65536 in
set_option maxHeartbeats 40000000 in
theorem own_rm_maxJ (l : Launch) (Z : State) (a0 : Array Value) (hw : ∀ d ∈ tables_1, d.before a0 Z = true) (ws : List Jvm.Cond) (a : Int64) (b : Int64) (h0 : Heap) (n0 : Nat) (Z0 : n0 ≤ h0.size) :
    MetFree l (⟨"java/lang/Math", "max", "(JJ)J"⟩ : MethodName) (head1 (Jvm.Cond.code (⟨"java/lang/Math", "max", "(JJ)J"⟩ : MethodName) jdk_29_method_66_code 4 (some .long) :: ws) ({ frames := 0, cells := 0, slots := 0, locals := 0 } : Room)) (fun a_ U_ => a_ = #[(.long a), (.long b)] ∧ Z.Warmed39 U_.vm ∧ U_.heap = h0) (fun _ _ _ _ _ => True) (fun _ U_ o_ U'_ => ∃ v_ L_, o_ = .returned v_ ∧ own_Q_maxJ Z a b h0 n0 v_ U'_.heap L_ ∧ FrameEnd U_ o_ U'_ L_ ({ frames := 0, cells := 0, slots := 0, locals := 0 } : Room).cells ({ frames := 0, cells := 0, slots := 0, locals := 0 } : Room).slots) := by
  refine MetFree.of_bodySF (Jvm.Free.JP.mathPlain rfl (by decide +kernel)) hisR ?_
  intro p e s m args below meth c s₁ Bd hml0 hP hK
  obtain ⟨rfl, hZ, hh⟩ := hP
  have hx := Bd.exec
  have hby := Bd.bytes
  have hlk : meth.locks = false := BodyLoose.notSynchronized Bd
  have hml : c.maxLocals = 4 := hml0
  have hown : s.vm.findClass "java/lang/Math" = some m.cls := findClass_of_methodNamed Bd.named
  have hnm := (name_of_methodNamed Bd.named Bd.method).1
  have X0 : Stand p l e ({ frames := 0, cells := 0, slots := 0, locals := 0 } : Room) s m #[(.long a), (.long b)] below meth c s₁ [] 0 0 := Stand.of_body Bd
  have e0 : s₁.heap = h0 := by rw [← hh, Bd.state]; rfl
  have N0 := Fr.nil n0
  show own_Goes p e below (own_K (own_Q_maxJ Z a b h0 n0) s ({ frames := 0, cells := 0, slots := 0, locals := 0 } : Room).cells ({ frames := 0, cells := 0, slots := 0, locals := 0 } : Room).slots) s₁ (entryFrame m #[(.long a), (.long b)] 4)
  rw [own_ef_maxJ]
  refine own_by (T' := s₁) (g' := (mkF m 1 #[.val (.long a), .second, .val (.long b), .second] [(.long a)])) (fun t_ k_ => XS.lloadN X0.here hx rfl (hb hby own_d_maxJ_0) rfl k_) ?_
  refine own_by (T' := s₁) (g' := (mkF m 2 #[.val (.long a), .second, .val (.long b), .second] [(.long b), (.long a)])) (fun t_ k_ => XS.lloadN X0.here hx rfl (hb hby own_d_maxJ_1) rfl k_) ?_
  refine own_by (T' := s₁) (g' := (mkF m 3 #[.val (.long a), .second, .val (.long b), .second] [(.int (lcmpW a b))])) (fun t_ k_ => XS.lcmp X0.here hx rfl (hb hby own_d_maxJ_2) rfl k_) ?_
  by_cases c3_1 : a < b
  · skip
    refine own_by (T' := s₁) (g' := (mkF m 10 #[.val (.long a), .second, .val (.long b), .second] [])) (fun t_ k_ => XS.ifYes X0.here hx rfl (pc0 := 3) (pc' := 10) rfl (hb hby own_d_maxJ_3) rfl ((if0 _ _).trans (tlt (((lw_lt _ _).mpr c3_1) : (lcmpW a b) < (0 : Int32))).1) (by decide) (by decide) k_) ?_
    refine own_by (T' := s₁) (g' := (mkF m 11 #[.val (.long a), .second, .val (.long b), .second] [(.long b)])) (fun t_ k_ => XS.lloadN X0.here hx rfl (hb hby own_d_maxJ_10) rfl k_) ?_
    refine own_retJ X0 hx Bd.returns hlk (hb hby own_d_maxJ_11) (by decide) (by decide) ?_
    rw [e0]
    exact ⟨by simp [c3_1], N0, rfl⟩
  · skip
    refine own_by (T' := s₁) (g' := (mkF m 6 #[.val (.long a), .second, .val (.long b), .second] [])) (fun t_ k_ => XS.ifNo X0.here hx rfl (hb hby own_d_maxJ_3) rfl ((if0 _ _).trans (flt ((fun q_ => c3_1 ((lw_lt _ _).mp q_)) : ¬ ((lcmpW a b) < (0 : Int32)))).1) k_) ?_
    refine own_by (T' := s₁) (g' := (mkF m 7 #[.val (.long a), .second, .val (.long b), .second] [(.long a)])) (fun t_ k_ => XS.lloadN X0.here hx rfl (hb hby own_d_maxJ_6) rfl k_) ?_
    refine own_by (T' := s₁) (g' := (mkF m 11 #[.val (.long a), .second, .val (.long b), .second] [(.long a)])) (fun t_ k_ => XS.goto X0.here hx rfl (pc0 := 7) (pc' := 11) rfl (hb hby own_d_maxJ_7) (by decide) (by decide) k_) ?_
    refine own_retJ X0 hx Bd.returns hlk (hb hby own_d_maxJ_11) (by decide) (by decide) ?_
    rw [e0]
    exact ⟨by simp [c3_1], N0, rfl⟩
theorem own_d_tk_0 : decode prog_36_method_4_code 0 = .ok (.iload_n 0, 1) := by decide +kernel
theorem own_d_tk_1 : decode prog_36_method_4_code 1 = .ok (.sipush 256, 3) := by decide +kernel
theorem own_d_tk_4 : decode prog_36_method_4_code 4 = .ok (.if_icmp .gt 11, 3) := by decide +kernel
theorem own_d_tk_7 : decode prog_36_method_4_code 7 = .ok (.lload_n 1, 1) := by decide +kernel
theorem own_d_tk_8 : decode prog_36_method_4_code 8 = .ok (.ldc2_w 42, 3) := by decide +kernel
theorem own_d_tk_11 : decode prog_36_method_4_code 11 = .ok (.lcmp, 1) := by decide +kernel
theorem own_d_tk_12 : decode prog_36_method_4_code 12 = .ok (.ifCond .le 7, 3) := by decide +kernel
theorem own_d_tk_15 : decode prog_36_method_4_code 15 = .ok (.iconst 1, 1) := by decide +kernel
theorem own_d_tk_16 : decode prog_36_method_4_code 16 = .ok (.goto 4, 3) := by decide +kernel
theorem own_d_tk_19 : decode prog_36_method_4_code 19 = .ok (.iconst 0, 1) := by decide +kernel
theorem own_d_tk_20 : decode prog_36_method_4_code 20 = .ok (.ireturn, 1) := by decide +kernel
theorem own_pn_com_example_hermod_hermod_xml_NameRoom : plainName "com/example/hermod/hermod/xml/NameRoom" = true := by first | (simp [plainName, overriddenIn]; done) | decide +kernel
theorem own_ef_tk (m : MethodId) (n : Int32) (cc : Int64) : entryFrame m #[(.int n), (.long cc)] 3 = mkF m 0 #[.val (.int n), .val (.long cc), .second] [] := by first | (simp [entryFrame, mkF, argsToLocals, Value.category]; done) | rfl
def own_Q_tk (Z : State) (n : Int32) (cc : Int64) (r : Int32) (h0 : Heap) (n0 : Nat) (v : Option Value) (h : Heap) (L : List Loc) : Prop := v = some (.int r) ∧ Fr n0 L ∧ h = h0
set_option maxRecDepth 65536 in
set_option maxHeartbeats 40000000 in
theorem own_rm_tk (l : Launch) (Z : State) (a0 : Array Value) (hw : ∀ d ∈ tables_1, d.before a0 Z = true) (ws : List Jvm.Cond) (n : Int32) (cc : Int64) (r : Int32) (h0 : Heap) (n0 : Nat) (Z0 : n0 ≤ h0.size) (hr : own_tk n cc = r) :
    MetFree l (⟨"com/example/hermod/hermod/xml/NameRoom", "isTakenBy", "(IJ)Z"⟩ : MethodName) (head1 (Jvm.Cond.code (⟨"com/example/hermod/hermod/xml/NameRoom", "isTakenBy", "(IJ)Z"⟩ : MethodName) prog_36_method_4_code 3 (some .boolean) :: ws) ({ frames := 0, cells := 0, slots := 0, locals := 0 } : Room)) (fun a_ U_ => a_ = #[(.int n), (.long cc)] ∧ Z.Warmed39 U_.vm ∧ U_.heap = h0) (fun _ _ _ _ _ => True) (fun _ U_ o_ U'_ => ∃ v_ L_, o_ = .returned v_ ∧ own_Q_tk Z n cc r h0 n0 v_ U'_.heap L_ ∧ FrameEnd U_ o_ U'_ L_ ({ frames := 0, cells := 0, slots := 0, locals := 0 } : Room).cells ({ frames := 0, cells := 0, slots := 0, locals := 0 } : Room).slots) := by
  refine MetFree.of_bodySF (plainFor_of_name own_pn_com_example_hermod_hermod_xml_NameRoom) hisR ?_
  intro p e s m args below meth c s₁ Bd hml0 hP hK
  obtain ⟨rfl, hZ, hh⟩ := hP
  have hx := Bd.exec
  have hby := Bd.bytes
  have hlk : meth.locks = false := BodyLoose.notSynchronized Bd
  have hml : c.maxLocals = 3 := hml0
  have hown : s.vm.findClass "com/example/hermod/hermod/xml/NameRoom" = some m.cls := findClass_of_methodNamed Bd.named
  have hnm := (name_of_methodNamed Bd.named Bd.method).1
  have X0 : Stand p l e ({ frames := 0, cells := 0, slots := 0, locals := 0 } : Room) s m #[(.int n), (.long cc)] below meth c s₁ [] 0 0 := Stand.of_body Bd
  have e0 : s₁.heap = h0 := by rw [← hh, Bd.state]; rfl
  have N0 := Fr.nil n0
  show own_Goes p e below (own_K (own_Q_tk Z n cc r h0 n0) s ({ frames := 0, cells := 0, slots := 0, locals := 0 } : Room).cells ({ frames := 0, cells := 0, slots := 0, locals := 0 } : Room).slots) s₁ (entryFrame m #[(.int n), (.long cc)] 3)
  rw [own_ef_tk]
  refine own_by (T' := s₁) (g' := (mkF m 1 #[.val (.int n), .val (.long cc), .second] [(.int n)])) (fun t_ k_ => XS.iloadN X0.here hx rfl (hb hby own_d_tk_0) rfl k_) ?_
  refine own_by (T' := s₁) (g' := (mkF m 4 #[.val (.int n), .val (.long cc), .second] [(.int (256 : Int32)), (.int n)])) (fun t_ k_ => XS.sipush X0.here hx rfl (hb hby own_d_tk_1) k_) ?_
  by_cases c4_1 : (256 : Int32) < n
  · skip
    refine own_by (T' := s₁) (g' := (mkF m 15 #[.val (.int n), .val (.long cc), .second] [])) (fun t_ k_ => XS.icmpYes X0.here hx rfl (pc0 := 4) (pc' := 15) rfl (hb hby own_d_tk_4) rfl (tlt (c4_1 : (256 : Int32) < n)).2.2.1 (by decide) (by decide) k_) ?_
    refine own_by (T' := s₁) (g' := (mkF m 16 #[.val (.int n), .val (.long cc), .second] [(.int (1 : Int32))])) (fun t_ k_ => XS.iconst X0.here hx rfl (hb hby own_d_tk_15) k_) ?_
    refine own_by (T' := s₁) (g' := (mkF m 20 #[.val (.int n), .val (.long cc), .second] [(.int (1 : Int32))])) (fun t_ k_ => XS.goto X0.here hx rfl (pc0 := 16) (pc' := 20) rfl (hb hby own_d_tk_16) (by decide) (by decide) k_) ?_
    refine own_retN X0 hx (t := .boolean) Bd.returns hlk (by simp) (hb hby own_d_tk_20) (by decide) (by decide) (v := (1 : Int32)) rfl ?_
    rw [e0]
    exact ⟨by rw [← hr]; simp [own_tk, c4_1], N0, rfl⟩
  · skip
    refine own_by (T' := s₁) (g' := (mkF m 7 #[.val (.int n), .val (.long cc), .second] [])) (fun t_ k_ => XS.icmpNo X0.here hx rfl (hb hby own_d_tk_4) rfl (flt (c4_1 : ¬ ((256 : Int32) < n))).2.2.1 k_) ?_
    refine own_by (T' := s₁) (g' := (mkF m 8 #[.val (.int n), .val (.long cc), .second] [(.long cc)])) (fun t_ k_ => XS.lloadN X0.here hx rfl (hb hby own_d_tk_7) rfl k_) ?_
    refine own_by (T' := s₁) (g' := (mkF m 11 #[.val (.int n), .val (.long cc), .second] [(.long (4096 : Int64)), (.long cc)])) (fun t_ k_ => X0.ldc2Long hx hown (mvT hZ (hw _ (List.mem_of_getElem? (i := 17) rfl))) (g := (mkF m 8 #[.val (.int n), .val (.long cc), .second] [(.long cc)])) rfl (hb hby own_d_tk_8) _ k_) ?_
    refine own_by (T' := s₁) (g' := (mkF m 12 #[.val (.int n), .val (.long cc), .second] [(.int (lcmpW cc (4096 : Int64)))])) (fun t_ k_ => XS.lcmp X0.here hx rfl (hb hby own_d_tk_11) rfl k_) ?_
    by_cases c12_2 : (4096 : Int64) < cc
    · skip
      refine own_by (T' := s₁) (g' := (mkF m 15 #[.val (.int n), .val (.long cc), .second] [])) (fun t_ k_ => XS.ifNo X0.here hx rfl (hb hby own_d_tk_12) rfl ((if0 _ _).trans (tlt (((lw_gt _ _).mpr c12_2) : (0 : Int32) < (lcmpW cc (4096 : Int64)))).2.2.2) k_) ?_
      refine own_by (T' := s₁) (g' := (mkF m 16 #[.val (.int n), .val (.long cc), .second] [(.int (1 : Int32))])) (fun t_ k_ => XS.iconst X0.here hx rfl (hb hby own_d_tk_15) k_) ?_
      refine own_by (T' := s₁) (g' := (mkF m 20 #[.val (.int n), .val (.long cc), .second] [(.int (1 : Int32))])) (fun t_ k_ => XS.goto X0.here hx rfl (pc0 := 16) (pc' := 20) rfl (hb hby own_d_tk_16) (by decide) (by decide) k_) ?_
      refine own_retN X0 hx (t := .boolean) Bd.returns hlk (by simp) (hb hby own_d_tk_20) (by decide) (by decide) (v := (1 : Int32)) rfl ?_
      rw [e0]
      exact ⟨by rw [← hr]; simp [own_tk, c4_1, c12_2], N0, rfl⟩
    · skip
      refine own_by (T' := s₁) (g' := (mkF m 19 #[.val (.int n), .val (.long cc), .second] [])) (fun t_ k_ => XS.ifYes X0.here hx rfl (pc0 := 12) (pc' := 19) rfl (hb hby own_d_tk_12) rfl ((if0 _ _).trans (flt ((fun q_ => c12_2 ((lw_gt _ _).mp q_)) : ¬ ((0 : Int32) < (lcmpW cc (4096 : Int64))))).2.2.2) (by decide) (by decide) k_) ?_
      refine own_by (T' := s₁) (g' := (mkF m 20 #[.val (.int n), .val (.long cc), .second] [(.int (0 : Int32))])) (fun t_ k_ => XS.iconst X0.here hx rfl (hb hby own_d_tk_19) k_) ?_
      refine own_retN X0 hx (t := .boolean) Bd.returns hlk (by simp) (hb hby own_d_tk_20) (by decide) (by decide) (v := (0 : Int32)) rfl ?_
      rw [e0]
      exact ⟨by rw [← hr]; simp [own_tk, c4_1, c12_2], N0, rfl⟩
theorem own_pd0 : parseMethodDescriptor "(II)I" = some ⟨[.int, .int], some .int⟩ := by decide +kernel
theorem own_pd1 : parseMethodDescriptor "(JJ)J" = some ⟨[.long, .long], some .long⟩ := by decide +kernel
theorem own_pd2 : parseMethodDescriptor "(IJ)Z" = some ⟨[.int, .long], some .boolean⟩ := by decide +kernel
theorem own_pn_com_example_hermod_hermod_xml_NameRoomIsTakenByPinLaw : plainName "com/example/hermod/hermod/xml/NameRoomIsTakenByPinLaw" = true := by first | (simp [plainName, overriddenIn]; done) | decide +kernel
theorem own_ef_law (m : MethodId) (n1 : Int32) (c1 : Int64) (n2 : Int32) (c2 : Int64) : entryFrame m #[(.int n1), (.long c1), (.int n2), (.long c2)] maxLocals = mkF m 0 #[.val (.int n1), .val (.long c1), .second, .val (.int n2), .val (.long c2), .second, .unset, .unset, .unset, .unset, .unset, .unset, .unset, .unset, .unset, .unset] [] := by first | (simp [entryFrame, mkF, argsToLocals, Value.category, maxLocals]; done) | rfl
def own_Q_law (Z : State) (n1 : Int32) (c1 : Int64) (n2 : Int32) (c2 : Int64) (h0 : Heap) (n0 : Nat) (v : Option Value) (h : Heap) (L : List Loc) : Prop := v = some (.int 1) ∧ Fr n0 L
set_option maxRecDepth 65536 in
set_option maxHeartbeats 40000000 in
theorem own_rm_law (l : Launch) (Z : State) (a0 : Array Value) (hw : ∀ d ∈ tables_1, d.before a0 Z = true) (ws : List Jvm.Cond) (n1 : Int32) (c1 : Int64) (n2 : Int32) (c2 : Int64) (h0 : Heap) (n0 : Nat) (Z0 : n0 ≤ h0.size) :
    MetFree l x (head1 (Jvm.Cond.code x code maxLocals ret :: ws) room_1) (fun a_ U_ => a_ = #[(.int n1), (.long c1), (.int n2), (.long c2)] ∧ Z.Warmed39 U_.vm ∧ U_.heap = h0) (fun _ _ _ _ _ => True) (fun _ U_ o_ U'_ => ∃ v_ L_, o_ = .returned v_ ∧ own_Q_law Z n1 c1 n2 c2 h0 n0 v_ U'_.heap L_ ∧ FrameEnd U_ o_ U'_ L_ room_1.cells room_1.slots) := by
  refine MetFree.of_bodySF (plainFor_of_name own_pn_com_example_hermod_hermod_xml_NameRoomIsTakenByPinLaw) hisR ?_
  intro p e s m args below meth c s₁ Bd hml0 hP hK
  obtain ⟨rfl, hZ, hh⟩ := hP
  have hx := Bd.exec
  have hby := Bd.bytes
  have hlk : meth.locks = false := BodyLoose.notSynchronized Bd
  have hml : c.maxLocals = 16 := hml0
  have hown : s.vm.findClass "com/example/hermod/hermod/xml/NameRoomIsTakenByPinLaw" = some m.cls := findClass_of_methodNamed Bd.named
  have hnm := (name_of_methodNamed Bd.named Bd.method).1
  have X0 : Stand p l e room_1 s m #[(.int n1), (.long c1), (.int n2), (.long c2)] below meth c s₁ [] 0 0 := Stand.of_body Bd
  have e0 : s₁.heap = h0 := by rw [← hh, Bd.state]; rfl
  have N0 := Fr.nil n0
  show own_Goes p e below (own_K (own_Q_law Z n1 c1 n2 c2 h0 n0) s room_1.cells room_1.slots) s₁ (entryFrame m #[(.int n1), (.long c1), (.int n2), (.long c2)] maxLocals)
  rw [own_ef_law]
  refine own_by (T' := s₁) (g' := (mkF m 1 #[.val (.int n1), .val (.long c1), .second, .val (.int n2), .val (.long c2), .second, .unset, .unset, .unset, .unset, .unset, .unset, .unset, .unset, .unset, .unset] [(.int n1)])) (fun t_ k_ => XS.iloadN X0.here hx rfl (hb hby at_0) rfl k_) ?_
  refine own_by (T' := s₁) (g' := (mkF m 2 #[.val (.int n1), .val (.long c1), .second, .val (.int n2), .val (.long c2), .second, .unset, .unset, .unset, .unset, .unset, .unset, .unset, .unset, .unset, .unset] [(.int n2), (.int n1)])) (fun t_ k_ => XS.iloadN X0.here hx rfl (hb hby at_1) rfl k_) ?_
  obtain ⟨_, T1, L1, X1, hQ1, st1⟩ := own_callS X0 hx hZ (y := (⟨"java/lang/Math", "min", "(II)I"⟩ : MethodName)) hown (hw _ (List.mem_of_getElem? (i := 0) rfl)) (hw _ (List.mem_of_getElem? (i := 1) rfl)) (hw _ (List.mem_of_getElem? (i := 2) rfl)) (hw _ (List.mem_of_getElem? (i := 3) rfl)) (by decide) (argsL := [(.int n1), (.int n2)]) (rest := []) (own_rm_minI l Z a0 hw [] n1 n2  h0 n0 Z0 ) e0 (W := 0) (by decide) (by decide) (by decide) (by decide) (g := (mkF m 2 #[.val (.int n1), .val (.long c1), .second, .val (.int n2), .val (.long c2), .second, .unset, .unset, .unset, .unset, .unset, .unset, .unset, .unset, .unset, .unset] [(.int n2), (.int n1)])) rfl (by rw [hml]; rfl) (lenOf own_pd0 rfl) rfl (by show 2 * 0 + _ ≤ _; exact Nat.le_of_eq rfl) (hb hby at_2)
  obtain ⟨rfl, Nq1, e1⟩ := hQ1
  have N1 := Fr.app N0 Nq1
  refine st1 _ ?_
  show own_Goes p e below _ T1 (mkF m 5 #[.val (.int n1), .val (.long c1), .second, .val (.int n2), .val (.long c2), .second, .unset, .unset, .unset, .unset, .unset, .unset, .unset, .unset, .unset, .unset] [(.int (if n2 < n1 then n2 else n1))])
  refine own_by (T' := T1) (g' := (mkF m 7 #[.val (.int n1), .val (.long c1), .second, .val (.int n2), .val (.long c2), .second, .val (.int (if n2 < n1 then n2 else n1)), .unset, .unset, .unset, .unset, .unset, .unset, .unset, .unset, .unset] [])) (fun t_ k_ => XS.istore X1.here hx rfl (hb hby at_5) rfl (l' := #[.val (.int n1), .val (.long c1), .second, .val (.int n2), .val (.long c2), .second, .val (.int (if n2 < n1 then n2 else n1)), .unset, .unset, .unset, .unset, .unset, .unset, .unset, .unset, .unset]) rfl k_) ?_
  refine own_by (T' := T1) (g' := (mkF m 8 #[.val (.int n1), .val (.long c1), .second, .val (.int n2), .val (.long c2), .second, .val (.int (if n2 < n1 then n2 else n1)), .unset, .unset, .unset, .unset, .unset, .unset, .unset, .unset, .unset] [(.int n1)])) (fun t_ k_ => XS.iloadN X1.here hx rfl (hb hby at_7) rfl k_) ?_
  refine own_by (T' := T1) (g' := (mkF m 9 #[.val (.int n1), .val (.long c1), .second, .val (.int n2), .val (.long c2), .second, .val (.int (if n2 < n1 then n2 else n1)), .unset, .unset, .unset, .unset, .unset, .unset, .unset, .unset, .unset] [(.int n2), (.int n1)])) (fun t_ k_ => XS.iloadN X1.here hx rfl (hb hby at_8) rfl k_) ?_
  obtain ⟨_, T2, L2, X2, hQ2, st2⟩ := own_callS X1 hx hZ (y := (⟨"java/lang/Math", "max", "(II)I"⟩ : MethodName)) hown (hw _ (List.mem_of_getElem? (i := 4) rfl)) (hw _ (List.mem_of_getElem? (i := 5) rfl)) (hw _ (List.mem_of_getElem? (i := 2) rfl)) (hw _ (List.mem_of_getElem? (i := 6) rfl)) (by decide) (argsL := [(.int n1), (.int n2)]) (rest := []) (own_rm_maxI l Z a0 hw [] n1 n2  h0 n0 Z0 ) e1 (W := 0) (by decide) (by decide) (by decide) (by decide) (g := (mkF m 9 #[.val (.int n1), .val (.long c1), .second, .val (.int n2), .val (.long c2), .second, .val (.int (if n2 < n1 then n2 else n1)), .unset, .unset, .unset, .unset, .unset, .unset, .unset, .unset, .unset] [(.int n2), (.int n1)])) rfl (by rw [hml]; rfl) (lenOf own_pd0 rfl) rfl (by show 2 * 0 + _ ≤ _; exact Nat.le_of_eq rfl) (hb hby at_9)
  obtain ⟨rfl, Nq2, e2⟩ := hQ2
  have N2 := Fr.app N1 Nq2
  refine st2 _ ?_
  show own_Goes p e below _ T2 (mkF m 12 #[.val (.int n1), .val (.long c1), .second, .val (.int n2), .val (.long c2), .second, .val (.int (if n2 < n1 then n2 else n1)), .unset, .unset, .unset, .unset, .unset, .unset, .unset, .unset, .unset] [(.int (if n1 < n2 then n2 else n1))])
  refine own_by (T' := T2) (g' := (mkF m 14 #[.val (.int n1), .val (.long c1), .second, .val (.int n2), .val (.long c2), .second, .val (.int (if n2 < n1 then n2 else n1)), .val (.int (if n1 < n2 then n2 else n1)), .unset, .unset, .unset, .unset, .unset, .unset, .unset, .unset] [])) (fun t_ k_ => XS.istore X2.here hx rfl (hb hby at_12) rfl (l' := #[.val (.int n1), .val (.long c1), .second, .val (.int n2), .val (.long c2), .second, .val (.int (if n2 < n1 then n2 else n1)), .val (.int (if n1 < n2 then n2 else n1)), .unset, .unset, .unset, .unset, .unset, .unset, .unset, .unset]) rfl k_) ?_
  refine own_by (T' := T2) (g' := (mkF m 15 #[.val (.int n1), .val (.long c1), .second, .val (.int n2), .val (.long c2), .second, .val (.int (if n2 < n1 then n2 else n1)), .val (.int (if n1 < n2 then n2 else n1)), .unset, .unset, .unset, .unset, .unset, .unset, .unset, .unset] [(.long c1)])) (fun t_ k_ => XS.lloadN X2.here hx rfl (hb hby at_14) rfl k_) ?_
  refine own_by (T' := T2) (g' := (mkF m 17 #[.val (.int n1), .val (.long c1), .second, .val (.int n2), .val (.long c2), .second, .val (.int (if n2 < n1 then n2 else n1)), .val (.int (if n1 < n2 then n2 else n1)), .unset, .unset, .unset, .unset, .unset, .unset, .unset, .unset] [(.long c2), (.long c1)])) (fun t_ k_ => XS.lload X2.here hx rfl (hb hby at_15) rfl k_) ?_
  obtain ⟨_, T3, L3, X3, hQ3, st3⟩ := own_callS X2 hx hZ (y := (⟨"java/lang/Math", "min", "(JJ)J"⟩ : MethodName)) hown (hw _ (List.mem_of_getElem? (i := 7) rfl)) (hw _ (List.mem_of_getElem? (i := 8) rfl)) (hw _ (List.mem_of_getElem? (i := 2) rfl)) (hw _ (List.mem_of_getElem? (i := 9) rfl)) (by decide) (argsL := [(.long c1), (.long c2)]) (rest := []) (own_rm_minJ l Z a0 hw [] c1 c2  h0 n0 Z0 ) e2 (W := 0) (by decide) (by decide) (by decide) (by decide) (g := (mkF m 17 #[.val (.int n1), .val (.long c1), .second, .val (.int n2), .val (.long c2), .second, .val (.int (if n2 < n1 then n2 else n1)), .val (.int (if n1 < n2 then n2 else n1)), .unset, .unset, .unset, .unset, .unset, .unset, .unset, .unset] [(.long c2), (.long c1)])) rfl (by rw [hml]; rfl) (lenOf own_pd1 rfl) rfl (by show 2 * 0 + _ ≤ _; exact Nat.le_of_eq rfl) (hb hby at_17)
  obtain ⟨rfl, Nq3, e3⟩ := hQ3
  have N3 := Fr.app N2 Nq3
  refine st3 _ ?_
  show own_Goes p e below _ T3 (mkF m 20 #[.val (.int n1), .val (.long c1), .second, .val (.int n2), .val (.long c2), .second, .val (.int (if n2 < n1 then n2 else n1)), .val (.int (if n1 < n2 then n2 else n1)), .unset, .unset, .unset, .unset, .unset, .unset, .unset, .unset] [(.long (if c2 < c1 then c2 else c1))])
  refine own_by (T' := T3) (g' := (mkF m 22 #[.val (.int n1), .val (.long c1), .second, .val (.int n2), .val (.long c2), .second, .val (.int (if n2 < n1 then n2 else n1)), .val (.int (if n1 < n2 then n2 else n1)), .val (.long (if c2 < c1 then c2 else c1)), .second, .unset, .unset, .unset, .unset, .unset, .unset] [])) (fun t_ k_ => XS.lstore X3.here hx rfl (hb hby at_20) rfl (l' := #[.val (.int n1), .val (.long c1), .second, .val (.int n2), .val (.long c2), .second, .val (.int (if n2 < n1 then n2 else n1)), .val (.int (if n1 < n2 then n2 else n1)), .val (.long (if c2 < c1 then c2 else c1)), .second, .unset, .unset, .unset, .unset, .unset, .unset]) rfl k_) ?_
  refine own_by (T' := T3) (g' := (mkF m 23 #[.val (.int n1), .val (.long c1), .second, .val (.int n2), .val (.long c2), .second, .val (.int (if n2 < n1 then n2 else n1)), .val (.int (if n1 < n2 then n2 else n1)), .val (.long (if c2 < c1 then c2 else c1)), .second, .unset, .unset, .unset, .unset, .unset, .unset] [(.long c1)])) (fun t_ k_ => XS.lloadN X3.here hx rfl (hb hby at_22) rfl k_) ?_
  refine own_by (T' := T3) (g' := (mkF m 25 #[.val (.int n1), .val (.long c1), .second, .val (.int n2), .val (.long c2), .second, .val (.int (if n2 < n1 then n2 else n1)), .val (.int (if n1 < n2 then n2 else n1)), .val (.long (if c2 < c1 then c2 else c1)), .second, .unset, .unset, .unset, .unset, .unset, .unset] [(.long c2), (.long c1)])) (fun t_ k_ => XS.lload X3.here hx rfl (hb hby at_23) rfl k_) ?_
  obtain ⟨_, T4, L4, X4, hQ4, st4⟩ := own_callS X3 hx hZ (y := (⟨"java/lang/Math", "max", "(JJ)J"⟩ : MethodName)) hown (hw _ (List.mem_of_getElem? (i := 10) rfl)) (hw _ (List.mem_of_getElem? (i := 11) rfl)) (hw _ (List.mem_of_getElem? (i := 2) rfl)) (hw _ (List.mem_of_getElem? (i := 12) rfl)) (by decide) (argsL := [(.long c1), (.long c2)]) (rest := []) (own_rm_maxJ l Z a0 hw [] c1 c2  h0 n0 Z0 ) e3 (W := 0) (by decide) (by decide) (by decide) (by decide) (g := (mkF m 25 #[.val (.int n1), .val (.long c1), .second, .val (.int n2), .val (.long c2), .second, .val (.int (if n2 < n1 then n2 else n1)), .val (.int (if n1 < n2 then n2 else n1)), .val (.long (if c2 < c1 then c2 else c1)), .second, .unset, .unset, .unset, .unset, .unset, .unset] [(.long c2), (.long c1)])) rfl (by rw [hml]; rfl) (lenOf own_pd1 rfl) rfl (by show 2 * 0 + _ ≤ _; exact Nat.le_of_eq rfl) (hb hby at_25)
  obtain ⟨rfl, Nq4, e4⟩ := hQ4
  have N4 := Fr.app N3 Nq4
  refine st4 _ ?_
  show own_Goes p e below _ T4 (mkF m 28 #[.val (.int n1), .val (.long c1), .second, .val (.int n2), .val (.long c2), .second, .val (.int (if n2 < n1 then n2 else n1)), .val (.int (if n1 < n2 then n2 else n1)), .val (.long (if c2 < c1 then c2 else c1)), .second, .unset, .unset, .unset, .unset, .unset, .unset] [(.long (if c1 < c2 then c2 else c1))])
  refine own_by (T' := T4) (g' := (mkF m 30 #[.val (.int n1), .val (.long c1), .second, .val (.int n2), .val (.long c2), .second, .val (.int (if n2 < n1 then n2 else n1)), .val (.int (if n1 < n2 then n2 else n1)), .val (.long (if c2 < c1 then c2 else c1)), .second, .val (.long (if c1 < c2 then c2 else c1)), .second, .unset, .unset, .unset, .unset] [])) (fun t_ k_ => XS.lstore X4.here hx rfl (hb hby at_28) rfl (l' := #[.val (.int n1), .val (.long c1), .second, .val (.int n2), .val (.long c2), .second, .val (.int (if n2 < n1 then n2 else n1)), .val (.int (if n1 < n2 then n2 else n1)), .val (.long (if c2 < c1 then c2 else c1)), .second, .val (.long (if c1 < c2 then c2 else c1)), .second, .unset, .unset, .unset, .unset]) rfl k_) ?_
  refine own_by (T' := T4) (g' := (mkF m 32 #[.val (.int n1), .val (.long c1), .second, .val (.int n2), .val (.long c2), .second, .val (.int (if n2 < n1 then n2 else n1)), .val (.int (if n1 < n2 then n2 else n1)), .val (.long (if c2 < c1 then c2 else c1)), .second, .val (.long (if c1 < c2 then c2 else c1)), .second, .unset, .unset, .unset, .unset] [(.int (if n2 < n1 then n2 else n1))])) (fun t_ k_ => XS.iload X4.here hx rfl (hb hby at_30) rfl k_) ?_
  refine own_by (T' := T4) (g' := (mkF m 34 #[.val (.int n1), .val (.long c1), .second, .val (.int n2), .val (.long c2), .second, .val (.int (if n2 < n1 then n2 else n1)), .val (.int (if n1 < n2 then n2 else n1)), .val (.long (if c2 < c1 then c2 else c1)), .second, .val (.long (if c1 < c2 then c2 else c1)), .second, .unset, .unset, .unset, .unset] [(.long (if c2 < c1 then c2 else c1)), (.int (if n2 < n1 then n2 else n1))])) (fun t_ k_ => XS.lload X4.here hx rfl (hb hby at_32) rfl k_) ?_
  obtain ⟨_, T5, L5, X5, hQ5, st5⟩ := own_callS X4 hx hZ (y := (⟨"com/example/hermod/hermod/xml/NameRoom", "isTakenBy", "(IJ)Z"⟩ : MethodName)) hown (hw _ (List.mem_of_getElem? (i := 13) rfl)) (hw _ (List.mem_of_getElem? (i := 14) rfl)) (hw _ (List.mem_of_getElem? (i := 15) rfl)) (hw _ (List.mem_of_getElem? (i := 16) rfl)) (by decide) (argsL := [(.int (if n2 < n1 then n2 else n1)), (.long (if c2 < c1 then c2 else c1))]) (rest := []) (own_rm_tk l Z a0 hw [] (if n2 < n1 then n2 else n1) (if c2 < c1 then c2 else c1) (own_tk (if n2 < n1 then n2 else n1) (if c2 < c1 then c2 else c1)) h0 n0 Z0 rfl) e4 (W := 0) (by decide) (by decide) (by decide) (by decide) (g := (mkF m 34 #[.val (.int n1), .val (.long c1), .second, .val (.int n2), .val (.long c2), .second, .val (.int (if n2 < n1 then n2 else n1)), .val (.int (if n1 < n2 then n2 else n1)), .val (.long (if c2 < c1 then c2 else c1)), .second, .val (.long (if c1 < c2 then c2 else c1)), .second, .unset, .unset, .unset, .unset] [(.long (if c2 < c1 then c2 else c1)), (.int (if n2 < n1 then n2 else n1))])) rfl (by rw [hml]; rfl) (lenOf own_pd2 rfl) rfl (by show 2 * 0 + _ ≤ _; exact Nat.le_of_eq rfl) (hb hby at_34)
  obtain ⟨rfl, Nq5, e5⟩ := hQ5
  have N5 := Fr.app N4 Nq5
  refine st5 _ ?_
  show own_Goes p e below _ T5 (mkF m 37 #[.val (.int n1), .val (.long c1), .second, .val (.int n2), .val (.long c2), .second, .val (.int (if n2 < n1 then n2 else n1)), .val (.int (if n1 < n2 then n2 else n1)), .val (.long (if c2 < c1 then c2 else c1)), .second, .val (.long (if c1 < c2 then c2 else c1)), .second, .unset, .unset, .unset, .unset] [(.int (own_tk (if n2 < n1 then n2 else n1) (if c2 < c1 then c2 else c1)))])
  by_cases c37_6 : (own_tk (if n2 < n1 then n2 else n1) (if c2 < c1 then c2 else c1)) = (0 : Int32)
  · skip
    refine own_by (T' := T5) (g' := (mkF m 50 #[.val (.int n1), .val (.long c1), .second, .val (.int n2), .val (.long c2), .second, .val (.int (if n2 < n1 then n2 else n1)), .val (.int (if n1 < n2 then n2 else n1)), .val (.long (if c2 < c1 then c2 else c1)), .second, .val (.long (if c1 < c2 then c2 else c1)), .second, .unset, .unset, .unset, .unset] [])) (fun t_ k_ => XS.ifYes X5.here hx rfl (pc0 := 37) (pc' := 50) rfl (hb hby at_37) rfl ((if0 _ _).trans (teq (c37_6 : (own_tk (if n2 < n1 then n2 else n1) (if c2 < c1 then c2 else c1)) = (0 : Int32))).1) (by decide) (by decide) k_) ?_
    refine own_by (T' := T5) (g' := (mkF m 51 #[.val (.int n1), .val (.long c1), .second, .val (.int n2), .val (.long c2), .second, .val (.int (if n2 < n1 then n2 else n1)), .val (.int (if n1 < n2 then n2 else n1)), .val (.long (if c2 < c1 then c2 else c1)), .second, .val (.long (if c1 < c2 then c2 else c1)), .second, .unset, .unset, .unset, .unset] [(.int (1 : Int32))])) (fun t_ k_ => XS.iconst X5.here hx rfl (hb hby at_50) k_) ?_
    refine own_by (T' := T5) (g' := (mkF m 55 #[.val (.int n1), .val (.long c1), .second, .val (.int n2), .val (.long c2), .second, .val (.int (if n2 < n1 then n2 else n1)), .val (.int (if n1 < n2 then n2 else n1)), .val (.long (if c2 < c1 then c2 else c1)), .second, .val (.long (if c1 < c2 then c2 else c1)), .second, .unset, .unset, .unset, .unset] [(.int (1 : Int32))])) (fun t_ k_ => XS.goto X5.here hx rfl (pc0 := 51) (pc' := 55) rfl (hb hby at_51) (by decide) (by decide) k_) ?_
    refine own_by (T' := T5) (g' := (mkF m 57 #[.val (.int n1), .val (.long c1), .second, .val (.int n2), .val (.long c2), .second, .val (.int (if n2 < n1 then n2 else n1)), .val (.int (if n1 < n2 then n2 else n1)), .val (.long (if c2 < c1 then c2 else c1)), .second, .val (.long (if c1 < c2 then c2 else c1)), .second, .val (.int (1 : Int32)), .unset, .unset, .unset] [])) (fun t_ k_ => XS.istore X5.here hx rfl (hb hby at_55) rfl (l' := #[.val (.int n1), .val (.long c1), .second, .val (.int n2), .val (.long c2), .second, .val (.int (if n2 < n1 then n2 else n1)), .val (.int (if n1 < n2 then n2 else n1)), .val (.long (if c2 < c1 then c2 else c1)), .second, .val (.long (if c1 < c2 then c2 else c1)), .second, .val (.int (1 : Int32)), .unset, .unset, .unset]) rfl k_) ?_
    refine own_by (T' := T5) (g' := (mkF m 60 #[.val (.int n1), .val (.long c1), .second, .val (.int n2), .val (.long c2), .second, .val (.int (if n2 < n1 then n2 else n1)), .val (.int (if n1 < n2 then n2 else n1)), .val (.long (if c2 < c1 then c2 else c1)), .second, .val (.long (if c1 < c2 then c2 else c1)), .second, .val (.int (1 : Int32)), .unset, .unset, .unset] [(.int (256 : Int32))])) (fun t_ k_ => XS.sipush X5.here hx rfl (hb hby at_57) k_) ?_
    refine own_by (T' := T5) (g' := (mkF m 63 #[.val (.int n1), .val (.long c1), .second, .val (.int n2), .val (.long c2), .second, .val (.int (if n2 < n1 then n2 else n1)), .val (.int (if n1 < n2 then n2 else n1)), .val (.long (if c2 < c1 then c2 else c1)), .second, .val (.long (if c1 < c2 then c2 else c1)), .second, .val (.int (1 : Int32)), .unset, .unset, .unset] [(.long (4096 : Int64)), (.int (256 : Int32))])) (fun t_ k_ => X5.ldc2Long hx hown (mvT hZ (hw _ (List.mem_of_getElem? (i := 18) rfl))) (g := (mkF m 60 #[.val (.int n1), .val (.long c1), .second, .val (.int n2), .val (.long c2), .second, .val (.int (if n2 < n1 then n2 else n1)), .val (.int (if n1 < n2 then n2 else n1)), .val (.long (if c2 < c1 then c2 else c1)), .second, .val (.long (if c1 < c2 then c2 else c1)), .second, .val (.int (1 : Int32)), .unset, .unset, .unset] [(.int (256 : Int32))])) rfl (hb hby at_60) _ k_) ?_
    obtain ⟨_, T7, L7, X7, hQ7, st7⟩ := own_callS X5 hx hZ (y := (⟨"com/example/hermod/hermod/xml/NameRoom", "isTakenBy", "(IJ)Z"⟩ : MethodName)) hown (hw _ (List.mem_of_getElem? (i := 13) rfl)) (hw _ (List.mem_of_getElem? (i := 14) rfl)) (hw _ (List.mem_of_getElem? (i := 15) rfl)) (hw _ (List.mem_of_getElem? (i := 16) rfl)) (by decide) (argsL := [(.int (256 : Int32)), (.long (4096 : Int64))]) (rest := []) (own_rm_tk l Z a0 hw [] (256 : Int32) (4096 : Int64) (0 : Int32) h0 n0 Z0 (by decide)) e5 (W := 0) (by decide) (by decide) (by decide) (by decide) (g := (mkF m 63 #[.val (.int n1), .val (.long c1), .second, .val (.int n2), .val (.long c2), .second, .val (.int (if n2 < n1 then n2 else n1)), .val (.int (if n1 < n2 then n2 else n1)), .val (.long (if c2 < c1 then c2 else c1)), .second, .val (.long (if c1 < c2 then c2 else c1)), .second, .val (.int (1 : Int32)), .unset, .unset, .unset] [(.long (4096 : Int64)), (.int (256 : Int32))])) rfl (by rw [hml]; rfl) (lenOf own_pd2 rfl) rfl (by show 2 * 0 + _ ≤ _; exact Nat.le_of_eq rfl) (hb hby at_63)
    obtain ⟨rfl, Nq7, e7⟩ := hQ7
    have N7 := Fr.app N5 Nq7
    refine st7 _ ?_
    show own_Goes p e below _ T7 (mkF m 66 #[.val (.int n1), .val (.long c1), .second, .val (.int n2), .val (.long c2), .second, .val (.int (if n2 < n1 then n2 else n1)), .val (.int (if n1 < n2 then n2 else n1)), .val (.long (if c2 < c1 then c2 else c1)), .second, .val (.long (if c1 < c2 then c2 else c1)), .second, .val (.int (1 : Int32)), .unset, .unset, .unset] [(.int (0 : Int32))])
    refine own_by (T' := T7) (g' := (mkF m 69 #[.val (.int n1), .val (.long c1), .second, .val (.int n2), .val (.long c2), .second, .val (.int (if n2 < n1 then n2 else n1)), .val (.int (if n1 < n2 then n2 else n1)), .val (.long (if c2 < c1 then c2 else c1)), .second, .val (.long (if c1 < c2 then c2 else c1)), .second, .val (.int (1 : Int32)), .unset, .unset, .unset] [])) (fun t_ k_ => XS.ifNo X7.here hx rfl (hb hby at_66) rfl ((if0 _ _).trans (teq ((by decide) : (0 : Int32) = (0 : Int32))).2) k_) ?_
    refine own_by (T' := T7) (g' := (mkF m 70 #[.val (.int n1), .val (.long c1), .second, .val (.int n2), .val (.long c2), .second, .val (.int (if n2 < n1 then n2 else n1)), .val (.int (if n1 < n2 then n2 else n1)), .val (.long (if c2 < c1 then c2 else c1)), .second, .val (.long (if c1 < c2 then c2 else c1)), .second, .val (.int (1 : Int32)), .unset, .unset, .unset] [(.int (1 : Int32))])) (fun t_ k_ => XS.iconst X7.here hx rfl (hb hby at_69) k_) ?_
    refine own_by (T' := T7) (g' := (mkF m 74 #[.val (.int n1), .val (.long c1), .second, .val (.int n2), .val (.long c2), .second, .val (.int (if n2 < n1 then n2 else n1)), .val (.int (if n1 < n2 then n2 else n1)), .val (.long (if c2 < c1 then c2 else c1)), .second, .val (.long (if c1 < c2 then c2 else c1)), .second, .val (.int (1 : Int32)), .unset, .unset, .unset] [(.int (1 : Int32))])) (fun t_ k_ => XS.goto X7.here hx rfl (pc0 := 70) (pc' := 74) rfl (hb hby at_70) (by decide) (by decide) k_) ?_
    refine own_by (T' := T7) (g' := (mkF m 76 #[.val (.int n1), .val (.long c1), .second, .val (.int n2), .val (.long c2), .second, .val (.int (if n2 < n1 then n2 else n1)), .val (.int (if n1 < n2 then n2 else n1)), .val (.long (if c2 < c1 then c2 else c1)), .second, .val (.long (if c1 < c2 then c2 else c1)), .second, .val (.int (1 : Int32)), .val (.int (1 : Int32)), .unset, .unset] [])) (fun t_ k_ => XS.istore X7.here hx rfl (hb hby at_74) rfl (l' := #[.val (.int n1), .val (.long c1), .second, .val (.int n2), .val (.long c2), .second, .val (.int (if n2 < n1 then n2 else n1)), .val (.int (if n1 < n2 then n2 else n1)), .val (.long (if c2 < c1 then c2 else c1)), .second, .val (.long (if c1 < c2 then c2 else c1)), .second, .val (.int (1 : Int32)), .val (.int (1 : Int32)), .unset, .unset]) rfl k_) ?_
    refine own_by (T' := T7) (g' := (mkF m 79 #[.val (.int n1), .val (.long c1), .second, .val (.int n2), .val (.long c2), .second, .val (.int (if n2 < n1 then n2 else n1)), .val (.int (if n1 < n2 then n2 else n1)), .val (.long (if c2 < c1 then c2 else c1)), .second, .val (.long (if c1 < c2 then c2 else c1)), .second, .val (.int (1 : Int32)), .val (.int (1 : Int32)), .unset, .unset] [(.int (257 : Int32))])) (fun t_ k_ => XS.sipush X7.here hx rfl (hb hby at_76) k_) ?_
    refine own_by (T' := T7) (g' := (mkF m 82 #[.val (.int n1), .val (.long c1), .second, .val (.int n2), .val (.long c2), .second, .val (.int (if n2 < n1 then n2 else n1)), .val (.int (if n1 < n2 then n2 else n1)), .val (.long (if c2 < c1 then c2 else c1)), .second, .val (.long (if c1 < c2 then c2 else c1)), .second, .val (.int (1 : Int32)), .val (.int (1 : Int32)), .unset, .unset] [(.long (-9223372036854775808 : Int64)), (.int (257 : Int32))])) (fun t_ k_ => X7.ldc2Long hx hown (mvT hZ (hw _ (List.mem_of_getElem? (i := 19) rfl))) (g := (mkF m 79 #[.val (.int n1), .val (.long c1), .second, .val (.int n2), .val (.long c2), .second, .val (.int (if n2 < n1 then n2 else n1)), .val (.int (if n1 < n2 then n2 else n1)), .val (.long (if c2 < c1 then c2 else c1)), .second, .val (.long (if c1 < c2 then c2 else c1)), .second, .val (.int (1 : Int32)), .val (.int (1 : Int32)), .unset, .unset] [(.int (257 : Int32))])) rfl (hb hby at_79) _ k_) ?_
    obtain ⟨_, T8, L8, X8, hQ8, st8⟩ := own_callS X7 hx hZ (y := (⟨"com/example/hermod/hermod/xml/NameRoom", "isTakenBy", "(IJ)Z"⟩ : MethodName)) hown (hw _ (List.mem_of_getElem? (i := 13) rfl)) (hw _ (List.mem_of_getElem? (i := 14) rfl)) (hw _ (List.mem_of_getElem? (i := 15) rfl)) (hw _ (List.mem_of_getElem? (i := 16) rfl)) (by decide) (argsL := [(.int (257 : Int32)), (.long (-9223372036854775808 : Int64))]) (rest := []) (own_rm_tk l Z a0 hw [] (257 : Int32) (-9223372036854775808 : Int64) (1 : Int32) h0 n0 Z0 (by decide)) e7 (W := 0) (by decide) (by decide) (by decide) (by decide) (g := (mkF m 82 #[.val (.int n1), .val (.long c1), .second, .val (.int n2), .val (.long c2), .second, .val (.int (if n2 < n1 then n2 else n1)), .val (.int (if n1 < n2 then n2 else n1)), .val (.long (if c2 < c1 then c2 else c1)), .second, .val (.long (if c1 < c2 then c2 else c1)), .second, .val (.int (1 : Int32)), .val (.int (1 : Int32)), .unset, .unset] [(.long (-9223372036854775808 : Int64)), (.int (257 : Int32))])) rfl (by rw [hml]; rfl) (lenOf own_pd2 rfl) rfl (by show 2 * 0 + _ ≤ _; exact Nat.le_of_eq rfl) (hb hby at_82)
    obtain ⟨rfl, Nq8, e8⟩ := hQ8
    have N8 := Fr.app N7 Nq8
    refine st8 _ ?_
    show own_Goes p e below _ T8 (mkF m 85 #[.val (.int n1), .val (.long c1), .second, .val (.int n2), .val (.long c2), .second, .val (.int (if n2 < n1 then n2 else n1)), .val (.int (if n1 < n2 then n2 else n1)), .val (.long (if c2 < c1 then c2 else c1)), .second, .val (.long (if c1 < c2 then c2 else c1)), .second, .val (.int (1 : Int32)), .val (.int (1 : Int32)), .unset, .unset] [(.int (1 : Int32))])
    refine own_by (T' := T8) (g' := (mkF m 87 #[.val (.int n1), .val (.long c1), .second, .val (.int n2), .val (.long c2), .second, .val (.int (if n2 < n1 then n2 else n1)), .val (.int (if n1 < n2 then n2 else n1)), .val (.long (if c2 < c1 then c2 else c1)), .second, .val (.long (if c1 < c2 then c2 else c1)), .second, .val (.int (1 : Int32)), .val (.int (1 : Int32)), .val (.int (1 : Int32)), .unset] [])) (fun t_ k_ => XS.istore X8.here hx rfl (hb hby at_85) rfl (l' := #[.val (.int n1), .val (.long c1), .second, .val (.int n2), .val (.long c2), .second, .val (.int (if n2 < n1 then n2 else n1)), .val (.int (if n1 < n2 then n2 else n1)), .val (.long (if c2 < c1 then c2 else c1)), .second, .val (.long (if c1 < c2 then c2 else c1)), .second, .val (.int (1 : Int32)), .val (.int (1 : Int32)), .val (.int (1 : Int32)), .unset]) rfl k_) ?_
    refine own_by (T' := T8) (g' := (mkF m 89 #[.val (.int n1), .val (.long c1), .second, .val (.int n2), .val (.long c2), .second, .val (.int (if n2 < n1 then n2 else n1)), .val (.int (if n1 < n2 then n2 else n1)), .val (.long (if c2 < c1 then c2 else c1)), .second, .val (.long (if c1 < c2 then c2 else c1)), .second, .val (.int (1 : Int32)), .val (.int (1 : Int32)), .val (.int (1 : Int32)), .unset] [(.int (-2147483648 : Int32))])) (fun t_ k_ => X8.ldcInt hx hown (mvT hZ (hw _ (List.mem_of_getElem? (i := 20) rfl))) (g := (mkF m 87 #[.val (.int n1), .val (.long c1), .second, .val (.int n2), .val (.long c2), .second, .val (.int (if n2 < n1 then n2 else n1)), .val (.int (if n1 < n2 then n2 else n1)), .val (.long (if c2 < c1 then c2 else c1)), .second, .val (.long (if c1 < c2 then c2 else c1)), .second, .val (.int (1 : Int32)), .val (.int (1 : Int32)), .val (.int (1 : Int32)), .unset] [])) rfl (hb hby at_87) _ k_) ?_
    refine own_by (T' := T8) (g' := (mkF m 92 #[.val (.int n1), .val (.long c1), .second, .val (.int n2), .val (.long c2), .second, .val (.int (if n2 < n1 then n2 else n1)), .val (.int (if n1 < n2 then n2 else n1)), .val (.long (if c2 < c1 then c2 else c1)), .second, .val (.long (if c1 < c2 then c2 else c1)), .second, .val (.int (1 : Int32)), .val (.int (1 : Int32)), .val (.int (1 : Int32)), .unset] [(.long (4097 : Int64)), (.int (-2147483648 : Int32))])) (fun t_ k_ => X8.ldc2Long hx hown (mvT hZ (hw _ (List.mem_of_getElem? (i := 21) rfl))) (g := (mkF m 89 #[.val (.int n1), .val (.long c1), .second, .val (.int n2), .val (.long c2), .second, .val (.int (if n2 < n1 then n2 else n1)), .val (.int (if n1 < n2 then n2 else n1)), .val (.long (if c2 < c1 then c2 else c1)), .second, .val (.long (if c1 < c2 then c2 else c1)), .second, .val (.int (1 : Int32)), .val (.int (1 : Int32)), .val (.int (1 : Int32)), .unset] [(.int (-2147483648 : Int32))])) rfl (hb hby at_89) _ k_) ?_
    obtain ⟨_, T9, L9, X9, hQ9, st9⟩ := own_callS X8 hx hZ (y := (⟨"com/example/hermod/hermod/xml/NameRoom", "isTakenBy", "(IJ)Z"⟩ : MethodName)) hown (hw _ (List.mem_of_getElem? (i := 13) rfl)) (hw _ (List.mem_of_getElem? (i := 14) rfl)) (hw _ (List.mem_of_getElem? (i := 15) rfl)) (hw _ (List.mem_of_getElem? (i := 16) rfl)) (by decide) (argsL := [(.int (-2147483648 : Int32)), (.long (4097 : Int64))]) (rest := []) (own_rm_tk l Z a0 hw [] (-2147483648 : Int32) (4097 : Int64) (1 : Int32) h0 n0 Z0 (by decide)) e8 (W := 0) (by decide) (by decide) (by decide) (by decide) (g := (mkF m 92 #[.val (.int n1), .val (.long c1), .second, .val (.int n2), .val (.long c2), .second, .val (.int (if n2 < n1 then n2 else n1)), .val (.int (if n1 < n2 then n2 else n1)), .val (.long (if c2 < c1 then c2 else c1)), .second, .val (.long (if c1 < c2 then c2 else c1)), .second, .val (.int (1 : Int32)), .val (.int (1 : Int32)), .val (.int (1 : Int32)), .unset] [(.long (4097 : Int64)), (.int (-2147483648 : Int32))])) rfl (by rw [hml]; rfl) (lenOf own_pd2 rfl) rfl (by show 2 * 0 + _ ≤ _; exact Nat.le_of_eq rfl) (hb hby at_92)
    obtain ⟨rfl, Nq9, e9⟩ := hQ9
    have N9 := Fr.app N8 Nq9
    refine st9 _ ?_
    show own_Goes p e below _ T9 (mkF m 95 #[.val (.int n1), .val (.long c1), .second, .val (.int n2), .val (.long c2), .second, .val (.int (if n2 < n1 then n2 else n1)), .val (.int (if n1 < n2 then n2 else n1)), .val (.long (if c2 < c1 then c2 else c1)), .second, .val (.long (if c1 < c2 then c2 else c1)), .second, .val (.int (1 : Int32)), .val (.int (1 : Int32)), .val (.int (1 : Int32)), .unset] [(.int (1 : Int32))])
    refine own_by (T' := T9) (g' := (mkF m 97 #[.val (.int n1), .val (.long c1), .second, .val (.int n2), .val (.long c2), .second, .val (.int (if n2 < n1 then n2 else n1)), .val (.int (if n1 < n2 then n2 else n1)), .val (.long (if c2 < c1 then c2 else c1)), .second, .val (.long (if c1 < c2 then c2 else c1)), .second, .val (.int (1 : Int32)), .val (.int (1 : Int32)), .val (.int (1 : Int32)), .val (.int (1 : Int32))] [])) (fun t_ k_ => XS.istore X9.here hx rfl (hb hby at_95) rfl (l' := #[.val (.int n1), .val (.long c1), .second, .val (.int n2), .val (.long c2), .second, .val (.int (if n2 < n1 then n2 else n1)), .val (.int (if n1 < n2 then n2 else n1)), .val (.long (if c2 < c1 then c2 else c1)), .second, .val (.long (if c1 < c2 then c2 else c1)), .second, .val (.int (1 : Int32)), .val (.int (1 : Int32)), .val (.int (1 : Int32)), .val (.int (1 : Int32))]) rfl k_) ?_
    refine own_by (T' := T9) (g' := (mkF m 99 #[.val (.int n1), .val (.long c1), .second, .val (.int n2), .val (.long c2), .second, .val (.int (if n2 < n1 then n2 else n1)), .val (.int (if n1 < n2 then n2 else n1)), .val (.long (if c2 < c1 then c2 else c1)), .second, .val (.long (if c1 < c2 then c2 else c1)), .second, .val (.int (1 : Int32)), .val (.int (1 : Int32)), .val (.int (1 : Int32)), .val (.int (1 : Int32))] [(.int (1 : Int32))])) (fun t_ k_ => XS.iload X9.here hx rfl (hb hby at_97) rfl k_) ?_
    refine own_by (T' := T9) (g' := (mkF m 102 #[.val (.int n1), .val (.long c1), .second, .val (.int n2), .val (.long c2), .second, .val (.int (if n2 < n1 then n2 else n1)), .val (.int (if n1 < n2 then n2 else n1)), .val (.long (if c2 < c1 then c2 else c1)), .second, .val (.long (if c1 < c2 then c2 else c1)), .second, .val (.int (1 : Int32)), .val (.int (1 : Int32)), .val (.int (1 : Int32)), .val (.int (1 : Int32))] [])) (fun t_ k_ => XS.ifNo X9.here hx rfl (hb hby at_99) rfl ((if0 _ _).trans (feq ((by decide) : ¬ ((1 : Int32) = (0 : Int32)))).1) k_) ?_
    refine own_by (T' := T9) (g' := (mkF m 104 #[.val (.int n1), .val (.long c1), .second, .val (.int n2), .val (.long c2), .second, .val (.int (if n2 < n1 then n2 else n1)), .val (.int (if n1 < n2 then n2 else n1)), .val (.long (if c2 < c1 then c2 else c1)), .second, .val (.long (if c1 < c2 then c2 else c1)), .second, .val (.int (1 : Int32)), .val (.int (1 : Int32)), .val (.int (1 : Int32)), .val (.int (1 : Int32))] [(.int (1 : Int32))])) (fun t_ k_ => XS.iload X9.here hx rfl (hb hby at_102) rfl k_) ?_
    refine own_by (T' := T9) (g' := (mkF m 107 #[.val (.int n1), .val (.long c1), .second, .val (.int n2), .val (.long c2), .second, .val (.int (if n2 < n1 then n2 else n1)), .val (.int (if n1 < n2 then n2 else n1)), .val (.long (if c2 < c1 then c2 else c1)), .second, .val (.long (if c1 < c2 then c2 else c1)), .second, .val (.int (1 : Int32)), .val (.int (1 : Int32)), .val (.int (1 : Int32)), .val (.int (1 : Int32))] [])) (fun t_ k_ => XS.ifNo X9.here hx rfl (hb hby at_104) rfl ((if0 _ _).trans (feq ((by decide) : ¬ ((1 : Int32) = (0 : Int32)))).1) k_) ?_
    refine own_by (T' := T9) (g' := (mkF m 109 #[.val (.int n1), .val (.long c1), .second, .val (.int n2), .val (.long c2), .second, .val (.int (if n2 < n1 then n2 else n1)), .val (.int (if n1 < n2 then n2 else n1)), .val (.long (if c2 < c1 then c2 else c1)), .second, .val (.long (if c1 < c2 then c2 else c1)), .second, .val (.int (1 : Int32)), .val (.int (1 : Int32)), .val (.int (1 : Int32)), .val (.int (1 : Int32))] [(.int (1 : Int32))])) (fun t_ k_ => XS.iload X9.here hx rfl (hb hby at_107) rfl k_) ?_
    refine own_by (T' := T9) (g' := (mkF m 112 #[.val (.int n1), .val (.long c1), .second, .val (.int n2), .val (.long c2), .second, .val (.int (if n2 < n1 then n2 else n1)), .val (.int (if n1 < n2 then n2 else n1)), .val (.long (if c2 < c1 then c2 else c1)), .second, .val (.long (if c1 < c2 then c2 else c1)), .second, .val (.int (1 : Int32)), .val (.int (1 : Int32)), .val (.int (1 : Int32)), .val (.int (1 : Int32))] [])) (fun t_ k_ => XS.ifNo X9.here hx rfl (hb hby at_109) rfl ((if0 _ _).trans (feq ((by decide) : ¬ ((1 : Int32) = (0 : Int32)))).1) k_) ?_
    refine own_by (T' := T9) (g' := (mkF m 114 #[.val (.int n1), .val (.long c1), .second, .val (.int n2), .val (.long c2), .second, .val (.int (if n2 < n1 then n2 else n1)), .val (.int (if n1 < n2 then n2 else n1)), .val (.long (if c2 < c1 then c2 else c1)), .second, .val (.long (if c1 < c2 then c2 else c1)), .second, .val (.int (1 : Int32)), .val (.int (1 : Int32)), .val (.int (1 : Int32)), .val (.int (1 : Int32))] [(.int (1 : Int32))])) (fun t_ k_ => XS.iload X9.here hx rfl (hb hby at_112) rfl k_) ?_
    refine own_by (T' := T9) (g' := (mkF m 117 #[.val (.int n1), .val (.long c1), .second, .val (.int n2), .val (.long c2), .second, .val (.int (if n2 < n1 then n2 else n1)), .val (.int (if n1 < n2 then n2 else n1)), .val (.long (if c2 < c1 then c2 else c1)), .second, .val (.long (if c1 < c2 then c2 else c1)), .second, .val (.int (1 : Int32)), .val (.int (1 : Int32)), .val (.int (1 : Int32)), .val (.int (1 : Int32))] [])) (fun t_ k_ => XS.ifNo X9.here hx rfl (hb hby at_114) rfl ((if0 _ _).trans (feq ((by decide) : ¬ ((1 : Int32) = (0 : Int32)))).1) k_) ?_
    refine own_by (T' := T9) (g' := (mkF m 118 #[.val (.int n1), .val (.long c1), .second, .val (.int n2), .val (.long c2), .second, .val (.int (if n2 < n1 then n2 else n1)), .val (.int (if n1 < n2 then n2 else n1)), .val (.long (if c2 < c1 then c2 else c1)), .second, .val (.long (if c1 < c2 then c2 else c1)), .second, .val (.int (1 : Int32)), .val (.int (1 : Int32)), .val (.int (1 : Int32)), .val (.int (1 : Int32))] [(.int (1 : Int32))])) (fun t_ k_ => XS.iconst X9.here hx rfl (hb hby at_117) k_) ?_
    refine own_by (T' := T9) (g' := (mkF m 122 #[.val (.int n1), .val (.long c1), .second, .val (.int n2), .val (.long c2), .second, .val (.int (if n2 < n1 then n2 else n1)), .val (.int (if n1 < n2 then n2 else n1)), .val (.long (if c2 < c1 then c2 else c1)), .second, .val (.long (if c1 < c2 then c2 else c1)), .second, .val (.int (1 : Int32)), .val (.int (1 : Int32)), .val (.int (1 : Int32)), .val (.int (1 : Int32))] [(.int (1 : Int32))])) (fun t_ k_ => XS.goto X9.here hx rfl (pc0 := 118) (pc' := 122) rfl (hb hby at_118) (by decide) (by decide) k_) ?_
    refine own_retN X9 hx (t := .boolean) Bd.returns hlk (by simp) (hb hby at_122) (by decide) (by decide) (v := (1 : Int32)) rfl ?_
    rw [e9]
    exact ⟨rfl, N9⟩
  · skip
    refine own_by (T' := T5) (g' := (mkF m 40 #[.val (.int n1), .val (.long c1), .second, .val (.int n2), .val (.long c2), .second, .val (.int (if n2 < n1 then n2 else n1)), .val (.int (if n1 < n2 then n2 else n1)), .val (.long (if c2 < c1 then c2 else c1)), .second, .val (.long (if c1 < c2 then c2 else c1)), .second, .unset, .unset, .unset, .unset] [])) (fun t_ k_ => XS.ifNo X5.here hx rfl (hb hby at_37) rfl ((if0 _ _).trans (feq (c37_6 : ¬ ((own_tk (if n2 < n1 then n2 else n1) (if c2 < c1 then c2 else c1)) = (0 : Int32)))).1) k_) ?_
    refine own_by (T' := T5) (g' := (mkF m 42 #[.val (.int n1), .val (.long c1), .second, .val (.int n2), .val (.long c2), .second, .val (.int (if n2 < n1 then n2 else n1)), .val (.int (if n1 < n2 then n2 else n1)), .val (.long (if c2 < c1 then c2 else c1)), .second, .val (.long (if c1 < c2 then c2 else c1)), .second, .unset, .unset, .unset, .unset] [(.int (if n1 < n2 then n2 else n1))])) (fun t_ k_ => XS.iload X5.here hx rfl (hb hby at_40) rfl k_) ?_
    refine own_by (T' := T5) (g' := (mkF m 44 #[.val (.int n1), .val (.long c1), .second, .val (.int n2), .val (.long c2), .second, .val (.int (if n2 < n1 then n2 else n1)), .val (.int (if n1 < n2 then n2 else n1)), .val (.long (if c2 < c1 then c2 else c1)), .second, .val (.long (if c1 < c2 then c2 else c1)), .second, .unset, .unset, .unset, .unset] [(.long (if c1 < c2 then c2 else c1)), (.int (if n1 < n2 then n2 else n1))])) (fun t_ k_ => XS.lload X5.here hx rfl (hb hby at_42) rfl k_) ?_
    obtain ⟨_, T10, L10, X10, hQ10, st10⟩ := own_callS X5 hx hZ (y := (⟨"com/example/hermod/hermod/xml/NameRoom", "isTakenBy", "(IJ)Z"⟩ : MethodName)) hown (hw _ (List.mem_of_getElem? (i := 13) rfl)) (hw _ (List.mem_of_getElem? (i := 14) rfl)) (hw _ (List.mem_of_getElem? (i := 15) rfl)) (hw _ (List.mem_of_getElem? (i := 16) rfl)) (by decide) (argsL := [(.int (if n1 < n2 then n2 else n1)), (.long (if c1 < c2 then c2 else c1))]) (rest := []) (own_rm_tk l Z a0 hw [] (if n1 < n2 then n2 else n1) (if c1 < c2 then c2 else c1) (own_tk (if n1 < n2 then n2 else n1) (if c1 < c2 then c2 else c1)) h0 n0 Z0 rfl) e5 (W := 0) (by decide) (by decide) (by decide) (by decide) (g := (mkF m 44 #[.val (.int n1), .val (.long c1), .second, .val (.int n2), .val (.long c2), .second, .val (.int (if n2 < n1 then n2 else n1)), .val (.int (if n1 < n2 then n2 else n1)), .val (.long (if c2 < c1 then c2 else c1)), .second, .val (.long (if c1 < c2 then c2 else c1)), .second, .unset, .unset, .unset, .unset] [(.long (if c1 < c2 then c2 else c1)), (.int (if n1 < n2 then n2 else n1))])) rfl (by rw [hml]; rfl) (lenOf own_pd2 rfl) rfl (by show 2 * 0 + _ ≤ _; exact Nat.le_of_eq rfl) (hb hby at_44)
    obtain ⟨rfl, Nq10, e10⟩ := hQ10
    have N10 := Fr.app N5 Nq10
    refine st10 _ ?_
    show own_Goes p e below _ T10 (mkF m 47 #[.val (.int n1), .val (.long c1), .second, .val (.int n2), .val (.long c2), .second, .val (.int (if n2 < n1 then n2 else n1)), .val (.int (if n1 < n2 then n2 else n1)), .val (.long (if c2 < c1 then c2 else c1)), .second, .val (.long (if c1 < c2 then c2 else c1)), .second, .unset, .unset, .unset, .unset] [(.int (own_tk (if n1 < n2 then n2 else n1) (if c1 < c2 then c2 else c1)))])
    refine own_by (T' := T10) (g' := (mkF m 50 #[.val (.int n1), .val (.long c1), .second, .val (.int n2), .val (.long c2), .second, .val (.int (if n2 < n1 then n2 else n1)), .val (.int (if n1 < n2 then n2 else n1)), .val (.long (if c2 < c1 then c2 else c1)), .second, .val (.long (if c1 < c2 then c2 else c1)), .second, .unset, .unset, .unset, .unset] [])) (fun t_ k_ => XS.ifNo X10.here hx rfl (hb hby at_47) rfl ((if0 _ _).trans (feq ((own_mono n1 n2 c1 c2 c37_6) : ¬ ((own_tk (if n1 < n2 then n2 else n1) (if c1 < c2 then c2 else c1)) = (0 : Int32)))).1) k_) ?_
    refine own_by (T' := T10) (g' := (mkF m 51 #[.val (.int n1), .val (.long c1), .second, .val (.int n2), .val (.long c2), .second, .val (.int (if n2 < n1 then n2 else n1)), .val (.int (if n1 < n2 then n2 else n1)), .val (.long (if c2 < c1 then c2 else c1)), .second, .val (.long (if c1 < c2 then c2 else c1)), .second, .unset, .unset, .unset, .unset] [(.int (1 : Int32))])) (fun t_ k_ => XS.iconst X10.here hx rfl (hb hby at_50) k_) ?_
    refine own_by (T' := T10) (g' := (mkF m 55 #[.val (.int n1), .val (.long c1), .second, .val (.int n2), .val (.long c2), .second, .val (.int (if n2 < n1 then n2 else n1)), .val (.int (if n1 < n2 then n2 else n1)), .val (.long (if c2 < c1 then c2 else c1)), .second, .val (.long (if c1 < c2 then c2 else c1)), .second, .unset, .unset, .unset, .unset] [(.int (1 : Int32))])) (fun t_ k_ => XS.goto X10.here hx rfl (pc0 := 51) (pc' := 55) rfl (hb hby at_51) (by decide) (by decide) k_) ?_
    refine own_by (T' := T10) (g' := (mkF m 57 #[.val (.int n1), .val (.long c1), .second, .val (.int n2), .val (.long c2), .second, .val (.int (if n2 < n1 then n2 else n1)), .val (.int (if n1 < n2 then n2 else n1)), .val (.long (if c2 < c1 then c2 else c1)), .second, .val (.long (if c1 < c2 then c2 else c1)), .second, .val (.int (1 : Int32)), .unset, .unset, .unset] [])) (fun t_ k_ => XS.istore X10.here hx rfl (hb hby at_55) rfl (l' := #[.val (.int n1), .val (.long c1), .second, .val (.int n2), .val (.long c2), .second, .val (.int (if n2 < n1 then n2 else n1)), .val (.int (if n1 < n2 then n2 else n1)), .val (.long (if c2 < c1 then c2 else c1)), .second, .val (.long (if c1 < c2 then c2 else c1)), .second, .val (.int (1 : Int32)), .unset, .unset, .unset]) rfl k_) ?_
    refine own_by (T' := T10) (g' := (mkF m 60 #[.val (.int n1), .val (.long c1), .second, .val (.int n2), .val (.long c2), .second, .val (.int (if n2 < n1 then n2 else n1)), .val (.int (if n1 < n2 then n2 else n1)), .val (.long (if c2 < c1 then c2 else c1)), .second, .val (.long (if c1 < c2 then c2 else c1)), .second, .val (.int (1 : Int32)), .unset, .unset, .unset] [(.int (256 : Int32))])) (fun t_ k_ => XS.sipush X10.here hx rfl (hb hby at_57) k_) ?_
    refine own_by (T' := T10) (g' := (mkF m 63 #[.val (.int n1), .val (.long c1), .second, .val (.int n2), .val (.long c2), .second, .val (.int (if n2 < n1 then n2 else n1)), .val (.int (if n1 < n2 then n2 else n1)), .val (.long (if c2 < c1 then c2 else c1)), .second, .val (.long (if c1 < c2 then c2 else c1)), .second, .val (.int (1 : Int32)), .unset, .unset, .unset] [(.long (4096 : Int64)), (.int (256 : Int32))])) (fun t_ k_ => X10.ldc2Long hx hown (mvT hZ (hw _ (List.mem_of_getElem? (i := 18) rfl))) (g := (mkF m 60 #[.val (.int n1), .val (.long c1), .second, .val (.int n2), .val (.long c2), .second, .val (.int (if n2 < n1 then n2 else n1)), .val (.int (if n1 < n2 then n2 else n1)), .val (.long (if c2 < c1 then c2 else c1)), .second, .val (.long (if c1 < c2 then c2 else c1)), .second, .val (.int (1 : Int32)), .unset, .unset, .unset] [(.int (256 : Int32))])) rfl (hb hby at_60) _ k_) ?_
    obtain ⟨_, T11, L11, X11, hQ11, st11⟩ := own_callS X10 hx hZ (y := (⟨"com/example/hermod/hermod/xml/NameRoom", "isTakenBy", "(IJ)Z"⟩ : MethodName)) hown (hw _ (List.mem_of_getElem? (i := 13) rfl)) (hw _ (List.mem_of_getElem? (i := 14) rfl)) (hw _ (List.mem_of_getElem? (i := 15) rfl)) (hw _ (List.mem_of_getElem? (i := 16) rfl)) (by decide) (argsL := [(.int (256 : Int32)), (.long (4096 : Int64))]) (rest := []) (own_rm_tk l Z a0 hw [] (256 : Int32) (4096 : Int64) (0 : Int32) h0 n0 Z0 (by decide)) e10 (W := 0) (by decide) (by decide) (by decide) (by decide) (g := (mkF m 63 #[.val (.int n1), .val (.long c1), .second, .val (.int n2), .val (.long c2), .second, .val (.int (if n2 < n1 then n2 else n1)), .val (.int (if n1 < n2 then n2 else n1)), .val (.long (if c2 < c1 then c2 else c1)), .second, .val (.long (if c1 < c2 then c2 else c1)), .second, .val (.int (1 : Int32)), .unset, .unset, .unset] [(.long (4096 : Int64)), (.int (256 : Int32))])) rfl (by rw [hml]; rfl) (lenOf own_pd2 rfl) rfl (by show 2 * 0 + _ ≤ _; exact Nat.le_of_eq rfl) (hb hby at_63)
    obtain ⟨rfl, Nq11, e11⟩ := hQ11
    have N11 := Fr.app N10 Nq11
    refine st11 _ ?_
    show own_Goes p e below _ T11 (mkF m 66 #[.val (.int n1), .val (.long c1), .second, .val (.int n2), .val (.long c2), .second, .val (.int (if n2 < n1 then n2 else n1)), .val (.int (if n1 < n2 then n2 else n1)), .val (.long (if c2 < c1 then c2 else c1)), .second, .val (.long (if c1 < c2 then c2 else c1)), .second, .val (.int (1 : Int32)), .unset, .unset, .unset] [(.int (0 : Int32))])
    refine own_by (T' := T11) (g' := (mkF m 69 #[.val (.int n1), .val (.long c1), .second, .val (.int n2), .val (.long c2), .second, .val (.int (if n2 < n1 then n2 else n1)), .val (.int (if n1 < n2 then n2 else n1)), .val (.long (if c2 < c1 then c2 else c1)), .second, .val (.long (if c1 < c2 then c2 else c1)), .second, .val (.int (1 : Int32)), .unset, .unset, .unset] [])) (fun t_ k_ => XS.ifNo X11.here hx rfl (hb hby at_66) rfl ((if0 _ _).trans (teq ((by decide) : (0 : Int32) = (0 : Int32))).2) k_) ?_
    refine own_by (T' := T11) (g' := (mkF m 70 #[.val (.int n1), .val (.long c1), .second, .val (.int n2), .val (.long c2), .second, .val (.int (if n2 < n1 then n2 else n1)), .val (.int (if n1 < n2 then n2 else n1)), .val (.long (if c2 < c1 then c2 else c1)), .second, .val (.long (if c1 < c2 then c2 else c1)), .second, .val (.int (1 : Int32)), .unset, .unset, .unset] [(.int (1 : Int32))])) (fun t_ k_ => XS.iconst X11.here hx rfl (hb hby at_69) k_) ?_
    refine own_by (T' := T11) (g' := (mkF m 74 #[.val (.int n1), .val (.long c1), .second, .val (.int n2), .val (.long c2), .second, .val (.int (if n2 < n1 then n2 else n1)), .val (.int (if n1 < n2 then n2 else n1)), .val (.long (if c2 < c1 then c2 else c1)), .second, .val (.long (if c1 < c2 then c2 else c1)), .second, .val (.int (1 : Int32)), .unset, .unset, .unset] [(.int (1 : Int32))])) (fun t_ k_ => XS.goto X11.here hx rfl (pc0 := 70) (pc' := 74) rfl (hb hby at_70) (by decide) (by decide) k_) ?_
    refine own_by (T' := T11) (g' := (mkF m 76 #[.val (.int n1), .val (.long c1), .second, .val (.int n2), .val (.long c2), .second, .val (.int (if n2 < n1 then n2 else n1)), .val (.int (if n1 < n2 then n2 else n1)), .val (.long (if c2 < c1 then c2 else c1)), .second, .val (.long (if c1 < c2 then c2 else c1)), .second, .val (.int (1 : Int32)), .val (.int (1 : Int32)), .unset, .unset] [])) (fun t_ k_ => XS.istore X11.here hx rfl (hb hby at_74) rfl (l' := #[.val (.int n1), .val (.long c1), .second, .val (.int n2), .val (.long c2), .second, .val (.int (if n2 < n1 then n2 else n1)), .val (.int (if n1 < n2 then n2 else n1)), .val (.long (if c2 < c1 then c2 else c1)), .second, .val (.long (if c1 < c2 then c2 else c1)), .second, .val (.int (1 : Int32)), .val (.int (1 : Int32)), .unset, .unset]) rfl k_) ?_
    refine own_by (T' := T11) (g' := (mkF m 79 #[.val (.int n1), .val (.long c1), .second, .val (.int n2), .val (.long c2), .second, .val (.int (if n2 < n1 then n2 else n1)), .val (.int (if n1 < n2 then n2 else n1)), .val (.long (if c2 < c1 then c2 else c1)), .second, .val (.long (if c1 < c2 then c2 else c1)), .second, .val (.int (1 : Int32)), .val (.int (1 : Int32)), .unset, .unset] [(.int (257 : Int32))])) (fun t_ k_ => XS.sipush X11.here hx rfl (hb hby at_76) k_) ?_
    refine own_by (T' := T11) (g' := (mkF m 82 #[.val (.int n1), .val (.long c1), .second, .val (.int n2), .val (.long c2), .second, .val (.int (if n2 < n1 then n2 else n1)), .val (.int (if n1 < n2 then n2 else n1)), .val (.long (if c2 < c1 then c2 else c1)), .second, .val (.long (if c1 < c2 then c2 else c1)), .second, .val (.int (1 : Int32)), .val (.int (1 : Int32)), .unset, .unset] [(.long (-9223372036854775808 : Int64)), (.int (257 : Int32))])) (fun t_ k_ => X11.ldc2Long hx hown (mvT hZ (hw _ (List.mem_of_getElem? (i := 19) rfl))) (g := (mkF m 79 #[.val (.int n1), .val (.long c1), .second, .val (.int n2), .val (.long c2), .second, .val (.int (if n2 < n1 then n2 else n1)), .val (.int (if n1 < n2 then n2 else n1)), .val (.long (if c2 < c1 then c2 else c1)), .second, .val (.long (if c1 < c2 then c2 else c1)), .second, .val (.int (1 : Int32)), .val (.int (1 : Int32)), .unset, .unset] [(.int (257 : Int32))])) rfl (hb hby at_79) _ k_) ?_
    obtain ⟨_, T12, L12, X12, hQ12, st12⟩ := own_callS X11 hx hZ (y := (⟨"com/example/hermod/hermod/xml/NameRoom", "isTakenBy", "(IJ)Z"⟩ : MethodName)) hown (hw _ (List.mem_of_getElem? (i := 13) rfl)) (hw _ (List.mem_of_getElem? (i := 14) rfl)) (hw _ (List.mem_of_getElem? (i := 15) rfl)) (hw _ (List.mem_of_getElem? (i := 16) rfl)) (by decide) (argsL := [(.int (257 : Int32)), (.long (-9223372036854775808 : Int64))]) (rest := []) (own_rm_tk l Z a0 hw [] (257 : Int32) (-9223372036854775808 : Int64) (1 : Int32) h0 n0 Z0 (by decide)) e11 (W := 0) (by decide) (by decide) (by decide) (by decide) (g := (mkF m 82 #[.val (.int n1), .val (.long c1), .second, .val (.int n2), .val (.long c2), .second, .val (.int (if n2 < n1 then n2 else n1)), .val (.int (if n1 < n2 then n2 else n1)), .val (.long (if c2 < c1 then c2 else c1)), .second, .val (.long (if c1 < c2 then c2 else c1)), .second, .val (.int (1 : Int32)), .val (.int (1 : Int32)), .unset, .unset] [(.long (-9223372036854775808 : Int64)), (.int (257 : Int32))])) rfl (by rw [hml]; rfl) (lenOf own_pd2 rfl) rfl (by show 2 * 0 + _ ≤ _; exact Nat.le_of_eq rfl) (hb hby at_82)
    obtain ⟨rfl, Nq12, e12⟩ := hQ12
    have N12 := Fr.app N11 Nq12
    refine st12 _ ?_
    show own_Goes p e below _ T12 (mkF m 85 #[.val (.int n1), .val (.long c1), .second, .val (.int n2), .val (.long c2), .second, .val (.int (if n2 < n1 then n2 else n1)), .val (.int (if n1 < n2 then n2 else n1)), .val (.long (if c2 < c1 then c2 else c1)), .second, .val (.long (if c1 < c2 then c2 else c1)), .second, .val (.int (1 : Int32)), .val (.int (1 : Int32)), .unset, .unset] [(.int (1 : Int32))])
    refine own_by (T' := T12) (g' := (mkF m 87 #[.val (.int n1), .val (.long c1), .second, .val (.int n2), .val (.long c2), .second, .val (.int (if n2 < n1 then n2 else n1)), .val (.int (if n1 < n2 then n2 else n1)), .val (.long (if c2 < c1 then c2 else c1)), .second, .val (.long (if c1 < c2 then c2 else c1)), .second, .val (.int (1 : Int32)), .val (.int (1 : Int32)), .val (.int (1 : Int32)), .unset] [])) (fun t_ k_ => XS.istore X12.here hx rfl (hb hby at_85) rfl (l' := #[.val (.int n1), .val (.long c1), .second, .val (.int n2), .val (.long c2), .second, .val (.int (if n2 < n1 then n2 else n1)), .val (.int (if n1 < n2 then n2 else n1)), .val (.long (if c2 < c1 then c2 else c1)), .second, .val (.long (if c1 < c2 then c2 else c1)), .second, .val (.int (1 : Int32)), .val (.int (1 : Int32)), .val (.int (1 : Int32)), .unset]) rfl k_) ?_
    refine own_by (T' := T12) (g' := (mkF m 89 #[.val (.int n1), .val (.long c1), .second, .val (.int n2), .val (.long c2), .second, .val (.int (if n2 < n1 then n2 else n1)), .val (.int (if n1 < n2 then n2 else n1)), .val (.long (if c2 < c1 then c2 else c1)), .second, .val (.long (if c1 < c2 then c2 else c1)), .second, .val (.int (1 : Int32)), .val (.int (1 : Int32)), .val (.int (1 : Int32)), .unset] [(.int (-2147483648 : Int32))])) (fun t_ k_ => X12.ldcInt hx hown (mvT hZ (hw _ (List.mem_of_getElem? (i := 20) rfl))) (g := (mkF m 87 #[.val (.int n1), .val (.long c1), .second, .val (.int n2), .val (.long c2), .second, .val (.int (if n2 < n1 then n2 else n1)), .val (.int (if n1 < n2 then n2 else n1)), .val (.long (if c2 < c1 then c2 else c1)), .second, .val (.long (if c1 < c2 then c2 else c1)), .second, .val (.int (1 : Int32)), .val (.int (1 : Int32)), .val (.int (1 : Int32)), .unset] [])) rfl (hb hby at_87) _ k_) ?_
    refine own_by (T' := T12) (g' := (mkF m 92 #[.val (.int n1), .val (.long c1), .second, .val (.int n2), .val (.long c2), .second, .val (.int (if n2 < n1 then n2 else n1)), .val (.int (if n1 < n2 then n2 else n1)), .val (.long (if c2 < c1 then c2 else c1)), .second, .val (.long (if c1 < c2 then c2 else c1)), .second, .val (.int (1 : Int32)), .val (.int (1 : Int32)), .val (.int (1 : Int32)), .unset] [(.long (4097 : Int64)), (.int (-2147483648 : Int32))])) (fun t_ k_ => X12.ldc2Long hx hown (mvT hZ (hw _ (List.mem_of_getElem? (i := 21) rfl))) (g := (mkF m 89 #[.val (.int n1), .val (.long c1), .second, .val (.int n2), .val (.long c2), .second, .val (.int (if n2 < n1 then n2 else n1)), .val (.int (if n1 < n2 then n2 else n1)), .val (.long (if c2 < c1 then c2 else c1)), .second, .val (.long (if c1 < c2 then c2 else c1)), .second, .val (.int (1 : Int32)), .val (.int (1 : Int32)), .val (.int (1 : Int32)), .unset] [(.int (-2147483648 : Int32))])) rfl (hb hby at_89) _ k_) ?_
    obtain ⟨_, T13, L13, X13, hQ13, st13⟩ := own_callS X12 hx hZ (y := (⟨"com/example/hermod/hermod/xml/NameRoom", "isTakenBy", "(IJ)Z"⟩ : MethodName)) hown (hw _ (List.mem_of_getElem? (i := 13) rfl)) (hw _ (List.mem_of_getElem? (i := 14) rfl)) (hw _ (List.mem_of_getElem? (i := 15) rfl)) (hw _ (List.mem_of_getElem? (i := 16) rfl)) (by decide) (argsL := [(.int (-2147483648 : Int32)), (.long (4097 : Int64))]) (rest := []) (own_rm_tk l Z a0 hw [] (-2147483648 : Int32) (4097 : Int64) (1 : Int32) h0 n0 Z0 (by decide)) e12 (W := 0) (by decide) (by decide) (by decide) (by decide) (g := (mkF m 92 #[.val (.int n1), .val (.long c1), .second, .val (.int n2), .val (.long c2), .second, .val (.int (if n2 < n1 then n2 else n1)), .val (.int (if n1 < n2 then n2 else n1)), .val (.long (if c2 < c1 then c2 else c1)), .second, .val (.long (if c1 < c2 then c2 else c1)), .second, .val (.int (1 : Int32)), .val (.int (1 : Int32)), .val (.int (1 : Int32)), .unset] [(.long (4097 : Int64)), (.int (-2147483648 : Int32))])) rfl (by rw [hml]; rfl) (lenOf own_pd2 rfl) rfl (by show 2 * 0 + _ ≤ _; exact Nat.le_of_eq rfl) (hb hby at_92)
    obtain ⟨rfl, Nq13, e13⟩ := hQ13
    have N13 := Fr.app N12 Nq13
    refine st13 _ ?_
    show own_Goes p e below _ T13 (mkF m 95 #[.val (.int n1), .val (.long c1), .second, .val (.int n2), .val (.long c2), .second, .val (.int (if n2 < n1 then n2 else n1)), .val (.int (if n1 < n2 then n2 else n1)), .val (.long (if c2 < c1 then c2 else c1)), .second, .val (.long (if c1 < c2 then c2 else c1)), .second, .val (.int (1 : Int32)), .val (.int (1 : Int32)), .val (.int (1 : Int32)), .unset] [(.int (1 : Int32))])
    refine own_by (T' := T13) (g' := (mkF m 97 #[.val (.int n1), .val (.long c1), .second, .val (.int n2), .val (.long c2), .second, .val (.int (if n2 < n1 then n2 else n1)), .val (.int (if n1 < n2 then n2 else n1)), .val (.long (if c2 < c1 then c2 else c1)), .second, .val (.long (if c1 < c2 then c2 else c1)), .second, .val (.int (1 : Int32)), .val (.int (1 : Int32)), .val (.int (1 : Int32)), .val (.int (1 : Int32))] [])) (fun t_ k_ => XS.istore X13.here hx rfl (hb hby at_95) rfl (l' := #[.val (.int n1), .val (.long c1), .second, .val (.int n2), .val (.long c2), .second, .val (.int (if n2 < n1 then n2 else n1)), .val (.int (if n1 < n2 then n2 else n1)), .val (.long (if c2 < c1 then c2 else c1)), .second, .val (.long (if c1 < c2 then c2 else c1)), .second, .val (.int (1 : Int32)), .val (.int (1 : Int32)), .val (.int (1 : Int32)), .val (.int (1 : Int32))]) rfl k_) ?_
    refine own_by (T' := T13) (g' := (mkF m 99 #[.val (.int n1), .val (.long c1), .second, .val (.int n2), .val (.long c2), .second, .val (.int (if n2 < n1 then n2 else n1)), .val (.int (if n1 < n2 then n2 else n1)), .val (.long (if c2 < c1 then c2 else c1)), .second, .val (.long (if c1 < c2 then c2 else c1)), .second, .val (.int (1 : Int32)), .val (.int (1 : Int32)), .val (.int (1 : Int32)), .val (.int (1 : Int32))] [(.int (1 : Int32))])) (fun t_ k_ => XS.iload X13.here hx rfl (hb hby at_97) rfl k_) ?_
    refine own_by (T' := T13) (g' := (mkF m 102 #[.val (.int n1), .val (.long c1), .second, .val (.int n2), .val (.long c2), .second, .val (.int (if n2 < n1 then n2 else n1)), .val (.int (if n1 < n2 then n2 else n1)), .val (.long (if c2 < c1 then c2 else c1)), .second, .val (.long (if c1 < c2 then c2 else c1)), .second, .val (.int (1 : Int32)), .val (.int (1 : Int32)), .val (.int (1 : Int32)), .val (.int (1 : Int32))] [])) (fun t_ k_ => XS.ifNo X13.here hx rfl (hb hby at_99) rfl ((if0 _ _).trans (feq ((by decide) : ¬ ((1 : Int32) = (0 : Int32)))).1) k_) ?_
    refine own_by (T' := T13) (g' := (mkF m 104 #[.val (.int n1), .val (.long c1), .second, .val (.int n2), .val (.long c2), .second, .val (.int (if n2 < n1 then n2 else n1)), .val (.int (if n1 < n2 then n2 else n1)), .val (.long (if c2 < c1 then c2 else c1)), .second, .val (.long (if c1 < c2 then c2 else c1)), .second, .val (.int (1 : Int32)), .val (.int (1 : Int32)), .val (.int (1 : Int32)), .val (.int (1 : Int32))] [(.int (1 : Int32))])) (fun t_ k_ => XS.iload X13.here hx rfl (hb hby at_102) rfl k_) ?_
    refine own_by (T' := T13) (g' := (mkF m 107 #[.val (.int n1), .val (.long c1), .second, .val (.int n2), .val (.long c2), .second, .val (.int (if n2 < n1 then n2 else n1)), .val (.int (if n1 < n2 then n2 else n1)), .val (.long (if c2 < c1 then c2 else c1)), .second, .val (.long (if c1 < c2 then c2 else c1)), .second, .val (.int (1 : Int32)), .val (.int (1 : Int32)), .val (.int (1 : Int32)), .val (.int (1 : Int32))] [])) (fun t_ k_ => XS.ifNo X13.here hx rfl (hb hby at_104) rfl ((if0 _ _).trans (feq ((by decide) : ¬ ((1 : Int32) = (0 : Int32)))).1) k_) ?_
    refine own_by (T' := T13) (g' := (mkF m 109 #[.val (.int n1), .val (.long c1), .second, .val (.int n2), .val (.long c2), .second, .val (.int (if n2 < n1 then n2 else n1)), .val (.int (if n1 < n2 then n2 else n1)), .val (.long (if c2 < c1 then c2 else c1)), .second, .val (.long (if c1 < c2 then c2 else c1)), .second, .val (.int (1 : Int32)), .val (.int (1 : Int32)), .val (.int (1 : Int32)), .val (.int (1 : Int32))] [(.int (1 : Int32))])) (fun t_ k_ => XS.iload X13.here hx rfl (hb hby at_107) rfl k_) ?_
    refine own_by (T' := T13) (g' := (mkF m 112 #[.val (.int n1), .val (.long c1), .second, .val (.int n2), .val (.long c2), .second, .val (.int (if n2 < n1 then n2 else n1)), .val (.int (if n1 < n2 then n2 else n1)), .val (.long (if c2 < c1 then c2 else c1)), .second, .val (.long (if c1 < c2 then c2 else c1)), .second, .val (.int (1 : Int32)), .val (.int (1 : Int32)), .val (.int (1 : Int32)), .val (.int (1 : Int32))] [])) (fun t_ k_ => XS.ifNo X13.here hx rfl (hb hby at_109) rfl ((if0 _ _).trans (feq ((by decide) : ¬ ((1 : Int32) = (0 : Int32)))).1) k_) ?_
    refine own_by (T' := T13) (g' := (mkF m 114 #[.val (.int n1), .val (.long c1), .second, .val (.int n2), .val (.long c2), .second, .val (.int (if n2 < n1 then n2 else n1)), .val (.int (if n1 < n2 then n2 else n1)), .val (.long (if c2 < c1 then c2 else c1)), .second, .val (.long (if c1 < c2 then c2 else c1)), .second, .val (.int (1 : Int32)), .val (.int (1 : Int32)), .val (.int (1 : Int32)), .val (.int (1 : Int32))] [(.int (1 : Int32))])) (fun t_ k_ => XS.iload X13.here hx rfl (hb hby at_112) rfl k_) ?_
    refine own_by (T' := T13) (g' := (mkF m 117 #[.val (.int n1), .val (.long c1), .second, .val (.int n2), .val (.long c2), .second, .val (.int (if n2 < n1 then n2 else n1)), .val (.int (if n1 < n2 then n2 else n1)), .val (.long (if c2 < c1 then c2 else c1)), .second, .val (.long (if c1 < c2 then c2 else c1)), .second, .val (.int (1 : Int32)), .val (.int (1 : Int32)), .val (.int (1 : Int32)), .val (.int (1 : Int32))] [])) (fun t_ k_ => XS.ifNo X13.here hx rfl (hb hby at_114) rfl ((if0 _ _).trans (feq ((by decide) : ¬ ((1 : Int32) = (0 : Int32)))).1) k_) ?_
    refine own_by (T' := T13) (g' := (mkF m 118 #[.val (.int n1), .val (.long c1), .second, .val (.int n2), .val (.long c2), .second, .val (.int (if n2 < n1 then n2 else n1)), .val (.int (if n1 < n2 then n2 else n1)), .val (.long (if c2 < c1 then c2 else c1)), .second, .val (.long (if c1 < c2 then c2 else c1)), .second, .val (.int (1 : Int32)), .val (.int (1 : Int32)), .val (.int (1 : Int32)), .val (.int (1 : Int32))] [(.int (1 : Int32))])) (fun t_ k_ => XS.iconst X13.here hx rfl (hb hby at_117) k_) ?_
    refine own_by (T' := T13) (g' := (mkF m 122 #[.val (.int n1), .val (.long c1), .second, .val (.int n2), .val (.long c2), .second, .val (.int (if n2 < n1 then n2 else n1)), .val (.int (if n1 < n2 then n2 else n1)), .val (.long (if c2 < c1 then c2 else c1)), .second, .val (.long (if c1 < c2 then c2 else c1)), .second, .val (.int (1 : Int32)), .val (.int (1 : Int32)), .val (.int (1 : Int32)), .val (.int (1 : Int32))] [(.int (1 : Int32))])) (fun t_ k_ => XS.goto X13.here hx rfl (pc0 := 118) (pc' := 122) rfl (hb hby at_118) (by decide) (by decide) k_) ?_
    refine own_retN X13 hx (t := .boolean) Bd.returns hlk (by simp) (hb hby at_122) (by decide) (by decide) (v := (1 : Int32)) rfl ?_
    rw [e13]
    exact ⟨rfl, N13⟩
set_option maxRecDepth 65536 in
set_option maxHeartbeats 40000000 in
theorem own_comes {Post : Tables → Env → Array Value → State → Outcome → State → Prop} (hpost : ∀ tb e args s v u, (limb_1_1.after args s (.returned v) u = true ∧ limb_1_2.after args s (.returned v) u = true ∧ True) → FrameEnd s (.returned v) u (Jvm.fieldLocs frame_1_writes args s ++ Jvm.arrayLocs frame_1_arrays args s ++ Jvm.staticLocs frame_1_statics s) 0 0 → Post tb e args s (.returned v) u) :
    ArmFor flags0 classFile x code maxLocals ret World_1 tables_1 room_1 Calls_1 rest_1 Pre_1 Post := by
  intro l hfl _ _ p e ha hc hk s m args below hf hA hF happ hP
  obtain ⟨hcalls, hrest, hpre⟩ := hP
  obtain ⟨-, -, -, hnamed, -, -, -, hat⟩ := (Spec.applies_iff hf).mp happ
  obtain ⟨hg, hn⟩ := and_e (Cond.before_iff.mp (show (Jvm.Cond.and given_1 narrow_1).before args s = true from hpre))
  obtain ⟨g0, gr0⟩ := and_e hg
  obtain ⟨w0, w1, w2, w3, rfl⟩ : ∃ w0 w1 w2 w3 : Value, args = #[w0, w1, w2, w3] := by
    have hs : args.size = 4 := by simpa [Cond.value, given_1] using g0
    obtain ⟨L⟩ := args
    match L, hs with
    | [w0, w1, w2, w3], _ => exact ⟨w0, w1, w2, w3, rfl⟩
  have hw := fun d (hd : d ∈ tables_1) => atoms_spec (ws := Jvm.Cond.code x code maxLocals ret :: tables_1) hat d (List.mem_cons_of_mem _ hd)
  have hfit : Fit s := fun {y c} hc i hi => by
    obtain ⟨ha, rfl⟩ := Array.getElem?_eq_some_iff.mp hc
    have q := List.all_eq_true.mp ((Array.all_eq_true_iff_forall_mem.mp hF) _ (Array.getElem_mem ha)) i (List.mem_range.mpr hi)
    simpa [Array.getElem?_eq_getElem hi] using q
  obtain ⟨q0, gr1⟩ := and_e gr0
  obtain ⟨q1, gr2⟩ := and_e gr1
  obtain ⟨q2, gr3⟩ := and_e gr2
  obtain ⟨i0, ei0⟩ := is_v q0
  obtain rfl : w0 = (.int i0) := Option.some.inj ei0
  obtain ⟨i1, ei1⟩ := isL_v q1
  obtain rfl : w1 = (.long i1) := Option.some.inj ei1
  obtain ⟨i2, ei2⟩ := is_v q2
  obtain rfl : w2 = (.int i2) := Option.some.inj ei2
  obtain ⟨i3, ei3⟩ := isL_v gr3
  obtain rfl : w3 = (.long i3) := Option.some.inj ei3
  obtain ⟨n, o, h1, h2, h3, _, L, rfl, ⟨rfl, N⟩, hq⟩ := own_rm_law l s _ hw tables_1 i0 i1 i2 i3  s.heap s.heap.size (Nat.le_refl _)  p e ha hc hk s m _ below hf ((Spec.applies_iff_loose hf).mp happ).1 ⟨rfl, State.Warmed39.refl s, rfl⟩ trivial
  refine ⟨n, _, h1, h2, h3, hpost _ _ _ _ _ _ ⟨Cond.after_iff.mpr rfl, Cond.after_iff.mpr (eq_i res_at (Term.int_eval (1)) rfl), trivial⟩ ⟨hq.1, hq.2.1, (hq.2.2.sift fun y hy => Or.inr (N y hy)).mono (by decide) (by decide)⟩⟩
theorem main_1_1 : Claimed_1_1 := own_comes fun _ _ _ _ _ _ h hF => ⟨h.1, hF⟩
theorem main_1_2 : Claimed_1_2 := own_comes fun _ _ _ _ _ _ h hF => ⟨h.2.1, hF⟩
end Jvm.Pilot.@@N@@
namespace Jvm.Pilot.@@N@@
open Jvm Jvm.ClassFile Sem Op Lib Jvm.Free Jvm.Stand Jvm.Pilot.@@N@@.Jvm.D
/-! MADE BY PROGRAM (witnessworld.py) out of the Statement's table words and the real class files: 10 classes; the members and pool entries that the words name. The judged class is class 1, her method 1. -/
namespace start1
open Jvm.ClassFile
def u (s : String) : CpInfo := .utf8 (stringToUtf16 s)
/-- a pool by its gaps: so many unusable entries, then the entry; so many at the end -/
def gap : Nat → List CpInfo → List CpInfo
  | 0, r => r
  | n + 1, r => .unusable :: gap n r
def poolList (es : List (Nat × CpInfo)) (last : Nat) : List CpInfo := es.foldr (fun e r => gap e.1 (e.2 :: r)) (gap last [])
def pool (es : List (Nat × CpInfo)) (last : Nat) : Array CpInfo := ⟨poolList es last⟩
def fileOf (pool : Array CpInfo) (this : Nat) (attrs : Array Attribute := #[]) (ms : Array MethodInfo := #[]) (fl : Nat := 33) (sup : Nat := 0) (ifs : Array Nat := #[]) (fds : Array FieldInfo := #[]) : ClassFile where
  minorVersion := 0
  majorVersion := 65
  constantPool := pool
  accessFlags := fl
  thisClass := this
  superClass := sup
  interfaces := ifs
  fields := fds
  methods := ms
  attributes := attrs
def plain (name : String) (sup : Option ClassId) : Class where
  name := name
  kind := .ordinary
  loader := none
  accessFlags := 33
  super := sup
  interfaces := #[]
  cf := none
  fields := #[]
  methods := #[]
  instanceTypes := #[]
  staticTypes := #[]
  resolved := #[]
  callSites := []
  init := .initialized
  statics := none
  mirror := none

def pool0 : Array CpInfo := pool [(5, u "<init>"), (0, u "()V"), (1, .class_ 10), (1, u "java/lang/Object")] 113

def k0m0 : Method := { name := "<init>", desc := "()V", sig := { parameters := [], returnType := none }, accessFlags := 1, code := none }
/-- java/lang/Object -/
def k0 : Class := { plain "java/lang/Object" none with
  accessFlags := 33
  interfaces := #[]
  cf := some (fileOf pool0 8 #[] #[{ accessFlags := 1, nameIndex := 5, descriptorIndex := 6, attributes := #[] }] 33 0 #[] #[])
  fields := #[]
  methods := #[k0m0]
  instanceTypes := #[]
  staticTypes := #[]
  resolved := Array.replicate 124 none
  statics := none }

def pool1 : Array CpInfo := pool [(2, .class_ 4), (1, u "java/lang/Object"), (0, u "<init>"), (0, u "()V"), (0, .methodref 8 9), (0, .class_ 10), (0, .nameAndType 11 12), (0, u "java/lang/Math"), (0, u "min"), (0, u "(II)I"), (0, .methodref 8 14), (0, .nameAndType 15 12), (0, u "max"), (0, .methodref 8 17), (0, .nameAndType 11 18), (0, u "(JJ)J"), (0, .methodref 8 20), (0, .nameAndType 15 18), (0, .methodref 22 23), (0, .class_ 24), (0, .nameAndType 25 26), (0, u "com/example/hermod/hermod/xml/NameRoom"), (0, u "isTakenBy"), (0, u "(IJ)Z"), (0, .long 4096), (3, .long 9223372036854775808), (3, .integer 2147483648), (0, .long 4097), (1, .class_ 39), (0, u "com/example/hermod/hermod/xml/NameRoomIsTakenByPinLaw"), (2, u "law"), (0, u "(IJIJ)Z")] 3

def k1m0 : Method := { name := "<init>", desc := "()V", sig := { parameters := [], returnType := none }, accessFlags := 1, code := none }
def k1c1 : Code := { maxStack := 4, maxLocals := 16, code := code, exceptionTable := #[], attributes := #[] }
def k1m1 : Method := { name := "law", desc := "(IJIJ)Z", sig := { parameters := [.int, .long, .int, .long], returnType := some .boolean }, accessFlags := 9, code := some k1c1 }
/-- com/example/hermod/hermod/xml/NameRoomIsTakenByPinLaw -/
def k1 : Class := { plain "com/example/hermod/hermod/xml/NameRoomIsTakenByPinLaw" (some 0) with
  accessFlags := 49
  interfaces := #[]
  cf := some (fileOf pool1 38 #[] #[{ accessFlags := 1, nameIndex := 5, descriptorIndex := 6, attributes := #[] }, { accessFlags := 9, nameIndex := 42, descriptorIndex := 43, attributes := #[] }] 49 2 #[] #[])
  fields := #[]
  methods := #[k1m0, k1m1]
  instanceTypes := #[]
  staticTypes := #[]
  resolved := Array.replicate 47 none
  statics := none }

def pool2 : Array CpInfo := pool [(1, .class_ 2), (0, u "java/lang/Math"), (1, .class_ 6), (1, u "java/lang/Object"), (0, u "<init>"), (0, u "()V"), (89, .class_ 100), (1, u "java/lang/Math$RandomNumberGeneratorHolder"), (20, u "(JJ)J"), (50, u "negativeZeroFloatBits"), (0, u "J"), (2, u "negativeZeroDoubleBits"), (21, u "max"), (2, u "min"), (43, u "$assertionsDisabled"), (0, u "Z"), (88, u "(II)I"), (2, u "twoToTheDoubleScaleDown"), (0, u "D"), (4, u "twoToTheDoubleScaleUp"), (9, u "E"), (3, u "PI"), (2, u "TAU"), (2, u "DEGREES_TO_RADIANS"), (0, u "RADIANS_TO_DEGREES")] 94

def k2m0 : Method := { name := "<init>", desc := "()V", sig := { parameters := [], returnType := none }, accessFlags := 2, code := none }
def k2c1 : Code := { maxStack := 2, maxLocals := 2, code := jdk_29_method_65_code, exceptionTable := #[], attributes := #[] }
def k2m1 : Method := { name := "max", desc := "(II)I", sig := { parameters := [.int, .int], returnType := some .int }, accessFlags := 9, code := some k2c1 }
def k2c2 : Code := { maxStack := 4, maxLocals := 4, code := jdk_29_method_66_code, exceptionTable := #[], attributes := #[] }
def k2m2 : Method := { name := "max", desc := "(JJ)J", sig := { parameters := [.long, .long], returnType := some .long }, accessFlags := 9, code := some k2c2 }
def k2c3 : Code := { maxStack := 2, maxLocals := 2, code := jdk_29_method_69_code, exceptionTable := #[], attributes := #[] }
def k2m3 : Method := { name := "min", desc := "(II)I", sig := { parameters := [.int, .int], returnType := some .int }, accessFlags := 9, code := some k2c3 }
def k2c4 : Code := { maxStack := 4, maxLocals := 4, code := jdk_29_method_70_code, exceptionTable := #[], attributes := #[] }
def k2m4 : Method := { name := "min", desc := "(JJ)J", sig := { parameters := [.long, .long], returnType := some .long }, accessFlags := 9, code := some k2c4 }
/-- java/lang/Math -/
def k2 : Class := { plain "java/lang/Math" (some 0) with
  accessFlags := 49
  interfaces := #[]
  cf := some (fileOf pool2 1 #[.nestMembers #[98]] #[{ accessFlags := 2, nameIndex := 7, descriptorIndex := 8, attributes := #[] }, { accessFlags := 9, nameIndex := 198, descriptorIndex := 335, attributes := #[] }, { accessFlags := 9, nameIndex := 198, descriptorIndex := 121, attributes := #[] }, { accessFlags := 9, nameIndex := 201, descriptorIndex := 335, attributes := #[] }, { accessFlags := 9, nameIndex := 201, descriptorIndex := 121, attributes := #[] }] 49 4 #[] #[{ accessFlags := 25, nameIndex := 354, descriptorIndex := 339, attributes := #[] }, { accessFlags := 25, nameIndex := 358, descriptorIndex := 339, attributes := #[] }, { accessFlags := 25, nameIndex := 361, descriptorIndex := 339, attributes := #[] }, { accessFlags := 26, nameIndex := 364, descriptorIndex := 339, attributes := #[] }, { accessFlags := 26, nameIndex := 365, descriptorIndex := 339, attributes := #[] }, { accessFlags := 26, nameIndex := 172, descriptorIndex := 173, attributes := #[] }, { accessFlags := 26, nameIndex := 176, descriptorIndex := 173, attributes := #[] }, { accessFlags := 8, nameIndex := 344, descriptorIndex := 339, attributes := #[] }, { accessFlags := 8, nameIndex := 338, descriptorIndex := 339, attributes := #[] }, { accessFlags := 4120, nameIndex := 245, descriptorIndex := 246, attributes := #[] }])
  fields := #[{ name := "E", type := .double, accessFlags := 25, slot := 0, constantValue := 0 }, { name := "PI", type := .double, accessFlags := 25, slot := 1, constantValue := 0 }, { name := "TAU", type := .double, accessFlags := 25, slot := 2, constantValue := 0 }, { name := "DEGREES_TO_RADIANS", type := .double, accessFlags := 26, slot := 3, constantValue := 0 }, { name := "RADIANS_TO_DEGREES", type := .double, accessFlags := 26, slot := 4, constantValue := 0 }, { name := "negativeZeroFloatBits", type := .long, accessFlags := 26, slot := 5, constantValue := 0 }, { name := "negativeZeroDoubleBits", type := .long, accessFlags := 26, slot := 6, constantValue := 0 }, { name := "twoToTheDoubleScaleUp", type := .double, accessFlags := 8, slot := 7, constantValue := 0 }, { name := "twoToTheDoubleScaleDown", type := .double, accessFlags := 8, slot := 8, constantValue := 0 }, { name := "$assertionsDisabled", type := .boolean, accessFlags := 4120, slot := 9, constantValue := 0 }]
  methods := #[k2m0, k2m1, k2m2, k2m3, k2m4]
  instanceTypes := #[]
  staticTypes := #[.double, .double, .double, .double, .double, .long, .long, .double, .double, .boolean]
  resolved := Array.replicate 460 none
  statics := none }

def pool3 : Array CpInfo := pool [(2, .class_ 4), (1, u "java/lang/Object"), (3, .class_ 10), (1, u "com/example/hermod/hermod/xml/NameRoom"), (0, u "documents"), (0, u "I"), (7, u "free"), (0, u "Ljava/util/concurrent/Semaphore;"), (20, .long 4096), (1, .class_ 45), (0, u "com/example/hermod/hermod/xml/NameRoom$Place"), (3, u "FREE_NAMES"), (2, u "FREE_CHARACTERS"), (0, u "J"), (0, u "DOCUMENT_BYTES"), (0, u "HEAP_SHARE"), (6, u "isTakenBy"), (0, u "(IJ)Z"), (6, .class_ 71), (0, u "com/example/hermod/hermod/xml/NameRoom$WhenFull")] 3

def k3c0 : Code := { maxStack := 4, maxLocals := 3, code := prog_36_method_4_code, exceptionTable := #[], attributes := #[] }
def k3m0 : Method := { name := "isTakenBy", desc := "(IJ)Z", sig := { parameters := [.int, .long], returnType := some .boolean }, accessFlags := 8, code := some k3c0 }
/-- com/example/hermod/hermod/xml/NameRoom -/
def k3 : Class := { plain "com/example/hermod/hermod/xml/NameRoom" (some 0) with
  accessFlags := 48
  interfaces := #[]
  cf := some (fileOf pool3 8 #[.nestMembers #[44, 70]] #[{ accessFlags := 8, nameIndex := 62, descriptorIndex := 63, attributes := #[] }] 48 2 #[] #[{ accessFlags := 24, nameIndex := 49, descriptorIndex := 12, attributes := #[] }, { accessFlags := 24, nameIndex := 52, descriptorIndex := 53, attributes := #[] }, { accessFlags := 24, nameIndex := 54, descriptorIndex := 53, attributes := #[] }, { accessFlags := 24, nameIndex := 55, descriptorIndex := 12, attributes := #[] }, { accessFlags := 18, nameIndex := 11, descriptorIndex := 12, attributes := #[] }, { accessFlags := 18, nameIndex := 20, descriptorIndex := 21, attributes := #[] }])
  fields := #[{ name := "FREE_NAMES", type := .int, accessFlags := 24, slot := 0, constantValue := 0 }, { name := "FREE_CHARACTERS", type := .long, accessFlags := 24, slot := 1, constantValue := 0 }, { name := "DOCUMENT_BYTES", type := .long, accessFlags := 24, slot := 2, constantValue := 0 }, { name := "HEAP_SHARE", type := .int, accessFlags := 24, slot := 3, constantValue := 0 }, { name := "documents", type := .int, accessFlags := 18, slot := 0, constantValue := 0 }, { name := "free", type := (.object "java/util/concurrent/Semaphore"), accessFlags := 18, slot := 1, constantValue := 0 }]
  methods := #[k3m0]
  instanceTypes := #[.int, (.object "java/util/concurrent/Semaphore")]
  staticTypes := #[.int, .long, .long, .int]
  resolved := Array.replicate 75 none
  statics := none }

def pool4 : Array CpInfo := pool [(1, u "java/lang/Cloneable"), (0, .class_ 1), (0, u "java/lang/Object"), (0, .class_ 3)] 3

/-- java/lang/Cloneable -/
def k4 : Class := { plain "java/lang/Cloneable" (some 0) with
  accessFlags := 1537
  interfaces := #[]
  cf := some (fileOf pool4 2 #[] #[] 1537 4 #[] #[])
  fields := #[]
  methods := #[]
  instanceTypes := #[]
  staticTypes := #[]
  resolved := Array.replicate 8 none
  statics := none }

def pool5 : Array CpInfo := pool [(1, u "java/io/Serializable"), (0, .class_ 1), (0, u "java/lang/Object"), (0, .class_ 3)] 3

/-- java/io/Serializable -/
def k5 : Class := { plain "java/io/Serializable" (some 0) with
  accessFlags := 1537
  interfaces := #[]
  cf := some (fileOf pool5 2 #[] #[] 1537 4 #[] #[])
  fields := #[]
  methods := #[]
  instanceTypes := #[]
  staticTypes := #[]
  resolved := Array.replicate 8 none
  statics := none }

/-- the primitive byte -/
def k6 : Class := { plain "byte" none with kind := .primitive 'B', accessFlags := 0x411 }
/-- [B -/
def k7 : Class := { plain "[B" (some 0) with kind := .array 6 .byte, interfaces := #[4, 5], accessFlags := 1041 }

/-- the primitive int -/
def k8 : Class := { plain "int" none with kind := .primitive 'I', accessFlags := 0x411 }
/-- [I -/
def k9 : Class := { plain "[I" (some 0) with kind := .array 8 .int, interfaces := #[4, 5], accessFlags := 1041 }

def heap : Heap := #[]
def classes : Array Class := #[k0, k1, k2, k3, k4, k5, k6, k7, k8, k9]
def interned : List (Array UInt16 × Addr) := []
def slotsUsed : Nat := 0
def theMethod : MethodId := ⟨1, 1⟩
def args0 : Array Value := #[.int 5, .long 5, .int 7, .long 9]
def aboutOver (below : List Frame) : State where
  vm := { classes := classes, interned := interned.toArray }
  heap := heap
  slotsUsed := slotsUsed
  threads := #[{ frames := .invoking theMethod args0 :: below }]
def below0 : List Frame := [.native { method := ⟨0, 0⟩, args := #[] }]
def about1 : State := aboutOver below0
def p0 : Program := .bare "" "" ""
def e0 : Env := launch0.env 0 0 0
theorem w_frames : about1.frames = Frame.invoking theMethod args0 :: below0 := rfl
set_option maxRecDepth 65536 in
theorem w_args : argsFit about1.vm theMethod args0 = true := by decide +kernel
set_option maxRecDepth 65536 in
theorem w_heap : heapFits about1 = true := by decide +kernel
set_option maxRecDepth 65536 in
theorem w_runnable : about1.curStatus? = some .runnable := by decide +kernel
set_option maxRecDepth 65536 in
theorem w_alone : about1.alone = true := by decide +kernel
set_option maxRecDepth 65536 in
theorem w_named : about1.methodNamed? x = some theMethod := by decide +kernel
set_option maxRecDepth 65536 in
theorem w_hears : about1.hears theMethod below0 = true := by decide +kernel
set_option maxRecDepth 65536 in
theorem w_ripe : about1.ripe theMethod args0 below0 = true := by decide +kernel
theorem w_running : about1.status = .running := rfl
set_option maxRecDepth 65536 in
theorem w_room : about1.hasRoom e0.platform room_1 = true :=
  launch0.hasRoom_least _ room_1 (by decide +kernel) (by decide +kernel) (by decide +kernel) (by decide +kernel) (by decide +kernel) (by decide +kernel)
theorem allAtoms_all (ts : List Jvm.Cond) (a : Array Jvm.Value) (st : Jvm.State) : (allAtoms ts).before a st = ts.all (fun c => c.before a st) := by
  induction ts with
  | nil => rfl
  | cons c t ih =>
    show (Jvm.Cond.and c (allAtoms t)).before a st = _
    rw [Jvm.Cond.before_and, ih, List.all_cons]
def words1 : List Jvm.Cond := Jvm.Cond.code x code maxLocals ret :: tables_1
/-- a 'code' word, met by the world's own term for the bytes: nothing is compared byte by byte -/
theorem code_word {y : MethodName} {bytes : ByteArray} {mx : Nat} {rt : Option FieldType} {a : Array Value} {s : State} {m : MethodId} {meth : Method} {c : Code} (h1 : s.methodNamed? y = some m) (h2 : s.vm.method? m = some meth) (h3 : meth.code = some c) (h4 : c.code = bytes)
    (h5 : (c.maxLocals == mx && c.exceptionTable.isEmpty && decide (c.maxStack ≤ mostOperands) && decide (meth.sig.returnType = rt) && !meth.locks && decide (parseMethodDescriptor y.desc = some meth.sig)) = true) : (Jvm.Cond.code y bytes mx rt).before a s = true := by
  simp only [Bool.and_eq_true, beq_iff_eq, Bool.not_eq_true', decide_eq_true_eq] at h5
  obtain ⟨⟨⟨⟨⟨g1, g2⟩, g3⟩, g4⟩, g5⟩, g6⟩ := h5
  simp [Cond.before, Cond.holds, Cond.value, h1, h2, h3, h4, g1, g2, g3, g4, g5, g6]
def isCode : Jvm.Cond → Bool
  | .code _ _ _ _ => true
  | _ => false
theorem all_split {L : List Jvm.Cond} {P : Jvm.Cond → Bool} (h1 : L.all (fun c => isCode c || P c) = true) (h2 : ∀ c ∈ L.filter isCode, P c = true) : L.all P = true := by
  refine List.all_eq_true.mpr fun c hc => ?_
  have h := List.all_eq_true.mp h1 c hc
  rcases Bool.eq_false_or_eq_true (isCode c) with hi | hi
  · exact h2 c (List.mem_filter.mpr ⟨hc, hi⟩)
  · simpa [hi] using h
set_option maxRecDepth 65536 in
theorem w_c0 : (Jvm.Cond.code x code maxLocals ret).before args0 about1 = true := code_word (m := ⟨1, 1⟩) (meth := k1m1) (c := k1c1) (by decide +kernel) rfl rfl rfl (by decide +kernel)
set_option maxRecDepth 65536 in
theorem w_c1 : (Jvm.Cond.code ({ cls := "java/lang/Math", name := "min", desc := "(II)I" } : Jvm.MethodName) jdk_29_method_69_code (2 : Nat) (Option.some Jvm.ClassFile.FieldType.int)).before args0 about1 = true := code_word (m := ⟨2, 3⟩) (meth := k2m3) (c := k2c3) (by decide +kernel) rfl rfl rfl (by decide +kernel)
set_option maxRecDepth 65536 in
theorem w_c2 : (Jvm.Cond.code ({ cls := "java/lang/Math", name := "max", desc := "(II)I" } : Jvm.MethodName) jdk_29_method_65_code (2 : Nat) (Option.some Jvm.ClassFile.FieldType.int)).before args0 about1 = true := code_word (m := ⟨2, 1⟩) (meth := k2m1) (c := k2c1) (by decide +kernel) rfl rfl rfl (by decide +kernel)
set_option maxRecDepth 65536 in
theorem w_c3 : (Jvm.Cond.code ({ cls := "java/lang/Math", name := "min", desc := "(JJ)J" } : Jvm.MethodName) jdk_29_method_70_code (4 : Nat) (Option.some Jvm.ClassFile.FieldType.long)).before args0 about1 = true := code_word (m := ⟨2, 4⟩) (meth := k2m4) (c := k2c4) (by decide +kernel) rfl rfl rfl (by decide +kernel)
set_option maxRecDepth 65536 in
theorem w_c4 : (Jvm.Cond.code ({ cls := "java/lang/Math", name := "max", desc := "(JJ)J" } : Jvm.MethodName) jdk_29_method_66_code (4 : Nat) (Option.some Jvm.ClassFile.FieldType.long)).before args0 about1 = true := code_word (m := ⟨2, 2⟩) (meth := k2m2) (c := k2c2) (by decide +kernel) rfl rfl rfl (by decide +kernel)
set_option maxRecDepth 65536 in
theorem w_c5 : (Jvm.Cond.code ({ cls := "com/example/hermod/hermod/xml/NameRoom", name := "isTakenBy", desc := "(IJ)Z" } : Jvm.MethodName) prog_36_method_4_code (3 : Nat) (Option.some Jvm.ClassFile.FieldType.boolean)).before args0 about1 = true := code_word (m := ⟨3, 0⟩) (meth := k3m0) (c := k3c0) (by decide +kernel) rfl rfl rfl (by decide +kernel)
def codes1 : List Jvm.Cond := [Jvm.Cond.code x code maxLocals ret, Jvm.Cond.code ({ cls := "java/lang/Math", name := "min", desc := "(II)I" } : Jvm.MethodName) jdk_29_method_69_code (2 : Nat) (Option.some Jvm.ClassFile.FieldType.int), Jvm.Cond.code ({ cls := "java/lang/Math", name := "max", desc := "(II)I" } : Jvm.MethodName) jdk_29_method_65_code (2 : Nat) (Option.some Jvm.ClassFile.FieldType.int), Jvm.Cond.code ({ cls := "java/lang/Math", name := "min", desc := "(JJ)J" } : Jvm.MethodName) jdk_29_method_70_code (4 : Nat) (Option.some Jvm.ClassFile.FieldType.long), Jvm.Cond.code ({ cls := "java/lang/Math", name := "max", desc := "(JJ)J" } : Jvm.MethodName) jdk_29_method_66_code (4 : Nat) (Option.some Jvm.ClassFile.FieldType.long), Jvm.Cond.code ({ cls := "com/example/hermod/hermod/xml/NameRoom", name := "isTakenBy", desc := "(IJ)Z" } : Jvm.MethodName) prog_36_method_4_code (3 : Nat) (Option.some Jvm.ClassFile.FieldType.boolean)]
set_option maxRecDepth 65536 in
theorem codes_eq : words1.filter isCode = codes1 := rfl
theorem w_codes : ∀ c ∈ words1.filter isCode, c.before args0 about1 = true := by
  rw [codes_eq]
  intro c hc
  simp only [codes1, List.mem_cons, List.not_mem_nil, or_false] at hc
  rcases hc with rfl | rfl | rfl | rfl | rfl | rfl
  · exact w_c0
  · exact w_c1
  · exact w_c2
  · exact w_c3
  · exact w_c4
  · exact w_c5
set_option maxRecDepth 65536 in
theorem w_t1 : words1.all (fun c => isCode c || c.before args0 about1) = true := by decide +kernel
theorem w_tables : (allAtoms (Jvm.Cond.code x code maxLocals ret :: tables_1)).before args0 about1 = true := by
  rw [allAtoms_all]
  show words1.all (fun c => c.before args0 about1) = true
  refine all_split ?_ w_codes
  rw [w_t1]
set_option maxRecDepth 65536 in
theorem w_case : (Jvm.Cond.and given_1 narrow_1).before args0 about1 = true := by decide +kernel
theorem w_applies : (headSpec (Jvm.Cond.code x code maxLocals ret :: tables_1) room_1).applies x e0.platform about1 = true :=
  (Spec.applies_iff w_frames).mpr ⟨w_running, w_runnable, w_alone, w_named, w_hears, w_ripe, w_room, w_tables⟩
theorem atStart : AtStart classFile x code maxLocals ret World_1 tables_1 room_1 Calls_1 rest_1 Pre_1 launch0 p0 e0 about1 theMethod args0 below0 :=
  ⟨lists_1, trivial, launch0.admits_env _ _ _, launch0.least_env, fairChoices_fair.cas, fairChoices_fair.clock, w_frames, w_args, w_heap, w_applies, trivial, trivial, w_case⟩
end start1
theorem witness_1 : WitnessClaimed_1 := ⟨start1.p0, start1.e0, start1.about1, start1.theMethod, start1.args0, start1.below0, start1.atStart⟩
end Jvm.Pilot.@@N@@
