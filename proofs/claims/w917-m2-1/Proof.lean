import JvmDerived
import JvmDerived.Pilot.@@N@@Statement
import JvmDerived.Pilot.@@N@@Code
set_option linter.unusedVariables false
set_option linter.unusedSimpArgs false
@@BLOCK:NumsL.lean.txt@@
namespace Jvm.Pilot.@@N@@
open Jvm Jvm.ClassFile Sem Op Lib Jvm.Free Jvm.Stand Jvm.LawKit Jvm.RoadKit Bundle Jvm.Pilot.@@N@@.Jvm.D
section OwnKit
variable {p : Program} {l : Launch} {e : Env} {R : Room} {s : State} {m : MethodId} {args : Array Value} {below : List Frame} {meth : Method} {c : Code} {T T' : State} {locs : List Loc} {cells slots : Nat} {Z : State} {a0 : Array Value} {h h' : Heap} {g g' : JFrame} {K : Outcome → State → Prop} {a b : Addr}
/-- from the frame g over T the run comes home with K -/
def Goes (p : Program) (e : Env) (below : List Frame) (K : Outcome → State → Prop) (T : State) (g : JFrame) : Prop :=
  ∃ s₂ o, Steps p.tables e below (T.setTop g) s₂ ∧ s₂.status = .running ∧ Ended s₂ below o ∧ K o s₂
theorem Goes.of (f : ∀ t, Steps p.tables e below (T'.setTop g') t → Steps p.tables e below (T.setTop g) t) (h : Goes p e below K T' g') : Goes p e below K T g := by
  obtain ⟨s₂, o, h1, h2⟩ := h; exact ⟨s₂, o, f _ h1, h2⟩
theorem Goes.tr (f : Steps p.tables e below (T.setTop g) (T'.setTop g')) (h : Goes p e below K T' g') : Goes p e below K T g := by
  obtain ⟨s₂, o, h1, h2⟩ := h; exact ⟨s₂, o, f.trans h1, h2⟩
theorem Goes.cast (q : g = g') (h : Goes p e below K T g') : Goes p e below K T g := q ▸ h
def OwnK (s : State) (Q : Option Value → Heap → List Loc → Prop) (C S : Nat) : Outcome → State → Prop := fun o U' => ∃ v L, o = .returned v ∧ Q v U'.heap L ∧ FrameEnd s o U' L C S
section Ret
variable {Q : Option Value → Heap → List Loc → Prop} {C S pc : Nat} {Ls : Array Slot} {rest : List Value}
theorem Goes.retInt (X : Stand p l e R s m args below meth c T locs cells slots) (hx : p.tables.exec = Jvm.exec) (hlk : meth.locks = false) {z : Int32} (hret : meth.sig.returnType = some .int) (hd : decode c.code pc = .ok (.ireturn, 1)) (hQ : Q (some (.int z)) T.heap locs) (hc : cells ≤ C) (hs : slots ≤ S) :
    Goes p e below (OwnK s Q C S) T (mkF m pc Ls (.int z :: rest)) := by
  obtain ⟨fs, hr, hrun, hended, hW, hsame⟩ := X.leave (v := some (.int z)) (fun h => by rw [hret] at h; cases h) hlk
  exact ⟨_, _, retOut X hx hret rfl (Or.inl ⟨rfl, Or.inl rfl, z, rfl⟩) hd hr, hrun, hended, _, _, rfl, hQ, ⟨_, rfl⟩, hW, hsame.mono hc hs⟩
theorem Goes.retNar (X : Stand p l e R s m args below meth c T locs cells slots) (hx : p.tables.exec = Jvm.exec) (hlk : meth.locks = false) {t : FieldType} {z : Int32} (ht : t = .boolean ∨ t = .byte ∨ t = .char ∨ t = .short) (hret : meth.sig.returnType = some t) (hd : decode c.code pc = .ok (.ireturn, 1)) (hQ : Q (some (.int (nar t z))) T.heap locs) (hc : cells ≤ C) (hs : slots ≤ S) :
    Goes p e below (OwnK s Q C S) T (mkF m pc Ls (.int z :: rest)) := by
  obtain ⟨fs, hr, hrun, hended, hW, hsame⟩ := X.leave (v := some (.int (nar t z))) (fun h => by rw [hret] at h; cases h) hlk
  exact ⟨_, _, retN X hx hret ht hd hr, hrun, hended, _, _, rfl, hQ, ⟨_, rfl⟩, hW, hsame.mono hc hs⟩
theorem Goes.retLong (X : Stand p l e R s m args below meth c T locs cells slots) (hx : p.tables.exec = Jvm.exec) (hlk : meth.locks = false) {z : Int64} (hret : meth.sig.returnType = some .long) (hd : decode c.code pc = .ok (.lreturn, 1)) (hQ : Q (some (.long z)) T.heap locs) (hc : cells ≤ C) (hs : slots ≤ S) :
    Goes p e below (OwnK s Q C S) T (mkF m pc Ls (.long z :: rest)) := by
  obtain ⟨fs, hr, hrun, hended, hW, hsame⟩ := X.leave (v := some (.long z)) (fun h => by rw [hret] at h; cases h) hlk
  exact ⟨_, _, retOut X hx hret rfl (Or.inr (Or.inl ⟨rfl, rfl, z, rfl⟩)) hd hr, hrun, hended, _, _, rfl, hQ, ⟨_, rfl⟩, hW, hsame.mono hc hs⟩
theorem Goes.retRef (X : Stand p l e R s m args below meth c T locs cells slots) (hx : p.tables.exec = Jvm.exec) (hlk : meth.locks = false) {t : FieldType} {w : Value} (hw : w.isRef = true) (ht : t.isReference = true) (hret : meth.sig.returnType = some t) (hd : decode c.code pc = .ok (.areturn, 1)) (hQ : Q (some w) T.heap locs) (hc : cells ≤ C) (hs : slots ≤ S) :
    Goes p e below (OwnK s Q C S) T (mkF m pc Ls (w :: rest)) := by
  obtain ⟨fs, hr, hrun, hended, hW, hsame⟩ := X.leave (v := some w) (fun h => by rw [hret] at h; cases h) hlk
  have hn : narrow t w = w := by cases t <;> first | (cases ht; done) | (cases w <;> first | (cases hw; done) | rfl)
  exact ⟨_, _, retOut X hx hret hn (Or.inr (Or.inr (Or.inr (Or.inr ⟨rfl, ht, hw⟩)))) hd hr, hrun, hended, _, _, rfl, hQ, ⟨_, rfl⟩, hW, hsame.mono hc hs⟩
theorem Goes.retVoid (X : Stand p l e R s m args below meth c T locs cells slots) (hx : p.tables.exec = Jvm.exec) (hlk : meth.locks = false) (hret : meth.sig.returnType = none) (hd : decode c.code pc = .ok (.return_, 1)) (hQ : Q none T.heap locs) (hc : cells ≤ C) (hs : slots ≤ S) :
    Goes p e below (OwnK s Q C S) T (mkF m pc Ls []) := by
  obtain ⟨fs, hr, hrun, hended, hW, hsame⟩ := X.leave (v := none) (fun _ => rfl) hlk
  exact ⟨_, _, X.returnOut hx hret hd hr, hrun, hended, _, _, rfl, hQ, ⟨_, rfl⟩, hW, hsame.mono hc hs⟩
end Ret
/-- an array of ints, chars, bytes (not of booleans): all of its elements -/
def AI (Z : State) (h : Heap) (a : Addr) (ty : FieldType) (xs : List Int32) : Prop := ∃ cl : Cell, Arr Z h a cl ty ∧ cl.slots.toList = xs.map Value.int ∧ xs.length < 2 ^ 31 ∧ ∀ x ∈ xs, fits ty (.int x) = true
section Arrs
variable {ty : FieldType} {xs : List Int32} {sl : Nat} {v : Value} {ws : List Addr} {j x : Int32} {i : Nat} {rest : List Value}
theorem AI.lt (F : AI Z h a ty xs) : a < h.size := by obtain ⟨cl, A, -⟩ := F; exact A.lt
theorem AI.ext (F : AI Z h a ty xs) (E : Ext h h') : AI Z h' a ty xs := by obtain ⟨cl, A, r⟩ := F; exact ⟨cl, A.ext E, r⟩
theorem AI.other (F : AI Z h b ty xs) (W : Wr h h' a sl v) (q : b ≠ a) : AI Z h' b ty xs := by obtain ⟨cl, A, r⟩ := F; exact ⟨cl, A.other W q, r⟩
theorem AI.keep (F : AI Z h a ty xs) (K : Keep h h' ws) (q : a ∉ ws) : AI Z h' a ty xs := by obtain ⟨cl, A, r⟩ := F; exact ⟨cl, ⟨K.2.1 a cl A.1 q, A.2⟩, r⟩
theorem own_idx {cl : Cell} (hsz : cl.slots.toList = xs.map Value.int) (hj : j.toInt = (i : Int)) (hi : i < xs.length) : ¬ (j < 0 ∨ cl.slots.size ≤ j.toNatClampNeg) ∧ j.toNatClampNeg = i := by
  have hl : cl.slots.size = xs.length := by rw [← Array.length_toList, hsz, List.length_map]
  have hn : j.toNatClampNeg = i := by simp only [Int32.toNatClampNeg, hj]; rfl
  refine ⟨?_, hn⟩
  rw [hn, hl, Int32.lt_iff_toInt_lt, hj]
  have e0 : (0 : Int32).toInt = 0 := rfl
  omega
theorem own_at {cl : Cell} (hsz : cl.slots.toList = xs.map Value.int) (hi : xs[i]? = some x) : cl.slots[i]? = some (.int x) := by
  rw [← Array.getElem?_toList, hsz, List.getElem?_map, hi]; rfl
theorem AI.iaload (X : Stand p l e R s m args below meth c T locs cells slots) (hx : p.tables.exec = Jvm.exec) (hZ : Z.Warmed39 s.vm) (eT : T.heap = h) (A : AI Z h a .int xs) (hj : j.toInt = (i : Int)) (hi : xs[i]? = some x) (hg : g.method = m) (hs : g.stack = .int j :: .ref a :: rest) (hd : decode c.code g.pc = .ok (.iaload, 1)) :
    ∀ t, Steps p.tables e below (T.setTop { g with pc := g.pc + 1, stack := .int x :: rest }) t → Steps p.tables e below (T.setTop g) t := by
  obtain ⟨cl, A1, h1, h2, h3⟩ := A
  obtain ⟨q1, q2⟩ := own_idx h1 hj (List.getElem?_eq_some_iff.mp hi).1
  exact X.iaload hx (by rw [eT]; exact A1.1) (State.isArrayOf_alike hZ.alike A1.2.1) A1.2.2 q1 (by rw [q2]; exact own_at h1 hi) hg hs hd
theorem AI.caload (X : Stand p l e R s m args below meth c T locs cells slots) (hx : p.tables.exec = Jvm.exec) (hZ : Z.Warmed39 s.vm) (eT : T.heap = h) (A : AI Z h a .char xs) (hj : j.toInt = (i : Int)) (hi : xs[i]? = some x) (hg : g.method = m) (hs : g.stack = .int j :: .ref a :: rest) (hd : decode c.code g.pc = .ok (.caload, 1)) :
    ∀ t, Steps p.tables e below (T.setTop { g with pc := g.pc + 1, stack := .int x :: rest }) t → Steps p.tables e below (T.setTop g) t := by
  obtain ⟨cl, A1, h1, h2, h3⟩ := A
  obtain ⟨q1, q2⟩ := own_idx h1 hj (List.getElem?_eq_some_iff.mp hi).1
  exact X.caload hx (by rw [eT]; exact A1.1) (State.isArrayOf_alike hZ.alike A1.2.1) A1.2.2 q1 (by rw [q2]; exact own_at h1 hi) hg hs hd
theorem AI.baload (X : Stand p l e R s m args below meth c T locs cells slots) (hx : p.tables.exec = Jvm.exec) (hZ : Z.Warmed39 s.vm) (eT : T.heap = h) (A : AI Z h a .byte xs) (hj : j.toInt = (i : Int)) (hi : xs[i]? = some x) (hg : g.method = m) (hs : g.stack = .int j :: .ref a :: rest) (hd : decode c.code g.pc = .ok (.baload, 1)) :
    ∀ t, Steps p.tables e below (T.setTop { g with pc := g.pc + 1, stack := .int x :: rest }) t → Steps p.tables e below (T.setTop g) t := by
  obtain ⟨cl, A1, h1, h2, h3⟩ := A
  obtain ⟨q1, q2⟩ := own_idx h1 hj (List.getElem?_eq_some_iff.mp hi).1
  exact X.baloadBytes hx (by rw [eT]; exact A1.1) (State.isArrayOf_alike hZ.alike A1.2.1) A1.2.2 q1 (by rw [q2]; exact own_at h1 hi) hg hs hd
theorem AI.arraylength (X : Stand p l e R s m args below meth c T locs cells slots) (hx : p.tables.exec = Jvm.exec) (hZ : Z.Warmed39 s.vm) (eT : T.heap = h) (A : AI Z h a ty xs) (hj : j.toInt = (xs.length : Int)) (hg : g.method = m) (hs : g.stack = .ref a :: rest) (hd : decode c.code g.pc = .ok (.arraylength, 1)) :
    ∀ t, Steps p.tables e below (T.setTop { g with pc := g.pc + 1, stack := .int j :: rest }) t → Steps p.tables e below (T.setTop g) t := by
  obtain ⟨cl, A1, h1, h2, h3⟩ := A
  intro t k
  have hl : cl.slots.size = xs.length := by rw [← Array.length_toList, h1, List.length_map]
  have ej : cl.slots.size.toInt32 = j := by
    rw [hl]
    apply Int32.toInt_inj.mp
    rw [hj]; exact len_toInt h2
  refine X.arraylength hx (by rw [eT]; exact A1.1) (State.isArrayOf_alike hZ.alike A1.2.1) hg hs hd t ?_
  rw [ej]; exact k
theorem own_set {cl : Cell} (A : Arr Z h a cl ty) (h1 : cl.slots.toList = xs.map Value.int) (h2 : xs.length < 2 ^ 31) (h3 : ∀ x ∈ xs, fits ty (.int x) = true) (hf : fits ty (.int x) = true) (W : Wr h h' a i (.int x)) : AI Z h' a ty (xs.set i x) :=
  ⟨_, A.same W, by simp [Cell.setSlot, h1, List.map_set], by rw [List.length_set]; exact h2, fun y hy => by
    rcases List.mem_or_eq_of_mem_set hy with q | q
    · exact h3 y q
    · rw [q]; exact hf⟩
theorem AI.iastore (X : Stand p l e R s m args below meth c T locs cells slots) (hx : p.tables.exec = Jvm.exec) (hZ : Z.Warmed39 s.vm) (eT : T.heap = h) (A : AI Z h a .int xs) (hj : j.toInt = (i : Int)) (hi : i < xs.length) (hg : g.method = m) (hs : g.stack = .int x :: .int j :: .ref a :: rest) (hd : decode c.code g.pc = .ok (.iastore, 1)) :
    ∃ T' h', Stand p l e R s m args below meth c T' (locs ++ [⟨a, i⟩]) cells slots ∧ T'.heap = h' ∧ Wr h h' a i (.int x) ∧ AI Z h' a .int (xs.set i x) ∧ ∀ target, Steps p.tables e below (T'.setTop { g with pc := g.pc + 1, stack := rest }) target → Steps p.tables e below (T.setTop g) target := by
  obtain ⟨cl, A1, h1, h2, h3⟩ := A
  obtain ⟨q1, q2⟩ := own_idx h1 hj hi
  obtain ⟨T', h', X', e', W', st⟩ := stI X hx hZ eT A1 q1 hg hs hd
  rw [q2] at X' W'
  exact ⟨T', h', X', e', W', own_set A1 h1 h2 h3 rfl W', st⟩
theorem AI.castore (X : Stand p l e R s m args below meth c T locs cells slots) (hx : p.tables.exec = Jvm.exec) (hZ : Z.Warmed39 s.vm) (eT : T.heap = h) (A : AI Z h a .char xs) (hj : j.toInt = (i : Int)) (hi : i < xs.length) (hg : g.method = m) (hs : g.stack = .int x :: .int j :: .ref a :: rest) (hd : decode c.code g.pc = .ok (.castore, 1)) :
    ∃ T' h', Stand p l e R s m args below meth c T' (locs ++ [⟨a, i⟩]) cells slots ∧ T'.heap = h' ∧ Wr h h' a i (.int (nar .char x)) ∧ AI Z h' a .char (xs.set i (nar .char x)) ∧ ∀ target, Steps p.tables e below (T'.setTop { g with pc := g.pc + 1, stack := rest }) target → Steps p.tables e below (T.setTop g) target := by
  obtain ⟨cl, A1, h1, h2, h3⟩ := A
  obtain ⟨q1, q2⟩ := own_idx h1 hj hi
  obtain ⟨T', h', X', e', W', st⟩ := stC X hx hZ eT A1 q1 hg hs hd
  rw [q2] at X' W'
  exact ⟨T', h', X', e', W', own_set A1 h1 h2 h3 (fits_nar_char _) W', st⟩
theorem AI.bastore (X : Stand p l e R s m args below meth c T locs cells slots) (hx : p.tables.exec = Jvm.exec) (hZ : Z.Warmed39 s.vm) (eT : T.heap = h) (A : AI Z h a .byte xs) (hj : j.toInt = (i : Int)) (hi : i < xs.length) (hg : g.method = m) (hs : g.stack = .int x :: .int j :: .ref a :: rest) (hd : decode c.code g.pc = .ok (.bastore, 1)) :
    ∃ T' h', Stand p l e R s m args below meth c T' (locs ++ [⟨a, i⟩]) cells slots ∧ T'.heap = h' ∧ Wr h h' a i (.int (nar .byte x)) ∧ AI Z h' a .byte (xs.set i (nar .byte x)) ∧ ∀ target, Steps p.tables e below (T'.setTop { g with pc := g.pc + 1, stack := rest }) target → Steps p.tables e below (T.setTop g) target := by
  obtain ⟨cl, A1, h1, h2, h3⟩ := A
  obtain ⟨q1, q2⟩ := own_idx h1 hj hi
  obtain ⟨T', h', X', e', W', st⟩ := stB X hx hZ eT A1 q1 hg hs hd
  rw [q2] at X' W'
  exact ⟨T', h', X', e', W', own_set A1 h1 h2 h3 (fits_nar_byte _) W', st⟩
theorem AI.fresh {cA : ClassId} {n : Int32} {k : Nat} (ht : ty = .int ∨ ty = .char ∨ ty = .byte ∨ ty = .short) (hn : n.toInt = (k : Int)) (A : Arr Z h a (newA cA ty n) ty) : AI Z h a ty (List.replicate k 0) := by
  have e : n.toNatClampNeg = k := by simp only [Int32.toNatClampNeg, hn]; rfl
  have hk := n.toInt_lt
  refine ⟨_, A, ?_, ?_, ?_⟩
  · rcases ht with rfl | rfl | rfl | rfl <;> simp [newA, e, defaultValue]
  · rw [List.length_replicate]; omega
  · intro x hx
    obtain rfl := List.eq_of_mem_replicate hx
    rcases ht with rfl | rfl | rfl | rfl <;> rfl
end Arrs
end OwnKit
section OwnKit2
variable {p : Program} {l : Launch} {e : Env} {R : Room} {s : State} {m : MethodId} {args : Array Value} {below : List Frame} {meth : Method} {c : Code} {T T' : State} {locs : List Loc} {cells slots : Nat} {Z : State} {a0 : Array Value} {h h' : Heap} {g g' : JFrame} {a b : Addr} {ty : FieldType} {xs : List Int32}
theorem AI.arv (F : AI Z h a ty xs) {n : Int32} (hn : n.toInt = (xs.length : Int)) : ∃ k, Arv Z h a k ty n (xs.map Value.int) (.int 0) := by
  obtain ⟨cl, A, h1, h2, h3⟩ := F
  have e : n.toNatClampNeg = xs.length := by simp only [Int32.toNatClampNeg, hn]; rfl
  have hl : cl.slots.size = xs.length := by rw [← Array.length_toList, h1, List.length_map]
  refine ⟨cl.cls, cl, A, rfl, by rw [hl, e], by rw [Int32.lt_iff_toInt_lt, hn]; have z : (0 : Int32).toInt = 0 := rfl; omega, fun i hi => ?_, fun i hi => ?_⟩
  · rw [← Array.getElem?_toList, h1, List.getD_eq_getElem?_getD]
    rw [hl] at hi
    rw [List.getElem?_map, List.getElem?_eq_getElem hi]; rfl
  · rw [hl] at hi
    rw [List.getD_eq_getElem?_getD, List.getElem?_map, List.getElem?_eq_getElem hi]
    exact h3 _ (List.getElem_mem hi)
theorem AI.ofArv {k : ClassId} {n : Int32} {vs : List Value} {d : Value} (F : Arv Z h a k ty n vs d) (hn : n.toInt = (xs.length : Int)) (hv : vs = xs.map Value.int) : AI Z h a ty xs := by
  obtain ⟨cl, A, -, S, q, H, G⟩ := F
  have e : n.toNatClampNeg = xs.length := by simp only [Int32.toNatClampNeg, hn]; rfl
  have hl : cl.slots.size = xs.length := by rw [S, e]
  have hk := n.toInt_lt
  refine ⟨cl, A, ?_, by omega, ?_⟩
  · apply List.ext_getElem?
    intro i
    by_cases hi : i < xs.length
    · rw [Array.getElem?_toList, H i (by rw [hl]; exact hi), hv, List.getD_eq_getElem?_getD, List.getElem?_map, List.getElem?_eq_getElem hi]; rfl
    · rw [List.getElem?_eq_none (by rw [Array.length_toList, hl]; omega), List.getElem?_eq_none (by rw [List.length_map]; omega)]
  · intro x hx
    obtain ⟨i, hi, rfl⟩ := List.getElem_of_mem hx
    have := G i (by rw [hl]; exact hi)
    rw [hv, List.getD_eq_getElem?_getD, List.getElem?_map, List.getElem?_eq_getElem hi] at this
    exact this
theorem AI.clone (X : Stand p l e R s m args below meth c T locs cells slots) (hx : p.tables.exec = Jvm.exec) (hZ : Z.Warmed39 s.vm) {own ad : String} {index : Nat} (hown : s.vm.findClass own = some m.cls)
    (w1 : (Cond.methodLink own index ⟨ad, "clone", "()Ljava/lang/Object;"⟩).before a0 Z = true) (w2 : (Cond.sameMethod ad "java/lang/Object" "clone" "()Ljava/lang/Object;").before a0 Z = true) (w3 : (Cond.native ⟨"java/lang/Object", "clone", "()Ljava/lang/Object;"⟩).before a0 Z = true)
    (w4 : (Cond.instanceMethod ⟨"java/lang/Object", "clone", "()Ljava/lang/Object;"⟩).before a0 Z = true) (w5 : (Cond.selects ad ⟨ad, "clone", "()Ljava/lang/Object;"⟩ ⟨"java/lang/Object", "clone", "()Ljava/lang/Object;"⟩).before a0 Z = true) (w6 : (Cond.castable ad "java/lang/Cloneable").before a0 Z = true)
    (eT : T.heap = h) (F : AI Z h a ty xs) (E : Exa Z h a ad) (hg : g.method = m) (hsize : g.locals.size = c.maxLocals) {rest : List Value} (hst : g.stack = .ref a :: rest) (hd : decode c.code g.pc = .ok (.invokevirtual index, 3))
    (hf : 1 ≤ R.frames) {W cap : Nat} (hW : 2 * g.monitorRoom + (rest.map fun v => v.category).sum ≤ W) (hl : W + 14 ≤ R.locals) (hcap : xs.length ≤ cap) (hc : cells + 1 ≤ R.cells) (hsl : slots + cap ≤ R.slots) :
    ∃ T' h', Stand p l e R s m args below meth c T' locs (cells + 1) (slots + cap) ∧ T'.heap = h' ∧ Ext h h' ∧ AI Z h' h.size ty xs ∧ Exa Z h' h.size ad ∧
      ∀ target, Steps p.tables e below (T'.setTop { g with pc := g.pc + 3, stack := .ref h.size :: rest }) target → Steps p.tables e below (T.setTop g) target := by
  obtain ⟨cl, A, h1, h2, h3⟩ := F
  have hlen : cl.slots.size = xs.length := by rw [← Array.length_toList, h1, List.length_map]
  have FC : FitC Z cl := fitC_of A fun i hi v hv => by
    rw [← Array.getElem?_toList, h1, List.getElem?_map] at hv
    rw [hlen] at hi
    rw [List.getElem?_eq_getElem hi] at hv
    cases hv
    exact h3 _ (List.getElem_mem hi)
  obtain ⟨T', h', X', e', ex, A', E', st⟩ := cloneA X hx hZ hown w1 w2 w3 w4 w5 w6 eT A E FC hg hsize hst hd hf hW hl (by rw [hlen]; exact hcap) hc hsl
  exact ⟨T', h', X', e', ex, ⟨cloneOf cl, A', h1, h2, h3⟩, E', st⟩
theorem AI.copy (X : Stand p l e R s m args below meth c T locs cells slots) (hx : p.tables.exec = Jvm.exec) (hZ : Z.Warmed39 s.vm) {own : String} {index : Nat} (hown : s.vm.findClass own = some m.cls)
    (w1 : (Cond.methodLink own index Jvm.Stand.acN).before a0 Z = true) (w2 : (Cond.native Jvm.Stand.acN).before a0 Z = true) (w3 : (Cond.static Jvm.Stand.acN).before a0 Z = true) (w4 : (Cond.initialized "java/lang/System").before a0 Z = true) (eT : T.heap = h)
    {ys : List Int32} {sp dp nn : Int32} {i j k : Nat} (A : AI Z h a ty xs) (B : AI Z h b ty ys) (hty : refKind ty = false) (hi : sp.toInt = (i : Int)) (hj : dp.toInt = (j : Int)) (hk : nn.toInt = (k : Int)) (h4 : i + k ≤ xs.length) (h5 : j + k ≤ ys.length) {n0 : Nat} (N : Fr n0 locs) (ge : n0 ≤ b)
    (hg : g.method = m) (hsize : g.locals.size = c.maxLocals) {rest : List Value} (hs : g.stack = .int nn :: .int dp :: .ref b :: .int sp :: .ref a :: rest) (hd : decode c.code g.pc = .ok (.invokestatic index, 3))
    (hf : 1 ≤ R.frames) {W : Nat} (hW : 2 * g.monitorRoom + (rest.map fun v => v.category).sum ≤ W) (hlo : W + (nativeFrameWords "java/lang/System" "arraycopy" 5 + 11) ≤ R.locals) :
    ∃ T' h' L, Stand p l e R s m args below meth c T' L cells slots ∧ T'.heap = h' ∧ Fr n0 L ∧ Keep h h' [b] ∧ AI Z h' b ty (ys.take j ++ (xs.drop i).take k ++ ys.drop (j + k)) ∧
      ∀ target, Steps p.tables e below (T'.setTop { g with pc := g.pc + 3, stack := rest }) target → Steps p.tables e below (T.setTop g) target := by
  have lx : xs.length < 2 ^ 31 := by obtain ⟨_, _, _, q, _⟩ := A; exact q
  have ly : ys.length < 2 ^ 31 := by obtain ⟨_, _, _, q, _⟩ := B; exact q
  have ex : (xs.length.toInt32).toInt = (xs.length : Int) := len_toInt lx
  have ey : (ys.length.toInt32).toInt = (ys.length : Int) := len_toInt ly
  obtain ⟨k1, A1⟩ := A.arv ex
  obtain ⟨k2, B1⟩ := B.arv ey
  have cl : ∀ {x : Int32} {q : Nat}, x.toInt = (q : Int) → x.toNatClampNeg = q := fun {x q} r => by simp only [Int32.toNatClampNeg, r]; rfl
  have ng : ∀ {x : Int32} {q : Nat}, x.toInt = (q : Int) → ¬ x < 0 := fun {x q} r => by rw [Int32.lt_iff_toInt_lt, r]; have z : (0 : Int32).toInt = 0 := rfl; omega
  obtain ⟨T', h', L, X', e', N', K', V', st⟩ := cpA X hx hZ hown w1 w2 w3 w4 eT A1 B1 (Or.inl ⟨rfl, hty⟩) (ng hi) (ng hj) (ng hk) (by rw [cl hi, cl hk, cl ex]; exact h4) (by rw [cl hj, cl hk, cl ey]; exact h5) rfl (by rw [cl hj, cl hk, List.length_map]; exact h5) N ge hg hsize hs hd hf hW hlo
  refine ⟨T', h', L, X', e', N', K', AI.ofArv V' ?_ ?_, st⟩
  · rw [ey]
    simp only [List.length_append, List.length_take, List.length_drop]
    omega
  · rw [cl hi, cl hj, cl hk, List.map_append, List.map_append, List.map_take, List.map_drop, List.map_take, List.map_drop]
    congr 2
    apply List.ext_getElem?
    intro q
    by_cases hq : q < k
    · rw [List.getElem?_map, List.getElem?_range hq, List.getElem?_take_of_lt hq, List.getElem?_drop, List.getElem?_map]
      simp only [Option.map_some, List.getD_eq_getElem?_getD, List.getElem?_map]
      rw [List.getElem?_eq_getElem (show i + q < xs.length by omega)]; rfl
    · rw [List.getElem?_eq_none (by simp only [List.length_map, List.length_range]; omega), List.getElem?_eq_none (by simp only [List.length_take, List.length_drop, List.length_map]; omega)]
end OwnKit2
section OwnKitW
variable {p : Program} {l : Launch} {e : Env} {R : Room} {s : State} {m : MethodId} {args : Array Value} {below : List Frame} {meth : Method} {c : Code} {T T' : State} {locs : List Loc} {cells slots : Nat} {Z : State} {a0 : Array Value} {h h' : Heap} {g g' : JFrame} {a b : Addr} {vm0 : Vm} {k0 : Nat}
def OwnKW (s : State) (Q : Option Value → Heap → List Loc → Prop) (C S : Nat) : Outcome → State → Prop := fun o U' => ∃ v L, o = .returned v ∧ Q v U'.heap L ∧ ReturnedEndW s o U' L C S
theorem own_endW {s t : State} {o : Outcome} {L : List Loc} {k n k' n' : Nat} (h : ReturnedEndW s o t L k n) (hk : k ≤ k') (hn : n ≤ n') : ReturnedEndW s o t L k' n' := ⟨h.1, h.2.1, h.2.2.1, h.2.2.2.mono hk hn⟩
variable {Q : Option Value → Heap → List Loc → Prop} {C S pc : Nat} {Ls : Array Slot} {rest : List Value}
theorem Goes.retIntW (X : Stand p l e R (s.setVm vm0) m args below meth c T locs cells slots) (hS : s.Since vm0 k0) (hk : k0 ≤ T.heap.size) (hx : p.tables.exec = Jvm.exec) (hlk : meth.locks = false) {z : Int32} (hret : meth.sig.returnType = some .int) (hd : decode c.code pc = .ok (.ireturn, 1)) (hQ : Q (some (.int z)) T.heap locs) (hc : cells ≤ C) (hs : slots ≤ S) :
    Goes p e below (OwnKW s Q C S) T (mkF m pc Ls (.int z :: rest)) := by
  obtain ⟨fs, hr, hrun, hended, hW⟩ := X.leaveW hS hk (v := some (.int z)) (fun h => by rw [hret] at h; cases h) hlk
  exact ⟨_, _, retOut X hx hret rfl (Or.inl ⟨rfl, Or.inl rfl, z, rfl⟩) hd hr, hrun, hended, _, _, rfl, hQ, own_endW hW hc hs⟩
theorem Goes.retNarW (X : Stand p l e R (s.setVm vm0) m args below meth c T locs cells slots) (hS : s.Since vm0 k0) (hk : k0 ≤ T.heap.size) (hx : p.tables.exec = Jvm.exec) (hlk : meth.locks = false) {t : FieldType} {z : Int32} (ht : t = .boolean ∨ t = .byte ∨ t = .char ∨ t = .short) (hret : meth.sig.returnType = some t) (hd : decode c.code pc = .ok (.ireturn, 1)) (hQ : Q (some (.int (nar t z))) T.heap locs) (hc : cells ≤ C) (hs : slots ≤ S) :
    Goes p e below (OwnKW s Q C S) T (mkF m pc Ls (.int z :: rest)) := by
  obtain ⟨fs, hr, hrun, hended, hW⟩ := X.leaveW hS hk (v := some (.int (nar t z))) (fun h => by rw [hret] at h; cases h) hlk
  exact ⟨_, _, retN X hx hret ht hd hr, hrun, hended, _, _, rfl, hQ, own_endW hW hc hs⟩
theorem Goes.retRefW (X : Stand p l e R (s.setVm vm0) m args below meth c T locs cells slots) (hS : s.Since vm0 k0) (hk : k0 ≤ T.heap.size) (hx : p.tables.exec = Jvm.exec) (hlk : meth.locks = false) {t : FieldType} {w : Value} (hw : w.isRef = true) (ht : t.isReference = true) (hret : meth.sig.returnType = some t) (hd : decode c.code pc = .ok (.areturn, 1)) (hQ : Q (some w) T.heap locs) (hc : cells ≤ C) (hs : slots ≤ S) :
    Goes p e below (OwnKW s Q C S) T (mkF m pc Ls (w :: rest)) := by
  obtain ⟨fs, hr, hrun, hended, hW⟩ := X.leaveW hS hk (v := some w) (fun h => by rw [hret] at h; cases h) hlk
  have hn : narrow t w = w := by cases t <;> first | (cases ht; done) | (cases w <;> first | (cases hw; done) | rfl)
  exact ⟨_, _, retOut X hx hret hn (Or.inr (Or.inr (Or.inr (Or.inr ⟨rfl, ht, hw⟩)))) hd hr, hrun, hended, _, _, rfl, hQ, own_endW hW hc hs⟩
theorem Goes.retVoidW (X : Stand p l e R (s.setVm vm0) m args below meth c T locs cells slots) (hS : s.Since vm0 k0) (hk : k0 ≤ T.heap.size) (hx : p.tables.exec = Jvm.exec) (hlk : meth.locks = false) (hret : meth.sig.returnType = none) (hd : decode c.code pc = .ok (.return_, 1)) (hQ : Q none T.heap locs) (hc : cells ≤ C) (hs : slots ≤ S) :
    Goes p e below (OwnKW s Q C S) T (mkF m pc Ls []) := by
  obtain ⟨fs, hr, hrun, hended, hW⟩ := X.leaveW hS hk (v := none) (fun _ => rfl) hlk
  exact ⟨_, _, X.returnOut hx hret hd hr, hrun, hended, _, _, rfl, hQ, own_endW hW hc hs⟩
end OwnKitW
section OwnKitS
variable {Z : State} {h h' : Heap} {a b : Addr} {ty : FieldType} {xs ys : List Int32}
theorem AI.inj (F : AI Z h a ty xs) (G : AI Z h a ty ys) : xs = ys := by
  obtain ⟨c1, A, h1, -⟩ := F
  obtain ⟨c2, B, g1, -⟩ := G
  cases A.1.symm.trans B.1
  exact (List.map_inj_right (fun x y q => Value.int.inj q)).mp (h1.symm.trans g1)
theorem Fld.injV {C n d : String} {v w : Value} (F : Fld Z h a C n d v) (G : Fld Z h a C n d w) : v = w :=
  Classical.byContradiction fun q => Fld.ne F G q rfl
end OwnKitS
def EL0 : List (String × Nat) := [("com/example/warrant/warrant/cli/PolicyFiles", 19), ("com/example/warrant/warrant/cli/PolicyFiles", 27), ("com/example/warrant/warrant/cli/PolicyFilesNamesPinLaw", 27), ("com/example/warrant/warrant/cli/PolicyFilesNamesPinLaw", 29), ("java/lang/String", 7)]
set_option maxRecDepth 65536 in
theorem own_EW {Z : State} {a0 : Array Value} (hw : ∀ d ∈ tables_1, d.before a0 Z = true) : EW Z a0 EL0 := (EW.cons (hw _ (List.mem_of_getElem? (i := 80) rfl)) (by decide +kernel) (EW.cons (hw _ (List.mem_of_getElem? (i := 90) rfl)) (by decide +kernel) (EW.cons (hw _ (List.mem_of_getElem? (i := 0) rfl)) (by decide +kernel) (EW.cons (hw _ (List.mem_of_getElem? (i := 91) rfl)) (by decide +kernel) (EW.cons (hw _ (List.mem_of_getElem? (i := 92) rfl)) (by decide +kernel) EW.nil)))))
section OwnKitH
variable {p : Program} {l : Launch} {e : Env} {R : Room} {s : State} {m : MethodId} {args : Array Value} {below : List Frame} {meth : Method} {c : Code} {T T' : State} {locs : List Loc} {cells slots : Nat} {Z : State} {a0 : Array Value} {h h' : Heap} {g g' : JFrame} {a b : Addr} {vm0 : Vm} {k0 : Nat} {EL : List (String × Nat)}
def OwnKH (Z : State) (EL : List (String × Nat)) (s : State) (Q : Option Value → Heap → List Loc → Prop) (C S : Nat) : Outcome → State → Prop := fun o U' => ∃ v L, o = .returned v ∧ Q v U'.heap L ∧ CHr Z EL s.vm s.heap U'.vm U'.heap ∧ ReturnedEndW s o U' L C S
variable {Q : Option Value → Heap → List Loc → Prop} {C S pc : Nat} {Ls : Array Slot} {rest : List Value}
theorem Goes.retIntH (X : Stand p l e R (s.setVm vm0) m args below meth c T locs cells slots) (hS : s.Since vm0 k0) (hk : k0 ≤ T.heap.size) (hC : CHr Z EL s.vm s.heap T.vm T.heap) (hx : p.tables.exec = Jvm.exec) (hlk : meth.locks = false) {z : Int32} (hret : meth.sig.returnType = some .int) (hd : decode c.code pc = .ok (.ireturn, 1)) (hQ : Q (some (.int z)) T.heap locs) (hc : cells ≤ C) (hs : slots ≤ S) :
    Goes p e below (OwnKH Z EL s Q C S) T (mkF m pc Ls (.int z :: rest)) := by
  obtain ⟨fs, hr, hrun, hended, hW⟩ := X.leaveW hS hk (v := some (.int z)) (fun h => by rw [hret] at h; cases h) hlk
  exact ⟨_, _, retOut X hx hret rfl (Or.inl ⟨rfl, Or.inl rfl, z, rfl⟩) hd hr, hrun, hended, _, _, rfl, hQ, hC, own_endW hW hc hs⟩
theorem Goes.retNarH (X : Stand p l e R (s.setVm vm0) m args below meth c T locs cells slots) (hS : s.Since vm0 k0) (hk : k0 ≤ T.heap.size) (hC : CHr Z EL s.vm s.heap T.vm T.heap) (hx : p.tables.exec = Jvm.exec) (hlk : meth.locks = false) {t : FieldType} {z : Int32} (ht : t = .boolean ∨ t = .byte ∨ t = .char ∨ t = .short) (hret : meth.sig.returnType = some t) (hd : decode c.code pc = .ok (.ireturn, 1)) (hQ : Q (some (.int (nar t z))) T.heap locs) (hc : cells ≤ C) (hs : slots ≤ S) :
    Goes p e below (OwnKH Z EL s Q C S) T (mkF m pc Ls (.int z :: rest)) := by
  obtain ⟨fs, hr, hrun, hended, hW⟩ := X.leaveW hS hk (v := some (.int (nar t z))) (fun h => by rw [hret] at h; cases h) hlk
  exact ⟨_, _, retN X hx hret ht hd hr, hrun, hended, _, _, rfl, hQ, hC, own_endW hW hc hs⟩
theorem Goes.retRefH (X : Stand p l e R (s.setVm vm0) m args below meth c T locs cells slots) (hS : s.Since vm0 k0) (hk : k0 ≤ T.heap.size) (hC : CHr Z EL s.vm s.heap T.vm T.heap) (hx : p.tables.exec = Jvm.exec) (hlk : meth.locks = false) {t : FieldType} {w : Value} (hw : w.isRef = true) (ht : t.isReference = true) (hret : meth.sig.returnType = some t) (hd : decode c.code pc = .ok (.areturn, 1)) (hQ : Q (some w) T.heap locs) (hc : cells ≤ C) (hs : slots ≤ S) :
    Goes p e below (OwnKH Z EL s Q C S) T (mkF m pc Ls (w :: rest)) := by
  obtain ⟨fs, hr, hrun, hended, hW⟩ := X.leaveW hS hk (v := some w) (fun h => by rw [hret] at h; cases h) hlk
  have hn : narrow t w = w := by cases t <;> first | (cases ht; done) | (cases w <;> first | (cases hw; done) | rfl)
  exact ⟨_, _, retOut X hx hret hn (Or.inr (Or.inr (Or.inr (Or.inr ⟨rfl, ht, hw⟩)))) hd hr, hrun, hended, _, _, rfl, hQ, hC, own_endW hW hc hs⟩
theorem Goes.retVoidH (X : Stand p l e R (s.setVm vm0) m args below meth c T locs cells slots) (hS : s.Since vm0 k0) (hk : k0 ≤ T.heap.size) (hC : CHr Z EL s.vm s.heap T.vm T.heap) (hx : p.tables.exec = Jvm.exec) (hlk : meth.locks = false) (hret : meth.sig.returnType = none) (hd : decode c.code pc = .ok (.return_, 1)) (hQ : Q none T.heap locs) (hc : cells ≤ C) (hs : slots ≤ S) :
    Goes p e below (OwnKH Z EL s Q C S) T (mkF m pc Ls []) := by
  obtain ⟨fs, hr, hrun, hended, hW⟩ := X.leaveW hS hk (v := none) (fun _ => rfl) hlk
  exact ⟨_, _, X.returnOut hx hret hd hr, hrun, hended, _, _, rfl, hQ, hC, own_endW hW hc hs⟩
end OwnKitH
theorem AI.safe {Z : State} {EL : List (String × Nat)} {vm : Vm} {h : Heap} {a : Addr} {ty : FieldType} {xs : List Int32} (hal : Z.vm.Alike vm) (F : AI Z h a ty xs) (ht : ty ≠ .byte) : Safe Z EL vm h a := by obtain ⟨cl, A, -⟩ := F; exact Safe.arr hal A ht
theorem own_safeN {Z : State} {EL : List (String × Nat)} {vm : Vm} {h : Heap} {a : Addr} (hal : Z.vm.Alike vm) (E : Exa Z h a "java/lang/String") (N : Fld Z h a "java/lang/String" "value" "[B" .null) : Safe Z EL vm h a := fun B => by
  obtain ⟨p, -, u, b, -, q, -, F, rfl | rfl⟩ := B
  · obtain ⟨cS, ⟨⟨s1, s2, s3, ⟨cv, kv, iv, s4, s4'⟩, s5, s6, s7, s8, -⟩, -, -⟩, -⟩ := F
    obtain ⟨kv', z4⟩ := ff_back (U := Wst Z vm h) hal s4
    have G : Fld Z h q.sa "java/lang/String" "value" "[B" (.ref q.sd) := ⟨q.sC, cv, kv', iv, q.fSV, s1, z4, s6, s2, s3, by rw [← hal.assignable]; exact s4', s8⟩
    exact absurd (Fld.injV N G) (by simp)
  · obtain ⟨cell, k, e1, e2, e3, -, -⟩ := E
    cases (show h[q.sd]? = some q.SA from F.hd).symm.trans e1
    obtain ⟨cS, -, -, f, -⟩ := F
    have f : vm.findClass "[B" = some q.SA.cls := f
    rw [hal.findClass] at f
    obtain ⟨k1, q1, q2⟩ := Vm.findClass_spec f
    obtain ⟨k2, q3, q4⟩ := Vm.findClass_spec e2
    cases q1.symm.trans q3
    exact absurd (q2.symm.trans q4) (by decide)
theorem own_staK {Z : State} {h h' : Heap} {ws : List Addr} {C n d : String} {w : Value} (F : Sta Z h C n d w) (K : Keep h h' ws) (q : ∀ x ∈ ws, ∀ cell : Cell, h[x]? = some cell → cell.vm.isStatics = false) : Sta Z h' C n d w := by
  obtain ⟨cf, i, k, f, st, cell, h1, h2, h3, h4, h5, h6, r⟩ := F
  exact ⟨cf, i, k, f, st, cell, h1, h2, h3, h4, K.2.1 _ _ h5 (fun hm => by have z := q _ hm _ h5; rw [h6] at z; cases z), h6, r⟩
theorem own_ns {Z : State} {h : Heap} {a : Addr} {C : String} (E : Exa Z h a C) : ∀ cell : Cell, h[a]? = some cell → cell.vm.isStatics = false := fun cell q => by
  obtain ⟨c, k, e1, e2, e3, e4, -⟩ := E
  cases e1.symm.trans q; exact e4
theorem own_nsA {Z : State} {h : Heap} {a : Addr} {ty : FieldType} {xs : List Int32} (F : AI Z h a ty xs) : ∀ cell : Cell, h[a]? = some cell → cell.vm.isStatics = false := fun cell q => by
  obtain ⟨c, A, -⟩ := F
  cases A.1.symm.trans q
  have z := A.2.1.1
  generalize cell.vm = v at z ⊢
  cases v <;> first | rfl | exact absurd rfl (z _)
def gB (c : Int32) : Int32 := nar .byte c.toInt8.toInt32
def atF (bs : List Int32) (i : Nat) (mu po dr fi : Int32) : Int32 := if mu ≠ 0 ∧ (i : Int) = po.toInt then dr else (bs[i]?).getD fi
def mkL (bs : List Int32) (k : Nat) (mu po dr fi : Int32) : List Int32 := (List.range k).map fun i => gB (nar .char (atF bs i mu po dr fi))
def XP : List Int32 := [45, 45, 112, 111, 108, 105, 99, 121]
def XR : List Int32 := [45, 45, 114, 101, 102, 101, 114, 101, 110, 99, 101]
def nmV (D : List Int32) : Int32 := if D = XP then 1 else if D = XR then 1 else 0
theorem own_nat {y : Int32} {k : Nat} (h : 0 ≤ y.toInt) (h2 : y.toInt < k) (hk : k ≤ 256) : ∃ n : Fin k, y = Int32.ofNat n.val := by
  refine ⟨⟨y.toInt.toNat, by omega⟩, Int32.toInt_inj.mp ?_⟩
  have q : (Int32.ofNat y.toInt.toNat).toInt = ((y.toInt.toNat : Nat) : Int) := len_toInt (by omega)
  rw [q]; omega
theorem own_narc {y : Int32} (h : 0 ≤ y.toInt) (h2 : y.toInt ≤ 255) : nar .char y = y := by
  obtain ⟨n, rfl⟩ := own_nat (k := 256) h (by omega) (Nat.le_refl _)
  have z : ∀ n : Fin 256, nar .char (Int32.ofNat n.val) = Int32.ofNat n.val := by decide +kernel
  exact z n
theorem own_chr {y : Int32} (h : 0 ≤ y.toInt) (h2 : y.toInt < 128) : nar .char ((y &&& (255 : Int32)).toUInt32.toUInt16.toUInt32.toInt32) = y := by
  obtain ⟨n, rfl⟩ := own_nat (k := 128) h (by omega) (by decide)
  have z : ∀ n : Fin 128, nar .char (((Int32.ofNat n.val) &&& (255 : Int32)).toUInt32.toUInt16.toUInt32.toInt32) = Int32.ofNat n.val := by decide +kernel
  exact z n
theorem own_gB {c : Int32} (h : 0 ≤ c.toInt) (h2 : c.toInt ≤ 255) : (gB (nar .char c)).toInt = if c.toInt < 128 then c.toInt else c.toInt - 256 := by
  obtain ⟨n, rfl⟩ := own_nat (k := 256) h (by omega) (Nat.le_refl _)
  have z : ∀ n : Fin 256, (gB (nar .char (Int32.ofNat n.val))).toInt = if (Int32.ofNat n.val).toInt < 128 then (Int32.ofNat n.val).toInt else (Int32.ofNat n.val).toInt - 256 := by decide +kernel
  exact z n
theorem own_i2c (x : Int32) : 0 ≤ (((x &&& (255 : Int32)).toUInt32.toUInt16.toUInt32.toInt32)).toInt ∧ (((x &&& (255 : Int32)).toUInt32.toUInt16.toUInt32.toInt32)).toInt ≤ 255 := by
  have h1 : (x &&& 255).toInt = x.toInt % 2 ^ 8 := Jvm.Kit.i32_mask x 255 (k := 8) (by decide) (by decide)
  generalize x &&& 255 = y at h1 ⊢
  obtain ⟨n, rfl⟩ := own_nat (y := y) (k := 256) (by omega) (by omega) (Nat.le_refl _)
  have z : ∀ n : Fin 256, 0 ≤ (((Int32.ofNat n.val).toUInt32.toUInt16.toUInt32.toInt32)).toInt ∧ (((Int32.ofNat n.val).toUInt32.toUInt16.toUInt32.toInt32)).toInt ≤ 255 := by decide +kernel
  exact z n
theorem own_shr0 (n : Int32) : n >>> ((0 : Int32) &&& 31) = n := by
  have q : (0 : Int32) &&& 31 = 0 := by decide
  rw [q]; simp
def Asc (bs : List Int32) : Prop := ∀ y ∈ bs, 0 ≤ y.toInt ∧ y.toInt < 128
theorem own_atb {bs : List Int32} {mu po dr fi : Int32} (hbs : Asc bs) (hd : 0 ≤ dr.toInt ∧ dr.toInt ≤ 255) (hf : 0 ≤ fi.toInt ∧ fi.toInt ≤ 255) (i : Nat) : 0 ≤ (atF bs i mu po dr fi).toInt ∧ (atF bs i mu po dr fi).toInt ≤ 255 := by
  unfold atF
  split
  · exact hd
  · cases q : bs[i]? with
    | none => exact hf
    | some y => have := hbs y (List.mem_of_getElem? q); show 0 ≤ y.toInt ∧ y.toInt ≤ 255; omega
theorem own_cs {bs : List Int32} {mu po dr fi : Int32} (hbs : Asc bs) (hd : 0 ≤ dr.toInt ∧ dr.toInt ≤ 255) (hf : 0 ≤ fi.toInt ∧ fi.toInt ≤ 255) (k : Nat) : ∀ c ∈ (List.range k).map (fun i => nar .char (atF bs i mu po dr fi)), c.toInt ≤ 255 := by
  intro c hc
  obtain ⟨i, -, rfl⟩ := List.mem_map.mp hc
  have := own_atb (mu := mu) (po := po) hbs hd hf i
  rw [own_narc this.1 this.2]; exact this.2
theorem mkL_len {bs : List Int32} {k : Nat} {mu po dr fi : Int32} : (mkL bs k mu po dr fi).length = k := by simp [mkL]
theorem mkL_at {bs : List Int32} {k i : Nat} {mu po dr fi : Int32} (h : i < k) : (mkL bs k mu po dr fi)[i]? = some (gB (nar .char (atF bs i mu po dr fi))) := by simp [mkL, h]
theorem own_ascP : Asc XP := by unfold Asc XP; decide +kernel
theorem own_ascR : Asc XR := by unfold Asc XR; decide +kernel
theorem own_gA {y : Int32} (h : 0 ≤ y.toInt ∧ y.toInt < 128) : gB (nar .char y) = y := Int32.toInt_inj.mp (by rw [own_gB h.1 (by omega), if_pos h.2])
theorem own_eq {B : List Int32} {k : Nat} {mu po dr fi : Int32} (hB : Asc B) (hk : k = B.length) (H : ∀ i, i < k → mu ≠ 0 → (i : Int) = po.toInt → B[i]? = some dr) : mkL B k mu po dr fi = B := by
  refine List.ext_getElem? fun i => ?_
  rcases Nat.lt_or_ge i k with q | q
  · obtain ⟨y, hy⟩ : ∃ y, B[i]? = some y := ⟨_, List.getElem?_eq_getElem (by omega)⟩
    have ha : atF B i mu po dr fi = y := by
      unfold atF
      split
      · rename_i c; have := H i q c.1 c.2; rw [hy] at this; exact (Option.some.inj this).symm
      · rw [hy]; rfl
    rw [mkL_at q, ha, own_gA (hB y (List.mem_of_getElem? hy)), hy]
  · rw [List.getElem?_eq_none (by rw [mkL_len]; exact q), List.getElem?_eq_none (by omega)]
theorem own_ne {B : List Int32} {k i : Nat} {mu po dr fi y : Int32} (hB : Asc B) (hmu : mu ≠ 0) (hi : (i : Int) = po.toInt) (hik : i < k) (hy : B[i]? = some y) (hne : dr ≠ y) (hd : 0 ≤ dr.toInt ∧ dr.toInt ≤ 255) : mkL B k mu po dr fi ≠ B := fun q => by
  have h1 := mkL_at (bs := B) (mu := mu) (po := po) (dr := dr) (fi := fi) hik
  rw [q, hy] at h1
  have ha : atF B i mu po dr fi = dr := by unfold atF; rw [if_pos ⟨hmu, hi⟩]
  rw [ha] at h1
  have h2 := congrArg Int32.toInt (Option.some.inj h1)
  rw [own_gB hd.1 hd.2] at h2
  have h3 := hB y (List.mem_of_getElem? hy)
  split at h2
  · exact hne (Int32.toInt_inj.mp h2.symm)
  · omega
theorem own_pos {B D : List Int32} {k i : Nat} {mu po dr fi x y : Int32} (hx : B[i]? = some x) (hy : D[i]? = some y) (hxb : 0 ≤ x.toInt ∧ x.toInt < 128) (hxy : x ≠ y) (q : mkL B k mu po dr fi = D) : (i : Int) = po.toInt := by
  refine Classical.byContradiction fun c => ?_
  have hik : i < k := by
    refine Classical.byContradiction fun z => ?_
    rw [← q, List.getElem?_eq_none (by rw [mkL_len]; omega)] at hy; cases hy
  have ha : atF B i mu po dr fi = x := by unfold atF; rw [if_neg (fun z => c z.2), hx]; rfl
  have h1 := mkL_at (bs := B) (mu := mu) (po := po) (dr := dr) (fi := fi) hik
  rw [q, hy, ha, own_gA hxb] at h1
  exact hxy (Option.some.inj h1).symm
theorem own_farP {k : Nat} {mu po dr fi : Int32} : mkL XP k mu po dr fi ≠ XR := fun q => by
  have h2 := own_pos (i := 2) (x := 112) (y := 114) rfl rfl (by decide) (by decide) q
  have h3 := own_pos (i := 3) (x := 111) (y := 101) rfl rfl (by decide) (by decide) q
  omega
theorem own_farR {k : Nat} {mu po dr fi : Int32} : mkL XR k mu po dr fi ≠ XP := fun q => by
  have h2 := own_pos (i := 2) (x := 114) (y := 112) rfl rfl (by decide) (by decide) q
  have h3 := own_pos (i := 3) (x := 101) (y := 111) rfl rfl (by decide) (by decide) q
  omega
theorem own_v1 {D : List Int32} (h : D = XP ∨ D = XR) : nmV D = 1 := by
  unfold nmV
  split
  · rfl
  · rename_i c; rw [if_pos (h.resolve_left c)]
theorem own_v0 {D : List Int32} (h1 : D ≠ XP) (h2 : D ≠ XR) : nmV D = 0 := by unfold nmV; rw [if_neg h1, if_neg h2]
theorem own_cat {v : Value} (h : v.isRef = true) : v.category = 1 := by cases v <;> first | rfl | cases h
def f1 (p1 : Int32) : Int32 := if ((p1 &&& (2147483647 : Int32)) % (7 : Int32)) = (0 : Int32) then (8 : Int32) else if ((p1 &&& (2147483647 : Int32)) % (7 : Int32)) = (1 : Int32) then (11 : Int32) else if ((p1 &&& (2147483647 : Int32)) % (7 : Int32)) = (2 : Int32) then (0 : Int32) else if ((p1 &&& (2147483647 : Int32)) % (7 : Int32)) = (3 : Int32) then (7 : Int32) else if ((p1 &&& (2147483647 : Int32)) % (7 : Int32)) = (4 : Int32) then (9 : Int32) else if ((p1 &&& (2147483647 : Int32)) % (7 : Int32)) = (5 : Int32) then (10 : Int32) else (12 : Int32)
theorem d1_0 : decode method_3_code 0 = .ok (.iload_n 0, 1) := by decide +kernel
theorem d1_1 : decode method_3_code 1 = .ok (.ldc 17, 2) := by decide +kernel
theorem d1_3 : decode method_3_code 3 = .ok (.iand, 1) := by decide +kernel
theorem d1_4 : decode method_3_code 4 = .ok (.bipush 7, 2) := by decide +kernel
theorem d1_6 : decode method_3_code 6 = .ok (.irem, 1) := by decide +kernel
theorem d1_7 : decode method_3_code 7 = .ok (.istore_n 1, 1) := by decide +kernel
theorem d1_8 : decode method_3_code 8 = .ok (.iload_n 1, 1) := by decide +kernel
theorem d1_9 : decode method_3_code 9 = .ok (.ifCond .ne 6, 3) := by decide +kernel
theorem d1_12 : decode method_3_code 12 = .ok (.bipush 8, 2) := by decide +kernel
theorem d1_14 : decode method_3_code 14 = .ok (.ireturn, 1) := by decide +kernel
theorem d1_15 : decode method_3_code 15 = .ok (.iload_n 1, 1) := by decide +kernel
theorem d1_16 : decode method_3_code 16 = .ok (.iconst 1, 1) := by decide +kernel
theorem d1_17 : decode method_3_code 17 = .ok (.if_icmp .ne 6, 3) := by decide +kernel
theorem d1_20 : decode method_3_code 20 = .ok (.bipush 11, 2) := by decide +kernel
theorem d1_22 : decode method_3_code 22 = .ok (.ireturn, 1) := by decide +kernel
theorem d1_23 : decode method_3_code 23 = .ok (.iload_n 1, 1) := by decide +kernel
theorem d1_24 : decode method_3_code 24 = .ok (.iconst 2, 1) := by decide +kernel
theorem d1_25 : decode method_3_code 25 = .ok (.if_icmp .ne 5, 3) := by decide +kernel
theorem d1_28 : decode method_3_code 28 = .ok (.iconst 0, 1) := by decide +kernel
theorem d1_29 : decode method_3_code 29 = .ok (.ireturn, 1) := by decide +kernel
theorem d1_30 : decode method_3_code 30 = .ok (.iload_n 1, 1) := by decide +kernel
theorem d1_31 : decode method_3_code 31 = .ok (.iconst 3, 1) := by decide +kernel
theorem d1_32 : decode method_3_code 32 = .ok (.if_icmp .ne 6, 3) := by decide +kernel
theorem d1_35 : decode method_3_code 35 = .ok (.bipush 7, 2) := by decide +kernel
theorem d1_37 : decode method_3_code 37 = .ok (.ireturn, 1) := by decide +kernel
theorem d1_38 : decode method_3_code 38 = .ok (.iload_n 1, 1) := by decide +kernel
theorem d1_39 : decode method_3_code 39 = .ok (.iconst 4, 1) := by decide +kernel
theorem d1_40 : decode method_3_code 40 = .ok (.if_icmp .ne 6, 3) := by decide +kernel
theorem d1_43 : decode method_3_code 43 = .ok (.bipush 9, 2) := by decide +kernel
theorem d1_45 : decode method_3_code 45 = .ok (.ireturn, 1) := by decide +kernel
theorem d1_46 : decode method_3_code 46 = .ok (.iload_n 1, 1) := by decide +kernel
theorem d1_47 : decode method_3_code 47 = .ok (.iconst 5, 1) := by decide +kernel
theorem d1_48 : decode method_3_code 48 = .ok (.if_icmp .ne 6, 3) := by decide +kernel
theorem d1_51 : decode method_3_code 51 = .ok (.bipush 10, 2) := by decide +kernel
theorem d1_53 : decode method_3_code 53 = .ok (.ireturn, 1) := by decide +kernel
theorem d1_54 : decode method_3_code 54 = .ok (.bipush 12, 2) := by decide +kernel
theorem d1_56 : decode method_3_code 56 = .ok (.ireturn, 1) := by decide +kernel
theorem pn_1 : plainFor (⟨"com/example/warrant/warrant/cli/PolicyFilesNamesPinLaw", "lengthOf", "(I)I"⟩ : MethodName) = true := plainFor_of_name (by first | (simp [plainName, overriddenIn]; done) | decide +kernel)
theorem ef_1 (m : MethodId) (x0 : Int32) : entryFrame m #[(.int x0)] 2 = mkF m 0 #[.val (.int x0), .unset] [] := by first | (simp [entryFrame, mkF, argsToLocals, Value.category]; done) | rfl
def Q1 (Z : State) (p1 : Int32) (h0 : Heap) (n0 : Nat) (v : Option Value) (h : Heap) (L : List Loc) : Prop := v = some (.int (f1 p1)) ∧ Fr n0 L ∧ h = h0
set_option maxRecDepth 65536 in
set_option maxHeartbeats 40000000 in
theorem rm1 (l : Launch) (Z : State) (a0 : Array Value) (hw : ∀ d ∈ tables_1, d.before a0 Z = true) (ws : List Jvm.Cond) (p1 : Int32) (h0 : Heap) (n0 : Nat) (Z0 : n0 ≤ h0.size) :
    MetFree l (⟨"com/example/warrant/warrant/cli/PolicyFilesNamesPinLaw", "lengthOf", "(I)I"⟩ : MethodName) (head1 (Jvm.Cond.code (⟨"com/example/warrant/warrant/cli/PolicyFilesNamesPinLaw", "lengthOf", "(I)I"⟩ : MethodName) method_3_code 2 (some .int) :: ws) ({ frames := 0, cells := 0, slots := 0, locals := 0 } : Room)) (fun a U => a = #[(.int p1)] ∧ Z.Warmed39 U.vm ∧ U.heap = h0) (fun _ _ _ _ _ => True) (fun _ U o U' => ∃ v L, o = .returned v ∧ Q1 Z p1 h0 n0 v U'.heap L ∧ FrameEnd U o U' L ({ frames := 0, cells := 0, slots := 0, locals := 0 } : Room).cells ({ frames := 0, cells := 0, slots := 0, locals := 0 } : Room).slots) := by
  refine MetFree.of_bodySF pn_1 hisR ?_
  intro p e s m args below meth c s₁ Bd hml0 hP hK
  obtain ⟨rfl, hZ, hh⟩ := hP
  have hx := Bd.exec
  have hby := Bd.bytes
  have hml : c.maxLocals = 2 := hml0
  have hown : s.vm.findClass "com/example/warrant/warrant/cli/PolicyFilesNamesPinLaw" = some m.cls := findClass_of_methodNamed Bd.named
  have hnm := (name_of_methodNamed Bd.named Bd.method).1
  have hlk : meth.locks = false := BodyLoose.notSynchronized Bd
  have X0 : Stand p l e ({ frames := 0, cells := 0, slots := 0, locals := 0 } : Room) s m #[(.int p1)] below meth c s₁ [] 0 0 := Stand.of_body Bd
  have e0 : s₁.heap = h0 := by rw [← hh, Bd.state]; rfl
  have N0 := Fr.nil n0
  show Goes p e below (OwnK s (Q1 Z p1 h0 n0) ({ frames := 0, cells := 0, slots := 0, locals := 0 } : Room).cells ({ frames := 0, cells := 0, slots := 0, locals := 0 } : Room).slots) s₁ (entryFrame m #[(.int p1)] 2)
  refine Goes.cast (ef_1 m p1) ?_
  generalize hKK : OwnK s (Q1 Z p1 h0 n0) ({ frames := 0, cells := 0, slots := 0, locals := 0 } : Room).cells ({ frames := 0, cells := 0, slots := 0, locals := 0 } : Room).slots = KK
  show Goes p e below KK s₁ (mkF m 0 #[.val (.int p1), .unset] [])
  have w_8 := hw _ (List.mem_of_getElem? (i := 8) rfl)
  refine Goes.of (fun t => XS.iloadN X0.here hx rfl (hb hby d1_0) rfl) ?_
  show Goes p e below KK s₁ (mkF m 1 #[.val (.int p1), .unset] [(.int p1)])
  refine Goes.of (X0.ldcInt hx hown (mvT hZ w_8) (g := (mkF m 1 #[.val (.int p1), .unset] [(.int p1)])) rfl (hb hby d1_1)) ?_
  show Goes p e below KK s₁ (mkF m 3 #[.val (.int p1), .unset] [(.int (2147483647 : Int32)), (.int p1)])
  refine Goes.of (fun t => XS.iand X0.here hx rfl (hb hby d1_3) rfl) ?_
  show Goes p e below KK s₁ (mkF m 4 #[.val (.int p1), .unset] [(.int (p1 &&& (2147483647 : Int32)))])
  refine Goes.of (fun t => XS.bipush X0.here hx rfl (hb hby d1_4)) ?_
  show Goes p e below KK s₁ (mkF m 6 #[.val (.int p1), .unset] [(.int (7 : Int32)), (.int (p1 &&& (2147483647 : Int32)))])
  refine Goes.of (fun t => iremM X0 hx rfl (hb hby d1_6) rfl (by decide)) ?_
  show Goes p e below KK s₁ (mkF m 7 #[.val (.int p1), .unset] [(.int ((p1 &&& (2147483647 : Int32)) % (7 : Int32)))])
  refine Goes.of (fun t => XS.istoreN X0.here hx rfl (hb hby d1_7) rfl (l' := #[.val (.int p1), .val (.int ((p1 &&& (2147483647 : Int32)) % (7 : Int32)))]) rfl) ?_
  show Goes p e below KK s₁ (mkF m 8 #[.val (.int p1), .val (.int ((p1 &&& (2147483647 : Int32)) % (7 : Int32)))] [])
  refine Goes.of (fun t => XS.iloadN X0.here hx rfl (hb hby d1_8) rfl) ?_
  show Goes p e below KK s₁ (mkF m 9 #[.val (.int p1), .val (.int ((p1 &&& (2147483647 : Int32)) % (7 : Int32)))] [(.int ((p1 &&& (2147483647 : Int32)) % (7 : Int32)))])
  by_cases hc9 : ((p1 &&& (2147483647 : Int32)) % (7 : Int32)) = (0 : Int32)
  · refine Goes.of (fun t => XS.ifNo X0.here hx rfl (hb hby d1_9) rfl ((if0 _ _).trans (teq hc9).2)) ?_
    show Goes p e below KK s₁ (mkF m 12 #[.val (.int p1), .val (.int ((p1 &&& (2147483647 : Int32)) % (7 : Int32)))] [])
    refine Goes.of (fun t => XS.bipush X0.here hx rfl (hb hby d1_12)) ?_
    show Goes p e below KK s₁ (mkF m 14 #[.val (.int p1), .val (.int ((p1 &&& (2147483647 : Int32)) % (7 : Int32)))] [(.int (8 : Int32))])
    rw [← hKK]
    refine Goes.retInt X0 hx hlk Bd.returns (hb hby d1_14) ?_ (by decide) (by decide)
    rw [e0]
    exact ⟨by unfold f1; rw [if_pos hc9] <;> rfl, N0, rfl⟩
  · refine Goes.of (fun t => XS.ifYes X0.here hx rfl (pc0 := 9) (pc' := 15) rfl (hb hby d1_9) rfl ((if0 _ _).trans (feq hc9).2) (by decide) (by decide)) ?_
    show Goes p e below KK s₁ (mkF m 15 #[.val (.int p1), .val (.int ((p1 &&& (2147483647 : Int32)) % (7 : Int32)))] [])
    refine Goes.of (fun t => XS.iloadN X0.here hx rfl (hb hby d1_15) rfl) ?_
    show Goes p e below KK s₁ (mkF m 16 #[.val (.int p1), .val (.int ((p1 &&& (2147483647 : Int32)) % (7 : Int32)))] [(.int ((p1 &&& (2147483647 : Int32)) % (7 : Int32)))])
    refine Goes.of (fun t => XS.iconst X0.here hx rfl (hb hby d1_16)) ?_
    show Goes p e below KK s₁ (mkF m 17 #[.val (.int p1), .val (.int ((p1 &&& (2147483647 : Int32)) % (7 : Int32)))] [(.int (1 : Int32)), (.int ((p1 &&& (2147483647 : Int32)) % (7 : Int32)))])
    by_cases hc17 : ((p1 &&& (2147483647 : Int32)) % (7 : Int32)) = (1 : Int32)
    · refine Goes.of (fun t => XS.icmpNo X0.here hx rfl (hb hby d1_17) rfl (teq hc17).2) ?_
      show Goes p e below KK s₁ (mkF m 20 #[.val (.int p1), .val (.int ((p1 &&& (2147483647 : Int32)) % (7 : Int32)))] [])
      refine Goes.of (fun t => XS.bipush X0.here hx rfl (hb hby d1_20)) ?_
      show Goes p e below KK s₁ (mkF m 22 #[.val (.int p1), .val (.int ((p1 &&& (2147483647 : Int32)) % (7 : Int32)))] [(.int (11 : Int32))])
      rw [← hKK]
      refine Goes.retInt X0 hx hlk Bd.returns (hb hby d1_22) ?_ (by decide) (by decide)
      rw [e0]
      exact ⟨by unfold f1; rw [if_neg hc9, if_pos hc17] <;> rfl, N0, rfl⟩
    · refine Goes.of (fun t => XS.icmpYes X0.here hx rfl (pc0 := 17) (pc' := 23) rfl (hb hby d1_17) rfl (feq hc17).2 (by decide) (by decide)) ?_
      show Goes p e below KK s₁ (mkF m 23 #[.val (.int p1), .val (.int ((p1 &&& (2147483647 : Int32)) % (7 : Int32)))] [])
      refine Goes.of (fun t => XS.iloadN X0.here hx rfl (hb hby d1_23) rfl) ?_
      show Goes p e below KK s₁ (mkF m 24 #[.val (.int p1), .val (.int ((p1 &&& (2147483647 : Int32)) % (7 : Int32)))] [(.int ((p1 &&& (2147483647 : Int32)) % (7 : Int32)))])
      refine Goes.of (fun t => XS.iconst X0.here hx rfl (hb hby d1_24)) ?_
      show Goes p e below KK s₁ (mkF m 25 #[.val (.int p1), .val (.int ((p1 &&& (2147483647 : Int32)) % (7 : Int32)))] [(.int (2 : Int32)), (.int ((p1 &&& (2147483647 : Int32)) % (7 : Int32)))])
      by_cases hc25 : ((p1 &&& (2147483647 : Int32)) % (7 : Int32)) = (2 : Int32)
      · refine Goes.of (fun t => XS.icmpNo X0.here hx rfl (hb hby d1_25) rfl (teq hc25).2) ?_
        show Goes p e below KK s₁ (mkF m 28 #[.val (.int p1), .val (.int ((p1 &&& (2147483647 : Int32)) % (7 : Int32)))] [])
        refine Goes.of (fun t => XS.iconst X0.here hx rfl (hb hby d1_28)) ?_
        show Goes p e below KK s₁ (mkF m 29 #[.val (.int p1), .val (.int ((p1 &&& (2147483647 : Int32)) % (7 : Int32)))] [(.int (0 : Int32))])
        rw [← hKK]
        refine Goes.retInt X0 hx hlk Bd.returns (hb hby d1_29) ?_ (by decide) (by decide)
        rw [e0]
        exact ⟨by unfold f1; rw [if_neg hc9, if_neg hc17, if_pos hc25] <;> rfl, N0, rfl⟩
      · refine Goes.of (fun t => XS.icmpYes X0.here hx rfl (pc0 := 25) (pc' := 30) rfl (hb hby d1_25) rfl (feq hc25).2 (by decide) (by decide)) ?_
        show Goes p e below KK s₁ (mkF m 30 #[.val (.int p1), .val (.int ((p1 &&& (2147483647 : Int32)) % (7 : Int32)))] [])
        refine Goes.of (fun t => XS.iloadN X0.here hx rfl (hb hby d1_30) rfl) ?_
        show Goes p e below KK s₁ (mkF m 31 #[.val (.int p1), .val (.int ((p1 &&& (2147483647 : Int32)) % (7 : Int32)))] [(.int ((p1 &&& (2147483647 : Int32)) % (7 : Int32)))])
        refine Goes.of (fun t => XS.iconst X0.here hx rfl (hb hby d1_31)) ?_
        show Goes p e below KK s₁ (mkF m 32 #[.val (.int p1), .val (.int ((p1 &&& (2147483647 : Int32)) % (7 : Int32)))] [(.int (3 : Int32)), (.int ((p1 &&& (2147483647 : Int32)) % (7 : Int32)))])
        by_cases hc32 : ((p1 &&& (2147483647 : Int32)) % (7 : Int32)) = (3 : Int32)
        · refine Goes.of (fun t => XS.icmpNo X0.here hx rfl (hb hby d1_32) rfl (teq hc32).2) ?_
          show Goes p e below KK s₁ (mkF m 35 #[.val (.int p1), .val (.int ((p1 &&& (2147483647 : Int32)) % (7 : Int32)))] [])
          refine Goes.of (fun t => XS.bipush X0.here hx rfl (hb hby d1_35)) ?_
          show Goes p e below KK s₁ (mkF m 37 #[.val (.int p1), .val (.int ((p1 &&& (2147483647 : Int32)) % (7 : Int32)))] [(.int (7 : Int32))])
          rw [← hKK]
          refine Goes.retInt X0 hx hlk Bd.returns (hb hby d1_37) ?_ (by decide) (by decide)
          rw [e0]
          exact ⟨by unfold f1; rw [if_neg hc9, if_neg hc17, if_neg hc25, if_pos hc32] <;> rfl, N0, rfl⟩
        · refine Goes.of (fun t => XS.icmpYes X0.here hx rfl (pc0 := 32) (pc' := 38) rfl (hb hby d1_32) rfl (feq hc32).2 (by decide) (by decide)) ?_
          show Goes p e below KK s₁ (mkF m 38 #[.val (.int p1), .val (.int ((p1 &&& (2147483647 : Int32)) % (7 : Int32)))] [])
          refine Goes.of (fun t => XS.iloadN X0.here hx rfl (hb hby d1_38) rfl) ?_
          show Goes p e below KK s₁ (mkF m 39 #[.val (.int p1), .val (.int ((p1 &&& (2147483647 : Int32)) % (7 : Int32)))] [(.int ((p1 &&& (2147483647 : Int32)) % (7 : Int32)))])
          refine Goes.of (fun t => XS.iconst X0.here hx rfl (hb hby d1_39)) ?_
          show Goes p e below KK s₁ (mkF m 40 #[.val (.int p1), .val (.int ((p1 &&& (2147483647 : Int32)) % (7 : Int32)))] [(.int (4 : Int32)), (.int ((p1 &&& (2147483647 : Int32)) % (7 : Int32)))])
          by_cases hc40 : ((p1 &&& (2147483647 : Int32)) % (7 : Int32)) = (4 : Int32)
          · refine Goes.of (fun t => XS.icmpNo X0.here hx rfl (hb hby d1_40) rfl (teq hc40).2) ?_
            show Goes p e below KK s₁ (mkF m 43 #[.val (.int p1), .val (.int ((p1 &&& (2147483647 : Int32)) % (7 : Int32)))] [])
            refine Goes.of (fun t => XS.bipush X0.here hx rfl (hb hby d1_43)) ?_
            show Goes p e below KK s₁ (mkF m 45 #[.val (.int p1), .val (.int ((p1 &&& (2147483647 : Int32)) % (7 : Int32)))] [(.int (9 : Int32))])
            rw [← hKK]
            refine Goes.retInt X0 hx hlk Bd.returns (hb hby d1_45) ?_ (by decide) (by decide)
            rw [e0]
            exact ⟨by unfold f1; rw [if_neg hc9, if_neg hc17, if_neg hc25, if_neg hc32, if_pos hc40] <;> rfl, N0, rfl⟩
          · refine Goes.of (fun t => XS.icmpYes X0.here hx rfl (pc0 := 40) (pc' := 46) rfl (hb hby d1_40) rfl (feq hc40).2 (by decide) (by decide)) ?_
            show Goes p e below KK s₁ (mkF m 46 #[.val (.int p1), .val (.int ((p1 &&& (2147483647 : Int32)) % (7 : Int32)))] [])
            refine Goes.of (fun t => XS.iloadN X0.here hx rfl (hb hby d1_46) rfl) ?_
            show Goes p e below KK s₁ (mkF m 47 #[.val (.int p1), .val (.int ((p1 &&& (2147483647 : Int32)) % (7 : Int32)))] [(.int ((p1 &&& (2147483647 : Int32)) % (7 : Int32)))])
            refine Goes.of (fun t => XS.iconst X0.here hx rfl (hb hby d1_47)) ?_
            show Goes p e below KK s₁ (mkF m 48 #[.val (.int p1), .val (.int ((p1 &&& (2147483647 : Int32)) % (7 : Int32)))] [(.int (5 : Int32)), (.int ((p1 &&& (2147483647 : Int32)) % (7 : Int32)))])
            by_cases hc48 : ((p1 &&& (2147483647 : Int32)) % (7 : Int32)) = (5 : Int32)
            · refine Goes.of (fun t => XS.icmpNo X0.here hx rfl (hb hby d1_48) rfl (teq hc48).2) ?_
              show Goes p e below KK s₁ (mkF m 51 #[.val (.int p1), .val (.int ((p1 &&& (2147483647 : Int32)) % (7 : Int32)))] [])
              refine Goes.of (fun t => XS.bipush X0.here hx rfl (hb hby d1_51)) ?_
              show Goes p e below KK s₁ (mkF m 53 #[.val (.int p1), .val (.int ((p1 &&& (2147483647 : Int32)) % (7 : Int32)))] [(.int (10 : Int32))])
              rw [← hKK]
              refine Goes.retInt X0 hx hlk Bd.returns (hb hby d1_53) ?_ (by decide) (by decide)
              rw [e0]
              exact ⟨by unfold f1; rw [if_neg hc9, if_neg hc17, if_neg hc25, if_neg hc32, if_neg hc40, if_pos hc48] <;> rfl, N0, rfl⟩
            · refine Goes.of (fun t => XS.icmpYes X0.here hx rfl (pc0 := 48) (pc' := 54) rfl (hb hby d1_48) rfl (feq hc48).2 (by decide) (by decide)) ?_
              show Goes p e below KK s₁ (mkF m 54 #[.val (.int p1), .val (.int ((p1 &&& (2147483647 : Int32)) % (7 : Int32)))] [])
              refine Goes.of (fun t => XS.bipush X0.here hx rfl (hb hby d1_54)) ?_
              show Goes p e below KK s₁ (mkF m 56 #[.val (.int p1), .val (.int ((p1 &&& (2147483647 : Int32)) % (7 : Int32)))] [(.int (12 : Int32))])
              rw [← hKK]
              refine Goes.retInt X0 hx hlk Bd.returns (hb hby d1_56) ?_ (by decide) (by decide)
              rw [e0]
              exact ⟨by unfold f1; rw [if_neg hc9, if_neg hc17, if_neg hc25, if_neg hc32, if_neg hc40, if_neg hc48] <;> rfl, N0, rfl⟩
theorem own_len (p : Int32) : ∃ k : Nat, (f1 p).toInt = (k : Int) ∧ (k = 0 ∨ k = 7 ∨ k = 8 ∨ k = 9 ∨ k = 10 ∨ k = 11 ∨ k = 12) := by
  unfold f1
  repeat' split
  all_goals first | exact ⟨0, rfl, by decide⟩ | exact ⟨7, rfl, by decide⟩ | exact ⟨8, rfl, by decide⟩ | exact ⟨9, rfl, by decide⟩ | exact ⟨10, rfl, by decide⟩ | exact ⟨11, rfl, by decide⟩ | exact ⟨12, rfl, by decide⟩
theorem d5_0 : decode jdk_42_method_152_code 0 = .ok (.getstatic 38, 3) := by decide +kernel
theorem d5_3 : decode jdk_42_method_152_code 3 = .ok (.ifCond .eq 10, 3) := by decide +kernel
theorem d5_6 : decode jdk_42_method_152_code 6 = .ok (.aload_n 0, 1) := by decide +kernel
theorem d5_7 : decode jdk_42_method_152_code 7 = .ok (.getfield 15, 3) := by decide +kernel
theorem d5_10 : decode jdk_42_method_152_code 10 = .ok (.goto 4, 3) := by decide +kernel
theorem d5_13 : decode jdk_42_method_152_code 13 = .ok (.iconst 1, 1) := by decide +kernel
theorem d5_14 : decode jdk_42_method_152_code 14 = .ok (.ireturn, 1) := by decide +kernel
theorem pn_5 : plainFor (⟨"java/lang/String", "coder", "()B"⟩ : MethodName) = true := plainFor_of_name (by first | (simp [plainName, overriddenIn]; done) | decide +kernel)
theorem ef_5 (m : MethodId) (x0 : Addr) : entryFrame m #[(.ref x0)] 1 = mkF m 0 #[.val (.ref x0)] [] := by first | (simp [entryFrame, mkF, argsToLocals, Value.category]; done) | rfl
def Q5 (Z : State) (a1 : Addr) (cz : Int32) (h0 : Heap) (n0 : Nat) (v : Option Value) (h : Heap) (L : List Loc) : Prop := v = some (.int 0) ∧ Fr n0 L ∧ h = h0
set_option maxRecDepth 65536 in
set_option maxHeartbeats 40000000 in
theorem rm5 (l : Launch) (Z : State) (a0 : Array Value) (hw : ∀ d ∈ tables_1, d.before a0 Z = true) (ws : List Jvm.Cond) (a1 : Addr) (cz : Int32) (h0 : Heap) (n0 : Nat) (Z0 : n0 ≤ h0.size) (C1 : Fld Z h0 a1 "java/lang/String" "coder" "B" (.int (0 : Int32))) (Scs : Sta Z h0 "java/lang/String" "COMPACT_STRINGS" "Z" (.int cz)) (hcz : ¬ cz = 0) :
    MetFree l (⟨"java/lang/String", "coder", "()B"⟩ : MethodName) (head1 (Jvm.Cond.code (⟨"java/lang/String", "coder", "()B"⟩ : MethodName) jdk_42_method_152_code 1 (some .byte) :: ws) ({ frames := 0, cells := 0, slots := 0, locals := 0 } : Room)) (fun a U => a = #[(.ref a1)] ∧ Z.Warmed39 U.vm ∧ U.heap = h0) (fun _ _ _ _ _ => True) (fun _ U o U' => ∃ v L, o = .returned v ∧ Q5 Z a1 cz h0 n0 v U'.heap L ∧ FrameEnd U o U' L ({ frames := 0, cells := 0, slots := 0, locals := 0 } : Room).cells ({ frames := 0, cells := 0, slots := 0, locals := 0 } : Room).slots) := by
  refine MetFree.of_bodySF pn_5 hisR ?_
  intro p e s m args below meth c s₁ Bd hml0 hP hK
  obtain ⟨rfl, hZ, hh⟩ := hP
  have hx := Bd.exec
  have hby := Bd.bytes
  have hml : c.maxLocals = 1 := hml0
  have hown : s.vm.findClass "java/lang/String" = some m.cls := findClass_of_methodNamed Bd.named
  have hnm := (name_of_methodNamed Bd.named Bd.method).1
  have hlk : meth.locks = false := BodyLoose.notSynchronized Bd
  have X0 : Stand p l e ({ frames := 0, cells := 0, slots := 0, locals := 0 } : Room) s m #[(.ref a1)] below meth c s₁ [] 0 0 := Stand.of_body Bd
  have e0 : s₁.heap = h0 := by rw [← hh, Bd.state]; rfl
  have N0 := Fr.nil n0
  show Goes p e below (OwnK s (Q5 Z a1 cz h0 n0) ({ frames := 0, cells := 0, slots := 0, locals := 0 } : Room).cells ({ frames := 0, cells := 0, slots := 0, locals := 0 } : Room).slots) s₁ (entryFrame m #[(.ref a1)] 1)
  refine Goes.cast (ef_5 m a1) ?_
  generalize hKK : OwnK s (Q5 Z a1 cz h0 n0) ({ frames := 0, cells := 0, slots := 0, locals := 0 } : Room).cells ({ frames := 0, cells := 0, slots := 0, locals := 0 } : Room).slots = KK
  show Goes p e below KK s₁ (mkF m 0 #[.val (.ref a1)] [])
  have w_30 := hw _ (List.mem_of_getElem? (i := 30) rfl)
  have w_31 := hw _ (List.mem_of_getElem? (i := 31) rfl)
  obtain ⟨T1, X1, e1, st1⟩ := getS2 X0 hx hZ hown (host := "") (Or.inl w_30) Via.refl e0 Scs (g := (mkF m 0 #[.val (.ref a1)] [])) rfl (hb hby d5_0)
  refine Goes.of (st1) ?_
  show Goes p e below KK T1 (mkF m 3 #[.val (.ref a1)] [(.int cz)])
  refine Goes.of (fun t => XS.ifNo X1.here hx rfl (hb hby d5_3) rfl ((if0 _ _).trans (feq (show ¬ (cz = (0 : Int32)) from hcz)).1)) ?_
  show Goes p e below KK T1 (mkF m 6 #[.val (.ref a1)] [])
  refine Goes.of (fun t => XS.aloadN X1.here hx rfl (hb hby d5_6) rfl rfl) ?_
  show Goes p e below KK T1 (mkF m 7 #[.val (.ref a1)] [(.ref a1)])
  obtain ⟨T2, X2, e2, st2⟩ := getF X1 hx hZ hown (host := "") (Or.inl w_31) Via.refl e1 C1 (g := (mkF m 7 #[.val (.ref a1)] [(.ref a1)])) rfl rfl (hb hby d5_7)
  refine Goes.of (st2) ?_
  show Goes p e below KK T2 (mkF m 10 #[.val (.ref a1)] [(.int (0 : Int32))])
  refine Goes.of (fun t => XS.goto X2.here hx rfl (pc0 := 10) (pc' := 14) rfl (hb hby d5_10) (by decide) (by decide)) ?_
  show Goes p e below KK T2 (mkF m 14 #[.val (.ref a1)] [(.int (0 : Int32))])
  rw [← hKK]
  refine Goes.retNar X2 hx hlk (t := .byte) (by simp) Bd.returns (hb hby d5_14) ?_ (by decide) (by decide)
  rw [e2]
  exact ⟨rfl, N0, rfl⟩
theorem d4_0 : decode jdk_42_method_54_code 0 = .ok (.aload_n 0, 1) := by decide +kernel
theorem d4_1 : decode jdk_42_method_54_code 1 = .ok (.getfield 9, 3) := by decide +kernel
theorem d4_4 : decode jdk_42_method_54_code 4 = .ok (.arraylength, 1) := by decide +kernel
theorem d4_5 : decode jdk_42_method_54_code 5 = .ok (.aload_n 0, 1) := by decide +kernel
theorem d4_6 : decode jdk_42_method_54_code 6 = .ok (.invokevirtual 335, 3) := by decide +kernel
theorem d4_9 : decode jdk_42_method_54_code 9 = .ok (.ishr, 1) := by decide +kernel
theorem d4_10 : decode jdk_42_method_54_code 10 = .ok (.ireturn, 1) := by decide +kernel
theorem pn_4 : plainFor (⟨"java/lang/String", "length", "()I"⟩ : MethodName) = true := plainFor_of_name (by first | (simp [plainName, overriddenIn]; done) | decide +kernel)
theorem pd_3 : parseMethodDescriptor "()B" = some ⟨[], some .byte⟩ := by decide +kernel
theorem ef_4 (m : MethodId) (x0 : Addr) : entryFrame m #[(.ref x0)] 1 = mkF m 0 #[.val (.ref x0)] [] := by first | (simp [entryFrame, mkF, argsToLocals, Value.category]; done) | rfl
def Q4 (Z : State) (a1 : Addr) (b1 : Addr) (bs : List Int32) (nb : Int32) (cz : Int32) (h0 : Heap) (n0 : Nat) (v : Option Value) (h : Heap) (L : List Loc) : Prop := v = some (.int nb) ∧ Fr n0 L ∧ h = h0
set_option maxRecDepth 65536 in
set_option maxHeartbeats 40000000 in
theorem rm4 (l : Launch) (Z : State) (a0 : Array Value) (hw : ∀ d ∈ tables_1, d.before a0 Z = true) (ws : List Jvm.Cond) (a1 : Addr) (b1 : Addr) (bs : List Int32) (nb : Int32) (cz : Int32) (h0 : Heap) (n0 : Nat) (Z0 : n0 ≤ h0.size) (E1 : Exa Z h0 a1 "java/lang/String") (C1 : Fld Z h0 a1 "java/lang/String" "coder" "B" (.int (0 : Int32))) (W1v : Fld Z h0 a1 "java/lang/String" "value" "[B" (.ref b1)) (V1 : AI Z h0 b1 .byte bs) (hnb : nb.toInt = (bs.length : Int)) (Scs : Sta Z h0 "java/lang/String" "COMPACT_STRINGS" "Z" (.int cz)) (hcz : ¬ cz = 0) :
    MetFree l (⟨"java/lang/String", "length", "()I"⟩ : MethodName) (head1 (Jvm.Cond.code (⟨"java/lang/String", "length", "()I"⟩ : MethodName) jdk_42_method_54_code 1 (some .int) :: ws) ({ frames := 1, cells := 0, slots := 0, locals := 13 } : Room)) (fun a U => a = #[(.ref a1)] ∧ Z.Warmed39 U.vm ∧ U.heap = h0) (fun _ _ _ _ _ => True) (fun _ U o U' => ∃ v L, o = .returned v ∧ Q4 Z a1 b1 bs nb cz h0 n0 v U'.heap L ∧ FrameEnd U o U' L ({ frames := 1, cells := 0, slots := 0, locals := 13 } : Room).cells ({ frames := 1, cells := 0, slots := 0, locals := 13 } : Room).slots) := by
  refine MetFree.of_bodySF pn_4 hisR ?_
  intro p e s m args below meth c s₁ Bd hml0 hP hK
  obtain ⟨rfl, hZ, hh⟩ := hP
  have hx := Bd.exec
  have hby := Bd.bytes
  have hml : c.maxLocals = 1 := hml0
  have hown : s.vm.findClass "java/lang/String" = some m.cls := findClass_of_methodNamed Bd.named
  have hnm := (name_of_methodNamed Bd.named Bd.method).1
  have hlk : meth.locks = false := BodyLoose.notSynchronized Bd
  have X0 : Stand p l e ({ frames := 1, cells := 0, slots := 0, locals := 13 } : Room) s m #[(.ref a1)] below meth c s₁ [] 0 0 := Stand.of_body Bd
  have e0 : s₁.heap = h0 := by rw [← hh, Bd.state]; rfl
  have N0 := Fr.nil n0
  show Goes p e below (OwnK s (Q4 Z a1 b1 bs nb cz h0 n0) ({ frames := 1, cells := 0, slots := 0, locals := 13 } : Room).cells ({ frames := 1, cells := 0, slots := 0, locals := 13 } : Room).slots) s₁ (entryFrame m #[(.ref a1)] 1)
  refine Goes.cast (ef_4 m a1) ?_
  generalize hKK : OwnK s (Q4 Z a1 b1 bs nb cz h0 n0) ({ frames := 1, cells := 0, slots := 0, locals := 13 } : Room).cells ({ frames := 1, cells := 0, slots := 0, locals := 13 } : Room).slots = KK
  show Goes p e below KK s₁ (mkF m 0 #[.val (.ref a1)] [])
  have w_1 := hw _ (List.mem_of_getElem? (i := 1) rfl)
  have w_24 := hw _ (List.mem_of_getElem? (i := 24) rfl)
  have w_25 := hw _ (List.mem_of_getElem? (i := 25) rfl)
  have w_26 := hw _ (List.mem_of_getElem? (i := 26) rfl)
  have w_27 := hw _ (List.mem_of_getElem? (i := 27) rfl)
  have w_28 := hw _ (List.mem_of_getElem? (i := 28) rfl)
  have w_29 := hw _ (List.mem_of_getElem? (i := 29) rfl)
  refine Goes.of (fun t => XS.aloadN X0.here hx rfl (hb hby d4_0) rfl rfl) ?_
  show Goes p e below KK s₁ (mkF m 1 #[.val (.ref a1)] [(.ref a1)])
  obtain ⟨T3, X3, e3, st3⟩ := getF X0 hx hZ hown (host := "") (Or.inl w_24) Via.refl e0 W1v (g := (mkF m 1 #[.val (.ref a1)] [(.ref a1)])) rfl rfl (hb hby d4_1)
  refine Goes.of (st3) ?_
  show Goes p e below KK T3 (mkF m 4 #[.val (.ref a1)] [(.ref b1)])
  refine Goes.of (AI.arraylength X3 hx hZ e3 V1 (j := nb) (hnb) (g := (mkF m 4 #[.val (.ref a1)] [(.ref b1)])) rfl rfl (hb hby d4_4)) ?_
  show Goes p e below KK T3 (mkF m 5 #[.val (.ref a1)] [(.int nb)])
  refine Goes.of (fun t => XS.aloadN X3.here hx rfl (hb hby d4_5) rfl rfl) ?_
  show Goes p e below KK T3 (mkF m 6 #[.val (.ref a1)] [(.ref a1), (.int nb)])
  obtain ⟨cq4, kq4, q4a, q4b, q4c⟩ := isOf hZ e3 E1
  obtain ⟨_, _, ⟨T4, L4, k4, n4⟩, -, X4, ⟨Lc4, hQ4, l4, y4, z4⟩, st4⟩ := X3.virtualBack hx (y := (⟨"java/lang/String", "coder", "()B"⟩ : MethodName)) (z := (⟨"java/lang/String", "coder", "()B"⟩ : MethodName)) hown (mvT hZ w_25) (mvT hZ w_26) (notFace_of_selects (args := #[]) (mvT hZ w_28)) (mvT hZ w_28) (mvT hZ w_27) (by decide) (backOf (W := 1) (rm5 l Z a0 hw [] a1 cz h0 n0 Z0 C1 Scs hcz) hZ w_29 w_1 (by decide) (by decide)) q4a q4c (g := (mkF m 6 #[.val (.ref a1)] [(.ref a1), (.int nb)])) rfl (by rw [hml]; rfl) (Steps.refl _) (argsL := []) (rest := [(.int nb)]) (lenOf pd_3 rfl) rfl (by show 2 * 0 + _ ≤ _; exact Nat.le_of_eq rfl) (hb hby d4_6) (fun _ _ => ⟨rfl, e3, (by decide : 0 + 0 ≤ _), (by decide : 0 + 0 ≤ _)⟩)
  dsimp only [Pt.U, Pt.locs, Pt.cells, Pt.slots] at X4 l4 y4 z4 st4 hQ4
  subst y4 z4
  obtain ⟨rfl, N4q, e4⟩ := hQ4
  have N4 : Fr n0 L4 := by rw [l4]; exact Fr.app N0 N4q
  refine Goes.tr st4 ?_
  show Goes p e below KK T4 (mkF m 9 #[.val (.ref a1)] [(.int (0 : Int32)), (.int nb)])
  refine Goes.of (fun t => XT.ishr X4.here hx rfl (hb hby d4_9) rfl) ?_
  show Goes p e below KK T4 (mkF m 10 #[.val (.ref a1)] [(.int (nb >>> ((0 : Int32) &&& 31)))])
  rw [← hKK]
  refine Goes.retInt X4 hx hlk Bd.returns (hb hby d4_10) ?_ (by decide) (by decide)
  rw [e4]
  exact ⟨by rw [own_shr0], N4, rfl⟩
theorem d7_0 : decode jdk_42_method_154_code 0 = .ok (.getstatic 38, 3) := by decide +kernel
theorem d7_3 : decode jdk_42_method_154_code 3 = .ok (.ifCond .eq 14, 3) := by decide +kernel
theorem d7_6 : decode jdk_42_method_154_code 6 = .ok (.aload_n 0, 1) := by decide +kernel
theorem d7_7 : decode jdk_42_method_154_code 7 = .ok (.getfield 15, 3) := by decide +kernel
theorem d7_10 : decode jdk_42_method_154_code 10 = .ok (.ifCond .ne 7, 3) := by decide +kernel
theorem d7_13 : decode jdk_42_method_154_code 13 = .ok (.iconst 1, 1) := by decide +kernel
theorem d7_14 : decode jdk_42_method_154_code 14 = .ok (.goto 4, 3) := by decide +kernel
theorem d7_17 : decode jdk_42_method_154_code 17 = .ok (.iconst 0, 1) := by decide +kernel
theorem d7_18 : decode jdk_42_method_154_code 18 = .ok (.ireturn, 1) := by decide +kernel
theorem pn_7 : plainFor (⟨"java/lang/String", "isLatin1", "()Z"⟩ : MethodName) = true := plainFor_of_name (by first | (simp [plainName, overriddenIn]; done) | decide +kernel)
theorem ef_7 (m : MethodId) (x0 : Addr) : entryFrame m #[(.ref x0)] 1 = mkF m 0 #[.val (.ref x0)] [] := by first | (simp [entryFrame, mkF, argsToLocals, Value.category]; done) | rfl
def Q7 (Z : State) (a1 : Addr) (cz : Int32) (h0 : Heap) (n0 : Nat) (v : Option Value) (h : Heap) (L : List Loc) : Prop := v = some (.int 1) ∧ Fr n0 L ∧ h = h0
set_option maxRecDepth 65536 in
set_option maxHeartbeats 40000000 in
theorem rm7 (l : Launch) (Z : State) (a0 : Array Value) (hw : ∀ d ∈ tables_1, d.before a0 Z = true) (ws : List Jvm.Cond) (a1 : Addr) (cz : Int32) (h0 : Heap) (n0 : Nat) (Z0 : n0 ≤ h0.size) (C1 : Fld Z h0 a1 "java/lang/String" "coder" "B" (.int (0 : Int32))) (Scs : Sta Z h0 "java/lang/String" "COMPACT_STRINGS" "Z" (.int cz)) (hcz : ¬ cz = 0) :
    MetFree l (⟨"java/lang/String", "isLatin1", "()Z"⟩ : MethodName) (head1 (Jvm.Cond.code (⟨"java/lang/String", "isLatin1", "()Z"⟩ : MethodName) jdk_42_method_154_code 1 (some .boolean) :: ws) ({ frames := 0, cells := 0, slots := 0, locals := 0 } : Room)) (fun a U => a = #[(.ref a1)] ∧ Z.Warmed39 U.vm ∧ U.heap = h0) (fun _ _ _ _ _ => True) (fun _ U o U' => ∃ v L, o = .returned v ∧ Q7 Z a1 cz h0 n0 v U'.heap L ∧ FrameEnd U o U' L ({ frames := 0, cells := 0, slots := 0, locals := 0 } : Room).cells ({ frames := 0, cells := 0, slots := 0, locals := 0 } : Room).slots) := by
  refine MetFree.of_bodySF pn_7 hisR ?_
  intro p e s m args below meth c s₁ Bd hml0 hP hK
  obtain ⟨rfl, hZ, hh⟩ := hP
  have hx := Bd.exec
  have hby := Bd.bytes
  have hml : c.maxLocals = 1 := hml0
  have hown : s.vm.findClass "java/lang/String" = some m.cls := findClass_of_methodNamed Bd.named
  have hnm := (name_of_methodNamed Bd.named Bd.method).1
  have hlk : meth.locks = false := BodyLoose.notSynchronized Bd
  have X0 : Stand p l e ({ frames := 0, cells := 0, slots := 0, locals := 0 } : Room) s m #[(.ref a1)] below meth c s₁ [] 0 0 := Stand.of_body Bd
  have e0 : s₁.heap = h0 := by rw [← hh, Bd.state]; rfl
  have N0 := Fr.nil n0
  show Goes p e below (OwnK s (Q7 Z a1 cz h0 n0) ({ frames := 0, cells := 0, slots := 0, locals := 0 } : Room).cells ({ frames := 0, cells := 0, slots := 0, locals := 0 } : Room).slots) s₁ (entryFrame m #[(.ref a1)] 1)
  refine Goes.cast (ef_7 m a1) ?_
  generalize hKK : OwnK s (Q7 Z a1 cz h0 n0) ({ frames := 0, cells := 0, slots := 0, locals := 0 } : Room).cells ({ frames := 0, cells := 0, slots := 0, locals := 0 } : Room).slots = KK
  show Goes p e below KK s₁ (mkF m 0 #[.val (.ref a1)] [])
  have w_30 := hw _ (List.mem_of_getElem? (i := 30) rfl)
  have w_31 := hw _ (List.mem_of_getElem? (i := 31) rfl)
  obtain ⟨T5, X5, e5, st5⟩ := getS2 X0 hx hZ hown (host := "") (Or.inl w_30) Via.refl e0 Scs (g := (mkF m 0 #[.val (.ref a1)] [])) rfl (hb hby d7_0)
  refine Goes.of (st5) ?_
  show Goes p e below KK T5 (mkF m 3 #[.val (.ref a1)] [(.int cz)])
  refine Goes.of (fun t => XS.ifNo X5.here hx rfl (hb hby d7_3) rfl ((if0 _ _).trans (feq (show ¬ (cz = (0 : Int32)) from hcz)).1)) ?_
  show Goes p e below KK T5 (mkF m 6 #[.val (.ref a1)] [])
  refine Goes.of (fun t => XS.aloadN X5.here hx rfl (hb hby d7_6) rfl rfl) ?_
  show Goes p e below KK T5 (mkF m 7 #[.val (.ref a1)] [(.ref a1)])
  obtain ⟨T6, X6, e6, st6⟩ := getF X5 hx hZ hown (host := "") (Or.inl w_31) Via.refl e5 C1 (g := (mkF m 7 #[.val (.ref a1)] [(.ref a1)])) rfl rfl (hb hby d7_7)
  refine Goes.of (st6) ?_
  show Goes p e below KK T6 (mkF m 10 #[.val (.ref a1)] [(.int (0 : Int32))])
  refine Goes.of (fun t => XS.ifNo X6.here hx rfl (hb hby d7_10) rfl ((if0 _ _).trans (teq (show (0 : Int32) = (0 : Int32) from by decide)).2)) ?_
  show Goes p e below KK T6 (mkF m 13 #[.val (.ref a1)] [])
  refine Goes.of (fun t => XS.iconst X6.here hx rfl (hb hby d7_13)) ?_
  show Goes p e below KK T6 (mkF m 14 #[.val (.ref a1)] [(.int (1 : Int32))])
  refine Goes.of (fun t => XS.goto X6.here hx rfl (pc0 := 14) (pc' := 18) rfl (hb hby d7_14) (by decide) (by decide)) ?_
  show Goes p e below KK T6 (mkF m 18 #[.val (.ref a1)] [(.int (1 : Int32))])
  rw [← hKK]
  refine Goes.retNar X6 hx hlk (t := .boolean) (by simp) Bd.returns (hb hby d7_18) ?_ (by decide) (by decide)
  rw [e6]
  exact ⟨rfl, N0, rfl⟩
theorem d10_0 : decode jdk_41_method_11_code 0 = .ok (.iload_n 0, 1) := by decide +kernel
theorem d10_1 : decode jdk_41_method_11_code 1 = .ok (.ifCond .lt 8, 3) := by decide +kernel
theorem d10_4 : decode jdk_41_method_11_code 4 = .ok (.iload_n 0, 1) := by decide +kernel
theorem d10_5 : decode jdk_41_method_11_code 5 = .ok (.iload_n 1, 1) := by decide +kernel
theorem d10_6 : decode jdk_41_method_11_code 6 = .ok (.if_icmp .lt 10, 3) := by decide +kernel
theorem d10_9 : decode jdk_41_method_11_code 9 = .ok (.aload_n 2, 1) := by decide +kernel
theorem d10_10 : decode jdk_41_method_11_code 10 = .ok (.iload_n 0, 1) := by decide +kernel
theorem d10_11 : decode jdk_41_method_11_code 11 = .ok (.iload_n 1, 1) := by decide +kernel
theorem d10_12 : decode jdk_41_method_11_code 12 = .ok (.invokestatic 95, 3) := by decide +kernel
theorem d10_15 : decode jdk_41_method_11_code 15 = .ok (.athrow, 1) := by decide +kernel
theorem d10_16 : decode jdk_41_method_11_code 16 = .ok (.iload_n 0, 1) := by decide +kernel
theorem d10_17 : decode jdk_41_method_11_code 17 = .ok (.ireturn, 1) := by decide +kernel
theorem pn_10 : plainFor (⟨"jdk/internal/util/Preconditions", "checkIndex", "(IILjava/util/function/BiFunction;)I"⟩ : MethodName) = true := plainFor_of_name (by first | (simp [plainName, overriddenIn]; done) | decide +kernel)
theorem ef_10n (m : MethodId) (x0 : Int32) (x1 : Int32) : entryFrame m #[(.int x0), (.int x1), .null] 3 = mkF m 0 #[.val (.int x0), .val (.int x1), .val .null] [] := by first | (simp [entryFrame, mkF, argsToLocals, Value.category]; done) | rfl
def Q10n (Z : State) (p1 : Int32) (p2 : Int32) (h0 : Heap) (n0 : Nat) (v : Option Value) (h : Heap) (L : List Loc) : Prop := v = some (.int p1) ∧ Fr n0 L ∧ h = h0
set_option maxRecDepth 65536 in
set_option maxHeartbeats 40000000 in
theorem rm10n (l : Launch) (Z : State) (a0 : Array Value) (hw : ∀ d ∈ tables_1, d.before a0 Z = true) (ws : List Jvm.Cond) (p1 : Int32) (p2 : Int32) (h0 : Heap) (n0 : Nat) (Z0 : n0 ≤ h0.size) (hp1 : ¬ p1 < 0) (hp2 : p1 < p2) :
    MetFree l (⟨"jdk/internal/util/Preconditions", "checkIndex", "(IILjava/util/function/BiFunction;)I"⟩ : MethodName) (head1 (Jvm.Cond.code (⟨"jdk/internal/util/Preconditions", "checkIndex", "(IILjava/util/function/BiFunction;)I"⟩ : MethodName) jdk_41_method_11_code 3 (some .int) :: ws) ({ frames := 0, cells := 0, slots := 0, locals := 0 } : Room)) (fun a U => a = #[(.int p1), (.int p2), .null] ∧ Z.Warmed39 U.vm ∧ U.heap = h0) (fun _ _ _ _ _ => True) (fun _ U o U' => ∃ v L, o = .returned v ∧ Q10n Z p1 p2 h0 n0 v U'.heap L ∧ FrameEnd U o U' L ({ frames := 0, cells := 0, slots := 0, locals := 0 } : Room).cells ({ frames := 0, cells := 0, slots := 0, locals := 0 } : Room).slots) := by
  refine MetFree.of_bodySF pn_10 hisR ?_
  intro p e s m args below meth c s₁ Bd hml0 hP hK
  obtain ⟨rfl, hZ, hh⟩ := hP
  have hx := Bd.exec
  have hby := Bd.bytes
  have hml : c.maxLocals = 3 := hml0
  have hown : s.vm.findClass "jdk/internal/util/Preconditions" = some m.cls := findClass_of_methodNamed Bd.named
  have hnm := (name_of_methodNamed Bd.named Bd.method).1
  have hlk : meth.locks = false := BodyLoose.notSynchronized Bd
  have X0 : Stand p l e ({ frames := 0, cells := 0, slots := 0, locals := 0 } : Room) s m #[(.int p1), (.int p2), .null] below meth c s₁ [] 0 0 := Stand.of_body Bd
  have e0 : s₁.heap = h0 := by rw [← hh, Bd.state]; rfl
  have N0 := Fr.nil n0
  show Goes p e below (OwnK s (Q10n Z p1 p2 h0 n0) ({ frames := 0, cells := 0, slots := 0, locals := 0 } : Room).cells ({ frames := 0, cells := 0, slots := 0, locals := 0 } : Room).slots) s₁ (entryFrame m #[(.int p1), (.int p2), .null] 3)
  refine Goes.cast (ef_10n m p1 p2) ?_
  generalize hKK : OwnK s (Q10n Z p1 p2 h0 n0) ({ frames := 0, cells := 0, slots := 0, locals := 0 } : Room).cells ({ frames := 0, cells := 0, slots := 0, locals := 0 } : Room).slots = KK
  show Goes p e below KK s₁ (mkF m 0 #[.val (.int p1), .val (.int p2), .val .null] [])
  refine Goes.of (fun t => XS.iloadN X0.here hx rfl (hb hby d10_0) rfl) ?_
  show Goes p e below KK s₁ (mkF m 1 #[.val (.int p1), .val (.int p2), .val .null] [(.int p1)])
  refine Goes.of (fun t => XS.ifNo X0.here hx rfl (hb hby d10_1) rfl ((if0 _ _).trans (flt (show ¬ (p1 < (0 : Int32)) from hp1)).1)) ?_
  show Goes p e below KK s₁ (mkF m 4 #[.val (.int p1), .val (.int p2), .val .null] [])
  refine Goes.of (fun t => XS.iloadN X0.here hx rfl (hb hby d10_4) rfl) ?_
  show Goes p e below KK s₁ (mkF m 5 #[.val (.int p1), .val (.int p2), .val .null] [(.int p1)])
  refine Goes.of (fun t => XS.iloadN X0.here hx rfl (hb hby d10_5) rfl) ?_
  show Goes p e below KK s₁ (mkF m 6 #[.val (.int p1), .val (.int p2), .val .null] [(.int p2), (.int p1)])
  refine Goes.of (fun t => XS.icmpYes X0.here hx rfl (pc0 := 6) (pc' := 16) rfl (hb hby d10_6) rfl (tlt (show p1 < p2 from hp2)).1 (by decide) (by decide)) ?_
  show Goes p e below KK s₁ (mkF m 16 #[.val (.int p1), .val (.int p2), .val .null] [])
  refine Goes.of (fun t => XS.iloadN X0.here hx rfl (hb hby d10_16) rfl) ?_
  show Goes p e below KK s₁ (mkF m 17 #[.val (.int p1), .val (.int p2), .val .null] [(.int p1)])
  rw [← hKK]
  refine Goes.retInt X0 hx hlk Bd.returns (hb hby d10_17) ?_ (by decide) (by decide)
  rw [e0]
  exact ⟨rfl, N0, rfl⟩
theorem ef_10r (m : MethodId) (x0 : Int32) (x1 : Int32) (x2 : Addr) : entryFrame m #[(.int x0), (.int x1), (.ref x2)] 3 = mkF m 0 #[.val (.int x0), .val (.int x1), .val (.ref x2)] [] := by first | (simp [entryFrame, mkF, argsToLocals, Value.category]; done) | rfl
def Q10r (Z : State) (p1 : Int32) (p2 : Int32) (a3 : Addr) (h0 : Heap) (n0 : Nat) (v : Option Value) (h : Heap) (L : List Loc) : Prop := v = some (.int p1) ∧ Fr n0 L ∧ h = h0
set_option maxRecDepth 65536 in
set_option maxHeartbeats 40000000 in
theorem rm10r (l : Launch) (Z : State) (a0 : Array Value) (hw : ∀ d ∈ tables_1, d.before a0 Z = true) (ws : List Jvm.Cond) (p1 : Int32) (p2 : Int32) (a3 : Addr) (h0 : Heap) (n0 : Nat) (Z0 : n0 ≤ h0.size) (hp1 : ¬ p1 < 0) (hp2 : p1 < p2) :
    MetFree l (⟨"jdk/internal/util/Preconditions", "checkIndex", "(IILjava/util/function/BiFunction;)I"⟩ : MethodName) (head1 (Jvm.Cond.code (⟨"jdk/internal/util/Preconditions", "checkIndex", "(IILjava/util/function/BiFunction;)I"⟩ : MethodName) jdk_41_method_11_code 3 (some .int) :: ws) ({ frames := 0, cells := 0, slots := 0, locals := 0 } : Room)) (fun a U => a = #[(.int p1), (.int p2), (.ref a3)] ∧ Z.Warmed39 U.vm ∧ U.heap = h0) (fun _ _ _ _ _ => True) (fun _ U o U' => ∃ v L, o = .returned v ∧ Q10r Z p1 p2 a3 h0 n0 v U'.heap L ∧ FrameEnd U o U' L ({ frames := 0, cells := 0, slots := 0, locals := 0 } : Room).cells ({ frames := 0, cells := 0, slots := 0, locals := 0 } : Room).slots) := by
  refine MetFree.of_bodySF pn_10 hisR ?_
  intro p e s m args below meth c s₁ Bd hml0 hP hK
  obtain ⟨rfl, hZ, hh⟩ := hP
  have hx := Bd.exec
  have hby := Bd.bytes
  have hml : c.maxLocals = 3 := hml0
  have hown : s.vm.findClass "jdk/internal/util/Preconditions" = some m.cls := findClass_of_methodNamed Bd.named
  have hnm := (name_of_methodNamed Bd.named Bd.method).1
  have hlk : meth.locks = false := BodyLoose.notSynchronized Bd
  have X0 : Stand p l e ({ frames := 0, cells := 0, slots := 0, locals := 0 } : Room) s m #[(.int p1), (.int p2), (.ref a3)] below meth c s₁ [] 0 0 := Stand.of_body Bd
  have e0 : s₁.heap = h0 := by rw [← hh, Bd.state]; rfl
  have N0 := Fr.nil n0
  show Goes p e below (OwnK s (Q10r Z p1 p2 a3 h0 n0) ({ frames := 0, cells := 0, slots := 0, locals := 0 } : Room).cells ({ frames := 0, cells := 0, slots := 0, locals := 0 } : Room).slots) s₁ (entryFrame m #[(.int p1), (.int p2), (.ref a3)] 3)
  refine Goes.cast (ef_10r m p1 p2 a3) ?_
  generalize hKK : OwnK s (Q10r Z p1 p2 a3 h0 n0) ({ frames := 0, cells := 0, slots := 0, locals := 0 } : Room).cells ({ frames := 0, cells := 0, slots := 0, locals := 0 } : Room).slots = KK
  show Goes p e below KK s₁ (mkF m 0 #[.val (.int p1), .val (.int p2), .val (.ref a3)] [])
  refine Goes.of (fun t => XS.iloadN X0.here hx rfl (hb hby d10_0) rfl) ?_
  show Goes p e below KK s₁ (mkF m 1 #[.val (.int p1), .val (.int p2), .val (.ref a3)] [(.int p1)])
  refine Goes.of (fun t => XS.ifNo X0.here hx rfl (hb hby d10_1) rfl ((if0 _ _).trans (flt (show ¬ (p1 < (0 : Int32)) from hp1)).1)) ?_
  show Goes p e below KK s₁ (mkF m 4 #[.val (.int p1), .val (.int p2), .val (.ref a3)] [])
  refine Goes.of (fun t => XS.iloadN X0.here hx rfl (hb hby d10_4) rfl) ?_
  show Goes p e below KK s₁ (mkF m 5 #[.val (.int p1), .val (.int p2), .val (.ref a3)] [(.int p1)])
  refine Goes.of (fun t => XS.iloadN X0.here hx rfl (hb hby d10_5) rfl) ?_
  show Goes p e below KK s₁ (mkF m 6 #[.val (.int p1), .val (.int p2), .val (.ref a3)] [(.int p2), (.int p1)])
  refine Goes.of (fun t => XS.icmpYes X0.here hx rfl (pc0 := 6) (pc' := 16) rfl (hb hby d10_6) rfl (tlt (show p1 < p2 from hp2)).1 (by decide) (by decide)) ?_
  show Goes p e below KK s₁ (mkF m 16 #[.val (.int p1), .val (.int p2), .val (.ref a3)] [])
  refine Goes.of (fun t => XS.iloadN X0.here hx rfl (hb hby d10_16) rfl) ?_
  show Goes p e below KK s₁ (mkF m 17 #[.val (.int p1), .val (.int p2), .val (.ref a3)] [(.int p1)])
  rw [← hKK]
  refine Goes.retInt X0 hx hlk Bd.returns (hb hby d10_17) ?_ (by decide) (by decide)
  rw [e0]
  exact ⟨rfl, N0, rfl⟩
theorem d9_0 : decode jdk_42_method_155_code 0 = .ok (.iload_n 0, 1) := by decide +kernel
theorem d9_1 : decode jdk_42_method_155_code 1 = .ok (.iload_n 1, 1) := by decide +kernel
theorem d9_2 : decode jdk_42_method_155_code 2 = .ok (.getstatic 1053, 3) := by decide +kernel
theorem d9_5 : decode jdk_42_method_155_code 5 = .ok (.invokestatic 1059, 3) := by decide +kernel
theorem d9_8 : decode jdk_42_method_155_code 8 = .ok (.pop, 1) := by decide +kernel
theorem d9_9 : decode jdk_42_method_155_code 9 = .ok (.return_, 1) := by decide +kernel
theorem pn_9 : plainFor (⟨"java/lang/String", "checkIndex", "(II)V"⟩ : MethodName) = true := plainFor_of_name (by first | (simp [plainName, overriddenIn]; done) | decide +kernel)
theorem pd_7 : parseMethodDescriptor "(IILjava/util/function/BiFunction;)I" = some ⟨[.int, .int, (.object "java/util/function/BiFunction")], some .int⟩ := by decide +kernel
theorem ef_9 (m : MethodId) (x0 : Int32) (x1 : Int32) : entryFrame m #[(.int x0), (.int x1)] 2 = mkF m 0 #[.val (.int x0), .val (.int x1)] [] := by first | (simp [entryFrame, mkF, argsToLocals, Value.category]; done) | rfl
def Q9 (Z : State) (p1 : Int32) (p2 : Int32) (fm : Value) (h0 : Heap) (n0 : Nat) (v : Option Value) (h : Heap) (L : List Loc) : Prop := v = none ∧ Fr n0 L ∧ h = h0
set_option maxRecDepth 65536 in
set_option maxHeartbeats 40000000 in
theorem rm9 (l : Launch) (Z : State) (a0 : Array Value) (hw : ∀ d ∈ tables_1, d.before a0 Z = true) (ws : List Jvm.Cond) (p1 : Int32) (p2 : Int32) (fm : Value) (h0 : Heap) (n0 : Nat) (Z0 : n0 ≤ h0.size) (Sf : Sta Z h0 "jdk/internal/util/Preconditions" "SIOOBE_FORMATTER" "Ljava/util/function/BiFunction;" fm) (hp1 : ¬ p1 < 0) (hp2 : p1 < p2) (hfm : fm.isRef = true) :
    MetFree l (⟨"java/lang/String", "checkIndex", "(II)V"⟩ : MethodName) (head1 (Jvm.Cond.code (⟨"java/lang/String", "checkIndex", "(II)V"⟩ : MethodName) jdk_42_method_155_code 2 none :: ws) ({ frames := 1, cells := 0, slots := 0, locals := 14 } : Room)) (fun a U => a = #[(.int p1), (.int p2)] ∧ Z.Warmed39 U.vm ∧ U.heap = h0) (fun _ _ _ _ _ => True) (fun _ U o U' => ∃ v L, o = .returned v ∧ Q9 Z p1 p2 fm h0 n0 v U'.heap L ∧ FrameEnd U o U' L ({ frames := 1, cells := 0, slots := 0, locals := 14 } : Room).cells ({ frames := 1, cells := 0, slots := 0, locals := 14 } : Room).slots) := by
  refine MetFree.of_bodySF pn_9 hisR ?_
  intro p e s m args below meth c s₁ Bd hml0 hP hK
  obtain ⟨rfl, hZ, hh⟩ := hP
  have hx := Bd.exec
  have hby := Bd.bytes
  have hml : c.maxLocals = 2 := hml0
  have hown : s.vm.findClass "java/lang/String" = some m.cls := findClass_of_methodNamed Bd.named
  have hnm := (name_of_methodNamed Bd.named Bd.method).1
  have hlk : meth.locks = false := BodyLoose.notSynchronized Bd
  have X0 : Stand p l e ({ frames := 1, cells := 0, slots := 0, locals := 14 } : Room) s m #[(.int p1), (.int p2)] below meth c s₁ [] 0 0 := Stand.of_body Bd
  have e0 : s₁.heap = h0 := by rw [← hh, Bd.state]; rfl
  have N0 := Fr.nil n0
  show Goes p e below (OwnK s (Q9 Z p1 p2 fm h0 n0) ({ frames := 1, cells := 0, slots := 0, locals := 14 } : Room).cells ({ frames := 1, cells := 0, slots := 0, locals := 14 } : Room).slots) s₁ (entryFrame m #[(.int p1), (.int p2)] 2)
  refine Goes.cast (ef_9 m p1 p2) ?_
  generalize hKK : OwnK s (Q9 Z p1 p2 fm h0 n0) ({ frames := 1, cells := 0, slots := 0, locals := 14 } : Room).cells ({ frames := 1, cells := 0, slots := 0, locals := 14 } : Room).slots = KK
  show Goes p e below KK s₁ (mkF m 0 #[.val (.int p1), .val (.int p2)] [])
  have w_49 := hw _ (List.mem_of_getElem? (i := 49) rfl)
  have w_50 := hw _ (List.mem_of_getElem? (i := 50) rfl)
  have w_51 := hw _ (List.mem_of_getElem? (i := 51) rfl)
  have w_52 := hw _ (List.mem_of_getElem? (i := 52) rfl)
  have w_53 := hw _ (List.mem_of_getElem? (i := 53) rfl)
  rcases ref_cases hfm with rfl | ⟨fa, rfl⟩
  · show Goes p e below KK s₁ (mkF m 0 #[.val (.int p1), .val (.int p2)] [])
    refine Goes.of (fun t => XS.iloadN X0.here hx rfl (hb hby d9_0) rfl) ?_
    show Goes p e below KK s₁ (mkF m 1 #[.val (.int p1), .val (.int p2)] [(.int p1)])
    refine Goes.of (fun t => XS.iloadN X0.here hx rfl (hb hby d9_1) rfl) ?_
    show Goes p e below KK s₁ (mkF m 2 #[.val (.int p1), .val (.int p2)] [(.int p2), (.int p1)])
    obtain ⟨T7, X7, e7, st7⟩ := getS2 X0 hx hZ hown (host := "") (Or.inl w_49) Via.refl e0 Sf (g := (mkF m 2 #[.val (.int p1), .val (.int p2)] [(.int p2), (.int p1)])) rfl (hb hby d9_2)
    refine Goes.of (st7) ?_
    show Goes p e below KK T7 (mkF m 5 #[.val (.int p1), .val (.int p2)] [.null, (.int p2), (.int p1)])
    obtain ⟨_, _, ⟨T8, L8, k8, n8⟩, -, X8, ⟨Lc8, hQ8, l8, y8, z8⟩, st8⟩ := Jvm.LawKit.callS X7 hx (y := (⟨"jdk/internal/util/Preconditions", "checkIndex", "(IILjava/util/function/BiFunction;)I"⟩ : MethodName)) hown (mvT hZ w_51) (mvT hZ w_52) (mvT hZ w_50) (mvT hZ w_53) (by decide) (backOf (W := 0) (rm10n l Z a0 hw [] p1 p2  h0 n0 Z0 hp1 hp2) hZ w_53 w_50 (by decide) (by decide)) (g := (mkF m 5 #[.val (.int p1), .val (.int p2)] [.null, (.int p2), (.int p1)])) rfl (by rw [hml]; rfl) (argsL := [(.int p1), (.int p2), .null]) (rest := []) (lenOf pd_7 rfl) rfl (by show 2 * 0 + _ ≤ _; exact Nat.le_of_eq rfl) (hb hby d9_5) (fun _ _ => ⟨rfl, e7, (by decide : 0 + 0 ≤ _), (by decide : 0 + 0 ≤ _)⟩)
    dsimp only [Pt.U, Pt.locs, Pt.cells, Pt.slots] at X8 l8 y8 z8 st8 hQ8
    subst y8 z8
    obtain ⟨rfl, N8q, e8⟩ := hQ8
    have N8 : Fr n0 L8 := by rw [l8]; exact Fr.app N0 N8q
    refine Goes.of st8 ?_
    show Goes p e below KK T8 (mkF m 8 #[.val (.int p1), .val (.int p2)] [(.int p1)])
    refine Goes.of (fun t => XT.pop X8.here hx rfl (hb hby d9_8) rfl rfl) ?_
    show Goes p e below KK T8 (mkF m 9 #[.val (.int p1), .val (.int p2)] [])
    rw [← hKK]
    refine Goes.retVoid X8 hx hlk Bd.returns (hb hby d9_9) ?_ (by decide) (by decide)
    rw [e8]
    exact ⟨rfl, N8, rfl⟩
  · show Goes p e below KK s₁ (mkF m 0 #[.val (.int p1), .val (.int p2)] [])
    refine Goes.of (fun t => XS.iloadN X0.here hx rfl (hb hby d9_0) rfl) ?_
    show Goes p e below KK s₁ (mkF m 1 #[.val (.int p1), .val (.int p2)] [(.int p1)])
    refine Goes.of (fun t => XS.iloadN X0.here hx rfl (hb hby d9_1) rfl) ?_
    show Goes p e below KK s₁ (mkF m 2 #[.val (.int p1), .val (.int p2)] [(.int p2), (.int p1)])
    obtain ⟨T9, X9, e9, st9⟩ := getS2 X0 hx hZ hown (host := "") (Or.inl w_49) Via.refl e0 Sf (g := (mkF m 2 #[.val (.int p1), .val (.int p2)] [(.int p2), (.int p1)])) rfl (hb hby d9_2)
    refine Goes.of (st9) ?_
    show Goes p e below KK T9 (mkF m 5 #[.val (.int p1), .val (.int p2)] [(.ref fa), (.int p2), (.int p1)])
    obtain ⟨_, _, ⟨T10, L10, k10, n10⟩, -, X10, ⟨Lc10, hQ10, l10, y10, z10⟩, st10⟩ := Jvm.LawKit.callS X9 hx (y := (⟨"jdk/internal/util/Preconditions", "checkIndex", "(IILjava/util/function/BiFunction;)I"⟩ : MethodName)) hown (mvT hZ w_51) (mvT hZ w_52) (mvT hZ w_50) (mvT hZ w_53) (by decide) (backOf (W := 0) (rm10r l Z a0 hw [] p1 p2 fa  h0 n0 Z0 hp1 hp2) hZ w_53 w_50 (by decide) (by decide)) (g := (mkF m 5 #[.val (.int p1), .val (.int p2)] [(.ref fa), (.int p2), (.int p1)])) rfl (by rw [hml]; rfl) (argsL := [(.int p1), (.int p2), (.ref fa)]) (rest := []) (lenOf pd_7 rfl) rfl (by show 2 * 0 + _ ≤ _; exact Nat.le_of_eq rfl) (hb hby d9_5) (fun _ _ => ⟨rfl, e9, (by decide : 0 + 0 ≤ _), (by decide : 0 + 0 ≤ _)⟩)
    dsimp only [Pt.U, Pt.locs, Pt.cells, Pt.slots] at X10 l10 y10 z10 st10 hQ10
    subst y10 z10
    obtain ⟨rfl, N10q, e10⟩ := hQ10
    have N10 : Fr n0 L10 := by rw [l10]; exact Fr.app N0 N10q
    refine Goes.of st10 ?_
    show Goes p e below KK T10 (mkF m 8 #[.val (.int p1), .val (.int p2)] [(.int p1)])
    refine Goes.of (fun t => XT.pop X10.here hx rfl (hb hby d9_8) rfl rfl) ?_
    show Goes p e below KK T10 (mkF m 9 #[.val (.int p1), .val (.int p2)] [])
    rw [← hKK]
    refine Goes.retVoid X10 hx hlk Bd.returns (hb hby d9_9) ?_ (by decide) (by decide)
    rw [e10]
    exact ⟨rfl, N10, rfl⟩
theorem d8_0 : decode jdk_43_method_2_code 0 = .ok (.iload_n 1, 1) := by decide +kernel
theorem d8_1 : decode jdk_43_method_2_code 1 = .ok (.aload_n 0, 1) := by decide +kernel
theorem d8_2 : decode jdk_43_method_2_code 2 = .ok (.arraylength, 1) := by decide +kernel
theorem d8_3 : decode jdk_43_method_2_code 3 = .ok (.invokestatic 9, 3) := by decide +kernel
theorem d8_6 : decode jdk_43_method_2_code 6 = .ok (.aload_n 0, 1) := by decide +kernel
theorem d8_7 : decode jdk_43_method_2_code 7 = .ok (.iload_n 1, 1) := by decide +kernel
theorem d8_8 : decode jdk_43_method_2_code 8 = .ok (.baload, 1) := by decide +kernel
theorem d8_9 : decode jdk_43_method_2_code 9 = .ok (.sipush 255, 3) := by decide +kernel
theorem d8_12 : decode jdk_43_method_2_code 12 = .ok (.iand, 1) := by decide +kernel
theorem d8_13 : decode jdk_43_method_2_code 13 = .ok (.i2c, 1) := by decide +kernel
theorem d8_14 : decode jdk_43_method_2_code 14 = .ok (.ireturn, 1) := by decide +kernel
theorem pn_8 : plainFor (⟨"java/lang/StringLatin1", "charAt", "([BI)C"⟩ : MethodName) = true := plainFor_of_name (by first | (simp [plainName, overriddenIn]; done) | decide +kernel)
theorem pd_9 : parseMethodDescriptor "(II)V" = some ⟨[.int, .int], none⟩ := by decide +kernel
theorem ef_8 (m : MethodId) (x0 : Addr) (x1 : Int32) : entryFrame m #[(.ref x0), (.int x1)] 2 = mkF m 0 #[.val (.ref x0), .val (.int x1)] [] := by first | (simp [entryFrame, mkF, argsToLocals, Value.category]; done) | rfl
def Q8 (Z : State) (a1 : Addr) (p2 : Int32) (bs : List Int32) (nb : Int32) (i : Nat) (y : Int32) (fm : Value) (h0 : Heap) (n0 : Nat) (v : Option Value) (h : Heap) (L : List Loc) : Prop := v = some (.int y) ∧ Fr n0 L ∧ h = h0
set_option maxRecDepth 65536 in
set_option maxHeartbeats 40000000 in
theorem rm8 (l : Launch) (Z : State) (a0 : Array Value) (hw : ∀ d ∈ tables_1, d.before a0 Z = true) (ws : List Jvm.Cond) (a1 : Addr) (p2 : Int32) (bs : List Int32) (nb : Int32) (i : Nat) (y : Int32) (fm : Value) (h0 : Heap) (n0 : Nat) (Z0 : n0 ≤ h0.size) (V_a1 : AI Z h0 a1 .byte bs) (hnb : nb.toInt = (bs.length : Int)) (Sf : Sta Z h0 "jdk/internal/util/Preconditions" "SIOOBE_FORMATTER" "Ljava/util/function/BiFunction;" fm) (hp1 : ¬ p2 < 0) (hp2 : p2 < nb) (hfm : fm.isRef = true) (hi : p2.toInt = (i : Int)) (hy : bs[i]? = some y) (hyb : 0 ≤ y.toInt ∧ y.toInt < 128) :
    MetFree l (⟨"java/lang/StringLatin1", "charAt", "([BI)C"⟩ : MethodName) (head1 (Jvm.Cond.code (⟨"java/lang/StringLatin1", "charAt", "([BI)C"⟩ : MethodName) jdk_43_method_2_code 2 (some .char) :: ws) ({ frames := 2, cells := 0, slots := 0, locals := 27 } : Room)) (fun a U => a = #[(.ref a1), (.int p2)] ∧ Z.Warmed39 U.vm ∧ U.heap = h0) (fun _ _ _ _ _ => True) (fun _ U o U' => ∃ v L, o = .returned v ∧ Q8 Z a1 p2 bs nb i y fm h0 n0 v U'.heap L ∧ FrameEnd U o U' L ({ frames := 2, cells := 0, slots := 0, locals := 27 } : Room).cells ({ frames := 2, cells := 0, slots := 0, locals := 27 } : Room).slots) := by
  refine MetFree.of_bodySF pn_8 hisR ?_
  intro p e s m args below meth c s₁ Bd hml0 hP hK
  obtain ⟨rfl, hZ, hh⟩ := hP
  have hx := Bd.exec
  have hby := Bd.bytes
  have hml : c.maxLocals = 2 := hml0
  have hown : s.vm.findClass "java/lang/StringLatin1" = some m.cls := findClass_of_methodNamed Bd.named
  have hnm := (name_of_methodNamed Bd.named Bd.method).1
  have hlk : meth.locks = false := BodyLoose.notSynchronized Bd
  have X0 : Stand p l e ({ frames := 2, cells := 0, slots := 0, locals := 27 } : Room) s m #[(.ref a1), (.int p2)] below meth c s₁ [] 0 0 := Stand.of_body Bd
  have e0 : s₁.heap = h0 := by rw [← hh, Bd.state]; rfl
  have N0 := Fr.nil n0
  show Goes p e below (OwnK s (Q8 Z a1 p2 bs nb i y fm h0 n0) ({ frames := 2, cells := 0, slots := 0, locals := 27 } : Room).cells ({ frames := 2, cells := 0, slots := 0, locals := 27 } : Room).slots) s₁ (entryFrame m #[(.ref a1), (.int p2)] 2)
  refine Goes.cast (ef_8 m a1 p2) ?_
  generalize hKK : OwnK s (Q8 Z a1 p2 bs nb i y fm h0 n0) ({ frames := 2, cells := 0, slots := 0, locals := 27 } : Room).cells ({ frames := 2, cells := 0, slots := 0, locals := 27 } : Room).slots = KK
  show Goes p e below KK s₁ (mkF m 0 #[.val (.ref a1), .val (.int p2)] [])
  have w_1 := hw _ (List.mem_of_getElem? (i := 1) rfl)
  have w_46 := hw _ (List.mem_of_getElem? (i := 46) rfl)
  have w_47 := hw _ (List.mem_of_getElem? (i := 47) rfl)
  have w_48 := hw _ (List.mem_of_getElem? (i := 48) rfl)
  refine Goes.of (fun t => XS.iloadN X0.here hx rfl (hb hby d8_0) rfl) ?_
  show Goes p e below KK s₁ (mkF m 1 #[.val (.ref a1), .val (.int p2)] [(.int p2)])
  refine Goes.of (fun t => XS.aloadN X0.here hx rfl (hb hby d8_1) rfl rfl) ?_
  show Goes p e below KK s₁ (mkF m 2 #[.val (.ref a1), .val (.int p2)] [(.ref a1), (.int p2)])
  refine Goes.of (AI.arraylength X0 hx hZ e0 V_a1 (j := nb) (hnb) (g := (mkF m 2 #[.val (.ref a1), .val (.int p2)] [(.ref a1), (.int p2)])) rfl rfl (hb hby d8_2)) ?_
  show Goes p e below KK s₁ (mkF m 3 #[.val (.ref a1), .val (.int p2)] [(.int nb), (.int p2)])
  obtain ⟨_, _, ⟨T11, L11, k11, n11⟩, -, X11, ⟨Lc11, hQ11, l11, y11, z11⟩, st11⟩ := Jvm.LawKit.callS X0 hx (y := (⟨"java/lang/String", "checkIndex", "(II)V"⟩ : MethodName)) hown (mvT hZ w_46) (mvT hZ w_47) (mvT hZ w_1) (mvT hZ w_48) (by decide) (backOf (W := 0) (rm9 l Z a0 hw [] p2 nb fm h0 n0 Z0 Sf hp1 hp2 hfm) hZ w_48 w_1 (by decide) (by decide)) (g := (mkF m 3 #[.val (.ref a1), .val (.int p2)] [(.int nb), (.int p2)])) rfl (by rw [hml]; rfl) (argsL := [(.int p2), (.int nb)]) (rest := []) (lenOf pd_9 rfl) rfl (by show 2 * 0 + _ ≤ _; exact Nat.le_of_eq rfl) (hb hby d8_3) (fun _ _ => ⟨rfl, e0, (by decide : 0 + 0 ≤ _), (by decide : 0 + 0 ≤ _)⟩)
  dsimp only [Pt.U, Pt.locs, Pt.cells, Pt.slots] at X11 l11 y11 z11 st11 hQ11
  subst y11 z11
  obtain ⟨rfl, N11q, e11⟩ := hQ11
  have N11 : Fr n0 L11 := by rw [l11]; exact Fr.app N0 N11q
  refine Goes.of st11 ?_
  show Goes p e below KK T11 (mkF m 6 #[.val (.ref a1), .val (.int p2)] [])
  refine Goes.of (fun t => XS.aloadN X11.here hx rfl (hb hby d8_6) rfl rfl) ?_
  show Goes p e below KK T11 (mkF m 7 #[.val (.ref a1), .val (.int p2)] [(.ref a1)])
  refine Goes.of (fun t => XS.iloadN X11.here hx rfl (hb hby d8_7) rfl) ?_
  show Goes p e below KK T11 (mkF m 8 #[.val (.ref a1), .val (.int p2)] [(.int p2), (.ref a1)])
  refine Goes.of (AI.baload X11 hx hZ e11 V_a1 (i := i) (j := p2) (x := y) (hi) (hy) (g := (mkF m 8 #[.val (.ref a1), .val (.int p2)] [(.int p2), (.ref a1)])) rfl rfl (hb hby d8_8)) ?_
  show Goes p e below KK T11 (mkF m 9 #[.val (.ref a1), .val (.int p2)] [(.int y)])
  refine Goes.of (fun t => XS.sipush X11.here hx rfl (hb hby d8_9)) ?_
  show Goes p e below KK T11 (mkF m 12 #[.val (.ref a1), .val (.int p2)] [(.int (255 : Int32)), (.int y)])
  refine Goes.of (fun t => XS.iand X11.here hx rfl (hb hby d8_12) rfl) ?_
  show Goes p e below KK T11 (mkF m 13 #[.val (.ref a1), .val (.int p2)] [(.int (y &&& (255 : Int32)))])
  refine Goes.of (fun t => XT.i2c X11.here hx rfl (hb hby d8_13) rfl) ?_
  show Goes p e below KK T11 (mkF m 14 #[.val (.ref a1), .val (.int p2)] [(.int ((y &&& (255 : Int32)).toUInt32.toUInt16.toUInt32.toInt32))])
  rw [← hKK]
  refine Goes.retNar X11 hx hlk (t := .char) (by simp) Bd.returns (hb hby d8_14) ?_ (by decide) (by decide)
  rw [e11]
  exact ⟨by rw [own_chr hyb.1 hyb.2], N11, rfl⟩
theorem d6_0 : decode jdk_42_method_56_code 0 = .ok (.aload_n 0, 1) := by decide +kernel
theorem d6_1 : decode jdk_42_method_56_code 1 = .ok (.invokevirtual 492, 3) := by decide +kernel
theorem d6_4 : decode jdk_42_method_56_code 4 = .ok (.ifCond .eq 12, 3) := by decide +kernel
theorem d6_7 : decode jdk_42_method_56_code 7 = .ok (.aload_n 0, 1) := by decide +kernel
theorem d6_8 : decode jdk_42_method_56_code 8 = .ok (.getfield 9, 3) := by decide +kernel
theorem d6_11 : decode jdk_42_method_56_code 11 = .ok (.iload_n 1, 1) := by decide +kernel
theorem d6_12 : decode jdk_42_method_56_code 12 = .ok (.invokestatic 495, 3) := by decide +kernel
theorem d6_15 : decode jdk_42_method_56_code 15 = .ok (.ireturn, 1) := by decide +kernel
theorem d6_16 : decode jdk_42_method_56_code 16 = .ok (.aload_n 0, 1) := by decide +kernel
theorem d6_17 : decode jdk_42_method_56_code 17 = .ok (.getfield 9, 3) := by decide +kernel
theorem d6_20 : decode jdk_42_method_56_code 20 = .ok (.iload_n 1, 1) := by decide +kernel
theorem d6_21 : decode jdk_42_method_56_code 21 = .ok (.invokestatic 498, 3) := by decide +kernel
theorem d6_24 : decode jdk_42_method_56_code 24 = .ok (.ireturn, 1) := by decide +kernel
theorem pn_6 : plainFor (⟨"java/lang/String", "charAt", "(I)C"⟩ : MethodName) = true := plainFor_of_name (by first | (simp [plainName, overriddenIn]; done) | decide +kernel)
theorem pd_11 : parseMethodDescriptor "()Z" = some ⟨[], some .boolean⟩ := by decide +kernel
theorem pd_12 : parseMethodDescriptor "([BI)C" = some ⟨[(.array .byte), .int], some .char⟩ := by decide +kernel
theorem ef_6 (m : MethodId) (x0 : Addr) (x1 : Int32) : entryFrame m #[(.ref x0), (.int x1)] 2 = mkF m 0 #[.val (.ref x0), .val (.int x1)] [] := by first | (simp [entryFrame, mkF, argsToLocals, Value.category]; done) | rfl
def Q6 (Z : State) (a1 : Addr) (p2 : Int32) (b1 : Addr) (bs : List Int32) (nb : Int32) (cz : Int32) (i : Nat) (y : Int32) (fm : Value) (h0 : Heap) (n0 : Nat) (v : Option Value) (h : Heap) (L : List Loc) : Prop := v = some (.int y) ∧ Fr n0 L ∧ h = h0
set_option maxRecDepth 65536 in
set_option maxHeartbeats 40000000 in
theorem rm6 (l : Launch) (Z : State) (a0 : Array Value) (hw : ∀ d ∈ tables_1, d.before a0 Z = true) (ws : List Jvm.Cond) (a1 : Addr) (p2 : Int32) (b1 : Addr) (bs : List Int32) (nb : Int32) (cz : Int32) (i : Nat) (y : Int32) (fm : Value) (h0 : Heap) (n0 : Nat) (Z0 : n0 ≤ h0.size) (E1 : Exa Z h0 a1 "java/lang/String") (C1 : Fld Z h0 a1 "java/lang/String" "coder" "B" (.int (0 : Int32))) (W1v : Fld Z h0 a1 "java/lang/String" "value" "[B" (.ref b1)) (V1 : AI Z h0 b1 .byte bs) (hnb : nb.toInt = (bs.length : Int)) (Scs : Sta Z h0 "java/lang/String" "COMPACT_STRINGS" "Z" (.int cz)) (hcz : ¬ cz = 0) (Sf : Sta Z h0 "jdk/internal/util/Preconditions" "SIOOBE_FORMATTER" "Ljava/util/function/BiFunction;" fm) (hp1 : ¬ p2 < 0) (hp2 : p2 < nb) (hfm : fm.isRef = true) (hi : p2.toInt = (i : Int)) (hy : bs[i]? = some y) (hyb : 0 ≤ y.toInt ∧ y.toInt < 128) :
    MetFree l (⟨"java/lang/String", "charAt", "(I)C"⟩ : MethodName) (head1 (Jvm.Cond.code (⟨"java/lang/String", "charAt", "(I)C"⟩ : MethodName) jdk_42_method_56_code 2 (some .char) :: ws) ({ frames := 3, cells := 0, slots := 0, locals := 40 } : Room)) (fun a U => a = #[(.ref a1), (.int p2)] ∧ Z.Warmed39 U.vm ∧ U.heap = h0) (fun _ _ _ _ _ => True) (fun _ U o U' => ∃ v L, o = .returned v ∧ Q6 Z a1 p2 b1 bs nb cz i y fm h0 n0 v U'.heap L ∧ FrameEnd U o U' L ({ frames := 3, cells := 0, slots := 0, locals := 40 } : Room).cells ({ frames := 3, cells := 0, slots := 0, locals := 40 } : Room).slots) := by
  refine MetFree.of_bodySF pn_6 hisR ?_
  intro p e s m args below meth c s₁ Bd hml0 hP hK
  obtain ⟨rfl, hZ, hh⟩ := hP
  have hx := Bd.exec
  have hby := Bd.bytes
  have hml : c.maxLocals = 2 := hml0
  have hown : s.vm.findClass "java/lang/String" = some m.cls := findClass_of_methodNamed Bd.named
  have hnm := (name_of_methodNamed Bd.named Bd.method).1
  have hlk : meth.locks = false := BodyLoose.notSynchronized Bd
  have X0 : Stand p l e ({ frames := 3, cells := 0, slots := 0, locals := 40 } : Room) s m #[(.ref a1), (.int p2)] below meth c s₁ [] 0 0 := Stand.of_body Bd
  have e0 : s₁.heap = h0 := by rw [← hh, Bd.state]; rfl
  have N0 := Fr.nil n0
  show Goes p e below (OwnK s (Q6 Z a1 p2 b1 bs nb cz i y fm h0 n0) ({ frames := 3, cells := 0, slots := 0, locals := 40 } : Room).cells ({ frames := 3, cells := 0, slots := 0, locals := 40 } : Room).slots) s₁ (entryFrame m #[(.ref a1), (.int p2)] 2)
  refine Goes.cast (ef_6 m a1 p2) ?_
  generalize hKK : OwnK s (Q6 Z a1 p2 b1 bs nb cz i y fm h0 n0) ({ frames := 3, cells := 0, slots := 0, locals := 40 } : Room).cells ({ frames := 3, cells := 0, slots := 0, locals := 40 } : Room).slots = KK
  show Goes p e below KK s₁ (mkF m 0 #[.val (.ref a1), .val (.int p2)] [])
  have w_1 := hw _ (List.mem_of_getElem? (i := 1) rfl)
  have w_24 := hw _ (List.mem_of_getElem? (i := 24) rfl)
  have w_37 := hw _ (List.mem_of_getElem? (i := 37) rfl)
  have w_38 := hw _ (List.mem_of_getElem? (i := 38) rfl)
  have w_39 := hw _ (List.mem_of_getElem? (i := 39) rfl)
  have w_40 := hw _ (List.mem_of_getElem? (i := 40) rfl)
  have w_41 := hw _ (List.mem_of_getElem? (i := 41) rfl)
  have w_42 := hw _ (List.mem_of_getElem? (i := 42) rfl)
  have w_43 := hw _ (List.mem_of_getElem? (i := 43) rfl)
  have w_44 := hw _ (List.mem_of_getElem? (i := 44) rfl)
  have w_45 := hw _ (List.mem_of_getElem? (i := 45) rfl)
  refine Goes.of (fun t => XS.aloadN X0.here hx rfl (hb hby d6_0) rfl rfl) ?_
  show Goes p e below KK s₁ (mkF m 1 #[.val (.ref a1), .val (.int p2)] [(.ref a1)])
  obtain ⟨cq12, kq12, q12a, q12b, q12c⟩ := isOf hZ e0 E1
  obtain ⟨_, _, ⟨T12, L12, k12, n12⟩, -, X12, ⟨Lc12, hQ12, l12, y12, z12⟩, st12⟩ := X0.virtualBack hx (y := (⟨"java/lang/String", "isLatin1", "()Z"⟩ : MethodName)) (z := (⟨"java/lang/String", "isLatin1", "()Z"⟩ : MethodName)) hown (mvT hZ w_37) (mvT hZ w_38) (notFace_of_selects (args := #[]) (mvT hZ w_40)) (mvT hZ w_40) (mvT hZ w_39) (by decide) (backOf (W := 0) (rm7 l Z a0 hw [] a1 cz h0 n0 Z0 C1 Scs hcz) hZ w_41 w_1 (by decide) (by decide)) q12a q12c (g := (mkF m 1 #[.val (.ref a1), .val (.int p2)] [(.ref a1)])) rfl (by rw [hml]; rfl) (Steps.refl _) (argsL := []) (rest := []) (lenOf pd_11 rfl) rfl (by show 2 * 0 + _ ≤ _; exact Nat.le_of_eq rfl) (hb hby d6_1) (fun _ _ => ⟨rfl, e0, (by decide : 0 + 0 ≤ _), (by decide : 0 + 0 ≤ _)⟩)
  dsimp only [Pt.U, Pt.locs, Pt.cells, Pt.slots] at X12 l12 y12 z12 st12 hQ12
  subst y12 z12
  obtain ⟨rfl, N12q, e12⟩ := hQ12
  have N12 : Fr n0 L12 := by rw [l12]; exact Fr.app N0 N12q
  refine Goes.tr st12 ?_
  show Goes p e below KK T12 (mkF m 4 #[.val (.ref a1), .val (.int p2)] [(.int (1 : Int32))])
  refine Goes.of (fun t => XS.ifNo X12.here hx rfl (hb hby d6_4) rfl ((if0 _ _).trans (feq (show ¬ ((1 : Int32) = (0 : Int32)) from by decide)).1)) ?_
  show Goes p e below KK T12 (mkF m 7 #[.val (.ref a1), .val (.int p2)] [])
  refine Goes.of (fun t => XS.aloadN X12.here hx rfl (hb hby d6_7) rfl rfl) ?_
  show Goes p e below KK T12 (mkF m 8 #[.val (.ref a1), .val (.int p2)] [(.ref a1)])
  obtain ⟨T13, X13, e13, st13⟩ := getF X12 hx hZ hown (host := "") (Or.inl w_24) Via.refl e12 W1v (g := (mkF m 8 #[.val (.ref a1), .val (.int p2)] [(.ref a1)])) rfl rfl (hb hby d6_8)
  refine Goes.of (st13) ?_
  show Goes p e below KK T13 (mkF m 11 #[.val (.ref a1), .val (.int p2)] [(.ref b1)])
  refine Goes.of (fun t => XS.iloadN X13.here hx rfl (hb hby d6_11) rfl) ?_
  show Goes p e below KK T13 (mkF m 12 #[.val (.ref a1), .val (.int p2)] [(.int p2), (.ref b1)])
  obtain ⟨_, _, ⟨T14, L14, k14, n14⟩, -, X14, ⟨Lc14, hQ14, l14, y14, z14⟩, st14⟩ := Jvm.LawKit.callS X13 hx (y := (⟨"java/lang/StringLatin1", "charAt", "([BI)C"⟩ : MethodName)) hown (mvT hZ w_42) (mvT hZ w_43) (mvT hZ w_44) (mvT hZ w_45) (by decide) (backOf (W := 0) (rm8 l Z a0 hw [] b1 p2 bs nb i y fm h0 n0 Z0 V1 hnb Sf hp1 hp2 hfm hi hy hyb) hZ w_45 w_44 (by decide) (by decide)) (g := (mkF m 12 #[.val (.ref a1), .val (.int p2)] [(.int p2), (.ref b1)])) rfl (by rw [hml]; rfl) (argsL := [(.ref b1), (.int p2)]) (rest := []) (lenOf pd_12 rfl) rfl (by show 2 * 0 + _ ≤ _; exact Nat.le_of_eq rfl) (hb hby d6_12) (fun _ _ => ⟨rfl, e13, (by decide : 0 + 0 ≤ _), (by decide : 0 + 0 ≤ _)⟩)
  dsimp only [Pt.U, Pt.locs, Pt.cells, Pt.slots] at X14 l14 y14 z14 st14 hQ14
  subst y14 z14
  obtain ⟨rfl, N14q, e14⟩ := hQ14
  have N14 : Fr n0 L14 := by rw [l14]; exact Fr.app N12 N14q
  refine Goes.of st14 ?_
  show Goes p e below KK T14 (mkF m 15 #[.val (.ref a1), .val (.int p2)] [(.int y)])
  rw [← hKK]
  refine Goes.retNar X14 hx hlk (t := .char) (by simp) Bd.returns (hb hby d6_15) ?_ (by decide) (by decide)
  rw [e14]
  exact ⟨by rw [own_narc hyb.1 (by omega)], N14, rfl⟩
theorem d3_0 : decode method_2_code 0 = .ok (.iload_n 2, 1) := by decide +kernel
theorem d3_1 : decode method_2_code 1 = .ok (.ifCond .eq 11, 3) := by decide +kernel
theorem d3_4 : decode method_2_code 4 = .ok (.iload_n 0, 1) := by decide +kernel
theorem d3_5 : decode method_2_code 5 = .ok (.iload_n 3, 1) := by decide +kernel
theorem d3_6 : decode method_2_code 6 = .ok (.if_icmp .ne 6, 3) := by decide +kernel
theorem d3_9 : decode method_2_code 9 = .ok (.iload 4, 2) := by decide +kernel
theorem d3_11 : decode method_2_code 11 = .ok (.ireturn, 1) := by decide +kernel
theorem d3_12 : decode method_2_code 12 = .ok (.iload_n 0, 1) := by decide +kernel
theorem d3_13 : decode method_2_code 13 = .ok (.aload_n 1, 1) := by decide +kernel
theorem d3_14 : decode method_2_code 14 = .ok (.invokevirtual 7, 3) := by decide +kernel
theorem d3_17 : decode method_2_code 17 = .ok (.if_icmp .ge 9, 3) := by decide +kernel
theorem d3_20 : decode method_2_code 20 = .ok (.aload_n 1, 1) := by decide +kernel
theorem d3_21 : decode method_2_code 21 = .ok (.iload_n 0, 1) := by decide +kernel
theorem d3_22 : decode method_2_code 22 = .ok (.invokevirtual 13, 3) := by decide +kernel
theorem d3_25 : decode method_2_code 25 = .ok (.ireturn, 1) := by decide +kernel
theorem d3_26 : decode method_2_code 26 = .ok (.iload 5, 2) := by decide +kernel
theorem d3_28 : decode method_2_code 28 = .ok (.ireturn, 1) := by decide +kernel
theorem pn_3 : plainFor (⟨"com/example/warrant/warrant/cli/PolicyFilesNamesPinLaw", "at", "(ILjava/lang/String;ZICC)C"⟩ : MethodName) = true := plainFor_of_name (by first | (simp [plainName, overriddenIn]; done) | decide +kernel)
theorem pd_14 : parseMethodDescriptor "()I" = some ⟨[], some .int⟩ := by decide +kernel
theorem pd_15 : parseMethodDescriptor "(I)C" = some ⟨[.int], some .char⟩ := by decide +kernel
theorem ef_3 (m : MethodId) (x0 : Int32) (x1 : Addr) (x2 : Int32) (x3 : Int32) (x4 : Int32) (x5 : Int32) : entryFrame m #[(.int x0), (.ref x1), (.int x2), (.int x3), (.int x4), (.int x5)] 6 = mkF m 0 #[.val (.int x0), .val (.ref x1), .val (.int x2), .val (.int x3), .val (.int x4), .val (.int x5)] [] := by first | (simp [entryFrame, mkF, argsToLocals, Value.category]; done) | rfl
def Q3 (Z : State) (p1 : Int32) (a2 : Addr) (p3 : Int32) (p4 : Int32) (p5 : Int32) (p6 : Int32) (b2 : Addr) (bs : List Int32) (nb : Int32) (cz : Int32) (fm : Value) (i : Nat) (h0 : Heap) (n0 : Nat) (v : Option Value) (h : Heap) (L : List Loc) : Prop := v = some (.int (atF bs i p3 p4 p5 p6)) ∧ Fr n0 L ∧ h = h0
set_option maxRecDepth 65536 in
set_option maxHeartbeats 40000000 in
theorem rm3 (l : Launch) (Z : State) (a0 : Array Value) (hw : ∀ d ∈ tables_1, d.before a0 Z = true) (ws : List Jvm.Cond) (p1 : Int32) (a2 : Addr) (p3 : Int32) (p4 : Int32) (p5 : Int32) (p6 : Int32) (b2 : Addr) (bs : List Int32) (nb : Int32) (cz : Int32) (fm : Value) (i : Nat) (h0 : Heap) (n0 : Nat) (Z0 : n0 ≤ h0.size) (E2 : Exa Z h0 a2 "java/lang/String") (C2 : Fld Z h0 a2 "java/lang/String" "coder" "B" (.int (0 : Int32))) (W2v : Fld Z h0 a2 "java/lang/String" "value" "[B" (.ref b2)) (V2 : AI Z h0 b2 .byte bs) (hnb : nb.toInt = (bs.length : Int)) (Scs : Sta Z h0 "java/lang/String" "COMPACT_STRINGS" "Z" (.int cz)) (hcz : ¬ cz = 0) (Sf : Sta Z h0 "jdk/internal/util/Preconditions" "SIOOBE_FORMATTER" "Ljava/util/function/BiFunction;" fm) (hfm : fm.isRef = true) (hbs : Asc bs) (hd : 0 ≤ p5.toInt ∧ p5.toInt ≤ 255) (hf : 0 ≤ p6.toInt ∧ p6.toInt ≤ 255) (hi : p1.toInt = (i : Int)) :
    MetFree l (⟨"com/example/warrant/warrant/cli/PolicyFilesNamesPinLaw", "at", "(ILjava/lang/String;ZICC)C"⟩ : MethodName) (head1 (Jvm.Cond.code (⟨"com/example/warrant/warrant/cli/PolicyFilesNamesPinLaw", "at", "(ILjava/lang/String;ZICC)C"⟩ : MethodName) method_2_code 6 (some .char) :: ws) ({ frames := 4, cells := 0, slots := 0, locals := 53 } : Room)) (fun a U => a = #[(.int p1), (.ref a2), (.int p3), (.int p4), (.int p5), (.int p6)] ∧ Z.Warmed39 U.vm ∧ U.heap = h0) (fun _ _ _ _ _ => True) (fun _ U o U' => ∃ v L, o = .returned v ∧ Q3 Z p1 a2 p3 p4 p5 p6 b2 bs nb cz fm i h0 n0 v U'.heap L ∧ FrameEnd U o U' L ({ frames := 4, cells := 0, slots := 0, locals := 53 } : Room).cells ({ frames := 4, cells := 0, slots := 0, locals := 53 } : Room).slots) := by
  refine MetFree.of_bodySF pn_3 hisR ?_
  intro p e s m args below meth c s₁ Bd hml0 hP hK
  obtain ⟨rfl, hZ, hh⟩ := hP
  have hx := Bd.exec
  have hby := Bd.bytes
  have hml : c.maxLocals = 6 := hml0
  have hown : s.vm.findClass "com/example/warrant/warrant/cli/PolicyFilesNamesPinLaw" = some m.cls := findClass_of_methodNamed Bd.named
  have hnm := (name_of_methodNamed Bd.named Bd.method).1
  have hlk : meth.locks = false := BodyLoose.notSynchronized Bd
  have X0 : Stand p l e ({ frames := 4, cells := 0, slots := 0, locals := 53 } : Room) s m #[(.int p1), (.ref a2), (.int p3), (.int p4), (.int p5), (.int p6)] below meth c s₁ [] 0 0 := Stand.of_body Bd
  have e0 : s₁.heap = h0 := by rw [← hh, Bd.state]; rfl
  have N0 := Fr.nil n0
  show Goes p e below (OwnK s (Q3 Z p1 a2 p3 p4 p5 p6 b2 bs nb cz fm i h0 n0) ({ frames := 4, cells := 0, slots := 0, locals := 53 } : Room).cells ({ frames := 4, cells := 0, slots := 0, locals := 53 } : Room).slots) s₁ (entryFrame m #[(.int p1), (.ref a2), (.int p3), (.int p4), (.int p5), (.int p6)] 6)
  refine Goes.cast (ef_3 m p1 a2 p3 p4 p5 p6) ?_
  generalize hKK : OwnK s (Q3 Z p1 a2 p3 p4 p5 p6 b2 bs nb cz fm i h0 n0) ({ frames := 4, cells := 0, slots := 0, locals := 53 } : Room).cells ({ frames := 4, cells := 0, slots := 0, locals := 53 } : Room).slots = KK
  show Goes p e below KK s₁ (mkF m 0 #[.val (.int p1), .val (.ref a2), .val (.int p3), .val (.int p4), .val (.int p5), .val (.int p6)] [])
  have w_1 := hw _ (List.mem_of_getElem? (i := 1) rfl)
  have w_19 := hw _ (List.mem_of_getElem? (i := 19) rfl)
  have w_20 := hw _ (List.mem_of_getElem? (i := 20) rfl)
  have w_21 := hw _ (List.mem_of_getElem? (i := 21) rfl)
  have w_22 := hw _ (List.mem_of_getElem? (i := 22) rfl)
  have w_23 := hw _ (List.mem_of_getElem? (i := 23) rfl)
  have w_32 := hw _ (List.mem_of_getElem? (i := 32) rfl)
  have w_33 := hw _ (List.mem_of_getElem? (i := 33) rfl)
  have w_34 := hw _ (List.mem_of_getElem? (i := 34) rfl)
  have w_35 := hw _ (List.mem_of_getElem? (i := 35) rfl)
  have w_36 := hw _ (List.mem_of_getElem? (i := 36) rfl)
  refine Goes.of (fun t => XS.iloadN X0.here hx rfl (hb hby d3_0) rfl) ?_
  show Goes p e below KK s₁ (mkF m 1 #[.val (.int p1), .val (.ref a2), .val (.int p3), .val (.int p4), .val (.int p5), .val (.int p6)] [(.int p3)])
  by_cases hc1 : p3 = (0 : Int32)
  · refine Goes.of (fun t => XS.ifYes X0.here hx rfl (pc0 := 1) (pc' := 12) rfl (hb hby d3_1) rfl ((if0 _ _).trans (teq hc1).1) (by decide) (by decide)) ?_
    show Goes p e below KK s₁ (mkF m 12 #[.val (.int p1), .val (.ref a2), .val (.int p3), .val (.int p4), .val (.int p5), .val (.int p6)] [])
    refine Goes.of (fun t => XS.iloadN X0.here hx rfl (hb hby d3_12) rfl) ?_
    show Goes p e below KK s₁ (mkF m 13 #[.val (.int p1), .val (.ref a2), .val (.int p3), .val (.int p4), .val (.int p5), .val (.int p6)] [(.int p1)])
    refine Goes.of (fun t => XS.aloadN X0.here hx rfl (hb hby d3_13) rfl rfl) ?_
    show Goes p e below KK s₁ (mkF m 14 #[.val (.int p1), .val (.ref a2), .val (.int p3), .val (.int p4), .val (.int p5), .val (.int p6)] [(.ref a2), (.int p1)])
    obtain ⟨cq15, kq15, q15a, q15b, q15c⟩ := isOf hZ e0 E2
    obtain ⟨_, _, ⟨T15, L15, k15, n15⟩, -, X15, ⟨Lc15, hQ15, l15, y15, z15⟩, st15⟩ := X0.virtualBack hx (y := (⟨"java/lang/String", "length", "()I"⟩ : MethodName)) (z := (⟨"java/lang/String", "length", "()I"⟩ : MethodName)) hown (mvT hZ w_19) (mvT hZ w_20) (notFace_of_selects (args := #[]) (mvT hZ w_22)) (mvT hZ w_22) (mvT hZ w_21) (by decide) (backOf (W := 1) (rm4 l Z a0 hw [] a2 b2 bs nb cz h0 n0 Z0 E2 C2 W2v V2 (hnb) Scs hcz) hZ w_23 w_1 (by decide) (by decide)) q15a q15c (g := (mkF m 14 #[.val (.int p1), .val (.ref a2), .val (.int p3), .val (.int p4), .val (.int p5), .val (.int p6)] [(.ref a2), (.int p1)])) rfl (by rw [hml]; rfl) (Steps.refl _) (argsL := []) (rest := [(.int p1)]) (lenOf pd_14 rfl) rfl (by show 2 * 0 + _ ≤ _; exact Nat.le_of_eq rfl) (hb hby d3_14) (fun _ _ => ⟨rfl, e0, (by decide : 0 + 0 ≤ _), (by decide : 0 + 0 ≤ _)⟩)
    dsimp only [Pt.U, Pt.locs, Pt.cells, Pt.slots] at X15 l15 y15 z15 st15 hQ15
    subst y15 z15
    obtain ⟨rfl, N15q, e15⟩ := hQ15
    have N15 : Fr n0 L15 := by rw [l15]; exact Fr.app N0 N15q
    refine Goes.tr st15 ?_
    show Goes p e below KK T15 (mkF m 17 #[.val (.int p1), .val (.ref a2), .val (.int p3), .val (.int p4), .val (.int p5), .val (.int p6)] [(.int nb), (.int p1)])
    by_cases hc17 : p1 < nb
    · refine Goes.of (fun t => XS.icmpNo X15.here hx rfl (hb hby d3_17) rfl (tlt hc17).2.1) ?_
      show Goes p e below KK T15 (mkF m 20 #[.val (.int p1), .val (.ref a2), .val (.int p3), .val (.int p4), .val (.int p5), .val (.int p6)] [])
      refine Goes.of (fun t => XS.aloadN X15.here hx rfl (hb hby d3_20) rfl rfl) ?_
      show Goes p e below KK T15 (mkF m 21 #[.val (.int p1), .val (.ref a2), .val (.int p3), .val (.int p4), .val (.int p5), .val (.int p6)] [(.ref a2)])
      refine Goes.of (fun t => XS.iloadN X15.here hx rfl (hb hby d3_21) rfl) ?_
      show Goes p e below KK T15 (mkF m 22 #[.val (.int p1), .val (.ref a2), .val (.int p3), .val (.int p4), .val (.int p5), .val (.int p6)] [(.int p1), (.ref a2)])
      obtain ⟨y, hy⟩ : ∃ y, bs[i]? = some y := ⟨_, List.getElem?_eq_getElem (by have q := hc17; rw [Int32.lt_iff_toInt_lt, hi, hnb] at q; omega)⟩
      have hyb := hbs y (List.mem_of_getElem? hy)
      obtain ⟨cq16, kq16, q16a, q16b, q16c⟩ := isOf hZ e15 E2
      obtain ⟨_, _, ⟨T16, L16, k16, n16⟩, -, X16, ⟨Lc16, hQ16, l16, y16, z16⟩, st16⟩ := X15.virtualBack hx (y := (⟨"java/lang/String", "charAt", "(I)C"⟩ : MethodName)) (z := (⟨"java/lang/String", "charAt", "(I)C"⟩ : MethodName)) hown (mvT hZ w_32) (mvT hZ w_33) (notFace_of_selects (args := #[]) (mvT hZ w_35)) (mvT hZ w_35) (mvT hZ w_34) (by decide) (backOf (W := 0) (rm6 l Z a0 hw [] a2 p1 b2 bs nb cz i y fm h0 n0 Z0 E2 C2 W2v V2 (hnb) Scs hcz Sf (fun q => by rw [Int32.lt_iff_toInt_lt, hi] at q; have z : (0 : Int32).toInt = 0 := rfl; omega) hc17 hfm hi hy hyb) hZ w_36 w_1 (by decide) (by decide)) q16a q16c (g := (mkF m 22 #[.val (.int p1), .val (.ref a2), .val (.int p3), .val (.int p4), .val (.int p5), .val (.int p6)] [(.int p1), (.ref a2)])) rfl (by rw [hml]; rfl) (Steps.refl _) (argsL := [(.int p1)]) (rest := []) (lenOf pd_15 rfl) rfl (by show 2 * 0 + _ ≤ _; exact Nat.le_of_eq rfl) (hb hby d3_22) (fun _ _ => ⟨rfl, e15, (by decide : 0 + 0 ≤ _), (by decide : 0 + 0 ≤ _)⟩)
      dsimp only [Pt.U, Pt.locs, Pt.cells, Pt.slots] at X16 l16 y16 z16 st16 hQ16
      subst y16 z16
      obtain ⟨rfl, N16q, e16⟩ := hQ16
      have N16 : Fr n0 L16 := by rw [l16]; exact Fr.app N15 N16q
      refine Goes.tr st16 ?_
      show Goes p e below KK T16 (mkF m 25 #[.val (.int p1), .val (.ref a2), .val (.int p3), .val (.int p4), .val (.int p5), .val (.int p6)] [(.int y)])
      rw [← hKK]
      refine Goes.retNar X16 hx hlk (t := .char) (by simp) Bd.returns (hb hby d3_25) ?_ (by decide) (by decide)
      rw [e16]
      exact ⟨by rw [own_narc hyb.1 (by omega)]; unfold atF; rw [if_neg (fun q => q.1 hc1), hy]; rfl, N16, rfl⟩
    · refine Goes.of (fun t => XS.icmpYes X15.here hx rfl (pc0 := 17) (pc' := 26) rfl (hb hby d3_17) rfl (flt hc17).2.1 (by decide) (by decide)) ?_
      show Goes p e below KK T15 (mkF m 26 #[.val (.int p1), .val (.ref a2), .val (.int p3), .val (.int p4), .val (.int p5), .val (.int p6)] [])
      refine Goes.of (fun t => XS.iload X15.here hx rfl (hb hby d3_26) rfl) ?_
      show Goes p e below KK T15 (mkF m 28 #[.val (.int p1), .val (.ref a2), .val (.int p3), .val (.int p4), .val (.int p5), .val (.int p6)] [(.int p6)])
      rw [← hKK]
      refine Goes.retNar X15 hx hlk (t := .char) (by simp) Bd.returns (hb hby d3_28) ?_ (by decide) (by decide)
      rw [e15]
      exact ⟨by rw [own_narc hf.1 hf.2]; unfold atF; rw [if_neg (fun q => q.1 hc1), List.getElem?_eq_none (by rw [Int32.lt_iff_toInt_lt, hi, hnb] at hc17; omega)]; rfl, N15, rfl⟩
  · refine Goes.of (fun t => XS.ifNo X0.here hx rfl (hb hby d3_1) rfl ((if0 _ _).trans (feq hc1).1)) ?_
    show Goes p e below KK s₁ (mkF m 4 #[.val (.int p1), .val (.ref a2), .val (.int p3), .val (.int p4), .val (.int p5), .val (.int p6)] [])
    refine Goes.of (fun t => XS.iloadN X0.here hx rfl (hb hby d3_4) rfl) ?_
    show Goes p e below KK s₁ (mkF m 5 #[.val (.int p1), .val (.ref a2), .val (.int p3), .val (.int p4), .val (.int p5), .val (.int p6)] [(.int p1)])
    refine Goes.of (fun t => XS.iloadN X0.here hx rfl (hb hby d3_5) rfl) ?_
    show Goes p e below KK s₁ (mkF m 6 #[.val (.int p1), .val (.ref a2), .val (.int p3), .val (.int p4), .val (.int p5), .val (.int p6)] [(.int p4), (.int p1)])
    by_cases hc6 : p1 = p4
    · refine Goes.of (fun t => XS.icmpNo X0.here hx rfl (hb hby d3_6) rfl (teq hc6).2) ?_
      show Goes p e below KK s₁ (mkF m 9 #[.val (.int p1), .val (.ref a2), .val (.int p3), .val (.int p4), .val (.int p5), .val (.int p6)] [])
      refine Goes.of (fun t => XS.iload X0.here hx rfl (hb hby d3_9) rfl) ?_
      show Goes p e below KK s₁ (mkF m 11 #[.val (.int p1), .val (.ref a2), .val (.int p3), .val (.int p4), .val (.int p5), .val (.int p6)] [(.int p5)])
      rw [← hKK]
      refine Goes.retNar X0 hx hlk (t := .char) (by simp) Bd.returns (hb hby d3_11) ?_ (by decide) (by decide)
      rw [e0]
      exact ⟨by rw [own_narc hd.1 hd.2]; unfold atF; rw [if_pos ⟨hc1, by rw [← hi, hc6]⟩], N0, rfl⟩
    · refine Goes.of (fun t => XS.icmpYes X0.here hx rfl (pc0 := 6) (pc' := 12) rfl (hb hby d3_6) rfl (feq hc6).2 (by decide) (by decide)) ?_
      show Goes p e below KK s₁ (mkF m 12 #[.val (.int p1), .val (.ref a2), .val (.int p3), .val (.int p4), .val (.int p5), .val (.int p6)] [])
      refine Goes.of (fun t => XS.iloadN X0.here hx rfl (hb hby d3_12) rfl) ?_
      show Goes p e below KK s₁ (mkF m 13 #[.val (.int p1), .val (.ref a2), .val (.int p3), .val (.int p4), .val (.int p5), .val (.int p6)] [(.int p1)])
      refine Goes.of (fun t => XS.aloadN X0.here hx rfl (hb hby d3_13) rfl rfl) ?_
      show Goes p e below KK s₁ (mkF m 14 #[.val (.int p1), .val (.ref a2), .val (.int p3), .val (.int p4), .val (.int p5), .val (.int p6)] [(.ref a2), (.int p1)])
      obtain ⟨cq17, kq17, q17a, q17b, q17c⟩ := isOf hZ e0 E2
      obtain ⟨_, _, ⟨T17, L17, k17, n17⟩, -, X17, ⟨Lc17, hQ17, l17, y17, z17⟩, st17⟩ := X0.virtualBack hx (y := (⟨"java/lang/String", "length", "()I"⟩ : MethodName)) (z := (⟨"java/lang/String", "length", "()I"⟩ : MethodName)) hown (mvT hZ w_19) (mvT hZ w_20) (notFace_of_selects (args := #[]) (mvT hZ w_22)) (mvT hZ w_22) (mvT hZ w_21) (by decide) (backOf (W := 1) (rm4 l Z a0 hw [] a2 b2 bs nb cz h0 n0 Z0 E2 C2 W2v V2 (hnb) Scs hcz) hZ w_23 w_1 (by decide) (by decide)) q17a q17c (g := (mkF m 14 #[.val (.int p1), .val (.ref a2), .val (.int p3), .val (.int p4), .val (.int p5), .val (.int p6)] [(.ref a2), (.int p1)])) rfl (by rw [hml]; rfl) (Steps.refl _) (argsL := []) (rest := [(.int p1)]) (lenOf pd_14 rfl) rfl (by show 2 * 0 + _ ≤ _; exact Nat.le_of_eq rfl) (hb hby d3_14) (fun _ _ => ⟨rfl, e0, (by decide : 0 + 0 ≤ _), (by decide : 0 + 0 ≤ _)⟩)
      dsimp only [Pt.U, Pt.locs, Pt.cells, Pt.slots] at X17 l17 y17 z17 st17 hQ17
      subst y17 z17
      obtain ⟨rfl, N17q, e17⟩ := hQ17
      have N17 : Fr n0 L17 := by rw [l17]; exact Fr.app N0 N17q
      refine Goes.tr st17 ?_
      show Goes p e below KK T17 (mkF m 17 #[.val (.int p1), .val (.ref a2), .val (.int p3), .val (.int p4), .val (.int p5), .val (.int p6)] [(.int nb), (.int p1)])
      by_cases hc17_2 : p1 < nb
      · refine Goes.of (fun t => XS.icmpNo X17.here hx rfl (hb hby d3_17) rfl (tlt hc17_2).2.1) ?_
        show Goes p e below KK T17 (mkF m 20 #[.val (.int p1), .val (.ref a2), .val (.int p3), .val (.int p4), .val (.int p5), .val (.int p6)] [])
        refine Goes.of (fun t => XS.aloadN X17.here hx rfl (hb hby d3_20) rfl rfl) ?_
        show Goes p e below KK T17 (mkF m 21 #[.val (.int p1), .val (.ref a2), .val (.int p3), .val (.int p4), .val (.int p5), .val (.int p6)] [(.ref a2)])
        refine Goes.of (fun t => XS.iloadN X17.here hx rfl (hb hby d3_21) rfl) ?_
        show Goes p e below KK T17 (mkF m 22 #[.val (.int p1), .val (.ref a2), .val (.int p3), .val (.int p4), .val (.int p5), .val (.int p6)] [(.int p1), (.ref a2)])
        obtain ⟨y, hy⟩ : ∃ y, bs[i]? = some y := ⟨_, List.getElem?_eq_getElem (by have q := hc17_2; rw [Int32.lt_iff_toInt_lt, hi, hnb] at q; omega)⟩
        have hyb := hbs y (List.mem_of_getElem? hy)
        obtain ⟨cq18, kq18, q18a, q18b, q18c⟩ := isOf hZ e17 E2
        obtain ⟨_, _, ⟨T18, L18, k18, n18⟩, -, X18, ⟨Lc18, hQ18, l18, y18, z18⟩, st18⟩ := X17.virtualBack hx (y := (⟨"java/lang/String", "charAt", "(I)C"⟩ : MethodName)) (z := (⟨"java/lang/String", "charAt", "(I)C"⟩ : MethodName)) hown (mvT hZ w_32) (mvT hZ w_33) (notFace_of_selects (args := #[]) (mvT hZ w_35)) (mvT hZ w_35) (mvT hZ w_34) (by decide) (backOf (W := 0) (rm6 l Z a0 hw [] a2 p1 b2 bs nb cz i y fm h0 n0 Z0 E2 C2 W2v V2 (hnb) Scs hcz Sf (fun q => by rw [Int32.lt_iff_toInt_lt, hi] at q; have z : (0 : Int32).toInt = 0 := rfl; omega) hc17_2 hfm hi hy hyb) hZ w_36 w_1 (by decide) (by decide)) q18a q18c (g := (mkF m 22 #[.val (.int p1), .val (.ref a2), .val (.int p3), .val (.int p4), .val (.int p5), .val (.int p6)] [(.int p1), (.ref a2)])) rfl (by rw [hml]; rfl) (Steps.refl _) (argsL := [(.int p1)]) (rest := []) (lenOf pd_15 rfl) rfl (by show 2 * 0 + _ ≤ _; exact Nat.le_of_eq rfl) (hb hby d3_22) (fun _ _ => ⟨rfl, e17, (by decide : 0 + 0 ≤ _), (by decide : 0 + 0 ≤ _)⟩)
        dsimp only [Pt.U, Pt.locs, Pt.cells, Pt.slots] at X18 l18 y18 z18 st18 hQ18
        subst y18 z18
        obtain ⟨rfl, N18q, e18⟩ := hQ18
        have N18 : Fr n0 L18 := by rw [l18]; exact Fr.app N17 N18q
        refine Goes.tr st18 ?_
        show Goes p e below KK T18 (mkF m 25 #[.val (.int p1), .val (.ref a2), .val (.int p3), .val (.int p4), .val (.int p5), .val (.int p6)] [(.int y)])
        rw [← hKK]
        refine Goes.retNar X18 hx hlk (t := .char) (by simp) Bd.returns (hb hby d3_25) ?_ (by decide) (by decide)
        rw [e18]
        exact ⟨by rw [own_narc hyb.1 (by omega)]; unfold atF; rw [if_neg (fun q => hc6 (Int32.toInt_inj.mp (by rw [hi]; exact q.2))), hy]; rfl, N18, rfl⟩
      · refine Goes.of (fun t => XS.icmpYes X17.here hx rfl (pc0 := 17) (pc' := 26) rfl (hb hby d3_17) rfl (flt hc17_2).2.1 (by decide) (by decide)) ?_
        show Goes p e below KK T17 (mkF m 26 #[.val (.int p1), .val (.ref a2), .val (.int p3), .val (.int p4), .val (.int p5), .val (.int p6)] [])
        refine Goes.of (fun t => XS.iload X17.here hx rfl (hb hby d3_26) rfl) ?_
        show Goes p e below KK T17 (mkF m 28 #[.val (.int p1), .val (.ref a2), .val (.int p3), .val (.int p4), .val (.int p5), .val (.int p6)] [(.int p6)])
        rw [← hKK]
        refine Goes.retNar X17 hx hlk (t := .char) (by simp) Bd.returns (hb hby d3_28) ?_ (by decide) (by decide)
        rw [e17]
        exact ⟨by rw [own_narc hf.1 hf.2]; unfold atF; rw [if_neg (fun q => hc6 (Int32.toInt_inj.mp (by rw [hi]; exact q.2))), List.getElem?_eq_none (by rw [Int32.lt_iff_toInt_lt, hi, hnb] at hc17_2; omega)]; rfl, N17, rfl⟩
theorem d15_0 : decode jdk_52_method_21_code 0 = .ok (.iconst 0, 1) := by decide +kernel
theorem d15_1 : decode jdk_52_method_21_code 1 = .ok (.istore 5, 2) := by decide +kernel
theorem d15_3 : decode jdk_52_method_21_code 3 = .ok (.iload 5, 2) := by decide +kernel
theorem d15_5 : decode jdk_52_method_21_code 5 = .ok (.iload 4, 2) := by decide +kernel
theorem d15_7 : decode jdk_52_method_21_code 7 = .ok (.if_icmp .ge 37, 3) := by decide +kernel
theorem d15_10 : decode jdk_52_method_21_code 10 = .ok (.aload_n 0, 1) := by decide +kernel
theorem d15_11 : decode jdk_52_method_21_code 11 = .ok (.iload_n 1, 1) := by decide +kernel
theorem d15_12 : decode jdk_52_method_21_code 12 = .ok (.caload, 1) := by decide +kernel
theorem d15_13 : decode jdk_52_method_21_code 13 = .ok (.istore 6, 2) := by decide +kernel
theorem d15_15 : decode jdk_52_method_21_code 15 = .ok (.iload 6, 2) := by decide +kernel
theorem d15_17 : decode jdk_52_method_21_code 17 = .ok (.sipush 255, 3) := by decide +kernel
theorem d15_20 : decode jdk_52_method_21_code 20 = .ok (.if_icmp .le 6, 3) := by decide +kernel
theorem d15_23 : decode jdk_52_method_21_code 23 = .ok (.iload 5, 2) := by decide +kernel
theorem d15_25 : decode jdk_52_method_21_code 25 = .ok (.ireturn, 1) := by decide +kernel
theorem d15_26 : decode jdk_52_method_21_code 26 = .ok (.aload_n 2, 1) := by decide +kernel
theorem d15_27 : decode jdk_52_method_21_code 27 = .ok (.iload_n 3, 1) := by decide +kernel
theorem d15_28 : decode jdk_52_method_21_code 28 = .ok (.iload 6, 2) := by decide +kernel
theorem d15_30 : decode jdk_52_method_21_code 30 = .ok (.i2b, 1) := by decide +kernel
theorem d15_31 : decode jdk_52_method_21_code 31 = .ok (.bastore, 1) := by decide +kernel
theorem d15_32 : decode jdk_52_method_21_code 32 = .ok (.iinc 1 1, 3) := by decide +kernel
theorem d15_35 : decode jdk_52_method_21_code 35 = .ok (.iinc 3 1, 3) := by decide +kernel
theorem d15_38 : decode jdk_52_method_21_code 38 = .ok (.iinc 5 1, 3) := by decide +kernel
theorem d15_41 : decode jdk_52_method_21_code 41 = .ok (.goto (-38), 3) := by decide +kernel
theorem d15_44 : decode jdk_52_method_21_code 44 = .ok (.iload 4, 2) := by decide +kernel
theorem d15_46 : decode jdk_52_method_21_code 46 = .ok (.ireturn, 1) := by decide +kernel
theorem pn_15 : plainFor (⟨"java/lang/StringUTF16", "compress", "([CI[BII)I"⟩ : MethodName) = true := plainFor_of_name (by first | (simp [plainName, overriddenIn]; done) | decide +kernel)
theorem ef_15 (m : MethodId) (x0 : Addr) (x1 : Int32) (x2 : Addr) (x3 : Int32) (x4 : Int32) : entryFrame m #[(.ref x0), (.int x1), (.ref x2), (.int x3), (.int x4)] 7 = mkF m 0 #[.val (.ref x0), .val (.int x1), .val (.ref x2), .val (.int x3), .val (.int x4), .unset, .unset] [] := by first | (simp [entryFrame, mkF, argsToLocals, Value.category]; done) | rfl
def Q15 (Z : State) (a1 : Addr) (a3 : Addr) (p5 : Int32) (cs : List Int32) (ys0 : List Int32) (h0 : Heap) (n0 : Nat) (v : Option Value) (h : Heap) (L : List Loc) : Prop := v = some (.int p5) ∧ Fr n0 L ∧ Keep h0 h [a3] ∧ AI Z h a3 .byte (cs.map gB)
set_option maxRecDepth 65536 in
set_option maxHeartbeats 40000000 in
theorem rm15 (l : Launch) (Z : State) (a0 : Array Value) (hw : ∀ d ∈ tables_1, d.before a0 Z = true) (ws : List Jvm.Cond) (a1 : Addr) (a3 : Addr) (p5 : Int32) (cs : List Int32) (ys0 : List Int32) (h0 : Heap) (n0 : Nat) (Z0 : n0 ≤ h0.size) (V_a1 : AI Z h0 a1 .char cs) (V_a3 : AI Z h0 a3 .byte ys0) (hn : p5.toInt = (cs.length : Int)) (hyl : ys0.length = cs.length) (hlt : cs.length ≤ 12) (hcs : ∀ c ∈ cs, c.toInt ≤ 255) (g_a3 : n0 ≤ a3) (hne : a1 ≠ a3) :
    MetFree l (⟨"java/lang/StringUTF16", "compress", "([CI[BII)I"⟩ : MethodName) (head1 (Jvm.Cond.code (⟨"java/lang/StringUTF16", "compress", "([CI[BII)I"⟩ : MethodName) jdk_52_method_21_code 7 (some .int) :: ws) ({ frames := 0, cells := 0, slots := 0, locals := 0 } : Room)) (fun a U => a = #[(.ref a1), (.int (0 : Int32)), (.ref a3), (.int (0 : Int32)), (.int p5)] ∧ Z.Warmed39 U.vm ∧ U.heap = h0) (fun _ _ _ _ _ => True) (fun _ U o U' => ∃ v L, o = .returned v ∧ Q15 Z a1 a3 p5 cs ys0 h0 n0 v U'.heap L ∧ FrameEnd U o U' L ({ frames := 0, cells := 0, slots := 0, locals := 0 } : Room).cells ({ frames := 0, cells := 0, slots := 0, locals := 0 } : Room).slots) := by
  refine MetFree.of_bodySF pn_15 hisR ?_
  intro p e s m args below meth c s₁ Bd hml0 hP hK
  obtain ⟨rfl, hZ, hh⟩ := hP
  have hx := Bd.exec
  have hby := Bd.bytes
  have hml : c.maxLocals = 7 := hml0
  have hown : s.vm.findClass "java/lang/StringUTF16" = some m.cls := findClass_of_methodNamed Bd.named
  have hnm := (name_of_methodNamed Bd.named Bd.method).1
  have hlk : meth.locks = false := BodyLoose.notSynchronized Bd
  have X0 : Stand p l e ({ frames := 0, cells := 0, slots := 0, locals := 0 } : Room) s m #[(.ref a1), (.int (0 : Int32)), (.ref a3), (.int (0 : Int32)), (.int p5)] below meth c s₁ [] 0 0 := Stand.of_body Bd
  have e0 : s₁.heap = h0 := by rw [← hh, Bd.state]; rfl
  have N0 := Fr.nil n0
  show Goes p e below (OwnK s (Q15 Z a1 a3 p5 cs ys0 h0 n0) ({ frames := 0, cells := 0, slots := 0, locals := 0 } : Room).cells ({ frames := 0, cells := 0, slots := 0, locals := 0 } : Room).slots) s₁ (entryFrame m #[(.ref a1), (.int (0 : Int32)), (.ref a3), (.int (0 : Int32)), (.int p5)] 7)
  refine Goes.cast (ef_15 m a1 (0 : Int32) a3 (0 : Int32) p5) ?_
  generalize hKK : OwnK s (Q15 Z a1 a3 p5 cs ys0 h0 n0) ({ frames := 0, cells := 0, slots := 0, locals := 0 } : Room).cells ({ frames := 0, cells := 0, slots := 0, locals := 0 } : Room).slots = KK
  show Goes p e below KK s₁ (mkF m 0 #[.val (.ref a1), .val (.int (0 : Int32)), .val (.ref a3), .val (.int (0 : Int32)), .val (.int p5), .unset, .unset] [])
  refine Goes.of (fun t => XS.iconst X0.here hx rfl (hb hby d15_0)) ?_
  show Goes p e below KK s₁ (mkF m 1 #[.val (.ref a1), .val (.int (0 : Int32)), .val (.ref a3), .val (.int (0 : Int32)), .val (.int p5), .unset, .unset] [(.int (0 : Int32))])
  refine Goes.of (fun t => XS.istore X0.here hx rfl (hb hby d15_1) rfl (l' := #[.val (.ref a1), .val (.int (0 : Int32)), .val (.ref a3), .val (.int (0 : Int32)), .val (.int p5), .val (.int (0 : Int32)), .unset]) rfl) ?_
  show Goes p e below KK s₁ (mkF m 3 #[.val (.ref a1), .val (.int (0 : Int32)), .val (.ref a3), .val (.int (0 : Int32)), .val (.int p5), .val (.int (0 : Int32)), .unset] [])
  have lp : ∀ (d i : Nat) (zi : Int32) (s6 : Slot) (ys : List Int32) (Tl : State) (hl : Heap) (Ll : List Loc), (s6 = .unset ∨ ∃ z, s6 = .val (.int z)) → zi.toInt = (i : Int) → i + d = cs.length → Stand p l e ({ frames := 0, cells := 0, slots := 0, locals := 0 } : Room) s m #[(.ref a1), (.int (0 : Int32)), (.ref a3), (.int (0 : Int32)), (.int p5)] below meth c Tl Ll 0 0 → Tl.heap = hl → AI Z hl a1 .char cs → AI Z hl a3 .byte ys → ys.length = cs.length → (∀ j, j < i → ys[j]? = (cs[j]?).map gB) → Keep h0 hl [a3] → n0 ≤ hl.size → Fr n0 Ll → Goes p e below KK Tl (mkF m 3 #[.val (.ref a1), .val (.int zi), .val (.ref a3), .val (.int zi), .val (.int p5), .val (.int zi), s6] []) := by
    intro d
    induction d with
    | zero =>
      intro i zi s6 ys Tl hl Ll hs6 hzi hid Xl el Vc Vd hyl hpre Kl Zl Nl
      refine Goes.of (fun t => XS.iload Xl.here hx rfl (hb hby d15_3) rfl) ?_
      show Goes p e below KK Tl (mkF m 5 #[.val (.ref a1), .val (.int zi), .val (.ref a3), .val (.int zi), .val (.int p5), .val (.int zi), s6] [(.int zi)])
      refine Goes.of (fun t => XS.iload Xl.here hx rfl (hb hby d15_5) rfl) ?_
      show Goes p e below KK Tl (mkF m 7 #[.val (.ref a1), .val (.int zi), .val (.ref a3), .val (.int zi), .val (.int p5), .val (.int zi), s6] [(.int p5), (.int zi)])
      refine Goes.of (fun t => XS.icmpYes Xl.here hx rfl (pc0 := 7) (pc' := 44) rfl (hb hby d15_7) rfl (flt (show ¬ (zi < p5) from fun q => by rw [Int32.lt_iff_toInt_lt, hzi, hn] at q; omega)).2.1 (by decide) (by decide)) ?_
      show Goes p e below KK Tl (mkF m 44 #[.val (.ref a1), .val (.int zi), .val (.ref a3), .val (.int zi), .val (.int p5), .val (.int zi), s6] [])
      refine Goes.of (fun t => XS.iload Xl.here hx rfl (hb hby d15_44) rfl) ?_
      show Goes p e below KK Tl (mkF m 46 #[.val (.ref a1), .val (.int zi), .val (.ref a3), .val (.int zi), .val (.int p5), .val (.int zi), s6] [(.int p5)])
      rw [← hKK]
      refine Goes.retInt Xl hx hlk Bd.returns (hb hby d15_46) ?_ (by decide) (by decide)
      rw [el]
      exact ⟨rfl, Nl, Kl, by rw [show cs.map gB = ys from List.ext_getElem? fun j => by
                rcases Nat.lt_or_ge j cs.length with q | q
                · rw [List.getElem?_map]; exact (hpre j (by omega)).symm
                · rw [List.getElem?_eq_none (by simpa using q), List.getElem?_eq_none (by omega)]]; exact Vd⟩
    | succ d ih =>
      intro i zi s6 ys Tl hl Ll hs6 hzi hid Xl el Vc Vd hyl hpre Kl Zl Nl
      obtain ⟨ch, hch⟩ : ∃ y, cs[i]? = some y := ⟨_, List.getElem?_eq_getElem (by omega)⟩
      have hcb := hcs ch (List.mem_of_getElem? hch)
      rcases hs6 with rfl | ⟨z6, rfl⟩
      · show Goes p e below KK Tl (mkF m 3 #[.val (.ref a1), .val (.int zi), .val (.ref a3), .val (.int zi), .val (.int p5), .val (.int zi), .unset] [])
        refine Goes.of (fun t => XS.iload Xl.here hx rfl (hb hby d15_3) rfl) ?_
        show Goes p e below KK Tl (mkF m 5 #[.val (.ref a1), .val (.int zi), .val (.ref a3), .val (.int zi), .val (.int p5), .val (.int zi), .unset] [(.int zi)])
        refine Goes.of (fun t => XS.iload Xl.here hx rfl (hb hby d15_5) rfl) ?_
        show Goes p e below KK Tl (mkF m 7 #[.val (.ref a1), .val (.int zi), .val (.ref a3), .val (.int zi), .val (.int p5), .val (.int zi), .unset] [(.int p5), (.int zi)])
        refine Goes.of (fun t => XS.icmpNo Xl.here hx rfl (hb hby d15_7) rfl (tlt (show zi < p5 from by rw [Int32.lt_iff_toInt_lt, hzi, hn]; omega)).2.1) ?_
        show Goes p e below KK Tl (mkF m 10 #[.val (.ref a1), .val (.int zi), .val (.ref a3), .val (.int zi), .val (.int p5), .val (.int zi), .unset] [])
        refine Goes.of (fun t => XS.aloadN Xl.here hx rfl (hb hby d15_10) rfl rfl) ?_
        show Goes p e below KK Tl (mkF m 11 #[.val (.ref a1), .val (.int zi), .val (.ref a3), .val (.int zi), .val (.int p5), .val (.int zi), .unset] [(.ref a1)])
        refine Goes.of (fun t => XS.iloadN Xl.here hx rfl (hb hby d15_11) rfl) ?_
        show Goes p e below KK Tl (mkF m 12 #[.val (.ref a1), .val (.int zi), .val (.ref a3), .val (.int zi), .val (.int p5), .val (.int zi), .unset] [(.int zi), (.ref a1)])
        refine Goes.of (AI.caload Xl hx hZ el Vc (i := i) (j := zi) (x := ch) (hzi) (hch) (g := (mkF m 12 #[.val (.ref a1), .val (.int zi), .val (.ref a3), .val (.int zi), .val (.int p5), .val (.int zi), .unset] [(.int zi), (.ref a1)])) rfl rfl (hb hby d15_12)) ?_
        show Goes p e below KK Tl (mkF m 13 #[.val (.ref a1), .val (.int zi), .val (.ref a3), .val (.int zi), .val (.int p5), .val (.int zi), .unset] [(.int ch)])
        refine Goes.of (fun t => XS.istore Xl.here hx rfl (hb hby d15_13) rfl (l' := #[.val (.ref a1), .val (.int zi), .val (.ref a3), .val (.int zi), .val (.int p5), .val (.int zi), .val (.int ch)]) rfl) ?_
        show Goes p e below KK Tl (mkF m 15 #[.val (.ref a1), .val (.int zi), .val (.ref a3), .val (.int zi), .val (.int p5), .val (.int zi), .val (.int ch)] [])
        refine Goes.of (fun t => XS.iload Xl.here hx rfl (hb hby d15_15) rfl) ?_
        show Goes p e below KK Tl (mkF m 17 #[.val (.ref a1), .val (.int zi), .val (.ref a3), .val (.int zi), .val (.int p5), .val (.int zi), .val (.int ch)] [(.int ch)])
        refine Goes.of (fun t => XS.sipush Xl.here hx rfl (hb hby d15_17)) ?_
        show Goes p e below KK Tl (mkF m 20 #[.val (.ref a1), .val (.int zi), .val (.ref a3), .val (.int zi), .val (.int p5), .val (.int zi), .val (.int ch)] [(.int (255 : Int32)), (.int ch)])
        refine Goes.of (fun t => XS.icmpYes Xl.here hx rfl (pc0 := 20) (pc' := 26) rfl (hb hby d15_20) rfl (flt (show ¬ ((255 : Int32) < ch) from fun q => by rw [Int32.lt_iff_toInt_lt] at q; have z : (255 : Int32).toInt = 255 := rfl; omega)).2.2.2 (by decide) (by decide)) ?_
        show Goes p e below KK Tl (mkF m 26 #[.val (.ref a1), .val (.int zi), .val (.ref a3), .val (.int zi), .val (.int p5), .val (.int zi), .val (.int ch)] [])
        refine Goes.of (fun t => XS.aloadN Xl.here hx rfl (hb hby d15_26) rfl rfl) ?_
        show Goes p e below KK Tl (mkF m 27 #[.val (.ref a1), .val (.int zi), .val (.ref a3), .val (.int zi), .val (.int p5), .val (.int zi), .val (.int ch)] [(.ref a3)])
        refine Goes.of (fun t => XS.iloadN Xl.here hx rfl (hb hby d15_27) rfl) ?_
        show Goes p e below KK Tl (mkF m 28 #[.val (.ref a1), .val (.int zi), .val (.ref a3), .val (.int zi), .val (.int p5), .val (.int zi), .val (.int ch)] [(.int zi), (.ref a3)])
        refine Goes.of (fun t => XS.iload Xl.here hx rfl (hb hby d15_28) rfl) ?_
        show Goes p e below KK Tl (mkF m 30 #[.val (.ref a1), .val (.int zi), .val (.ref a3), .val (.int zi), .val (.int p5), .val (.int zi), .val (.int ch)] [(.int ch), (.int zi), (.ref a3)])
        refine Goes.of (fun t => XT.i2b Xl.here hx rfl (hb hby d15_30) rfl) ?_
        show Goes p e below KK Tl (mkF m 31 #[.val (.ref a1), .val (.int zi), .val (.ref a3), .val (.int zi), .val (.int p5), .val (.int zi), .val (.int ch)] [(.int (ch.toInt8.toInt32)), (.int zi), (.ref a3)])
        obtain ⟨T19, h19, X19, e19, W19, V19, st19⟩ := AI.bastore Xl hx hZ el Vd (i := i) (j := zi) (hzi) (by omega) (g := (mkF m 31 #[.val (.ref a1), .val (.int zi), .val (.ref a3), .val (.int zi), .val (.int p5), .val (.int zi), .val (.int ch)] [(.int (ch.toInt8.toInt32)), (.int zi), (.ref a3)])) rfl rfl (hb hby d15_31)
        refine Goes.of (st19) ?_
        have Vc_19 : AI Z h19 a1 .char cs := Vc.other W19 hne
        have K19 : Keep h0 h19 [a3] := Kl.wr W19 (Or.inl (List.mem_of_getElem? (i := 0) rfl))
        have Z19 : n0 ≤ h19.size := Nat.le_trans Zl (Keep.of_wr W19).1
        have N19 := Fr.snoc X19 Nl g_a3
        have V_a3_19 : AI Z h19 a3 .byte (ys.set i (nar .byte (ch.toInt8.toInt32))) := V19
        show Goes p e below KK T19 (mkF m 32 #[.val (.ref a1), .val (.int zi), .val (.ref a3), .val (.int zi), .val (.int p5), .val (.int zi), .val (.int ch)] [])
        refine Goes.of (fun t => XS.iinc X19.here hx rfl (hb hby d15_32) rfl (l' := #[.val (.ref a1), .val (.int (zi + (1 : Int32))), .val (.ref a3), .val (.int zi), .val (.int p5), .val (.int zi), .val (.int ch)]) rfl) ?_
        show Goes p e below KK T19 (mkF m 35 #[.val (.ref a1), .val (.int (zi + (1 : Int32))), .val (.ref a3), .val (.int zi), .val (.int p5), .val (.int zi), .val (.int ch)] [])
        refine Goes.of (fun t => XS.iinc X19.here hx rfl (hb hby d15_35) rfl (l' := #[.val (.ref a1), .val (.int (zi + (1 : Int32))), .val (.ref a3), .val (.int (zi + (1 : Int32))), .val (.int p5), .val (.int zi), .val (.int ch)]) rfl) ?_
        show Goes p e below KK T19 (mkF m 38 #[.val (.ref a1), .val (.int (zi + (1 : Int32))), .val (.ref a3), .val (.int (zi + (1 : Int32))), .val (.int p5), .val (.int zi), .val (.int ch)] [])
        refine Goes.of (fun t => XS.iinc X19.here hx rfl (hb hby d15_38) rfl (l' := #[.val (.ref a1), .val (.int (zi + (1 : Int32))), .val (.ref a3), .val (.int (zi + (1 : Int32))), .val (.int p5), .val (.int (zi + (1 : Int32))), .val (.int ch)]) rfl) ?_
        show Goes p e below KK T19 (mkF m 41 #[.val (.ref a1), .val (.int (zi + (1 : Int32))), .val (.ref a3), .val (.int (zi + (1 : Int32))), .val (.int p5), .val (.int (zi + (1 : Int32))), .val (.int ch)] [])
        refine Goes.of (fun t => XS.goto X19.here hx rfl (pc0 := 41) (pc' := 3) rfl (hb hby d15_41) (by decide) (by decide)) ?_
        show Goes p e below KK T19 (mkF m 3 #[.val (.ref a1), .val (.int (zi + (1 : Int32))), .val (.ref a3), .val (.int (zi + (1 : Int32))), .val (.int p5), .val (.int (zi + (1 : Int32))), .val (.int ch)] [])
        refine ih (i + 1) _ _ _ _ _ _ (Or.inr ⟨_, rfl⟩) ?_ (by omega) X19 e19 Vc_19 V_a3_19 (by rw [List.length_set]; exact hyl) (fun j q => ?_) K19 Z19 N19
        · have q1 : (1 : Int32).toInt = 1 := rfl
          rw [Jvm.Kit.i32_add (by omega) (by omega), hzi, q1]; rfl
        · rcases Nat.lt_or_ge j i with q1 | q1
          · rw [List.getElem?_set_ne (by omega)]; exact hpre j q1
          · obtain rfl : j = i := by omega
            rw [List.getElem?_set_self (by omega), hch]; rfl
      · show Goes p e below KK Tl (mkF m 3 #[.val (.ref a1), .val (.int zi), .val (.ref a3), .val (.int zi), .val (.int p5), .val (.int zi), .val (.int z6)] [])
        refine Goes.of (fun t => XS.iload Xl.here hx rfl (hb hby d15_3) rfl) ?_
        show Goes p e below KK Tl (mkF m 5 #[.val (.ref a1), .val (.int zi), .val (.ref a3), .val (.int zi), .val (.int p5), .val (.int zi), .val (.int z6)] [(.int zi)])
        refine Goes.of (fun t => XS.iload Xl.here hx rfl (hb hby d15_5) rfl) ?_
        show Goes p e below KK Tl (mkF m 7 #[.val (.ref a1), .val (.int zi), .val (.ref a3), .val (.int zi), .val (.int p5), .val (.int zi), .val (.int z6)] [(.int p5), (.int zi)])
        refine Goes.of (fun t => XS.icmpNo Xl.here hx rfl (hb hby d15_7) rfl (tlt (show zi < p5 from by rw [Int32.lt_iff_toInt_lt, hzi, hn]; omega)).2.1) ?_
        show Goes p e below KK Tl (mkF m 10 #[.val (.ref a1), .val (.int zi), .val (.ref a3), .val (.int zi), .val (.int p5), .val (.int zi), .val (.int z6)] [])
        refine Goes.of (fun t => XS.aloadN Xl.here hx rfl (hb hby d15_10) rfl rfl) ?_
        show Goes p e below KK Tl (mkF m 11 #[.val (.ref a1), .val (.int zi), .val (.ref a3), .val (.int zi), .val (.int p5), .val (.int zi), .val (.int z6)] [(.ref a1)])
        refine Goes.of (fun t => XS.iloadN Xl.here hx rfl (hb hby d15_11) rfl) ?_
        show Goes p e below KK Tl (mkF m 12 #[.val (.ref a1), .val (.int zi), .val (.ref a3), .val (.int zi), .val (.int p5), .val (.int zi), .val (.int z6)] [(.int zi), (.ref a1)])
        refine Goes.of (AI.caload Xl hx hZ el Vc (i := i) (j := zi) (x := ch) (hzi) (hch) (g := (mkF m 12 #[.val (.ref a1), .val (.int zi), .val (.ref a3), .val (.int zi), .val (.int p5), .val (.int zi), .val (.int z6)] [(.int zi), (.ref a1)])) rfl rfl (hb hby d15_12)) ?_
        show Goes p e below KK Tl (mkF m 13 #[.val (.ref a1), .val (.int zi), .val (.ref a3), .val (.int zi), .val (.int p5), .val (.int zi), .val (.int z6)] [(.int ch)])
        refine Goes.of (fun t => XS.istore Xl.here hx rfl (hb hby d15_13) rfl (l' := #[.val (.ref a1), .val (.int zi), .val (.ref a3), .val (.int zi), .val (.int p5), .val (.int zi), .val (.int ch)]) rfl) ?_
        show Goes p e below KK Tl (mkF m 15 #[.val (.ref a1), .val (.int zi), .val (.ref a3), .val (.int zi), .val (.int p5), .val (.int zi), .val (.int ch)] [])
        refine Goes.of (fun t => XS.iload Xl.here hx rfl (hb hby d15_15) rfl) ?_
        show Goes p e below KK Tl (mkF m 17 #[.val (.ref a1), .val (.int zi), .val (.ref a3), .val (.int zi), .val (.int p5), .val (.int zi), .val (.int ch)] [(.int ch)])
        refine Goes.of (fun t => XS.sipush Xl.here hx rfl (hb hby d15_17)) ?_
        show Goes p e below KK Tl (mkF m 20 #[.val (.ref a1), .val (.int zi), .val (.ref a3), .val (.int zi), .val (.int p5), .val (.int zi), .val (.int ch)] [(.int (255 : Int32)), (.int ch)])
        refine Goes.of (fun t => XS.icmpYes Xl.here hx rfl (pc0 := 20) (pc' := 26) rfl (hb hby d15_20) rfl (flt (show ¬ ((255 : Int32) < ch) from fun q => by rw [Int32.lt_iff_toInt_lt] at q; have z : (255 : Int32).toInt = 255 := rfl; omega)).2.2.2 (by decide) (by decide)) ?_
        show Goes p e below KK Tl (mkF m 26 #[.val (.ref a1), .val (.int zi), .val (.ref a3), .val (.int zi), .val (.int p5), .val (.int zi), .val (.int ch)] [])
        refine Goes.of (fun t => XS.aloadN Xl.here hx rfl (hb hby d15_26) rfl rfl) ?_
        show Goes p e below KK Tl (mkF m 27 #[.val (.ref a1), .val (.int zi), .val (.ref a3), .val (.int zi), .val (.int p5), .val (.int zi), .val (.int ch)] [(.ref a3)])
        refine Goes.of (fun t => XS.iloadN Xl.here hx rfl (hb hby d15_27) rfl) ?_
        show Goes p e below KK Tl (mkF m 28 #[.val (.ref a1), .val (.int zi), .val (.ref a3), .val (.int zi), .val (.int p5), .val (.int zi), .val (.int ch)] [(.int zi), (.ref a3)])
        refine Goes.of (fun t => XS.iload Xl.here hx rfl (hb hby d15_28) rfl) ?_
        show Goes p e below KK Tl (mkF m 30 #[.val (.ref a1), .val (.int zi), .val (.ref a3), .val (.int zi), .val (.int p5), .val (.int zi), .val (.int ch)] [(.int ch), (.int zi), (.ref a3)])
        refine Goes.of (fun t => XT.i2b Xl.here hx rfl (hb hby d15_30) rfl) ?_
        show Goes p e below KK Tl (mkF m 31 #[.val (.ref a1), .val (.int zi), .val (.ref a3), .val (.int zi), .val (.int p5), .val (.int zi), .val (.int ch)] [(.int (ch.toInt8.toInt32)), (.int zi), (.ref a3)])
        obtain ⟨T20, h20, X20, e20, W20, V20, st20⟩ := AI.bastore Xl hx hZ el Vd (i := i) (j := zi) (hzi) (by omega) (g := (mkF m 31 #[.val (.ref a1), .val (.int zi), .val (.ref a3), .val (.int zi), .val (.int p5), .val (.int zi), .val (.int ch)] [(.int (ch.toInt8.toInt32)), (.int zi), (.ref a3)])) rfl rfl (hb hby d15_31)
        refine Goes.of (st20) ?_
        have Vc_20 : AI Z h20 a1 .char cs := Vc.other W20 hne
        have K20 : Keep h0 h20 [a3] := Kl.wr W20 (Or.inl (List.mem_of_getElem? (i := 0) rfl))
        have Z20 : n0 ≤ h20.size := Nat.le_trans Zl (Keep.of_wr W20).1
        have N20 := Fr.snoc X20 Nl g_a3
        have V_a3_20 : AI Z h20 a3 .byte (ys.set i (nar .byte (ch.toInt8.toInt32))) := V20
        show Goes p e below KK T20 (mkF m 32 #[.val (.ref a1), .val (.int zi), .val (.ref a3), .val (.int zi), .val (.int p5), .val (.int zi), .val (.int ch)] [])
        refine Goes.of (fun t => XS.iinc X20.here hx rfl (hb hby d15_32) rfl (l' := #[.val (.ref a1), .val (.int (zi + (1 : Int32))), .val (.ref a3), .val (.int zi), .val (.int p5), .val (.int zi), .val (.int ch)]) rfl) ?_
        show Goes p e below KK T20 (mkF m 35 #[.val (.ref a1), .val (.int (zi + (1 : Int32))), .val (.ref a3), .val (.int zi), .val (.int p5), .val (.int zi), .val (.int ch)] [])
        refine Goes.of (fun t => XS.iinc X20.here hx rfl (hb hby d15_35) rfl (l' := #[.val (.ref a1), .val (.int (zi + (1 : Int32))), .val (.ref a3), .val (.int (zi + (1 : Int32))), .val (.int p5), .val (.int zi), .val (.int ch)]) rfl) ?_
        show Goes p e below KK T20 (mkF m 38 #[.val (.ref a1), .val (.int (zi + (1 : Int32))), .val (.ref a3), .val (.int (zi + (1 : Int32))), .val (.int p5), .val (.int zi), .val (.int ch)] [])
        refine Goes.of (fun t => XS.iinc X20.here hx rfl (hb hby d15_38) rfl (l' := #[.val (.ref a1), .val (.int (zi + (1 : Int32))), .val (.ref a3), .val (.int (zi + (1 : Int32))), .val (.int p5), .val (.int (zi + (1 : Int32))), .val (.int ch)]) rfl) ?_
        show Goes p e below KK T20 (mkF m 41 #[.val (.ref a1), .val (.int (zi + (1 : Int32))), .val (.ref a3), .val (.int (zi + (1 : Int32))), .val (.int p5), .val (.int (zi + (1 : Int32))), .val (.int ch)] [])
        refine Goes.of (fun t => XS.goto X20.here hx rfl (pc0 := 41) (pc' := 3) rfl (hb hby d15_41) (by decide) (by decide)) ?_
        show Goes p e below KK T20 (mkF m 3 #[.val (.ref a1), .val (.int (zi + (1 : Int32))), .val (.ref a3), .val (.int (zi + (1 : Int32))), .val (.int p5), .val (.int (zi + (1 : Int32))), .val (.int ch)] [])
        refine ih (i + 1) _ _ _ _ _ _ (Or.inr ⟨_, rfl⟩) ?_ (by omega) X20 e20 Vc_20 V_a3_20 (by rw [List.length_set]; exact hyl) (fun j q => ?_) K20 Z20 N20
        · have q1 : (1 : Int32).toInt = 1 := rfl
          rw [Jvm.Kit.i32_add (by omega) (by omega), hzi, q1]; rfl
        · rcases Nat.lt_or_ge j i with q1 | q1
          · rw [List.getElem?_set_ne (by omega)]; exact hpre j q1
          · obtain rfl : j = i := by omega
            rw [List.getElem?_set_self (by omega), hch]; rfl
  exact lp cs.length 0 0 _ _ _ _ _ (Or.inl rfl) rfl (by omega) X0 e0 V_a1 V_a3 hyl (fun j q => absurd q (Nat.not_lt_zero j)) (Keep.refl h0 [a3]) Z0 N0
theorem d14_0 : decode jdk_52_method_16_code 0 = .ok (.iload_n 2, 1) := by decide +kernel
theorem d14_1 : decode jdk_52_method_16_code 1 = .ok (.newarray .byte, 2) := by decide +kernel
theorem d14_3 : decode jdk_52_method_16_code 3 = .ok (.astore_n 3, 1) := by decide +kernel
theorem d14_4 : decode jdk_52_method_16_code 4 = .ok (.aload_n 0, 1) := by decide +kernel
theorem d14_5 : decode jdk_52_method_16_code 5 = .ok (.iload_n 1, 1) := by decide +kernel
theorem d14_6 : decode jdk_52_method_16_code 6 = .ok (.aload_n 3, 1) := by decide +kernel
theorem d14_7 : decode jdk_52_method_16_code 7 = .ok (.iconst 0, 1) := by decide +kernel
theorem d14_8 : decode jdk_52_method_16_code 8 = .ok (.iload_n 2, 1) := by decide +kernel
theorem d14_9 : decode jdk_52_method_16_code 9 = .ok (.invokestatic 115, 3) := by decide +kernel
theorem d14_12 : decode jdk_52_method_16_code 12 = .ok (.istore 4, 2) := by decide +kernel
theorem d14_14 : decode jdk_52_method_16_code 14 = .ok (.iload 4, 2) := by decide +kernel
theorem d14_16 : decode jdk_52_method_16_code 16 = .ok (.iload_n 2, 1) := by decide +kernel
theorem d14_17 : decode jdk_52_method_16_code 17 = .ok (.if_icmp .eq 40, 3) := by decide +kernel
theorem d14_20 : decode jdk_52_method_16_code 20 = .ok (.aload_n 0, 1) := by decide +kernel
theorem d14_21 : decode jdk_52_method_16_code 21 = .ok (.iload_n 1, 1) := by decide +kernel
theorem d14_22 : decode jdk_52_method_16_code 22 = .ok (.iload_n 2, 1) := by decide +kernel
theorem d14_23 : decode jdk_52_method_16_code 23 = .ok (.invokestatic 119, 3) := by decide +kernel
theorem d14_26 : decode jdk_52_method_16_code 26 = .ok (.astore 5, 2) := by decide +kernel
theorem d14_28 : decode jdk_52_method_16_code 28 = .ok (.aload 5, 2) := by decide +kernel
theorem d14_30 : decode jdk_52_method_16_code 30 = .ok (.iload 4, 2) := by decide +kernel
theorem d14_32 : decode jdk_52_method_16_code 32 = .ok (.invokestatic 71, 3) := by decide +kernel
theorem d14_35 : decode jdk_52_method_16_code 35 = .ok (.sipush 255, 3) := by decide +kernel
theorem d14_38 : decode jdk_52_method_16_code 38 = .ok (.if_icmp .gt 16, 3) := by decide +kernel
theorem d14_41 : decode jdk_52_method_16_code 41 = .ok (.aload 5, 2) := by decide +kernel
theorem d14_43 : decode jdk_52_method_16_code 43 = .ok (.iconst 0, 1) := by decide +kernel
theorem d14_44 : decode jdk_52_method_16_code 44 = .ok (.aload_n 3, 1) := by decide +kernel
theorem d14_45 : decode jdk_52_method_16_code 45 = .ok (.iconst 0, 1) := by decide +kernel
theorem d14_46 : decode jdk_52_method_16_code 46 = .ok (.iload_n 2, 1) := by decide +kernel
theorem d14_47 : decode jdk_52_method_16_code 47 = .ok (.invokestatic 123, 3) := by decide +kernel
theorem d14_50 : decode jdk_52_method_16_code 50 = .ok (.iload_n 2, 1) := by decide +kernel
theorem d14_51 : decode jdk_52_method_16_code 51 = .ok (.if_icmp .eq 6, 3) := by decide +kernel
theorem d14_54 : decode jdk_52_method_16_code 54 = .ok (.aload 5, 2) := by decide +kernel
theorem d14_56 : decode jdk_52_method_16_code 56 = .ok (.areturn, 1) := by decide +kernel
theorem d14_57 : decode jdk_52_method_16_code 57 = .ok (.aload_n 3, 1) := by decide +kernel
theorem d14_58 : decode jdk_52_method_16_code 58 = .ok (.areturn, 1) := by decide +kernel
theorem pn_14 : plainFor (⟨"java/lang/StringUTF16", "compress", "([CII)[B"⟩ : MethodName) = true := plainFor_of_name (by first | (simp [plainName, overriddenIn]; done) | decide +kernel)
theorem pd_18 : parseMethodDescriptor "([CI[BII)I" = some ⟨[(.array .char), .int, (.array .byte), .int, .int], some .int⟩ := by decide +kernel
theorem ef_14 (m : MethodId) (x0 : Addr) (x1 : Int32) (x2 : Int32) : entryFrame m #[(.ref x0), (.int x1), (.int x2)] 6 = mkF m 0 #[.val (.ref x0), .val (.int x1), .val (.int x2), .unset, .unset, .unset] [] := by first | (simp [entryFrame, mkF, argsToLocals, Value.category]; done) | rfl
def Q14 (Z : State) (a1 : Addr) (p3 : Int32) (cs : List Int32) (h0 : Heap) (n0 : Nat) (v : Option Value) (h : Heap) (L : List Loc) : Prop := ∃ b, v = some (.ref b) ∧ Fr n0 L ∧ Keep h0 h [] ∧ h0.size ≤ b ∧ AI Z h b .byte (cs.map gB)
set_option maxRecDepth 65536 in
set_option maxHeartbeats 40000000 in
theorem rm14 (l : Launch) (Z : State) (a0 : Array Value) (hw : ∀ d ∈ tables_1, d.before a0 Z = true) (ws : List Jvm.Cond) (a1 : Addr) (p3 : Int32) (cs : List Int32) (h0 : Heap) (n0 : Nat) (Z0 : n0 ≤ h0.size) (V_a1 : AI Z h0 a1 .char cs) (hn : p3.toInt = (cs.length : Int)) (hlt : cs.length ≤ 12) (hcs : ∀ c ∈ cs, c.toInt ≤ 255) :
    MetFree l (⟨"java/lang/StringUTF16", "compress", "([CII)[B"⟩ : MethodName) (head1 (Jvm.Cond.code (⟨"java/lang/StringUTF16", "compress", "([CII)[B"⟩ : MethodName) jdk_52_method_16_code 6 (some (.array .byte)) :: ws) ({ frames := 1, cells := 1, slots := 12, locals := 18 } : Room)) (fun a U => a = #[(.ref a1), (.int (0 : Int32)), (.int p3)] ∧ Z.Warmed39 U.vm ∧ U.heap = h0) (fun _ _ _ _ _ => True) (fun _ U o U' => ∃ v L, o = .returned v ∧ Q14 Z a1 p3 cs h0 n0 v U'.heap L ∧ FrameEnd U o U' L ({ frames := 1, cells := 1, slots := 12, locals := 18 } : Room).cells ({ frames := 1, cells := 1, slots := 12, locals := 18 } : Room).slots) := by
  refine MetFree.of_bodySF pn_14 hisR ?_
  intro p e s m args below meth c s₁ Bd hml0 hP hK
  obtain ⟨rfl, hZ, hh⟩ := hP
  have hx := Bd.exec
  have hby := Bd.bytes
  have hml : c.maxLocals = 6 := hml0
  have hown : s.vm.findClass "java/lang/StringUTF16" = some m.cls := findClass_of_methodNamed Bd.named
  have hnm := (name_of_methodNamed Bd.named Bd.method).1
  have hlk : meth.locks = false := BodyLoose.notSynchronized Bd
  have X0 : Stand p l e ({ frames := 1, cells := 1, slots := 12, locals := 18 } : Room) s m #[(.ref a1), (.int (0 : Int32)), (.int p3)] below meth c s₁ [] 0 0 := Stand.of_body Bd
  have e0 : s₁.heap = h0 := by rw [← hh, Bd.state]; rfl
  have N0 := Fr.nil n0
  show Goes p e below (OwnK s (Q14 Z a1 p3 cs h0 n0) ({ frames := 1, cells := 1, slots := 12, locals := 18 } : Room).cells ({ frames := 1, cells := 1, slots := 12, locals := 18 } : Room).slots) s₁ (entryFrame m #[(.ref a1), (.int (0 : Int32)), (.int p3)] 6)
  refine Goes.cast (ef_14 m a1 (0 : Int32) p3) ?_
  generalize hKK : OwnK s (Q14 Z a1 p3 cs h0 n0) ({ frames := 1, cells := 1, slots := 12, locals := 18 } : Room).cells ({ frames := 1, cells := 1, slots := 12, locals := 18 } : Room).slots = KK
  show Goes p e below KK s₁ (mkF m 0 #[.val (.ref a1), .val (.int (0 : Int32)), .val (.int p3), .unset, .unset, .unset] [])
  have w_3 := hw _ (List.mem_of_getElem? (i := 3) rfl)
  have w_68 := hw _ (List.mem_of_getElem? (i := 68) rfl)
  have w_70 := hw _ (List.mem_of_getElem? (i := 70) rfl)
  have w_71 := hw _ (List.mem_of_getElem? (i := 71) rfl)
  have w_72 := hw _ (List.mem_of_getElem? (i := 72) rfl)
  refine Goes.of (fun t => XS.iloadN X0.here hx rfl (hb hby d14_0) rfl) ?_
  show Goes p e below KK s₁ (mkF m 1 #[.val (.ref a1), .val (.int (0 : Int32)), .val (.int p3), .unset, .unset, .unset] [(.int p3)])
  obtain ⟨T21, h21, k21, X21, e21, E21, A21, st21⟩ := newP (aty := .byte) X0 hx hZ w_3 e0 (g := (mkF m 1 #[.val (.ref a1), .val (.int (0 : Int32)), .val (.int p3), .unset, .unset, .unset] [(.int p3)])) rfl (hb hby d14_1) rfl (fun q => by rw [Int32.lt_iff_toInt_lt, hn] at q; have z : (0 : Int32).toInt = 0 := rfl; omega) (cap := 12) (by have z : p3.toNatClampNeg = p3.toInt.toNat := rfl; omega) (by decide) (by decide) (by decide)
  obtain ⟨b21, g21⟩ : ∃ z, z = h0.size := ⟨_, rfl⟩
  rw [← g21] at A21 st21
  refine Goes.of (st21) ?_
  have ne_a1_b21 : a1 ≠ b21 := Nat.ne_of_lt (Nat.lt_of_lt_of_le V_a1.lt (Nat.le_of_eq g21.symm))
  have g_b21 : n0 ≤ b21 := Nat.le_trans Z0 (Nat.le_of_eq g21.symm)
  have sz_b21 : h0.size ≤ b21 := Nat.le_trans (Keep.refl h0 []).1 (Nat.le_of_eq g21.symm)
  have V_a1_21 : AI Z h21 a1 .char cs := V_a1.ext E21
  have K21 : Keep h0 h21 [] := (Keep.refl h0 []).ext E21
  have Z21 : n0 ≤ h21.size := Nat.le_trans Z0 E21.1
  have V_b21 : AI Z h21 b21 .byte (List.replicate cs.length (0 : Int32)) := AI.fresh (k := cs.length) (by simp) (hn) A21
  show Goes p e below KK T21 (mkF m 3 #[.val (.ref a1), .val (.int (0 : Int32)), .val (.int p3), .unset, .unset, .unset] [(.ref b21)])
  refine Goes.of (fun t => XS.astoreN X21.here hx rfl (hb hby d14_3) rfl rfl (l' := #[.val (.ref a1), .val (.int (0 : Int32)), .val (.int p3), .val (.ref b21), .unset, .unset]) rfl) ?_
  show Goes p e below KK T21 (mkF m 4 #[.val (.ref a1), .val (.int (0 : Int32)), .val (.int p3), .val (.ref b21), .unset, .unset] [])
  refine Goes.of (fun t => XS.aloadN X21.here hx rfl (hb hby d14_4) rfl rfl) ?_
  show Goes p e below KK T21 (mkF m 5 #[.val (.ref a1), .val (.int (0 : Int32)), .val (.int p3), .val (.ref b21), .unset, .unset] [(.ref a1)])
  refine Goes.of (fun t => XS.iloadN X21.here hx rfl (hb hby d14_5) rfl) ?_
  show Goes p e below KK T21 (mkF m 6 #[.val (.ref a1), .val (.int (0 : Int32)), .val (.int p3), .val (.ref b21), .unset, .unset] [(.int (0 : Int32)), (.ref a1)])
  refine Goes.of (fun t => XS.aloadN X21.here hx rfl (hb hby d14_6) rfl rfl) ?_
  show Goes p e below KK T21 (mkF m 7 #[.val (.ref a1), .val (.int (0 : Int32)), .val (.int p3), .val (.ref b21), .unset, .unset] [(.ref b21), (.int (0 : Int32)), (.ref a1)])
  refine Goes.of (fun t => XS.iconst X21.here hx rfl (hb hby d14_7)) ?_
  show Goes p e below KK T21 (mkF m 8 #[.val (.ref a1), .val (.int (0 : Int32)), .val (.int p3), .val (.ref b21), .unset, .unset] [(.int (0 : Int32)), (.ref b21), (.int (0 : Int32)), (.ref a1)])
  refine Goes.of (fun t => XS.iloadN X21.here hx rfl (hb hby d14_8) rfl) ?_
  show Goes p e below KK T21 (mkF m 9 #[.val (.ref a1), .val (.int (0 : Int32)), .val (.int p3), .val (.ref b21), .unset, .unset] [(.int p3), (.int (0 : Int32)), (.ref b21), (.int (0 : Int32)), (.ref a1)])
  obtain ⟨_, _, ⟨T22, L22, k22, n22⟩, -, X22, ⟨Lc22, hQ22, l22, y22, z22⟩, st22⟩ := Jvm.LawKit.callS X21 hx (y := (⟨"java/lang/StringUTF16", "compress", "([CI[BII)I"⟩ : MethodName)) hown (mvT hZ w_70) (mvT hZ w_71) (mvT hZ w_68) (mvT hZ w_72) (by decide) (backOf (W := 0) (rm15 l Z a0 hw [] a1 b21 p3 cs (List.replicate cs.length 0) h21 n0 Z21 V_a1_21 V_b21 hn (by rw [List.length_replicate]) hlt hcs g_b21 ne_a1_b21) hZ w_72 w_68 (by decide) (by decide)) (g := (mkF m 9 #[.val (.ref a1), .val (.int (0 : Int32)), .val (.int p3), .val (.ref b21), .unset, .unset] [(.int p3), (.int (0 : Int32)), (.ref b21), (.int (0 : Int32)), (.ref a1)])) rfl (by rw [hml]; rfl) (argsL := [(.ref a1), (.int (0 : Int32)), (.ref b21), (.int (0 : Int32)), (.int p3)]) (rest := []) (lenOf pd_18 rfl) rfl (by show 2 * 0 + _ ≤ _; exact Nat.le_of_eq rfl) (hb hby d14_9) (fun _ _ => ⟨rfl, e21, (by decide : 1 + 0 ≤ _), (by decide : 12 + 0 ≤ _)⟩)
  dsimp only [Pt.U, Pt.locs, Pt.cells, Pt.slots] at X22 l22 y22 z22 st22 hQ22
  subst y22 z22
  obtain ⟨rfl, N22q, Kc22, V22⟩ := hQ22
  have N22 : Fr n0 L22 := by rw [l22]; exact Fr.app N0 N22q
  have V_a1_21_22 : AI Z T22.heap a1 .char cs := V_a1_21.keep Kc22 (ninS ne_a1_b21 nin0)
  have K22 : Keep h0 T22.heap [] := K21.trans Kc22 (allS (Or.inr sz_b21) all0)
  have Z22 : n0 ≤ T22.heap.size := Nat.le_trans Z21 Kc22.1
  have e22 : T22.heap = T22.heap := rfl
  refine Goes.of st22 ?_
  show Goes p e below KK T22 (mkF m 12 #[.val (.ref a1), .val (.int (0 : Int32)), .val (.int p3), .val (.ref b21), .unset, .unset] [(.int p3)])
  refine Goes.of (fun t => XS.istore X22.here hx rfl (hb hby d14_12) rfl (l' := #[.val (.ref a1), .val (.int (0 : Int32)), .val (.int p3), .val (.ref b21), .val (.int p3), .unset]) rfl) ?_
  show Goes p e below KK T22 (mkF m 14 #[.val (.ref a1), .val (.int (0 : Int32)), .val (.int p3), .val (.ref b21), .val (.int p3), .unset] [])
  refine Goes.of (fun t => XS.iload X22.here hx rfl (hb hby d14_14) rfl) ?_
  show Goes p e below KK T22 (mkF m 16 #[.val (.ref a1), .val (.int (0 : Int32)), .val (.int p3), .val (.ref b21), .val (.int p3), .unset] [(.int p3)])
  refine Goes.of (fun t => XS.iloadN X22.here hx rfl (hb hby d14_16) rfl) ?_
  show Goes p e below KK T22 (mkF m 17 #[.val (.ref a1), .val (.int (0 : Int32)), .val (.int p3), .val (.ref b21), .val (.int p3), .unset] [(.int p3), (.int p3)])
  refine Goes.of (fun t => XS.icmpYes X22.here hx rfl (pc0 := 17) (pc' := 57) rfl (hb hby d14_17) rfl (teq (show p3 = p3 from rfl)).1 (by decide) (by decide)) ?_
  show Goes p e below KK T22 (mkF m 57 #[.val (.ref a1), .val (.int (0 : Int32)), .val (.int p3), .val (.ref b21), .val (.int p3), .unset] [])
  refine Goes.of (fun t => XS.aloadN X22.here hx rfl (hb hby d14_57) rfl rfl) ?_
  show Goes p e below KK T22 (mkF m 58 #[.val (.ref a1), .val (.int (0 : Int32)), .val (.int p3), .val (.ref b21), .val (.int p3), .unset] [(.ref b21)])
  rw [← hKK]
  refine Goes.retRef X22 hx hlk rfl rfl Bd.returns (hb hby d14_58) ?_ (by decide) (by decide)
  rw [e22]
  exact ⟨b21, rfl, N22, K22, sz_b21, V22⟩
theorem d16_0 : decode jdk_52_method_15_code 0 = .ok (.iload_n 1, 1) := by decide +kernel
theorem d16_1 : decode jdk_52_method_15_code 1 = .ok (.aload_n 0, 1) := by decide +kernel
theorem d16_2 : decode jdk_52_method_15_code 2 = .ok (.arraylength, 1) := by decide +kernel
theorem d16_3 : decode jdk_52_method_15_code 3 = .ok (.isub, 1) := by decide +kernel
theorem d16_4 : decode jdk_52_method_15_code 4 = .ok (.bipush 31, 2) := by decide +kernel
theorem d16_6 : decode jdk_52_method_15_code 6 = .ok (.iushr, 1) := by decide +kernel
theorem d16_7 : decode jdk_52_method_15_code 7 = .ok (.i2b, 1) := by decide +kernel
theorem d16_8 : decode jdk_52_method_15_code 8 = .ok (.ireturn, 1) := by decide +kernel
theorem pn_16 : plainFor (⟨"java/lang/StringUTF16", "coderFromArrayLen", "([BI)B"⟩ : MethodName) = true := plainFor_of_name (by first | (simp [plainName, overriddenIn]; done) | decide +kernel)
theorem ef_16 (m : MethodId) (x0 : Addr) (x1 : Int32) : entryFrame m #[(.ref x0), (.int x1)] 2 = mkF m 0 #[.val (.ref x0), .val (.int x1)] [] := by first | (simp [entryFrame, mkF, argsToLocals, Value.category]; done) | rfl
def Q16 (Z : State) (a1 : Addr) (p2 : Int32) (xs : List Int32) (h0 : Heap) (n0 : Nat) (v : Option Value) (h : Heap) (L : List Loc) : Prop := v = some (.int 0) ∧ Fr n0 L ∧ h = h0
set_option maxRecDepth 65536 in
set_option maxHeartbeats 40000000 in
theorem rm16 (l : Launch) (Z : State) (a0 : Array Value) (hw : ∀ d ∈ tables_1, d.before a0 Z = true) (ws : List Jvm.Cond) (a1 : Addr) (p2 : Int32) (xs : List Int32) (h0 : Heap) (n0 : Nat) (Z0 : n0 ≤ h0.size) (V_a1 : AI Z h0 a1 .byte xs) (hn : p2.toInt = (xs.length : Int)) :
    MetFree l (⟨"java/lang/StringUTF16", "coderFromArrayLen", "([BI)B"⟩ : MethodName) (head1 (Jvm.Cond.code (⟨"java/lang/StringUTF16", "coderFromArrayLen", "([BI)B"⟩ : MethodName) jdk_52_method_15_code 2 (some .byte) :: ws) ({ frames := 0, cells := 0, slots := 0, locals := 0 } : Room)) (fun a U => a = #[(.ref a1), (.int p2)] ∧ Z.Warmed39 U.vm ∧ U.heap = h0) (fun _ _ _ _ _ => True) (fun _ U o U' => ∃ v L, o = .returned v ∧ Q16 Z a1 p2 xs h0 n0 v U'.heap L ∧ FrameEnd U o U' L ({ frames := 0, cells := 0, slots := 0, locals := 0 } : Room).cells ({ frames := 0, cells := 0, slots := 0, locals := 0 } : Room).slots) := by
  refine MetFree.of_bodySF pn_16 hisR ?_
  intro p e s m args below meth c s₁ Bd hml0 hP hK
  obtain ⟨rfl, hZ, hh⟩ := hP
  have hx := Bd.exec
  have hby := Bd.bytes
  have hml : c.maxLocals = 2 := hml0
  have hown : s.vm.findClass "java/lang/StringUTF16" = some m.cls := findClass_of_methodNamed Bd.named
  have hnm := (name_of_methodNamed Bd.named Bd.method).1
  have hlk : meth.locks = false := BodyLoose.notSynchronized Bd
  have X0 : Stand p l e ({ frames := 0, cells := 0, slots := 0, locals := 0 } : Room) s m #[(.ref a1), (.int p2)] below meth c s₁ [] 0 0 := Stand.of_body Bd
  have e0 : s₁.heap = h0 := by rw [← hh, Bd.state]; rfl
  have N0 := Fr.nil n0
  show Goes p e below (OwnK s (Q16 Z a1 p2 xs h0 n0) ({ frames := 0, cells := 0, slots := 0, locals := 0 } : Room).cells ({ frames := 0, cells := 0, slots := 0, locals := 0 } : Room).slots) s₁ (entryFrame m #[(.ref a1), (.int p2)] 2)
  refine Goes.cast (ef_16 m a1 p2) ?_
  generalize hKK : OwnK s (Q16 Z a1 p2 xs h0 n0) ({ frames := 0, cells := 0, slots := 0, locals := 0 } : Room).cells ({ frames := 0, cells := 0, slots := 0, locals := 0 } : Room).slots = KK
  show Goes p e below KK s₁ (mkF m 0 #[.val (.ref a1), .val (.int p2)] [])
  refine Goes.of (fun t => XS.iloadN X0.here hx rfl (hb hby d16_0) rfl) ?_
  show Goes p e below KK s₁ (mkF m 1 #[.val (.ref a1), .val (.int p2)] [(.int p2)])
  refine Goes.of (fun t => XS.aloadN X0.here hx rfl (hb hby d16_1) rfl rfl) ?_
  show Goes p e below KK s₁ (mkF m 2 #[.val (.ref a1), .val (.int p2)] [(.ref a1), (.int p2)])
  refine Goes.of (AI.arraylength X0 hx hZ e0 V_a1 (j := p2) (hn) (g := (mkF m 2 #[.val (.ref a1), .val (.int p2)] [(.ref a1), (.int p2)])) rfl rfl (hb hby d16_2)) ?_
  show Goes p e below KK s₁ (mkF m 3 #[.val (.ref a1), .val (.int p2)] [(.int p2), (.int p2)])
  refine Goes.of (fun t => XS.isub X0.here hx rfl (hb hby d16_3) rfl) ?_
  show Goes p e below KK s₁ (mkF m 4 #[.val (.ref a1), .val (.int p2)] [(.int (p2 - p2))])
  refine Goes.of (fun t => XS.bipush X0.here hx rfl (hb hby d16_4)) ?_
  show Goes p e below KK s₁ (mkF m 6 #[.val (.ref a1), .val (.int p2)] [(.int (31 : Int32)), (.int (p2 - p2))])
  refine Goes.of (fun t => XT.iushr X0.here hx rfl (hb hby d16_6) rfl) ?_
  show Goes p e below KK s₁ (mkF m 7 #[.val (.ref a1), .val (.int p2)] [(.int (XT.ushr (p2 - p2) (31 : Int32)))])
  refine Goes.of (fun t => XT.i2b X0.here hx rfl (hb hby d16_7) rfl) ?_
  show Goes p e below KK s₁ (mkF m 8 #[.val (.ref a1), .val (.int p2)] [(.int ((XT.ushr (p2 - p2) (31 : Int32)).toInt8.toInt32))])
  rw [← hKK]
  refine Goes.retNar X0 hx hlk (t := .byte) (by simp) Bd.returns (hb hby d16_8) ?_ (by decide) (by decide)
  rw [e0]
  exact ⟨by rw [Int32.sub_self]; rfl, N0, rfl⟩
theorem d12_0 : decode jdk_42_method_149_code 0 = .ok (.aload_n 0, 1) := by decide +kernel
theorem d12_1 : decode jdk_42_method_149_code 1 = .ok (.invokespecial 1, 3) := by decide +kernel
theorem d12_4 : decode jdk_42_method_149_code 4 = .ok (.iload_n 3, 1) := by decide +kernel
theorem d12_5 : decode jdk_42_method_149_code 5 = .ok (.ifCond .ne 22, 3) := by decide +kernel
theorem d12_8 : decode jdk_42_method_149_code 8 = .ok (.aload_n 0, 1) := by decide +kernel
theorem d12_9 : decode jdk_42_method_149_code 9 = .ok (.ldc 7, 2) := by decide +kernel
theorem d12_11 : decode jdk_42_method_149_code 11 = .ok (.getfield 9, 3) := by decide +kernel
theorem d12_14 : decode jdk_42_method_149_code 14 = .ok (.putfield 9, 3) := by decide +kernel
theorem d12_17 : decode jdk_42_method_149_code 17 = .ok (.aload_n 0, 1) := by decide +kernel
theorem d12_18 : decode jdk_42_method_149_code 18 = .ok (.ldc 7, 2) := by decide +kernel
theorem d12_20 : decode jdk_42_method_149_code 20 = .ok (.getfield 15, 3) := by decide +kernel
theorem d12_23 : decode jdk_42_method_149_code 23 = .ok (.putfield 15, 3) := by decide +kernel
theorem d12_26 : decode jdk_42_method_149_code 26 = .ok (.return_, 1) := by decide +kernel
theorem d12_27 : decode jdk_42_method_149_code 27 = .ok (.getstatic 38, 3) := by decide +kernel
theorem d12_30 : decode jdk_42_method_149_code 30 = .ok (.ifCond .eq 28, 3) := by decide +kernel
theorem d12_33 : decode jdk_42_method_149_code 33 = .ok (.aload_n 1, 1) := by decide +kernel
theorem d12_34 : decode jdk_42_method_149_code 34 = .ok (.iload_n 2, 1) := by decide +kernel
theorem d12_35 : decode jdk_42_method_149_code 35 = .ok (.iload_n 3, 1) := by decide +kernel
theorem d12_36 : decode jdk_42_method_149_code 36 = .ok (.invokestatic 177, 3) := by decide +kernel
theorem d12_39 : decode jdk_42_method_149_code 39 = .ok (.astore 5, 2) := by decide +kernel
theorem d12_41 : decode jdk_42_method_149_code 41 = .ok (.aload_n 0, 1) := by decide +kernel
theorem d12_42 : decode jdk_42_method_149_code 42 = .ok (.aload 5, 2) := by decide +kernel
theorem d12_44 : decode jdk_42_method_149_code 44 = .ok (.iload_n 3, 1) := by decide +kernel
theorem d12_45 : decode jdk_42_method_149_code 45 = .ok (.invokestatic 47, 3) := by decide +kernel
theorem d12_48 : decode jdk_42_method_149_code 48 = .ok (.putfield 15, 3) := by decide +kernel
theorem d12_51 : decode jdk_42_method_149_code 51 = .ok (.aload_n 0, 1) := by decide +kernel
theorem d12_52 : decode jdk_42_method_149_code 52 = .ok (.aload 5, 2) := by decide +kernel
theorem d12_54 : decode jdk_42_method_149_code 54 = .ok (.putfield 9, 3) := by decide +kernel
theorem d12_57 : decode jdk_42_method_149_code 57 = .ok (.return_, 1) := by decide +kernel
theorem d12_58 : decode jdk_42_method_149_code 58 = .ok (.aload_n 0, 1) := by decide +kernel
theorem d12_59 : decode jdk_42_method_149_code 59 = .ok (.iconst 1, 1) := by decide +kernel
theorem d12_60 : decode jdk_42_method_149_code 60 = .ok (.putfield 15, 3) := by decide +kernel
theorem d12_63 : decode jdk_42_method_149_code 63 = .ok (.aload_n 0, 1) := by decide +kernel
theorem d12_64 : decode jdk_42_method_149_code 64 = .ok (.aload_n 1, 1) := by decide +kernel
theorem d12_65 : decode jdk_42_method_149_code 65 = .ok (.iload_n 2, 1) := by decide +kernel
theorem d12_66 : decode jdk_42_method_149_code 66 = .ok (.iload_n 3, 1) := by decide +kernel
theorem d12_67 : decode jdk_42_method_149_code 67 = .ok (.invokestatic 180, 3) := by decide +kernel
theorem d12_70 : decode jdk_42_method_149_code 70 = .ok (.putfield 9, 3) := by decide +kernel
theorem d12_73 : decode jdk_42_method_149_code 73 = .ok (.return_, 1) := by decide +kernel
theorem pn_12 : plainFor (⟨"java/lang/String", "<init>", "([CIILjava/lang/Void;)V"⟩ : MethodName) = true := plainFor_of_name (by first | (simp [plainName, overriddenIn]; done) | decide +kernel)
theorem pd_21 : parseMethodDescriptor "([CII)[B" = some ⟨[(.array .char), .int, .int], some (.array .byte)⟩ := by decide +kernel
theorem pd_22 : parseMethodDescriptor "([BI)B" = some ⟨[(.array .byte), .int], some .byte⟩ := by decide +kernel
theorem ef_12N (m : MethodId) (x0 : Addr) (x1 : Addr) (x2 : Int32) (x3 : Int32) : entryFrame m #[(.ref x0), (.ref x1), (.int x2), (.int x3), .null] 6 = mkF m 0 #[.val (.ref x0), .val (.ref x1), .val (.int x2), .val (.int x3), .val .null, .unset] [] := by first | (simp [entryFrame, mkF, argsToLocals, Value.category]; done) | rfl
def Q12N (Z : State) (a1 : Addr) (a2 : Addr) (p4 : Int32) (cs : List Int32) (cz : Int32) (h0 : Heap) (n0 : Nat) (v : Option Value) (h : Heap) (L : List Loc) : Prop := ∃ b, v = none ∧ Fr n0 L ∧ Keep h0 h [a1] ∧ h0.size ≤ b ∧ Exa Z h a1 "java/lang/String" ∧ Fld Z h a1 "java/lang/String" "coder" "B" (.int 0) ∧ Fld Z h a1 "java/lang/String" "value" "[B" (.ref b) ∧ AI Z h b .byte (cs.map gB)
set_option maxRecDepth 65536 in
set_option maxHeartbeats 40000000 in
theorem rm12N (l : Launch) (Z : State) (a0 : Array Value) (hw : ∀ d ∈ tables_1, d.before a0 Z = true) (ws : List Jvm.Cond) (a1 : Addr) (a2 : Addr) (p4 : Int32) (cs : List Int32) (cz : Int32) (h0 : Heap) (n0 : Nat) (Z0 : n0 ≤ h0.size) (E1 : Exa Z h0 a1 "java/lang/String") (F1c : Fld Z h0 a1 "java/lang/String" "coder" "B" (.int (0 : Int32))) (F1v : Fld Z h0 a1 "java/lang/String" "value" "[B" .null) (g_a1 : n0 ≤ a1) (V_a2 : AI Z h0 a2 .char cs) (hn : p4.toInt = (cs.length : Int)) (hpos : 0 < cs.length) (hlt : cs.length ≤ 12) (hcs : ∀ c ∈ cs, c.toInt ≤ 255) (Scs : Sta Z h0 "java/lang/String" "COMPACT_STRINGS" "Z" (.int cz)) (hcz : ¬ cz = 0) :
    MetFree l (⟨"java/lang/String", "<init>", "([CIILjava/lang/Void;)V"⟩ : MethodName) (head1 (Jvm.Cond.code (⟨"java/lang/String", "<init>", "([CIILjava/lang/Void;)V"⟩ : MethodName) jdk_42_method_149_code 6 none :: ws) ({ frames := 2, cells := 1, slots := 12, locals := 35 } : Room)) (fun a U => a = #[(.ref a1), (.ref a2), (.int (0 : Int32)), (.int p4), .null] ∧ Z.Warmed39 U.vm ∧ U.heap = h0) (fun _ _ _ _ _ => True) (fun _ U o U' => ∃ v L, o = .returned v ∧ Q12N Z a1 a2 p4 cs cz h0 n0 v U'.heap L ∧ FrameEnd U o U' L ({ frames := 2, cells := 1, slots := 12, locals := 35 } : Room).cells ({ frames := 2, cells := 1, slots := 12, locals := 35 } : Room).slots) := by
  refine MetFree.of_bodySF pn_12 hisR ?_
  intro p e s m args below meth c s₁ Bd hml0 hP hK
  obtain ⟨rfl, hZ, hh⟩ := hP
  have hx := Bd.exec
  have hby := Bd.bytes
  have hml : c.maxLocals = 6 := hml0
  have hown : s.vm.findClass "java/lang/String" = some m.cls := findClass_of_methodNamed Bd.named
  have hnm := (name_of_methodNamed Bd.named Bd.method).1
  have hlk : meth.locks = false := BodyLoose.notSynchronized Bd
  have X0 : Stand p l e ({ frames := 2, cells := 1, slots := 12, locals := 35 } : Room) s m #[(.ref a1), (.ref a2), (.int (0 : Int32)), (.int p4), .null] below meth c s₁ [] 0 0 := Stand.of_body Bd
  have e0 : s₁.heap = h0 := by rw [← hh, Bd.state]; rfl
  have N0 := Fr.nil n0
  show Goes p e below (OwnK s (Q12N Z a1 a2 p4 cs cz h0 n0) ({ frames := 2, cells := 1, slots := 12, locals := 35 } : Room).cells ({ frames := 2, cells := 1, slots := 12, locals := 35 } : Room).slots) s₁ (entryFrame m #[(.ref a1), (.ref a2), (.int (0 : Int32)), (.int p4), .null] 6)
  refine Goes.cast (ef_12N m a1 a2 (0 : Int32) p4) ?_
  generalize hKK : OwnK s (Q12N Z a1 a2 p4 cs cz h0 n0) ({ frames := 2, cells := 1, slots := 12, locals := 35 } : Room).cells ({ frames := 2, cells := 1, slots := 12, locals := 35 } : Room).slots = KK
  show Goes p e below KK s₁ (mkF m 0 #[.val (.ref a1), .val (.ref a2), .val (.int (0 : Int32)), .val (.int p4), .val .null, .unset] [])
  have w_2 := hw _ (List.mem_of_getElem? (i := 2) rfl)
  have w_4 := hw _ (List.mem_of_getElem? (i := 4) rfl)
  have w_5 := hw _ (List.mem_of_getElem? (i := 5) rfl)
  have w_24 := hw _ (List.mem_of_getElem? (i := 24) rfl)
  have w_30 := hw _ (List.mem_of_getElem? (i := 30) rfl)
  have w_31 := hw _ (List.mem_of_getElem? (i := 31) rfl)
  have w_63 := hw _ (List.mem_of_getElem? (i := 63) rfl)
  have w_64 := hw _ (List.mem_of_getElem? (i := 64) rfl)
  have w_65 := hw _ (List.mem_of_getElem? (i := 65) rfl)
  have w_66 := hw _ (List.mem_of_getElem? (i := 66) rfl)
  have w_67 := hw _ (List.mem_of_getElem? (i := 67) rfl)
  have w_68 := hw _ (List.mem_of_getElem? (i := 68) rfl)
  have w_69 := hw _ (List.mem_of_getElem? (i := 69) rfl)
  have w_73 := hw _ (List.mem_of_getElem? (i := 73) rfl)
  have w_74 := hw _ (List.mem_of_getElem? (i := 74) rfl)
  have w_75 := hw _ (List.mem_of_getElem? (i := 75) rfl)
  refine Goes.of (fun t => XS.aloadN X0.here hx rfl (hb hby d12_0) rfl rfl) ?_
  show Goes p e below KK s₁ (mkF m 1 #[.val (.ref a1), .val (.ref a2), .val (.int (0 : Int32)), .val (.int p4), .val .null, .unset] [(.ref a1)])
  obtain ⟨T23, X23, e23, st23⟩ := initO X0 hx hZ hown w_63 w_64 w_65 e0 (g := (mkF m 1 #[.val (.ref a1), .val (.ref a2), .val (.int (0 : Int32)), .val (.int p4), .val .null, .unset] [(.ref a1)])) rfl (by rw [hml]; rfl) rfl (hb hby d12_1) (by decide) (W := 0) (by show 2 * 0 + _ ≤ _; exact Nat.le_of_eq rfl) (by decide)
  refine Goes.of (st23) ?_
  show Goes p e below KK T23 (mkF m 4 #[.val (.ref a1), .val (.ref a2), .val (.int (0 : Int32)), .val (.int p4), .val .null, .unset] [])
  refine Goes.of (fun t => XS.iloadN X23.here hx rfl (hb hby d12_4) rfl) ?_
  show Goes p e below KK T23 (mkF m 5 #[.val (.ref a1), .val (.ref a2), .val (.int (0 : Int32)), .val (.int p4), .val .null, .unset] [(.int p4)])
  refine Goes.of (fun t => XS.ifYes X23.here hx rfl (pc0 := 5) (pc' := 27) rfl (hb hby d12_5) rfl ((if0 _ _).trans (feq (show ¬ (p4 = (0 : Int32)) from fun q => by rw [q] at hn; have z : (0 : Int32).toInt = 0 := rfl; omega)).2) (by decide) (by decide)) ?_
  show Goes p e below KK T23 (mkF m 27 #[.val (.ref a1), .val (.ref a2), .val (.int (0 : Int32)), .val (.int p4), .val .null, .unset] [])
  obtain ⟨T24, X24, e24, st24⟩ := getS2 X23 hx hZ hown (host := "") (Or.inl w_30) Via.refl e23 Scs (g := (mkF m 27 #[.val (.ref a1), .val (.ref a2), .val (.int (0 : Int32)), .val (.int p4), .val .null, .unset] [])) rfl (hb hby d12_27)
  refine Goes.of (st24) ?_
  show Goes p e below KK T24 (mkF m 30 #[.val (.ref a1), .val (.ref a2), .val (.int (0 : Int32)), .val (.int p4), .val .null, .unset] [(.int cz)])
  refine Goes.of (fun t => XS.ifNo X24.here hx rfl (hb hby d12_30) rfl ((if0 _ _).trans (feq (show ¬ (cz = (0 : Int32)) from hcz)).1)) ?_
  show Goes p e below KK T24 (mkF m 33 #[.val (.ref a1), .val (.ref a2), .val (.int (0 : Int32)), .val (.int p4), .val .null, .unset] [])
  refine Goes.of (fun t => XS.aloadN X24.here hx rfl (hb hby d12_33) rfl rfl) ?_
  show Goes p e below KK T24 (mkF m 34 #[.val (.ref a1), .val (.ref a2), .val (.int (0 : Int32)), .val (.int p4), .val .null, .unset] [(.ref a2)])
  refine Goes.of (fun t => XS.iloadN X24.here hx rfl (hb hby d12_34) rfl) ?_
  show Goes p e below KK T24 (mkF m 35 #[.val (.ref a1), .val (.ref a2), .val (.int (0 : Int32)), .val (.int p4), .val .null, .unset] [(.int (0 : Int32)), (.ref a2)])
  refine Goes.of (fun t => XS.iloadN X24.here hx rfl (hb hby d12_35) rfl) ?_
  show Goes p e below KK T24 (mkF m 36 #[.val (.ref a1), .val (.ref a2), .val (.int (0 : Int32)), .val (.int p4), .val .null, .unset] [(.int p4), (.int (0 : Int32)), (.ref a2)])
  obtain ⟨_, _, ⟨T25, L25, k25, n25⟩, -, X25, ⟨Lc25, hQ25, l25, y25, z25⟩, st25⟩ := Jvm.LawKit.callS X24 hx (y := (⟨"java/lang/StringUTF16", "compress", "([CII)[B"⟩ : MethodName)) hown (mvT hZ w_66) (mvT hZ w_67) (mvT hZ w_68) (mvT hZ w_69) (by decide) (backOf (W := 0) (rm14 l Z a0 hw [] a2 p4 cs h0 n0 Z0 V_a2 hn hlt hcs) hZ w_69 w_68 (by decide) (by decide)) (g := (mkF m 36 #[.val (.ref a1), .val (.ref a2), .val (.int (0 : Int32)), .val (.int p4), .val .null, .unset] [(.int p4), (.int (0 : Int32)), (.ref a2)])) rfl (by rw [hml]; rfl) (argsL := [(.ref a2), (.int (0 : Int32)), (.int p4)]) (rest := []) (lenOf pd_21 rfl) rfl (by show 2 * 0 + _ ≤ _; exact Nat.le_of_eq rfl) (hb hby d12_36) (fun _ _ => ⟨rfl, e24, (by decide : 0 + 1 ≤ _), (by decide : 0 + 12 ≤ _)⟩)
  dsimp only [Pt.U, Pt.locs, Pt.cells, Pt.slots] at X25 l25 y25 z25 st25 hQ25
  subst y25 z25
  obtain ⟨r25, rfl, N25q, Kc25, hb25, V25⟩ := hQ25
  have N25 : Fr n0 L25 := by rw [l25]; exact Fr.app N0 N25q
  have ne_a1_r25 : a1 ≠ r25 := Nat.ne_of_lt (Nat.lt_of_lt_of_le E1.lt hb25)
  have ne_a2_r25 : a2 ≠ r25 := Nat.ne_of_lt (Nat.lt_of_lt_of_le V_a2.lt hb25)
  have g_r25 : n0 ≤ r25 := Nat.le_trans Z0 hb25
  have sz_r25 : h0.size ≤ r25 := Nat.le_trans (Keep.refl h0 [a1]).1 hb25
  have E1_25 : Exa Z T25.heap a1 "java/lang/String" := E1.keep Kc25
  have F1c_25 : Fld Z T25.heap a1 "java/lang/String" "coder" "B" (.int (0 : Int32)) := F1c.keep Kc25 nin0
  have F1v_25 : Fld Z T25.heap a1 "java/lang/String" "value" "[B" .null := F1v.keep Kc25 nin0
  have V_a2_25 : AI Z T25.heap a2 .char cs := V_a2.keep Kc25 nin0
  have Scs_25 : Sta Z T25.heap "java/lang/String" "COMPACT_STRINGS" "Z" (.int cz) := own_staK Scs Kc25 ns0
  have K25 : Keep h0 T25.heap [a1] := (Keep.refl h0 [a1]).trans Kc25 all0
  have Z25 : n0 ≤ T25.heap.size := Nat.le_trans Z0 Kc25.1
  have e25 : T25.heap = T25.heap := rfl
  refine Goes.of st25 ?_
  show Goes p e below KK T25 (mkF m 39 #[.val (.ref a1), .val (.ref a2), .val (.int (0 : Int32)), .val (.int p4), .val .null, .unset] [(.ref r25)])
  refine Goes.of (fun t => XS.astore X25.here hx rfl (hb hby d12_39) rfl rfl (l' := #[.val (.ref a1), .val (.ref a2), .val (.int (0 : Int32)), .val (.int p4), .val .null, .val (.ref r25)]) rfl) ?_
  show Goes p e below KK T25 (mkF m 41 #[.val (.ref a1), .val (.ref a2), .val (.int (0 : Int32)), .val (.int p4), .val .null, .val (.ref r25)] [])
  refine Goes.of (fun t => XS.aloadN X25.here hx rfl (hb hby d12_41) rfl rfl) ?_
  show Goes p e below KK T25 (mkF m 42 #[.val (.ref a1), .val (.ref a2), .val (.int (0 : Int32)), .val (.int p4), .val .null, .val (.ref r25)] [(.ref a1)])
  refine Goes.of (fun t => XS.aload X25.here hx rfl (hb hby d12_42) rfl rfl) ?_
  show Goes p e below KK T25 (mkF m 44 #[.val (.ref a1), .val (.ref a2), .val (.int (0 : Int32)), .val (.int p4), .val .null, .val (.ref r25)] [(.ref r25), (.ref a1)])
  refine Goes.of (fun t => XS.iloadN X25.here hx rfl (hb hby d12_44) rfl) ?_
  show Goes p e below KK T25 (mkF m 45 #[.val (.ref a1), .val (.ref a2), .val (.int (0 : Int32)), .val (.int p4), .val .null, .val (.ref r25)] [(.int p4), (.ref r25), (.ref a1)])
  obtain ⟨_, _, ⟨T26, L26, k26, n26⟩, -, X26, ⟨Lc26, hQ26, l26, y26, z26⟩, st26⟩ := Jvm.LawKit.callS X25 hx (y := (⟨"java/lang/StringUTF16", "coderFromArrayLen", "([BI)B"⟩ : MethodName)) hown (mvT hZ w_73) (mvT hZ w_74) (mvT hZ w_68) (mvT hZ w_75) (by decide) (backOf (W := 1) (rm16 l Z a0 hw [] r25 p4 (cs.map gB) T25.heap n0 Z25 V25 (by rw [List.length_map]; exact hn)) hZ w_75 w_68 (by decide) (by decide)) (g := (mkF m 45 #[.val (.ref a1), .val (.ref a2), .val (.int (0 : Int32)), .val (.int p4), .val .null, .val (.ref r25)] [(.int p4), (.ref r25), (.ref a1)])) rfl (by rw [hml]; rfl) (argsL := [(.ref r25), (.int p4)]) (rest := [(.ref a1)]) (lenOf pd_22 rfl) rfl (by show 2 * 0 + _ ≤ _; exact Nat.le_of_eq rfl) (hb hby d12_45) (fun _ _ => ⟨rfl, e25, (by decide : 1 + 0 ≤ _), (by decide : 12 + 0 ≤ _)⟩)
  dsimp only [Pt.U, Pt.locs, Pt.cells, Pt.slots] at X26 l26 y26 z26 st26 hQ26
  subst y26 z26
  obtain ⟨rfl, N26q, e26⟩ := hQ26
  have N26 : Fr n0 L26 := by rw [l26]; exact Fr.app N25 N26q
  refine Goes.of st26 ?_
  show Goes p e below KK T26 (mkF m 48 #[.val (.ref a1), .val (.ref a2), .val (.int (0 : Int32)), .val (.int p4), .val .null, .val (.ref r25)] [(.int (0 : Int32)), (.ref a1)])
  obtain ⟨T27, h27, X27, e27, W27, st27⟩ := putFN X26 hx hZ hown w_31 Via.refl e26 F1c_25 E1_25 (Or.inr ⟨w_5, rfl, hnm⟩) w_2 (ty := .byte) (v' := .int (nar .byte (0 : Int32))) (by decide) rfl (fits_nar_byte _) (g := (mkF m 48 #[.val (.ref a1), .val (.ref a2), .val (.int (0 : Int32)), .val (.int p4), .val .null, .val (.ref r25)] [(.int (0 : Int32)), (.ref a1)])) rfl rfl (hb hby d12_48)
  refine Goes.of (st27) ?_
  have E1_25_27 : Exa Z h27 a1 "java/lang/String" := E1_25.wr W27
  have F1v_25_27 : Fld Z h27 a1 "java/lang/String" "value" "[B" .null := F1v_25.other W27 (Or.inr (slot_ne (Or.inr w_4) (Or.inr w_5) (by decide) (t := (.array .byte)) (t' := .byte) (by decide) (by decide)))
  have V25_27 : AI Z h27 r25 .byte (cs.map gB) := V25.other W27 (Ne.symm ne_a1_r25)
  have K27 : Keep h0 h27 [a1] := K25.wr W27 (Or.inl (List.mem_of_getElem? (i := 0) rfl))
  have Z27 : n0 ≤ h27.size := Nat.le_trans Z25 (Keep.of_wr W27).1
  have N27 := Fr.snoc X27 N26 g_a1
  have F_coder_a1_27 : Fld Z h27 a1 "java/lang/String" "coder" "B" (.int (nar .byte (0 : Int32))) := F1c_25.same W27
  show Goes p e below KK T27 (mkF m 51 #[.val (.ref a1), .val (.ref a2), .val (.int (0 : Int32)), .val (.int p4), .val .null, .val (.ref r25)] [])
  refine Goes.of (fun t => XS.aloadN X27.here hx rfl (hb hby d12_51) rfl rfl) ?_
  show Goes p e below KK T27 (mkF m 52 #[.val (.ref a1), .val (.ref a2), .val (.int (0 : Int32)), .val (.int p4), .val .null, .val (.ref r25)] [(.ref a1)])
  refine Goes.of (fun t => XS.aload X27.here hx rfl (hb hby d12_52) rfl rfl) ?_
  show Goes p e below KK T27 (mkF m 54 #[.val (.ref a1), .val (.ref a2), .val (.int (0 : Int32)), .val (.int p4), .val .null, .val (.ref r25)] [(.ref r25), (.ref a1)])
  obtain ⟨T28, h28, X28, e28, W28, st28⟩ := putF X27 hx hZ hown (host := "") (Or.inl w_24) Via.refl e27 F1v_25_27 E1_25_27 (Or.inr ⟨w_4, rfl, hnm⟩) w_2 (ty := (.array .byte)) (by decide) rfl rfl (g := (mkF m 54 #[.val (.ref a1), .val (.ref a2), .val (.int (0 : Int32)), .val (.int p4), .val .null, .val (.ref r25)] [(.ref r25), (.ref a1)])) rfl rfl (hb hby d12_54)
  refine Goes.of (st28) ?_
  have E1_25_27_28 : Exa Z h28 a1 "java/lang/String" := E1_25_27.wr W28
  have F_coder_a1_27_28 : Fld Z h28 a1 "java/lang/String" "coder" "B" (.int (nar .byte (0 : Int32))) := F_coder_a1_27.other W28 (Or.inr (slot_ne (Or.inr w_5) (Or.inr w_4) (by decide) (t := .byte) (t' := (.array .byte)) (by decide) (by decide)))
  have V25_27_28 : AI Z h28 r25 .byte (cs.map gB) := V25_27.other W28 (Ne.symm ne_a1_r25)
  have K28 : Keep h0 h28 [a1] := K27.wr W28 (Or.inl (List.mem_of_getElem? (i := 0) rfl))
  have Z28 : n0 ≤ h28.size := Nat.le_trans Z27 (Keep.of_wr W28).1
  have N28 := Fr.snoc X28 N27 g_a1
  have F_value_a1_28 : Fld Z h28 a1 "java/lang/String" "value" "[B" (.ref r25) := F1v_25_27.same W28
  show Goes p e below KK T28 (mkF m 57 #[.val (.ref a1), .val (.ref a2), .val (.int (0 : Int32)), .val (.int p4), .val .null, .val (.ref r25)] [])
  rw [← hKK]
  refine Goes.retVoid X28 hx hlk Bd.returns (hb hby d12_57) ?_ (by decide) (by decide)
  rw [e28]
  exact ⟨r25, rfl, N28, K28, sz_r25, E1_25_27_28, F_coder_a1_27_28, F_value_a1_28, V25_27_28⟩
theorem d11_0 : decode jdk_42_method_3_code 0 = .ok (.aload_n 0, 1) := by decide +kernel
theorem d11_1 : decode jdk_42_method_3_code 1 = .ok (.aload_n 1, 1) := by decide +kernel
theorem d11_2 : decode jdk_42_method_3_code 2 = .ok (.iconst 0, 1) := by decide +kernel
theorem d11_3 : decode jdk_42_method_3_code 3 = .ok (.aload_n 1, 1) := by decide +kernel
theorem d11_4 : decode jdk_42_method_3_code 4 = .ok (.arraylength, 1) := by decide +kernel
theorem d11_5 : decode jdk_42_method_3_code 5 = .ok (.aconst_null, 1) := by decide +kernel
theorem d11_6 : decode jdk_42_method_3_code 6 = .ok (.invokespecial 27, 3) := by decide +kernel
theorem d11_9 : decode jdk_42_method_3_code 9 = .ok (.return_, 1) := by decide +kernel
theorem pn_11 : plainFor (⟨"java/lang/String", "<init>", "([C)V"⟩ : MethodName) = true := plainFor_of_name (by first | (simp [plainName, overriddenIn]; done) | decide +kernel)
theorem pd_24 : parseMethodDescriptor "([CIILjava/lang/Void;)V" = some ⟨[(.array .char), .int, .int, (.object "java/lang/Void")], none⟩ := by decide +kernel
theorem ef_11N (m : MethodId) (x0 : Addr) (x1 : Addr) : entryFrame m #[(.ref x0), (.ref x1)] 2 = mkF m 0 #[.val (.ref x0), .val (.ref x1)] [] := by first | (simp [entryFrame, mkF, argsToLocals, Value.category]; done) | rfl
def Q11N (Z : State) (a1 : Addr) (a2 : Addr) (cs : List Int32) (nn : Int32) (cz : Int32) (h0 : Heap) (n0 : Nat) (v : Option Value) (h : Heap) (L : List Loc) : Prop := ∃ b, v = none ∧ Fr n0 L ∧ Keep h0 h [a1] ∧ h0.size ≤ b ∧ Exa Z h a1 "java/lang/String" ∧ Fld Z h a1 "java/lang/String" "coder" "B" (.int 0) ∧ Fld Z h a1 "java/lang/String" "value" "[B" (.ref b) ∧ AI Z h b .byte (cs.map gB)
set_option maxRecDepth 65536 in
set_option maxHeartbeats 40000000 in
theorem rm11N (l : Launch) (Z : State) (a0 : Array Value) (hw : ∀ d ∈ tables_1, d.before a0 Z = true) (ws : List Jvm.Cond) (a1 : Addr) (a2 : Addr) (cs : List Int32) (nn : Int32) (cz : Int32) (h0 : Heap) (n0 : Nat) (Z0 : n0 ≤ h0.size) (E1 : Exa Z h0 a1 "java/lang/String") (F1c : Fld Z h0 a1 "java/lang/String" "coder" "B" (.int (0 : Int32))) (F1v : Fld Z h0 a1 "java/lang/String" "value" "[B" .null) (g_a1 : n0 ≤ a1) (V_a2 : AI Z h0 a2 .char cs) (hn : nn.toInt = (cs.length : Int)) (hpos : 0 < cs.length) (hlt : cs.length ≤ 12) (hcs : ∀ c ∈ cs, c.toInt ≤ 255) (Scs : Sta Z h0 "java/lang/String" "COMPACT_STRINGS" "Z" (.int cz)) (hcz : ¬ cz = 0) :
    MetFree l (⟨"java/lang/String", "<init>", "([C)V"⟩ : MethodName) (head1 (Jvm.Cond.code (⟨"java/lang/String", "<init>", "([C)V"⟩ : MethodName) jdk_42_method_3_code 2 none :: ws) ({ frames := 3, cells := 1, slots := 12, locals := 52 } : Room)) (fun a U => a = #[(.ref a1), (.ref a2)] ∧ Z.Warmed39 U.vm ∧ U.heap = h0) (fun _ _ _ _ _ => True) (fun _ U o U' => ∃ v L, o = .returned v ∧ Q11N Z a1 a2 cs nn cz h0 n0 v U'.heap L ∧ FrameEnd U o U' L ({ frames := 3, cells := 1, slots := 12, locals := 52 } : Room).cells ({ frames := 3, cells := 1, slots := 12, locals := 52 } : Room).slots) := by
  refine MetFree.of_bodySF pn_11 hisR ?_
  intro p e s m args below meth c s₁ Bd hml0 hP hK
  obtain ⟨rfl, hZ, hh⟩ := hP
  have hx := Bd.exec
  have hby := Bd.bytes
  have hml : c.maxLocals = 2 := hml0
  have hown : s.vm.findClass "java/lang/String" = some m.cls := findClass_of_methodNamed Bd.named
  have hnm := (name_of_methodNamed Bd.named Bd.method).1
  have hlk : meth.locks = false := BodyLoose.notSynchronized Bd
  have X0 : Stand p l e ({ frames := 3, cells := 1, slots := 12, locals := 52 } : Room) s m #[(.ref a1), (.ref a2)] below meth c s₁ [] 0 0 := Stand.of_body Bd
  have e0 : s₁.heap = h0 := by rw [← hh, Bd.state]; rfl
  have N0 := Fr.nil n0
  show Goes p e below (OwnK s (Q11N Z a1 a2 cs nn cz h0 n0) ({ frames := 3, cells := 1, slots := 12, locals := 52 } : Room).cells ({ frames := 3, cells := 1, slots := 12, locals := 52 } : Room).slots) s₁ (entryFrame m #[(.ref a1), (.ref a2)] 2)
  refine Goes.cast (ef_11N m a1 a2) ?_
  generalize hKK : OwnK s (Q11N Z a1 a2 cs nn cz h0 n0) ({ frames := 3, cells := 1, slots := 12, locals := 52 } : Room).cells ({ frames := 3, cells := 1, slots := 12, locals := 52 } : Room).slots = KK
  show Goes p e below KK s₁ (mkF m 0 #[.val (.ref a1), .val (.ref a2)] [])
  have w_1 := hw _ (List.mem_of_getElem? (i := 1) rfl)
  have w_59 := hw _ (List.mem_of_getElem? (i := 59) rfl)
  have w_60 := hw _ (List.mem_of_getElem? (i := 60) rfl)
  have w_62 := hw _ (List.mem_of_getElem? (i := 62) rfl)
  refine Goes.of (fun t => XS.aloadN X0.here hx rfl (hb hby d11_0) rfl rfl) ?_
  show Goes p e below KK s₁ (mkF m 1 #[.val (.ref a1), .val (.ref a2)] [(.ref a1)])
  refine Goes.of (fun t => XS.aloadN X0.here hx rfl (hb hby d11_1) rfl rfl) ?_
  show Goes p e below KK s₁ (mkF m 2 #[.val (.ref a1), .val (.ref a2)] [(.ref a2), (.ref a1)])
  refine Goes.of (fun t => XS.iconst X0.here hx rfl (hb hby d11_2)) ?_
  show Goes p e below KK s₁ (mkF m 3 #[.val (.ref a1), .val (.ref a2)] [(.int (0 : Int32)), (.ref a2), (.ref a1)])
  refine Goes.of (fun t => XS.aloadN X0.here hx rfl (hb hby d11_3) rfl rfl) ?_
  show Goes p e below KK s₁ (mkF m 4 #[.val (.ref a1), .val (.ref a2)] [(.ref a2), (.int (0 : Int32)), (.ref a2), (.ref a1)])
  refine Goes.of (AI.arraylength X0 hx hZ e0 V_a2 (j := nn) (hn) (g := (mkF m 4 #[.val (.ref a1), .val (.ref a2)] [(.ref a2), (.int (0 : Int32)), (.ref a2), (.ref a1)])) rfl rfl (hb hby d11_4)) ?_
  show Goes p e below KK s₁ (mkF m 5 #[.val (.ref a1), .val (.ref a2)] [(.int nn), (.int (0 : Int32)), (.ref a2), (.ref a1)])
  refine Goes.of (fun t => XS.aconstNull X0.here hx rfl (hb hby d11_5)) ?_
  show Goes p e below KK s₁ (mkF m 6 #[.val (.ref a1), .val (.ref a2)] [.null, (.int nn), (.int (0 : Int32)), (.ref a2), (.ref a1)])
  obtain ⟨_, _, ⟨T29, L29, k29, n29⟩, -, X29, ⟨Lc29, hQ29, l29, y29, z29⟩, st29⟩ := X0.specialBack hx (y := (⟨"java/lang/String", "<init>", "([CIILjava/lang/Void;)V"⟩ : MethodName)) rfl hown (mvT hZ w_59) (mvT hZ w_60) (mvT hZ w_62) (by decide) (backOf (W := 0) (rm12N l Z a0 hw [] a1 a2 nn cs cz h0 n0 Z0 E1 F1c F1v g_a1 V_a2 hn hpos hlt hcs Scs hcz) hZ w_62 w_1 (by decide) (by decide)) (g := (mkF m 6 #[.val (.ref a1), .val (.ref a2)] [.null, (.int nn), (.int (0 : Int32)), (.ref a2), (.ref a1)])) rfl (by rw [hml]; rfl) (Steps.refl _) (a := a1) (argsL := [(.ref a2), (.int (0 : Int32)), (.int nn), .null]) (rest := []) (lenOf pd_24 rfl) rfl (by show 2 * 0 + _ ≤ _; exact Nat.le_of_eq rfl) (hb hby d11_6) (fun _ _ => ⟨rfl, e0, (by decide : 0 + 1 ≤ _), (by decide : 0 + 12 ≤ _)⟩)
  dsimp only [Pt.U, Pt.locs, Pt.cells, Pt.slots] at X29 l29 y29 z29 st29 hQ29
  subst y29 z29
  obtain ⟨r29, rfl, N29q, Kc29, hb29, E29, Fc29, Fv29, V29⟩ := hQ29
  have N29 : Fr n0 L29 := by rw [l29]; exact Fr.app N0 N29q
  have ne_a1_r29 : a1 ≠ r29 := Nat.ne_of_lt (Nat.lt_of_lt_of_le E1.lt hb29)
  have ne_a2_r29 : a2 ≠ r29 := Nat.ne_of_lt (Nat.lt_of_lt_of_le V_a2.lt hb29)
  have g_r29 : n0 ≤ r29 := Nat.le_trans Z0 hb29
  have sz_r29 : h0.size ≤ r29 := Nat.le_trans (Keep.refl h0 [a1]).1 hb29
  have E1_29 : Exa Z T29.heap a1 "java/lang/String" := E1.keep Kc29
  have K29 : Keep h0 T29.heap [a1] := (Keep.refl h0 [a1]).trans Kc29 (allS (Or.inl (List.mem_of_getElem? (i := 0) rfl)) all0)
  have Z29 : n0 ≤ T29.heap.size := Nat.le_trans Z0 Kc29.1
  have e29 : T29.heap = T29.heap := rfl
  refine Goes.tr st29 ?_
  show Goes p e below KK T29 (mkF m 9 #[.val (.ref a1), .val (.ref a2)] [])
  rw [← hKK]
  refine Goes.retVoid X29 hx hlk Bd.returns (hb hby d11_9) ?_ (by decide) (by decide)
  rw [e29]
  exact ⟨r29, rfl, N29, K29, sz_r29, E29, Fc29, Fv29, V29⟩
theorem ef_12Z (m : MethodId) (x0 : Addr) (x1 : Addr) (x2 : Int32) (x3 : Int32) : entryFrame m #[(.ref x0), (.ref x1), (.int x2), (.int x3), .null] 6 = mkF m 0 #[.val (.ref x0), .val (.ref x1), .val (.int x2), .val (.int x3), .val .null, .unset] [] := by first | (simp [entryFrame, mkF, argsToLocals, Value.category]; done) | rfl
def Q12Z (Z : State) (a1 : Addr) (a2 : Addr) (h0 : Heap) (n0 : Nat) (v : Option Value) (h : Heap) (L : List Loc) : Prop := ∃ b, v = none ∧ Fr n0 L ∧ Keep h0 h [a1] ∧ Exa Z h a1 "java/lang/String" ∧ Fld Z h a1 "java/lang/String" "coder" "B" (.int 0) ∧ Fld Z h a1 "java/lang/String" "value" "[B" (.ref b) ∧ AI Z h b .byte []
set_option maxRecDepth 65536 in
set_option maxHeartbeats 40000000 in
theorem rm12Z (l : Launch) (Z : State) (a0 : Array Value) (hw : ∀ d ∈ tables_1, d.before a0 Z = true) (ws : List Jvm.Cond) (a1 : Addr) (a2 : Addr) (h0 : Heap) (n0 : Nat) (Z0 : n0 ≤ h0.size) (E1 : Exa Z h0 a1 "java/lang/String") (F1c : Fld Z h0 a1 "java/lang/String" "coder" "B" (.int (0 : Int32))) (F1v : Fld Z h0 a1 "java/lang/String" "value" "[B" .null) (g_a1 : n0 ≤ a1) :
    MetFree l (⟨"java/lang/String", "<init>", "([CIILjava/lang/Void;)V"⟩ : MethodName) (head1 (Jvm.Cond.code (⟨"java/lang/String", "<init>", "([CIILjava/lang/Void;)V"⟩ : MethodName) jdk_42_method_149_code 6 none :: ws) ({ frames := 1, cells := 4, slots := 8, locals := 12 } : Room)) (fun a U => a = #[(.ref a1), (.ref a2), (.int (0 : Int32)), (.int (0 : Int32)), .null] ∧ Z.Warmed39 U.vm ∧ U.heap = h0 ∧ CHv Z EL0 U.vm h0) (fun _ _ _ _ _ => True) (fun _ U o U' => ∃ v L, o = .returned v ∧ Q12Z Z a1 a2 h0 n0 v U'.heap L ∧ CHr Z EL0 U.vm U.heap U'.vm U'.heap ∧ ReturnedEndW U o U' L ({ frames := 1, cells := 4, slots := 8, locals := 12 } : Room).cells ({ frames := 1, cells := 4, slots := 8, locals := 12 } : Room).slots) := by
  refine MetFree.of_bodySF pn_12 hisR ?_
  intro p e s m args below meth c s₁ Bd hml0 hP hK
  obtain ⟨rfl, hZ, hh, hch⟩ := hP
  have hx := Bd.exec
  have hby := Bd.bytes
  have hml : c.maxLocals = 6 := hml0
  have hown : s.vm.findClass "java/lang/String" = some m.cls := findClass_of_methodNamed Bd.named
  have hnm := (name_of_methodNamed Bd.named Bd.method).1
  have hlk : meth.locks = false := BodyLoose.notSynchronized Bd
  have X0 : Stand p l e ({ frames := 1, cells := 4, slots := 8, locals := 12 } : Room) s m #[(.ref a1), (.ref a2), (.int (0 : Int32)), (.int (0 : Int32)), .null] below meth c s₁ [] 0 0 := Stand.of_body Bd
  have e0 : s₁.heap = h0 := by rw [← hh, Bd.state]; rfl
  have N0 := Fr.nil n0
  have hEL := own_EW hw
  have CR0 : CHr Z EL0 s.vm h0 s.vm h0 := CHr.refl (hch)
  have hZw : Z.Warmed39 (s.setVm s.vm).vm := hZ
  have hownw : (s.setVm s.vm).vm.findClass "java/lang/String" = some m.cls := hown
  have X0w : Stand p l e ({ frames := 1, cells := 4, slots := 8, locals := 12 } : Room) (s.setVm s.vm) m #[(.ref a1), (.ref a2), (.int (0 : Int32)), (.int (0 : Int32)), .null] below meth c s₁ [] 0 0 := X0
  have HS0 : s.Since s.vm h0.size := (State.WarmedH.refl s).since _
  have HK0 : h0.size ≤ h0.size := Nat.le_refl _
  show Goes p e below (OwnKH Z EL0 s (Q12Z Z a1 a2 h0 n0) ({ frames := 1, cells := 4, slots := 8, locals := 12 } : Room).cells ({ frames := 1, cells := 4, slots := 8, locals := 12 } : Room).slots) s₁ (entryFrame m #[(.ref a1), (.ref a2), (.int (0 : Int32)), (.int (0 : Int32)), .null] 6)
  refine Goes.cast (ef_12Z m a1 a2 (0 : Int32) (0 : Int32)) ?_
  generalize hKK : OwnKH Z EL0 s (Q12Z Z a1 a2 h0 n0) ({ frames := 1, cells := 4, slots := 8, locals := 12 } : Room).cells ({ frames := 1, cells := 4, slots := 8, locals := 12 } : Room).slots = KK
  show Goes p e below KK s₁ (mkF m 0 #[.val (.ref a1), .val (.ref a2), .val (.int (0 : Int32)), .val (.int (0 : Int32)), .val .null, .unset] [])
  have w_1 := hw _ (List.mem_of_getElem? (i := 1) rfl)
  have w_2 := hw _ (List.mem_of_getElem? (i := 2) rfl)
  have w_3 := hw _ (List.mem_of_getElem? (i := 3) rfl)
  have w_4 := hw _ (List.mem_of_getElem? (i := 4) rfl)
  have w_5 := hw _ (List.mem_of_getElem? (i := 5) rfl)
  have w_6 := hw _ (List.mem_of_getElem? (i := 6) rfl)
  have w_7 := hw _ (List.mem_of_getElem? (i := 7) rfl)
  have w_24 := hw _ (List.mem_of_getElem? (i := 24) rfl)
  have w_31 := hw _ (List.mem_of_getElem? (i := 31) rfl)
  have w_63 := hw _ (List.mem_of_getElem? (i := 63) rfl)
  have w_64 := hw _ (List.mem_of_getElem? (i := 64) rfl)
  have w_65 := hw _ (List.mem_of_getElem? (i := 65) rfl)
  have w_92 := hw _ (List.mem_of_getElem? (i := 92) rfl)
  have sf_a1 : Safe Z EL0 s.vm h0 a1 := own_safeN (State.Warmed39.alike hZw) E1 F1v
  refine Goes.of (fun t => XS.aloadN X0w.here hx rfl (hb hby d12_0) rfl rfl) ?_
  show Goes p e below KK s₁ (mkF m 1 #[.val (.ref a1), .val (.ref a2), .val (.int (0 : Int32)), .val (.int (0 : Int32)), .val .null, .unset] [(.ref a1)])
  obtain ⟨T30, X30, e30, st30⟩ := initO X0w hx hZw hownw w_63 w_64 w_65 e0 (g := (mkF m 1 #[.val (.ref a1), .val (.ref a2), .val (.int (0 : Int32)), .val (.int (0 : Int32)), .val .null, .unset] [(.ref a1)])) rfl (by rw [hml]; rfl) rfl (hb hby d12_1) (by decide) (W := 0) (by show 2 * 0 + _ ≤ _; exact Nat.le_of_eq rfl) (by decide)
  refine Goes.of (st30) ?_
  show Goes p e below KK T30 (mkF m 4 #[.val (.ref a1), .val (.ref a2), .val (.int (0 : Int32)), .val (.int (0 : Int32)), .val .null, .unset] [])
  refine Goes.of (fun t => XS.iloadN X30.here hx rfl (hb hby d12_4) rfl) ?_
  show Goes p e below KK T30 (mkF m 5 #[.val (.ref a1), .val (.ref a2), .val (.int (0 : Int32)), .val (.int (0 : Int32)), .val .null, .unset] [(.int (0 : Int32))])
  refine Goes.of (fun t => XS.ifNo X30.here hx rfl (hb hby d12_5) rfl ((if0 _ _).trans (teq (show (0 : Int32) = (0 : Int32) from by decide)).2)) ?_
  show Goes p e below KK T30 (mkF m 8 #[.val (.ref a1), .val (.ref a2), .val (.int (0 : Int32)), .val (.int (0 : Int32)), .val .null, .unset] [])
  refine Goes.of (fun t => XS.aloadN X30.here hx rfl (hb hby d12_8) rfl rfl) ?_
  show Goes p e below KK T30 (mkF m 9 #[.val (.ref a1), .val (.ref a2), .val (.int (0 : Int32)), .val (.int (0 : Int32)), .val .null, .unset] [(.ref a1)])
  have wS31 : ∀ a ∈ Bundle.stringAtoms, a.before a0 Z = true := fun a ha => by
    simp only [Bundle.stringAtoms, List.mem_cons, List.not_mem_nil, or_false] at ha
    rcases ha with rfl | rfl | rfl | rfl | rfl | rfl | rfl
    · exact w_1
    · exact w_2
    · exact w_3
    · exact w_4
    · exact w_5
    · exact w_6
    · exact w_7
  obtain ⟨a31, T31, h31, k31, b31, kk31, X31, e31, E31, HS31, HK31, hZ31, hown31, Ex31, Fc31, Fv31, Va31, la31, lb31, cr31, Lt31, Sn31, st31⟩ := ldcCH X30 hx hZw hownw w_92 wS31 e30 HS0 HK0 hEL (List.mem_of_getElem? (i := 4) rfl) CR0.1 (vs := []) (z := 0) ⟨by decide +kernel, by decide +kernel⟩ (by decide) rfl (g := (mkF m 9 #[.val (.ref a1), .val (.ref a2), .val (.int (0 : Int32)), .val (.int (0 : Int32)), .val .null, .unset] [(.ref a1)])) rfl (hb hby d12_9) (n := 0) (by decide +kernel) (by decide) (by decide) (by decide)
  refine Goes.of (st31) ?_
  have sf_a1_31 := cr31.safe E1.lt sf_a1
  have CR31 := CR0.trans cr31
  have E1_31 : Exa Z h31 a1 "java/lang/String" := E1.ext E31
  have F1c_31 : Fld Z h31 a1 "java/lang/String" "coder" "B" (.int (0 : Int32)) := F1c.ext E31
  have F1v_31 : Fld Z h31 a1 "java/lang/String" "value" "[B" .null := F1v.ext E31
  have K31 : Keep h0 h31 [a1] := (Keep.refl h0 [a1]).ext E31
  have Z31 : n0 ≤ h31.size := Nat.le_trans Z0 E31.1
  have V31 : AI Z h31 b31 .byte [] := AI.ofArv Va31 rfl rfl
  show Goes p e below KK T31 (mkF m 11 #[.val (.ref a1), .val (.ref a2), .val (.int (0 : Int32)), .val (.int (0 : Int32)), .val .null, .unset] [(.ref a31), (.ref a1)])
  obtain ⟨T32, X32, e32, st32⟩ := getF X31 hx hZ31 hown31 (host := "") (Or.inl w_24) Via.refl e31 Fv31 (g := (mkF m 11 #[.val (.ref a1), .val (.ref a2), .val (.int (0 : Int32)), .val (.int (0 : Int32)), .val .null, .unset] [(.ref a31), (.ref a1)])) rfl rfl (hb hby d12_11)
  refine Goes.of (st32) ?_
  show Goes p e below KK T32 (mkF m 14 #[.val (.ref a1), .val (.ref a2), .val (.int (0 : Int32)), .val (.int (0 : Int32)), .val .null, .unset] [(.ref b31), (.ref a1)])
  obtain ⟨T33, h33, X33, e33, W33, st33⟩ := putF X32 hx hZ31 hown31 (host := "") (Or.inl w_24) Via.refl e32 F1v_31 E1_31 (Or.inr ⟨w_4, rfl, hnm⟩) w_2 (ty := (.array .byte)) (by decide) rfl rfl (g := (mkF m 14 #[.val (.ref a1), .val (.ref a2), .val (.int (0 : Int32)), .val (.int (0 : Int32)), .val .null, .unset] [(.ref b31), (.ref a1)])) rfl rfl (hb hby d12_14)
  refine Goes.of (st33) ?_
  have sf_a1_33 := Safe.wr W33 sf_a1_31 CR31.1 sf_a1_31
  have CR33 := CR31.trans (CHr.wr W33 sf_a1_31 CR31.1)
  have E1_31_33 : Exa Z h33 a1 "java/lang/String" := E1_31.wr W33
  have F1c_31_33 : Fld Z h33 a1 "java/lang/String" "coder" "B" (.int (0 : Int32)) := F1c_31.other W33 (Or.inr (slot_ne (Or.inr w_5) (Or.inr w_4) (by decide) (t := .byte) (t' := (.array .byte)) (by decide) (by decide)))
  have Ex31_33 : Exa Z h33 a31 "java/lang/String" := Ex31.wr W33
  have Fc31_33 : Fld Z h33 a31 "java/lang/String" "coder" "B" (.int (0 : Int32)) := Fc31.other W33 (Or.inl (Ne.symm (Sn31 a1 sf_a1_31).1))
  have Fv31_33 : Fld Z h33 a31 "java/lang/String" "value" "[B" (.ref b31) := Fv31.other W33 (Or.inl (Ne.symm (Sn31 a1 sf_a1_31).1))
  have V31_33 : AI Z h33 b31 .byte [] := V31.other W33 (Ne.symm (Sn31 a1 sf_a1_31).2)
  have K33 : Keep h0 h33 [a1] := K31.wr W33 (Or.inl (List.mem_of_getElem? (i := 0) rfl))
  have Z33 : n0 ≤ h33.size := Nat.le_trans Z31 (Keep.of_wr W33).1
  have HK33 := Nat.le_trans HK31 (Keep.of_wr W33).1
  have N33 := Fr.snoc X33 N0 g_a1
  have F_value_a1_33 : Fld Z h33 a1 "java/lang/String" "value" "[B" (.ref b31) := F1v_31.same W33
  show Goes p e below KK T33 (mkF m 17 #[.val (.ref a1), .val (.ref a2), .val (.int (0 : Int32)), .val (.int (0 : Int32)), .val .null, .unset] [])
  refine Goes.of (fun t => XS.aloadN X33.here hx rfl (hb hby d12_17) rfl rfl) ?_
  show Goes p e below KK T33 (mkF m 18 #[.val (.ref a1), .val (.ref a2), .val (.int (0 : Int32)), .val (.int (0 : Int32)), .val .null, .unset] [(.ref a1)])
  have wS34 : ∀ a ∈ Bundle.stringAtoms, a.before a0 Z = true := fun a ha => by
    simp only [Bundle.stringAtoms, List.mem_cons, List.not_mem_nil, or_false] at ha
    rcases ha with rfl | rfl | rfl | rfl | rfl | rfl | rfl
    · exact w_1
    · exact w_2
    · exact w_3
    · exact w_4
    · exact w_5
    · exact w_6
    · exact w_7
  obtain ⟨a34, T34, h34, k34, b34, kk34, X34, e34, E34, HS34, HK34, hZ34, hown34, Ex34, Fc34, Fv34, Va34, la34, lb34, cr34, Lt34, Sn34, st34⟩ := ldcCH X33 hx hZ31 hown31 w_92 wS34 e33 HS31 HK33 hEL (List.mem_of_getElem? (i := 4) rfl) CR33.1 (vs := []) (z := 0) ⟨by decide +kernel, by decide +kernel⟩ (by decide) rfl (g := (mkF m 18 #[.val (.ref a1), .val (.ref a2), .val (.int (0 : Int32)), .val (.int (0 : Int32)), .val .null, .unset] [(.ref a1)])) rfl (hb hby d12_18) (n := 0) (by decide +kernel) (by decide) (by decide) (by decide)
  refine Goes.of (st34) ?_
  have sf_a1_34 := cr34.safe E1_31_33.lt sf_a1_33
  have CR34 := CR33.trans cr34
  have E1_31_33_34 : Exa Z h34 a1 "java/lang/String" := E1_31_33.ext E34
  have F1c_31_33_34 : Fld Z h34 a1 "java/lang/String" "coder" "B" (.int (0 : Int32)) := F1c_31_33.ext E34
  have F_value_a1_33_34 : Fld Z h34 a1 "java/lang/String" "value" "[B" (.ref b31) := F_value_a1_33.ext E34
  have Ex31_33_34 : Exa Z h34 a31 "java/lang/String" := Ex31_33.ext E34
  have Fc31_33_34 : Fld Z h34 a31 "java/lang/String" "coder" "B" (.int (0 : Int32)) := Fc31_33.ext E34
  have Fv31_33_34 : Fld Z h34 a31 "java/lang/String" "value" "[B" (.ref b31) := Fv31_33.ext E34
  have V31_33_34 : AI Z h34 b31 .byte [] := V31_33.ext E34
  have K34 : Keep h0 h34 [a1] := K33.ext E34
  have Z34 : n0 ≤ h34.size := Nat.le_trans Z33 E34.1
  have V34 : AI Z h34 b34 .byte [] := AI.ofArv Va34 rfl rfl
  show Goes p e below KK T34 (mkF m 20 #[.val (.ref a1), .val (.ref a2), .val (.int (0 : Int32)), .val (.int (0 : Int32)), .val .null, .unset] [(.ref a34), (.ref a1)])
  obtain ⟨T35, X35, e35, st35⟩ := getF X34 hx hZ34 hown34 (host := "") (Or.inl w_31) Via.refl e34 Fc34 (g := (mkF m 20 #[.val (.ref a1), .val (.ref a2), .val (.int (0 : Int32)), .val (.int (0 : Int32)), .val .null, .unset] [(.ref a34), (.ref a1)])) rfl rfl (hb hby d12_20)
  refine Goes.of (st35) ?_
  show Goes p e below KK T35 (mkF m 23 #[.val (.ref a1), .val (.ref a2), .val (.int (0 : Int32)), .val (.int (0 : Int32)), .val .null, .unset] [(.int (0 : Int32)), (.ref a1)])
  obtain ⟨T36, h36, X36, e36, W36, st36⟩ := putFN X35 hx hZ34 hown34 w_31 Via.refl e35 F1c_31_33_34 E1_31_33_34 (Or.inr ⟨w_5, rfl, hnm⟩) w_2 (ty := .byte) (v' := .int (nar .byte (0 : Int32))) (by decide) rfl (fits_nar_byte _) (g := (mkF m 23 #[.val (.ref a1), .val (.ref a2), .val (.int (0 : Int32)), .val (.int (0 : Int32)), .val .null, .unset] [(.int (0 : Int32)), (.ref a1)])) rfl rfl (hb hby d12_23)
  refine Goes.of (st36) ?_
  have sf_a1_36 := Safe.wr W36 sf_a1_34 CR34.1 sf_a1_34
  have CR36 := CR34.trans (CHr.wr W36 sf_a1_34 CR34.1)
  have E1_31_33_34_36 : Exa Z h36 a1 "java/lang/String" := E1_31_33_34.wr W36
  have F_value_a1_33_34_36 : Fld Z h36 a1 "java/lang/String" "value" "[B" (.ref b31) := F_value_a1_33_34.other W36 (Or.inr (slot_ne (Or.inr w_4) (Or.inr w_5) (by decide) (t := (.array .byte)) (t' := .byte) (by decide) (by decide)))
  have Ex31_33_34_36 : Exa Z h36 a31 "java/lang/String" := Ex31_33_34.wr W36
  have Fc31_33_34_36 : Fld Z h36 a31 "java/lang/String" "coder" "B" (.int (0 : Int32)) := Fc31_33_34.other W36 (Or.inl (Ne.symm (Sn31 a1 sf_a1_31).1))
  have Fv31_33_34_36 : Fld Z h36 a31 "java/lang/String" "value" "[B" (.ref b31) := Fv31_33_34.other W36 (Or.inl (Ne.symm (Sn31 a1 sf_a1_31).1))
  have V31_33_34_36 : AI Z h36 b31 .byte [] := V31_33_34.other W36 (Ne.symm (Sn31 a1 sf_a1_31).2)
  have Ex34_36 : Exa Z h36 a34 "java/lang/String" := Ex34.wr W36
  have Fc34_36 : Fld Z h36 a34 "java/lang/String" "coder" "B" (.int (0 : Int32)) := Fc34.other W36 (Or.inl (Ne.symm (Sn34 a1 sf_a1_34).1))
  have Fv34_36 : Fld Z h36 a34 "java/lang/String" "value" "[B" (.ref b34) := Fv34.other W36 (Or.inl (Ne.symm (Sn34 a1 sf_a1_34).1))
  have V34_36 : AI Z h36 b34 .byte [] := V34.other W36 (Ne.symm (Sn34 a1 sf_a1_34).2)
  have K36 : Keep h0 h36 [a1] := K34.wr W36 (Or.inl (List.mem_of_getElem? (i := 0) rfl))
  have Z36 : n0 ≤ h36.size := Nat.le_trans Z34 (Keep.of_wr W36).1
  have HK36 := Nat.le_trans HK34 (Keep.of_wr W36).1
  have N36 := Fr.snoc X36 N33 g_a1
  have F_coder_a1_36 : Fld Z h36 a1 "java/lang/String" "coder" "B" (.int (nar .byte (0 : Int32))) := F1c_31_33_34.same W36
  show Goes p e below KK T36 (mkF m 26 #[.val (.ref a1), .val (.ref a2), .val (.int (0 : Int32)), .val (.int (0 : Int32)), .val .null, .unset] [])
  rw [← hKK]
  refine Goes.retVoidH X36 HS34 (by rw [e36]; exact HK36) (by rw [e36, hh]; exact CR36.trans (CHv.at X36 hZ34 hEL CR36.1)) hx hlk Bd.returns (hb hby d12_26) ?_ (by decide) (by decide)
  rw [e36]
  exact ⟨b31, rfl, N36, K36, E1_31_33_34_36, F_coder_a1_36, F_value_a1_33_34_36, V31_33_34_36⟩
theorem ef_11Z (m : MethodId) (x0 : Addr) (x1 : Addr) : entryFrame m #[(.ref x0), (.ref x1)] 2 = mkF m 0 #[.val (.ref x0), .val (.ref x1)] [] := by first | (simp [entryFrame, mkF, argsToLocals, Value.category]; done) | rfl
def Q11Z (Z : State) (a1 : Addr) (a2 : Addr) (h0 : Heap) (n0 : Nat) (v : Option Value) (h : Heap) (L : List Loc) : Prop := ∃ b, v = none ∧ Fr n0 L ∧ Keep h0 h [a1] ∧ Exa Z h a1 "java/lang/String" ∧ Fld Z h a1 "java/lang/String" "coder" "B" (.int 0) ∧ Fld Z h a1 "java/lang/String" "value" "[B" (.ref b) ∧ AI Z h b .byte []
set_option maxRecDepth 65536 in
set_option maxHeartbeats 40000000 in
theorem rm11Z (l : Launch) (Z : State) (a0 : Array Value) (hw : ∀ d ∈ tables_1, d.before a0 Z = true) (ws : List Jvm.Cond) (a1 : Addr) (a2 : Addr) (h0 : Heap) (n0 : Nat) (Z0 : n0 ≤ h0.size) (E1 : Exa Z h0 a1 "java/lang/String") (F1c : Fld Z h0 a1 "java/lang/String" "coder" "B" (.int (0 : Int32))) (F1v : Fld Z h0 a1 "java/lang/String" "value" "[B" .null) (g_a1 : n0 ≤ a1) (V_a2 : AI Z h0 a2 .char []) :
    MetFree l (⟨"java/lang/String", "<init>", "([C)V"⟩ : MethodName) (head1 (Jvm.Cond.code (⟨"java/lang/String", "<init>", "([C)V"⟩ : MethodName) jdk_42_method_3_code 2 none :: ws) ({ frames := 2, cells := 4, slots := 8, locals := 29 } : Room)) (fun a U => a = #[(.ref a1), (.ref a2)] ∧ Z.Warmed39 U.vm ∧ U.heap = h0 ∧ CHv Z EL0 U.vm h0) (fun _ _ _ _ _ => True) (fun _ U o U' => ∃ v L, o = .returned v ∧ Q11Z Z a1 a2 h0 n0 v U'.heap L ∧ CHr Z EL0 U.vm U.heap U'.vm U'.heap ∧ ReturnedEndW U o U' L ({ frames := 2, cells := 4, slots := 8, locals := 29 } : Room).cells ({ frames := 2, cells := 4, slots := 8, locals := 29 } : Room).slots) := by
  refine MetFree.of_bodySF pn_11 hisR ?_
  intro p e s m args below meth c s₁ Bd hml0 hP hK
  obtain ⟨rfl, hZ, hh, hch⟩ := hP
  have hx := Bd.exec
  have hby := Bd.bytes
  have hml : c.maxLocals = 2 := hml0
  have hown : s.vm.findClass "java/lang/String" = some m.cls := findClass_of_methodNamed Bd.named
  have hnm := (name_of_methodNamed Bd.named Bd.method).1
  have hlk : meth.locks = false := BodyLoose.notSynchronized Bd
  have X0 : Stand p l e ({ frames := 2, cells := 4, slots := 8, locals := 29 } : Room) s m #[(.ref a1), (.ref a2)] below meth c s₁ [] 0 0 := Stand.of_body Bd
  have e0 : s₁.heap = h0 := by rw [← hh, Bd.state]; rfl
  have N0 := Fr.nil n0
  have hEL := own_EW hw
  have CR0 : CHr Z EL0 s.vm h0 s.vm h0 := CHr.refl (hch)
  have hZw : Z.Warmed39 (s.setVm s.vm).vm := hZ
  have hownw : (s.setVm s.vm).vm.findClass "java/lang/String" = some m.cls := hown
  have X0w : Stand p l e ({ frames := 2, cells := 4, slots := 8, locals := 29 } : Room) (s.setVm s.vm) m #[(.ref a1), (.ref a2)] below meth c s₁ [] 0 0 := X0
  have HS0 : s.Since s.vm h0.size := (State.WarmedH.refl s).since _
  have HK0 : h0.size ≤ h0.size := Nat.le_refl _
  show Goes p e below (OwnKH Z EL0 s (Q11Z Z a1 a2 h0 n0) ({ frames := 2, cells := 4, slots := 8, locals := 29 } : Room).cells ({ frames := 2, cells := 4, slots := 8, locals := 29 } : Room).slots) s₁ (entryFrame m #[(.ref a1), (.ref a2)] 2)
  refine Goes.cast (ef_11Z m a1 a2) ?_
  generalize hKK : OwnKH Z EL0 s (Q11Z Z a1 a2 h0 n0) ({ frames := 2, cells := 4, slots := 8, locals := 29 } : Room).cells ({ frames := 2, cells := 4, slots := 8, locals := 29 } : Room).slots = KK
  show Goes p e below KK s₁ (mkF m 0 #[.val (.ref a1), .val (.ref a2)] [])
  have w_1 := hw _ (List.mem_of_getElem? (i := 1) rfl)
  have w_59 := hw _ (List.mem_of_getElem? (i := 59) rfl)
  have w_60 := hw _ (List.mem_of_getElem? (i := 60) rfl)
  have w_62 := hw _ (List.mem_of_getElem? (i := 62) rfl)
  have sf_a1 : Safe Z EL0 s.vm h0 a1 := own_safeN (State.Warmed39.alike hZw) E1 F1v
  refine Goes.of (fun t => XS.aloadN X0w.here hx rfl (hb hby d11_0) rfl rfl) ?_
  show Goes p e below KK s₁ (mkF m 1 #[.val (.ref a1), .val (.ref a2)] [(.ref a1)])
  refine Goes.of (fun t => XS.aloadN X0w.here hx rfl (hb hby d11_1) rfl rfl) ?_
  show Goes p e below KK s₁ (mkF m 2 #[.val (.ref a1), .val (.ref a2)] [(.ref a2), (.ref a1)])
  refine Goes.of (fun t => XS.iconst X0w.here hx rfl (hb hby d11_2)) ?_
  show Goes p e below KK s₁ (mkF m 3 #[.val (.ref a1), .val (.ref a2)] [(.int (0 : Int32)), (.ref a2), (.ref a1)])
  refine Goes.of (fun t => XS.aloadN X0w.here hx rfl (hb hby d11_3) rfl rfl) ?_
  show Goes p e below KK s₁ (mkF m 4 #[.val (.ref a1), .val (.ref a2)] [(.ref a2), (.int (0 : Int32)), (.ref a2), (.ref a1)])
  refine Goes.of (AI.arraylength X0w hx hZw e0 V_a2 (j := (0 : Int32)) (rfl) (g := (mkF m 4 #[.val (.ref a1), .val (.ref a2)] [(.ref a2), (.int (0 : Int32)), (.ref a2), (.ref a1)])) rfl rfl (hb hby d11_4)) ?_
  show Goes p e below KK s₁ (mkF m 5 #[.val (.ref a1), .val (.ref a2)] [(.int (0 : Int32)), (.int (0 : Int32)), (.ref a2), (.ref a1)])
  refine Goes.of (fun t => XS.aconstNull X0w.here hx rfl (hb hby d11_5)) ?_
  show Goes p e below KK s₁ (mkF m 6 #[.val (.ref a1), .val (.ref a2)] [.null, (.int (0 : Int32)), (.int (0 : Int32)), (.ref a2), (.ref a1)])
  obtain ⟨_, _, ⟨T37, L37, k37, n37⟩, -, X37, hSi37, hge37, ⟨Lc37, hQ37, l37, y37, z37, cr37⟩, st37⟩ := X0w.specialBackS hx (y := (⟨"java/lang/String", "<init>", "([CIILjava/lang/Void;)V"⟩ : MethodName)) rfl hownw (mvT hZw w_59) (mvT hZw w_60) (mvT hZw w_62) (by decide) (backOfSH (W := 0) (rm12Z l Z a0 hw [] a1 a2  h0 n0 Z0 E1 F1c F1v g_a1) hZw w_62 w_1 (by decide) (by decide) hEL CR0.1) (g := (mkF m 6 #[.val (.ref a1), .val (.ref a2)] [.null, (.int (0 : Int32)), (.int (0 : Int32)), (.ref a2), (.ref a1)])) rfl (by rw [hml]; rfl) (Steps.refl _) (a := a1) (argsL := [(.ref a2), (.int (0 : Int32)), (.int (0 : Int32)), .null]) (rest := []) (lenOf pd_24 rfl) rfl (by show 2 * 0 + _ ≤ _; exact Nat.le_of_eq rfl) (hb hby d11_6) (fun _ _ => ⟨rfl, e0, (by decide : 0 + 4 ≤ _), (by decide : 0 + 8 ≤ _)⟩)
  dsimp only [Pt.U, Pt.locs, Pt.cells, Pt.slots] at X37 l37 y37 z37 st37 hQ37 hSi37 hge37 cr37
  subst y37 z37
  obtain ⟨Y37, HS37, hZ37, hown37⟩ := rebS HS0 (by rw [e0]; exact HK0) X37 hSi37 hge37 hZw hownw
  have HK37 := Nat.le_refl T37.heap.size
  have sf_a1_37 := cr37.safe E1.lt sf_a1
  have CR37 := CR0.trans cr37
  obtain ⟨r37, rfl, N37q, Kc37, E37, Fc37, Fv37, V37⟩ := hQ37
  have N37 : Fr n0 L37 := by rw [l37]; exact Fr.app N0 N37q
  have E1_37 : Exa Z T37.heap a1 "java/lang/String" := E1.keep Kc37
  have K37 : Keep h0 T37.heap [a1] := (Keep.refl h0 [a1]).trans Kc37 (allS (Or.inl (List.mem_of_getElem? (i := 0) rfl)) all0)
  have Z37 : n0 ≤ T37.heap.size := Nat.le_trans Z0 Kc37.1
  have e37 : T37.heap = T37.heap := rfl
  refine Goes.tr st37 ?_
  show Goes p e below KK T37 (mkF m 9 #[.val (.ref a1), .val (.ref a2)] [])
  rw [← hKK]
  refine Goes.retVoidH Y37 HS37 (by rw [e37]; exact HK37) (by rw [e37, hh]; exact CR37.trans (CHv.at Y37 hZ37 hEL CR37.1)) hx hlk Bd.returns (hb hby d11_9) ?_ (by decide) (by decide)
  rw [e37]
  exact ⟨r37, rfl, N37, K37, E37, Fc37, Fv37, V37⟩
theorem d2_0 : decode method_4_code 0 = .ok (.iconst 0, 1) := by decide +kernel
theorem d2_1 : decode method_4_code 1 = .ok (.aload_n 1, 1) := by decide +kernel
theorem d2_2 : decode method_4_code 2 = .ok (.iload_n 2, 1) := by decide +kernel
theorem d2_3 : decode method_4_code 3 = .ok (.iload_n 3, 1) := by decide +kernel
theorem d2_4 : decode method_4_code 4 = .ok (.iload 4, 2) := by decide +kernel
theorem d2_6 : decode method_4_code 6 = .ok (.iload 5, 2) := by decide +kernel
theorem d2_8 : decode method_4_code 8 = .ok (.invokestatic 18, 3) := by decide +kernel
theorem d2_11 : decode method_4_code 11 = .ok (.istore 6, 2) := by decide +kernel
theorem d2_13 : decode method_4_code 13 = .ok (.iconst 1, 1) := by decide +kernel
theorem d2_14 : decode method_4_code 14 = .ok (.aload_n 1, 1) := by decide +kernel
theorem d2_15 : decode method_4_code 15 = .ok (.iload_n 2, 1) := by decide +kernel
theorem d2_16 : decode method_4_code 16 = .ok (.iload_n 3, 1) := by decide +kernel
theorem d2_17 : decode method_4_code 17 = .ok (.iload 4, 2) := by decide +kernel
theorem d2_19 : decode method_4_code 19 = .ok (.iload 5, 2) := by decide +kernel
theorem d2_21 : decode method_4_code 21 = .ok (.invokestatic 18, 3) := by decide +kernel
theorem d2_24 : decode method_4_code 24 = .ok (.istore 7, 2) := by decide +kernel
theorem d2_26 : decode method_4_code 26 = .ok (.iconst 2, 1) := by decide +kernel
theorem d2_27 : decode method_4_code 27 = .ok (.aload_n 1, 1) := by decide +kernel
theorem d2_28 : decode method_4_code 28 = .ok (.iload_n 2, 1) := by decide +kernel
theorem d2_29 : decode method_4_code 29 = .ok (.iload_n 3, 1) := by decide +kernel
theorem d2_30 : decode method_4_code 30 = .ok (.iload 4, 2) := by decide +kernel
theorem d2_32 : decode method_4_code 32 = .ok (.iload 5, 2) := by decide +kernel
theorem d2_34 : decode method_4_code 34 = .ok (.invokestatic 18, 3) := by decide +kernel
theorem d2_37 : decode method_4_code 37 = .ok (.istore 8, 2) := by decide +kernel
theorem d2_39 : decode method_4_code 39 = .ok (.iconst 3, 1) := by decide +kernel
theorem d2_40 : decode method_4_code 40 = .ok (.aload_n 1, 1) := by decide +kernel
theorem d2_41 : decode method_4_code 41 = .ok (.iload_n 2, 1) := by decide +kernel
theorem d2_42 : decode method_4_code 42 = .ok (.iload_n 3, 1) := by decide +kernel
theorem d2_43 : decode method_4_code 43 = .ok (.iload 4, 2) := by decide +kernel
theorem d2_45 : decode method_4_code 45 = .ok (.iload 5, 2) := by decide +kernel
theorem d2_47 : decode method_4_code 47 = .ok (.invokestatic 18, 3) := by decide +kernel
theorem d2_50 : decode method_4_code 50 = .ok (.istore 9, 2) := by decide +kernel
theorem d2_52 : decode method_4_code 52 = .ok (.iconst 4, 1) := by decide +kernel
theorem d2_53 : decode method_4_code 53 = .ok (.aload_n 1, 1) := by decide +kernel
theorem d2_54 : decode method_4_code 54 = .ok (.iload_n 2, 1) := by decide +kernel
theorem d2_55 : decode method_4_code 55 = .ok (.iload_n 3, 1) := by decide +kernel
theorem d2_56 : decode method_4_code 56 = .ok (.iload 4, 2) := by decide +kernel
theorem d2_58 : decode method_4_code 58 = .ok (.iload 5, 2) := by decide +kernel
theorem d2_60 : decode method_4_code 60 = .ok (.invokestatic 18, 3) := by decide +kernel
theorem d2_63 : decode method_4_code 63 = .ok (.istore 10, 2) := by decide +kernel
theorem d2_65 : decode method_4_code 65 = .ok (.iconst 5, 1) := by decide +kernel
theorem d2_66 : decode method_4_code 66 = .ok (.aload_n 1, 1) := by decide +kernel
theorem d2_67 : decode method_4_code 67 = .ok (.iload_n 2, 1) := by decide +kernel
theorem d2_68 : decode method_4_code 68 = .ok (.iload_n 3, 1) := by decide +kernel
theorem d2_69 : decode method_4_code 69 = .ok (.iload 4, 2) := by decide +kernel
theorem d2_71 : decode method_4_code 71 = .ok (.iload 5, 2) := by decide +kernel
theorem d2_73 : decode method_4_code 73 = .ok (.invokestatic 18, 3) := by decide +kernel
theorem d2_76 : decode method_4_code 76 = .ok (.istore 11, 2) := by decide +kernel
theorem d2_78 : decode method_4_code 78 = .ok (.bipush 6, 2) := by decide +kernel
theorem d2_80 : decode method_4_code 80 = .ok (.aload_n 1, 1) := by decide +kernel
theorem d2_81 : decode method_4_code 81 = .ok (.iload_n 2, 1) := by decide +kernel
theorem d2_82 : decode method_4_code 82 = .ok (.iload_n 3, 1) := by decide +kernel
theorem d2_83 : decode method_4_code 83 = .ok (.iload 4, 2) := by decide +kernel
theorem d2_85 : decode method_4_code 85 = .ok (.iload 5, 2) := by decide +kernel
theorem d2_87 : decode method_4_code 87 = .ok (.invokestatic 18, 3) := by decide +kernel
theorem d2_90 : decode method_4_code 90 = .ok (.istore 12, 2) := by decide +kernel
theorem d2_92 : decode method_4_code 92 = .ok (.bipush 7, 2) := by decide +kernel
theorem d2_94 : decode method_4_code 94 = .ok (.aload_n 1, 1) := by decide +kernel
theorem d2_95 : decode method_4_code 95 = .ok (.iload_n 2, 1) := by decide +kernel
theorem d2_96 : decode method_4_code 96 = .ok (.iload_n 3, 1) := by decide +kernel
theorem d2_97 : decode method_4_code 97 = .ok (.iload 4, 2) := by decide +kernel
theorem d2_99 : decode method_4_code 99 = .ok (.iload 5, 2) := by decide +kernel
theorem d2_101 : decode method_4_code 101 = .ok (.invokestatic 18, 3) := by decide +kernel
theorem d2_104 : decode method_4_code 104 = .ok (.istore 13, 2) := by decide +kernel
theorem d2_106 : decode method_4_code 106 = .ok (.bipush 8, 2) := by decide +kernel
theorem d2_108 : decode method_4_code 108 = .ok (.aload_n 1, 1) := by decide +kernel
theorem d2_109 : decode method_4_code 109 = .ok (.iload_n 2, 1) := by decide +kernel
theorem d2_110 : decode method_4_code 110 = .ok (.iload_n 3, 1) := by decide +kernel
theorem d2_111 : decode method_4_code 111 = .ok (.iload 4, 2) := by decide +kernel
theorem d2_113 : decode method_4_code 113 = .ok (.iload 5, 2) := by decide +kernel
theorem d2_115 : decode method_4_code 115 = .ok (.invokestatic 18, 3) := by decide +kernel
theorem d2_118 : decode method_4_code 118 = .ok (.istore 14, 2) := by decide +kernel
theorem d2_120 : decode method_4_code 120 = .ok (.bipush 9, 2) := by decide +kernel
theorem d2_122 : decode method_4_code 122 = .ok (.aload_n 1, 1) := by decide +kernel
theorem d2_123 : decode method_4_code 123 = .ok (.iload_n 2, 1) := by decide +kernel
theorem d2_124 : decode method_4_code 124 = .ok (.iload_n 3, 1) := by decide +kernel
theorem d2_125 : decode method_4_code 125 = .ok (.iload 4, 2) := by decide +kernel
theorem d2_127 : decode method_4_code 127 = .ok (.iload 5, 2) := by decide +kernel
theorem d2_129 : decode method_4_code 129 = .ok (.invokestatic 18, 3) := by decide +kernel
theorem d2_132 : decode method_4_code 132 = .ok (.istore 15, 2) := by decide +kernel
theorem d2_134 : decode method_4_code 134 = .ok (.bipush 10, 2) := by decide +kernel
theorem d2_136 : decode method_4_code 136 = .ok (.aload_n 1, 1) := by decide +kernel
theorem d2_137 : decode method_4_code 137 = .ok (.iload_n 2, 1) := by decide +kernel
theorem d2_138 : decode method_4_code 138 = .ok (.iload_n 3, 1) := by decide +kernel
theorem d2_139 : decode method_4_code 139 = .ok (.iload 4, 2) := by decide +kernel
theorem d2_141 : decode method_4_code 141 = .ok (.iload 5, 2) := by decide +kernel
theorem d2_143 : decode method_4_code 143 = .ok (.invokestatic 18, 3) := by decide +kernel
theorem d2_146 : decode method_4_code 146 = .ok (.istore 16, 2) := by decide +kernel
theorem d2_148 : decode method_4_code 148 = .ok (.bipush 11, 2) := by decide +kernel
theorem d2_150 : decode method_4_code 150 = .ok (.aload_n 1, 1) := by decide +kernel
theorem d2_151 : decode method_4_code 151 = .ok (.iload_n 2, 1) := by decide +kernel
theorem d2_152 : decode method_4_code 152 = .ok (.iload_n 3, 1) := by decide +kernel
theorem d2_153 : decode method_4_code 153 = .ok (.iload 4, 2) := by decide +kernel
theorem d2_155 : decode method_4_code 155 = .ok (.iload 5, 2) := by decide +kernel
theorem d2_157 : decode method_4_code 157 = .ok (.invokestatic 18, 3) := by decide +kernel
theorem d2_160 : decode method_4_code 160 = .ok (.istore 17, 2) := by decide +kernel
theorem d2_162 : decode method_4_code 162 = .ok (.iload_n 0, 1) := by decide +kernel
theorem d2_163 : decode method_4_code 163 = .ok (.ifCond .ne 14, 3) := by decide +kernel
theorem d2_166 : decode method_4_code 166 = .ok (.new 8, 3) := by decide +kernel
theorem d2_169 : decode method_4_code 169 = .ok (.dup, 1) := by decide +kernel
theorem d2_170 : decode method_4_code 170 = .ok (.iconst 0, 1) := by decide +kernel
theorem d2_171 : decode method_4_code 171 = .ok (.newarray .char, 2) := by decide +kernel
theorem d2_173 : decode method_4_code 173 = .ok (.invokespecial 24, 3) := by decide +kernel
theorem d2_176 : decode method_4_code 176 = .ok (.areturn, 1) := by decide +kernel
theorem d2_177 : decode method_4_code 177 = .ok (.iload_n 0, 1) := by decide +kernel
theorem d2_178 : decode method_4_code 178 = .ok (.bipush 7, 2) := by decide +kernel
theorem d2_180 : decode method_4_code 180 = .ok (.if_icmp .ne 51, 3) := by decide +kernel
theorem d2_183 : decode method_4_code 183 = .ok (.new 8, 3) := by decide +kernel
theorem d2_186 : decode method_4_code 186 = .ok (.dup, 1) := by decide +kernel
theorem d2_187 : decode method_4_code 187 = .ok (.bipush 7, 2) := by decide +kernel
theorem d2_189 : decode method_4_code 189 = .ok (.newarray .char, 2) := by decide +kernel
theorem d2_191 : decode method_4_code 191 = .ok (.dup, 1) := by decide +kernel
theorem d2_192 : decode method_4_code 192 = .ok (.iconst 0, 1) := by decide +kernel
theorem d2_193 : decode method_4_code 193 = .ok (.iload 6, 2) := by decide +kernel
theorem d2_195 : decode method_4_code 195 = .ok (.castore, 1) := by decide +kernel
theorem d2_196 : decode method_4_code 196 = .ok (.dup, 1) := by decide +kernel
theorem d2_197 : decode method_4_code 197 = .ok (.iconst 1, 1) := by decide +kernel
theorem d2_198 : decode method_4_code 198 = .ok (.iload 7, 2) := by decide +kernel
theorem d2_200 : decode method_4_code 200 = .ok (.castore, 1) := by decide +kernel
theorem d2_201 : decode method_4_code 201 = .ok (.dup, 1) := by decide +kernel
theorem d2_202 : decode method_4_code 202 = .ok (.iconst 2, 1) := by decide +kernel
theorem d2_203 : decode method_4_code 203 = .ok (.iload 8, 2) := by decide +kernel
theorem d2_205 : decode method_4_code 205 = .ok (.castore, 1) := by decide +kernel
theorem d2_206 : decode method_4_code 206 = .ok (.dup, 1) := by decide +kernel
theorem d2_207 : decode method_4_code 207 = .ok (.iconst 3, 1) := by decide +kernel
theorem d2_208 : decode method_4_code 208 = .ok (.iload 9, 2) := by decide +kernel
theorem d2_210 : decode method_4_code 210 = .ok (.castore, 1) := by decide +kernel
theorem d2_211 : decode method_4_code 211 = .ok (.dup, 1) := by decide +kernel
theorem d2_212 : decode method_4_code 212 = .ok (.iconst 4, 1) := by decide +kernel
theorem d2_213 : decode method_4_code 213 = .ok (.iload 10, 2) := by decide +kernel
theorem d2_215 : decode method_4_code 215 = .ok (.castore, 1) := by decide +kernel
theorem d2_216 : decode method_4_code 216 = .ok (.dup, 1) := by decide +kernel
theorem d2_217 : decode method_4_code 217 = .ok (.iconst 5, 1) := by decide +kernel
theorem d2_218 : decode method_4_code 218 = .ok (.iload 11, 2) := by decide +kernel
theorem d2_220 : decode method_4_code 220 = .ok (.castore, 1) := by decide +kernel
theorem d2_221 : decode method_4_code 221 = .ok (.dup, 1) := by decide +kernel
theorem d2_222 : decode method_4_code 222 = .ok (.bipush 6, 2) := by decide +kernel
theorem d2_224 : decode method_4_code 224 = .ok (.iload 12, 2) := by decide +kernel
theorem d2_226 : decode method_4_code 226 = .ok (.castore, 1) := by decide +kernel
theorem d2_227 : decode method_4_code 227 = .ok (.invokespecial 24, 3) := by decide +kernel
theorem d2_230 : decode method_4_code 230 = .ok (.areturn, 1) := by decide +kernel
theorem d2_231 : decode method_4_code 231 = .ok (.iload_n 0, 1) := by decide +kernel
theorem d2_232 : decode method_4_code 232 = .ok (.bipush 8, 2) := by decide +kernel
theorem d2_234 : decode method_4_code 234 = .ok (.if_icmp .ne 57, 3) := by decide +kernel
theorem d2_237 : decode method_4_code 237 = .ok (.new 8, 3) := by decide +kernel
theorem d2_240 : decode method_4_code 240 = .ok (.dup, 1) := by decide +kernel
theorem d2_241 : decode method_4_code 241 = .ok (.bipush 8, 2) := by decide +kernel
theorem d2_243 : decode method_4_code 243 = .ok (.newarray .char, 2) := by decide +kernel
theorem d2_245 : decode method_4_code 245 = .ok (.dup, 1) := by decide +kernel
theorem d2_246 : decode method_4_code 246 = .ok (.iconst 0, 1) := by decide +kernel
theorem d2_247 : decode method_4_code 247 = .ok (.iload 6, 2) := by decide +kernel
theorem d2_249 : decode method_4_code 249 = .ok (.castore, 1) := by decide +kernel
theorem d2_250 : decode method_4_code 250 = .ok (.dup, 1) := by decide +kernel
theorem d2_251 : decode method_4_code 251 = .ok (.iconst 1, 1) := by decide +kernel
theorem d2_252 : decode method_4_code 252 = .ok (.iload 7, 2) := by decide +kernel
theorem d2_254 : decode method_4_code 254 = .ok (.castore, 1) := by decide +kernel
theorem d2_255 : decode method_4_code 255 = .ok (.dup, 1) := by decide +kernel
theorem d2_256 : decode method_4_code 256 = .ok (.iconst 2, 1) := by decide +kernel
theorem d2_257 : decode method_4_code 257 = .ok (.iload 8, 2) := by decide +kernel
theorem d2_259 : decode method_4_code 259 = .ok (.castore, 1) := by decide +kernel
theorem d2_260 : decode method_4_code 260 = .ok (.dup, 1) := by decide +kernel
theorem d2_261 : decode method_4_code 261 = .ok (.iconst 3, 1) := by decide +kernel
theorem d2_262 : decode method_4_code 262 = .ok (.iload 9, 2) := by decide +kernel
theorem d2_264 : decode method_4_code 264 = .ok (.castore, 1) := by decide +kernel
theorem d2_265 : decode method_4_code 265 = .ok (.dup, 1) := by decide +kernel
theorem d2_266 : decode method_4_code 266 = .ok (.iconst 4, 1) := by decide +kernel
theorem d2_267 : decode method_4_code 267 = .ok (.iload 10, 2) := by decide +kernel
theorem d2_269 : decode method_4_code 269 = .ok (.castore, 1) := by decide +kernel
theorem d2_270 : decode method_4_code 270 = .ok (.dup, 1) := by decide +kernel
theorem d2_271 : decode method_4_code 271 = .ok (.iconst 5, 1) := by decide +kernel
theorem d2_272 : decode method_4_code 272 = .ok (.iload 11, 2) := by decide +kernel
theorem d2_274 : decode method_4_code 274 = .ok (.castore, 1) := by decide +kernel
theorem d2_275 : decode method_4_code 275 = .ok (.dup, 1) := by decide +kernel
theorem d2_276 : decode method_4_code 276 = .ok (.bipush 6, 2) := by decide +kernel
theorem d2_278 : decode method_4_code 278 = .ok (.iload 12, 2) := by decide +kernel
theorem d2_280 : decode method_4_code 280 = .ok (.castore, 1) := by decide +kernel
theorem d2_281 : decode method_4_code 281 = .ok (.dup, 1) := by decide +kernel
theorem d2_282 : decode method_4_code 282 = .ok (.bipush 7, 2) := by decide +kernel
theorem d2_284 : decode method_4_code 284 = .ok (.iload 13, 2) := by decide +kernel
theorem d2_286 : decode method_4_code 286 = .ok (.castore, 1) := by decide +kernel
theorem d2_287 : decode method_4_code 287 = .ok (.invokespecial 24, 3) := by decide +kernel
theorem d2_290 : decode method_4_code 290 = .ok (.areturn, 1) := by decide +kernel
theorem d2_291 : decode method_4_code 291 = .ok (.iload_n 0, 1) := by decide +kernel
theorem d2_292 : decode method_4_code 292 = .ok (.bipush 9, 2) := by decide +kernel
theorem d2_294 : decode method_4_code 294 = .ok (.if_icmp .ne 63, 3) := by decide +kernel
theorem d2_297 : decode method_4_code 297 = .ok (.new 8, 3) := by decide +kernel
theorem d2_300 : decode method_4_code 300 = .ok (.dup, 1) := by decide +kernel
theorem d2_301 : decode method_4_code 301 = .ok (.bipush 9, 2) := by decide +kernel
theorem d2_303 : decode method_4_code 303 = .ok (.newarray .char, 2) := by decide +kernel
theorem d2_305 : decode method_4_code 305 = .ok (.dup, 1) := by decide +kernel
theorem d2_306 : decode method_4_code 306 = .ok (.iconst 0, 1) := by decide +kernel
theorem d2_307 : decode method_4_code 307 = .ok (.iload 6, 2) := by decide +kernel
theorem d2_309 : decode method_4_code 309 = .ok (.castore, 1) := by decide +kernel
theorem d2_310 : decode method_4_code 310 = .ok (.dup, 1) := by decide +kernel
theorem d2_311 : decode method_4_code 311 = .ok (.iconst 1, 1) := by decide +kernel
theorem d2_312 : decode method_4_code 312 = .ok (.iload 7, 2) := by decide +kernel
theorem d2_314 : decode method_4_code 314 = .ok (.castore, 1) := by decide +kernel
theorem d2_315 : decode method_4_code 315 = .ok (.dup, 1) := by decide +kernel
theorem d2_316 : decode method_4_code 316 = .ok (.iconst 2, 1) := by decide +kernel
theorem d2_317 : decode method_4_code 317 = .ok (.iload 8, 2) := by decide +kernel
theorem d2_319 : decode method_4_code 319 = .ok (.castore, 1) := by decide +kernel
theorem d2_320 : decode method_4_code 320 = .ok (.dup, 1) := by decide +kernel
theorem d2_321 : decode method_4_code 321 = .ok (.iconst 3, 1) := by decide +kernel
theorem d2_322 : decode method_4_code 322 = .ok (.iload 9, 2) := by decide +kernel
theorem d2_324 : decode method_4_code 324 = .ok (.castore, 1) := by decide +kernel
theorem d2_325 : decode method_4_code 325 = .ok (.dup, 1) := by decide +kernel
theorem d2_326 : decode method_4_code 326 = .ok (.iconst 4, 1) := by decide +kernel
theorem d2_327 : decode method_4_code 327 = .ok (.iload 10, 2) := by decide +kernel
theorem d2_329 : decode method_4_code 329 = .ok (.castore, 1) := by decide +kernel
theorem d2_330 : decode method_4_code 330 = .ok (.dup, 1) := by decide +kernel
theorem d2_331 : decode method_4_code 331 = .ok (.iconst 5, 1) := by decide +kernel
theorem d2_332 : decode method_4_code 332 = .ok (.iload 11, 2) := by decide +kernel
theorem d2_334 : decode method_4_code 334 = .ok (.castore, 1) := by decide +kernel
theorem d2_335 : decode method_4_code 335 = .ok (.dup, 1) := by decide +kernel
theorem d2_336 : decode method_4_code 336 = .ok (.bipush 6, 2) := by decide +kernel
theorem d2_338 : decode method_4_code 338 = .ok (.iload 12, 2) := by decide +kernel
theorem d2_340 : decode method_4_code 340 = .ok (.castore, 1) := by decide +kernel
theorem d2_341 : decode method_4_code 341 = .ok (.dup, 1) := by decide +kernel
theorem d2_342 : decode method_4_code 342 = .ok (.bipush 7, 2) := by decide +kernel
theorem d2_344 : decode method_4_code 344 = .ok (.iload 13, 2) := by decide +kernel
theorem d2_346 : decode method_4_code 346 = .ok (.castore, 1) := by decide +kernel
theorem d2_347 : decode method_4_code 347 = .ok (.dup, 1) := by decide +kernel
theorem d2_348 : decode method_4_code 348 = .ok (.bipush 8, 2) := by decide +kernel
theorem d2_350 : decode method_4_code 350 = .ok (.iload 14, 2) := by decide +kernel
theorem d2_352 : decode method_4_code 352 = .ok (.castore, 1) := by decide +kernel
theorem d2_353 : decode method_4_code 353 = .ok (.invokespecial 24, 3) := by decide +kernel
theorem d2_356 : decode method_4_code 356 = .ok (.areturn, 1) := by decide +kernel
theorem d2_357 : decode method_4_code 357 = .ok (.iload_n 0, 1) := by decide +kernel
theorem d2_358 : decode method_4_code 358 = .ok (.bipush 10, 2) := by decide +kernel
theorem d2_360 : decode method_4_code 360 = .ok (.if_icmp .ne 69, 3) := by decide +kernel
theorem d2_363 : decode method_4_code 363 = .ok (.new 8, 3) := by decide +kernel
theorem d2_366 : decode method_4_code 366 = .ok (.dup, 1) := by decide +kernel
theorem d2_367 : decode method_4_code 367 = .ok (.bipush 10, 2) := by decide +kernel
theorem d2_369 : decode method_4_code 369 = .ok (.newarray .char, 2) := by decide +kernel
theorem d2_371 : decode method_4_code 371 = .ok (.dup, 1) := by decide +kernel
theorem d2_372 : decode method_4_code 372 = .ok (.iconst 0, 1) := by decide +kernel
theorem d2_373 : decode method_4_code 373 = .ok (.iload 6, 2) := by decide +kernel
theorem d2_375 : decode method_4_code 375 = .ok (.castore, 1) := by decide +kernel
theorem d2_376 : decode method_4_code 376 = .ok (.dup, 1) := by decide +kernel
theorem d2_377 : decode method_4_code 377 = .ok (.iconst 1, 1) := by decide +kernel
theorem d2_378 : decode method_4_code 378 = .ok (.iload 7, 2) := by decide +kernel
theorem d2_380 : decode method_4_code 380 = .ok (.castore, 1) := by decide +kernel
theorem d2_381 : decode method_4_code 381 = .ok (.dup, 1) := by decide +kernel
theorem d2_382 : decode method_4_code 382 = .ok (.iconst 2, 1) := by decide +kernel
theorem d2_383 : decode method_4_code 383 = .ok (.iload 8, 2) := by decide +kernel
theorem d2_385 : decode method_4_code 385 = .ok (.castore, 1) := by decide +kernel
theorem d2_386 : decode method_4_code 386 = .ok (.dup, 1) := by decide +kernel
theorem d2_387 : decode method_4_code 387 = .ok (.iconst 3, 1) := by decide +kernel
theorem d2_388 : decode method_4_code 388 = .ok (.iload 9, 2) := by decide +kernel
theorem d2_390 : decode method_4_code 390 = .ok (.castore, 1) := by decide +kernel
theorem d2_391 : decode method_4_code 391 = .ok (.dup, 1) := by decide +kernel
theorem d2_392 : decode method_4_code 392 = .ok (.iconst 4, 1) := by decide +kernel
theorem d2_393 : decode method_4_code 393 = .ok (.iload 10, 2) := by decide +kernel
theorem d2_395 : decode method_4_code 395 = .ok (.castore, 1) := by decide +kernel
theorem d2_396 : decode method_4_code 396 = .ok (.dup, 1) := by decide +kernel
theorem d2_397 : decode method_4_code 397 = .ok (.iconst 5, 1) := by decide +kernel
theorem d2_398 : decode method_4_code 398 = .ok (.iload 11, 2) := by decide +kernel
theorem d2_400 : decode method_4_code 400 = .ok (.castore, 1) := by decide +kernel
theorem d2_401 : decode method_4_code 401 = .ok (.dup, 1) := by decide +kernel
theorem d2_402 : decode method_4_code 402 = .ok (.bipush 6, 2) := by decide +kernel
theorem d2_404 : decode method_4_code 404 = .ok (.iload 12, 2) := by decide +kernel
theorem d2_406 : decode method_4_code 406 = .ok (.castore, 1) := by decide +kernel
theorem d2_407 : decode method_4_code 407 = .ok (.dup, 1) := by decide +kernel
theorem d2_408 : decode method_4_code 408 = .ok (.bipush 7, 2) := by decide +kernel
theorem d2_410 : decode method_4_code 410 = .ok (.iload 13, 2) := by decide +kernel
theorem d2_412 : decode method_4_code 412 = .ok (.castore, 1) := by decide +kernel
theorem d2_413 : decode method_4_code 413 = .ok (.dup, 1) := by decide +kernel
theorem d2_414 : decode method_4_code 414 = .ok (.bipush 8, 2) := by decide +kernel
theorem d2_416 : decode method_4_code 416 = .ok (.iload 14, 2) := by decide +kernel
theorem d2_418 : decode method_4_code 418 = .ok (.castore, 1) := by decide +kernel
theorem d2_419 : decode method_4_code 419 = .ok (.dup, 1) := by decide +kernel
theorem d2_420 : decode method_4_code 420 = .ok (.bipush 9, 2) := by decide +kernel
theorem d2_422 : decode method_4_code 422 = .ok (.iload 15, 2) := by decide +kernel
theorem d2_424 : decode method_4_code 424 = .ok (.castore, 1) := by decide +kernel
theorem d2_425 : decode method_4_code 425 = .ok (.invokespecial 24, 3) := by decide +kernel
theorem d2_428 : decode method_4_code 428 = .ok (.areturn, 1) := by decide +kernel
theorem d2_429 : decode method_4_code 429 = .ok (.iload_n 0, 1) := by decide +kernel
theorem d2_430 : decode method_4_code 430 = .ok (.bipush 11, 2) := by decide +kernel
theorem d2_432 : decode method_4_code 432 = .ok (.if_icmp .ne 75, 3) := by decide +kernel
theorem d2_435 : decode method_4_code 435 = .ok (.new 8, 3) := by decide +kernel
theorem d2_438 : decode method_4_code 438 = .ok (.dup, 1) := by decide +kernel
theorem d2_439 : decode method_4_code 439 = .ok (.bipush 11, 2) := by decide +kernel
theorem d2_441 : decode method_4_code 441 = .ok (.newarray .char, 2) := by decide +kernel
theorem d2_443 : decode method_4_code 443 = .ok (.dup, 1) := by decide +kernel
theorem d2_444 : decode method_4_code 444 = .ok (.iconst 0, 1) := by decide +kernel
theorem d2_445 : decode method_4_code 445 = .ok (.iload 6, 2) := by decide +kernel
theorem d2_447 : decode method_4_code 447 = .ok (.castore, 1) := by decide +kernel
theorem d2_448 : decode method_4_code 448 = .ok (.dup, 1) := by decide +kernel
theorem d2_449 : decode method_4_code 449 = .ok (.iconst 1, 1) := by decide +kernel
theorem d2_450 : decode method_4_code 450 = .ok (.iload 7, 2) := by decide +kernel
theorem d2_452 : decode method_4_code 452 = .ok (.castore, 1) := by decide +kernel
theorem d2_453 : decode method_4_code 453 = .ok (.dup, 1) := by decide +kernel
theorem d2_454 : decode method_4_code 454 = .ok (.iconst 2, 1) := by decide +kernel
theorem d2_455 : decode method_4_code 455 = .ok (.iload 8, 2) := by decide +kernel
theorem d2_457 : decode method_4_code 457 = .ok (.castore, 1) := by decide +kernel
theorem d2_458 : decode method_4_code 458 = .ok (.dup, 1) := by decide +kernel
theorem d2_459 : decode method_4_code 459 = .ok (.iconst 3, 1) := by decide +kernel
theorem d2_460 : decode method_4_code 460 = .ok (.iload 9, 2) := by decide +kernel
theorem d2_462 : decode method_4_code 462 = .ok (.castore, 1) := by decide +kernel
theorem d2_463 : decode method_4_code 463 = .ok (.dup, 1) := by decide +kernel
theorem d2_464 : decode method_4_code 464 = .ok (.iconst 4, 1) := by decide +kernel
theorem d2_465 : decode method_4_code 465 = .ok (.iload 10, 2) := by decide +kernel
theorem d2_467 : decode method_4_code 467 = .ok (.castore, 1) := by decide +kernel
theorem d2_468 : decode method_4_code 468 = .ok (.dup, 1) := by decide +kernel
theorem d2_469 : decode method_4_code 469 = .ok (.iconst 5, 1) := by decide +kernel
theorem d2_470 : decode method_4_code 470 = .ok (.iload 11, 2) := by decide +kernel
theorem d2_472 : decode method_4_code 472 = .ok (.castore, 1) := by decide +kernel
theorem d2_473 : decode method_4_code 473 = .ok (.dup, 1) := by decide +kernel
theorem d2_474 : decode method_4_code 474 = .ok (.bipush 6, 2) := by decide +kernel
theorem d2_476 : decode method_4_code 476 = .ok (.iload 12, 2) := by decide +kernel
theorem d2_478 : decode method_4_code 478 = .ok (.castore, 1) := by decide +kernel
theorem d2_479 : decode method_4_code 479 = .ok (.dup, 1) := by decide +kernel
theorem d2_480 : decode method_4_code 480 = .ok (.bipush 7, 2) := by decide +kernel
theorem d2_482 : decode method_4_code 482 = .ok (.iload 13, 2) := by decide +kernel
theorem d2_484 : decode method_4_code 484 = .ok (.castore, 1) := by decide +kernel
theorem d2_485 : decode method_4_code 485 = .ok (.dup, 1) := by decide +kernel
theorem d2_486 : decode method_4_code 486 = .ok (.bipush 8, 2) := by decide +kernel
theorem d2_488 : decode method_4_code 488 = .ok (.iload 14, 2) := by decide +kernel
theorem d2_490 : decode method_4_code 490 = .ok (.castore, 1) := by decide +kernel
theorem d2_491 : decode method_4_code 491 = .ok (.dup, 1) := by decide +kernel
theorem d2_492 : decode method_4_code 492 = .ok (.bipush 9, 2) := by decide +kernel
theorem d2_494 : decode method_4_code 494 = .ok (.iload 15, 2) := by decide +kernel
theorem d2_496 : decode method_4_code 496 = .ok (.castore, 1) := by decide +kernel
theorem d2_497 : decode method_4_code 497 = .ok (.dup, 1) := by decide +kernel
theorem d2_498 : decode method_4_code 498 = .ok (.bipush 10, 2) := by decide +kernel
theorem d2_500 : decode method_4_code 500 = .ok (.iload 16, 2) := by decide +kernel
theorem d2_502 : decode method_4_code 502 = .ok (.castore, 1) := by decide +kernel
theorem d2_503 : decode method_4_code 503 = .ok (.invokespecial 24, 3) := by decide +kernel
theorem d2_506 : decode method_4_code 506 = .ok (.areturn, 1) := by decide +kernel
theorem d2_507 : decode method_4_code 507 = .ok (.new 8, 3) := by decide +kernel
theorem d2_510 : decode method_4_code 510 = .ok (.dup, 1) := by decide +kernel
theorem d2_511 : decode method_4_code 511 = .ok (.bipush 12, 2) := by decide +kernel
theorem d2_513 : decode method_4_code 513 = .ok (.newarray .char, 2) := by decide +kernel
theorem d2_515 : decode method_4_code 515 = .ok (.dup, 1) := by decide +kernel
theorem d2_516 : decode method_4_code 516 = .ok (.iconst 0, 1) := by decide +kernel
theorem d2_517 : decode method_4_code 517 = .ok (.iload 6, 2) := by decide +kernel
theorem d2_519 : decode method_4_code 519 = .ok (.castore, 1) := by decide +kernel
theorem d2_520 : decode method_4_code 520 = .ok (.dup, 1) := by decide +kernel
theorem d2_521 : decode method_4_code 521 = .ok (.iconst 1, 1) := by decide +kernel
theorem d2_522 : decode method_4_code 522 = .ok (.iload 7, 2) := by decide +kernel
theorem d2_524 : decode method_4_code 524 = .ok (.castore, 1) := by decide +kernel
theorem d2_525 : decode method_4_code 525 = .ok (.dup, 1) := by decide +kernel
theorem d2_526 : decode method_4_code 526 = .ok (.iconst 2, 1) := by decide +kernel
theorem d2_527 : decode method_4_code 527 = .ok (.iload 8, 2) := by decide +kernel
theorem d2_529 : decode method_4_code 529 = .ok (.castore, 1) := by decide +kernel
theorem d2_530 : decode method_4_code 530 = .ok (.dup, 1) := by decide +kernel
theorem d2_531 : decode method_4_code 531 = .ok (.iconst 3, 1) := by decide +kernel
theorem d2_532 : decode method_4_code 532 = .ok (.iload 9, 2) := by decide +kernel
theorem d2_534 : decode method_4_code 534 = .ok (.castore, 1) := by decide +kernel
theorem d2_535 : decode method_4_code 535 = .ok (.dup, 1) := by decide +kernel
theorem d2_536 : decode method_4_code 536 = .ok (.iconst 4, 1) := by decide +kernel
theorem d2_537 : decode method_4_code 537 = .ok (.iload 10, 2) := by decide +kernel
theorem d2_539 : decode method_4_code 539 = .ok (.castore, 1) := by decide +kernel
theorem d2_540 : decode method_4_code 540 = .ok (.dup, 1) := by decide +kernel
theorem d2_541 : decode method_4_code 541 = .ok (.iconst 5, 1) := by decide +kernel
theorem d2_542 : decode method_4_code 542 = .ok (.iload 11, 2) := by decide +kernel
theorem d2_544 : decode method_4_code 544 = .ok (.castore, 1) := by decide +kernel
theorem d2_545 : decode method_4_code 545 = .ok (.dup, 1) := by decide +kernel
theorem d2_546 : decode method_4_code 546 = .ok (.bipush 6, 2) := by decide +kernel
theorem d2_548 : decode method_4_code 548 = .ok (.iload 12, 2) := by decide +kernel
theorem d2_550 : decode method_4_code 550 = .ok (.castore, 1) := by decide +kernel
theorem d2_551 : decode method_4_code 551 = .ok (.dup, 1) := by decide +kernel
theorem d2_552 : decode method_4_code 552 = .ok (.bipush 7, 2) := by decide +kernel
theorem d2_554 : decode method_4_code 554 = .ok (.iload 13, 2) := by decide +kernel
theorem d2_556 : decode method_4_code 556 = .ok (.castore, 1) := by decide +kernel
theorem d2_557 : decode method_4_code 557 = .ok (.dup, 1) := by decide +kernel
theorem d2_558 : decode method_4_code 558 = .ok (.bipush 8, 2) := by decide +kernel
theorem d2_560 : decode method_4_code 560 = .ok (.iload 14, 2) := by decide +kernel
theorem d2_562 : decode method_4_code 562 = .ok (.castore, 1) := by decide +kernel
theorem d2_563 : decode method_4_code 563 = .ok (.dup, 1) := by decide +kernel
theorem d2_564 : decode method_4_code 564 = .ok (.bipush 9, 2) := by decide +kernel
theorem d2_566 : decode method_4_code 566 = .ok (.iload 15, 2) := by decide +kernel
theorem d2_568 : decode method_4_code 568 = .ok (.castore, 1) := by decide +kernel
theorem d2_569 : decode method_4_code 569 = .ok (.dup, 1) := by decide +kernel
theorem d2_570 : decode method_4_code 570 = .ok (.bipush 10, 2) := by decide +kernel
theorem d2_572 : decode method_4_code 572 = .ok (.iload 16, 2) := by decide +kernel
theorem d2_574 : decode method_4_code 574 = .ok (.castore, 1) := by decide +kernel
theorem d2_575 : decode method_4_code 575 = .ok (.dup, 1) := by decide +kernel
theorem d2_576 : decode method_4_code 576 = .ok (.bipush 11, 2) := by decide +kernel
theorem d2_578 : decode method_4_code 578 = .ok (.iload 17, 2) := by decide +kernel
theorem d2_580 : decode method_4_code 580 = .ok (.castore, 1) := by decide +kernel
theorem d2_581 : decode method_4_code 581 = .ok (.invokespecial 24, 3) := by decide +kernel
theorem d2_584 : decode method_4_code 584 = .ok (.areturn, 1) := by decide +kernel
theorem pn_2 : plainFor (⟨"com/example/warrant/warrant/cli/PolicyFilesNamesPinLaw", "make", "(ILjava/lang/String;ZICC)Ljava/lang/String;"⟩ : MethodName) = true := plainFor_of_name (by first | (simp [plainName, overriddenIn]; done) | decide +kernel)
theorem pd_26 : parseMethodDescriptor "(ILjava/lang/String;ZICC)C" = some ⟨[.int, (.object "java/lang/String"), .boolean, .int, .char, .char], some .char⟩ := by decide +kernel
theorem pd_27 : parseMethodDescriptor "([C)V" = some ⟨[(.array .char)], none⟩ := by decide +kernel
theorem ef_2 (m : MethodId) (x0 : Int32) (x1 : Addr) (x2 : Int32) (x3 : Int32) (x4 : Int32) (x5 : Int32) : entryFrame m #[(.int x0), (.ref x1), (.int x2), (.int x3), (.int x4), (.int x5)] 18 = mkF m 0 #[.val (.int x0), .val (.ref x1), .val (.int x2), .val (.int x3), .val (.int x4), .val (.int x5), .unset, .unset, .unset, .unset, .unset, .unset, .unset, .unset, .unset, .unset, .unset, .unset] [] := by first | (simp [entryFrame, mkF, argsToLocals, Value.category]; done) | rfl
def Q2 (Z : State) (p1 : Int32) (a2 : Addr) (p3 : Int32) (p4 : Int32) (p5 : Int32) (p6 : Int32) (b2 : Addr) (bs : List Int32) (nb : Int32) (cz : Int32) (fm : Value) (kk : Nat) (h0 : Heap) (n0 : Nat) (v : Option Value) (h : Heap) (L : List Loc) : Prop := ∃ r b, v = some (.ref r) ∧ Fr n0 L ∧ Keep h0 h [] ∧ Exa Z h r "java/lang/String" ∧ Fld Z h r "java/lang/String" "coder" "B" (.int 0) ∧ Fld Z h r "java/lang/String" "value" "[B" (.ref b) ∧ AI Z h b .byte (mkL bs kk p3 p4 p5 p6)
set_option maxRecDepth 65536 in
set_option maxHeartbeats 40000000 in
theorem rm2 (l : Launch) (Z : State) (a0 : Array Value) (hw : ∀ d ∈ tables_1, d.before a0 Z = true) (ws : List Jvm.Cond) (p1 : Int32) (a2 : Addr) (p3 : Int32) (p4 : Int32) (p5 : Int32) (p6 : Int32) (b2 : Addr) (bs : List Int32) (nb : Int32) (cz : Int32) (fm : Value) (kk : Nat) (h0 : Heap) (n0 : Nat) (Z0 : n0 ≤ h0.size) (E2 : Exa Z h0 a2 "java/lang/String") (C2 : Fld Z h0 a2 "java/lang/String" "coder" "B" (.int (0 : Int32))) (W2v : Fld Z h0 a2 "java/lang/String" "value" "[B" (.ref b2)) (V2 : AI Z h0 b2 .byte bs) (hnb : nb.toInt = (bs.length : Int)) (Scs : Sta Z h0 "java/lang/String" "COMPACT_STRINGS" "Z" (.int cz)) (hcz : ¬ cz = 0) (Sf : Sta Z h0 "jdk/internal/util/Preconditions" "SIOOBE_FORMATTER" "Ljava/util/function/BiFunction;" fm) (hfm : fm.isRef = true) (hbs : Asc bs) (hd : 0 ≤ p5.toInt ∧ p5.toInt ≤ 255) (hf : 0 ≤ p6.toInt ∧ p6.toInt ≤ 255) (hk : p1.toInt = (kk : Int)) (hkk : kk = 0 ∨ kk = 7 ∨ kk = 8 ∨ kk = 9 ∨ kk = 10 ∨ kk = 11 ∨ kk = 12) :
    MetFree l (⟨"com/example/warrant/warrant/cli/PolicyFilesNamesPinLaw", "make", "(ILjava/lang/String;ZICC)Ljava/lang/String;"⟩ : MethodName) (head1 (Jvm.Cond.code (⟨"com/example/warrant/warrant/cli/PolicyFilesNamesPinLaw", "make", "(ILjava/lang/String;ZICC)Ljava/lang/String;"⟩ : MethodName) method_4_code 18 (some (.object "java/lang/String")) :: ws) ({ frames := 5, cells := 6, slots := 28, locals := 70 } : Room)) (fun a U => a = #[(.int p1), (.ref a2), (.int p3), (.int p4), (.int p5), (.int p6)] ∧ Z.Warmed39 U.vm ∧ U.heap = h0 ∧ CHv Z EL0 U.vm h0) (fun _ _ _ _ _ => True) (fun _ U o U' => ∃ v L, o = .returned v ∧ Q2 Z p1 a2 p3 p4 p5 p6 b2 bs nb cz fm kk h0 n0 v U'.heap L ∧ CHr Z EL0 U.vm U.heap U'.vm U'.heap ∧ ReturnedEndW U o U' L ({ frames := 5, cells := 6, slots := 28, locals := 70 } : Room).cells ({ frames := 5, cells := 6, slots := 28, locals := 70 } : Room).slots) := by
  refine MetFree.of_bodySF pn_2 hisR ?_
  intro p e s m args below meth c s₁ Bd hml0 hP hK
  obtain ⟨rfl, hZ, hh, hch⟩ := hP
  have hx := Bd.exec
  have hby := Bd.bytes
  have hml : c.maxLocals = 18 := hml0
  have hown : s.vm.findClass "com/example/warrant/warrant/cli/PolicyFilesNamesPinLaw" = some m.cls := findClass_of_methodNamed Bd.named
  have hnm := (name_of_methodNamed Bd.named Bd.method).1
  have hlk : meth.locks = false := BodyLoose.notSynchronized Bd
  have X0 : Stand p l e ({ frames := 5, cells := 6, slots := 28, locals := 70 } : Room) s m #[(.int p1), (.ref a2), (.int p3), (.int p4), (.int p5), (.int p6)] below meth c s₁ [] 0 0 := Stand.of_body Bd
  have e0 : s₁.heap = h0 := by rw [← hh, Bd.state]; rfl
  have N0 := Fr.nil n0
  have hEL := own_EW hw
  have CR0 : CHr Z EL0 s.vm h0 s.vm h0 := CHr.refl (hch)
  have hZw : Z.Warmed39 (s.setVm s.vm).vm := hZ
  have hownw : (s.setVm s.vm).vm.findClass "com/example/warrant/warrant/cli/PolicyFilesNamesPinLaw" = some m.cls := hown
  have X0w : Stand p l e ({ frames := 5, cells := 6, slots := 28, locals := 70 } : Room) (s.setVm s.vm) m #[(.int p1), (.ref a2), (.int p3), (.int p4), (.int p5), (.int p6)] below meth c s₁ [] 0 0 := X0
  have HS0 : s.Since s.vm h0.size := (State.WarmedH.refl s).since _
  have HK0 : h0.size ≤ h0.size := Nat.le_refl _
  show Goes p e below (OwnKH Z EL0 s (Q2 Z p1 a2 p3 p4 p5 p6 b2 bs nb cz fm kk h0 n0) ({ frames := 5, cells := 6, slots := 28, locals := 70 } : Room).cells ({ frames := 5, cells := 6, slots := 28, locals := 70 } : Room).slots) s₁ (entryFrame m #[(.int p1), (.ref a2), (.int p3), (.int p4), (.int p5), (.int p6)] 18)
  refine Goes.cast (ef_2 m p1 a2 p3 p4 p5 p6) ?_
  generalize hKK : OwnKH Z EL0 s (Q2 Z p1 a2 p3 p4 p5 p6 b2 bs nb cz fm kk h0 n0) ({ frames := 5, cells := 6, slots := 28, locals := 70 } : Room).cells ({ frames := 5, cells := 6, slots := 28, locals := 70 } : Room).slots = KK
  show Goes p e below KK s₁ (mkF m 0 #[.val (.int p1), .val (.ref a2), .val (.int p3), .val (.int p4), .val (.int p5), .val (.int p6), .unset, .unset, .unset, .unset, .unset, .unset, .unset, .unset, .unset, .unset, .unset, .unset] [])
  have w_1 := hw _ (List.mem_of_getElem? (i := 1) rfl)
  have w_2 := hw _ (List.mem_of_getElem? (i := 2) rfl)
  have w_4 := hw _ (List.mem_of_getElem? (i := 4) rfl)
  have w_5 := hw _ (List.mem_of_getElem? (i := 5) rfl)
  have w_11 := hw _ (List.mem_of_getElem? (i := 11) rfl)
  have w_16 := hw _ (List.mem_of_getElem? (i := 16) rfl)
  have w_17 := hw _ (List.mem_of_getElem? (i := 17) rfl)
  have w_18 := hw _ (List.mem_of_getElem? (i := 18) rfl)
  have w_54 := hw _ (List.mem_of_getElem? (i := 54) rfl)
  have w_55 := hw _ (List.mem_of_getElem? (i := 55) rfl)
  have w_56 := hw _ (List.mem_of_getElem? (i := 56) rfl)
  have w_57 := hw _ (List.mem_of_getElem? (i := 57) rfl)
  have w_58 := hw _ (List.mem_of_getElem? (i := 58) rfl)
  refine Goes.of (fun t => XS.iconst X0w.here hx rfl (hb hby d2_0)) ?_
  show Goes p e below KK s₁ (mkF m 1 #[.val (.int p1), .val (.ref a2), .val (.int p3), .val (.int p4), .val (.int p5), .val (.int p6), .unset, .unset, .unset, .unset, .unset, .unset, .unset, .unset, .unset, .unset, .unset, .unset] [(.int (0 : Int32))])
  refine Goes.of (fun t => XS.aloadN X0w.here hx rfl (hb hby d2_1) rfl rfl) ?_
  show Goes p e below KK s₁ (mkF m 2 #[.val (.int p1), .val (.ref a2), .val (.int p3), .val (.int p4), .val (.int p5), .val (.int p6), .unset, .unset, .unset, .unset, .unset, .unset, .unset, .unset, .unset, .unset, .unset, .unset] [(.ref a2), (.int (0 : Int32))])
  refine Goes.of (fun t => XS.iloadN X0w.here hx rfl (hb hby d2_2) rfl) ?_
  show Goes p e below KK s₁ (mkF m 3 #[.val (.int p1), .val (.ref a2), .val (.int p3), .val (.int p4), .val (.int p5), .val (.int p6), .unset, .unset, .unset, .unset, .unset, .unset, .unset, .unset, .unset, .unset, .unset, .unset] [(.int p3), (.ref a2), (.int (0 : Int32))])
  refine Goes.of (fun t => XS.iloadN X0w.here hx rfl (hb hby d2_3) rfl) ?_
  show Goes p e below KK s₁ (mkF m 4 #[.val (.int p1), .val (.ref a2), .val (.int p3), .val (.int p4), .val (.int p5), .val (.int p6), .unset, .unset, .unset, .unset, .unset, .unset, .unset, .unset, .unset, .unset, .unset, .unset] [(.int p4), (.int p3), (.ref a2), (.int (0 : Int32))])
  refine Goes.of (fun t => XS.iload X0w.here hx rfl (hb hby d2_4) rfl) ?_
  show Goes p e below KK s₁ (mkF m 6 #[.val (.int p1), .val (.ref a2), .val (.int p3), .val (.int p4), .val (.int p5), .val (.int p6), .unset, .unset, .unset, .unset, .unset, .unset, .unset, .unset, .unset, .unset, .unset, .unset] [(.int p5), (.int p4), (.int p3), (.ref a2), (.int (0 : Int32))])
  refine Goes.of (fun t => XS.iload X0w.here hx rfl (hb hby d2_6) rfl) ?_
  show Goes p e below KK s₁ (mkF m 8 #[.val (.int p1), .val (.ref a2), .val (.int p3), .val (.int p4), .val (.int p5), .val (.int p6), .unset, .unset, .unset, .unset, .unset, .unset, .unset, .unset, .unset, .unset, .unset, .unset] [(.int p6), (.int p5), (.int p4), (.int p3), (.ref a2), (.int (0 : Int32))])
  obtain ⟨_, _, ⟨T38, L38, k38, n38⟩, -, X38, ⟨Lc38, hQ38, l38, y38, z38⟩, st38⟩ := Jvm.LawKit.callS X0w hx (y := (⟨"com/example/warrant/warrant/cli/PolicyFilesNamesPinLaw", "at", "(ILjava/lang/String;ZICC)C"⟩ : MethodName)) hownw (mvT hZw w_16) (mvT hZw w_17) (mvT hZw w_11) (mvT hZw w_18) (by decide) (backOf (W := 0) (rm3 l Z a0 hw [] (0 : Int32) a2 p3 p4 p5 p6 b2 bs nb cz fm 0 h0 n0 Z0 E2 C2 W2v V2 hnb Scs hcz Sf hfm hbs hd hf rfl) hZw w_18 w_11 (by decide) (by decide)) (g := (mkF m 8 #[.val (.int p1), .val (.ref a2), .val (.int p3), .val (.int p4), .val (.int p5), .val (.int p6), .unset, .unset, .unset, .unset, .unset, .unset, .unset, .unset, .unset, .unset, .unset, .unset] [(.int p6), (.int p5), (.int p4), (.int p3), (.ref a2), (.int (0 : Int32))])) rfl (by rw [hml]; rfl) (argsL := [(.int (0 : Int32)), (.ref a2), (.int p3), (.int p4), (.int p5), (.int p6)]) (rest := []) (lenOf pd_26 rfl) rfl (by show 2 * 0 + _ ≤ _; exact Nat.le_of_eq rfl) (hb hby d2_8) (fun _ _ => ⟨rfl, e0, (by decide : 0 + 0 ≤ _), (by decide : 0 + 0 ≤ _)⟩)
  dsimp only [Pt.U, Pt.locs, Pt.cells, Pt.slots] at X38 l38 y38 z38 st38 hQ38
  subst y38 z38
  obtain ⟨rfl, N38q, e38⟩ := hQ38
  have N38 : Fr n0 L38 := by rw [l38]; exact Fr.app N0 N38q
  refine Goes.of st38 ?_
  show Goes p e below KK T38 (mkF m 11 #[.val (.int p1), .val (.ref a2), .val (.int p3), .val (.int p4), .val (.int p5), .val (.int p6), .unset, .unset, .unset, .unset, .unset, .unset, .unset, .unset, .unset, .unset, .unset, .unset] [(.int (atF bs 0 p3 p4 p5 p6))])
  refine Goes.of (fun t => XS.istore X38.here hx rfl (hb hby d2_11) rfl (l' := #[.val (.int p1), .val (.ref a2), .val (.int p3), .val (.int p4), .val (.int p5), .val (.int p6), .val (.int (atF bs 0 p3 p4 p5 p6)), .unset, .unset, .unset, .unset, .unset, .unset, .unset, .unset, .unset, .unset, .unset]) rfl) ?_
  show Goes p e below KK T38 (mkF m 13 #[.val (.int p1), .val (.ref a2), .val (.int p3), .val (.int p4), .val (.int p5), .val (.int p6), .val (.int (atF bs 0 p3 p4 p5 p6)), .unset, .unset, .unset, .unset, .unset, .unset, .unset, .unset, .unset, .unset, .unset] [])
  refine Goes.of (fun t => XS.iconst X38.here hx rfl (hb hby d2_13)) ?_
  show Goes p e below KK T38 (mkF m 14 #[.val (.int p1), .val (.ref a2), .val (.int p3), .val (.int p4), .val (.int p5), .val (.int p6), .val (.int (atF bs 0 p3 p4 p5 p6)), .unset, .unset, .unset, .unset, .unset, .unset, .unset, .unset, .unset, .unset, .unset] [(.int (1 : Int32))])
  refine Goes.of (fun t => XS.aloadN X38.here hx rfl (hb hby d2_14) rfl rfl) ?_
  show Goes p e below KK T38 (mkF m 15 #[.val (.int p1), .val (.ref a2), .val (.int p3), .val (.int p4), .val (.int p5), .val (.int p6), .val (.int (atF bs 0 p3 p4 p5 p6)), .unset, .unset, .unset, .unset, .unset, .unset, .unset, .unset, .unset, .unset, .unset] [(.ref a2), (.int (1 : Int32))])
  refine Goes.of (fun t => XS.iloadN X38.here hx rfl (hb hby d2_15) rfl) ?_
  show Goes p e below KK T38 (mkF m 16 #[.val (.int p1), .val (.ref a2), .val (.int p3), .val (.int p4), .val (.int p5), .val (.int p6), .val (.int (atF bs 0 p3 p4 p5 p6)), .unset, .unset, .unset, .unset, .unset, .unset, .unset, .unset, .unset, .unset, .unset] [(.int p3), (.ref a2), (.int (1 : Int32))])
  refine Goes.of (fun t => XS.iloadN X38.here hx rfl (hb hby d2_16) rfl) ?_
  show Goes p e below KK T38 (mkF m 17 #[.val (.int p1), .val (.ref a2), .val (.int p3), .val (.int p4), .val (.int p5), .val (.int p6), .val (.int (atF bs 0 p3 p4 p5 p6)), .unset, .unset, .unset, .unset, .unset, .unset, .unset, .unset, .unset, .unset, .unset] [(.int p4), (.int p3), (.ref a2), (.int (1 : Int32))])
  refine Goes.of (fun t => XS.iload X38.here hx rfl (hb hby d2_17) rfl) ?_
  show Goes p e below KK T38 (mkF m 19 #[.val (.int p1), .val (.ref a2), .val (.int p3), .val (.int p4), .val (.int p5), .val (.int p6), .val (.int (atF bs 0 p3 p4 p5 p6)), .unset, .unset, .unset, .unset, .unset, .unset, .unset, .unset, .unset, .unset, .unset] [(.int p5), (.int p4), (.int p3), (.ref a2), (.int (1 : Int32))])
  refine Goes.of (fun t => XS.iload X38.here hx rfl (hb hby d2_19) rfl) ?_
  show Goes p e below KK T38 (mkF m 21 #[.val (.int p1), .val (.ref a2), .val (.int p3), .val (.int p4), .val (.int p5), .val (.int p6), .val (.int (atF bs 0 p3 p4 p5 p6)), .unset, .unset, .unset, .unset, .unset, .unset, .unset, .unset, .unset, .unset, .unset] [(.int p6), (.int p5), (.int p4), (.int p3), (.ref a2), (.int (1 : Int32))])
  obtain ⟨_, _, ⟨T39, L39, k39, n39⟩, -, X39, ⟨Lc39, hQ39, l39, y39, z39⟩, st39⟩ := Jvm.LawKit.callS X38 hx (y := (⟨"com/example/warrant/warrant/cli/PolicyFilesNamesPinLaw", "at", "(ILjava/lang/String;ZICC)C"⟩ : MethodName)) hownw (mvT hZw w_16) (mvT hZw w_17) (mvT hZw w_11) (mvT hZw w_18) (by decide) (backOf (W := 0) (rm3 l Z a0 hw [] (1 : Int32) a2 p3 p4 p5 p6 b2 bs nb cz fm 1 h0 n0 Z0 E2 C2 W2v V2 hnb Scs hcz Sf hfm hbs hd hf rfl) hZw w_18 w_11 (by decide) (by decide)) (g := (mkF m 21 #[.val (.int p1), .val (.ref a2), .val (.int p3), .val (.int p4), .val (.int p5), .val (.int p6), .val (.int (atF bs 0 p3 p4 p5 p6)), .unset, .unset, .unset, .unset, .unset, .unset, .unset, .unset, .unset, .unset, .unset] [(.int p6), (.int p5), (.int p4), (.int p3), (.ref a2), (.int (1 : Int32))])) rfl (by rw [hml]; rfl) (argsL := [(.int (1 : Int32)), (.ref a2), (.int p3), (.int p4), (.int p5), (.int p6)]) (rest := []) (lenOf pd_26 rfl) rfl (by show 2 * 0 + _ ≤ _; exact Nat.le_of_eq rfl) (hb hby d2_21) (fun _ _ => ⟨rfl, e38, (by decide : 0 + 0 ≤ _), (by decide : 0 + 0 ≤ _)⟩)
  dsimp only [Pt.U, Pt.locs, Pt.cells, Pt.slots] at X39 l39 y39 z39 st39 hQ39
  subst y39 z39
  obtain ⟨rfl, N39q, e39⟩ := hQ39
  have N39 : Fr n0 L39 := by rw [l39]; exact Fr.app N38 N39q
  refine Goes.of st39 ?_
  show Goes p e below KK T39 (mkF m 24 #[.val (.int p1), .val (.ref a2), .val (.int p3), .val (.int p4), .val (.int p5), .val (.int p6), .val (.int (atF bs 0 p3 p4 p5 p6)), .unset, .unset, .unset, .unset, .unset, .unset, .unset, .unset, .unset, .unset, .unset] [(.int (atF bs 1 p3 p4 p5 p6))])
  refine Goes.of (fun t => XS.istore X39.here hx rfl (hb hby d2_24) rfl (l' := #[.val (.int p1), .val (.ref a2), .val (.int p3), .val (.int p4), .val (.int p5), .val (.int p6), .val (.int (atF bs 0 p3 p4 p5 p6)), .val (.int (atF bs 1 p3 p4 p5 p6)), .unset, .unset, .unset, .unset, .unset, .unset, .unset, .unset, .unset, .unset]) rfl) ?_
  show Goes p e below KK T39 (mkF m 26 #[.val (.int p1), .val (.ref a2), .val (.int p3), .val (.int p4), .val (.int p5), .val (.int p6), .val (.int (atF bs 0 p3 p4 p5 p6)), .val (.int (atF bs 1 p3 p4 p5 p6)), .unset, .unset, .unset, .unset, .unset, .unset, .unset, .unset, .unset, .unset] [])
  refine Goes.of (fun t => XS.iconst X39.here hx rfl (hb hby d2_26)) ?_
  show Goes p e below KK T39 (mkF m 27 #[.val (.int p1), .val (.ref a2), .val (.int p3), .val (.int p4), .val (.int p5), .val (.int p6), .val (.int (atF bs 0 p3 p4 p5 p6)), .val (.int (atF bs 1 p3 p4 p5 p6)), .unset, .unset, .unset, .unset, .unset, .unset, .unset, .unset, .unset, .unset] [(.int (2 : Int32))])
  refine Goes.of (fun t => XS.aloadN X39.here hx rfl (hb hby d2_27) rfl rfl) ?_
  show Goes p e below KK T39 (mkF m 28 #[.val (.int p1), .val (.ref a2), .val (.int p3), .val (.int p4), .val (.int p5), .val (.int p6), .val (.int (atF bs 0 p3 p4 p5 p6)), .val (.int (atF bs 1 p3 p4 p5 p6)), .unset, .unset, .unset, .unset, .unset, .unset, .unset, .unset, .unset, .unset] [(.ref a2), (.int (2 : Int32))])
  refine Goes.of (fun t => XS.iloadN X39.here hx rfl (hb hby d2_28) rfl) ?_
  show Goes p e below KK T39 (mkF m 29 #[.val (.int p1), .val (.ref a2), .val (.int p3), .val (.int p4), .val (.int p5), .val (.int p6), .val (.int (atF bs 0 p3 p4 p5 p6)), .val (.int (atF bs 1 p3 p4 p5 p6)), .unset, .unset, .unset, .unset, .unset, .unset, .unset, .unset, .unset, .unset] [(.int p3), (.ref a2), (.int (2 : Int32))])
  refine Goes.of (fun t => XS.iloadN X39.here hx rfl (hb hby d2_29) rfl) ?_
  show Goes p e below KK T39 (mkF m 30 #[.val (.int p1), .val (.ref a2), .val (.int p3), .val (.int p4), .val (.int p5), .val (.int p6), .val (.int (atF bs 0 p3 p4 p5 p6)), .val (.int (atF bs 1 p3 p4 p5 p6)), .unset, .unset, .unset, .unset, .unset, .unset, .unset, .unset, .unset, .unset] [(.int p4), (.int p3), (.ref a2), (.int (2 : Int32))])
  refine Goes.of (fun t => XS.iload X39.here hx rfl (hb hby d2_30) rfl) ?_
  show Goes p e below KK T39 (mkF m 32 #[.val (.int p1), .val (.ref a2), .val (.int p3), .val (.int p4), .val (.int p5), .val (.int p6), .val (.int (atF bs 0 p3 p4 p5 p6)), .val (.int (atF bs 1 p3 p4 p5 p6)), .unset, .unset, .unset, .unset, .unset, .unset, .unset, .unset, .unset, .unset] [(.int p5), (.int p4), (.int p3), (.ref a2), (.int (2 : Int32))])
  refine Goes.of (fun t => XS.iload X39.here hx rfl (hb hby d2_32) rfl) ?_
  show Goes p e below KK T39 (mkF m 34 #[.val (.int p1), .val (.ref a2), .val (.int p3), .val (.int p4), .val (.int p5), .val (.int p6), .val (.int (atF bs 0 p3 p4 p5 p6)), .val (.int (atF bs 1 p3 p4 p5 p6)), .unset, .unset, .unset, .unset, .unset, .unset, .unset, .unset, .unset, .unset] [(.int p6), (.int p5), (.int p4), (.int p3), (.ref a2), (.int (2 : Int32))])
  obtain ⟨_, _, ⟨T40, L40, k40, n40⟩, -, X40, ⟨Lc40, hQ40, l40, y40, z40⟩, st40⟩ := Jvm.LawKit.callS X39 hx (y := (⟨"com/example/warrant/warrant/cli/PolicyFilesNamesPinLaw", "at", "(ILjava/lang/String;ZICC)C"⟩ : MethodName)) hownw (mvT hZw w_16) (mvT hZw w_17) (mvT hZw w_11) (mvT hZw w_18) (by decide) (backOf (W := 0) (rm3 l Z a0 hw [] (2 : Int32) a2 p3 p4 p5 p6 b2 bs nb cz fm 2 h0 n0 Z0 E2 C2 W2v V2 hnb Scs hcz Sf hfm hbs hd hf rfl) hZw w_18 w_11 (by decide) (by decide)) (g := (mkF m 34 #[.val (.int p1), .val (.ref a2), .val (.int p3), .val (.int p4), .val (.int p5), .val (.int p6), .val (.int (atF bs 0 p3 p4 p5 p6)), .val (.int (atF bs 1 p3 p4 p5 p6)), .unset, .unset, .unset, .unset, .unset, .unset, .unset, .unset, .unset, .unset] [(.int p6), (.int p5), (.int p4), (.int p3), (.ref a2), (.int (2 : Int32))])) rfl (by rw [hml]; rfl) (argsL := [(.int (2 : Int32)), (.ref a2), (.int p3), (.int p4), (.int p5), (.int p6)]) (rest := []) (lenOf pd_26 rfl) rfl (by show 2 * 0 + _ ≤ _; exact Nat.le_of_eq rfl) (hb hby d2_34) (fun _ _ => ⟨rfl, e39, (by decide : 0 + 0 ≤ _), (by decide : 0 + 0 ≤ _)⟩)
  dsimp only [Pt.U, Pt.locs, Pt.cells, Pt.slots] at X40 l40 y40 z40 st40 hQ40
  subst y40 z40
  obtain ⟨rfl, N40q, e40⟩ := hQ40
  have N40 : Fr n0 L40 := by rw [l40]; exact Fr.app N39 N40q
  refine Goes.of st40 ?_
  show Goes p e below KK T40 (mkF m 37 #[.val (.int p1), .val (.ref a2), .val (.int p3), .val (.int p4), .val (.int p5), .val (.int p6), .val (.int (atF bs 0 p3 p4 p5 p6)), .val (.int (atF bs 1 p3 p4 p5 p6)), .unset, .unset, .unset, .unset, .unset, .unset, .unset, .unset, .unset, .unset] [(.int (atF bs 2 p3 p4 p5 p6))])
  refine Goes.of (fun t => XS.istore X40.here hx rfl (hb hby d2_37) rfl (l' := #[.val (.int p1), .val (.ref a2), .val (.int p3), .val (.int p4), .val (.int p5), .val (.int p6), .val (.int (atF bs 0 p3 p4 p5 p6)), .val (.int (atF bs 1 p3 p4 p5 p6)), .val (.int (atF bs 2 p3 p4 p5 p6)), .unset, .unset, .unset, .unset, .unset, .unset, .unset, .unset, .unset]) rfl) ?_
  show Goes p e below KK T40 (mkF m 39 #[.val (.int p1), .val (.ref a2), .val (.int p3), .val (.int p4), .val (.int p5), .val (.int p6), .val (.int (atF bs 0 p3 p4 p5 p6)), .val (.int (atF bs 1 p3 p4 p5 p6)), .val (.int (atF bs 2 p3 p4 p5 p6)), .unset, .unset, .unset, .unset, .unset, .unset, .unset, .unset, .unset] [])
  refine Goes.of (fun t => XS.iconst X40.here hx rfl (hb hby d2_39)) ?_
  show Goes p e below KK T40 (mkF m 40 #[.val (.int p1), .val (.ref a2), .val (.int p3), .val (.int p4), .val (.int p5), .val (.int p6), .val (.int (atF bs 0 p3 p4 p5 p6)), .val (.int (atF bs 1 p3 p4 p5 p6)), .val (.int (atF bs 2 p3 p4 p5 p6)), .unset, .unset, .unset, .unset, .unset, .unset, .unset, .unset, .unset] [(.int (3 : Int32))])
  refine Goes.of (fun t => XS.aloadN X40.here hx rfl (hb hby d2_40) rfl rfl) ?_
  show Goes p e below KK T40 (mkF m 41 #[.val (.int p1), .val (.ref a2), .val (.int p3), .val (.int p4), .val (.int p5), .val (.int p6), .val (.int (atF bs 0 p3 p4 p5 p6)), .val (.int (atF bs 1 p3 p4 p5 p6)), .val (.int (atF bs 2 p3 p4 p5 p6)), .unset, .unset, .unset, .unset, .unset, .unset, .unset, .unset, .unset] [(.ref a2), (.int (3 : Int32))])
  refine Goes.of (fun t => XS.iloadN X40.here hx rfl (hb hby d2_41) rfl) ?_
  show Goes p e below KK T40 (mkF m 42 #[.val (.int p1), .val (.ref a2), .val (.int p3), .val (.int p4), .val (.int p5), .val (.int p6), .val (.int (atF bs 0 p3 p4 p5 p6)), .val (.int (atF bs 1 p3 p4 p5 p6)), .val (.int (atF bs 2 p3 p4 p5 p6)), .unset, .unset, .unset, .unset, .unset, .unset, .unset, .unset, .unset] [(.int p3), (.ref a2), (.int (3 : Int32))])
  refine Goes.of (fun t => XS.iloadN X40.here hx rfl (hb hby d2_42) rfl) ?_
  show Goes p e below KK T40 (mkF m 43 #[.val (.int p1), .val (.ref a2), .val (.int p3), .val (.int p4), .val (.int p5), .val (.int p6), .val (.int (atF bs 0 p3 p4 p5 p6)), .val (.int (atF bs 1 p3 p4 p5 p6)), .val (.int (atF bs 2 p3 p4 p5 p6)), .unset, .unset, .unset, .unset, .unset, .unset, .unset, .unset, .unset] [(.int p4), (.int p3), (.ref a2), (.int (3 : Int32))])
  refine Goes.of (fun t => XS.iload X40.here hx rfl (hb hby d2_43) rfl) ?_
  show Goes p e below KK T40 (mkF m 45 #[.val (.int p1), .val (.ref a2), .val (.int p3), .val (.int p4), .val (.int p5), .val (.int p6), .val (.int (atF bs 0 p3 p4 p5 p6)), .val (.int (atF bs 1 p3 p4 p5 p6)), .val (.int (atF bs 2 p3 p4 p5 p6)), .unset, .unset, .unset, .unset, .unset, .unset, .unset, .unset, .unset] [(.int p5), (.int p4), (.int p3), (.ref a2), (.int (3 : Int32))])
  refine Goes.of (fun t => XS.iload X40.here hx rfl (hb hby d2_45) rfl) ?_
  show Goes p e below KK T40 (mkF m 47 #[.val (.int p1), .val (.ref a2), .val (.int p3), .val (.int p4), .val (.int p5), .val (.int p6), .val (.int (atF bs 0 p3 p4 p5 p6)), .val (.int (atF bs 1 p3 p4 p5 p6)), .val (.int (atF bs 2 p3 p4 p5 p6)), .unset, .unset, .unset, .unset, .unset, .unset, .unset, .unset, .unset] [(.int p6), (.int p5), (.int p4), (.int p3), (.ref a2), (.int (3 : Int32))])
  obtain ⟨_, _, ⟨T41, L41, k41, n41⟩, -, X41, ⟨Lc41, hQ41, l41, y41, z41⟩, st41⟩ := Jvm.LawKit.callS X40 hx (y := (⟨"com/example/warrant/warrant/cli/PolicyFilesNamesPinLaw", "at", "(ILjava/lang/String;ZICC)C"⟩ : MethodName)) hownw (mvT hZw w_16) (mvT hZw w_17) (mvT hZw w_11) (mvT hZw w_18) (by decide) (backOf (W := 0) (rm3 l Z a0 hw [] (3 : Int32) a2 p3 p4 p5 p6 b2 bs nb cz fm 3 h0 n0 Z0 E2 C2 W2v V2 hnb Scs hcz Sf hfm hbs hd hf rfl) hZw w_18 w_11 (by decide) (by decide)) (g := (mkF m 47 #[.val (.int p1), .val (.ref a2), .val (.int p3), .val (.int p4), .val (.int p5), .val (.int p6), .val (.int (atF bs 0 p3 p4 p5 p6)), .val (.int (atF bs 1 p3 p4 p5 p6)), .val (.int (atF bs 2 p3 p4 p5 p6)), .unset, .unset, .unset, .unset, .unset, .unset, .unset, .unset, .unset] [(.int p6), (.int p5), (.int p4), (.int p3), (.ref a2), (.int (3 : Int32))])) rfl (by rw [hml]; rfl) (argsL := [(.int (3 : Int32)), (.ref a2), (.int p3), (.int p4), (.int p5), (.int p6)]) (rest := []) (lenOf pd_26 rfl) rfl (by show 2 * 0 + _ ≤ _; exact Nat.le_of_eq rfl) (hb hby d2_47) (fun _ _ => ⟨rfl, e40, (by decide : 0 + 0 ≤ _), (by decide : 0 + 0 ≤ _)⟩)
  dsimp only [Pt.U, Pt.locs, Pt.cells, Pt.slots] at X41 l41 y41 z41 st41 hQ41
  subst y41 z41
  obtain ⟨rfl, N41q, e41⟩ := hQ41
  have N41 : Fr n0 L41 := by rw [l41]; exact Fr.app N40 N41q
  refine Goes.of st41 ?_
  show Goes p e below KK T41 (mkF m 50 #[.val (.int p1), .val (.ref a2), .val (.int p3), .val (.int p4), .val (.int p5), .val (.int p6), .val (.int (atF bs 0 p3 p4 p5 p6)), .val (.int (atF bs 1 p3 p4 p5 p6)), .val (.int (atF bs 2 p3 p4 p5 p6)), .unset, .unset, .unset, .unset, .unset, .unset, .unset, .unset, .unset] [(.int (atF bs 3 p3 p4 p5 p6))])
  refine Goes.of (fun t => XS.istore X41.here hx rfl (hb hby d2_50) rfl (l' := #[.val (.int p1), .val (.ref a2), .val (.int p3), .val (.int p4), .val (.int p5), .val (.int p6), .val (.int (atF bs 0 p3 p4 p5 p6)), .val (.int (atF bs 1 p3 p4 p5 p6)), .val (.int (atF bs 2 p3 p4 p5 p6)), .val (.int (atF bs 3 p3 p4 p5 p6)), .unset, .unset, .unset, .unset, .unset, .unset, .unset, .unset]) rfl) ?_
  show Goes p e below KK T41 (mkF m 52 #[.val (.int p1), .val (.ref a2), .val (.int p3), .val (.int p4), .val (.int p5), .val (.int p6), .val (.int (atF bs 0 p3 p4 p5 p6)), .val (.int (atF bs 1 p3 p4 p5 p6)), .val (.int (atF bs 2 p3 p4 p5 p6)), .val (.int (atF bs 3 p3 p4 p5 p6)), .unset, .unset, .unset, .unset, .unset, .unset, .unset, .unset] [])
  refine Goes.of (fun t => XS.iconst X41.here hx rfl (hb hby d2_52)) ?_
  show Goes p e below KK T41 (mkF m 53 #[.val (.int p1), .val (.ref a2), .val (.int p3), .val (.int p4), .val (.int p5), .val (.int p6), .val (.int (atF bs 0 p3 p4 p5 p6)), .val (.int (atF bs 1 p3 p4 p5 p6)), .val (.int (atF bs 2 p3 p4 p5 p6)), .val (.int (atF bs 3 p3 p4 p5 p6)), .unset, .unset, .unset, .unset, .unset, .unset, .unset, .unset] [(.int (4 : Int32))])
  refine Goes.of (fun t => XS.aloadN X41.here hx rfl (hb hby d2_53) rfl rfl) ?_
  show Goes p e below KK T41 (mkF m 54 #[.val (.int p1), .val (.ref a2), .val (.int p3), .val (.int p4), .val (.int p5), .val (.int p6), .val (.int (atF bs 0 p3 p4 p5 p6)), .val (.int (atF bs 1 p3 p4 p5 p6)), .val (.int (atF bs 2 p3 p4 p5 p6)), .val (.int (atF bs 3 p3 p4 p5 p6)), .unset, .unset, .unset, .unset, .unset, .unset, .unset, .unset] [(.ref a2), (.int (4 : Int32))])
  refine Goes.of (fun t => XS.iloadN X41.here hx rfl (hb hby d2_54) rfl) ?_
  show Goes p e below KK T41 (mkF m 55 #[.val (.int p1), .val (.ref a2), .val (.int p3), .val (.int p4), .val (.int p5), .val (.int p6), .val (.int (atF bs 0 p3 p4 p5 p6)), .val (.int (atF bs 1 p3 p4 p5 p6)), .val (.int (atF bs 2 p3 p4 p5 p6)), .val (.int (atF bs 3 p3 p4 p5 p6)), .unset, .unset, .unset, .unset, .unset, .unset, .unset, .unset] [(.int p3), (.ref a2), (.int (4 : Int32))])
  refine Goes.of (fun t => XS.iloadN X41.here hx rfl (hb hby d2_55) rfl) ?_
  show Goes p e below KK T41 (mkF m 56 #[.val (.int p1), .val (.ref a2), .val (.int p3), .val (.int p4), .val (.int p5), .val (.int p6), .val (.int (atF bs 0 p3 p4 p5 p6)), .val (.int (atF bs 1 p3 p4 p5 p6)), .val (.int (atF bs 2 p3 p4 p5 p6)), .val (.int (atF bs 3 p3 p4 p5 p6)), .unset, .unset, .unset, .unset, .unset, .unset, .unset, .unset] [(.int p4), (.int p3), (.ref a2), (.int (4 : Int32))])
  refine Goes.of (fun t => XS.iload X41.here hx rfl (hb hby d2_56) rfl) ?_
  show Goes p e below KK T41 (mkF m 58 #[.val (.int p1), .val (.ref a2), .val (.int p3), .val (.int p4), .val (.int p5), .val (.int p6), .val (.int (atF bs 0 p3 p4 p5 p6)), .val (.int (atF bs 1 p3 p4 p5 p6)), .val (.int (atF bs 2 p3 p4 p5 p6)), .val (.int (atF bs 3 p3 p4 p5 p6)), .unset, .unset, .unset, .unset, .unset, .unset, .unset, .unset] [(.int p5), (.int p4), (.int p3), (.ref a2), (.int (4 : Int32))])
  refine Goes.of (fun t => XS.iload X41.here hx rfl (hb hby d2_58) rfl) ?_
  show Goes p e below KK T41 (mkF m 60 #[.val (.int p1), .val (.ref a2), .val (.int p3), .val (.int p4), .val (.int p5), .val (.int p6), .val (.int (atF bs 0 p3 p4 p5 p6)), .val (.int (atF bs 1 p3 p4 p5 p6)), .val (.int (atF bs 2 p3 p4 p5 p6)), .val (.int (atF bs 3 p3 p4 p5 p6)), .unset, .unset, .unset, .unset, .unset, .unset, .unset, .unset] [(.int p6), (.int p5), (.int p4), (.int p3), (.ref a2), (.int (4 : Int32))])
  obtain ⟨_, _, ⟨T42, L42, k42, n42⟩, -, X42, ⟨Lc42, hQ42, l42, y42, z42⟩, st42⟩ := Jvm.LawKit.callS X41 hx (y := (⟨"com/example/warrant/warrant/cli/PolicyFilesNamesPinLaw", "at", "(ILjava/lang/String;ZICC)C"⟩ : MethodName)) hownw (mvT hZw w_16) (mvT hZw w_17) (mvT hZw w_11) (mvT hZw w_18) (by decide) (backOf (W := 0) (rm3 l Z a0 hw [] (4 : Int32) a2 p3 p4 p5 p6 b2 bs nb cz fm 4 h0 n0 Z0 E2 C2 W2v V2 hnb Scs hcz Sf hfm hbs hd hf rfl) hZw w_18 w_11 (by decide) (by decide)) (g := (mkF m 60 #[.val (.int p1), .val (.ref a2), .val (.int p3), .val (.int p4), .val (.int p5), .val (.int p6), .val (.int (atF bs 0 p3 p4 p5 p6)), .val (.int (atF bs 1 p3 p4 p5 p6)), .val (.int (atF bs 2 p3 p4 p5 p6)), .val (.int (atF bs 3 p3 p4 p5 p6)), .unset, .unset, .unset, .unset, .unset, .unset, .unset, .unset] [(.int p6), (.int p5), (.int p4), (.int p3), (.ref a2), (.int (4 : Int32))])) rfl (by rw [hml]; rfl) (argsL := [(.int (4 : Int32)), (.ref a2), (.int p3), (.int p4), (.int p5), (.int p6)]) (rest := []) (lenOf pd_26 rfl) rfl (by show 2 * 0 + _ ≤ _; exact Nat.le_of_eq rfl) (hb hby d2_60) (fun _ _ => ⟨rfl, e41, (by decide : 0 + 0 ≤ _), (by decide : 0 + 0 ≤ _)⟩)
  dsimp only [Pt.U, Pt.locs, Pt.cells, Pt.slots] at X42 l42 y42 z42 st42 hQ42
  subst y42 z42
  obtain ⟨rfl, N42q, e42⟩ := hQ42
  have N42 : Fr n0 L42 := by rw [l42]; exact Fr.app N41 N42q
  refine Goes.of st42 ?_
  show Goes p e below KK T42 (mkF m 63 #[.val (.int p1), .val (.ref a2), .val (.int p3), .val (.int p4), .val (.int p5), .val (.int p6), .val (.int (atF bs 0 p3 p4 p5 p6)), .val (.int (atF bs 1 p3 p4 p5 p6)), .val (.int (atF bs 2 p3 p4 p5 p6)), .val (.int (atF bs 3 p3 p4 p5 p6)), .unset, .unset, .unset, .unset, .unset, .unset, .unset, .unset] [(.int (atF bs 4 p3 p4 p5 p6))])
  refine Goes.of (fun t => XS.istore X42.here hx rfl (hb hby d2_63) rfl (l' := #[.val (.int p1), .val (.ref a2), .val (.int p3), .val (.int p4), .val (.int p5), .val (.int p6), .val (.int (atF bs 0 p3 p4 p5 p6)), .val (.int (atF bs 1 p3 p4 p5 p6)), .val (.int (atF bs 2 p3 p4 p5 p6)), .val (.int (atF bs 3 p3 p4 p5 p6)), .val (.int (atF bs 4 p3 p4 p5 p6)), .unset, .unset, .unset, .unset, .unset, .unset, .unset]) rfl) ?_
  show Goes p e below KK T42 (mkF m 65 #[.val (.int p1), .val (.ref a2), .val (.int p3), .val (.int p4), .val (.int p5), .val (.int p6), .val (.int (atF bs 0 p3 p4 p5 p6)), .val (.int (atF bs 1 p3 p4 p5 p6)), .val (.int (atF bs 2 p3 p4 p5 p6)), .val (.int (atF bs 3 p3 p4 p5 p6)), .val (.int (atF bs 4 p3 p4 p5 p6)), .unset, .unset, .unset, .unset, .unset, .unset, .unset] [])
  refine Goes.of (fun t => XS.iconst X42.here hx rfl (hb hby d2_65)) ?_
  show Goes p e below KK T42 (mkF m 66 #[.val (.int p1), .val (.ref a2), .val (.int p3), .val (.int p4), .val (.int p5), .val (.int p6), .val (.int (atF bs 0 p3 p4 p5 p6)), .val (.int (atF bs 1 p3 p4 p5 p6)), .val (.int (atF bs 2 p3 p4 p5 p6)), .val (.int (atF bs 3 p3 p4 p5 p6)), .val (.int (atF bs 4 p3 p4 p5 p6)), .unset, .unset, .unset, .unset, .unset, .unset, .unset] [(.int (5 : Int32))])
  refine Goes.of (fun t => XS.aloadN X42.here hx rfl (hb hby d2_66) rfl rfl) ?_
  show Goes p e below KK T42 (mkF m 67 #[.val (.int p1), .val (.ref a2), .val (.int p3), .val (.int p4), .val (.int p5), .val (.int p6), .val (.int (atF bs 0 p3 p4 p5 p6)), .val (.int (atF bs 1 p3 p4 p5 p6)), .val (.int (atF bs 2 p3 p4 p5 p6)), .val (.int (atF bs 3 p3 p4 p5 p6)), .val (.int (atF bs 4 p3 p4 p5 p6)), .unset, .unset, .unset, .unset, .unset, .unset, .unset] [(.ref a2), (.int (5 : Int32))])
  refine Goes.of (fun t => XS.iloadN X42.here hx rfl (hb hby d2_67) rfl) ?_
  show Goes p e below KK T42 (mkF m 68 #[.val (.int p1), .val (.ref a2), .val (.int p3), .val (.int p4), .val (.int p5), .val (.int p6), .val (.int (atF bs 0 p3 p4 p5 p6)), .val (.int (atF bs 1 p3 p4 p5 p6)), .val (.int (atF bs 2 p3 p4 p5 p6)), .val (.int (atF bs 3 p3 p4 p5 p6)), .val (.int (atF bs 4 p3 p4 p5 p6)), .unset, .unset, .unset, .unset, .unset, .unset, .unset] [(.int p3), (.ref a2), (.int (5 : Int32))])
  refine Goes.of (fun t => XS.iloadN X42.here hx rfl (hb hby d2_68) rfl) ?_
  show Goes p e below KK T42 (mkF m 69 #[.val (.int p1), .val (.ref a2), .val (.int p3), .val (.int p4), .val (.int p5), .val (.int p6), .val (.int (atF bs 0 p3 p4 p5 p6)), .val (.int (atF bs 1 p3 p4 p5 p6)), .val (.int (atF bs 2 p3 p4 p5 p6)), .val (.int (atF bs 3 p3 p4 p5 p6)), .val (.int (atF bs 4 p3 p4 p5 p6)), .unset, .unset, .unset, .unset, .unset, .unset, .unset] [(.int p4), (.int p3), (.ref a2), (.int (5 : Int32))])
  refine Goes.of (fun t => XS.iload X42.here hx rfl (hb hby d2_69) rfl) ?_
  show Goes p e below KK T42 (mkF m 71 #[.val (.int p1), .val (.ref a2), .val (.int p3), .val (.int p4), .val (.int p5), .val (.int p6), .val (.int (atF bs 0 p3 p4 p5 p6)), .val (.int (atF bs 1 p3 p4 p5 p6)), .val (.int (atF bs 2 p3 p4 p5 p6)), .val (.int (atF bs 3 p3 p4 p5 p6)), .val (.int (atF bs 4 p3 p4 p5 p6)), .unset, .unset, .unset, .unset, .unset, .unset, .unset] [(.int p5), (.int p4), (.int p3), (.ref a2), (.int (5 : Int32))])
  refine Goes.of (fun t => XS.iload X42.here hx rfl (hb hby d2_71) rfl) ?_
  show Goes p e below KK T42 (mkF m 73 #[.val (.int p1), .val (.ref a2), .val (.int p3), .val (.int p4), .val (.int p5), .val (.int p6), .val (.int (atF bs 0 p3 p4 p5 p6)), .val (.int (atF bs 1 p3 p4 p5 p6)), .val (.int (atF bs 2 p3 p4 p5 p6)), .val (.int (atF bs 3 p3 p4 p5 p6)), .val (.int (atF bs 4 p3 p4 p5 p6)), .unset, .unset, .unset, .unset, .unset, .unset, .unset] [(.int p6), (.int p5), (.int p4), (.int p3), (.ref a2), (.int (5 : Int32))])
  obtain ⟨_, _, ⟨T43, L43, k43, n43⟩, -, X43, ⟨Lc43, hQ43, l43, y43, z43⟩, st43⟩ := Jvm.LawKit.callS X42 hx (y := (⟨"com/example/warrant/warrant/cli/PolicyFilesNamesPinLaw", "at", "(ILjava/lang/String;ZICC)C"⟩ : MethodName)) hownw (mvT hZw w_16) (mvT hZw w_17) (mvT hZw w_11) (mvT hZw w_18) (by decide) (backOf (W := 0) (rm3 l Z a0 hw [] (5 : Int32) a2 p3 p4 p5 p6 b2 bs nb cz fm 5 h0 n0 Z0 E2 C2 W2v V2 hnb Scs hcz Sf hfm hbs hd hf rfl) hZw w_18 w_11 (by decide) (by decide)) (g := (mkF m 73 #[.val (.int p1), .val (.ref a2), .val (.int p3), .val (.int p4), .val (.int p5), .val (.int p6), .val (.int (atF bs 0 p3 p4 p5 p6)), .val (.int (atF bs 1 p3 p4 p5 p6)), .val (.int (atF bs 2 p3 p4 p5 p6)), .val (.int (atF bs 3 p3 p4 p5 p6)), .val (.int (atF bs 4 p3 p4 p5 p6)), .unset, .unset, .unset, .unset, .unset, .unset, .unset] [(.int p6), (.int p5), (.int p4), (.int p3), (.ref a2), (.int (5 : Int32))])) rfl (by rw [hml]; rfl) (argsL := [(.int (5 : Int32)), (.ref a2), (.int p3), (.int p4), (.int p5), (.int p6)]) (rest := []) (lenOf pd_26 rfl) rfl (by show 2 * 0 + _ ≤ _; exact Nat.le_of_eq rfl) (hb hby d2_73) (fun _ _ => ⟨rfl, e42, (by decide : 0 + 0 ≤ _), (by decide : 0 + 0 ≤ _)⟩)
  dsimp only [Pt.U, Pt.locs, Pt.cells, Pt.slots] at X43 l43 y43 z43 st43 hQ43
  subst y43 z43
  obtain ⟨rfl, N43q, e43⟩ := hQ43
  have N43 : Fr n0 L43 := by rw [l43]; exact Fr.app N42 N43q
  refine Goes.of st43 ?_
  show Goes p e below KK T43 (mkF m 76 #[.val (.int p1), .val (.ref a2), .val (.int p3), .val (.int p4), .val (.int p5), .val (.int p6), .val (.int (atF bs 0 p3 p4 p5 p6)), .val (.int (atF bs 1 p3 p4 p5 p6)), .val (.int (atF bs 2 p3 p4 p5 p6)), .val (.int (atF bs 3 p3 p4 p5 p6)), .val (.int (atF bs 4 p3 p4 p5 p6)), .unset, .unset, .unset, .unset, .unset, .unset, .unset] [(.int (atF bs 5 p3 p4 p5 p6))])
  refine Goes.of (fun t => XS.istore X43.here hx rfl (hb hby d2_76) rfl (l' := #[.val (.int p1), .val (.ref a2), .val (.int p3), .val (.int p4), .val (.int p5), .val (.int p6), .val (.int (atF bs 0 p3 p4 p5 p6)), .val (.int (atF bs 1 p3 p4 p5 p6)), .val (.int (atF bs 2 p3 p4 p5 p6)), .val (.int (atF bs 3 p3 p4 p5 p6)), .val (.int (atF bs 4 p3 p4 p5 p6)), .val (.int (atF bs 5 p3 p4 p5 p6)), .unset, .unset, .unset, .unset, .unset, .unset]) rfl) ?_
  show Goes p e below KK T43 (mkF m 78 #[.val (.int p1), .val (.ref a2), .val (.int p3), .val (.int p4), .val (.int p5), .val (.int p6), .val (.int (atF bs 0 p3 p4 p5 p6)), .val (.int (atF bs 1 p3 p4 p5 p6)), .val (.int (atF bs 2 p3 p4 p5 p6)), .val (.int (atF bs 3 p3 p4 p5 p6)), .val (.int (atF bs 4 p3 p4 p5 p6)), .val (.int (atF bs 5 p3 p4 p5 p6)), .unset, .unset, .unset, .unset, .unset, .unset] [])
  refine Goes.of (fun t => XS.bipush X43.here hx rfl (hb hby d2_78)) ?_
  show Goes p e below KK T43 (mkF m 80 #[.val (.int p1), .val (.ref a2), .val (.int p3), .val (.int p4), .val (.int p5), .val (.int p6), .val (.int (atF bs 0 p3 p4 p5 p6)), .val (.int (atF bs 1 p3 p4 p5 p6)), .val (.int (atF bs 2 p3 p4 p5 p6)), .val (.int (atF bs 3 p3 p4 p5 p6)), .val (.int (atF bs 4 p3 p4 p5 p6)), .val (.int (atF bs 5 p3 p4 p5 p6)), .unset, .unset, .unset, .unset, .unset, .unset] [(.int (6 : Int32))])
  refine Goes.of (fun t => XS.aloadN X43.here hx rfl (hb hby d2_80) rfl rfl) ?_
  show Goes p e below KK T43 (mkF m 81 #[.val (.int p1), .val (.ref a2), .val (.int p3), .val (.int p4), .val (.int p5), .val (.int p6), .val (.int (atF bs 0 p3 p4 p5 p6)), .val (.int (atF bs 1 p3 p4 p5 p6)), .val (.int (atF bs 2 p3 p4 p5 p6)), .val (.int (atF bs 3 p3 p4 p5 p6)), .val (.int (atF bs 4 p3 p4 p5 p6)), .val (.int (atF bs 5 p3 p4 p5 p6)), .unset, .unset, .unset, .unset, .unset, .unset] [(.ref a2), (.int (6 : Int32))])
  refine Goes.of (fun t => XS.iloadN X43.here hx rfl (hb hby d2_81) rfl) ?_
  show Goes p e below KK T43 (mkF m 82 #[.val (.int p1), .val (.ref a2), .val (.int p3), .val (.int p4), .val (.int p5), .val (.int p6), .val (.int (atF bs 0 p3 p4 p5 p6)), .val (.int (atF bs 1 p3 p4 p5 p6)), .val (.int (atF bs 2 p3 p4 p5 p6)), .val (.int (atF bs 3 p3 p4 p5 p6)), .val (.int (atF bs 4 p3 p4 p5 p6)), .val (.int (atF bs 5 p3 p4 p5 p6)), .unset, .unset, .unset, .unset, .unset, .unset] [(.int p3), (.ref a2), (.int (6 : Int32))])
  refine Goes.of (fun t => XS.iloadN X43.here hx rfl (hb hby d2_82) rfl) ?_
  show Goes p e below KK T43 (mkF m 83 #[.val (.int p1), .val (.ref a2), .val (.int p3), .val (.int p4), .val (.int p5), .val (.int p6), .val (.int (atF bs 0 p3 p4 p5 p6)), .val (.int (atF bs 1 p3 p4 p5 p6)), .val (.int (atF bs 2 p3 p4 p5 p6)), .val (.int (atF bs 3 p3 p4 p5 p6)), .val (.int (atF bs 4 p3 p4 p5 p6)), .val (.int (atF bs 5 p3 p4 p5 p6)), .unset, .unset, .unset, .unset, .unset, .unset] [(.int p4), (.int p3), (.ref a2), (.int (6 : Int32))])
  refine Goes.of (fun t => XS.iload X43.here hx rfl (hb hby d2_83) rfl) ?_
  show Goes p e below KK T43 (mkF m 85 #[.val (.int p1), .val (.ref a2), .val (.int p3), .val (.int p4), .val (.int p5), .val (.int p6), .val (.int (atF bs 0 p3 p4 p5 p6)), .val (.int (atF bs 1 p3 p4 p5 p6)), .val (.int (atF bs 2 p3 p4 p5 p6)), .val (.int (atF bs 3 p3 p4 p5 p6)), .val (.int (atF bs 4 p3 p4 p5 p6)), .val (.int (atF bs 5 p3 p4 p5 p6)), .unset, .unset, .unset, .unset, .unset, .unset] [(.int p5), (.int p4), (.int p3), (.ref a2), (.int (6 : Int32))])
  refine Goes.of (fun t => XS.iload X43.here hx rfl (hb hby d2_85) rfl) ?_
  show Goes p e below KK T43 (mkF m 87 #[.val (.int p1), .val (.ref a2), .val (.int p3), .val (.int p4), .val (.int p5), .val (.int p6), .val (.int (atF bs 0 p3 p4 p5 p6)), .val (.int (atF bs 1 p3 p4 p5 p6)), .val (.int (atF bs 2 p3 p4 p5 p6)), .val (.int (atF bs 3 p3 p4 p5 p6)), .val (.int (atF bs 4 p3 p4 p5 p6)), .val (.int (atF bs 5 p3 p4 p5 p6)), .unset, .unset, .unset, .unset, .unset, .unset] [(.int p6), (.int p5), (.int p4), (.int p3), (.ref a2), (.int (6 : Int32))])
  obtain ⟨_, _, ⟨T44, L44, k44, n44⟩, -, X44, ⟨Lc44, hQ44, l44, y44, z44⟩, st44⟩ := Jvm.LawKit.callS X43 hx (y := (⟨"com/example/warrant/warrant/cli/PolicyFilesNamesPinLaw", "at", "(ILjava/lang/String;ZICC)C"⟩ : MethodName)) hownw (mvT hZw w_16) (mvT hZw w_17) (mvT hZw w_11) (mvT hZw w_18) (by decide) (backOf (W := 0) (rm3 l Z a0 hw [] (6 : Int32) a2 p3 p4 p5 p6 b2 bs nb cz fm 6 h0 n0 Z0 E2 C2 W2v V2 hnb Scs hcz Sf hfm hbs hd hf rfl) hZw w_18 w_11 (by decide) (by decide)) (g := (mkF m 87 #[.val (.int p1), .val (.ref a2), .val (.int p3), .val (.int p4), .val (.int p5), .val (.int p6), .val (.int (atF bs 0 p3 p4 p5 p6)), .val (.int (atF bs 1 p3 p4 p5 p6)), .val (.int (atF bs 2 p3 p4 p5 p6)), .val (.int (atF bs 3 p3 p4 p5 p6)), .val (.int (atF bs 4 p3 p4 p5 p6)), .val (.int (atF bs 5 p3 p4 p5 p6)), .unset, .unset, .unset, .unset, .unset, .unset] [(.int p6), (.int p5), (.int p4), (.int p3), (.ref a2), (.int (6 : Int32))])) rfl (by rw [hml]; rfl) (argsL := [(.int (6 : Int32)), (.ref a2), (.int p3), (.int p4), (.int p5), (.int p6)]) (rest := []) (lenOf pd_26 rfl) rfl (by show 2 * 0 + _ ≤ _; exact Nat.le_of_eq rfl) (hb hby d2_87) (fun _ _ => ⟨rfl, e43, (by decide : 0 + 0 ≤ _), (by decide : 0 + 0 ≤ _)⟩)
  dsimp only [Pt.U, Pt.locs, Pt.cells, Pt.slots] at X44 l44 y44 z44 st44 hQ44
  subst y44 z44
  obtain ⟨rfl, N44q, e44⟩ := hQ44
  have N44 : Fr n0 L44 := by rw [l44]; exact Fr.app N43 N44q
  refine Goes.of st44 ?_
  show Goes p e below KK T44 (mkF m 90 #[.val (.int p1), .val (.ref a2), .val (.int p3), .val (.int p4), .val (.int p5), .val (.int p6), .val (.int (atF bs 0 p3 p4 p5 p6)), .val (.int (atF bs 1 p3 p4 p5 p6)), .val (.int (atF bs 2 p3 p4 p5 p6)), .val (.int (atF bs 3 p3 p4 p5 p6)), .val (.int (atF bs 4 p3 p4 p5 p6)), .val (.int (atF bs 5 p3 p4 p5 p6)), .unset, .unset, .unset, .unset, .unset, .unset] [(.int (atF bs 6 p3 p4 p5 p6))])
  refine Goes.of (fun t => XS.istore X44.here hx rfl (hb hby d2_90) rfl (l' := #[.val (.int p1), .val (.ref a2), .val (.int p3), .val (.int p4), .val (.int p5), .val (.int p6), .val (.int (atF bs 0 p3 p4 p5 p6)), .val (.int (atF bs 1 p3 p4 p5 p6)), .val (.int (atF bs 2 p3 p4 p5 p6)), .val (.int (atF bs 3 p3 p4 p5 p6)), .val (.int (atF bs 4 p3 p4 p5 p6)), .val (.int (atF bs 5 p3 p4 p5 p6)), .val (.int (atF bs 6 p3 p4 p5 p6)), .unset, .unset, .unset, .unset, .unset]) rfl) ?_
  show Goes p e below KK T44 (mkF m 92 #[.val (.int p1), .val (.ref a2), .val (.int p3), .val (.int p4), .val (.int p5), .val (.int p6), .val (.int (atF bs 0 p3 p4 p5 p6)), .val (.int (atF bs 1 p3 p4 p5 p6)), .val (.int (atF bs 2 p3 p4 p5 p6)), .val (.int (atF bs 3 p3 p4 p5 p6)), .val (.int (atF bs 4 p3 p4 p5 p6)), .val (.int (atF bs 5 p3 p4 p5 p6)), .val (.int (atF bs 6 p3 p4 p5 p6)), .unset, .unset, .unset, .unset, .unset] [])
  refine Goes.of (fun t => XS.bipush X44.here hx rfl (hb hby d2_92)) ?_
  show Goes p e below KK T44 (mkF m 94 #[.val (.int p1), .val (.ref a2), .val (.int p3), .val (.int p4), .val (.int p5), .val (.int p6), .val (.int (atF bs 0 p3 p4 p5 p6)), .val (.int (atF bs 1 p3 p4 p5 p6)), .val (.int (atF bs 2 p3 p4 p5 p6)), .val (.int (atF bs 3 p3 p4 p5 p6)), .val (.int (atF bs 4 p3 p4 p5 p6)), .val (.int (atF bs 5 p3 p4 p5 p6)), .val (.int (atF bs 6 p3 p4 p5 p6)), .unset, .unset, .unset, .unset, .unset] [(.int (7 : Int32))])
  refine Goes.of (fun t => XS.aloadN X44.here hx rfl (hb hby d2_94) rfl rfl) ?_
  show Goes p e below KK T44 (mkF m 95 #[.val (.int p1), .val (.ref a2), .val (.int p3), .val (.int p4), .val (.int p5), .val (.int p6), .val (.int (atF bs 0 p3 p4 p5 p6)), .val (.int (atF bs 1 p3 p4 p5 p6)), .val (.int (atF bs 2 p3 p4 p5 p6)), .val (.int (atF bs 3 p3 p4 p5 p6)), .val (.int (atF bs 4 p3 p4 p5 p6)), .val (.int (atF bs 5 p3 p4 p5 p6)), .val (.int (atF bs 6 p3 p4 p5 p6)), .unset, .unset, .unset, .unset, .unset] [(.ref a2), (.int (7 : Int32))])
  refine Goes.of (fun t => XS.iloadN X44.here hx rfl (hb hby d2_95) rfl) ?_
  show Goes p e below KK T44 (mkF m 96 #[.val (.int p1), .val (.ref a2), .val (.int p3), .val (.int p4), .val (.int p5), .val (.int p6), .val (.int (atF bs 0 p3 p4 p5 p6)), .val (.int (atF bs 1 p3 p4 p5 p6)), .val (.int (atF bs 2 p3 p4 p5 p6)), .val (.int (atF bs 3 p3 p4 p5 p6)), .val (.int (atF bs 4 p3 p4 p5 p6)), .val (.int (atF bs 5 p3 p4 p5 p6)), .val (.int (atF bs 6 p3 p4 p5 p6)), .unset, .unset, .unset, .unset, .unset] [(.int p3), (.ref a2), (.int (7 : Int32))])
  refine Goes.of (fun t => XS.iloadN X44.here hx rfl (hb hby d2_96) rfl) ?_
  show Goes p e below KK T44 (mkF m 97 #[.val (.int p1), .val (.ref a2), .val (.int p3), .val (.int p4), .val (.int p5), .val (.int p6), .val (.int (atF bs 0 p3 p4 p5 p6)), .val (.int (atF bs 1 p3 p4 p5 p6)), .val (.int (atF bs 2 p3 p4 p5 p6)), .val (.int (atF bs 3 p3 p4 p5 p6)), .val (.int (atF bs 4 p3 p4 p5 p6)), .val (.int (atF bs 5 p3 p4 p5 p6)), .val (.int (atF bs 6 p3 p4 p5 p6)), .unset, .unset, .unset, .unset, .unset] [(.int p4), (.int p3), (.ref a2), (.int (7 : Int32))])
  refine Goes.of (fun t => XS.iload X44.here hx rfl (hb hby d2_97) rfl) ?_
  show Goes p e below KK T44 (mkF m 99 #[.val (.int p1), .val (.ref a2), .val (.int p3), .val (.int p4), .val (.int p5), .val (.int p6), .val (.int (atF bs 0 p3 p4 p5 p6)), .val (.int (atF bs 1 p3 p4 p5 p6)), .val (.int (atF bs 2 p3 p4 p5 p6)), .val (.int (atF bs 3 p3 p4 p5 p6)), .val (.int (atF bs 4 p3 p4 p5 p6)), .val (.int (atF bs 5 p3 p4 p5 p6)), .val (.int (atF bs 6 p3 p4 p5 p6)), .unset, .unset, .unset, .unset, .unset] [(.int p5), (.int p4), (.int p3), (.ref a2), (.int (7 : Int32))])
  refine Goes.of (fun t => XS.iload X44.here hx rfl (hb hby d2_99) rfl) ?_
  show Goes p e below KK T44 (mkF m 101 #[.val (.int p1), .val (.ref a2), .val (.int p3), .val (.int p4), .val (.int p5), .val (.int p6), .val (.int (atF bs 0 p3 p4 p5 p6)), .val (.int (atF bs 1 p3 p4 p5 p6)), .val (.int (atF bs 2 p3 p4 p5 p6)), .val (.int (atF bs 3 p3 p4 p5 p6)), .val (.int (atF bs 4 p3 p4 p5 p6)), .val (.int (atF bs 5 p3 p4 p5 p6)), .val (.int (atF bs 6 p3 p4 p5 p6)), .unset, .unset, .unset, .unset, .unset] [(.int p6), (.int p5), (.int p4), (.int p3), (.ref a2), (.int (7 : Int32))])
  obtain ⟨_, _, ⟨T45, L45, k45, n45⟩, -, X45, ⟨Lc45, hQ45, l45, y45, z45⟩, st45⟩ := Jvm.LawKit.callS X44 hx (y := (⟨"com/example/warrant/warrant/cli/PolicyFilesNamesPinLaw", "at", "(ILjava/lang/String;ZICC)C"⟩ : MethodName)) hownw (mvT hZw w_16) (mvT hZw w_17) (mvT hZw w_11) (mvT hZw w_18) (by decide) (backOf (W := 0) (rm3 l Z a0 hw [] (7 : Int32) a2 p3 p4 p5 p6 b2 bs nb cz fm 7 h0 n0 Z0 E2 C2 W2v V2 hnb Scs hcz Sf hfm hbs hd hf rfl) hZw w_18 w_11 (by decide) (by decide)) (g := (mkF m 101 #[.val (.int p1), .val (.ref a2), .val (.int p3), .val (.int p4), .val (.int p5), .val (.int p6), .val (.int (atF bs 0 p3 p4 p5 p6)), .val (.int (atF bs 1 p3 p4 p5 p6)), .val (.int (atF bs 2 p3 p4 p5 p6)), .val (.int (atF bs 3 p3 p4 p5 p6)), .val (.int (atF bs 4 p3 p4 p5 p6)), .val (.int (atF bs 5 p3 p4 p5 p6)), .val (.int (atF bs 6 p3 p4 p5 p6)), .unset, .unset, .unset, .unset, .unset] [(.int p6), (.int p5), (.int p4), (.int p3), (.ref a2), (.int (7 : Int32))])) rfl (by rw [hml]; rfl) (argsL := [(.int (7 : Int32)), (.ref a2), (.int p3), (.int p4), (.int p5), (.int p6)]) (rest := []) (lenOf pd_26 rfl) rfl (by show 2 * 0 + _ ≤ _; exact Nat.le_of_eq rfl) (hb hby d2_101) (fun _ _ => ⟨rfl, e44, (by decide : 0 + 0 ≤ _), (by decide : 0 + 0 ≤ _)⟩)
  dsimp only [Pt.U, Pt.locs, Pt.cells, Pt.slots] at X45 l45 y45 z45 st45 hQ45
  subst y45 z45
  obtain ⟨rfl, N45q, e45⟩ := hQ45
  have N45 : Fr n0 L45 := by rw [l45]; exact Fr.app N44 N45q
  refine Goes.of st45 ?_
  show Goes p e below KK T45 (mkF m 104 #[.val (.int p1), .val (.ref a2), .val (.int p3), .val (.int p4), .val (.int p5), .val (.int p6), .val (.int (atF bs 0 p3 p4 p5 p6)), .val (.int (atF bs 1 p3 p4 p5 p6)), .val (.int (atF bs 2 p3 p4 p5 p6)), .val (.int (atF bs 3 p3 p4 p5 p6)), .val (.int (atF bs 4 p3 p4 p5 p6)), .val (.int (atF bs 5 p3 p4 p5 p6)), .val (.int (atF bs 6 p3 p4 p5 p6)), .unset, .unset, .unset, .unset, .unset] [(.int (atF bs 7 p3 p4 p5 p6))])
  refine Goes.of (fun t => XS.istore X45.here hx rfl (hb hby d2_104) rfl (l' := #[.val (.int p1), .val (.ref a2), .val (.int p3), .val (.int p4), .val (.int p5), .val (.int p6), .val (.int (atF bs 0 p3 p4 p5 p6)), .val (.int (atF bs 1 p3 p4 p5 p6)), .val (.int (atF bs 2 p3 p4 p5 p6)), .val (.int (atF bs 3 p3 p4 p5 p6)), .val (.int (atF bs 4 p3 p4 p5 p6)), .val (.int (atF bs 5 p3 p4 p5 p6)), .val (.int (atF bs 6 p3 p4 p5 p6)), .val (.int (atF bs 7 p3 p4 p5 p6)), .unset, .unset, .unset, .unset]) rfl) ?_
  show Goes p e below KK T45 (mkF m 106 #[.val (.int p1), .val (.ref a2), .val (.int p3), .val (.int p4), .val (.int p5), .val (.int p6), .val (.int (atF bs 0 p3 p4 p5 p6)), .val (.int (atF bs 1 p3 p4 p5 p6)), .val (.int (atF bs 2 p3 p4 p5 p6)), .val (.int (atF bs 3 p3 p4 p5 p6)), .val (.int (atF bs 4 p3 p4 p5 p6)), .val (.int (atF bs 5 p3 p4 p5 p6)), .val (.int (atF bs 6 p3 p4 p5 p6)), .val (.int (atF bs 7 p3 p4 p5 p6)), .unset, .unset, .unset, .unset] [])
  refine Goes.of (fun t => XS.bipush X45.here hx rfl (hb hby d2_106)) ?_
  show Goes p e below KK T45 (mkF m 108 #[.val (.int p1), .val (.ref a2), .val (.int p3), .val (.int p4), .val (.int p5), .val (.int p6), .val (.int (atF bs 0 p3 p4 p5 p6)), .val (.int (atF bs 1 p3 p4 p5 p6)), .val (.int (atF bs 2 p3 p4 p5 p6)), .val (.int (atF bs 3 p3 p4 p5 p6)), .val (.int (atF bs 4 p3 p4 p5 p6)), .val (.int (atF bs 5 p3 p4 p5 p6)), .val (.int (atF bs 6 p3 p4 p5 p6)), .val (.int (atF bs 7 p3 p4 p5 p6)), .unset, .unset, .unset, .unset] [(.int (8 : Int32))])
  refine Goes.of (fun t => XS.aloadN X45.here hx rfl (hb hby d2_108) rfl rfl) ?_
  show Goes p e below KK T45 (mkF m 109 #[.val (.int p1), .val (.ref a2), .val (.int p3), .val (.int p4), .val (.int p5), .val (.int p6), .val (.int (atF bs 0 p3 p4 p5 p6)), .val (.int (atF bs 1 p3 p4 p5 p6)), .val (.int (atF bs 2 p3 p4 p5 p6)), .val (.int (atF bs 3 p3 p4 p5 p6)), .val (.int (atF bs 4 p3 p4 p5 p6)), .val (.int (atF bs 5 p3 p4 p5 p6)), .val (.int (atF bs 6 p3 p4 p5 p6)), .val (.int (atF bs 7 p3 p4 p5 p6)), .unset, .unset, .unset, .unset] [(.ref a2), (.int (8 : Int32))])
  refine Goes.of (fun t => XS.iloadN X45.here hx rfl (hb hby d2_109) rfl) ?_
  show Goes p e below KK T45 (mkF m 110 #[.val (.int p1), .val (.ref a2), .val (.int p3), .val (.int p4), .val (.int p5), .val (.int p6), .val (.int (atF bs 0 p3 p4 p5 p6)), .val (.int (atF bs 1 p3 p4 p5 p6)), .val (.int (atF bs 2 p3 p4 p5 p6)), .val (.int (atF bs 3 p3 p4 p5 p6)), .val (.int (atF bs 4 p3 p4 p5 p6)), .val (.int (atF bs 5 p3 p4 p5 p6)), .val (.int (atF bs 6 p3 p4 p5 p6)), .val (.int (atF bs 7 p3 p4 p5 p6)), .unset, .unset, .unset, .unset] [(.int p3), (.ref a2), (.int (8 : Int32))])
  refine Goes.of (fun t => XS.iloadN X45.here hx rfl (hb hby d2_110) rfl) ?_
  show Goes p e below KK T45 (mkF m 111 #[.val (.int p1), .val (.ref a2), .val (.int p3), .val (.int p4), .val (.int p5), .val (.int p6), .val (.int (atF bs 0 p3 p4 p5 p6)), .val (.int (atF bs 1 p3 p4 p5 p6)), .val (.int (atF bs 2 p3 p4 p5 p6)), .val (.int (atF bs 3 p3 p4 p5 p6)), .val (.int (atF bs 4 p3 p4 p5 p6)), .val (.int (atF bs 5 p3 p4 p5 p6)), .val (.int (atF bs 6 p3 p4 p5 p6)), .val (.int (atF bs 7 p3 p4 p5 p6)), .unset, .unset, .unset, .unset] [(.int p4), (.int p3), (.ref a2), (.int (8 : Int32))])
  refine Goes.of (fun t => XS.iload X45.here hx rfl (hb hby d2_111) rfl) ?_
  show Goes p e below KK T45 (mkF m 113 #[.val (.int p1), .val (.ref a2), .val (.int p3), .val (.int p4), .val (.int p5), .val (.int p6), .val (.int (atF bs 0 p3 p4 p5 p6)), .val (.int (atF bs 1 p3 p4 p5 p6)), .val (.int (atF bs 2 p3 p4 p5 p6)), .val (.int (atF bs 3 p3 p4 p5 p6)), .val (.int (atF bs 4 p3 p4 p5 p6)), .val (.int (atF bs 5 p3 p4 p5 p6)), .val (.int (atF bs 6 p3 p4 p5 p6)), .val (.int (atF bs 7 p3 p4 p5 p6)), .unset, .unset, .unset, .unset] [(.int p5), (.int p4), (.int p3), (.ref a2), (.int (8 : Int32))])
  refine Goes.of (fun t => XS.iload X45.here hx rfl (hb hby d2_113) rfl) ?_
  show Goes p e below KK T45 (mkF m 115 #[.val (.int p1), .val (.ref a2), .val (.int p3), .val (.int p4), .val (.int p5), .val (.int p6), .val (.int (atF bs 0 p3 p4 p5 p6)), .val (.int (atF bs 1 p3 p4 p5 p6)), .val (.int (atF bs 2 p3 p4 p5 p6)), .val (.int (atF bs 3 p3 p4 p5 p6)), .val (.int (atF bs 4 p3 p4 p5 p6)), .val (.int (atF bs 5 p3 p4 p5 p6)), .val (.int (atF bs 6 p3 p4 p5 p6)), .val (.int (atF bs 7 p3 p4 p5 p6)), .unset, .unset, .unset, .unset] [(.int p6), (.int p5), (.int p4), (.int p3), (.ref a2), (.int (8 : Int32))])
  obtain ⟨_, _, ⟨T46, L46, k46, n46⟩, -, X46, ⟨Lc46, hQ46, l46, y46, z46⟩, st46⟩ := Jvm.LawKit.callS X45 hx (y := (⟨"com/example/warrant/warrant/cli/PolicyFilesNamesPinLaw", "at", "(ILjava/lang/String;ZICC)C"⟩ : MethodName)) hownw (mvT hZw w_16) (mvT hZw w_17) (mvT hZw w_11) (mvT hZw w_18) (by decide) (backOf (W := 0) (rm3 l Z a0 hw [] (8 : Int32) a2 p3 p4 p5 p6 b2 bs nb cz fm 8 h0 n0 Z0 E2 C2 W2v V2 hnb Scs hcz Sf hfm hbs hd hf rfl) hZw w_18 w_11 (by decide) (by decide)) (g := (mkF m 115 #[.val (.int p1), .val (.ref a2), .val (.int p3), .val (.int p4), .val (.int p5), .val (.int p6), .val (.int (atF bs 0 p3 p4 p5 p6)), .val (.int (atF bs 1 p3 p4 p5 p6)), .val (.int (atF bs 2 p3 p4 p5 p6)), .val (.int (atF bs 3 p3 p4 p5 p6)), .val (.int (atF bs 4 p3 p4 p5 p6)), .val (.int (atF bs 5 p3 p4 p5 p6)), .val (.int (atF bs 6 p3 p4 p5 p6)), .val (.int (atF bs 7 p3 p4 p5 p6)), .unset, .unset, .unset, .unset] [(.int p6), (.int p5), (.int p4), (.int p3), (.ref a2), (.int (8 : Int32))])) rfl (by rw [hml]; rfl) (argsL := [(.int (8 : Int32)), (.ref a2), (.int p3), (.int p4), (.int p5), (.int p6)]) (rest := []) (lenOf pd_26 rfl) rfl (by show 2 * 0 + _ ≤ _; exact Nat.le_of_eq rfl) (hb hby d2_115) (fun _ _ => ⟨rfl, e45, (by decide : 0 + 0 ≤ _), (by decide : 0 + 0 ≤ _)⟩)
  dsimp only [Pt.U, Pt.locs, Pt.cells, Pt.slots] at X46 l46 y46 z46 st46 hQ46
  subst y46 z46
  obtain ⟨rfl, N46q, e46⟩ := hQ46
  have N46 : Fr n0 L46 := by rw [l46]; exact Fr.app N45 N46q
  refine Goes.of st46 ?_
  show Goes p e below KK T46 (mkF m 118 #[.val (.int p1), .val (.ref a2), .val (.int p3), .val (.int p4), .val (.int p5), .val (.int p6), .val (.int (atF bs 0 p3 p4 p5 p6)), .val (.int (atF bs 1 p3 p4 p5 p6)), .val (.int (atF bs 2 p3 p4 p5 p6)), .val (.int (atF bs 3 p3 p4 p5 p6)), .val (.int (atF bs 4 p3 p4 p5 p6)), .val (.int (atF bs 5 p3 p4 p5 p6)), .val (.int (atF bs 6 p3 p4 p5 p6)), .val (.int (atF bs 7 p3 p4 p5 p6)), .unset, .unset, .unset, .unset] [(.int (atF bs 8 p3 p4 p5 p6))])
  refine Goes.of (fun t => XS.istore X46.here hx rfl (hb hby d2_118) rfl (l' := #[.val (.int p1), .val (.ref a2), .val (.int p3), .val (.int p4), .val (.int p5), .val (.int p6), .val (.int (atF bs 0 p3 p4 p5 p6)), .val (.int (atF bs 1 p3 p4 p5 p6)), .val (.int (atF bs 2 p3 p4 p5 p6)), .val (.int (atF bs 3 p3 p4 p5 p6)), .val (.int (atF bs 4 p3 p4 p5 p6)), .val (.int (atF bs 5 p3 p4 p5 p6)), .val (.int (atF bs 6 p3 p4 p5 p6)), .val (.int (atF bs 7 p3 p4 p5 p6)), .val (.int (atF bs 8 p3 p4 p5 p6)), .unset, .unset, .unset]) rfl) ?_
  show Goes p e below KK T46 (mkF m 120 #[.val (.int p1), .val (.ref a2), .val (.int p3), .val (.int p4), .val (.int p5), .val (.int p6), .val (.int (atF bs 0 p3 p4 p5 p6)), .val (.int (atF bs 1 p3 p4 p5 p6)), .val (.int (atF bs 2 p3 p4 p5 p6)), .val (.int (atF bs 3 p3 p4 p5 p6)), .val (.int (atF bs 4 p3 p4 p5 p6)), .val (.int (atF bs 5 p3 p4 p5 p6)), .val (.int (atF bs 6 p3 p4 p5 p6)), .val (.int (atF bs 7 p3 p4 p5 p6)), .val (.int (atF bs 8 p3 p4 p5 p6)), .unset, .unset, .unset] [])
  refine Goes.of (fun t => XS.bipush X46.here hx rfl (hb hby d2_120)) ?_
  show Goes p e below KK T46 (mkF m 122 #[.val (.int p1), .val (.ref a2), .val (.int p3), .val (.int p4), .val (.int p5), .val (.int p6), .val (.int (atF bs 0 p3 p4 p5 p6)), .val (.int (atF bs 1 p3 p4 p5 p6)), .val (.int (atF bs 2 p3 p4 p5 p6)), .val (.int (atF bs 3 p3 p4 p5 p6)), .val (.int (atF bs 4 p3 p4 p5 p6)), .val (.int (atF bs 5 p3 p4 p5 p6)), .val (.int (atF bs 6 p3 p4 p5 p6)), .val (.int (atF bs 7 p3 p4 p5 p6)), .val (.int (atF bs 8 p3 p4 p5 p6)), .unset, .unset, .unset] [(.int (9 : Int32))])
  refine Goes.of (fun t => XS.aloadN X46.here hx rfl (hb hby d2_122) rfl rfl) ?_
  show Goes p e below KK T46 (mkF m 123 #[.val (.int p1), .val (.ref a2), .val (.int p3), .val (.int p4), .val (.int p5), .val (.int p6), .val (.int (atF bs 0 p3 p4 p5 p6)), .val (.int (atF bs 1 p3 p4 p5 p6)), .val (.int (atF bs 2 p3 p4 p5 p6)), .val (.int (atF bs 3 p3 p4 p5 p6)), .val (.int (atF bs 4 p3 p4 p5 p6)), .val (.int (atF bs 5 p3 p4 p5 p6)), .val (.int (atF bs 6 p3 p4 p5 p6)), .val (.int (atF bs 7 p3 p4 p5 p6)), .val (.int (atF bs 8 p3 p4 p5 p6)), .unset, .unset, .unset] [(.ref a2), (.int (9 : Int32))])
  refine Goes.of (fun t => XS.iloadN X46.here hx rfl (hb hby d2_123) rfl) ?_
  show Goes p e below KK T46 (mkF m 124 #[.val (.int p1), .val (.ref a2), .val (.int p3), .val (.int p4), .val (.int p5), .val (.int p6), .val (.int (atF bs 0 p3 p4 p5 p6)), .val (.int (atF bs 1 p3 p4 p5 p6)), .val (.int (atF bs 2 p3 p4 p5 p6)), .val (.int (atF bs 3 p3 p4 p5 p6)), .val (.int (atF bs 4 p3 p4 p5 p6)), .val (.int (atF bs 5 p3 p4 p5 p6)), .val (.int (atF bs 6 p3 p4 p5 p6)), .val (.int (atF bs 7 p3 p4 p5 p6)), .val (.int (atF bs 8 p3 p4 p5 p6)), .unset, .unset, .unset] [(.int p3), (.ref a2), (.int (9 : Int32))])
  refine Goes.of (fun t => XS.iloadN X46.here hx rfl (hb hby d2_124) rfl) ?_
  show Goes p e below KK T46 (mkF m 125 #[.val (.int p1), .val (.ref a2), .val (.int p3), .val (.int p4), .val (.int p5), .val (.int p6), .val (.int (atF bs 0 p3 p4 p5 p6)), .val (.int (atF bs 1 p3 p4 p5 p6)), .val (.int (atF bs 2 p3 p4 p5 p6)), .val (.int (atF bs 3 p3 p4 p5 p6)), .val (.int (atF bs 4 p3 p4 p5 p6)), .val (.int (atF bs 5 p3 p4 p5 p6)), .val (.int (atF bs 6 p3 p4 p5 p6)), .val (.int (atF bs 7 p3 p4 p5 p6)), .val (.int (atF bs 8 p3 p4 p5 p6)), .unset, .unset, .unset] [(.int p4), (.int p3), (.ref a2), (.int (9 : Int32))])
  refine Goes.of (fun t => XS.iload X46.here hx rfl (hb hby d2_125) rfl) ?_
  show Goes p e below KK T46 (mkF m 127 #[.val (.int p1), .val (.ref a2), .val (.int p3), .val (.int p4), .val (.int p5), .val (.int p6), .val (.int (atF bs 0 p3 p4 p5 p6)), .val (.int (atF bs 1 p3 p4 p5 p6)), .val (.int (atF bs 2 p3 p4 p5 p6)), .val (.int (atF bs 3 p3 p4 p5 p6)), .val (.int (atF bs 4 p3 p4 p5 p6)), .val (.int (atF bs 5 p3 p4 p5 p6)), .val (.int (atF bs 6 p3 p4 p5 p6)), .val (.int (atF bs 7 p3 p4 p5 p6)), .val (.int (atF bs 8 p3 p4 p5 p6)), .unset, .unset, .unset] [(.int p5), (.int p4), (.int p3), (.ref a2), (.int (9 : Int32))])
  refine Goes.of (fun t => XS.iload X46.here hx rfl (hb hby d2_127) rfl) ?_
  show Goes p e below KK T46 (mkF m 129 #[.val (.int p1), .val (.ref a2), .val (.int p3), .val (.int p4), .val (.int p5), .val (.int p6), .val (.int (atF bs 0 p3 p4 p5 p6)), .val (.int (atF bs 1 p3 p4 p5 p6)), .val (.int (atF bs 2 p3 p4 p5 p6)), .val (.int (atF bs 3 p3 p4 p5 p6)), .val (.int (atF bs 4 p3 p4 p5 p6)), .val (.int (atF bs 5 p3 p4 p5 p6)), .val (.int (atF bs 6 p3 p4 p5 p6)), .val (.int (atF bs 7 p3 p4 p5 p6)), .val (.int (atF bs 8 p3 p4 p5 p6)), .unset, .unset, .unset] [(.int p6), (.int p5), (.int p4), (.int p3), (.ref a2), (.int (9 : Int32))])
  obtain ⟨_, _, ⟨T47, L47, k47, n47⟩, -, X47, ⟨Lc47, hQ47, l47, y47, z47⟩, st47⟩ := Jvm.LawKit.callS X46 hx (y := (⟨"com/example/warrant/warrant/cli/PolicyFilesNamesPinLaw", "at", "(ILjava/lang/String;ZICC)C"⟩ : MethodName)) hownw (mvT hZw w_16) (mvT hZw w_17) (mvT hZw w_11) (mvT hZw w_18) (by decide) (backOf (W := 0) (rm3 l Z a0 hw [] (9 : Int32) a2 p3 p4 p5 p6 b2 bs nb cz fm 9 h0 n0 Z0 E2 C2 W2v V2 hnb Scs hcz Sf hfm hbs hd hf rfl) hZw w_18 w_11 (by decide) (by decide)) (g := (mkF m 129 #[.val (.int p1), .val (.ref a2), .val (.int p3), .val (.int p4), .val (.int p5), .val (.int p6), .val (.int (atF bs 0 p3 p4 p5 p6)), .val (.int (atF bs 1 p3 p4 p5 p6)), .val (.int (atF bs 2 p3 p4 p5 p6)), .val (.int (atF bs 3 p3 p4 p5 p6)), .val (.int (atF bs 4 p3 p4 p5 p6)), .val (.int (atF bs 5 p3 p4 p5 p6)), .val (.int (atF bs 6 p3 p4 p5 p6)), .val (.int (atF bs 7 p3 p4 p5 p6)), .val (.int (atF bs 8 p3 p4 p5 p6)), .unset, .unset, .unset] [(.int p6), (.int p5), (.int p4), (.int p3), (.ref a2), (.int (9 : Int32))])) rfl (by rw [hml]; rfl) (argsL := [(.int (9 : Int32)), (.ref a2), (.int p3), (.int p4), (.int p5), (.int p6)]) (rest := []) (lenOf pd_26 rfl) rfl (by show 2 * 0 + _ ≤ _; exact Nat.le_of_eq rfl) (hb hby d2_129) (fun _ _ => ⟨rfl, e46, (by decide : 0 + 0 ≤ _), (by decide : 0 + 0 ≤ _)⟩)
  dsimp only [Pt.U, Pt.locs, Pt.cells, Pt.slots] at X47 l47 y47 z47 st47 hQ47
  subst y47 z47
  obtain ⟨rfl, N47q, e47⟩ := hQ47
  have N47 : Fr n0 L47 := by rw [l47]; exact Fr.app N46 N47q
  refine Goes.of st47 ?_
  show Goes p e below KK T47 (mkF m 132 #[.val (.int p1), .val (.ref a2), .val (.int p3), .val (.int p4), .val (.int p5), .val (.int p6), .val (.int (atF bs 0 p3 p4 p5 p6)), .val (.int (atF bs 1 p3 p4 p5 p6)), .val (.int (atF bs 2 p3 p4 p5 p6)), .val (.int (atF bs 3 p3 p4 p5 p6)), .val (.int (atF bs 4 p3 p4 p5 p6)), .val (.int (atF bs 5 p3 p4 p5 p6)), .val (.int (atF bs 6 p3 p4 p5 p6)), .val (.int (atF bs 7 p3 p4 p5 p6)), .val (.int (atF bs 8 p3 p4 p5 p6)), .unset, .unset, .unset] [(.int (atF bs 9 p3 p4 p5 p6))])
  refine Goes.of (fun t => XS.istore X47.here hx rfl (hb hby d2_132) rfl (l' := #[.val (.int p1), .val (.ref a2), .val (.int p3), .val (.int p4), .val (.int p5), .val (.int p6), .val (.int (atF bs 0 p3 p4 p5 p6)), .val (.int (atF bs 1 p3 p4 p5 p6)), .val (.int (atF bs 2 p3 p4 p5 p6)), .val (.int (atF bs 3 p3 p4 p5 p6)), .val (.int (atF bs 4 p3 p4 p5 p6)), .val (.int (atF bs 5 p3 p4 p5 p6)), .val (.int (atF bs 6 p3 p4 p5 p6)), .val (.int (atF bs 7 p3 p4 p5 p6)), .val (.int (atF bs 8 p3 p4 p5 p6)), .val (.int (atF bs 9 p3 p4 p5 p6)), .unset, .unset]) rfl) ?_
  show Goes p e below KK T47 (mkF m 134 #[.val (.int p1), .val (.ref a2), .val (.int p3), .val (.int p4), .val (.int p5), .val (.int p6), .val (.int (atF bs 0 p3 p4 p5 p6)), .val (.int (atF bs 1 p3 p4 p5 p6)), .val (.int (atF bs 2 p3 p4 p5 p6)), .val (.int (atF bs 3 p3 p4 p5 p6)), .val (.int (atF bs 4 p3 p4 p5 p6)), .val (.int (atF bs 5 p3 p4 p5 p6)), .val (.int (atF bs 6 p3 p4 p5 p6)), .val (.int (atF bs 7 p3 p4 p5 p6)), .val (.int (atF bs 8 p3 p4 p5 p6)), .val (.int (atF bs 9 p3 p4 p5 p6)), .unset, .unset] [])
  refine Goes.of (fun t => XS.bipush X47.here hx rfl (hb hby d2_134)) ?_
  show Goes p e below KK T47 (mkF m 136 #[.val (.int p1), .val (.ref a2), .val (.int p3), .val (.int p4), .val (.int p5), .val (.int p6), .val (.int (atF bs 0 p3 p4 p5 p6)), .val (.int (atF bs 1 p3 p4 p5 p6)), .val (.int (atF bs 2 p3 p4 p5 p6)), .val (.int (atF bs 3 p3 p4 p5 p6)), .val (.int (atF bs 4 p3 p4 p5 p6)), .val (.int (atF bs 5 p3 p4 p5 p6)), .val (.int (atF bs 6 p3 p4 p5 p6)), .val (.int (atF bs 7 p3 p4 p5 p6)), .val (.int (atF bs 8 p3 p4 p5 p6)), .val (.int (atF bs 9 p3 p4 p5 p6)), .unset, .unset] [(.int (10 : Int32))])
  refine Goes.of (fun t => XS.aloadN X47.here hx rfl (hb hby d2_136) rfl rfl) ?_
  show Goes p e below KK T47 (mkF m 137 #[.val (.int p1), .val (.ref a2), .val (.int p3), .val (.int p4), .val (.int p5), .val (.int p6), .val (.int (atF bs 0 p3 p4 p5 p6)), .val (.int (atF bs 1 p3 p4 p5 p6)), .val (.int (atF bs 2 p3 p4 p5 p6)), .val (.int (atF bs 3 p3 p4 p5 p6)), .val (.int (atF bs 4 p3 p4 p5 p6)), .val (.int (atF bs 5 p3 p4 p5 p6)), .val (.int (atF bs 6 p3 p4 p5 p6)), .val (.int (atF bs 7 p3 p4 p5 p6)), .val (.int (atF bs 8 p3 p4 p5 p6)), .val (.int (atF bs 9 p3 p4 p5 p6)), .unset, .unset] [(.ref a2), (.int (10 : Int32))])
  refine Goes.of (fun t => XS.iloadN X47.here hx rfl (hb hby d2_137) rfl) ?_
  show Goes p e below KK T47 (mkF m 138 #[.val (.int p1), .val (.ref a2), .val (.int p3), .val (.int p4), .val (.int p5), .val (.int p6), .val (.int (atF bs 0 p3 p4 p5 p6)), .val (.int (atF bs 1 p3 p4 p5 p6)), .val (.int (atF bs 2 p3 p4 p5 p6)), .val (.int (atF bs 3 p3 p4 p5 p6)), .val (.int (atF bs 4 p3 p4 p5 p6)), .val (.int (atF bs 5 p3 p4 p5 p6)), .val (.int (atF bs 6 p3 p4 p5 p6)), .val (.int (atF bs 7 p3 p4 p5 p6)), .val (.int (atF bs 8 p3 p4 p5 p6)), .val (.int (atF bs 9 p3 p4 p5 p6)), .unset, .unset] [(.int p3), (.ref a2), (.int (10 : Int32))])
  refine Goes.of (fun t => XS.iloadN X47.here hx rfl (hb hby d2_138) rfl) ?_
  show Goes p e below KK T47 (mkF m 139 #[.val (.int p1), .val (.ref a2), .val (.int p3), .val (.int p4), .val (.int p5), .val (.int p6), .val (.int (atF bs 0 p3 p4 p5 p6)), .val (.int (atF bs 1 p3 p4 p5 p6)), .val (.int (atF bs 2 p3 p4 p5 p6)), .val (.int (atF bs 3 p3 p4 p5 p6)), .val (.int (atF bs 4 p3 p4 p5 p6)), .val (.int (atF bs 5 p3 p4 p5 p6)), .val (.int (atF bs 6 p3 p4 p5 p6)), .val (.int (atF bs 7 p3 p4 p5 p6)), .val (.int (atF bs 8 p3 p4 p5 p6)), .val (.int (atF bs 9 p3 p4 p5 p6)), .unset, .unset] [(.int p4), (.int p3), (.ref a2), (.int (10 : Int32))])
  refine Goes.of (fun t => XS.iload X47.here hx rfl (hb hby d2_139) rfl) ?_
  show Goes p e below KK T47 (mkF m 141 #[.val (.int p1), .val (.ref a2), .val (.int p3), .val (.int p4), .val (.int p5), .val (.int p6), .val (.int (atF bs 0 p3 p4 p5 p6)), .val (.int (atF bs 1 p3 p4 p5 p6)), .val (.int (atF bs 2 p3 p4 p5 p6)), .val (.int (atF bs 3 p3 p4 p5 p6)), .val (.int (atF bs 4 p3 p4 p5 p6)), .val (.int (atF bs 5 p3 p4 p5 p6)), .val (.int (atF bs 6 p3 p4 p5 p6)), .val (.int (atF bs 7 p3 p4 p5 p6)), .val (.int (atF bs 8 p3 p4 p5 p6)), .val (.int (atF bs 9 p3 p4 p5 p6)), .unset, .unset] [(.int p5), (.int p4), (.int p3), (.ref a2), (.int (10 : Int32))])
  refine Goes.of (fun t => XS.iload X47.here hx rfl (hb hby d2_141) rfl) ?_
  show Goes p e below KK T47 (mkF m 143 #[.val (.int p1), .val (.ref a2), .val (.int p3), .val (.int p4), .val (.int p5), .val (.int p6), .val (.int (atF bs 0 p3 p4 p5 p6)), .val (.int (atF bs 1 p3 p4 p5 p6)), .val (.int (atF bs 2 p3 p4 p5 p6)), .val (.int (atF bs 3 p3 p4 p5 p6)), .val (.int (atF bs 4 p3 p4 p5 p6)), .val (.int (atF bs 5 p3 p4 p5 p6)), .val (.int (atF bs 6 p3 p4 p5 p6)), .val (.int (atF bs 7 p3 p4 p5 p6)), .val (.int (atF bs 8 p3 p4 p5 p6)), .val (.int (atF bs 9 p3 p4 p5 p6)), .unset, .unset] [(.int p6), (.int p5), (.int p4), (.int p3), (.ref a2), (.int (10 : Int32))])
  obtain ⟨_, _, ⟨T48, L48, k48, n48⟩, -, X48, ⟨Lc48, hQ48, l48, y48, z48⟩, st48⟩ := Jvm.LawKit.callS X47 hx (y := (⟨"com/example/warrant/warrant/cli/PolicyFilesNamesPinLaw", "at", "(ILjava/lang/String;ZICC)C"⟩ : MethodName)) hownw (mvT hZw w_16) (mvT hZw w_17) (mvT hZw w_11) (mvT hZw w_18) (by decide) (backOf (W := 0) (rm3 l Z a0 hw [] (10 : Int32) a2 p3 p4 p5 p6 b2 bs nb cz fm 10 h0 n0 Z0 E2 C2 W2v V2 hnb Scs hcz Sf hfm hbs hd hf rfl) hZw w_18 w_11 (by decide) (by decide)) (g := (mkF m 143 #[.val (.int p1), .val (.ref a2), .val (.int p3), .val (.int p4), .val (.int p5), .val (.int p6), .val (.int (atF bs 0 p3 p4 p5 p6)), .val (.int (atF bs 1 p3 p4 p5 p6)), .val (.int (atF bs 2 p3 p4 p5 p6)), .val (.int (atF bs 3 p3 p4 p5 p6)), .val (.int (atF bs 4 p3 p4 p5 p6)), .val (.int (atF bs 5 p3 p4 p5 p6)), .val (.int (atF bs 6 p3 p4 p5 p6)), .val (.int (atF bs 7 p3 p4 p5 p6)), .val (.int (atF bs 8 p3 p4 p5 p6)), .val (.int (atF bs 9 p3 p4 p5 p6)), .unset, .unset] [(.int p6), (.int p5), (.int p4), (.int p3), (.ref a2), (.int (10 : Int32))])) rfl (by rw [hml]; rfl) (argsL := [(.int (10 : Int32)), (.ref a2), (.int p3), (.int p4), (.int p5), (.int p6)]) (rest := []) (lenOf pd_26 rfl) rfl (by show 2 * 0 + _ ≤ _; exact Nat.le_of_eq rfl) (hb hby d2_143) (fun _ _ => ⟨rfl, e47, (by decide : 0 + 0 ≤ _), (by decide : 0 + 0 ≤ _)⟩)
  dsimp only [Pt.U, Pt.locs, Pt.cells, Pt.slots] at X48 l48 y48 z48 st48 hQ48
  subst y48 z48
  obtain ⟨rfl, N48q, e48⟩ := hQ48
  have N48 : Fr n0 L48 := by rw [l48]; exact Fr.app N47 N48q
  refine Goes.of st48 ?_
  show Goes p e below KK T48 (mkF m 146 #[.val (.int p1), .val (.ref a2), .val (.int p3), .val (.int p4), .val (.int p5), .val (.int p6), .val (.int (atF bs 0 p3 p4 p5 p6)), .val (.int (atF bs 1 p3 p4 p5 p6)), .val (.int (atF bs 2 p3 p4 p5 p6)), .val (.int (atF bs 3 p3 p4 p5 p6)), .val (.int (atF bs 4 p3 p4 p5 p6)), .val (.int (atF bs 5 p3 p4 p5 p6)), .val (.int (atF bs 6 p3 p4 p5 p6)), .val (.int (atF bs 7 p3 p4 p5 p6)), .val (.int (atF bs 8 p3 p4 p5 p6)), .val (.int (atF bs 9 p3 p4 p5 p6)), .unset, .unset] [(.int (atF bs 10 p3 p4 p5 p6))])
  refine Goes.of (fun t => XS.istore X48.here hx rfl (hb hby d2_146) rfl (l' := #[.val (.int p1), .val (.ref a2), .val (.int p3), .val (.int p4), .val (.int p5), .val (.int p6), .val (.int (atF bs 0 p3 p4 p5 p6)), .val (.int (atF bs 1 p3 p4 p5 p6)), .val (.int (atF bs 2 p3 p4 p5 p6)), .val (.int (atF bs 3 p3 p4 p5 p6)), .val (.int (atF bs 4 p3 p4 p5 p6)), .val (.int (atF bs 5 p3 p4 p5 p6)), .val (.int (atF bs 6 p3 p4 p5 p6)), .val (.int (atF bs 7 p3 p4 p5 p6)), .val (.int (atF bs 8 p3 p4 p5 p6)), .val (.int (atF bs 9 p3 p4 p5 p6)), .val (.int (atF bs 10 p3 p4 p5 p6)), .unset]) rfl) ?_
  show Goes p e below KK T48 (mkF m 148 #[.val (.int p1), .val (.ref a2), .val (.int p3), .val (.int p4), .val (.int p5), .val (.int p6), .val (.int (atF bs 0 p3 p4 p5 p6)), .val (.int (atF bs 1 p3 p4 p5 p6)), .val (.int (atF bs 2 p3 p4 p5 p6)), .val (.int (atF bs 3 p3 p4 p5 p6)), .val (.int (atF bs 4 p3 p4 p5 p6)), .val (.int (atF bs 5 p3 p4 p5 p6)), .val (.int (atF bs 6 p3 p4 p5 p6)), .val (.int (atF bs 7 p3 p4 p5 p6)), .val (.int (atF bs 8 p3 p4 p5 p6)), .val (.int (atF bs 9 p3 p4 p5 p6)), .val (.int (atF bs 10 p3 p4 p5 p6)), .unset] [])
  refine Goes.of (fun t => XS.bipush X48.here hx rfl (hb hby d2_148)) ?_
  show Goes p e below KK T48 (mkF m 150 #[.val (.int p1), .val (.ref a2), .val (.int p3), .val (.int p4), .val (.int p5), .val (.int p6), .val (.int (atF bs 0 p3 p4 p5 p6)), .val (.int (atF bs 1 p3 p4 p5 p6)), .val (.int (atF bs 2 p3 p4 p5 p6)), .val (.int (atF bs 3 p3 p4 p5 p6)), .val (.int (atF bs 4 p3 p4 p5 p6)), .val (.int (atF bs 5 p3 p4 p5 p6)), .val (.int (atF bs 6 p3 p4 p5 p6)), .val (.int (atF bs 7 p3 p4 p5 p6)), .val (.int (atF bs 8 p3 p4 p5 p6)), .val (.int (atF bs 9 p3 p4 p5 p6)), .val (.int (atF bs 10 p3 p4 p5 p6)), .unset] [(.int (11 : Int32))])
  refine Goes.of (fun t => XS.aloadN X48.here hx rfl (hb hby d2_150) rfl rfl) ?_
  show Goes p e below KK T48 (mkF m 151 #[.val (.int p1), .val (.ref a2), .val (.int p3), .val (.int p4), .val (.int p5), .val (.int p6), .val (.int (atF bs 0 p3 p4 p5 p6)), .val (.int (atF bs 1 p3 p4 p5 p6)), .val (.int (atF bs 2 p3 p4 p5 p6)), .val (.int (atF bs 3 p3 p4 p5 p6)), .val (.int (atF bs 4 p3 p4 p5 p6)), .val (.int (atF bs 5 p3 p4 p5 p6)), .val (.int (atF bs 6 p3 p4 p5 p6)), .val (.int (atF bs 7 p3 p4 p5 p6)), .val (.int (atF bs 8 p3 p4 p5 p6)), .val (.int (atF bs 9 p3 p4 p5 p6)), .val (.int (atF bs 10 p3 p4 p5 p6)), .unset] [(.ref a2), (.int (11 : Int32))])
  refine Goes.of (fun t => XS.iloadN X48.here hx rfl (hb hby d2_151) rfl) ?_
  show Goes p e below KK T48 (mkF m 152 #[.val (.int p1), .val (.ref a2), .val (.int p3), .val (.int p4), .val (.int p5), .val (.int p6), .val (.int (atF bs 0 p3 p4 p5 p6)), .val (.int (atF bs 1 p3 p4 p5 p6)), .val (.int (atF bs 2 p3 p4 p5 p6)), .val (.int (atF bs 3 p3 p4 p5 p6)), .val (.int (atF bs 4 p3 p4 p5 p6)), .val (.int (atF bs 5 p3 p4 p5 p6)), .val (.int (atF bs 6 p3 p4 p5 p6)), .val (.int (atF bs 7 p3 p4 p5 p6)), .val (.int (atF bs 8 p3 p4 p5 p6)), .val (.int (atF bs 9 p3 p4 p5 p6)), .val (.int (atF bs 10 p3 p4 p5 p6)), .unset] [(.int p3), (.ref a2), (.int (11 : Int32))])
  refine Goes.of (fun t => XS.iloadN X48.here hx rfl (hb hby d2_152) rfl) ?_
  show Goes p e below KK T48 (mkF m 153 #[.val (.int p1), .val (.ref a2), .val (.int p3), .val (.int p4), .val (.int p5), .val (.int p6), .val (.int (atF bs 0 p3 p4 p5 p6)), .val (.int (atF bs 1 p3 p4 p5 p6)), .val (.int (atF bs 2 p3 p4 p5 p6)), .val (.int (atF bs 3 p3 p4 p5 p6)), .val (.int (atF bs 4 p3 p4 p5 p6)), .val (.int (atF bs 5 p3 p4 p5 p6)), .val (.int (atF bs 6 p3 p4 p5 p6)), .val (.int (atF bs 7 p3 p4 p5 p6)), .val (.int (atF bs 8 p3 p4 p5 p6)), .val (.int (atF bs 9 p3 p4 p5 p6)), .val (.int (atF bs 10 p3 p4 p5 p6)), .unset] [(.int p4), (.int p3), (.ref a2), (.int (11 : Int32))])
  refine Goes.of (fun t => XS.iload X48.here hx rfl (hb hby d2_153) rfl) ?_
  show Goes p e below KK T48 (mkF m 155 #[.val (.int p1), .val (.ref a2), .val (.int p3), .val (.int p4), .val (.int p5), .val (.int p6), .val (.int (atF bs 0 p3 p4 p5 p6)), .val (.int (atF bs 1 p3 p4 p5 p6)), .val (.int (atF bs 2 p3 p4 p5 p6)), .val (.int (atF bs 3 p3 p4 p5 p6)), .val (.int (atF bs 4 p3 p4 p5 p6)), .val (.int (atF bs 5 p3 p4 p5 p6)), .val (.int (atF bs 6 p3 p4 p5 p6)), .val (.int (atF bs 7 p3 p4 p5 p6)), .val (.int (atF bs 8 p3 p4 p5 p6)), .val (.int (atF bs 9 p3 p4 p5 p6)), .val (.int (atF bs 10 p3 p4 p5 p6)), .unset] [(.int p5), (.int p4), (.int p3), (.ref a2), (.int (11 : Int32))])
  refine Goes.of (fun t => XS.iload X48.here hx rfl (hb hby d2_155) rfl) ?_
  show Goes p e below KK T48 (mkF m 157 #[.val (.int p1), .val (.ref a2), .val (.int p3), .val (.int p4), .val (.int p5), .val (.int p6), .val (.int (atF bs 0 p3 p4 p5 p6)), .val (.int (atF bs 1 p3 p4 p5 p6)), .val (.int (atF bs 2 p3 p4 p5 p6)), .val (.int (atF bs 3 p3 p4 p5 p6)), .val (.int (atF bs 4 p3 p4 p5 p6)), .val (.int (atF bs 5 p3 p4 p5 p6)), .val (.int (atF bs 6 p3 p4 p5 p6)), .val (.int (atF bs 7 p3 p4 p5 p6)), .val (.int (atF bs 8 p3 p4 p5 p6)), .val (.int (atF bs 9 p3 p4 p5 p6)), .val (.int (atF bs 10 p3 p4 p5 p6)), .unset] [(.int p6), (.int p5), (.int p4), (.int p3), (.ref a2), (.int (11 : Int32))])
  obtain ⟨_, _, ⟨T49, L49, k49, n49⟩, -, X49, ⟨Lc49, hQ49, l49, y49, z49⟩, st49⟩ := Jvm.LawKit.callS X48 hx (y := (⟨"com/example/warrant/warrant/cli/PolicyFilesNamesPinLaw", "at", "(ILjava/lang/String;ZICC)C"⟩ : MethodName)) hownw (mvT hZw w_16) (mvT hZw w_17) (mvT hZw w_11) (mvT hZw w_18) (by decide) (backOf (W := 0) (rm3 l Z a0 hw [] (11 : Int32) a2 p3 p4 p5 p6 b2 bs nb cz fm 11 h0 n0 Z0 E2 C2 W2v V2 hnb Scs hcz Sf hfm hbs hd hf rfl) hZw w_18 w_11 (by decide) (by decide)) (g := (mkF m 157 #[.val (.int p1), .val (.ref a2), .val (.int p3), .val (.int p4), .val (.int p5), .val (.int p6), .val (.int (atF bs 0 p3 p4 p5 p6)), .val (.int (atF bs 1 p3 p4 p5 p6)), .val (.int (atF bs 2 p3 p4 p5 p6)), .val (.int (atF bs 3 p3 p4 p5 p6)), .val (.int (atF bs 4 p3 p4 p5 p6)), .val (.int (atF bs 5 p3 p4 p5 p6)), .val (.int (atF bs 6 p3 p4 p5 p6)), .val (.int (atF bs 7 p3 p4 p5 p6)), .val (.int (atF bs 8 p3 p4 p5 p6)), .val (.int (atF bs 9 p3 p4 p5 p6)), .val (.int (atF bs 10 p3 p4 p5 p6)), .unset] [(.int p6), (.int p5), (.int p4), (.int p3), (.ref a2), (.int (11 : Int32))])) rfl (by rw [hml]; rfl) (argsL := [(.int (11 : Int32)), (.ref a2), (.int p3), (.int p4), (.int p5), (.int p6)]) (rest := []) (lenOf pd_26 rfl) rfl (by show 2 * 0 + _ ≤ _; exact Nat.le_of_eq rfl) (hb hby d2_157) (fun _ _ => ⟨rfl, e48, (by decide : 0 + 0 ≤ _), (by decide : 0 + 0 ≤ _)⟩)
  dsimp only [Pt.U, Pt.locs, Pt.cells, Pt.slots] at X49 l49 y49 z49 st49 hQ49
  subst y49 z49
  obtain ⟨rfl, N49q, e49⟩ := hQ49
  have N49 : Fr n0 L49 := by rw [l49]; exact Fr.app N48 N49q
  refine Goes.of st49 ?_
  show Goes p e below KK T49 (mkF m 160 #[.val (.int p1), .val (.ref a2), .val (.int p3), .val (.int p4), .val (.int p5), .val (.int p6), .val (.int (atF bs 0 p3 p4 p5 p6)), .val (.int (atF bs 1 p3 p4 p5 p6)), .val (.int (atF bs 2 p3 p4 p5 p6)), .val (.int (atF bs 3 p3 p4 p5 p6)), .val (.int (atF bs 4 p3 p4 p5 p6)), .val (.int (atF bs 5 p3 p4 p5 p6)), .val (.int (atF bs 6 p3 p4 p5 p6)), .val (.int (atF bs 7 p3 p4 p5 p6)), .val (.int (atF bs 8 p3 p4 p5 p6)), .val (.int (atF bs 9 p3 p4 p5 p6)), .val (.int (atF bs 10 p3 p4 p5 p6)), .unset] [(.int (atF bs 11 p3 p4 p5 p6))])
  refine Goes.of (fun t => XS.istore X49.here hx rfl (hb hby d2_160) rfl (l' := #[.val (.int p1), .val (.ref a2), .val (.int p3), .val (.int p4), .val (.int p5), .val (.int p6), .val (.int (atF bs 0 p3 p4 p5 p6)), .val (.int (atF bs 1 p3 p4 p5 p6)), .val (.int (atF bs 2 p3 p4 p5 p6)), .val (.int (atF bs 3 p3 p4 p5 p6)), .val (.int (atF bs 4 p3 p4 p5 p6)), .val (.int (atF bs 5 p3 p4 p5 p6)), .val (.int (atF bs 6 p3 p4 p5 p6)), .val (.int (atF bs 7 p3 p4 p5 p6)), .val (.int (atF bs 8 p3 p4 p5 p6)), .val (.int (atF bs 9 p3 p4 p5 p6)), .val (.int (atF bs 10 p3 p4 p5 p6)), .val (.int (atF bs 11 p3 p4 p5 p6))]) rfl) ?_
  show Goes p e below KK T49 (mkF m 162 #[.val (.int p1), .val (.ref a2), .val (.int p3), .val (.int p4), .val (.int p5), .val (.int p6), .val (.int (atF bs 0 p3 p4 p5 p6)), .val (.int (atF bs 1 p3 p4 p5 p6)), .val (.int (atF bs 2 p3 p4 p5 p6)), .val (.int (atF bs 3 p3 p4 p5 p6)), .val (.int (atF bs 4 p3 p4 p5 p6)), .val (.int (atF bs 5 p3 p4 p5 p6)), .val (.int (atF bs 6 p3 p4 p5 p6)), .val (.int (atF bs 7 p3 p4 p5 p6)), .val (.int (atF bs 8 p3 p4 p5 p6)), .val (.int (atF bs 9 p3 p4 p5 p6)), .val (.int (atF bs 10 p3 p4 p5 p6)), .val (.int (atF bs 11 p3 p4 p5 p6))] [])
  refine Goes.of (fun t => XS.iloadN X49.here hx rfl (hb hby d2_162) rfl) ?_
  show Goes p e below KK T49 (mkF m 163 #[.val (.int p1), .val (.ref a2), .val (.int p3), .val (.int p4), .val (.int p5), .val (.int p6), .val (.int (atF bs 0 p3 p4 p5 p6)), .val (.int (atF bs 1 p3 p4 p5 p6)), .val (.int (atF bs 2 p3 p4 p5 p6)), .val (.int (atF bs 3 p3 p4 p5 p6)), .val (.int (atF bs 4 p3 p4 p5 p6)), .val (.int (atF bs 5 p3 p4 p5 p6)), .val (.int (atF bs 6 p3 p4 p5 p6)), .val (.int (atF bs 7 p3 p4 p5 p6)), .val (.int (atF bs 8 p3 p4 p5 p6)), .val (.int (atF bs 9 p3 p4 p5 p6)), .val (.int (atF bs 10 p3 p4 p5 p6)), .val (.int (atF bs 11 p3 p4 p5 p6))] [(.int p1)])
  by_cases hc163 : p1 = (0 : Int32)
  · refine Goes.of (fun t => XS.ifNo X49.here hx rfl (hb hby d2_163) rfl ((if0 _ _).trans (teq hc163).2)) ?_
    show Goes p e below KK T49 (mkF m 166 #[.val (.int p1), .val (.ref a2), .val (.int p3), .val (.int p4), .val (.int p5), .val (.int p6), .val (.int (atF bs 0 p3 p4 p5 p6)), .val (.int (atF bs 1 p3 p4 p5 p6)), .val (.int (atF bs 2 p3 p4 p5 p6)), .val (.int (atF bs 3 p3 p4 p5 p6)), .val (.int (atF bs 4 p3 p4 p5 p6)), .val (.int (atF bs 5 p3 p4 p5 p6)), .val (.int (atF bs 6 p3 p4 p5 p6)), .val (.int (atF bs 7 p3 p4 p5 p6)), .val (.int (atF bs 8 p3 p4 p5 p6)), .val (.int (atF bs 9 p3 p4 p5 p6)), .val (.int (atF bs 10 p3 p4 p5 p6)), .val (.int (atF bs 11 p3 p4 p5 p6))] [])
    obtain ⟨T50, h50, X50, e50, E50, A50, D50, -, st50⟩ := newO X49 hx hZw hownw w_54 w_2 w_1 e49 (g := (mkF m 166 #[.val (.int p1), .val (.ref a2), .val (.int p3), .val (.int p4), .val (.int p5), .val (.int p6), .val (.int (atF bs 0 p3 p4 p5 p6)), .val (.int (atF bs 1 p3 p4 p5 p6)), .val (.int (atF bs 2 p3 p4 p5 p6)), .val (.int (atF bs 3 p3 p4 p5 p6)), .val (.int (atF bs 4 p3 p4 p5 p6)), .val (.int (atF bs 5 p3 p4 p5 p6)), .val (.int (atF bs 6 p3 p4 p5 p6)), .val (.int (atF bs 7 p3 p4 p5 p6)), .val (.int (atF bs 8 p3 p4 p5 p6)), .val (.int (atF bs 9 p3 p4 p5 p6)), .val (.int (atF bs 10 p3 p4 p5 p6)), .val (.int (atF bs 11 p3 p4 p5 p6))] [])) rfl (hb hby d2_166) (by decide) (by decide)
    obtain ⟨b50, g50⟩ : ∃ z, z = h0.size := ⟨_, rfl⟩
    rw [← g50] at A50 D50 st50
    refine Goes.of (st50) ?_
    have ne_a2_b50 : a2 ≠ b50 := Nat.ne_of_lt (Nat.lt_of_lt_of_le E2.lt (Nat.le_of_eq g50.symm))
    have ne_b2_b50 : b2 ≠ b50 := Nat.ne_of_lt (Nat.lt_of_lt_of_le V2.lt (Nat.le_of_eq g50.symm))
    have g_b50 : n0 ≤ b50 := Nat.le_trans Z0 (Nat.le_of_eq g50.symm)
    have sz_b50 : h0.size ≤ b50 := Nat.le_trans (Keep.refl h0 []).1 (Nat.le_of_eq g50.symm)
    have sf_b50 : Safe Z EL0 s.vm h0 b50 := Safe.new (Nat.le_of_eq g50.symm)
    have sf_b50_50 := Safe.ext E50 CR0.1 sf_b50
    have CR50 := CR0.trans (CHr.ext E50 CR0.1)
    have E2_50 : Exa Z h50 a2 "java/lang/String" := E2.ext E50
    have C2_50 : Fld Z h50 a2 "java/lang/String" "coder" "B" (.int (0 : Int32)) := C2.ext E50
    have W2v_50 : Fld Z h50 a2 "java/lang/String" "value" "[B" (.ref b2) := W2v.ext E50
    have V2_50 : AI Z h50 b2 .byte bs := V2.ext E50
    have Scs_50 : Sta Z h50 "java/lang/String" "COMPACT_STRINGS" "Z" (.int cz) := Scs.ext E50
    have Sf_50 : Sta Z h50 "jdk/internal/util/Preconditions" "SIOOBE_FORMATTER" "Ljava/util/function/BiFunction;" fm := Sf.ext E50
    have K50 : Keep h0 h50 [] := (Keep.refl h0 []).ext E50
    have Z50 : n0 ≤ h50.size := Nat.le_trans Z0 E50.1
    have HK50 := Nat.le_trans HK0 E50.1
    have F_value_b50 : Fld Z h50 b50 "java/lang/String" "value" "[B" .null := D50 (Or.inr w_4) (ty := (.array .byte)) (by decide)
    have F_coder_b50 : Fld Z h50 b50 "java/lang/String" "coder" "B" (.int (0 : Int32)) := D50 (Or.inr w_5) (ty := .byte) (by decide)
    show Goes p e below KK T50 (mkF m 169 #[.val (.int p1), .val (.ref a2), .val (.int p3), .val (.int p4), .val (.int p5), .val (.int p6), .val (.int (atF bs 0 p3 p4 p5 p6)), .val (.int (atF bs 1 p3 p4 p5 p6)), .val (.int (atF bs 2 p3 p4 p5 p6)), .val (.int (atF bs 3 p3 p4 p5 p6)), .val (.int (atF bs 4 p3 p4 p5 p6)), .val (.int (atF bs 5 p3 p4 p5 p6)), .val (.int (atF bs 6 p3 p4 p5 p6)), .val (.int (atF bs 7 p3 p4 p5 p6)), .val (.int (atF bs 8 p3 p4 p5 p6)), .val (.int (atF bs 9 p3 p4 p5 p6)), .val (.int (atF bs 10 p3 p4 p5 p6)), .val (.int (atF bs 11 p3 p4 p5 p6))] [(.ref b50)])
    refine Goes.of (fun t => XS.dup X50.here hx rfl (hb hby d2_169) rfl rfl) ?_
    show Goes p e below KK T50 (mkF m 170 #[.val (.int p1), .val (.ref a2), .val (.int p3), .val (.int p4), .val (.int p5), .val (.int p6), .val (.int (atF bs 0 p3 p4 p5 p6)), .val (.int (atF bs 1 p3 p4 p5 p6)), .val (.int (atF bs 2 p3 p4 p5 p6)), .val (.int (atF bs 3 p3 p4 p5 p6)), .val (.int (atF bs 4 p3 p4 p5 p6)), .val (.int (atF bs 5 p3 p4 p5 p6)), .val (.int (atF bs 6 p3 p4 p5 p6)), .val (.int (atF bs 7 p3 p4 p5 p6)), .val (.int (atF bs 8 p3 p4 p5 p6)), .val (.int (atF bs 9 p3 p4 p5 p6)), .val (.int (atF bs 10 p3 p4 p5 p6)), .val (.int (atF bs 11 p3 p4 p5 p6))] [(.ref b50), (.ref b50)])
    refine Goes.of (fun t => XS.iconst X50.here hx rfl (hb hby d2_170)) ?_
    show Goes p e below KK T50 (mkF m 171 #[.val (.int p1), .val (.ref a2), .val (.int p3), .val (.int p4), .val (.int p5), .val (.int p6), .val (.int (atF bs 0 p3 p4 p5 p6)), .val (.int (atF bs 1 p3 p4 p5 p6)), .val (.int (atF bs 2 p3 p4 p5 p6)), .val (.int (atF bs 3 p3 p4 p5 p6)), .val (.int (atF bs 4 p3 p4 p5 p6)), .val (.int (atF bs 5 p3 p4 p5 p6)), .val (.int (atF bs 6 p3 p4 p5 p6)), .val (.int (atF bs 7 p3 p4 p5 p6)), .val (.int (atF bs 8 p3 p4 p5 p6)), .val (.int (atF bs 9 p3 p4 p5 p6)), .val (.int (atF bs 10 p3 p4 p5 p6)), .val (.int (atF bs 11 p3 p4 p5 p6))] [(.int (0 : Int32)), (.ref b50), (.ref b50)])
    obtain ⟨T51, h51, k51, X51, e51, E51, A51, st51⟩ := newP (aty := .char) X50 hx hZw w_55 e50 (g := (mkF m 171 #[.val (.int p1), .val (.ref a2), .val (.int p3), .val (.int p4), .val (.int p5), .val (.int p6), .val (.int (atF bs 0 p3 p4 p5 p6)), .val (.int (atF bs 1 p3 p4 p5 p6)), .val (.int (atF bs 2 p3 p4 p5 p6)), .val (.int (atF bs 3 p3 p4 p5 p6)), .val (.int (atF bs 4 p3 p4 p5 p6)), .val (.int (atF bs 5 p3 p4 p5 p6)), .val (.int (atF bs 6 p3 p4 p5 p6)), .val (.int (atF bs 7 p3 p4 p5 p6)), .val (.int (atF bs 8 p3 p4 p5 p6)), .val (.int (atF bs 9 p3 p4 p5 p6)), .val (.int (atF bs 10 p3 p4 p5 p6)), .val (.int (atF bs 11 p3 p4 p5 p6))] [(.int (0 : Int32)), (.ref b50), (.ref b50)])) rfl (hb hby d2_171) rfl (by decide) (cap := 0) (by decide) (by decide) (by decide) (by decide)
    obtain ⟨b51, g51⟩ : ∃ z, z = h50.size := ⟨_, rfl⟩
    rw [← g51] at A51 st51
    refine Goes.of (st51) ?_
    have ne_a2_b51 : a2 ≠ b51 := Nat.ne_of_lt (Nat.lt_of_lt_of_le E2_50.lt (Nat.le_of_eq g51.symm))
    have ne_b2_b51 : b2 ≠ b51 := Nat.ne_of_lt (Nat.lt_of_lt_of_le V2_50.lt (Nat.le_of_eq g51.symm))
    have ne_b50_b51 : b50 ≠ b51 := Nat.ne_of_lt (Nat.lt_of_lt_of_le A50.lt (Nat.le_of_eq g51.symm))
    have g_b51 : n0 ≤ b51 := Nat.le_trans Z50 (Nat.le_of_eq g51.symm)
    have sz_b51 : h0.size ≤ b51 := Nat.le_trans K50.1 (Nat.le_of_eq g51.symm)
    have sf_b51 : Safe Z EL0 s.vm h50 b51 := Safe.new (Nat.le_of_eq g51.symm)
    have sf_b50_51 := Safe.ext E51 CR50.1 sf_b50_50
    have sf_b51_51 := Safe.ext E51 CR50.1 sf_b51
    have CR51 := CR50.trans (CHr.ext E51 CR50.1)
    have E2_50_51 : Exa Z h51 a2 "java/lang/String" := E2_50.ext E51
    have C2_50_51 : Fld Z h51 a2 "java/lang/String" "coder" "B" (.int (0 : Int32)) := C2_50.ext E51
    have W2v_50_51 : Fld Z h51 a2 "java/lang/String" "value" "[B" (.ref b2) := W2v_50.ext E51
    have V2_50_51 : AI Z h51 b2 .byte bs := V2_50.ext E51
    have Scs_50_51 : Sta Z h51 "java/lang/String" "COMPACT_STRINGS" "Z" (.int cz) := Scs_50.ext E51
    have Sf_50_51 : Sta Z h51 "jdk/internal/util/Preconditions" "SIOOBE_FORMATTER" "Ljava/util/function/BiFunction;" fm := Sf_50.ext E51
    have A50_51 : Exa Z h51 b50 "java/lang/String" := A50.ext E51
    have F_value_b50_51 : Fld Z h51 b50 "java/lang/String" "value" "[B" .null := F_value_b50.ext E51
    have F_coder_b50_51 : Fld Z h51 b50 "java/lang/String" "coder" "B" (.int (0 : Int32)) := F_coder_b50.ext E51
    have K51 : Keep h0 h51 [] := K50.ext E51
    have Z51 : n0 ≤ h51.size := Nat.le_trans Z50 E51.1
    have HK51 := Nat.le_trans HK50 E51.1
    have V_b51 : AI Z h51 b51 .char [] := AI.fresh (k := 0) (by simp) (rfl) A51
    show Goes p e below KK T51 (mkF m 173 #[.val (.int p1), .val (.ref a2), .val (.int p3), .val (.int p4), .val (.int p5), .val (.int p6), .val (.int (atF bs 0 p3 p4 p5 p6)), .val (.int (atF bs 1 p3 p4 p5 p6)), .val (.int (atF bs 2 p3 p4 p5 p6)), .val (.int (atF bs 3 p3 p4 p5 p6)), .val (.int (atF bs 4 p3 p4 p5 p6)), .val (.int (atF bs 5 p3 p4 p5 p6)), .val (.int (atF bs 6 p3 p4 p5 p6)), .val (.int (atF bs 7 p3 p4 p5 p6)), .val (.int (atF bs 8 p3 p4 p5 p6)), .val (.int (atF bs 9 p3 p4 p5 p6)), .val (.int (atF bs 10 p3 p4 p5 p6)), .val (.int (atF bs 11 p3 p4 p5 p6))] [(.ref b51), (.ref b50), (.ref b50)])
    obtain ⟨_, _, ⟨T52, L52, k52, n52⟩, -, X52, hSi52, hge52, ⟨Lc52, hQ52, l52, y52, z52, cr52⟩, st52⟩ := X51.specialBackS hx (y := (⟨"java/lang/String", "<init>", "([C)V"⟩ : MethodName)) rfl hownw (mvT hZw w_56) (mvT hZw w_57) (mvT hZw w_58) (by decide) (backOfSH (W := 1) (rm11Z l Z a0 hw [] b50 b51  h51 n0 Z51 A50_51 F_coder_b50_51 F_value_b50_51 g_b50 V_b51) hZw w_58 w_1 (by decide) (by decide) hEL CR51.1) (g := (mkF m 173 #[.val (.int p1), .val (.ref a2), .val (.int p3), .val (.int p4), .val (.int p5), .val (.int p6), .val (.int (atF bs 0 p3 p4 p5 p6)), .val (.int (atF bs 1 p3 p4 p5 p6)), .val (.int (atF bs 2 p3 p4 p5 p6)), .val (.int (atF bs 3 p3 p4 p5 p6)), .val (.int (atF bs 4 p3 p4 p5 p6)), .val (.int (atF bs 5 p3 p4 p5 p6)), .val (.int (atF bs 6 p3 p4 p5 p6)), .val (.int (atF bs 7 p3 p4 p5 p6)), .val (.int (atF bs 8 p3 p4 p5 p6)), .val (.int (atF bs 9 p3 p4 p5 p6)), .val (.int (atF bs 10 p3 p4 p5 p6)), .val (.int (atF bs 11 p3 p4 p5 p6))] [(.ref b51), (.ref b50), (.ref b50)])) rfl (by rw [hml]; rfl) (Steps.refl _) (a := b50) (argsL := [(.ref b51)]) (rest := [(.ref b50)]) (lenOf pd_27 rfl) rfl (by show 2 * 0 + _ ≤ _; exact Nat.le_of_eq rfl) (hb hby d2_173) (fun _ _ => ⟨rfl, e51, (by decide : 2 + 4 ≤ _), (by decide : 4 + 8 ≤ _)⟩)
    dsimp only [Pt.U, Pt.locs, Pt.cells, Pt.slots] at X52 l52 y52 z52 st52 hQ52 hSi52 hge52 cr52
    subst y52 z52
    obtain ⟨Y52, HS52, hZ52, hown52⟩ := rebS HS0 (by rw [e51]; exact HK51) X52 hSi52 hge52 hZw hownw
    have HK52 := Nat.le_refl T52.heap.size
    have sf_b50_52 := cr52.safe A50_51.lt sf_b50_51
    have sf_b51_52 := cr52.safe V_b51.lt sf_b51_51
    have CR52 := CR51.trans cr52
    obtain ⟨r52, rfl, N52q, Kc52, E52, Fc52, Fv52, V52⟩ := hQ52
    have N52 : Fr n0 L52 := by rw [l52]; exact Fr.app N49 N52q
    have E2_50_51_52 : Exa Z T52.heap a2 "java/lang/String" := E2_50_51.keep Kc52
    have C2_50_51_52 : Fld Z T52.heap a2 "java/lang/String" "coder" "B" (.int (0 : Int32)) := C2_50_51.keep Kc52 (ninS ne_a2_b50 nin0)
    have W2v_50_51_52 : Fld Z T52.heap a2 "java/lang/String" "value" "[B" (.ref b2) := W2v_50_51.keep Kc52 (ninS ne_a2_b50 nin0)
    have V2_50_51_52 : AI Z T52.heap b2 .byte bs := V2_50_51.keep Kc52 (ninS ne_b2_b50 nin0)
    have A50_51_52 : Exa Z T52.heap b50 "java/lang/String" := A50_51.keep Kc52
    have K52 : Keep h0 T52.heap [] := K51.trans Kc52 (allS (Or.inr sz_b50) all0)
    have Z52 : n0 ≤ T52.heap.size := Nat.le_trans Z51 Kc52.1
    have e52 : T52.heap = T52.heap := rfl
    refine Goes.tr st52 ?_
    show Goes p e below KK T52 (mkF m 176 #[.val (.int p1), .val (.ref a2), .val (.int p3), .val (.int p4), .val (.int p5), .val (.int p6), .val (.int (atF bs 0 p3 p4 p5 p6)), .val (.int (atF bs 1 p3 p4 p5 p6)), .val (.int (atF bs 2 p3 p4 p5 p6)), .val (.int (atF bs 3 p3 p4 p5 p6)), .val (.int (atF bs 4 p3 p4 p5 p6)), .val (.int (atF bs 5 p3 p4 p5 p6)), .val (.int (atF bs 6 p3 p4 p5 p6)), .val (.int (atF bs 7 p3 p4 p5 p6)), .val (.int (atF bs 8 p3 p4 p5 p6)), .val (.int (atF bs 9 p3 p4 p5 p6)), .val (.int (atF bs 10 p3 p4 p5 p6)), .val (.int (atF bs 11 p3 p4 p5 p6))] [(.ref b50)])
    have hkk' : kk = 0 := by
      have z0 : (0 : Int32).toInt = 0 := rfl
      have z7 : (7 : Int32).toInt = 7 := rfl
      have z8 : (8 : Int32).toInt = 8 := rfl
      have z9 : (9 : Int32).toInt = 9 := rfl
      have z10 : (10 : Int32).toInt = 10 := rfl
      have z11 : (11 : Int32).toInt = 11 := rfl
      have z12 : (12 : Int32).toInt = 12 := rfl
      have qhc163 := congrArg Int32.toInt hc163
      omega
    subst hkk'
    rw [← hKK]
    refine Goes.retRefH Y52 HS52 (by rw [e52]; exact HK52) (by rw [e52, hh]; exact CR52.trans (CHv.at Y52 hZ52 hEL CR52.1)) hx hlk rfl rfl Bd.returns (hb hby d2_176) ?_ (by decide) (by decide)
    rw [e52]
    exact ⟨b50, r52, rfl, N52, K52, E52, Fc52, Fv52, V52⟩
  · refine Goes.of (fun t => XS.ifYes X49.here hx rfl (pc0 := 163) (pc' := 177) rfl (hb hby d2_163) rfl ((if0 _ _).trans (feq hc163).2) (by decide) (by decide)) ?_
    show Goes p e below KK T49 (mkF m 177 #[.val (.int p1), .val (.ref a2), .val (.int p3), .val (.int p4), .val (.int p5), .val (.int p6), .val (.int (atF bs 0 p3 p4 p5 p6)), .val (.int (atF bs 1 p3 p4 p5 p6)), .val (.int (atF bs 2 p3 p4 p5 p6)), .val (.int (atF bs 3 p3 p4 p5 p6)), .val (.int (atF bs 4 p3 p4 p5 p6)), .val (.int (atF bs 5 p3 p4 p5 p6)), .val (.int (atF bs 6 p3 p4 p5 p6)), .val (.int (atF bs 7 p3 p4 p5 p6)), .val (.int (atF bs 8 p3 p4 p5 p6)), .val (.int (atF bs 9 p3 p4 p5 p6)), .val (.int (atF bs 10 p3 p4 p5 p6)), .val (.int (atF bs 11 p3 p4 p5 p6))] [])
    refine Goes.of (fun t => XS.iloadN X49.here hx rfl (hb hby d2_177) rfl) ?_
    show Goes p e below KK T49 (mkF m 178 #[.val (.int p1), .val (.ref a2), .val (.int p3), .val (.int p4), .val (.int p5), .val (.int p6), .val (.int (atF bs 0 p3 p4 p5 p6)), .val (.int (atF bs 1 p3 p4 p5 p6)), .val (.int (atF bs 2 p3 p4 p5 p6)), .val (.int (atF bs 3 p3 p4 p5 p6)), .val (.int (atF bs 4 p3 p4 p5 p6)), .val (.int (atF bs 5 p3 p4 p5 p6)), .val (.int (atF bs 6 p3 p4 p5 p6)), .val (.int (atF bs 7 p3 p4 p5 p6)), .val (.int (atF bs 8 p3 p4 p5 p6)), .val (.int (atF bs 9 p3 p4 p5 p6)), .val (.int (atF bs 10 p3 p4 p5 p6)), .val (.int (atF bs 11 p3 p4 p5 p6))] [(.int p1)])
    refine Goes.of (fun t => XS.bipush X49.here hx rfl (hb hby d2_178)) ?_
    show Goes p e below KK T49 (mkF m 180 #[.val (.int p1), .val (.ref a2), .val (.int p3), .val (.int p4), .val (.int p5), .val (.int p6), .val (.int (atF bs 0 p3 p4 p5 p6)), .val (.int (atF bs 1 p3 p4 p5 p6)), .val (.int (atF bs 2 p3 p4 p5 p6)), .val (.int (atF bs 3 p3 p4 p5 p6)), .val (.int (atF bs 4 p3 p4 p5 p6)), .val (.int (atF bs 5 p3 p4 p5 p6)), .val (.int (atF bs 6 p3 p4 p5 p6)), .val (.int (atF bs 7 p3 p4 p5 p6)), .val (.int (atF bs 8 p3 p4 p5 p6)), .val (.int (atF bs 9 p3 p4 p5 p6)), .val (.int (atF bs 10 p3 p4 p5 p6)), .val (.int (atF bs 11 p3 p4 p5 p6))] [(.int (7 : Int32)), (.int p1)])
    by_cases hc180 : p1 = (7 : Int32)
    · refine Goes.of (fun t => XS.icmpNo X49.here hx rfl (hb hby d2_180) rfl (teq hc180).2) ?_
      show Goes p e below KK T49 (mkF m 183 #[.val (.int p1), .val (.ref a2), .val (.int p3), .val (.int p4), .val (.int p5), .val (.int p6), .val (.int (atF bs 0 p3 p4 p5 p6)), .val (.int (atF bs 1 p3 p4 p5 p6)), .val (.int (atF bs 2 p3 p4 p5 p6)), .val (.int (atF bs 3 p3 p4 p5 p6)), .val (.int (atF bs 4 p3 p4 p5 p6)), .val (.int (atF bs 5 p3 p4 p5 p6)), .val (.int (atF bs 6 p3 p4 p5 p6)), .val (.int (atF bs 7 p3 p4 p5 p6)), .val (.int (atF bs 8 p3 p4 p5 p6)), .val (.int (atF bs 9 p3 p4 p5 p6)), .val (.int (atF bs 10 p3 p4 p5 p6)), .val (.int (atF bs 11 p3 p4 p5 p6))] [])
      obtain ⟨T53, h53, X53, e53, E53, A53, D53, -, st53⟩ := newO X49 hx hZw hownw w_54 w_2 w_1 e49 (g := (mkF m 183 #[.val (.int p1), .val (.ref a2), .val (.int p3), .val (.int p4), .val (.int p5), .val (.int p6), .val (.int (atF bs 0 p3 p4 p5 p6)), .val (.int (atF bs 1 p3 p4 p5 p6)), .val (.int (atF bs 2 p3 p4 p5 p6)), .val (.int (atF bs 3 p3 p4 p5 p6)), .val (.int (atF bs 4 p3 p4 p5 p6)), .val (.int (atF bs 5 p3 p4 p5 p6)), .val (.int (atF bs 6 p3 p4 p5 p6)), .val (.int (atF bs 7 p3 p4 p5 p6)), .val (.int (atF bs 8 p3 p4 p5 p6)), .val (.int (atF bs 9 p3 p4 p5 p6)), .val (.int (atF bs 10 p3 p4 p5 p6)), .val (.int (atF bs 11 p3 p4 p5 p6))] [])) rfl (hb hby d2_183) (by decide) (by decide)
      obtain ⟨b53, g53⟩ : ∃ z, z = h0.size := ⟨_, rfl⟩
      rw [← g53] at A53 D53 st53
      refine Goes.of (st53) ?_
      have ne_a2_b53 : a2 ≠ b53 := Nat.ne_of_lt (Nat.lt_of_lt_of_le E2.lt (Nat.le_of_eq g53.symm))
      have ne_b2_b53 : b2 ≠ b53 := Nat.ne_of_lt (Nat.lt_of_lt_of_le V2.lt (Nat.le_of_eq g53.symm))
      have g_b53 : n0 ≤ b53 := Nat.le_trans Z0 (Nat.le_of_eq g53.symm)
      have sz_b53 : h0.size ≤ b53 := Nat.le_trans (Keep.refl h0 []).1 (Nat.le_of_eq g53.symm)
      have sf_b53 : Safe Z EL0 s.vm h0 b53 := Safe.new (Nat.le_of_eq g53.symm)
      have sf_b53_53 := Safe.ext E53 CR0.1 sf_b53
      have CR53 := CR0.trans (CHr.ext E53 CR0.1)
      have E2_53 : Exa Z h53 a2 "java/lang/String" := E2.ext E53
      have C2_53 : Fld Z h53 a2 "java/lang/String" "coder" "B" (.int (0 : Int32)) := C2.ext E53
      have W2v_53 : Fld Z h53 a2 "java/lang/String" "value" "[B" (.ref b2) := W2v.ext E53
      have V2_53 : AI Z h53 b2 .byte bs := V2.ext E53
      have Scs_53 : Sta Z h53 "java/lang/String" "COMPACT_STRINGS" "Z" (.int cz) := Scs.ext E53
      have Sf_53 : Sta Z h53 "jdk/internal/util/Preconditions" "SIOOBE_FORMATTER" "Ljava/util/function/BiFunction;" fm := Sf.ext E53
      have K53 : Keep h0 h53 [] := (Keep.refl h0 []).ext E53
      have Z53 : n0 ≤ h53.size := Nat.le_trans Z0 E53.1
      have HK53 := Nat.le_trans HK0 E53.1
      have F_value_b53 : Fld Z h53 b53 "java/lang/String" "value" "[B" .null := D53 (Or.inr w_4) (ty := (.array .byte)) (by decide)
      have F_coder_b53 : Fld Z h53 b53 "java/lang/String" "coder" "B" (.int (0 : Int32)) := D53 (Or.inr w_5) (ty := .byte) (by decide)
      show Goes p e below KK T53 (mkF m 186 #[.val (.int p1), .val (.ref a2), .val (.int p3), .val (.int p4), .val (.int p5), .val (.int p6), .val (.int (atF bs 0 p3 p4 p5 p6)), .val (.int (atF bs 1 p3 p4 p5 p6)), .val (.int (atF bs 2 p3 p4 p5 p6)), .val (.int (atF bs 3 p3 p4 p5 p6)), .val (.int (atF bs 4 p3 p4 p5 p6)), .val (.int (atF bs 5 p3 p4 p5 p6)), .val (.int (atF bs 6 p3 p4 p5 p6)), .val (.int (atF bs 7 p3 p4 p5 p6)), .val (.int (atF bs 8 p3 p4 p5 p6)), .val (.int (atF bs 9 p3 p4 p5 p6)), .val (.int (atF bs 10 p3 p4 p5 p6)), .val (.int (atF bs 11 p3 p4 p5 p6))] [(.ref b53)])
      refine Goes.of (fun t => XS.dup X53.here hx rfl (hb hby d2_186) rfl rfl) ?_
      show Goes p e below KK T53 (mkF m 187 #[.val (.int p1), .val (.ref a2), .val (.int p3), .val (.int p4), .val (.int p5), .val (.int p6), .val (.int (atF bs 0 p3 p4 p5 p6)), .val (.int (atF bs 1 p3 p4 p5 p6)), .val (.int (atF bs 2 p3 p4 p5 p6)), .val (.int (atF bs 3 p3 p4 p5 p6)), .val (.int (atF bs 4 p3 p4 p5 p6)), .val (.int (atF bs 5 p3 p4 p5 p6)), .val (.int (atF bs 6 p3 p4 p5 p6)), .val (.int (atF bs 7 p3 p4 p5 p6)), .val (.int (atF bs 8 p3 p4 p5 p6)), .val (.int (atF bs 9 p3 p4 p5 p6)), .val (.int (atF bs 10 p3 p4 p5 p6)), .val (.int (atF bs 11 p3 p4 p5 p6))] [(.ref b53), (.ref b53)])
      refine Goes.of (fun t => XS.bipush X53.here hx rfl (hb hby d2_187)) ?_
      show Goes p e below KK T53 (mkF m 189 #[.val (.int p1), .val (.ref a2), .val (.int p3), .val (.int p4), .val (.int p5), .val (.int p6), .val (.int (atF bs 0 p3 p4 p5 p6)), .val (.int (atF bs 1 p3 p4 p5 p6)), .val (.int (atF bs 2 p3 p4 p5 p6)), .val (.int (atF bs 3 p3 p4 p5 p6)), .val (.int (atF bs 4 p3 p4 p5 p6)), .val (.int (atF bs 5 p3 p4 p5 p6)), .val (.int (atF bs 6 p3 p4 p5 p6)), .val (.int (atF bs 7 p3 p4 p5 p6)), .val (.int (atF bs 8 p3 p4 p5 p6)), .val (.int (atF bs 9 p3 p4 p5 p6)), .val (.int (atF bs 10 p3 p4 p5 p6)), .val (.int (atF bs 11 p3 p4 p5 p6))] [(.int (7 : Int32)), (.ref b53), (.ref b53)])
      obtain ⟨T54, h54, k54, X54, e54, E54, A54, st54⟩ := newP (aty := .char) X53 hx hZw w_55 e53 (g := (mkF m 189 #[.val (.int p1), .val (.ref a2), .val (.int p3), .val (.int p4), .val (.int p5), .val (.int p6), .val (.int (atF bs 0 p3 p4 p5 p6)), .val (.int (atF bs 1 p3 p4 p5 p6)), .val (.int (atF bs 2 p3 p4 p5 p6)), .val (.int (atF bs 3 p3 p4 p5 p6)), .val (.int (atF bs 4 p3 p4 p5 p6)), .val (.int (atF bs 5 p3 p4 p5 p6)), .val (.int (atF bs 6 p3 p4 p5 p6)), .val (.int (atF bs 7 p3 p4 p5 p6)), .val (.int (atF bs 8 p3 p4 p5 p6)), .val (.int (atF bs 9 p3 p4 p5 p6)), .val (.int (atF bs 10 p3 p4 p5 p6)), .val (.int (atF bs 11 p3 p4 p5 p6))] [(.int (7 : Int32)), (.ref b53), (.ref b53)])) rfl (hb hby d2_189) rfl (by decide) (cap := 7) (by decide) (by decide) (by decide) (by decide)
      obtain ⟨b54, g54⟩ : ∃ z, z = h53.size := ⟨_, rfl⟩
      rw [← g54] at A54 st54
      refine Goes.of (st54) ?_
      have ne_a2_b54 : a2 ≠ b54 := Nat.ne_of_lt (Nat.lt_of_lt_of_le E2_53.lt (Nat.le_of_eq g54.symm))
      have ne_b2_b54 : b2 ≠ b54 := Nat.ne_of_lt (Nat.lt_of_lt_of_le V2_53.lt (Nat.le_of_eq g54.symm))
      have ne_b53_b54 : b53 ≠ b54 := Nat.ne_of_lt (Nat.lt_of_lt_of_le A53.lt (Nat.le_of_eq g54.symm))
      have g_b54 : n0 ≤ b54 := Nat.le_trans Z53 (Nat.le_of_eq g54.symm)
      have sz_b54 : h0.size ≤ b54 := Nat.le_trans K53.1 (Nat.le_of_eq g54.symm)
      have sf_b54 : Safe Z EL0 s.vm h53 b54 := Safe.new (Nat.le_of_eq g54.symm)
      have sf_b53_54 := Safe.ext E54 CR53.1 sf_b53_53
      have sf_b54_54 := Safe.ext E54 CR53.1 sf_b54
      have CR54 := CR53.trans (CHr.ext E54 CR53.1)
      have E2_53_54 : Exa Z h54 a2 "java/lang/String" := E2_53.ext E54
      have C2_53_54 : Fld Z h54 a2 "java/lang/String" "coder" "B" (.int (0 : Int32)) := C2_53.ext E54
      have W2v_53_54 : Fld Z h54 a2 "java/lang/String" "value" "[B" (.ref b2) := W2v_53.ext E54
      have V2_53_54 : AI Z h54 b2 .byte bs := V2_53.ext E54
      have Scs_53_54 : Sta Z h54 "java/lang/String" "COMPACT_STRINGS" "Z" (.int cz) := Scs_53.ext E54
      have Sf_53_54 : Sta Z h54 "jdk/internal/util/Preconditions" "SIOOBE_FORMATTER" "Ljava/util/function/BiFunction;" fm := Sf_53.ext E54
      have A53_54 : Exa Z h54 b53 "java/lang/String" := A53.ext E54
      have F_value_b53_54 : Fld Z h54 b53 "java/lang/String" "value" "[B" .null := F_value_b53.ext E54
      have F_coder_b53_54 : Fld Z h54 b53 "java/lang/String" "coder" "B" (.int (0 : Int32)) := F_coder_b53.ext E54
      have K54 : Keep h0 h54 [] := K53.ext E54
      have Z54 : n0 ≤ h54.size := Nat.le_trans Z53 E54.1
      have HK54 := Nat.le_trans HK53 E54.1
      have V_b54 : AI Z h54 b54 .char [(0 : Int32), (0 : Int32), (0 : Int32), (0 : Int32), (0 : Int32), (0 : Int32), (0 : Int32)] := AI.fresh (k := 7) (by simp) (rfl) A54
      show Goes p e below KK T54 (mkF m 191 #[.val (.int p1), .val (.ref a2), .val (.int p3), .val (.int p4), .val (.int p5), .val (.int p6), .val (.int (atF bs 0 p3 p4 p5 p6)), .val (.int (atF bs 1 p3 p4 p5 p6)), .val (.int (atF bs 2 p3 p4 p5 p6)), .val (.int (atF bs 3 p3 p4 p5 p6)), .val (.int (atF bs 4 p3 p4 p5 p6)), .val (.int (atF bs 5 p3 p4 p5 p6)), .val (.int (atF bs 6 p3 p4 p5 p6)), .val (.int (atF bs 7 p3 p4 p5 p6)), .val (.int (atF bs 8 p3 p4 p5 p6)), .val (.int (atF bs 9 p3 p4 p5 p6)), .val (.int (atF bs 10 p3 p4 p5 p6)), .val (.int (atF bs 11 p3 p4 p5 p6))] [(.ref b54), (.ref b53), (.ref b53)])
      refine Goes.of (fun t => XS.dup X54.here hx rfl (hb hby d2_191) rfl rfl) ?_
      show Goes p e below KK T54 (mkF m 192 #[.val (.int p1), .val (.ref a2), .val (.int p3), .val (.int p4), .val (.int p5), .val (.int p6), .val (.int (atF bs 0 p3 p4 p5 p6)), .val (.int (atF bs 1 p3 p4 p5 p6)), .val (.int (atF bs 2 p3 p4 p5 p6)), .val (.int (atF bs 3 p3 p4 p5 p6)), .val (.int (atF bs 4 p3 p4 p5 p6)), .val (.int (atF bs 5 p3 p4 p5 p6)), .val (.int (atF bs 6 p3 p4 p5 p6)), .val (.int (atF bs 7 p3 p4 p5 p6)), .val (.int (atF bs 8 p3 p4 p5 p6)), .val (.int (atF bs 9 p3 p4 p5 p6)), .val (.int (atF bs 10 p3 p4 p5 p6)), .val (.int (atF bs 11 p3 p4 p5 p6))] [(.ref b54), (.ref b54), (.ref b53), (.ref b53)])
      refine Goes.of (fun t => XS.iconst X54.here hx rfl (hb hby d2_192)) ?_
      show Goes p e below KK T54 (mkF m 193 #[.val (.int p1), .val (.ref a2), .val (.int p3), .val (.int p4), .val (.int p5), .val (.int p6), .val (.int (atF bs 0 p3 p4 p5 p6)), .val (.int (atF bs 1 p3 p4 p5 p6)), .val (.int (atF bs 2 p3 p4 p5 p6)), .val (.int (atF bs 3 p3 p4 p5 p6)), .val (.int (atF bs 4 p3 p4 p5 p6)), .val (.int (atF bs 5 p3 p4 p5 p6)), .val (.int (atF bs 6 p3 p4 p5 p6)), .val (.int (atF bs 7 p3 p4 p5 p6)), .val (.int (atF bs 8 p3 p4 p5 p6)), .val (.int (atF bs 9 p3 p4 p5 p6)), .val (.int (atF bs 10 p3 p4 p5 p6)), .val (.int (atF bs 11 p3 p4 p5 p6))] [(.int (0 : Int32)), (.ref b54), (.ref b54), (.ref b53), (.ref b53)])
      refine Goes.of (fun t => XS.iload X54.here hx rfl (hb hby d2_193) rfl) ?_
      show Goes p e below KK T54 (mkF m 195 #[.val (.int p1), .val (.ref a2), .val (.int p3), .val (.int p4), .val (.int p5), .val (.int p6), .val (.int (atF bs 0 p3 p4 p5 p6)), .val (.int (atF bs 1 p3 p4 p5 p6)), .val (.int (atF bs 2 p3 p4 p5 p6)), .val (.int (atF bs 3 p3 p4 p5 p6)), .val (.int (atF bs 4 p3 p4 p5 p6)), .val (.int (atF bs 5 p3 p4 p5 p6)), .val (.int (atF bs 6 p3 p4 p5 p6)), .val (.int (atF bs 7 p3 p4 p5 p6)), .val (.int (atF bs 8 p3 p4 p5 p6)), .val (.int (atF bs 9 p3 p4 p5 p6)), .val (.int (atF bs 10 p3 p4 p5 p6)), .val (.int (atF bs 11 p3 p4 p5 p6))] [(.int (atF bs 0 p3 p4 p5 p6)), (.int (0 : Int32)), (.ref b54), (.ref b54), (.ref b53), (.ref b53)])
      obtain ⟨T55, h55, X55, e55, W55, V55, st55⟩ := AI.castore X54 hx hZw e54 V_b54 (i := 0) (j := (0 : Int32)) (rfl) ((by simp)) (g := (mkF m 195 #[.val (.int p1), .val (.ref a2), .val (.int p3), .val (.int p4), .val (.int p5), .val (.int p6), .val (.int (atF bs 0 p3 p4 p5 p6)), .val (.int (atF bs 1 p3 p4 p5 p6)), .val (.int (atF bs 2 p3 p4 p5 p6)), .val (.int (atF bs 3 p3 p4 p5 p6)), .val (.int (atF bs 4 p3 p4 p5 p6)), .val (.int (atF bs 5 p3 p4 p5 p6)), .val (.int (atF bs 6 p3 p4 p5 p6)), .val (.int (atF bs 7 p3 p4 p5 p6)), .val (.int (atF bs 8 p3 p4 p5 p6)), .val (.int (atF bs 9 p3 p4 p5 p6)), .val (.int (atF bs 10 p3 p4 p5 p6)), .val (.int (atF bs 11 p3 p4 p5 p6))] [(.int (atF bs 0 p3 p4 p5 p6)), (.int (0 : Int32)), (.ref b54), (.ref b54), (.ref b53), (.ref b53)])) rfl rfl (hb hby d2_195)
      refine Goes.of (st55) ?_
      have sf_b53_55 := Safe.wr W55 sf_b54_54 CR54.1 sf_b53_54
      have sf_b54_55 := Safe.wr W55 sf_b54_54 CR54.1 sf_b54_54
      have CR55 := CR54.trans (CHr.wr W55 sf_b54_54 CR54.1)
      have E2_53_54_55 : Exa Z h55 a2 "java/lang/String" := E2_53_54.wr W55
      have C2_53_54_55 : Fld Z h55 a2 "java/lang/String" "coder" "B" (.int (0 : Int32)) := C2_53_54.other W55 (Or.inl ne_a2_b54)
      have W2v_53_54_55 : Fld Z h55 a2 "java/lang/String" "value" "[B" (.ref b2) := W2v_53_54.other W55 (Or.inl ne_a2_b54)
      have V2_53_54_55 : AI Z h55 b2 .byte bs := V2_53_54.other W55 ne_b2_b54
      have Scs_53_54_55 : Sta Z h55 "java/lang/String" "COMPACT_STRINGS" "Z" (.int cz) := Scs_53_54.wr W55
      have Sf_53_54_55 : Sta Z h55 "jdk/internal/util/Preconditions" "SIOOBE_FORMATTER" "Ljava/util/function/BiFunction;" fm := Sf_53_54.wr W55
      have A53_54_55 : Exa Z h55 b53 "java/lang/String" := A53_54.wr W55
      have F_value_b53_54_55 : Fld Z h55 b53 "java/lang/String" "value" "[B" .null := F_value_b53_54.other W55 (Or.inl ne_b53_b54)
      have F_coder_b53_54_55 : Fld Z h55 b53 "java/lang/String" "coder" "B" (.int (0 : Int32)) := F_coder_b53_54.other W55 (Or.inl ne_b53_b54)
      have K55 : Keep h0 h55 [] := K54.wr W55 (Or.inr sz_b54)
      have Z55 : n0 ≤ h55.size := Nat.le_trans Z54 (Keep.of_wr W55).1
      have HK55 := Nat.le_trans HK54 (Keep.of_wr W55).1
      have N55 := Fr.snoc X55 N49 g_b54
      have V_b54_55 : AI Z h55 b54 .char [(nar .char (atF bs 0 p3 p4 p5 p6)), (0 : Int32), (0 : Int32), (0 : Int32), (0 : Int32), (0 : Int32), (0 : Int32)] := V55
      show Goes p e below KK T55 (mkF m 196 #[.val (.int p1), .val (.ref a2), .val (.int p3), .val (.int p4), .val (.int p5), .val (.int p6), .val (.int (atF bs 0 p3 p4 p5 p6)), .val (.int (atF bs 1 p3 p4 p5 p6)), .val (.int (atF bs 2 p3 p4 p5 p6)), .val (.int (atF bs 3 p3 p4 p5 p6)), .val (.int (atF bs 4 p3 p4 p5 p6)), .val (.int (atF bs 5 p3 p4 p5 p6)), .val (.int (atF bs 6 p3 p4 p5 p6)), .val (.int (atF bs 7 p3 p4 p5 p6)), .val (.int (atF bs 8 p3 p4 p5 p6)), .val (.int (atF bs 9 p3 p4 p5 p6)), .val (.int (atF bs 10 p3 p4 p5 p6)), .val (.int (atF bs 11 p3 p4 p5 p6))] [(.ref b54), (.ref b53), (.ref b53)])
      refine Goes.of (fun t => XS.dup X55.here hx rfl (hb hby d2_196) rfl rfl) ?_
      show Goes p e below KK T55 (mkF m 197 #[.val (.int p1), .val (.ref a2), .val (.int p3), .val (.int p4), .val (.int p5), .val (.int p6), .val (.int (atF bs 0 p3 p4 p5 p6)), .val (.int (atF bs 1 p3 p4 p5 p6)), .val (.int (atF bs 2 p3 p4 p5 p6)), .val (.int (atF bs 3 p3 p4 p5 p6)), .val (.int (atF bs 4 p3 p4 p5 p6)), .val (.int (atF bs 5 p3 p4 p5 p6)), .val (.int (atF bs 6 p3 p4 p5 p6)), .val (.int (atF bs 7 p3 p4 p5 p6)), .val (.int (atF bs 8 p3 p4 p5 p6)), .val (.int (atF bs 9 p3 p4 p5 p6)), .val (.int (atF bs 10 p3 p4 p5 p6)), .val (.int (atF bs 11 p3 p4 p5 p6))] [(.ref b54), (.ref b54), (.ref b53), (.ref b53)])
      refine Goes.of (fun t => XS.iconst X55.here hx rfl (hb hby d2_197)) ?_
      show Goes p e below KK T55 (mkF m 198 #[.val (.int p1), .val (.ref a2), .val (.int p3), .val (.int p4), .val (.int p5), .val (.int p6), .val (.int (atF bs 0 p3 p4 p5 p6)), .val (.int (atF bs 1 p3 p4 p5 p6)), .val (.int (atF bs 2 p3 p4 p5 p6)), .val (.int (atF bs 3 p3 p4 p5 p6)), .val (.int (atF bs 4 p3 p4 p5 p6)), .val (.int (atF bs 5 p3 p4 p5 p6)), .val (.int (atF bs 6 p3 p4 p5 p6)), .val (.int (atF bs 7 p3 p4 p5 p6)), .val (.int (atF bs 8 p3 p4 p5 p6)), .val (.int (atF bs 9 p3 p4 p5 p6)), .val (.int (atF bs 10 p3 p4 p5 p6)), .val (.int (atF bs 11 p3 p4 p5 p6))] [(.int (1 : Int32)), (.ref b54), (.ref b54), (.ref b53), (.ref b53)])
      refine Goes.of (fun t => XS.iload X55.here hx rfl (hb hby d2_198) rfl) ?_
      show Goes p e below KK T55 (mkF m 200 #[.val (.int p1), .val (.ref a2), .val (.int p3), .val (.int p4), .val (.int p5), .val (.int p6), .val (.int (atF bs 0 p3 p4 p5 p6)), .val (.int (atF bs 1 p3 p4 p5 p6)), .val (.int (atF bs 2 p3 p4 p5 p6)), .val (.int (atF bs 3 p3 p4 p5 p6)), .val (.int (atF bs 4 p3 p4 p5 p6)), .val (.int (atF bs 5 p3 p4 p5 p6)), .val (.int (atF bs 6 p3 p4 p5 p6)), .val (.int (atF bs 7 p3 p4 p5 p6)), .val (.int (atF bs 8 p3 p4 p5 p6)), .val (.int (atF bs 9 p3 p4 p5 p6)), .val (.int (atF bs 10 p3 p4 p5 p6)), .val (.int (atF bs 11 p3 p4 p5 p6))] [(.int (atF bs 1 p3 p4 p5 p6)), (.int (1 : Int32)), (.ref b54), (.ref b54), (.ref b53), (.ref b53)])
      obtain ⟨T56, h56, X56, e56, W56, V56, st56⟩ := AI.castore X55 hx hZw e55 V_b54_55 (i := 1) (j := (1 : Int32)) (rfl) ((by simp)) (g := (mkF m 200 #[.val (.int p1), .val (.ref a2), .val (.int p3), .val (.int p4), .val (.int p5), .val (.int p6), .val (.int (atF bs 0 p3 p4 p5 p6)), .val (.int (atF bs 1 p3 p4 p5 p6)), .val (.int (atF bs 2 p3 p4 p5 p6)), .val (.int (atF bs 3 p3 p4 p5 p6)), .val (.int (atF bs 4 p3 p4 p5 p6)), .val (.int (atF bs 5 p3 p4 p5 p6)), .val (.int (atF bs 6 p3 p4 p5 p6)), .val (.int (atF bs 7 p3 p4 p5 p6)), .val (.int (atF bs 8 p3 p4 p5 p6)), .val (.int (atF bs 9 p3 p4 p5 p6)), .val (.int (atF bs 10 p3 p4 p5 p6)), .val (.int (atF bs 11 p3 p4 p5 p6))] [(.int (atF bs 1 p3 p4 p5 p6)), (.int (1 : Int32)), (.ref b54), (.ref b54), (.ref b53), (.ref b53)])) rfl rfl (hb hby d2_200)
      refine Goes.of (st56) ?_
      have sf_b53_56 := Safe.wr W56 sf_b54_55 CR55.1 sf_b53_55
      have sf_b54_56 := Safe.wr W56 sf_b54_55 CR55.1 sf_b54_55
      have CR56 := CR55.trans (CHr.wr W56 sf_b54_55 CR55.1)
      have E2_53_54_55_56 : Exa Z h56 a2 "java/lang/String" := E2_53_54_55.wr W56
      have C2_53_54_55_56 : Fld Z h56 a2 "java/lang/String" "coder" "B" (.int (0 : Int32)) := C2_53_54_55.other W56 (Or.inl ne_a2_b54)
      have W2v_53_54_55_56 : Fld Z h56 a2 "java/lang/String" "value" "[B" (.ref b2) := W2v_53_54_55.other W56 (Or.inl ne_a2_b54)
      have V2_53_54_55_56 : AI Z h56 b2 .byte bs := V2_53_54_55.other W56 ne_b2_b54
      have Scs_53_54_55_56 : Sta Z h56 "java/lang/String" "COMPACT_STRINGS" "Z" (.int cz) := Scs_53_54_55.wr W56
      have Sf_53_54_55_56 : Sta Z h56 "jdk/internal/util/Preconditions" "SIOOBE_FORMATTER" "Ljava/util/function/BiFunction;" fm := Sf_53_54_55.wr W56
      have A53_54_55_56 : Exa Z h56 b53 "java/lang/String" := A53_54_55.wr W56
      have F_value_b53_54_55_56 : Fld Z h56 b53 "java/lang/String" "value" "[B" .null := F_value_b53_54_55.other W56 (Or.inl ne_b53_b54)
      have F_coder_b53_54_55_56 : Fld Z h56 b53 "java/lang/String" "coder" "B" (.int (0 : Int32)) := F_coder_b53_54_55.other W56 (Or.inl ne_b53_b54)
      have K56 : Keep h0 h56 [] := K55.wr W56 (Or.inr sz_b54)
      have Z56 : n0 ≤ h56.size := Nat.le_trans Z55 (Keep.of_wr W56).1
      have HK56 := Nat.le_trans HK55 (Keep.of_wr W56).1
      have N56 := Fr.snoc X56 N55 g_b54
      have V_b54_56 : AI Z h56 b54 .char [(nar .char (atF bs 0 p3 p4 p5 p6)), (nar .char (atF bs 1 p3 p4 p5 p6)), (0 : Int32), (0 : Int32), (0 : Int32), (0 : Int32), (0 : Int32)] := V56
      show Goes p e below KK T56 (mkF m 201 #[.val (.int p1), .val (.ref a2), .val (.int p3), .val (.int p4), .val (.int p5), .val (.int p6), .val (.int (atF bs 0 p3 p4 p5 p6)), .val (.int (atF bs 1 p3 p4 p5 p6)), .val (.int (atF bs 2 p3 p4 p5 p6)), .val (.int (atF bs 3 p3 p4 p5 p6)), .val (.int (atF bs 4 p3 p4 p5 p6)), .val (.int (atF bs 5 p3 p4 p5 p6)), .val (.int (atF bs 6 p3 p4 p5 p6)), .val (.int (atF bs 7 p3 p4 p5 p6)), .val (.int (atF bs 8 p3 p4 p5 p6)), .val (.int (atF bs 9 p3 p4 p5 p6)), .val (.int (atF bs 10 p3 p4 p5 p6)), .val (.int (atF bs 11 p3 p4 p5 p6))] [(.ref b54), (.ref b53), (.ref b53)])
      refine Goes.of (fun t => XS.dup X56.here hx rfl (hb hby d2_201) rfl rfl) ?_
      show Goes p e below KK T56 (mkF m 202 #[.val (.int p1), .val (.ref a2), .val (.int p3), .val (.int p4), .val (.int p5), .val (.int p6), .val (.int (atF bs 0 p3 p4 p5 p6)), .val (.int (atF bs 1 p3 p4 p5 p6)), .val (.int (atF bs 2 p3 p4 p5 p6)), .val (.int (atF bs 3 p3 p4 p5 p6)), .val (.int (atF bs 4 p3 p4 p5 p6)), .val (.int (atF bs 5 p3 p4 p5 p6)), .val (.int (atF bs 6 p3 p4 p5 p6)), .val (.int (atF bs 7 p3 p4 p5 p6)), .val (.int (atF bs 8 p3 p4 p5 p6)), .val (.int (atF bs 9 p3 p4 p5 p6)), .val (.int (atF bs 10 p3 p4 p5 p6)), .val (.int (atF bs 11 p3 p4 p5 p6))] [(.ref b54), (.ref b54), (.ref b53), (.ref b53)])
      refine Goes.of (fun t => XS.iconst X56.here hx rfl (hb hby d2_202)) ?_
      show Goes p e below KK T56 (mkF m 203 #[.val (.int p1), .val (.ref a2), .val (.int p3), .val (.int p4), .val (.int p5), .val (.int p6), .val (.int (atF bs 0 p3 p4 p5 p6)), .val (.int (atF bs 1 p3 p4 p5 p6)), .val (.int (atF bs 2 p3 p4 p5 p6)), .val (.int (atF bs 3 p3 p4 p5 p6)), .val (.int (atF bs 4 p3 p4 p5 p6)), .val (.int (atF bs 5 p3 p4 p5 p6)), .val (.int (atF bs 6 p3 p4 p5 p6)), .val (.int (atF bs 7 p3 p4 p5 p6)), .val (.int (atF bs 8 p3 p4 p5 p6)), .val (.int (atF bs 9 p3 p4 p5 p6)), .val (.int (atF bs 10 p3 p4 p5 p6)), .val (.int (atF bs 11 p3 p4 p5 p6))] [(.int (2 : Int32)), (.ref b54), (.ref b54), (.ref b53), (.ref b53)])
      refine Goes.of (fun t => XS.iload X56.here hx rfl (hb hby d2_203) rfl) ?_
      show Goes p e below KK T56 (mkF m 205 #[.val (.int p1), .val (.ref a2), .val (.int p3), .val (.int p4), .val (.int p5), .val (.int p6), .val (.int (atF bs 0 p3 p4 p5 p6)), .val (.int (atF bs 1 p3 p4 p5 p6)), .val (.int (atF bs 2 p3 p4 p5 p6)), .val (.int (atF bs 3 p3 p4 p5 p6)), .val (.int (atF bs 4 p3 p4 p5 p6)), .val (.int (atF bs 5 p3 p4 p5 p6)), .val (.int (atF bs 6 p3 p4 p5 p6)), .val (.int (atF bs 7 p3 p4 p5 p6)), .val (.int (atF bs 8 p3 p4 p5 p6)), .val (.int (atF bs 9 p3 p4 p5 p6)), .val (.int (atF bs 10 p3 p4 p5 p6)), .val (.int (atF bs 11 p3 p4 p5 p6))] [(.int (atF bs 2 p3 p4 p5 p6)), (.int (2 : Int32)), (.ref b54), (.ref b54), (.ref b53), (.ref b53)])
      obtain ⟨T57, h57, X57, e57, W57, V57, st57⟩ := AI.castore X56 hx hZw e56 V_b54_56 (i := 2) (j := (2 : Int32)) (rfl) ((by simp)) (g := (mkF m 205 #[.val (.int p1), .val (.ref a2), .val (.int p3), .val (.int p4), .val (.int p5), .val (.int p6), .val (.int (atF bs 0 p3 p4 p5 p6)), .val (.int (atF bs 1 p3 p4 p5 p6)), .val (.int (atF bs 2 p3 p4 p5 p6)), .val (.int (atF bs 3 p3 p4 p5 p6)), .val (.int (atF bs 4 p3 p4 p5 p6)), .val (.int (atF bs 5 p3 p4 p5 p6)), .val (.int (atF bs 6 p3 p4 p5 p6)), .val (.int (atF bs 7 p3 p4 p5 p6)), .val (.int (atF bs 8 p3 p4 p5 p6)), .val (.int (atF bs 9 p3 p4 p5 p6)), .val (.int (atF bs 10 p3 p4 p5 p6)), .val (.int (atF bs 11 p3 p4 p5 p6))] [(.int (atF bs 2 p3 p4 p5 p6)), (.int (2 : Int32)), (.ref b54), (.ref b54), (.ref b53), (.ref b53)])) rfl rfl (hb hby d2_205)
      refine Goes.of (st57) ?_
      have sf_b53_57 := Safe.wr W57 sf_b54_56 CR56.1 sf_b53_56
      have sf_b54_57 := Safe.wr W57 sf_b54_56 CR56.1 sf_b54_56
      have CR57 := CR56.trans (CHr.wr W57 sf_b54_56 CR56.1)
      have E2_53_54_55_56_57 : Exa Z h57 a2 "java/lang/String" := E2_53_54_55_56.wr W57
      have C2_53_54_55_56_57 : Fld Z h57 a2 "java/lang/String" "coder" "B" (.int (0 : Int32)) := C2_53_54_55_56.other W57 (Or.inl ne_a2_b54)
      have W2v_53_54_55_56_57 : Fld Z h57 a2 "java/lang/String" "value" "[B" (.ref b2) := W2v_53_54_55_56.other W57 (Or.inl ne_a2_b54)
      have V2_53_54_55_56_57 : AI Z h57 b2 .byte bs := V2_53_54_55_56.other W57 ne_b2_b54
      have Scs_53_54_55_56_57 : Sta Z h57 "java/lang/String" "COMPACT_STRINGS" "Z" (.int cz) := Scs_53_54_55_56.wr W57
      have Sf_53_54_55_56_57 : Sta Z h57 "jdk/internal/util/Preconditions" "SIOOBE_FORMATTER" "Ljava/util/function/BiFunction;" fm := Sf_53_54_55_56.wr W57
      have A53_54_55_56_57 : Exa Z h57 b53 "java/lang/String" := A53_54_55_56.wr W57
      have F_value_b53_54_55_56_57 : Fld Z h57 b53 "java/lang/String" "value" "[B" .null := F_value_b53_54_55_56.other W57 (Or.inl ne_b53_b54)
      have F_coder_b53_54_55_56_57 : Fld Z h57 b53 "java/lang/String" "coder" "B" (.int (0 : Int32)) := F_coder_b53_54_55_56.other W57 (Or.inl ne_b53_b54)
      have K57 : Keep h0 h57 [] := K56.wr W57 (Or.inr sz_b54)
      have Z57 : n0 ≤ h57.size := Nat.le_trans Z56 (Keep.of_wr W57).1
      have HK57 := Nat.le_trans HK56 (Keep.of_wr W57).1
      have N57 := Fr.snoc X57 N56 g_b54
      have V_b54_57 : AI Z h57 b54 .char [(nar .char (atF bs 0 p3 p4 p5 p6)), (nar .char (atF bs 1 p3 p4 p5 p6)), (nar .char (atF bs 2 p3 p4 p5 p6)), (0 : Int32), (0 : Int32), (0 : Int32), (0 : Int32)] := V57
      show Goes p e below KK T57 (mkF m 206 #[.val (.int p1), .val (.ref a2), .val (.int p3), .val (.int p4), .val (.int p5), .val (.int p6), .val (.int (atF bs 0 p3 p4 p5 p6)), .val (.int (atF bs 1 p3 p4 p5 p6)), .val (.int (atF bs 2 p3 p4 p5 p6)), .val (.int (atF bs 3 p3 p4 p5 p6)), .val (.int (atF bs 4 p3 p4 p5 p6)), .val (.int (atF bs 5 p3 p4 p5 p6)), .val (.int (atF bs 6 p3 p4 p5 p6)), .val (.int (atF bs 7 p3 p4 p5 p6)), .val (.int (atF bs 8 p3 p4 p5 p6)), .val (.int (atF bs 9 p3 p4 p5 p6)), .val (.int (atF bs 10 p3 p4 p5 p6)), .val (.int (atF bs 11 p3 p4 p5 p6))] [(.ref b54), (.ref b53), (.ref b53)])
      refine Goes.of (fun t => XS.dup X57.here hx rfl (hb hby d2_206) rfl rfl) ?_
      show Goes p e below KK T57 (mkF m 207 #[.val (.int p1), .val (.ref a2), .val (.int p3), .val (.int p4), .val (.int p5), .val (.int p6), .val (.int (atF bs 0 p3 p4 p5 p6)), .val (.int (atF bs 1 p3 p4 p5 p6)), .val (.int (atF bs 2 p3 p4 p5 p6)), .val (.int (atF bs 3 p3 p4 p5 p6)), .val (.int (atF bs 4 p3 p4 p5 p6)), .val (.int (atF bs 5 p3 p4 p5 p6)), .val (.int (atF bs 6 p3 p4 p5 p6)), .val (.int (atF bs 7 p3 p4 p5 p6)), .val (.int (atF bs 8 p3 p4 p5 p6)), .val (.int (atF bs 9 p3 p4 p5 p6)), .val (.int (atF bs 10 p3 p4 p5 p6)), .val (.int (atF bs 11 p3 p4 p5 p6))] [(.ref b54), (.ref b54), (.ref b53), (.ref b53)])
      refine Goes.of (fun t => XS.iconst X57.here hx rfl (hb hby d2_207)) ?_
      show Goes p e below KK T57 (mkF m 208 #[.val (.int p1), .val (.ref a2), .val (.int p3), .val (.int p4), .val (.int p5), .val (.int p6), .val (.int (atF bs 0 p3 p4 p5 p6)), .val (.int (atF bs 1 p3 p4 p5 p6)), .val (.int (atF bs 2 p3 p4 p5 p6)), .val (.int (atF bs 3 p3 p4 p5 p6)), .val (.int (atF bs 4 p3 p4 p5 p6)), .val (.int (atF bs 5 p3 p4 p5 p6)), .val (.int (atF bs 6 p3 p4 p5 p6)), .val (.int (atF bs 7 p3 p4 p5 p6)), .val (.int (atF bs 8 p3 p4 p5 p6)), .val (.int (atF bs 9 p3 p4 p5 p6)), .val (.int (atF bs 10 p3 p4 p5 p6)), .val (.int (atF bs 11 p3 p4 p5 p6))] [(.int (3 : Int32)), (.ref b54), (.ref b54), (.ref b53), (.ref b53)])
      refine Goes.of (fun t => XS.iload X57.here hx rfl (hb hby d2_208) rfl) ?_
      show Goes p e below KK T57 (mkF m 210 #[.val (.int p1), .val (.ref a2), .val (.int p3), .val (.int p4), .val (.int p5), .val (.int p6), .val (.int (atF bs 0 p3 p4 p5 p6)), .val (.int (atF bs 1 p3 p4 p5 p6)), .val (.int (atF bs 2 p3 p4 p5 p6)), .val (.int (atF bs 3 p3 p4 p5 p6)), .val (.int (atF bs 4 p3 p4 p5 p6)), .val (.int (atF bs 5 p3 p4 p5 p6)), .val (.int (atF bs 6 p3 p4 p5 p6)), .val (.int (atF bs 7 p3 p4 p5 p6)), .val (.int (atF bs 8 p3 p4 p5 p6)), .val (.int (atF bs 9 p3 p4 p5 p6)), .val (.int (atF bs 10 p3 p4 p5 p6)), .val (.int (atF bs 11 p3 p4 p5 p6))] [(.int (atF bs 3 p3 p4 p5 p6)), (.int (3 : Int32)), (.ref b54), (.ref b54), (.ref b53), (.ref b53)])
      obtain ⟨T58, h58, X58, e58, W58, V58, st58⟩ := AI.castore X57 hx hZw e57 V_b54_57 (i := 3) (j := (3 : Int32)) (rfl) ((by simp)) (g := (mkF m 210 #[.val (.int p1), .val (.ref a2), .val (.int p3), .val (.int p4), .val (.int p5), .val (.int p6), .val (.int (atF bs 0 p3 p4 p5 p6)), .val (.int (atF bs 1 p3 p4 p5 p6)), .val (.int (atF bs 2 p3 p4 p5 p6)), .val (.int (atF bs 3 p3 p4 p5 p6)), .val (.int (atF bs 4 p3 p4 p5 p6)), .val (.int (atF bs 5 p3 p4 p5 p6)), .val (.int (atF bs 6 p3 p4 p5 p6)), .val (.int (atF bs 7 p3 p4 p5 p6)), .val (.int (atF bs 8 p3 p4 p5 p6)), .val (.int (atF bs 9 p3 p4 p5 p6)), .val (.int (atF bs 10 p3 p4 p5 p6)), .val (.int (atF bs 11 p3 p4 p5 p6))] [(.int (atF bs 3 p3 p4 p5 p6)), (.int (3 : Int32)), (.ref b54), (.ref b54), (.ref b53), (.ref b53)])) rfl rfl (hb hby d2_210)
      refine Goes.of (st58) ?_
      have sf_b53_58 := Safe.wr W58 sf_b54_57 CR57.1 sf_b53_57
      have sf_b54_58 := Safe.wr W58 sf_b54_57 CR57.1 sf_b54_57
      have CR58 := CR57.trans (CHr.wr W58 sf_b54_57 CR57.1)
      have E2_53_54_55_56_57_58 : Exa Z h58 a2 "java/lang/String" := E2_53_54_55_56_57.wr W58
      have C2_53_54_55_56_57_58 : Fld Z h58 a2 "java/lang/String" "coder" "B" (.int (0 : Int32)) := C2_53_54_55_56_57.other W58 (Or.inl ne_a2_b54)
      have W2v_53_54_55_56_57_58 : Fld Z h58 a2 "java/lang/String" "value" "[B" (.ref b2) := W2v_53_54_55_56_57.other W58 (Or.inl ne_a2_b54)
      have V2_53_54_55_56_57_58 : AI Z h58 b2 .byte bs := V2_53_54_55_56_57.other W58 ne_b2_b54
      have Scs_53_54_55_56_57_58 : Sta Z h58 "java/lang/String" "COMPACT_STRINGS" "Z" (.int cz) := Scs_53_54_55_56_57.wr W58
      have Sf_53_54_55_56_57_58 : Sta Z h58 "jdk/internal/util/Preconditions" "SIOOBE_FORMATTER" "Ljava/util/function/BiFunction;" fm := Sf_53_54_55_56_57.wr W58
      have A53_54_55_56_57_58 : Exa Z h58 b53 "java/lang/String" := A53_54_55_56_57.wr W58
      have F_value_b53_54_55_56_57_58 : Fld Z h58 b53 "java/lang/String" "value" "[B" .null := F_value_b53_54_55_56_57.other W58 (Or.inl ne_b53_b54)
      have F_coder_b53_54_55_56_57_58 : Fld Z h58 b53 "java/lang/String" "coder" "B" (.int (0 : Int32)) := F_coder_b53_54_55_56_57.other W58 (Or.inl ne_b53_b54)
      have K58 : Keep h0 h58 [] := K57.wr W58 (Or.inr sz_b54)
      have Z58 : n0 ≤ h58.size := Nat.le_trans Z57 (Keep.of_wr W58).1
      have HK58 := Nat.le_trans HK57 (Keep.of_wr W58).1
      have N58 := Fr.snoc X58 N57 g_b54
      have V_b54_58 : AI Z h58 b54 .char [(nar .char (atF bs 0 p3 p4 p5 p6)), (nar .char (atF bs 1 p3 p4 p5 p6)), (nar .char (atF bs 2 p3 p4 p5 p6)), (nar .char (atF bs 3 p3 p4 p5 p6)), (0 : Int32), (0 : Int32), (0 : Int32)] := V58
      show Goes p e below KK T58 (mkF m 211 #[.val (.int p1), .val (.ref a2), .val (.int p3), .val (.int p4), .val (.int p5), .val (.int p6), .val (.int (atF bs 0 p3 p4 p5 p6)), .val (.int (atF bs 1 p3 p4 p5 p6)), .val (.int (atF bs 2 p3 p4 p5 p6)), .val (.int (atF bs 3 p3 p4 p5 p6)), .val (.int (atF bs 4 p3 p4 p5 p6)), .val (.int (atF bs 5 p3 p4 p5 p6)), .val (.int (atF bs 6 p3 p4 p5 p6)), .val (.int (atF bs 7 p3 p4 p5 p6)), .val (.int (atF bs 8 p3 p4 p5 p6)), .val (.int (atF bs 9 p3 p4 p5 p6)), .val (.int (atF bs 10 p3 p4 p5 p6)), .val (.int (atF bs 11 p3 p4 p5 p6))] [(.ref b54), (.ref b53), (.ref b53)])
      refine Goes.of (fun t => XS.dup X58.here hx rfl (hb hby d2_211) rfl rfl) ?_
      show Goes p e below KK T58 (mkF m 212 #[.val (.int p1), .val (.ref a2), .val (.int p3), .val (.int p4), .val (.int p5), .val (.int p6), .val (.int (atF bs 0 p3 p4 p5 p6)), .val (.int (atF bs 1 p3 p4 p5 p6)), .val (.int (atF bs 2 p3 p4 p5 p6)), .val (.int (atF bs 3 p3 p4 p5 p6)), .val (.int (atF bs 4 p3 p4 p5 p6)), .val (.int (atF bs 5 p3 p4 p5 p6)), .val (.int (atF bs 6 p3 p4 p5 p6)), .val (.int (atF bs 7 p3 p4 p5 p6)), .val (.int (atF bs 8 p3 p4 p5 p6)), .val (.int (atF bs 9 p3 p4 p5 p6)), .val (.int (atF bs 10 p3 p4 p5 p6)), .val (.int (atF bs 11 p3 p4 p5 p6))] [(.ref b54), (.ref b54), (.ref b53), (.ref b53)])
      refine Goes.of (fun t => XS.iconst X58.here hx rfl (hb hby d2_212)) ?_
      show Goes p e below KK T58 (mkF m 213 #[.val (.int p1), .val (.ref a2), .val (.int p3), .val (.int p4), .val (.int p5), .val (.int p6), .val (.int (atF bs 0 p3 p4 p5 p6)), .val (.int (atF bs 1 p3 p4 p5 p6)), .val (.int (atF bs 2 p3 p4 p5 p6)), .val (.int (atF bs 3 p3 p4 p5 p6)), .val (.int (atF bs 4 p3 p4 p5 p6)), .val (.int (atF bs 5 p3 p4 p5 p6)), .val (.int (atF bs 6 p3 p4 p5 p6)), .val (.int (atF bs 7 p3 p4 p5 p6)), .val (.int (atF bs 8 p3 p4 p5 p6)), .val (.int (atF bs 9 p3 p4 p5 p6)), .val (.int (atF bs 10 p3 p4 p5 p6)), .val (.int (atF bs 11 p3 p4 p5 p6))] [(.int (4 : Int32)), (.ref b54), (.ref b54), (.ref b53), (.ref b53)])
      refine Goes.of (fun t => XS.iload X58.here hx rfl (hb hby d2_213) rfl) ?_
      show Goes p e below KK T58 (mkF m 215 #[.val (.int p1), .val (.ref a2), .val (.int p3), .val (.int p4), .val (.int p5), .val (.int p6), .val (.int (atF bs 0 p3 p4 p5 p6)), .val (.int (atF bs 1 p3 p4 p5 p6)), .val (.int (atF bs 2 p3 p4 p5 p6)), .val (.int (atF bs 3 p3 p4 p5 p6)), .val (.int (atF bs 4 p3 p4 p5 p6)), .val (.int (atF bs 5 p3 p4 p5 p6)), .val (.int (atF bs 6 p3 p4 p5 p6)), .val (.int (atF bs 7 p3 p4 p5 p6)), .val (.int (atF bs 8 p3 p4 p5 p6)), .val (.int (atF bs 9 p3 p4 p5 p6)), .val (.int (atF bs 10 p3 p4 p5 p6)), .val (.int (atF bs 11 p3 p4 p5 p6))] [(.int (atF bs 4 p3 p4 p5 p6)), (.int (4 : Int32)), (.ref b54), (.ref b54), (.ref b53), (.ref b53)])
      obtain ⟨T59, h59, X59, e59, W59, V59, st59⟩ := AI.castore X58 hx hZw e58 V_b54_58 (i := 4) (j := (4 : Int32)) (rfl) ((by simp)) (g := (mkF m 215 #[.val (.int p1), .val (.ref a2), .val (.int p3), .val (.int p4), .val (.int p5), .val (.int p6), .val (.int (atF bs 0 p3 p4 p5 p6)), .val (.int (atF bs 1 p3 p4 p5 p6)), .val (.int (atF bs 2 p3 p4 p5 p6)), .val (.int (atF bs 3 p3 p4 p5 p6)), .val (.int (atF bs 4 p3 p4 p5 p6)), .val (.int (atF bs 5 p3 p4 p5 p6)), .val (.int (atF bs 6 p3 p4 p5 p6)), .val (.int (atF bs 7 p3 p4 p5 p6)), .val (.int (atF bs 8 p3 p4 p5 p6)), .val (.int (atF bs 9 p3 p4 p5 p6)), .val (.int (atF bs 10 p3 p4 p5 p6)), .val (.int (atF bs 11 p3 p4 p5 p6))] [(.int (atF bs 4 p3 p4 p5 p6)), (.int (4 : Int32)), (.ref b54), (.ref b54), (.ref b53), (.ref b53)])) rfl rfl (hb hby d2_215)
      refine Goes.of (st59) ?_
      have sf_b53_59 := Safe.wr W59 sf_b54_58 CR58.1 sf_b53_58
      have sf_b54_59 := Safe.wr W59 sf_b54_58 CR58.1 sf_b54_58
      have CR59 := CR58.trans (CHr.wr W59 sf_b54_58 CR58.1)
      have E2_53_54_55_56_57_58_59 : Exa Z h59 a2 "java/lang/String" := E2_53_54_55_56_57_58.wr W59
      have C2_53_54_55_56_57_58_59 : Fld Z h59 a2 "java/lang/String" "coder" "B" (.int (0 : Int32)) := C2_53_54_55_56_57_58.other W59 (Or.inl ne_a2_b54)
      have W2v_53_54_55_56_57_58_59 : Fld Z h59 a2 "java/lang/String" "value" "[B" (.ref b2) := W2v_53_54_55_56_57_58.other W59 (Or.inl ne_a2_b54)
      have V2_53_54_55_56_57_58_59 : AI Z h59 b2 .byte bs := V2_53_54_55_56_57_58.other W59 ne_b2_b54
      have Scs_53_54_55_56_57_58_59 : Sta Z h59 "java/lang/String" "COMPACT_STRINGS" "Z" (.int cz) := Scs_53_54_55_56_57_58.wr W59
      have Sf_53_54_55_56_57_58_59 : Sta Z h59 "jdk/internal/util/Preconditions" "SIOOBE_FORMATTER" "Ljava/util/function/BiFunction;" fm := Sf_53_54_55_56_57_58.wr W59
      have A53_54_55_56_57_58_59 : Exa Z h59 b53 "java/lang/String" := A53_54_55_56_57_58.wr W59
      have F_value_b53_54_55_56_57_58_59 : Fld Z h59 b53 "java/lang/String" "value" "[B" .null := F_value_b53_54_55_56_57_58.other W59 (Or.inl ne_b53_b54)
      have F_coder_b53_54_55_56_57_58_59 : Fld Z h59 b53 "java/lang/String" "coder" "B" (.int (0 : Int32)) := F_coder_b53_54_55_56_57_58.other W59 (Or.inl ne_b53_b54)
      have K59 : Keep h0 h59 [] := K58.wr W59 (Or.inr sz_b54)
      have Z59 : n0 ≤ h59.size := Nat.le_trans Z58 (Keep.of_wr W59).1
      have HK59 := Nat.le_trans HK58 (Keep.of_wr W59).1
      have N59 := Fr.snoc X59 N58 g_b54
      have V_b54_59 : AI Z h59 b54 .char [(nar .char (atF bs 0 p3 p4 p5 p6)), (nar .char (atF bs 1 p3 p4 p5 p6)), (nar .char (atF bs 2 p3 p4 p5 p6)), (nar .char (atF bs 3 p3 p4 p5 p6)), (nar .char (atF bs 4 p3 p4 p5 p6)), (0 : Int32), (0 : Int32)] := V59
      show Goes p e below KK T59 (mkF m 216 #[.val (.int p1), .val (.ref a2), .val (.int p3), .val (.int p4), .val (.int p5), .val (.int p6), .val (.int (atF bs 0 p3 p4 p5 p6)), .val (.int (atF bs 1 p3 p4 p5 p6)), .val (.int (atF bs 2 p3 p4 p5 p6)), .val (.int (atF bs 3 p3 p4 p5 p6)), .val (.int (atF bs 4 p3 p4 p5 p6)), .val (.int (atF bs 5 p3 p4 p5 p6)), .val (.int (atF bs 6 p3 p4 p5 p6)), .val (.int (atF bs 7 p3 p4 p5 p6)), .val (.int (atF bs 8 p3 p4 p5 p6)), .val (.int (atF bs 9 p3 p4 p5 p6)), .val (.int (atF bs 10 p3 p4 p5 p6)), .val (.int (atF bs 11 p3 p4 p5 p6))] [(.ref b54), (.ref b53), (.ref b53)])
      refine Goes.of (fun t => XS.dup X59.here hx rfl (hb hby d2_216) rfl rfl) ?_
      show Goes p e below KK T59 (mkF m 217 #[.val (.int p1), .val (.ref a2), .val (.int p3), .val (.int p4), .val (.int p5), .val (.int p6), .val (.int (atF bs 0 p3 p4 p5 p6)), .val (.int (atF bs 1 p3 p4 p5 p6)), .val (.int (atF bs 2 p3 p4 p5 p6)), .val (.int (atF bs 3 p3 p4 p5 p6)), .val (.int (atF bs 4 p3 p4 p5 p6)), .val (.int (atF bs 5 p3 p4 p5 p6)), .val (.int (atF bs 6 p3 p4 p5 p6)), .val (.int (atF bs 7 p3 p4 p5 p6)), .val (.int (atF bs 8 p3 p4 p5 p6)), .val (.int (atF bs 9 p3 p4 p5 p6)), .val (.int (atF bs 10 p3 p4 p5 p6)), .val (.int (atF bs 11 p3 p4 p5 p6))] [(.ref b54), (.ref b54), (.ref b53), (.ref b53)])
      refine Goes.of (fun t => XS.iconst X59.here hx rfl (hb hby d2_217)) ?_
      show Goes p e below KK T59 (mkF m 218 #[.val (.int p1), .val (.ref a2), .val (.int p3), .val (.int p4), .val (.int p5), .val (.int p6), .val (.int (atF bs 0 p3 p4 p5 p6)), .val (.int (atF bs 1 p3 p4 p5 p6)), .val (.int (atF bs 2 p3 p4 p5 p6)), .val (.int (atF bs 3 p3 p4 p5 p6)), .val (.int (atF bs 4 p3 p4 p5 p6)), .val (.int (atF bs 5 p3 p4 p5 p6)), .val (.int (atF bs 6 p3 p4 p5 p6)), .val (.int (atF bs 7 p3 p4 p5 p6)), .val (.int (atF bs 8 p3 p4 p5 p6)), .val (.int (atF bs 9 p3 p4 p5 p6)), .val (.int (atF bs 10 p3 p4 p5 p6)), .val (.int (atF bs 11 p3 p4 p5 p6))] [(.int (5 : Int32)), (.ref b54), (.ref b54), (.ref b53), (.ref b53)])
      refine Goes.of (fun t => XS.iload X59.here hx rfl (hb hby d2_218) rfl) ?_
      show Goes p e below KK T59 (mkF m 220 #[.val (.int p1), .val (.ref a2), .val (.int p3), .val (.int p4), .val (.int p5), .val (.int p6), .val (.int (atF bs 0 p3 p4 p5 p6)), .val (.int (atF bs 1 p3 p4 p5 p6)), .val (.int (atF bs 2 p3 p4 p5 p6)), .val (.int (atF bs 3 p3 p4 p5 p6)), .val (.int (atF bs 4 p3 p4 p5 p6)), .val (.int (atF bs 5 p3 p4 p5 p6)), .val (.int (atF bs 6 p3 p4 p5 p6)), .val (.int (atF bs 7 p3 p4 p5 p6)), .val (.int (atF bs 8 p3 p4 p5 p6)), .val (.int (atF bs 9 p3 p4 p5 p6)), .val (.int (atF bs 10 p3 p4 p5 p6)), .val (.int (atF bs 11 p3 p4 p5 p6))] [(.int (atF bs 5 p3 p4 p5 p6)), (.int (5 : Int32)), (.ref b54), (.ref b54), (.ref b53), (.ref b53)])
      obtain ⟨T60, h60, X60, e60, W60, V60, st60⟩ := AI.castore X59 hx hZw e59 V_b54_59 (i := 5) (j := (5 : Int32)) (rfl) ((by simp)) (g := (mkF m 220 #[.val (.int p1), .val (.ref a2), .val (.int p3), .val (.int p4), .val (.int p5), .val (.int p6), .val (.int (atF bs 0 p3 p4 p5 p6)), .val (.int (atF bs 1 p3 p4 p5 p6)), .val (.int (atF bs 2 p3 p4 p5 p6)), .val (.int (atF bs 3 p3 p4 p5 p6)), .val (.int (atF bs 4 p3 p4 p5 p6)), .val (.int (atF bs 5 p3 p4 p5 p6)), .val (.int (atF bs 6 p3 p4 p5 p6)), .val (.int (atF bs 7 p3 p4 p5 p6)), .val (.int (atF bs 8 p3 p4 p5 p6)), .val (.int (atF bs 9 p3 p4 p5 p6)), .val (.int (atF bs 10 p3 p4 p5 p6)), .val (.int (atF bs 11 p3 p4 p5 p6))] [(.int (atF bs 5 p3 p4 p5 p6)), (.int (5 : Int32)), (.ref b54), (.ref b54), (.ref b53), (.ref b53)])) rfl rfl (hb hby d2_220)
      refine Goes.of (st60) ?_
      have sf_b53_60 := Safe.wr W60 sf_b54_59 CR59.1 sf_b53_59
      have sf_b54_60 := Safe.wr W60 sf_b54_59 CR59.1 sf_b54_59
      have CR60 := CR59.trans (CHr.wr W60 sf_b54_59 CR59.1)
      have E2_53_54_55_56_57_58_59_60 : Exa Z h60 a2 "java/lang/String" := E2_53_54_55_56_57_58_59.wr W60
      have C2_53_54_55_56_57_58_59_60 : Fld Z h60 a2 "java/lang/String" "coder" "B" (.int (0 : Int32)) := C2_53_54_55_56_57_58_59.other W60 (Or.inl ne_a2_b54)
      have W2v_53_54_55_56_57_58_59_60 : Fld Z h60 a2 "java/lang/String" "value" "[B" (.ref b2) := W2v_53_54_55_56_57_58_59.other W60 (Or.inl ne_a2_b54)
      have V2_53_54_55_56_57_58_59_60 : AI Z h60 b2 .byte bs := V2_53_54_55_56_57_58_59.other W60 ne_b2_b54
      have Scs_53_54_55_56_57_58_59_60 : Sta Z h60 "java/lang/String" "COMPACT_STRINGS" "Z" (.int cz) := Scs_53_54_55_56_57_58_59.wr W60
      have Sf_53_54_55_56_57_58_59_60 : Sta Z h60 "jdk/internal/util/Preconditions" "SIOOBE_FORMATTER" "Ljava/util/function/BiFunction;" fm := Sf_53_54_55_56_57_58_59.wr W60
      have A53_54_55_56_57_58_59_60 : Exa Z h60 b53 "java/lang/String" := A53_54_55_56_57_58_59.wr W60
      have F_value_b53_54_55_56_57_58_59_60 : Fld Z h60 b53 "java/lang/String" "value" "[B" .null := F_value_b53_54_55_56_57_58_59.other W60 (Or.inl ne_b53_b54)
      have F_coder_b53_54_55_56_57_58_59_60 : Fld Z h60 b53 "java/lang/String" "coder" "B" (.int (0 : Int32)) := F_coder_b53_54_55_56_57_58_59.other W60 (Or.inl ne_b53_b54)
      have K60 : Keep h0 h60 [] := K59.wr W60 (Or.inr sz_b54)
      have Z60 : n0 ≤ h60.size := Nat.le_trans Z59 (Keep.of_wr W60).1
      have HK60 := Nat.le_trans HK59 (Keep.of_wr W60).1
      have N60 := Fr.snoc X60 N59 g_b54
      have V_b54_60 : AI Z h60 b54 .char [(nar .char (atF bs 0 p3 p4 p5 p6)), (nar .char (atF bs 1 p3 p4 p5 p6)), (nar .char (atF bs 2 p3 p4 p5 p6)), (nar .char (atF bs 3 p3 p4 p5 p6)), (nar .char (atF bs 4 p3 p4 p5 p6)), (nar .char (atF bs 5 p3 p4 p5 p6)), (0 : Int32)] := V60
      show Goes p e below KK T60 (mkF m 221 #[.val (.int p1), .val (.ref a2), .val (.int p3), .val (.int p4), .val (.int p5), .val (.int p6), .val (.int (atF bs 0 p3 p4 p5 p6)), .val (.int (atF bs 1 p3 p4 p5 p6)), .val (.int (atF bs 2 p3 p4 p5 p6)), .val (.int (atF bs 3 p3 p4 p5 p6)), .val (.int (atF bs 4 p3 p4 p5 p6)), .val (.int (atF bs 5 p3 p4 p5 p6)), .val (.int (atF bs 6 p3 p4 p5 p6)), .val (.int (atF bs 7 p3 p4 p5 p6)), .val (.int (atF bs 8 p3 p4 p5 p6)), .val (.int (atF bs 9 p3 p4 p5 p6)), .val (.int (atF bs 10 p3 p4 p5 p6)), .val (.int (atF bs 11 p3 p4 p5 p6))] [(.ref b54), (.ref b53), (.ref b53)])
      refine Goes.of (fun t => XS.dup X60.here hx rfl (hb hby d2_221) rfl rfl) ?_
      show Goes p e below KK T60 (mkF m 222 #[.val (.int p1), .val (.ref a2), .val (.int p3), .val (.int p4), .val (.int p5), .val (.int p6), .val (.int (atF bs 0 p3 p4 p5 p6)), .val (.int (atF bs 1 p3 p4 p5 p6)), .val (.int (atF bs 2 p3 p4 p5 p6)), .val (.int (atF bs 3 p3 p4 p5 p6)), .val (.int (atF bs 4 p3 p4 p5 p6)), .val (.int (atF bs 5 p3 p4 p5 p6)), .val (.int (atF bs 6 p3 p4 p5 p6)), .val (.int (atF bs 7 p3 p4 p5 p6)), .val (.int (atF bs 8 p3 p4 p5 p6)), .val (.int (atF bs 9 p3 p4 p5 p6)), .val (.int (atF bs 10 p3 p4 p5 p6)), .val (.int (atF bs 11 p3 p4 p5 p6))] [(.ref b54), (.ref b54), (.ref b53), (.ref b53)])
      refine Goes.of (fun t => XS.bipush X60.here hx rfl (hb hby d2_222)) ?_
      show Goes p e below KK T60 (mkF m 224 #[.val (.int p1), .val (.ref a2), .val (.int p3), .val (.int p4), .val (.int p5), .val (.int p6), .val (.int (atF bs 0 p3 p4 p5 p6)), .val (.int (atF bs 1 p3 p4 p5 p6)), .val (.int (atF bs 2 p3 p4 p5 p6)), .val (.int (atF bs 3 p3 p4 p5 p6)), .val (.int (atF bs 4 p3 p4 p5 p6)), .val (.int (atF bs 5 p3 p4 p5 p6)), .val (.int (atF bs 6 p3 p4 p5 p6)), .val (.int (atF bs 7 p3 p4 p5 p6)), .val (.int (atF bs 8 p3 p4 p5 p6)), .val (.int (atF bs 9 p3 p4 p5 p6)), .val (.int (atF bs 10 p3 p4 p5 p6)), .val (.int (atF bs 11 p3 p4 p5 p6))] [(.int (6 : Int32)), (.ref b54), (.ref b54), (.ref b53), (.ref b53)])
      refine Goes.of (fun t => XS.iload X60.here hx rfl (hb hby d2_224) rfl) ?_
      show Goes p e below KK T60 (mkF m 226 #[.val (.int p1), .val (.ref a2), .val (.int p3), .val (.int p4), .val (.int p5), .val (.int p6), .val (.int (atF bs 0 p3 p4 p5 p6)), .val (.int (atF bs 1 p3 p4 p5 p6)), .val (.int (atF bs 2 p3 p4 p5 p6)), .val (.int (atF bs 3 p3 p4 p5 p6)), .val (.int (atF bs 4 p3 p4 p5 p6)), .val (.int (atF bs 5 p3 p4 p5 p6)), .val (.int (atF bs 6 p3 p4 p5 p6)), .val (.int (atF bs 7 p3 p4 p5 p6)), .val (.int (atF bs 8 p3 p4 p5 p6)), .val (.int (atF bs 9 p3 p4 p5 p6)), .val (.int (atF bs 10 p3 p4 p5 p6)), .val (.int (atF bs 11 p3 p4 p5 p6))] [(.int (atF bs 6 p3 p4 p5 p6)), (.int (6 : Int32)), (.ref b54), (.ref b54), (.ref b53), (.ref b53)])
      obtain ⟨T61, h61, X61, e61, W61, V61, st61⟩ := AI.castore X60 hx hZw e60 V_b54_60 (i := 6) (j := (6 : Int32)) (rfl) ((by simp)) (g := (mkF m 226 #[.val (.int p1), .val (.ref a2), .val (.int p3), .val (.int p4), .val (.int p5), .val (.int p6), .val (.int (atF bs 0 p3 p4 p5 p6)), .val (.int (atF bs 1 p3 p4 p5 p6)), .val (.int (atF bs 2 p3 p4 p5 p6)), .val (.int (atF bs 3 p3 p4 p5 p6)), .val (.int (atF bs 4 p3 p4 p5 p6)), .val (.int (atF bs 5 p3 p4 p5 p6)), .val (.int (atF bs 6 p3 p4 p5 p6)), .val (.int (atF bs 7 p3 p4 p5 p6)), .val (.int (atF bs 8 p3 p4 p5 p6)), .val (.int (atF bs 9 p3 p4 p5 p6)), .val (.int (atF bs 10 p3 p4 p5 p6)), .val (.int (atF bs 11 p3 p4 p5 p6))] [(.int (atF bs 6 p3 p4 p5 p6)), (.int (6 : Int32)), (.ref b54), (.ref b54), (.ref b53), (.ref b53)])) rfl rfl (hb hby d2_226)
      refine Goes.of (st61) ?_
      have sf_b53_61 := Safe.wr W61 sf_b54_60 CR60.1 sf_b53_60
      have sf_b54_61 := Safe.wr W61 sf_b54_60 CR60.1 sf_b54_60
      have CR61 := CR60.trans (CHr.wr W61 sf_b54_60 CR60.1)
      have E2_53_54_55_56_57_58_59_60_61 : Exa Z h61 a2 "java/lang/String" := E2_53_54_55_56_57_58_59_60.wr W61
      have C2_53_54_55_56_57_58_59_60_61 : Fld Z h61 a2 "java/lang/String" "coder" "B" (.int (0 : Int32)) := C2_53_54_55_56_57_58_59_60.other W61 (Or.inl ne_a2_b54)
      have W2v_53_54_55_56_57_58_59_60_61 : Fld Z h61 a2 "java/lang/String" "value" "[B" (.ref b2) := W2v_53_54_55_56_57_58_59_60.other W61 (Or.inl ne_a2_b54)
      have V2_53_54_55_56_57_58_59_60_61 : AI Z h61 b2 .byte bs := V2_53_54_55_56_57_58_59_60.other W61 ne_b2_b54
      have Scs_53_54_55_56_57_58_59_60_61 : Sta Z h61 "java/lang/String" "COMPACT_STRINGS" "Z" (.int cz) := Scs_53_54_55_56_57_58_59_60.wr W61
      have Sf_53_54_55_56_57_58_59_60_61 : Sta Z h61 "jdk/internal/util/Preconditions" "SIOOBE_FORMATTER" "Ljava/util/function/BiFunction;" fm := Sf_53_54_55_56_57_58_59_60.wr W61
      have A53_54_55_56_57_58_59_60_61 : Exa Z h61 b53 "java/lang/String" := A53_54_55_56_57_58_59_60.wr W61
      have F_value_b53_54_55_56_57_58_59_60_61 : Fld Z h61 b53 "java/lang/String" "value" "[B" .null := F_value_b53_54_55_56_57_58_59_60.other W61 (Or.inl ne_b53_b54)
      have F_coder_b53_54_55_56_57_58_59_60_61 : Fld Z h61 b53 "java/lang/String" "coder" "B" (.int (0 : Int32)) := F_coder_b53_54_55_56_57_58_59_60.other W61 (Or.inl ne_b53_b54)
      have K61 : Keep h0 h61 [] := K60.wr W61 (Or.inr sz_b54)
      have Z61 : n0 ≤ h61.size := Nat.le_trans Z60 (Keep.of_wr W61).1
      have HK61 := Nat.le_trans HK60 (Keep.of_wr W61).1
      have N61 := Fr.snoc X61 N60 g_b54
      have V_b54_61 : AI Z h61 b54 .char [(nar .char (atF bs 0 p3 p4 p5 p6)), (nar .char (atF bs 1 p3 p4 p5 p6)), (nar .char (atF bs 2 p3 p4 p5 p6)), (nar .char (atF bs 3 p3 p4 p5 p6)), (nar .char (atF bs 4 p3 p4 p5 p6)), (nar .char (atF bs 5 p3 p4 p5 p6)), (nar .char (atF bs 6 p3 p4 p5 p6))] := V61
      show Goes p e below KK T61 (mkF m 227 #[.val (.int p1), .val (.ref a2), .val (.int p3), .val (.int p4), .val (.int p5), .val (.int p6), .val (.int (atF bs 0 p3 p4 p5 p6)), .val (.int (atF bs 1 p3 p4 p5 p6)), .val (.int (atF bs 2 p3 p4 p5 p6)), .val (.int (atF bs 3 p3 p4 p5 p6)), .val (.int (atF bs 4 p3 p4 p5 p6)), .val (.int (atF bs 5 p3 p4 p5 p6)), .val (.int (atF bs 6 p3 p4 p5 p6)), .val (.int (atF bs 7 p3 p4 p5 p6)), .val (.int (atF bs 8 p3 p4 p5 p6)), .val (.int (atF bs 9 p3 p4 p5 p6)), .val (.int (atF bs 10 p3 p4 p5 p6)), .val (.int (atF bs 11 p3 p4 p5 p6))] [(.ref b54), (.ref b53), (.ref b53)])
      obtain ⟨_, _, ⟨T62, L62, k62, n62⟩, -, X62, ⟨Lc62, hQ62, l62, y62, z62⟩, st62⟩ := X61.specialBack hx (y := (⟨"java/lang/String", "<init>", "([C)V"⟩ : MethodName)) rfl hownw (mvT hZw w_56) (mvT hZw w_57) (mvT hZw w_58) (by decide) (backOf (W := 1) (rm11N l Z a0 hw [] b53 b54 [(nar .char (atF bs 0 p3 p4 p5 p6)), (nar .char (atF bs 1 p3 p4 p5 p6)), (nar .char (atF bs 2 p3 p4 p5 p6)), (nar .char (atF bs 3 p3 p4 p5 p6)), (nar .char (atF bs 4 p3 p4 p5 p6)), (nar .char (atF bs 5 p3 p4 p5 p6)), (nar .char (atF bs 6 p3 p4 p5 p6))] 7 cz h61 n0 Z61 A53_54_55_56_57_58_59_60_61 F_coder_b53_54_55_56_57_58_59_60_61 F_value_b53_54_55_56_57_58_59_60_61 g_b53 V_b54_61 rfl (by simp) (by simp) (own_cs hbs hd hf 7) Scs_53_54_55_56_57_58_59_60_61 hcz) hZw w_58 w_1 (by decide) (by decide)) (g := (mkF m 227 #[.val (.int p1), .val (.ref a2), .val (.int p3), .val (.int p4), .val (.int p5), .val (.int p6), .val (.int (atF bs 0 p3 p4 p5 p6)), .val (.int (atF bs 1 p3 p4 p5 p6)), .val (.int (atF bs 2 p3 p4 p5 p6)), .val (.int (atF bs 3 p3 p4 p5 p6)), .val (.int (atF bs 4 p3 p4 p5 p6)), .val (.int (atF bs 5 p3 p4 p5 p6)), .val (.int (atF bs 6 p3 p4 p5 p6)), .val (.int (atF bs 7 p3 p4 p5 p6)), .val (.int (atF bs 8 p3 p4 p5 p6)), .val (.int (atF bs 9 p3 p4 p5 p6)), .val (.int (atF bs 10 p3 p4 p5 p6)), .val (.int (atF bs 11 p3 p4 p5 p6))] [(.ref b54), (.ref b53), (.ref b53)])) rfl (by rw [hml]; rfl) (Steps.refl _) (a := b53) (argsL := [(.ref b54)]) (rest := [(.ref b53)]) (lenOf pd_27 rfl) rfl (by show 2 * 0 + _ ≤ _; exact Nat.le_of_eq rfl) (hb hby d2_227) (fun _ _ => ⟨rfl, e61, (by decide : 2 + 1 ≤ _), (by decide : 11 + 12 ≤ _)⟩)
      dsimp only [Pt.U, Pt.locs, Pt.cells, Pt.slots] at X62 l62 y62 z62 st62 hQ62
      subst y62 z62
      obtain ⟨r62, rfl, N62q, Kc62, hb62, E62, Fc62, Fv62, V62⟩ := hQ62
      have N62 : Fr n0 L62 := by rw [l62]; exact Fr.app N61 N62q
      have ne_a2_r62 : a2 ≠ r62 := Nat.ne_of_lt (Nat.lt_of_lt_of_le E2_53_54_55_56_57_58_59_60_61.lt hb62)
      have ne_b2_r62 : b2 ≠ r62 := Nat.ne_of_lt (Nat.lt_of_lt_of_le V2_53_54_55_56_57_58_59_60_61.lt hb62)
      have ne_b53_r62 : b53 ≠ r62 := Nat.ne_of_lt (Nat.lt_of_lt_of_le A53_54_55_56_57_58_59_60_61.lt hb62)
      have ne_b54_r62 : b54 ≠ r62 := Nat.ne_of_lt (Nat.lt_of_lt_of_le V_b54_61.lt hb62)
      have g_r62 : n0 ≤ r62 := Nat.le_trans Z61 hb62
      have sz_r62 : h0.size ≤ r62 := Nat.le_trans K61.1 hb62
      have sf_b53_62 := Safe.keep Kc62 (sfS sf_b53_61 sf0) CR61.1 sf_b53_61
      have sf_b54_62 := Safe.keep Kc62 (sfS sf_b53_61 sf0) CR61.1 sf_b54_61
      have CR62 := CR61.trans (CHr.keep Kc62 (sfS sf_b53_61 sf0) CR61.1)
      have E2_53_54_55_56_57_58_59_60_61_62 : Exa Z T62.heap a2 "java/lang/String" := E2_53_54_55_56_57_58_59_60_61.keep Kc62
      have C2_53_54_55_56_57_58_59_60_61_62 : Fld Z T62.heap a2 "java/lang/String" "coder" "B" (.int (0 : Int32)) := C2_53_54_55_56_57_58_59_60_61.keep Kc62 (ninS ne_a2_b53 nin0)
      have W2v_53_54_55_56_57_58_59_60_61_62 : Fld Z T62.heap a2 "java/lang/String" "value" "[B" (.ref b2) := W2v_53_54_55_56_57_58_59_60_61.keep Kc62 (ninS ne_a2_b53 nin0)
      have V2_53_54_55_56_57_58_59_60_61_62 : AI Z T62.heap b2 .byte bs := V2_53_54_55_56_57_58_59_60_61.keep Kc62 (ninS ne_b2_b53 nin0)
      have A53_54_55_56_57_58_59_60_61_62 : Exa Z T62.heap b53 "java/lang/String" := A53_54_55_56_57_58_59_60_61.keep Kc62
      have K62 : Keep h0 T62.heap [] := K61.trans Kc62 (allS (Or.inr sz_b53) all0)
      have Z62 : n0 ≤ T62.heap.size := Nat.le_trans Z61 Kc62.1
      have HK62 := Nat.le_trans HK61 Kc62.1
      have e62 : T62.heap = T62.heap := rfl
      refine Goes.tr st62 ?_
      show Goes p e below KK T62 (mkF m 230 #[.val (.int p1), .val (.ref a2), .val (.int p3), .val (.int p4), .val (.int p5), .val (.int p6), .val (.int (atF bs 0 p3 p4 p5 p6)), .val (.int (atF bs 1 p3 p4 p5 p6)), .val (.int (atF bs 2 p3 p4 p5 p6)), .val (.int (atF bs 3 p3 p4 p5 p6)), .val (.int (atF bs 4 p3 p4 p5 p6)), .val (.int (atF bs 5 p3 p4 p5 p6)), .val (.int (atF bs 6 p3 p4 p5 p6)), .val (.int (atF bs 7 p3 p4 p5 p6)), .val (.int (atF bs 8 p3 p4 p5 p6)), .val (.int (atF bs 9 p3 p4 p5 p6)), .val (.int (atF bs 10 p3 p4 p5 p6)), .val (.int (atF bs 11 p3 p4 p5 p6))] [(.ref b53)])
      have hkk' : kk = 7 := by
        have z0 : (0 : Int32).toInt = 0 := rfl
        have z7 : (7 : Int32).toInt = 7 := rfl
        have z8 : (8 : Int32).toInt = 8 := rfl
        have z9 : (9 : Int32).toInt = 9 := rfl
        have z10 : (10 : Int32).toInt = 10 := rfl
        have z11 : (11 : Int32).toInt = 11 := rfl
        have z12 : (12 : Int32).toInt = 12 := rfl
        have qhc163 : ¬ p1.toInt = (0 : Int32).toInt := fun q => hc163 (Int32.toInt_inj.mp q)
        have qhc180 := congrArg Int32.toInt hc180
        omega
      subst hkk'
      rw [← hKK]
      refine Goes.retRefH X62 HS0 (by rw [e62]; exact HK62) (by rw [e62, hh]; exact CR62.trans (CHv.at X62 hZw hEL CR62.1)) hx hlk rfl rfl Bd.returns (hb hby d2_230) ?_ (by decide) (by decide)
      rw [e62]
      exact ⟨b53, r62, rfl, N62, K62, E62, Fc62, Fv62, V62⟩
    · refine Goes.of (fun t => XS.icmpYes X49.here hx rfl (pc0 := 180) (pc' := 231) rfl (hb hby d2_180) rfl (feq hc180).2 (by decide) (by decide)) ?_
      show Goes p e below KK T49 (mkF m 231 #[.val (.int p1), .val (.ref a2), .val (.int p3), .val (.int p4), .val (.int p5), .val (.int p6), .val (.int (atF bs 0 p3 p4 p5 p6)), .val (.int (atF bs 1 p3 p4 p5 p6)), .val (.int (atF bs 2 p3 p4 p5 p6)), .val (.int (atF bs 3 p3 p4 p5 p6)), .val (.int (atF bs 4 p3 p4 p5 p6)), .val (.int (atF bs 5 p3 p4 p5 p6)), .val (.int (atF bs 6 p3 p4 p5 p6)), .val (.int (atF bs 7 p3 p4 p5 p6)), .val (.int (atF bs 8 p3 p4 p5 p6)), .val (.int (atF bs 9 p3 p4 p5 p6)), .val (.int (atF bs 10 p3 p4 p5 p6)), .val (.int (atF bs 11 p3 p4 p5 p6))] [])
      refine Goes.of (fun t => XS.iloadN X49.here hx rfl (hb hby d2_231) rfl) ?_
      show Goes p e below KK T49 (mkF m 232 #[.val (.int p1), .val (.ref a2), .val (.int p3), .val (.int p4), .val (.int p5), .val (.int p6), .val (.int (atF bs 0 p3 p4 p5 p6)), .val (.int (atF bs 1 p3 p4 p5 p6)), .val (.int (atF bs 2 p3 p4 p5 p6)), .val (.int (atF bs 3 p3 p4 p5 p6)), .val (.int (atF bs 4 p3 p4 p5 p6)), .val (.int (atF bs 5 p3 p4 p5 p6)), .val (.int (atF bs 6 p3 p4 p5 p6)), .val (.int (atF bs 7 p3 p4 p5 p6)), .val (.int (atF bs 8 p3 p4 p5 p6)), .val (.int (atF bs 9 p3 p4 p5 p6)), .val (.int (atF bs 10 p3 p4 p5 p6)), .val (.int (atF bs 11 p3 p4 p5 p6))] [(.int p1)])
      refine Goes.of (fun t => XS.bipush X49.here hx rfl (hb hby d2_232)) ?_
      show Goes p e below KK T49 (mkF m 234 #[.val (.int p1), .val (.ref a2), .val (.int p3), .val (.int p4), .val (.int p5), .val (.int p6), .val (.int (atF bs 0 p3 p4 p5 p6)), .val (.int (atF bs 1 p3 p4 p5 p6)), .val (.int (atF bs 2 p3 p4 p5 p6)), .val (.int (atF bs 3 p3 p4 p5 p6)), .val (.int (atF bs 4 p3 p4 p5 p6)), .val (.int (atF bs 5 p3 p4 p5 p6)), .val (.int (atF bs 6 p3 p4 p5 p6)), .val (.int (atF bs 7 p3 p4 p5 p6)), .val (.int (atF bs 8 p3 p4 p5 p6)), .val (.int (atF bs 9 p3 p4 p5 p6)), .val (.int (atF bs 10 p3 p4 p5 p6)), .val (.int (atF bs 11 p3 p4 p5 p6))] [(.int (8 : Int32)), (.int p1)])
      by_cases hc234 : p1 = (8 : Int32)
      · refine Goes.of (fun t => XS.icmpNo X49.here hx rfl (hb hby d2_234) rfl (teq hc234).2) ?_
        show Goes p e below KK T49 (mkF m 237 #[.val (.int p1), .val (.ref a2), .val (.int p3), .val (.int p4), .val (.int p5), .val (.int p6), .val (.int (atF bs 0 p3 p4 p5 p6)), .val (.int (atF bs 1 p3 p4 p5 p6)), .val (.int (atF bs 2 p3 p4 p5 p6)), .val (.int (atF bs 3 p3 p4 p5 p6)), .val (.int (atF bs 4 p3 p4 p5 p6)), .val (.int (atF bs 5 p3 p4 p5 p6)), .val (.int (atF bs 6 p3 p4 p5 p6)), .val (.int (atF bs 7 p3 p4 p5 p6)), .val (.int (atF bs 8 p3 p4 p5 p6)), .val (.int (atF bs 9 p3 p4 p5 p6)), .val (.int (atF bs 10 p3 p4 p5 p6)), .val (.int (atF bs 11 p3 p4 p5 p6))] [])
        obtain ⟨T63, h63, X63, e63, E63, A63, D63, -, st63⟩ := newO X49 hx hZw hownw w_54 w_2 w_1 e49 (g := (mkF m 237 #[.val (.int p1), .val (.ref a2), .val (.int p3), .val (.int p4), .val (.int p5), .val (.int p6), .val (.int (atF bs 0 p3 p4 p5 p6)), .val (.int (atF bs 1 p3 p4 p5 p6)), .val (.int (atF bs 2 p3 p4 p5 p6)), .val (.int (atF bs 3 p3 p4 p5 p6)), .val (.int (atF bs 4 p3 p4 p5 p6)), .val (.int (atF bs 5 p3 p4 p5 p6)), .val (.int (atF bs 6 p3 p4 p5 p6)), .val (.int (atF bs 7 p3 p4 p5 p6)), .val (.int (atF bs 8 p3 p4 p5 p6)), .val (.int (atF bs 9 p3 p4 p5 p6)), .val (.int (atF bs 10 p3 p4 p5 p6)), .val (.int (atF bs 11 p3 p4 p5 p6))] [])) rfl (hb hby d2_237) (by decide) (by decide)
        obtain ⟨b63, g63⟩ : ∃ z, z = h0.size := ⟨_, rfl⟩
        rw [← g63] at A63 D63 st63
        refine Goes.of (st63) ?_
        have ne_a2_b63 : a2 ≠ b63 := Nat.ne_of_lt (Nat.lt_of_lt_of_le E2.lt (Nat.le_of_eq g63.symm))
        have ne_b2_b63 : b2 ≠ b63 := Nat.ne_of_lt (Nat.lt_of_lt_of_le V2.lt (Nat.le_of_eq g63.symm))
        have g_b63 : n0 ≤ b63 := Nat.le_trans Z0 (Nat.le_of_eq g63.symm)
        have sz_b63 : h0.size ≤ b63 := Nat.le_trans (Keep.refl h0 []).1 (Nat.le_of_eq g63.symm)
        have sf_b63 : Safe Z EL0 s.vm h0 b63 := Safe.new (Nat.le_of_eq g63.symm)
        have sf_b63_63 := Safe.ext E63 CR0.1 sf_b63
        have CR63 := CR0.trans (CHr.ext E63 CR0.1)
        have E2_63 : Exa Z h63 a2 "java/lang/String" := E2.ext E63
        have C2_63 : Fld Z h63 a2 "java/lang/String" "coder" "B" (.int (0 : Int32)) := C2.ext E63
        have W2v_63 : Fld Z h63 a2 "java/lang/String" "value" "[B" (.ref b2) := W2v.ext E63
        have V2_63 : AI Z h63 b2 .byte bs := V2.ext E63
        have Scs_63 : Sta Z h63 "java/lang/String" "COMPACT_STRINGS" "Z" (.int cz) := Scs.ext E63
        have Sf_63 : Sta Z h63 "jdk/internal/util/Preconditions" "SIOOBE_FORMATTER" "Ljava/util/function/BiFunction;" fm := Sf.ext E63
        have K63 : Keep h0 h63 [] := (Keep.refl h0 []).ext E63
        have Z63 : n0 ≤ h63.size := Nat.le_trans Z0 E63.1
        have HK63 := Nat.le_trans HK0 E63.1
        have F_value_b63 : Fld Z h63 b63 "java/lang/String" "value" "[B" .null := D63 (Or.inr w_4) (ty := (.array .byte)) (by decide)
        have F_coder_b63 : Fld Z h63 b63 "java/lang/String" "coder" "B" (.int (0 : Int32)) := D63 (Or.inr w_5) (ty := .byte) (by decide)
        show Goes p e below KK T63 (mkF m 240 #[.val (.int p1), .val (.ref a2), .val (.int p3), .val (.int p4), .val (.int p5), .val (.int p6), .val (.int (atF bs 0 p3 p4 p5 p6)), .val (.int (atF bs 1 p3 p4 p5 p6)), .val (.int (atF bs 2 p3 p4 p5 p6)), .val (.int (atF bs 3 p3 p4 p5 p6)), .val (.int (atF bs 4 p3 p4 p5 p6)), .val (.int (atF bs 5 p3 p4 p5 p6)), .val (.int (atF bs 6 p3 p4 p5 p6)), .val (.int (atF bs 7 p3 p4 p5 p6)), .val (.int (atF bs 8 p3 p4 p5 p6)), .val (.int (atF bs 9 p3 p4 p5 p6)), .val (.int (atF bs 10 p3 p4 p5 p6)), .val (.int (atF bs 11 p3 p4 p5 p6))] [(.ref b63)])
        refine Goes.of (fun t => XS.dup X63.here hx rfl (hb hby d2_240) rfl rfl) ?_
        show Goes p e below KK T63 (mkF m 241 #[.val (.int p1), .val (.ref a2), .val (.int p3), .val (.int p4), .val (.int p5), .val (.int p6), .val (.int (atF bs 0 p3 p4 p5 p6)), .val (.int (atF bs 1 p3 p4 p5 p6)), .val (.int (atF bs 2 p3 p4 p5 p6)), .val (.int (atF bs 3 p3 p4 p5 p6)), .val (.int (atF bs 4 p3 p4 p5 p6)), .val (.int (atF bs 5 p3 p4 p5 p6)), .val (.int (atF bs 6 p3 p4 p5 p6)), .val (.int (atF bs 7 p3 p4 p5 p6)), .val (.int (atF bs 8 p3 p4 p5 p6)), .val (.int (atF bs 9 p3 p4 p5 p6)), .val (.int (atF bs 10 p3 p4 p5 p6)), .val (.int (atF bs 11 p3 p4 p5 p6))] [(.ref b63), (.ref b63)])
        refine Goes.of (fun t => XS.bipush X63.here hx rfl (hb hby d2_241)) ?_
        show Goes p e below KK T63 (mkF m 243 #[.val (.int p1), .val (.ref a2), .val (.int p3), .val (.int p4), .val (.int p5), .val (.int p6), .val (.int (atF bs 0 p3 p4 p5 p6)), .val (.int (atF bs 1 p3 p4 p5 p6)), .val (.int (atF bs 2 p3 p4 p5 p6)), .val (.int (atF bs 3 p3 p4 p5 p6)), .val (.int (atF bs 4 p3 p4 p5 p6)), .val (.int (atF bs 5 p3 p4 p5 p6)), .val (.int (atF bs 6 p3 p4 p5 p6)), .val (.int (atF bs 7 p3 p4 p5 p6)), .val (.int (atF bs 8 p3 p4 p5 p6)), .val (.int (atF bs 9 p3 p4 p5 p6)), .val (.int (atF bs 10 p3 p4 p5 p6)), .val (.int (atF bs 11 p3 p4 p5 p6))] [(.int (8 : Int32)), (.ref b63), (.ref b63)])
        obtain ⟨T64, h64, k64, X64, e64, E64, A64, st64⟩ := newP (aty := .char) X63 hx hZw w_55 e63 (g := (mkF m 243 #[.val (.int p1), .val (.ref a2), .val (.int p3), .val (.int p4), .val (.int p5), .val (.int p6), .val (.int (atF bs 0 p3 p4 p5 p6)), .val (.int (atF bs 1 p3 p4 p5 p6)), .val (.int (atF bs 2 p3 p4 p5 p6)), .val (.int (atF bs 3 p3 p4 p5 p6)), .val (.int (atF bs 4 p3 p4 p5 p6)), .val (.int (atF bs 5 p3 p4 p5 p6)), .val (.int (atF bs 6 p3 p4 p5 p6)), .val (.int (atF bs 7 p3 p4 p5 p6)), .val (.int (atF bs 8 p3 p4 p5 p6)), .val (.int (atF bs 9 p3 p4 p5 p6)), .val (.int (atF bs 10 p3 p4 p5 p6)), .val (.int (atF bs 11 p3 p4 p5 p6))] [(.int (8 : Int32)), (.ref b63), (.ref b63)])) rfl (hb hby d2_243) rfl (by decide) (cap := 8) (by decide) (by decide) (by decide) (by decide)
        obtain ⟨b64, g64⟩ : ∃ z, z = h63.size := ⟨_, rfl⟩
        rw [← g64] at A64 st64
        refine Goes.of (st64) ?_
        have ne_a2_b64 : a2 ≠ b64 := Nat.ne_of_lt (Nat.lt_of_lt_of_le E2_63.lt (Nat.le_of_eq g64.symm))
        have ne_b2_b64 : b2 ≠ b64 := Nat.ne_of_lt (Nat.lt_of_lt_of_le V2_63.lt (Nat.le_of_eq g64.symm))
        have ne_b63_b64 : b63 ≠ b64 := Nat.ne_of_lt (Nat.lt_of_lt_of_le A63.lt (Nat.le_of_eq g64.symm))
        have g_b64 : n0 ≤ b64 := Nat.le_trans Z63 (Nat.le_of_eq g64.symm)
        have sz_b64 : h0.size ≤ b64 := Nat.le_trans K63.1 (Nat.le_of_eq g64.symm)
        have sf_b64 : Safe Z EL0 s.vm h63 b64 := Safe.new (Nat.le_of_eq g64.symm)
        have sf_b63_64 := Safe.ext E64 CR63.1 sf_b63_63
        have sf_b64_64 := Safe.ext E64 CR63.1 sf_b64
        have CR64 := CR63.trans (CHr.ext E64 CR63.1)
        have E2_63_64 : Exa Z h64 a2 "java/lang/String" := E2_63.ext E64
        have C2_63_64 : Fld Z h64 a2 "java/lang/String" "coder" "B" (.int (0 : Int32)) := C2_63.ext E64
        have W2v_63_64 : Fld Z h64 a2 "java/lang/String" "value" "[B" (.ref b2) := W2v_63.ext E64
        have V2_63_64 : AI Z h64 b2 .byte bs := V2_63.ext E64
        have Scs_63_64 : Sta Z h64 "java/lang/String" "COMPACT_STRINGS" "Z" (.int cz) := Scs_63.ext E64
        have Sf_63_64 : Sta Z h64 "jdk/internal/util/Preconditions" "SIOOBE_FORMATTER" "Ljava/util/function/BiFunction;" fm := Sf_63.ext E64
        have A63_64 : Exa Z h64 b63 "java/lang/String" := A63.ext E64
        have F_value_b63_64 : Fld Z h64 b63 "java/lang/String" "value" "[B" .null := F_value_b63.ext E64
        have F_coder_b63_64 : Fld Z h64 b63 "java/lang/String" "coder" "B" (.int (0 : Int32)) := F_coder_b63.ext E64
        have K64 : Keep h0 h64 [] := K63.ext E64
        have Z64 : n0 ≤ h64.size := Nat.le_trans Z63 E64.1
        have HK64 := Nat.le_trans HK63 E64.1
        have V_b64 : AI Z h64 b64 .char [(0 : Int32), (0 : Int32), (0 : Int32), (0 : Int32), (0 : Int32), (0 : Int32), (0 : Int32), (0 : Int32)] := AI.fresh (k := 8) (by simp) (rfl) A64
        show Goes p e below KK T64 (mkF m 245 #[.val (.int p1), .val (.ref a2), .val (.int p3), .val (.int p4), .val (.int p5), .val (.int p6), .val (.int (atF bs 0 p3 p4 p5 p6)), .val (.int (atF bs 1 p3 p4 p5 p6)), .val (.int (atF bs 2 p3 p4 p5 p6)), .val (.int (atF bs 3 p3 p4 p5 p6)), .val (.int (atF bs 4 p3 p4 p5 p6)), .val (.int (atF bs 5 p3 p4 p5 p6)), .val (.int (atF bs 6 p3 p4 p5 p6)), .val (.int (atF bs 7 p3 p4 p5 p6)), .val (.int (atF bs 8 p3 p4 p5 p6)), .val (.int (atF bs 9 p3 p4 p5 p6)), .val (.int (atF bs 10 p3 p4 p5 p6)), .val (.int (atF bs 11 p3 p4 p5 p6))] [(.ref b64), (.ref b63), (.ref b63)])
        refine Goes.of (fun t => XS.dup X64.here hx rfl (hb hby d2_245) rfl rfl) ?_
        show Goes p e below KK T64 (mkF m 246 #[.val (.int p1), .val (.ref a2), .val (.int p3), .val (.int p4), .val (.int p5), .val (.int p6), .val (.int (atF bs 0 p3 p4 p5 p6)), .val (.int (atF bs 1 p3 p4 p5 p6)), .val (.int (atF bs 2 p3 p4 p5 p6)), .val (.int (atF bs 3 p3 p4 p5 p6)), .val (.int (atF bs 4 p3 p4 p5 p6)), .val (.int (atF bs 5 p3 p4 p5 p6)), .val (.int (atF bs 6 p3 p4 p5 p6)), .val (.int (atF bs 7 p3 p4 p5 p6)), .val (.int (atF bs 8 p3 p4 p5 p6)), .val (.int (atF bs 9 p3 p4 p5 p6)), .val (.int (atF bs 10 p3 p4 p5 p6)), .val (.int (atF bs 11 p3 p4 p5 p6))] [(.ref b64), (.ref b64), (.ref b63), (.ref b63)])
        refine Goes.of (fun t => XS.iconst X64.here hx rfl (hb hby d2_246)) ?_
        show Goes p e below KK T64 (mkF m 247 #[.val (.int p1), .val (.ref a2), .val (.int p3), .val (.int p4), .val (.int p5), .val (.int p6), .val (.int (atF bs 0 p3 p4 p5 p6)), .val (.int (atF bs 1 p3 p4 p5 p6)), .val (.int (atF bs 2 p3 p4 p5 p6)), .val (.int (atF bs 3 p3 p4 p5 p6)), .val (.int (atF bs 4 p3 p4 p5 p6)), .val (.int (atF bs 5 p3 p4 p5 p6)), .val (.int (atF bs 6 p3 p4 p5 p6)), .val (.int (atF bs 7 p3 p4 p5 p6)), .val (.int (atF bs 8 p3 p4 p5 p6)), .val (.int (atF bs 9 p3 p4 p5 p6)), .val (.int (atF bs 10 p3 p4 p5 p6)), .val (.int (atF bs 11 p3 p4 p5 p6))] [(.int (0 : Int32)), (.ref b64), (.ref b64), (.ref b63), (.ref b63)])
        refine Goes.of (fun t => XS.iload X64.here hx rfl (hb hby d2_247) rfl) ?_
        show Goes p e below KK T64 (mkF m 249 #[.val (.int p1), .val (.ref a2), .val (.int p3), .val (.int p4), .val (.int p5), .val (.int p6), .val (.int (atF bs 0 p3 p4 p5 p6)), .val (.int (atF bs 1 p3 p4 p5 p6)), .val (.int (atF bs 2 p3 p4 p5 p6)), .val (.int (atF bs 3 p3 p4 p5 p6)), .val (.int (atF bs 4 p3 p4 p5 p6)), .val (.int (atF bs 5 p3 p4 p5 p6)), .val (.int (atF bs 6 p3 p4 p5 p6)), .val (.int (atF bs 7 p3 p4 p5 p6)), .val (.int (atF bs 8 p3 p4 p5 p6)), .val (.int (atF bs 9 p3 p4 p5 p6)), .val (.int (atF bs 10 p3 p4 p5 p6)), .val (.int (atF bs 11 p3 p4 p5 p6))] [(.int (atF bs 0 p3 p4 p5 p6)), (.int (0 : Int32)), (.ref b64), (.ref b64), (.ref b63), (.ref b63)])
        obtain ⟨T65, h65, X65, e65, W65, V65, st65⟩ := AI.castore X64 hx hZw e64 V_b64 (i := 0) (j := (0 : Int32)) (rfl) ((by simp)) (g := (mkF m 249 #[.val (.int p1), .val (.ref a2), .val (.int p3), .val (.int p4), .val (.int p5), .val (.int p6), .val (.int (atF bs 0 p3 p4 p5 p6)), .val (.int (atF bs 1 p3 p4 p5 p6)), .val (.int (atF bs 2 p3 p4 p5 p6)), .val (.int (atF bs 3 p3 p4 p5 p6)), .val (.int (atF bs 4 p3 p4 p5 p6)), .val (.int (atF bs 5 p3 p4 p5 p6)), .val (.int (atF bs 6 p3 p4 p5 p6)), .val (.int (atF bs 7 p3 p4 p5 p6)), .val (.int (atF bs 8 p3 p4 p5 p6)), .val (.int (atF bs 9 p3 p4 p5 p6)), .val (.int (atF bs 10 p3 p4 p5 p6)), .val (.int (atF bs 11 p3 p4 p5 p6))] [(.int (atF bs 0 p3 p4 p5 p6)), (.int (0 : Int32)), (.ref b64), (.ref b64), (.ref b63), (.ref b63)])) rfl rfl (hb hby d2_249)
        refine Goes.of (st65) ?_
        have sf_b63_65 := Safe.wr W65 sf_b64_64 CR64.1 sf_b63_64
        have sf_b64_65 := Safe.wr W65 sf_b64_64 CR64.1 sf_b64_64
        have CR65 := CR64.trans (CHr.wr W65 sf_b64_64 CR64.1)
        have E2_63_64_65 : Exa Z h65 a2 "java/lang/String" := E2_63_64.wr W65
        have C2_63_64_65 : Fld Z h65 a2 "java/lang/String" "coder" "B" (.int (0 : Int32)) := C2_63_64.other W65 (Or.inl ne_a2_b64)
        have W2v_63_64_65 : Fld Z h65 a2 "java/lang/String" "value" "[B" (.ref b2) := W2v_63_64.other W65 (Or.inl ne_a2_b64)
        have V2_63_64_65 : AI Z h65 b2 .byte bs := V2_63_64.other W65 ne_b2_b64
        have Scs_63_64_65 : Sta Z h65 "java/lang/String" "COMPACT_STRINGS" "Z" (.int cz) := Scs_63_64.wr W65
        have Sf_63_64_65 : Sta Z h65 "jdk/internal/util/Preconditions" "SIOOBE_FORMATTER" "Ljava/util/function/BiFunction;" fm := Sf_63_64.wr W65
        have A63_64_65 : Exa Z h65 b63 "java/lang/String" := A63_64.wr W65
        have F_value_b63_64_65 : Fld Z h65 b63 "java/lang/String" "value" "[B" .null := F_value_b63_64.other W65 (Or.inl ne_b63_b64)
        have F_coder_b63_64_65 : Fld Z h65 b63 "java/lang/String" "coder" "B" (.int (0 : Int32)) := F_coder_b63_64.other W65 (Or.inl ne_b63_b64)
        have K65 : Keep h0 h65 [] := K64.wr W65 (Or.inr sz_b64)
        have Z65 : n0 ≤ h65.size := Nat.le_trans Z64 (Keep.of_wr W65).1
        have HK65 := Nat.le_trans HK64 (Keep.of_wr W65).1
        have N65 := Fr.snoc X65 N49 g_b64
        have V_b64_65 : AI Z h65 b64 .char [(nar .char (atF bs 0 p3 p4 p5 p6)), (0 : Int32), (0 : Int32), (0 : Int32), (0 : Int32), (0 : Int32), (0 : Int32), (0 : Int32)] := V65
        show Goes p e below KK T65 (mkF m 250 #[.val (.int p1), .val (.ref a2), .val (.int p3), .val (.int p4), .val (.int p5), .val (.int p6), .val (.int (atF bs 0 p3 p4 p5 p6)), .val (.int (atF bs 1 p3 p4 p5 p6)), .val (.int (atF bs 2 p3 p4 p5 p6)), .val (.int (atF bs 3 p3 p4 p5 p6)), .val (.int (atF bs 4 p3 p4 p5 p6)), .val (.int (atF bs 5 p3 p4 p5 p6)), .val (.int (atF bs 6 p3 p4 p5 p6)), .val (.int (atF bs 7 p3 p4 p5 p6)), .val (.int (atF bs 8 p3 p4 p5 p6)), .val (.int (atF bs 9 p3 p4 p5 p6)), .val (.int (atF bs 10 p3 p4 p5 p6)), .val (.int (atF bs 11 p3 p4 p5 p6))] [(.ref b64), (.ref b63), (.ref b63)])
        refine Goes.of (fun t => XS.dup X65.here hx rfl (hb hby d2_250) rfl rfl) ?_
        show Goes p e below KK T65 (mkF m 251 #[.val (.int p1), .val (.ref a2), .val (.int p3), .val (.int p4), .val (.int p5), .val (.int p6), .val (.int (atF bs 0 p3 p4 p5 p6)), .val (.int (atF bs 1 p3 p4 p5 p6)), .val (.int (atF bs 2 p3 p4 p5 p6)), .val (.int (atF bs 3 p3 p4 p5 p6)), .val (.int (atF bs 4 p3 p4 p5 p6)), .val (.int (atF bs 5 p3 p4 p5 p6)), .val (.int (atF bs 6 p3 p4 p5 p6)), .val (.int (atF bs 7 p3 p4 p5 p6)), .val (.int (atF bs 8 p3 p4 p5 p6)), .val (.int (atF bs 9 p3 p4 p5 p6)), .val (.int (atF bs 10 p3 p4 p5 p6)), .val (.int (atF bs 11 p3 p4 p5 p6))] [(.ref b64), (.ref b64), (.ref b63), (.ref b63)])
        refine Goes.of (fun t => XS.iconst X65.here hx rfl (hb hby d2_251)) ?_
        show Goes p e below KK T65 (mkF m 252 #[.val (.int p1), .val (.ref a2), .val (.int p3), .val (.int p4), .val (.int p5), .val (.int p6), .val (.int (atF bs 0 p3 p4 p5 p6)), .val (.int (atF bs 1 p3 p4 p5 p6)), .val (.int (atF bs 2 p3 p4 p5 p6)), .val (.int (atF bs 3 p3 p4 p5 p6)), .val (.int (atF bs 4 p3 p4 p5 p6)), .val (.int (atF bs 5 p3 p4 p5 p6)), .val (.int (atF bs 6 p3 p4 p5 p6)), .val (.int (atF bs 7 p3 p4 p5 p6)), .val (.int (atF bs 8 p3 p4 p5 p6)), .val (.int (atF bs 9 p3 p4 p5 p6)), .val (.int (atF bs 10 p3 p4 p5 p6)), .val (.int (atF bs 11 p3 p4 p5 p6))] [(.int (1 : Int32)), (.ref b64), (.ref b64), (.ref b63), (.ref b63)])
        refine Goes.of (fun t => XS.iload X65.here hx rfl (hb hby d2_252) rfl) ?_
        show Goes p e below KK T65 (mkF m 254 #[.val (.int p1), .val (.ref a2), .val (.int p3), .val (.int p4), .val (.int p5), .val (.int p6), .val (.int (atF bs 0 p3 p4 p5 p6)), .val (.int (atF bs 1 p3 p4 p5 p6)), .val (.int (atF bs 2 p3 p4 p5 p6)), .val (.int (atF bs 3 p3 p4 p5 p6)), .val (.int (atF bs 4 p3 p4 p5 p6)), .val (.int (atF bs 5 p3 p4 p5 p6)), .val (.int (atF bs 6 p3 p4 p5 p6)), .val (.int (atF bs 7 p3 p4 p5 p6)), .val (.int (atF bs 8 p3 p4 p5 p6)), .val (.int (atF bs 9 p3 p4 p5 p6)), .val (.int (atF bs 10 p3 p4 p5 p6)), .val (.int (atF bs 11 p3 p4 p5 p6))] [(.int (atF bs 1 p3 p4 p5 p6)), (.int (1 : Int32)), (.ref b64), (.ref b64), (.ref b63), (.ref b63)])
        obtain ⟨T66, h66, X66, e66, W66, V66, st66⟩ := AI.castore X65 hx hZw e65 V_b64_65 (i := 1) (j := (1 : Int32)) (rfl) ((by simp)) (g := (mkF m 254 #[.val (.int p1), .val (.ref a2), .val (.int p3), .val (.int p4), .val (.int p5), .val (.int p6), .val (.int (atF bs 0 p3 p4 p5 p6)), .val (.int (atF bs 1 p3 p4 p5 p6)), .val (.int (atF bs 2 p3 p4 p5 p6)), .val (.int (atF bs 3 p3 p4 p5 p6)), .val (.int (atF bs 4 p3 p4 p5 p6)), .val (.int (atF bs 5 p3 p4 p5 p6)), .val (.int (atF bs 6 p3 p4 p5 p6)), .val (.int (atF bs 7 p3 p4 p5 p6)), .val (.int (atF bs 8 p3 p4 p5 p6)), .val (.int (atF bs 9 p3 p4 p5 p6)), .val (.int (atF bs 10 p3 p4 p5 p6)), .val (.int (atF bs 11 p3 p4 p5 p6))] [(.int (atF bs 1 p3 p4 p5 p6)), (.int (1 : Int32)), (.ref b64), (.ref b64), (.ref b63), (.ref b63)])) rfl rfl (hb hby d2_254)
        refine Goes.of (st66) ?_
        have sf_b63_66 := Safe.wr W66 sf_b64_65 CR65.1 sf_b63_65
        have sf_b64_66 := Safe.wr W66 sf_b64_65 CR65.1 sf_b64_65
        have CR66 := CR65.trans (CHr.wr W66 sf_b64_65 CR65.1)
        have E2_63_64_65_66 : Exa Z h66 a2 "java/lang/String" := E2_63_64_65.wr W66
        have C2_63_64_65_66 : Fld Z h66 a2 "java/lang/String" "coder" "B" (.int (0 : Int32)) := C2_63_64_65.other W66 (Or.inl ne_a2_b64)
        have W2v_63_64_65_66 : Fld Z h66 a2 "java/lang/String" "value" "[B" (.ref b2) := W2v_63_64_65.other W66 (Or.inl ne_a2_b64)
        have V2_63_64_65_66 : AI Z h66 b2 .byte bs := V2_63_64_65.other W66 ne_b2_b64
        have Scs_63_64_65_66 : Sta Z h66 "java/lang/String" "COMPACT_STRINGS" "Z" (.int cz) := Scs_63_64_65.wr W66
        have Sf_63_64_65_66 : Sta Z h66 "jdk/internal/util/Preconditions" "SIOOBE_FORMATTER" "Ljava/util/function/BiFunction;" fm := Sf_63_64_65.wr W66
        have A63_64_65_66 : Exa Z h66 b63 "java/lang/String" := A63_64_65.wr W66
        have F_value_b63_64_65_66 : Fld Z h66 b63 "java/lang/String" "value" "[B" .null := F_value_b63_64_65.other W66 (Or.inl ne_b63_b64)
        have F_coder_b63_64_65_66 : Fld Z h66 b63 "java/lang/String" "coder" "B" (.int (0 : Int32)) := F_coder_b63_64_65.other W66 (Or.inl ne_b63_b64)
        have K66 : Keep h0 h66 [] := K65.wr W66 (Or.inr sz_b64)
        have Z66 : n0 ≤ h66.size := Nat.le_trans Z65 (Keep.of_wr W66).1
        have HK66 := Nat.le_trans HK65 (Keep.of_wr W66).1
        have N66 := Fr.snoc X66 N65 g_b64
        have V_b64_66 : AI Z h66 b64 .char [(nar .char (atF bs 0 p3 p4 p5 p6)), (nar .char (atF bs 1 p3 p4 p5 p6)), (0 : Int32), (0 : Int32), (0 : Int32), (0 : Int32), (0 : Int32), (0 : Int32)] := V66
        show Goes p e below KK T66 (mkF m 255 #[.val (.int p1), .val (.ref a2), .val (.int p3), .val (.int p4), .val (.int p5), .val (.int p6), .val (.int (atF bs 0 p3 p4 p5 p6)), .val (.int (atF bs 1 p3 p4 p5 p6)), .val (.int (atF bs 2 p3 p4 p5 p6)), .val (.int (atF bs 3 p3 p4 p5 p6)), .val (.int (atF bs 4 p3 p4 p5 p6)), .val (.int (atF bs 5 p3 p4 p5 p6)), .val (.int (atF bs 6 p3 p4 p5 p6)), .val (.int (atF bs 7 p3 p4 p5 p6)), .val (.int (atF bs 8 p3 p4 p5 p6)), .val (.int (atF bs 9 p3 p4 p5 p6)), .val (.int (atF bs 10 p3 p4 p5 p6)), .val (.int (atF bs 11 p3 p4 p5 p6))] [(.ref b64), (.ref b63), (.ref b63)])
        refine Goes.of (fun t => XS.dup X66.here hx rfl (hb hby d2_255) rfl rfl) ?_
        show Goes p e below KK T66 (mkF m 256 #[.val (.int p1), .val (.ref a2), .val (.int p3), .val (.int p4), .val (.int p5), .val (.int p6), .val (.int (atF bs 0 p3 p4 p5 p6)), .val (.int (atF bs 1 p3 p4 p5 p6)), .val (.int (atF bs 2 p3 p4 p5 p6)), .val (.int (atF bs 3 p3 p4 p5 p6)), .val (.int (atF bs 4 p3 p4 p5 p6)), .val (.int (atF bs 5 p3 p4 p5 p6)), .val (.int (atF bs 6 p3 p4 p5 p6)), .val (.int (atF bs 7 p3 p4 p5 p6)), .val (.int (atF bs 8 p3 p4 p5 p6)), .val (.int (atF bs 9 p3 p4 p5 p6)), .val (.int (atF bs 10 p3 p4 p5 p6)), .val (.int (atF bs 11 p3 p4 p5 p6))] [(.ref b64), (.ref b64), (.ref b63), (.ref b63)])
        refine Goes.of (fun t => XS.iconst X66.here hx rfl (hb hby d2_256)) ?_
        show Goes p e below KK T66 (mkF m 257 #[.val (.int p1), .val (.ref a2), .val (.int p3), .val (.int p4), .val (.int p5), .val (.int p6), .val (.int (atF bs 0 p3 p4 p5 p6)), .val (.int (atF bs 1 p3 p4 p5 p6)), .val (.int (atF bs 2 p3 p4 p5 p6)), .val (.int (atF bs 3 p3 p4 p5 p6)), .val (.int (atF bs 4 p3 p4 p5 p6)), .val (.int (atF bs 5 p3 p4 p5 p6)), .val (.int (atF bs 6 p3 p4 p5 p6)), .val (.int (atF bs 7 p3 p4 p5 p6)), .val (.int (atF bs 8 p3 p4 p5 p6)), .val (.int (atF bs 9 p3 p4 p5 p6)), .val (.int (atF bs 10 p3 p4 p5 p6)), .val (.int (atF bs 11 p3 p4 p5 p6))] [(.int (2 : Int32)), (.ref b64), (.ref b64), (.ref b63), (.ref b63)])
        refine Goes.of (fun t => XS.iload X66.here hx rfl (hb hby d2_257) rfl) ?_
        show Goes p e below KK T66 (mkF m 259 #[.val (.int p1), .val (.ref a2), .val (.int p3), .val (.int p4), .val (.int p5), .val (.int p6), .val (.int (atF bs 0 p3 p4 p5 p6)), .val (.int (atF bs 1 p3 p4 p5 p6)), .val (.int (atF bs 2 p3 p4 p5 p6)), .val (.int (atF bs 3 p3 p4 p5 p6)), .val (.int (atF bs 4 p3 p4 p5 p6)), .val (.int (atF bs 5 p3 p4 p5 p6)), .val (.int (atF bs 6 p3 p4 p5 p6)), .val (.int (atF bs 7 p3 p4 p5 p6)), .val (.int (atF bs 8 p3 p4 p5 p6)), .val (.int (atF bs 9 p3 p4 p5 p6)), .val (.int (atF bs 10 p3 p4 p5 p6)), .val (.int (atF bs 11 p3 p4 p5 p6))] [(.int (atF bs 2 p3 p4 p5 p6)), (.int (2 : Int32)), (.ref b64), (.ref b64), (.ref b63), (.ref b63)])
        obtain ⟨T67, h67, X67, e67, W67, V67, st67⟩ := AI.castore X66 hx hZw e66 V_b64_66 (i := 2) (j := (2 : Int32)) (rfl) ((by simp)) (g := (mkF m 259 #[.val (.int p1), .val (.ref a2), .val (.int p3), .val (.int p4), .val (.int p5), .val (.int p6), .val (.int (atF bs 0 p3 p4 p5 p6)), .val (.int (atF bs 1 p3 p4 p5 p6)), .val (.int (atF bs 2 p3 p4 p5 p6)), .val (.int (atF bs 3 p3 p4 p5 p6)), .val (.int (atF bs 4 p3 p4 p5 p6)), .val (.int (atF bs 5 p3 p4 p5 p6)), .val (.int (atF bs 6 p3 p4 p5 p6)), .val (.int (atF bs 7 p3 p4 p5 p6)), .val (.int (atF bs 8 p3 p4 p5 p6)), .val (.int (atF bs 9 p3 p4 p5 p6)), .val (.int (atF bs 10 p3 p4 p5 p6)), .val (.int (atF bs 11 p3 p4 p5 p6))] [(.int (atF bs 2 p3 p4 p5 p6)), (.int (2 : Int32)), (.ref b64), (.ref b64), (.ref b63), (.ref b63)])) rfl rfl (hb hby d2_259)
        refine Goes.of (st67) ?_
        have sf_b63_67 := Safe.wr W67 sf_b64_66 CR66.1 sf_b63_66
        have sf_b64_67 := Safe.wr W67 sf_b64_66 CR66.1 sf_b64_66
        have CR67 := CR66.trans (CHr.wr W67 sf_b64_66 CR66.1)
        have E2_63_64_65_66_67 : Exa Z h67 a2 "java/lang/String" := E2_63_64_65_66.wr W67
        have C2_63_64_65_66_67 : Fld Z h67 a2 "java/lang/String" "coder" "B" (.int (0 : Int32)) := C2_63_64_65_66.other W67 (Or.inl ne_a2_b64)
        have W2v_63_64_65_66_67 : Fld Z h67 a2 "java/lang/String" "value" "[B" (.ref b2) := W2v_63_64_65_66.other W67 (Or.inl ne_a2_b64)
        have V2_63_64_65_66_67 : AI Z h67 b2 .byte bs := V2_63_64_65_66.other W67 ne_b2_b64
        have Scs_63_64_65_66_67 : Sta Z h67 "java/lang/String" "COMPACT_STRINGS" "Z" (.int cz) := Scs_63_64_65_66.wr W67
        have Sf_63_64_65_66_67 : Sta Z h67 "jdk/internal/util/Preconditions" "SIOOBE_FORMATTER" "Ljava/util/function/BiFunction;" fm := Sf_63_64_65_66.wr W67
        have A63_64_65_66_67 : Exa Z h67 b63 "java/lang/String" := A63_64_65_66.wr W67
        have F_value_b63_64_65_66_67 : Fld Z h67 b63 "java/lang/String" "value" "[B" .null := F_value_b63_64_65_66.other W67 (Or.inl ne_b63_b64)
        have F_coder_b63_64_65_66_67 : Fld Z h67 b63 "java/lang/String" "coder" "B" (.int (0 : Int32)) := F_coder_b63_64_65_66.other W67 (Or.inl ne_b63_b64)
        have K67 : Keep h0 h67 [] := K66.wr W67 (Or.inr sz_b64)
        have Z67 : n0 ≤ h67.size := Nat.le_trans Z66 (Keep.of_wr W67).1
        have HK67 := Nat.le_trans HK66 (Keep.of_wr W67).1
        have N67 := Fr.snoc X67 N66 g_b64
        have V_b64_67 : AI Z h67 b64 .char [(nar .char (atF bs 0 p3 p4 p5 p6)), (nar .char (atF bs 1 p3 p4 p5 p6)), (nar .char (atF bs 2 p3 p4 p5 p6)), (0 : Int32), (0 : Int32), (0 : Int32), (0 : Int32), (0 : Int32)] := V67
        show Goes p e below KK T67 (mkF m 260 #[.val (.int p1), .val (.ref a2), .val (.int p3), .val (.int p4), .val (.int p5), .val (.int p6), .val (.int (atF bs 0 p3 p4 p5 p6)), .val (.int (atF bs 1 p3 p4 p5 p6)), .val (.int (atF bs 2 p3 p4 p5 p6)), .val (.int (atF bs 3 p3 p4 p5 p6)), .val (.int (atF bs 4 p3 p4 p5 p6)), .val (.int (atF bs 5 p3 p4 p5 p6)), .val (.int (atF bs 6 p3 p4 p5 p6)), .val (.int (atF bs 7 p3 p4 p5 p6)), .val (.int (atF bs 8 p3 p4 p5 p6)), .val (.int (atF bs 9 p3 p4 p5 p6)), .val (.int (atF bs 10 p3 p4 p5 p6)), .val (.int (atF bs 11 p3 p4 p5 p6))] [(.ref b64), (.ref b63), (.ref b63)])
        refine Goes.of (fun t => XS.dup X67.here hx rfl (hb hby d2_260) rfl rfl) ?_
        show Goes p e below KK T67 (mkF m 261 #[.val (.int p1), .val (.ref a2), .val (.int p3), .val (.int p4), .val (.int p5), .val (.int p6), .val (.int (atF bs 0 p3 p4 p5 p6)), .val (.int (atF bs 1 p3 p4 p5 p6)), .val (.int (atF bs 2 p3 p4 p5 p6)), .val (.int (atF bs 3 p3 p4 p5 p6)), .val (.int (atF bs 4 p3 p4 p5 p6)), .val (.int (atF bs 5 p3 p4 p5 p6)), .val (.int (atF bs 6 p3 p4 p5 p6)), .val (.int (atF bs 7 p3 p4 p5 p6)), .val (.int (atF bs 8 p3 p4 p5 p6)), .val (.int (atF bs 9 p3 p4 p5 p6)), .val (.int (atF bs 10 p3 p4 p5 p6)), .val (.int (atF bs 11 p3 p4 p5 p6))] [(.ref b64), (.ref b64), (.ref b63), (.ref b63)])
        refine Goes.of (fun t => XS.iconst X67.here hx rfl (hb hby d2_261)) ?_
        show Goes p e below KK T67 (mkF m 262 #[.val (.int p1), .val (.ref a2), .val (.int p3), .val (.int p4), .val (.int p5), .val (.int p6), .val (.int (atF bs 0 p3 p4 p5 p6)), .val (.int (atF bs 1 p3 p4 p5 p6)), .val (.int (atF bs 2 p3 p4 p5 p6)), .val (.int (atF bs 3 p3 p4 p5 p6)), .val (.int (atF bs 4 p3 p4 p5 p6)), .val (.int (atF bs 5 p3 p4 p5 p6)), .val (.int (atF bs 6 p3 p4 p5 p6)), .val (.int (atF bs 7 p3 p4 p5 p6)), .val (.int (atF bs 8 p3 p4 p5 p6)), .val (.int (atF bs 9 p3 p4 p5 p6)), .val (.int (atF bs 10 p3 p4 p5 p6)), .val (.int (atF bs 11 p3 p4 p5 p6))] [(.int (3 : Int32)), (.ref b64), (.ref b64), (.ref b63), (.ref b63)])
        refine Goes.of (fun t => XS.iload X67.here hx rfl (hb hby d2_262) rfl) ?_
        show Goes p e below KK T67 (mkF m 264 #[.val (.int p1), .val (.ref a2), .val (.int p3), .val (.int p4), .val (.int p5), .val (.int p6), .val (.int (atF bs 0 p3 p4 p5 p6)), .val (.int (atF bs 1 p3 p4 p5 p6)), .val (.int (atF bs 2 p3 p4 p5 p6)), .val (.int (atF bs 3 p3 p4 p5 p6)), .val (.int (atF bs 4 p3 p4 p5 p6)), .val (.int (atF bs 5 p3 p4 p5 p6)), .val (.int (atF bs 6 p3 p4 p5 p6)), .val (.int (atF bs 7 p3 p4 p5 p6)), .val (.int (atF bs 8 p3 p4 p5 p6)), .val (.int (atF bs 9 p3 p4 p5 p6)), .val (.int (atF bs 10 p3 p4 p5 p6)), .val (.int (atF bs 11 p3 p4 p5 p6))] [(.int (atF bs 3 p3 p4 p5 p6)), (.int (3 : Int32)), (.ref b64), (.ref b64), (.ref b63), (.ref b63)])
        obtain ⟨T68, h68, X68, e68, W68, V68, st68⟩ := AI.castore X67 hx hZw e67 V_b64_67 (i := 3) (j := (3 : Int32)) (rfl) ((by simp)) (g := (mkF m 264 #[.val (.int p1), .val (.ref a2), .val (.int p3), .val (.int p4), .val (.int p5), .val (.int p6), .val (.int (atF bs 0 p3 p4 p5 p6)), .val (.int (atF bs 1 p3 p4 p5 p6)), .val (.int (atF bs 2 p3 p4 p5 p6)), .val (.int (atF bs 3 p3 p4 p5 p6)), .val (.int (atF bs 4 p3 p4 p5 p6)), .val (.int (atF bs 5 p3 p4 p5 p6)), .val (.int (atF bs 6 p3 p4 p5 p6)), .val (.int (atF bs 7 p3 p4 p5 p6)), .val (.int (atF bs 8 p3 p4 p5 p6)), .val (.int (atF bs 9 p3 p4 p5 p6)), .val (.int (atF bs 10 p3 p4 p5 p6)), .val (.int (atF bs 11 p3 p4 p5 p6))] [(.int (atF bs 3 p3 p4 p5 p6)), (.int (3 : Int32)), (.ref b64), (.ref b64), (.ref b63), (.ref b63)])) rfl rfl (hb hby d2_264)
        refine Goes.of (st68) ?_
        have sf_b63_68 := Safe.wr W68 sf_b64_67 CR67.1 sf_b63_67
        have sf_b64_68 := Safe.wr W68 sf_b64_67 CR67.1 sf_b64_67
        have CR68 := CR67.trans (CHr.wr W68 sf_b64_67 CR67.1)
        have E2_63_64_65_66_67_68 : Exa Z h68 a2 "java/lang/String" := E2_63_64_65_66_67.wr W68
        have C2_63_64_65_66_67_68 : Fld Z h68 a2 "java/lang/String" "coder" "B" (.int (0 : Int32)) := C2_63_64_65_66_67.other W68 (Or.inl ne_a2_b64)
        have W2v_63_64_65_66_67_68 : Fld Z h68 a2 "java/lang/String" "value" "[B" (.ref b2) := W2v_63_64_65_66_67.other W68 (Or.inl ne_a2_b64)
        have V2_63_64_65_66_67_68 : AI Z h68 b2 .byte bs := V2_63_64_65_66_67.other W68 ne_b2_b64
        have Scs_63_64_65_66_67_68 : Sta Z h68 "java/lang/String" "COMPACT_STRINGS" "Z" (.int cz) := Scs_63_64_65_66_67.wr W68
        have Sf_63_64_65_66_67_68 : Sta Z h68 "jdk/internal/util/Preconditions" "SIOOBE_FORMATTER" "Ljava/util/function/BiFunction;" fm := Sf_63_64_65_66_67.wr W68
        have A63_64_65_66_67_68 : Exa Z h68 b63 "java/lang/String" := A63_64_65_66_67.wr W68
        have F_value_b63_64_65_66_67_68 : Fld Z h68 b63 "java/lang/String" "value" "[B" .null := F_value_b63_64_65_66_67.other W68 (Or.inl ne_b63_b64)
        have F_coder_b63_64_65_66_67_68 : Fld Z h68 b63 "java/lang/String" "coder" "B" (.int (0 : Int32)) := F_coder_b63_64_65_66_67.other W68 (Or.inl ne_b63_b64)
        have K68 : Keep h0 h68 [] := K67.wr W68 (Or.inr sz_b64)
        have Z68 : n0 ≤ h68.size := Nat.le_trans Z67 (Keep.of_wr W68).1
        have HK68 := Nat.le_trans HK67 (Keep.of_wr W68).1
        have N68 := Fr.snoc X68 N67 g_b64
        have V_b64_68 : AI Z h68 b64 .char [(nar .char (atF bs 0 p3 p4 p5 p6)), (nar .char (atF bs 1 p3 p4 p5 p6)), (nar .char (atF bs 2 p3 p4 p5 p6)), (nar .char (atF bs 3 p3 p4 p5 p6)), (0 : Int32), (0 : Int32), (0 : Int32), (0 : Int32)] := V68
        show Goes p e below KK T68 (mkF m 265 #[.val (.int p1), .val (.ref a2), .val (.int p3), .val (.int p4), .val (.int p5), .val (.int p6), .val (.int (atF bs 0 p3 p4 p5 p6)), .val (.int (atF bs 1 p3 p4 p5 p6)), .val (.int (atF bs 2 p3 p4 p5 p6)), .val (.int (atF bs 3 p3 p4 p5 p6)), .val (.int (atF bs 4 p3 p4 p5 p6)), .val (.int (atF bs 5 p3 p4 p5 p6)), .val (.int (atF bs 6 p3 p4 p5 p6)), .val (.int (atF bs 7 p3 p4 p5 p6)), .val (.int (atF bs 8 p3 p4 p5 p6)), .val (.int (atF bs 9 p3 p4 p5 p6)), .val (.int (atF bs 10 p3 p4 p5 p6)), .val (.int (atF bs 11 p3 p4 p5 p6))] [(.ref b64), (.ref b63), (.ref b63)])
        refine Goes.of (fun t => XS.dup X68.here hx rfl (hb hby d2_265) rfl rfl) ?_
        show Goes p e below KK T68 (mkF m 266 #[.val (.int p1), .val (.ref a2), .val (.int p3), .val (.int p4), .val (.int p5), .val (.int p6), .val (.int (atF bs 0 p3 p4 p5 p6)), .val (.int (atF bs 1 p3 p4 p5 p6)), .val (.int (atF bs 2 p3 p4 p5 p6)), .val (.int (atF bs 3 p3 p4 p5 p6)), .val (.int (atF bs 4 p3 p4 p5 p6)), .val (.int (atF bs 5 p3 p4 p5 p6)), .val (.int (atF bs 6 p3 p4 p5 p6)), .val (.int (atF bs 7 p3 p4 p5 p6)), .val (.int (atF bs 8 p3 p4 p5 p6)), .val (.int (atF bs 9 p3 p4 p5 p6)), .val (.int (atF bs 10 p3 p4 p5 p6)), .val (.int (atF bs 11 p3 p4 p5 p6))] [(.ref b64), (.ref b64), (.ref b63), (.ref b63)])
        refine Goes.of (fun t => XS.iconst X68.here hx rfl (hb hby d2_266)) ?_
        show Goes p e below KK T68 (mkF m 267 #[.val (.int p1), .val (.ref a2), .val (.int p3), .val (.int p4), .val (.int p5), .val (.int p6), .val (.int (atF bs 0 p3 p4 p5 p6)), .val (.int (atF bs 1 p3 p4 p5 p6)), .val (.int (atF bs 2 p3 p4 p5 p6)), .val (.int (atF bs 3 p3 p4 p5 p6)), .val (.int (atF bs 4 p3 p4 p5 p6)), .val (.int (atF bs 5 p3 p4 p5 p6)), .val (.int (atF bs 6 p3 p4 p5 p6)), .val (.int (atF bs 7 p3 p4 p5 p6)), .val (.int (atF bs 8 p3 p4 p5 p6)), .val (.int (atF bs 9 p3 p4 p5 p6)), .val (.int (atF bs 10 p3 p4 p5 p6)), .val (.int (atF bs 11 p3 p4 p5 p6))] [(.int (4 : Int32)), (.ref b64), (.ref b64), (.ref b63), (.ref b63)])
        refine Goes.of (fun t => XS.iload X68.here hx rfl (hb hby d2_267) rfl) ?_
        show Goes p e below KK T68 (mkF m 269 #[.val (.int p1), .val (.ref a2), .val (.int p3), .val (.int p4), .val (.int p5), .val (.int p6), .val (.int (atF bs 0 p3 p4 p5 p6)), .val (.int (atF bs 1 p3 p4 p5 p6)), .val (.int (atF bs 2 p3 p4 p5 p6)), .val (.int (atF bs 3 p3 p4 p5 p6)), .val (.int (atF bs 4 p3 p4 p5 p6)), .val (.int (atF bs 5 p3 p4 p5 p6)), .val (.int (atF bs 6 p3 p4 p5 p6)), .val (.int (atF bs 7 p3 p4 p5 p6)), .val (.int (atF bs 8 p3 p4 p5 p6)), .val (.int (atF bs 9 p3 p4 p5 p6)), .val (.int (atF bs 10 p3 p4 p5 p6)), .val (.int (atF bs 11 p3 p4 p5 p6))] [(.int (atF bs 4 p3 p4 p5 p6)), (.int (4 : Int32)), (.ref b64), (.ref b64), (.ref b63), (.ref b63)])
        obtain ⟨T69, h69, X69, e69, W69, V69, st69⟩ := AI.castore X68 hx hZw e68 V_b64_68 (i := 4) (j := (4 : Int32)) (rfl) ((by simp)) (g := (mkF m 269 #[.val (.int p1), .val (.ref a2), .val (.int p3), .val (.int p4), .val (.int p5), .val (.int p6), .val (.int (atF bs 0 p3 p4 p5 p6)), .val (.int (atF bs 1 p3 p4 p5 p6)), .val (.int (atF bs 2 p3 p4 p5 p6)), .val (.int (atF bs 3 p3 p4 p5 p6)), .val (.int (atF bs 4 p3 p4 p5 p6)), .val (.int (atF bs 5 p3 p4 p5 p6)), .val (.int (atF bs 6 p3 p4 p5 p6)), .val (.int (atF bs 7 p3 p4 p5 p6)), .val (.int (atF bs 8 p3 p4 p5 p6)), .val (.int (atF bs 9 p3 p4 p5 p6)), .val (.int (atF bs 10 p3 p4 p5 p6)), .val (.int (atF bs 11 p3 p4 p5 p6))] [(.int (atF bs 4 p3 p4 p5 p6)), (.int (4 : Int32)), (.ref b64), (.ref b64), (.ref b63), (.ref b63)])) rfl rfl (hb hby d2_269)
        refine Goes.of (st69) ?_
        have sf_b63_69 := Safe.wr W69 sf_b64_68 CR68.1 sf_b63_68
        have sf_b64_69 := Safe.wr W69 sf_b64_68 CR68.1 sf_b64_68
        have CR69 := CR68.trans (CHr.wr W69 sf_b64_68 CR68.1)
        have E2_63_64_65_66_67_68_69 : Exa Z h69 a2 "java/lang/String" := E2_63_64_65_66_67_68.wr W69
        have C2_63_64_65_66_67_68_69 : Fld Z h69 a2 "java/lang/String" "coder" "B" (.int (0 : Int32)) := C2_63_64_65_66_67_68.other W69 (Or.inl ne_a2_b64)
        have W2v_63_64_65_66_67_68_69 : Fld Z h69 a2 "java/lang/String" "value" "[B" (.ref b2) := W2v_63_64_65_66_67_68.other W69 (Or.inl ne_a2_b64)
        have V2_63_64_65_66_67_68_69 : AI Z h69 b2 .byte bs := V2_63_64_65_66_67_68.other W69 ne_b2_b64
        have Scs_63_64_65_66_67_68_69 : Sta Z h69 "java/lang/String" "COMPACT_STRINGS" "Z" (.int cz) := Scs_63_64_65_66_67_68.wr W69
        have Sf_63_64_65_66_67_68_69 : Sta Z h69 "jdk/internal/util/Preconditions" "SIOOBE_FORMATTER" "Ljava/util/function/BiFunction;" fm := Sf_63_64_65_66_67_68.wr W69
        have A63_64_65_66_67_68_69 : Exa Z h69 b63 "java/lang/String" := A63_64_65_66_67_68.wr W69
        have F_value_b63_64_65_66_67_68_69 : Fld Z h69 b63 "java/lang/String" "value" "[B" .null := F_value_b63_64_65_66_67_68.other W69 (Or.inl ne_b63_b64)
        have F_coder_b63_64_65_66_67_68_69 : Fld Z h69 b63 "java/lang/String" "coder" "B" (.int (0 : Int32)) := F_coder_b63_64_65_66_67_68.other W69 (Or.inl ne_b63_b64)
        have K69 : Keep h0 h69 [] := K68.wr W69 (Or.inr sz_b64)
        have Z69 : n0 ≤ h69.size := Nat.le_trans Z68 (Keep.of_wr W69).1
        have HK69 := Nat.le_trans HK68 (Keep.of_wr W69).1
        have N69 := Fr.snoc X69 N68 g_b64
        have V_b64_69 : AI Z h69 b64 .char [(nar .char (atF bs 0 p3 p4 p5 p6)), (nar .char (atF bs 1 p3 p4 p5 p6)), (nar .char (atF bs 2 p3 p4 p5 p6)), (nar .char (atF bs 3 p3 p4 p5 p6)), (nar .char (atF bs 4 p3 p4 p5 p6)), (0 : Int32), (0 : Int32), (0 : Int32)] := V69
        show Goes p e below KK T69 (mkF m 270 #[.val (.int p1), .val (.ref a2), .val (.int p3), .val (.int p4), .val (.int p5), .val (.int p6), .val (.int (atF bs 0 p3 p4 p5 p6)), .val (.int (atF bs 1 p3 p4 p5 p6)), .val (.int (atF bs 2 p3 p4 p5 p6)), .val (.int (atF bs 3 p3 p4 p5 p6)), .val (.int (atF bs 4 p3 p4 p5 p6)), .val (.int (atF bs 5 p3 p4 p5 p6)), .val (.int (atF bs 6 p3 p4 p5 p6)), .val (.int (atF bs 7 p3 p4 p5 p6)), .val (.int (atF bs 8 p3 p4 p5 p6)), .val (.int (atF bs 9 p3 p4 p5 p6)), .val (.int (atF bs 10 p3 p4 p5 p6)), .val (.int (atF bs 11 p3 p4 p5 p6))] [(.ref b64), (.ref b63), (.ref b63)])
        refine Goes.of (fun t => XS.dup X69.here hx rfl (hb hby d2_270) rfl rfl) ?_
        show Goes p e below KK T69 (mkF m 271 #[.val (.int p1), .val (.ref a2), .val (.int p3), .val (.int p4), .val (.int p5), .val (.int p6), .val (.int (atF bs 0 p3 p4 p5 p6)), .val (.int (atF bs 1 p3 p4 p5 p6)), .val (.int (atF bs 2 p3 p4 p5 p6)), .val (.int (atF bs 3 p3 p4 p5 p6)), .val (.int (atF bs 4 p3 p4 p5 p6)), .val (.int (atF bs 5 p3 p4 p5 p6)), .val (.int (atF bs 6 p3 p4 p5 p6)), .val (.int (atF bs 7 p3 p4 p5 p6)), .val (.int (atF bs 8 p3 p4 p5 p6)), .val (.int (atF bs 9 p3 p4 p5 p6)), .val (.int (atF bs 10 p3 p4 p5 p6)), .val (.int (atF bs 11 p3 p4 p5 p6))] [(.ref b64), (.ref b64), (.ref b63), (.ref b63)])
        refine Goes.of (fun t => XS.iconst X69.here hx rfl (hb hby d2_271)) ?_
        show Goes p e below KK T69 (mkF m 272 #[.val (.int p1), .val (.ref a2), .val (.int p3), .val (.int p4), .val (.int p5), .val (.int p6), .val (.int (atF bs 0 p3 p4 p5 p6)), .val (.int (atF bs 1 p3 p4 p5 p6)), .val (.int (atF bs 2 p3 p4 p5 p6)), .val (.int (atF bs 3 p3 p4 p5 p6)), .val (.int (atF bs 4 p3 p4 p5 p6)), .val (.int (atF bs 5 p3 p4 p5 p6)), .val (.int (atF bs 6 p3 p4 p5 p6)), .val (.int (atF bs 7 p3 p4 p5 p6)), .val (.int (atF bs 8 p3 p4 p5 p6)), .val (.int (atF bs 9 p3 p4 p5 p6)), .val (.int (atF bs 10 p3 p4 p5 p6)), .val (.int (atF bs 11 p3 p4 p5 p6))] [(.int (5 : Int32)), (.ref b64), (.ref b64), (.ref b63), (.ref b63)])
        refine Goes.of (fun t => XS.iload X69.here hx rfl (hb hby d2_272) rfl) ?_
        show Goes p e below KK T69 (mkF m 274 #[.val (.int p1), .val (.ref a2), .val (.int p3), .val (.int p4), .val (.int p5), .val (.int p6), .val (.int (atF bs 0 p3 p4 p5 p6)), .val (.int (atF bs 1 p3 p4 p5 p6)), .val (.int (atF bs 2 p3 p4 p5 p6)), .val (.int (atF bs 3 p3 p4 p5 p6)), .val (.int (atF bs 4 p3 p4 p5 p6)), .val (.int (atF bs 5 p3 p4 p5 p6)), .val (.int (atF bs 6 p3 p4 p5 p6)), .val (.int (atF bs 7 p3 p4 p5 p6)), .val (.int (atF bs 8 p3 p4 p5 p6)), .val (.int (atF bs 9 p3 p4 p5 p6)), .val (.int (atF bs 10 p3 p4 p5 p6)), .val (.int (atF bs 11 p3 p4 p5 p6))] [(.int (atF bs 5 p3 p4 p5 p6)), (.int (5 : Int32)), (.ref b64), (.ref b64), (.ref b63), (.ref b63)])
        obtain ⟨T70, h70, X70, e70, W70, V70, st70⟩ := AI.castore X69 hx hZw e69 V_b64_69 (i := 5) (j := (5 : Int32)) (rfl) ((by simp)) (g := (mkF m 274 #[.val (.int p1), .val (.ref a2), .val (.int p3), .val (.int p4), .val (.int p5), .val (.int p6), .val (.int (atF bs 0 p3 p4 p5 p6)), .val (.int (atF bs 1 p3 p4 p5 p6)), .val (.int (atF bs 2 p3 p4 p5 p6)), .val (.int (atF bs 3 p3 p4 p5 p6)), .val (.int (atF bs 4 p3 p4 p5 p6)), .val (.int (atF bs 5 p3 p4 p5 p6)), .val (.int (atF bs 6 p3 p4 p5 p6)), .val (.int (atF bs 7 p3 p4 p5 p6)), .val (.int (atF bs 8 p3 p4 p5 p6)), .val (.int (atF bs 9 p3 p4 p5 p6)), .val (.int (atF bs 10 p3 p4 p5 p6)), .val (.int (atF bs 11 p3 p4 p5 p6))] [(.int (atF bs 5 p3 p4 p5 p6)), (.int (5 : Int32)), (.ref b64), (.ref b64), (.ref b63), (.ref b63)])) rfl rfl (hb hby d2_274)
        refine Goes.of (st70) ?_
        have sf_b63_70 := Safe.wr W70 sf_b64_69 CR69.1 sf_b63_69
        have sf_b64_70 := Safe.wr W70 sf_b64_69 CR69.1 sf_b64_69
        have CR70 := CR69.trans (CHr.wr W70 sf_b64_69 CR69.1)
        have E2_63_64_65_66_67_68_69_70 : Exa Z h70 a2 "java/lang/String" := E2_63_64_65_66_67_68_69.wr W70
        have C2_63_64_65_66_67_68_69_70 : Fld Z h70 a2 "java/lang/String" "coder" "B" (.int (0 : Int32)) := C2_63_64_65_66_67_68_69.other W70 (Or.inl ne_a2_b64)
        have W2v_63_64_65_66_67_68_69_70 : Fld Z h70 a2 "java/lang/String" "value" "[B" (.ref b2) := W2v_63_64_65_66_67_68_69.other W70 (Or.inl ne_a2_b64)
        have V2_63_64_65_66_67_68_69_70 : AI Z h70 b2 .byte bs := V2_63_64_65_66_67_68_69.other W70 ne_b2_b64
        have Scs_63_64_65_66_67_68_69_70 : Sta Z h70 "java/lang/String" "COMPACT_STRINGS" "Z" (.int cz) := Scs_63_64_65_66_67_68_69.wr W70
        have Sf_63_64_65_66_67_68_69_70 : Sta Z h70 "jdk/internal/util/Preconditions" "SIOOBE_FORMATTER" "Ljava/util/function/BiFunction;" fm := Sf_63_64_65_66_67_68_69.wr W70
        have A63_64_65_66_67_68_69_70 : Exa Z h70 b63 "java/lang/String" := A63_64_65_66_67_68_69.wr W70
        have F_value_b63_64_65_66_67_68_69_70 : Fld Z h70 b63 "java/lang/String" "value" "[B" .null := F_value_b63_64_65_66_67_68_69.other W70 (Or.inl ne_b63_b64)
        have F_coder_b63_64_65_66_67_68_69_70 : Fld Z h70 b63 "java/lang/String" "coder" "B" (.int (0 : Int32)) := F_coder_b63_64_65_66_67_68_69.other W70 (Or.inl ne_b63_b64)
        have K70 : Keep h0 h70 [] := K69.wr W70 (Or.inr sz_b64)
        have Z70 : n0 ≤ h70.size := Nat.le_trans Z69 (Keep.of_wr W70).1
        have HK70 := Nat.le_trans HK69 (Keep.of_wr W70).1
        have N70 := Fr.snoc X70 N69 g_b64
        have V_b64_70 : AI Z h70 b64 .char [(nar .char (atF bs 0 p3 p4 p5 p6)), (nar .char (atF bs 1 p3 p4 p5 p6)), (nar .char (atF bs 2 p3 p4 p5 p6)), (nar .char (atF bs 3 p3 p4 p5 p6)), (nar .char (atF bs 4 p3 p4 p5 p6)), (nar .char (atF bs 5 p3 p4 p5 p6)), (0 : Int32), (0 : Int32)] := V70
        show Goes p e below KK T70 (mkF m 275 #[.val (.int p1), .val (.ref a2), .val (.int p3), .val (.int p4), .val (.int p5), .val (.int p6), .val (.int (atF bs 0 p3 p4 p5 p6)), .val (.int (atF bs 1 p3 p4 p5 p6)), .val (.int (atF bs 2 p3 p4 p5 p6)), .val (.int (atF bs 3 p3 p4 p5 p6)), .val (.int (atF bs 4 p3 p4 p5 p6)), .val (.int (atF bs 5 p3 p4 p5 p6)), .val (.int (atF bs 6 p3 p4 p5 p6)), .val (.int (atF bs 7 p3 p4 p5 p6)), .val (.int (atF bs 8 p3 p4 p5 p6)), .val (.int (atF bs 9 p3 p4 p5 p6)), .val (.int (atF bs 10 p3 p4 p5 p6)), .val (.int (atF bs 11 p3 p4 p5 p6))] [(.ref b64), (.ref b63), (.ref b63)])
        refine Goes.of (fun t => XS.dup X70.here hx rfl (hb hby d2_275) rfl rfl) ?_
        show Goes p e below KK T70 (mkF m 276 #[.val (.int p1), .val (.ref a2), .val (.int p3), .val (.int p4), .val (.int p5), .val (.int p6), .val (.int (atF bs 0 p3 p4 p5 p6)), .val (.int (atF bs 1 p3 p4 p5 p6)), .val (.int (atF bs 2 p3 p4 p5 p6)), .val (.int (atF bs 3 p3 p4 p5 p6)), .val (.int (atF bs 4 p3 p4 p5 p6)), .val (.int (atF bs 5 p3 p4 p5 p6)), .val (.int (atF bs 6 p3 p4 p5 p6)), .val (.int (atF bs 7 p3 p4 p5 p6)), .val (.int (atF bs 8 p3 p4 p5 p6)), .val (.int (atF bs 9 p3 p4 p5 p6)), .val (.int (atF bs 10 p3 p4 p5 p6)), .val (.int (atF bs 11 p3 p4 p5 p6))] [(.ref b64), (.ref b64), (.ref b63), (.ref b63)])
        refine Goes.of (fun t => XS.bipush X70.here hx rfl (hb hby d2_276)) ?_
        show Goes p e below KK T70 (mkF m 278 #[.val (.int p1), .val (.ref a2), .val (.int p3), .val (.int p4), .val (.int p5), .val (.int p6), .val (.int (atF bs 0 p3 p4 p5 p6)), .val (.int (atF bs 1 p3 p4 p5 p6)), .val (.int (atF bs 2 p3 p4 p5 p6)), .val (.int (atF bs 3 p3 p4 p5 p6)), .val (.int (atF bs 4 p3 p4 p5 p6)), .val (.int (atF bs 5 p3 p4 p5 p6)), .val (.int (atF bs 6 p3 p4 p5 p6)), .val (.int (atF bs 7 p3 p4 p5 p6)), .val (.int (atF bs 8 p3 p4 p5 p6)), .val (.int (atF bs 9 p3 p4 p5 p6)), .val (.int (atF bs 10 p3 p4 p5 p6)), .val (.int (atF bs 11 p3 p4 p5 p6))] [(.int (6 : Int32)), (.ref b64), (.ref b64), (.ref b63), (.ref b63)])
        refine Goes.of (fun t => XS.iload X70.here hx rfl (hb hby d2_278) rfl) ?_
        show Goes p e below KK T70 (mkF m 280 #[.val (.int p1), .val (.ref a2), .val (.int p3), .val (.int p4), .val (.int p5), .val (.int p6), .val (.int (atF bs 0 p3 p4 p5 p6)), .val (.int (atF bs 1 p3 p4 p5 p6)), .val (.int (atF bs 2 p3 p4 p5 p6)), .val (.int (atF bs 3 p3 p4 p5 p6)), .val (.int (atF bs 4 p3 p4 p5 p6)), .val (.int (atF bs 5 p3 p4 p5 p6)), .val (.int (atF bs 6 p3 p4 p5 p6)), .val (.int (atF bs 7 p3 p4 p5 p6)), .val (.int (atF bs 8 p3 p4 p5 p6)), .val (.int (atF bs 9 p3 p4 p5 p6)), .val (.int (atF bs 10 p3 p4 p5 p6)), .val (.int (atF bs 11 p3 p4 p5 p6))] [(.int (atF bs 6 p3 p4 p5 p6)), (.int (6 : Int32)), (.ref b64), (.ref b64), (.ref b63), (.ref b63)])
        obtain ⟨T71, h71, X71, e71, W71, V71, st71⟩ := AI.castore X70 hx hZw e70 V_b64_70 (i := 6) (j := (6 : Int32)) (rfl) ((by simp)) (g := (mkF m 280 #[.val (.int p1), .val (.ref a2), .val (.int p3), .val (.int p4), .val (.int p5), .val (.int p6), .val (.int (atF bs 0 p3 p4 p5 p6)), .val (.int (atF bs 1 p3 p4 p5 p6)), .val (.int (atF bs 2 p3 p4 p5 p6)), .val (.int (atF bs 3 p3 p4 p5 p6)), .val (.int (atF bs 4 p3 p4 p5 p6)), .val (.int (atF bs 5 p3 p4 p5 p6)), .val (.int (atF bs 6 p3 p4 p5 p6)), .val (.int (atF bs 7 p3 p4 p5 p6)), .val (.int (atF bs 8 p3 p4 p5 p6)), .val (.int (atF bs 9 p3 p4 p5 p6)), .val (.int (atF bs 10 p3 p4 p5 p6)), .val (.int (atF bs 11 p3 p4 p5 p6))] [(.int (atF bs 6 p3 p4 p5 p6)), (.int (6 : Int32)), (.ref b64), (.ref b64), (.ref b63), (.ref b63)])) rfl rfl (hb hby d2_280)
        refine Goes.of (st71) ?_
        have sf_b63_71 := Safe.wr W71 sf_b64_70 CR70.1 sf_b63_70
        have sf_b64_71 := Safe.wr W71 sf_b64_70 CR70.1 sf_b64_70
        have CR71 := CR70.trans (CHr.wr W71 sf_b64_70 CR70.1)
        have E2_63_64_65_66_67_68_69_70_71 : Exa Z h71 a2 "java/lang/String" := E2_63_64_65_66_67_68_69_70.wr W71
        have C2_63_64_65_66_67_68_69_70_71 : Fld Z h71 a2 "java/lang/String" "coder" "B" (.int (0 : Int32)) := C2_63_64_65_66_67_68_69_70.other W71 (Or.inl ne_a2_b64)
        have W2v_63_64_65_66_67_68_69_70_71 : Fld Z h71 a2 "java/lang/String" "value" "[B" (.ref b2) := W2v_63_64_65_66_67_68_69_70.other W71 (Or.inl ne_a2_b64)
        have V2_63_64_65_66_67_68_69_70_71 : AI Z h71 b2 .byte bs := V2_63_64_65_66_67_68_69_70.other W71 ne_b2_b64
        have Scs_63_64_65_66_67_68_69_70_71 : Sta Z h71 "java/lang/String" "COMPACT_STRINGS" "Z" (.int cz) := Scs_63_64_65_66_67_68_69_70.wr W71
        have Sf_63_64_65_66_67_68_69_70_71 : Sta Z h71 "jdk/internal/util/Preconditions" "SIOOBE_FORMATTER" "Ljava/util/function/BiFunction;" fm := Sf_63_64_65_66_67_68_69_70.wr W71
        have A63_64_65_66_67_68_69_70_71 : Exa Z h71 b63 "java/lang/String" := A63_64_65_66_67_68_69_70.wr W71
        have F_value_b63_64_65_66_67_68_69_70_71 : Fld Z h71 b63 "java/lang/String" "value" "[B" .null := F_value_b63_64_65_66_67_68_69_70.other W71 (Or.inl ne_b63_b64)
        have F_coder_b63_64_65_66_67_68_69_70_71 : Fld Z h71 b63 "java/lang/String" "coder" "B" (.int (0 : Int32)) := F_coder_b63_64_65_66_67_68_69_70.other W71 (Or.inl ne_b63_b64)
        have K71 : Keep h0 h71 [] := K70.wr W71 (Or.inr sz_b64)
        have Z71 : n0 ≤ h71.size := Nat.le_trans Z70 (Keep.of_wr W71).1
        have HK71 := Nat.le_trans HK70 (Keep.of_wr W71).1
        have N71 := Fr.snoc X71 N70 g_b64
        have V_b64_71 : AI Z h71 b64 .char [(nar .char (atF bs 0 p3 p4 p5 p6)), (nar .char (atF bs 1 p3 p4 p5 p6)), (nar .char (atF bs 2 p3 p4 p5 p6)), (nar .char (atF bs 3 p3 p4 p5 p6)), (nar .char (atF bs 4 p3 p4 p5 p6)), (nar .char (atF bs 5 p3 p4 p5 p6)), (nar .char (atF bs 6 p3 p4 p5 p6)), (0 : Int32)] := V71
        show Goes p e below KK T71 (mkF m 281 #[.val (.int p1), .val (.ref a2), .val (.int p3), .val (.int p4), .val (.int p5), .val (.int p6), .val (.int (atF bs 0 p3 p4 p5 p6)), .val (.int (atF bs 1 p3 p4 p5 p6)), .val (.int (atF bs 2 p3 p4 p5 p6)), .val (.int (atF bs 3 p3 p4 p5 p6)), .val (.int (atF bs 4 p3 p4 p5 p6)), .val (.int (atF bs 5 p3 p4 p5 p6)), .val (.int (atF bs 6 p3 p4 p5 p6)), .val (.int (atF bs 7 p3 p4 p5 p6)), .val (.int (atF bs 8 p3 p4 p5 p6)), .val (.int (atF bs 9 p3 p4 p5 p6)), .val (.int (atF bs 10 p3 p4 p5 p6)), .val (.int (atF bs 11 p3 p4 p5 p6))] [(.ref b64), (.ref b63), (.ref b63)])
        refine Goes.of (fun t => XS.dup X71.here hx rfl (hb hby d2_281) rfl rfl) ?_
        show Goes p e below KK T71 (mkF m 282 #[.val (.int p1), .val (.ref a2), .val (.int p3), .val (.int p4), .val (.int p5), .val (.int p6), .val (.int (atF bs 0 p3 p4 p5 p6)), .val (.int (atF bs 1 p3 p4 p5 p6)), .val (.int (atF bs 2 p3 p4 p5 p6)), .val (.int (atF bs 3 p3 p4 p5 p6)), .val (.int (atF bs 4 p3 p4 p5 p6)), .val (.int (atF bs 5 p3 p4 p5 p6)), .val (.int (atF bs 6 p3 p4 p5 p6)), .val (.int (atF bs 7 p3 p4 p5 p6)), .val (.int (atF bs 8 p3 p4 p5 p6)), .val (.int (atF bs 9 p3 p4 p5 p6)), .val (.int (atF bs 10 p3 p4 p5 p6)), .val (.int (atF bs 11 p3 p4 p5 p6))] [(.ref b64), (.ref b64), (.ref b63), (.ref b63)])
        refine Goes.of (fun t => XS.bipush X71.here hx rfl (hb hby d2_282)) ?_
        show Goes p e below KK T71 (mkF m 284 #[.val (.int p1), .val (.ref a2), .val (.int p3), .val (.int p4), .val (.int p5), .val (.int p6), .val (.int (atF bs 0 p3 p4 p5 p6)), .val (.int (atF bs 1 p3 p4 p5 p6)), .val (.int (atF bs 2 p3 p4 p5 p6)), .val (.int (atF bs 3 p3 p4 p5 p6)), .val (.int (atF bs 4 p3 p4 p5 p6)), .val (.int (atF bs 5 p3 p4 p5 p6)), .val (.int (atF bs 6 p3 p4 p5 p6)), .val (.int (atF bs 7 p3 p4 p5 p6)), .val (.int (atF bs 8 p3 p4 p5 p6)), .val (.int (atF bs 9 p3 p4 p5 p6)), .val (.int (atF bs 10 p3 p4 p5 p6)), .val (.int (atF bs 11 p3 p4 p5 p6))] [(.int (7 : Int32)), (.ref b64), (.ref b64), (.ref b63), (.ref b63)])
        refine Goes.of (fun t => XS.iload X71.here hx rfl (hb hby d2_284) rfl) ?_
        show Goes p e below KK T71 (mkF m 286 #[.val (.int p1), .val (.ref a2), .val (.int p3), .val (.int p4), .val (.int p5), .val (.int p6), .val (.int (atF bs 0 p3 p4 p5 p6)), .val (.int (atF bs 1 p3 p4 p5 p6)), .val (.int (atF bs 2 p3 p4 p5 p6)), .val (.int (atF bs 3 p3 p4 p5 p6)), .val (.int (atF bs 4 p3 p4 p5 p6)), .val (.int (atF bs 5 p3 p4 p5 p6)), .val (.int (atF bs 6 p3 p4 p5 p6)), .val (.int (atF bs 7 p3 p4 p5 p6)), .val (.int (atF bs 8 p3 p4 p5 p6)), .val (.int (atF bs 9 p3 p4 p5 p6)), .val (.int (atF bs 10 p3 p4 p5 p6)), .val (.int (atF bs 11 p3 p4 p5 p6))] [(.int (atF bs 7 p3 p4 p5 p6)), (.int (7 : Int32)), (.ref b64), (.ref b64), (.ref b63), (.ref b63)])
        obtain ⟨T72, h72, X72, e72, W72, V72, st72⟩ := AI.castore X71 hx hZw e71 V_b64_71 (i := 7) (j := (7 : Int32)) (rfl) ((by simp)) (g := (mkF m 286 #[.val (.int p1), .val (.ref a2), .val (.int p3), .val (.int p4), .val (.int p5), .val (.int p6), .val (.int (atF bs 0 p3 p4 p5 p6)), .val (.int (atF bs 1 p3 p4 p5 p6)), .val (.int (atF bs 2 p3 p4 p5 p6)), .val (.int (atF bs 3 p3 p4 p5 p6)), .val (.int (atF bs 4 p3 p4 p5 p6)), .val (.int (atF bs 5 p3 p4 p5 p6)), .val (.int (atF bs 6 p3 p4 p5 p6)), .val (.int (atF bs 7 p3 p4 p5 p6)), .val (.int (atF bs 8 p3 p4 p5 p6)), .val (.int (atF bs 9 p3 p4 p5 p6)), .val (.int (atF bs 10 p3 p4 p5 p6)), .val (.int (atF bs 11 p3 p4 p5 p6))] [(.int (atF bs 7 p3 p4 p5 p6)), (.int (7 : Int32)), (.ref b64), (.ref b64), (.ref b63), (.ref b63)])) rfl rfl (hb hby d2_286)
        refine Goes.of (st72) ?_
        have sf_b63_72 := Safe.wr W72 sf_b64_71 CR71.1 sf_b63_71
        have sf_b64_72 := Safe.wr W72 sf_b64_71 CR71.1 sf_b64_71
        have CR72 := CR71.trans (CHr.wr W72 sf_b64_71 CR71.1)
        have E2_63_64_65_66_67_68_69_70_71_72 : Exa Z h72 a2 "java/lang/String" := E2_63_64_65_66_67_68_69_70_71.wr W72
        have C2_63_64_65_66_67_68_69_70_71_72 : Fld Z h72 a2 "java/lang/String" "coder" "B" (.int (0 : Int32)) := C2_63_64_65_66_67_68_69_70_71.other W72 (Or.inl ne_a2_b64)
        have W2v_63_64_65_66_67_68_69_70_71_72 : Fld Z h72 a2 "java/lang/String" "value" "[B" (.ref b2) := W2v_63_64_65_66_67_68_69_70_71.other W72 (Or.inl ne_a2_b64)
        have V2_63_64_65_66_67_68_69_70_71_72 : AI Z h72 b2 .byte bs := V2_63_64_65_66_67_68_69_70_71.other W72 ne_b2_b64
        have Scs_63_64_65_66_67_68_69_70_71_72 : Sta Z h72 "java/lang/String" "COMPACT_STRINGS" "Z" (.int cz) := Scs_63_64_65_66_67_68_69_70_71.wr W72
        have Sf_63_64_65_66_67_68_69_70_71_72 : Sta Z h72 "jdk/internal/util/Preconditions" "SIOOBE_FORMATTER" "Ljava/util/function/BiFunction;" fm := Sf_63_64_65_66_67_68_69_70_71.wr W72
        have A63_64_65_66_67_68_69_70_71_72 : Exa Z h72 b63 "java/lang/String" := A63_64_65_66_67_68_69_70_71.wr W72
        have F_value_b63_64_65_66_67_68_69_70_71_72 : Fld Z h72 b63 "java/lang/String" "value" "[B" .null := F_value_b63_64_65_66_67_68_69_70_71.other W72 (Or.inl ne_b63_b64)
        have F_coder_b63_64_65_66_67_68_69_70_71_72 : Fld Z h72 b63 "java/lang/String" "coder" "B" (.int (0 : Int32)) := F_coder_b63_64_65_66_67_68_69_70_71.other W72 (Or.inl ne_b63_b64)
        have K72 : Keep h0 h72 [] := K71.wr W72 (Or.inr sz_b64)
        have Z72 : n0 ≤ h72.size := Nat.le_trans Z71 (Keep.of_wr W72).1
        have HK72 := Nat.le_trans HK71 (Keep.of_wr W72).1
        have N72 := Fr.snoc X72 N71 g_b64
        have V_b64_72 : AI Z h72 b64 .char [(nar .char (atF bs 0 p3 p4 p5 p6)), (nar .char (atF bs 1 p3 p4 p5 p6)), (nar .char (atF bs 2 p3 p4 p5 p6)), (nar .char (atF bs 3 p3 p4 p5 p6)), (nar .char (atF bs 4 p3 p4 p5 p6)), (nar .char (atF bs 5 p3 p4 p5 p6)), (nar .char (atF bs 6 p3 p4 p5 p6)), (nar .char (atF bs 7 p3 p4 p5 p6))] := V72
        show Goes p e below KK T72 (mkF m 287 #[.val (.int p1), .val (.ref a2), .val (.int p3), .val (.int p4), .val (.int p5), .val (.int p6), .val (.int (atF bs 0 p3 p4 p5 p6)), .val (.int (atF bs 1 p3 p4 p5 p6)), .val (.int (atF bs 2 p3 p4 p5 p6)), .val (.int (atF bs 3 p3 p4 p5 p6)), .val (.int (atF bs 4 p3 p4 p5 p6)), .val (.int (atF bs 5 p3 p4 p5 p6)), .val (.int (atF bs 6 p3 p4 p5 p6)), .val (.int (atF bs 7 p3 p4 p5 p6)), .val (.int (atF bs 8 p3 p4 p5 p6)), .val (.int (atF bs 9 p3 p4 p5 p6)), .val (.int (atF bs 10 p3 p4 p5 p6)), .val (.int (atF bs 11 p3 p4 p5 p6))] [(.ref b64), (.ref b63), (.ref b63)])
        obtain ⟨_, _, ⟨T73, L73, k73, n73⟩, -, X73, ⟨Lc73, hQ73, l73, y73, z73⟩, st73⟩ := X72.specialBack hx (y := (⟨"java/lang/String", "<init>", "([C)V"⟩ : MethodName)) rfl hownw (mvT hZw w_56) (mvT hZw w_57) (mvT hZw w_58) (by decide) (backOf (W := 1) (rm11N l Z a0 hw [] b63 b64 [(nar .char (atF bs 0 p3 p4 p5 p6)), (nar .char (atF bs 1 p3 p4 p5 p6)), (nar .char (atF bs 2 p3 p4 p5 p6)), (nar .char (atF bs 3 p3 p4 p5 p6)), (nar .char (atF bs 4 p3 p4 p5 p6)), (nar .char (atF bs 5 p3 p4 p5 p6)), (nar .char (atF bs 6 p3 p4 p5 p6)), (nar .char (atF bs 7 p3 p4 p5 p6))] 8 cz h72 n0 Z72 A63_64_65_66_67_68_69_70_71_72 F_coder_b63_64_65_66_67_68_69_70_71_72 F_value_b63_64_65_66_67_68_69_70_71_72 g_b63 V_b64_72 rfl (by simp) (by simp) (own_cs hbs hd hf 8) Scs_63_64_65_66_67_68_69_70_71_72 hcz) hZw w_58 w_1 (by decide) (by decide)) (g := (mkF m 287 #[.val (.int p1), .val (.ref a2), .val (.int p3), .val (.int p4), .val (.int p5), .val (.int p6), .val (.int (atF bs 0 p3 p4 p5 p6)), .val (.int (atF bs 1 p3 p4 p5 p6)), .val (.int (atF bs 2 p3 p4 p5 p6)), .val (.int (atF bs 3 p3 p4 p5 p6)), .val (.int (atF bs 4 p3 p4 p5 p6)), .val (.int (atF bs 5 p3 p4 p5 p6)), .val (.int (atF bs 6 p3 p4 p5 p6)), .val (.int (atF bs 7 p3 p4 p5 p6)), .val (.int (atF bs 8 p3 p4 p5 p6)), .val (.int (atF bs 9 p3 p4 p5 p6)), .val (.int (atF bs 10 p3 p4 p5 p6)), .val (.int (atF bs 11 p3 p4 p5 p6))] [(.ref b64), (.ref b63), (.ref b63)])) rfl (by rw [hml]; rfl) (Steps.refl _) (a := b63) (argsL := [(.ref b64)]) (rest := [(.ref b63)]) (lenOf pd_27 rfl) rfl (by show 2 * 0 + _ ≤ _; exact Nat.le_of_eq rfl) (hb hby d2_287) (fun _ _ => ⟨rfl, e72, (by decide : 2 + 1 ≤ _), (by decide : 12 + 12 ≤ _)⟩)
        dsimp only [Pt.U, Pt.locs, Pt.cells, Pt.slots] at X73 l73 y73 z73 st73 hQ73
        subst y73 z73
        obtain ⟨r73, rfl, N73q, Kc73, hb73, E73, Fc73, Fv73, V73⟩ := hQ73
        have N73 : Fr n0 L73 := by rw [l73]; exact Fr.app N72 N73q
        have ne_a2_r73 : a2 ≠ r73 := Nat.ne_of_lt (Nat.lt_of_lt_of_le E2_63_64_65_66_67_68_69_70_71_72.lt hb73)
        have ne_b2_r73 : b2 ≠ r73 := Nat.ne_of_lt (Nat.lt_of_lt_of_le V2_63_64_65_66_67_68_69_70_71_72.lt hb73)
        have ne_b63_r73 : b63 ≠ r73 := Nat.ne_of_lt (Nat.lt_of_lt_of_le A63_64_65_66_67_68_69_70_71_72.lt hb73)
        have ne_b64_r73 : b64 ≠ r73 := Nat.ne_of_lt (Nat.lt_of_lt_of_le V_b64_72.lt hb73)
        have g_r73 : n0 ≤ r73 := Nat.le_trans Z72 hb73
        have sz_r73 : h0.size ≤ r73 := Nat.le_trans K72.1 hb73
        have sf_b63_73 := Safe.keep Kc73 (sfS sf_b63_72 sf0) CR72.1 sf_b63_72
        have sf_b64_73 := Safe.keep Kc73 (sfS sf_b63_72 sf0) CR72.1 sf_b64_72
        have CR73 := CR72.trans (CHr.keep Kc73 (sfS sf_b63_72 sf0) CR72.1)
        have E2_63_64_65_66_67_68_69_70_71_72_73 : Exa Z T73.heap a2 "java/lang/String" := E2_63_64_65_66_67_68_69_70_71_72.keep Kc73
        have C2_63_64_65_66_67_68_69_70_71_72_73 : Fld Z T73.heap a2 "java/lang/String" "coder" "B" (.int (0 : Int32)) := C2_63_64_65_66_67_68_69_70_71_72.keep Kc73 (ninS ne_a2_b63 nin0)
        have W2v_63_64_65_66_67_68_69_70_71_72_73 : Fld Z T73.heap a2 "java/lang/String" "value" "[B" (.ref b2) := W2v_63_64_65_66_67_68_69_70_71_72.keep Kc73 (ninS ne_a2_b63 nin0)
        have V2_63_64_65_66_67_68_69_70_71_72_73 : AI Z T73.heap b2 .byte bs := V2_63_64_65_66_67_68_69_70_71_72.keep Kc73 (ninS ne_b2_b63 nin0)
        have A63_64_65_66_67_68_69_70_71_72_73 : Exa Z T73.heap b63 "java/lang/String" := A63_64_65_66_67_68_69_70_71_72.keep Kc73
        have K73 : Keep h0 T73.heap [] := K72.trans Kc73 (allS (Or.inr sz_b63) all0)
        have Z73 : n0 ≤ T73.heap.size := Nat.le_trans Z72 Kc73.1
        have HK73 := Nat.le_trans HK72 Kc73.1
        have e73 : T73.heap = T73.heap := rfl
        refine Goes.tr st73 ?_
        show Goes p e below KK T73 (mkF m 290 #[.val (.int p1), .val (.ref a2), .val (.int p3), .val (.int p4), .val (.int p5), .val (.int p6), .val (.int (atF bs 0 p3 p4 p5 p6)), .val (.int (atF bs 1 p3 p4 p5 p6)), .val (.int (atF bs 2 p3 p4 p5 p6)), .val (.int (atF bs 3 p3 p4 p5 p6)), .val (.int (atF bs 4 p3 p4 p5 p6)), .val (.int (atF bs 5 p3 p4 p5 p6)), .val (.int (atF bs 6 p3 p4 p5 p6)), .val (.int (atF bs 7 p3 p4 p5 p6)), .val (.int (atF bs 8 p3 p4 p5 p6)), .val (.int (atF bs 9 p3 p4 p5 p6)), .val (.int (atF bs 10 p3 p4 p5 p6)), .val (.int (atF bs 11 p3 p4 p5 p6))] [(.ref b63)])
        have hkk' : kk = 8 := by
          have z0 : (0 : Int32).toInt = 0 := rfl
          have z7 : (7 : Int32).toInt = 7 := rfl
          have z8 : (8 : Int32).toInt = 8 := rfl
          have z9 : (9 : Int32).toInt = 9 := rfl
          have z10 : (10 : Int32).toInt = 10 := rfl
          have z11 : (11 : Int32).toInt = 11 := rfl
          have z12 : (12 : Int32).toInt = 12 := rfl
          have qhc163 : ¬ p1.toInt = (0 : Int32).toInt := fun q => hc163 (Int32.toInt_inj.mp q)
          have qhc180 : ¬ p1.toInt = (7 : Int32).toInt := fun q => hc180 (Int32.toInt_inj.mp q)
          have qhc234 := congrArg Int32.toInt hc234
          omega
        subst hkk'
        rw [← hKK]
        refine Goes.retRefH X73 HS0 (by rw [e73]; exact HK73) (by rw [e73, hh]; exact CR73.trans (CHv.at X73 hZw hEL CR73.1)) hx hlk rfl rfl Bd.returns (hb hby d2_290) ?_ (by decide) (by decide)
        rw [e73]
        exact ⟨b63, r73, rfl, N73, K73, E73, Fc73, Fv73, V73⟩
      · refine Goes.of (fun t => XS.icmpYes X49.here hx rfl (pc0 := 234) (pc' := 291) rfl (hb hby d2_234) rfl (feq hc234).2 (by decide) (by decide)) ?_
        show Goes p e below KK T49 (mkF m 291 #[.val (.int p1), .val (.ref a2), .val (.int p3), .val (.int p4), .val (.int p5), .val (.int p6), .val (.int (atF bs 0 p3 p4 p5 p6)), .val (.int (atF bs 1 p3 p4 p5 p6)), .val (.int (atF bs 2 p3 p4 p5 p6)), .val (.int (atF bs 3 p3 p4 p5 p6)), .val (.int (atF bs 4 p3 p4 p5 p6)), .val (.int (atF bs 5 p3 p4 p5 p6)), .val (.int (atF bs 6 p3 p4 p5 p6)), .val (.int (atF bs 7 p3 p4 p5 p6)), .val (.int (atF bs 8 p3 p4 p5 p6)), .val (.int (atF bs 9 p3 p4 p5 p6)), .val (.int (atF bs 10 p3 p4 p5 p6)), .val (.int (atF bs 11 p3 p4 p5 p6))] [])
        refine Goes.of (fun t => XS.iloadN X49.here hx rfl (hb hby d2_291) rfl) ?_
        show Goes p e below KK T49 (mkF m 292 #[.val (.int p1), .val (.ref a2), .val (.int p3), .val (.int p4), .val (.int p5), .val (.int p6), .val (.int (atF bs 0 p3 p4 p5 p6)), .val (.int (atF bs 1 p3 p4 p5 p6)), .val (.int (atF bs 2 p3 p4 p5 p6)), .val (.int (atF bs 3 p3 p4 p5 p6)), .val (.int (atF bs 4 p3 p4 p5 p6)), .val (.int (atF bs 5 p3 p4 p5 p6)), .val (.int (atF bs 6 p3 p4 p5 p6)), .val (.int (atF bs 7 p3 p4 p5 p6)), .val (.int (atF bs 8 p3 p4 p5 p6)), .val (.int (atF bs 9 p3 p4 p5 p6)), .val (.int (atF bs 10 p3 p4 p5 p6)), .val (.int (atF bs 11 p3 p4 p5 p6))] [(.int p1)])
        refine Goes.of (fun t => XS.bipush X49.here hx rfl (hb hby d2_292)) ?_
        show Goes p e below KK T49 (mkF m 294 #[.val (.int p1), .val (.ref a2), .val (.int p3), .val (.int p4), .val (.int p5), .val (.int p6), .val (.int (atF bs 0 p3 p4 p5 p6)), .val (.int (atF bs 1 p3 p4 p5 p6)), .val (.int (atF bs 2 p3 p4 p5 p6)), .val (.int (atF bs 3 p3 p4 p5 p6)), .val (.int (atF bs 4 p3 p4 p5 p6)), .val (.int (atF bs 5 p3 p4 p5 p6)), .val (.int (atF bs 6 p3 p4 p5 p6)), .val (.int (atF bs 7 p3 p4 p5 p6)), .val (.int (atF bs 8 p3 p4 p5 p6)), .val (.int (atF bs 9 p3 p4 p5 p6)), .val (.int (atF bs 10 p3 p4 p5 p6)), .val (.int (atF bs 11 p3 p4 p5 p6))] [(.int (9 : Int32)), (.int p1)])
        by_cases hc294 : p1 = (9 : Int32)
        · refine Goes.of (fun t => XS.icmpNo X49.here hx rfl (hb hby d2_294) rfl (teq hc294).2) ?_
          show Goes p e below KK T49 (mkF m 297 #[.val (.int p1), .val (.ref a2), .val (.int p3), .val (.int p4), .val (.int p5), .val (.int p6), .val (.int (atF bs 0 p3 p4 p5 p6)), .val (.int (atF bs 1 p3 p4 p5 p6)), .val (.int (atF bs 2 p3 p4 p5 p6)), .val (.int (atF bs 3 p3 p4 p5 p6)), .val (.int (atF bs 4 p3 p4 p5 p6)), .val (.int (atF bs 5 p3 p4 p5 p6)), .val (.int (atF bs 6 p3 p4 p5 p6)), .val (.int (atF bs 7 p3 p4 p5 p6)), .val (.int (atF bs 8 p3 p4 p5 p6)), .val (.int (atF bs 9 p3 p4 p5 p6)), .val (.int (atF bs 10 p3 p4 p5 p6)), .val (.int (atF bs 11 p3 p4 p5 p6))] [])
          obtain ⟨T74, h74, X74, e74, E74, A74, D74, -, st74⟩ := newO X49 hx hZw hownw w_54 w_2 w_1 e49 (g := (mkF m 297 #[.val (.int p1), .val (.ref a2), .val (.int p3), .val (.int p4), .val (.int p5), .val (.int p6), .val (.int (atF bs 0 p3 p4 p5 p6)), .val (.int (atF bs 1 p3 p4 p5 p6)), .val (.int (atF bs 2 p3 p4 p5 p6)), .val (.int (atF bs 3 p3 p4 p5 p6)), .val (.int (atF bs 4 p3 p4 p5 p6)), .val (.int (atF bs 5 p3 p4 p5 p6)), .val (.int (atF bs 6 p3 p4 p5 p6)), .val (.int (atF bs 7 p3 p4 p5 p6)), .val (.int (atF bs 8 p3 p4 p5 p6)), .val (.int (atF bs 9 p3 p4 p5 p6)), .val (.int (atF bs 10 p3 p4 p5 p6)), .val (.int (atF bs 11 p3 p4 p5 p6))] [])) rfl (hb hby d2_297) (by decide) (by decide)
          obtain ⟨b74, g74⟩ : ∃ z, z = h0.size := ⟨_, rfl⟩
          rw [← g74] at A74 D74 st74
          refine Goes.of (st74) ?_
          have ne_a2_b74 : a2 ≠ b74 := Nat.ne_of_lt (Nat.lt_of_lt_of_le E2.lt (Nat.le_of_eq g74.symm))
          have ne_b2_b74 : b2 ≠ b74 := Nat.ne_of_lt (Nat.lt_of_lt_of_le V2.lt (Nat.le_of_eq g74.symm))
          have g_b74 : n0 ≤ b74 := Nat.le_trans Z0 (Nat.le_of_eq g74.symm)
          have sz_b74 : h0.size ≤ b74 := Nat.le_trans (Keep.refl h0 []).1 (Nat.le_of_eq g74.symm)
          have sf_b74 : Safe Z EL0 s.vm h0 b74 := Safe.new (Nat.le_of_eq g74.symm)
          have sf_b74_74 := Safe.ext E74 CR0.1 sf_b74
          have CR74 := CR0.trans (CHr.ext E74 CR0.1)
          have E2_74 : Exa Z h74 a2 "java/lang/String" := E2.ext E74
          have C2_74 : Fld Z h74 a2 "java/lang/String" "coder" "B" (.int (0 : Int32)) := C2.ext E74
          have W2v_74 : Fld Z h74 a2 "java/lang/String" "value" "[B" (.ref b2) := W2v.ext E74
          have V2_74 : AI Z h74 b2 .byte bs := V2.ext E74
          have Scs_74 : Sta Z h74 "java/lang/String" "COMPACT_STRINGS" "Z" (.int cz) := Scs.ext E74
          have Sf_74 : Sta Z h74 "jdk/internal/util/Preconditions" "SIOOBE_FORMATTER" "Ljava/util/function/BiFunction;" fm := Sf.ext E74
          have K74 : Keep h0 h74 [] := (Keep.refl h0 []).ext E74
          have Z74 : n0 ≤ h74.size := Nat.le_trans Z0 E74.1
          have HK74 := Nat.le_trans HK0 E74.1
          have F_value_b74 : Fld Z h74 b74 "java/lang/String" "value" "[B" .null := D74 (Or.inr w_4) (ty := (.array .byte)) (by decide)
          have F_coder_b74 : Fld Z h74 b74 "java/lang/String" "coder" "B" (.int (0 : Int32)) := D74 (Or.inr w_5) (ty := .byte) (by decide)
          show Goes p e below KK T74 (mkF m 300 #[.val (.int p1), .val (.ref a2), .val (.int p3), .val (.int p4), .val (.int p5), .val (.int p6), .val (.int (atF bs 0 p3 p4 p5 p6)), .val (.int (atF bs 1 p3 p4 p5 p6)), .val (.int (atF bs 2 p3 p4 p5 p6)), .val (.int (atF bs 3 p3 p4 p5 p6)), .val (.int (atF bs 4 p3 p4 p5 p6)), .val (.int (atF bs 5 p3 p4 p5 p6)), .val (.int (atF bs 6 p3 p4 p5 p6)), .val (.int (atF bs 7 p3 p4 p5 p6)), .val (.int (atF bs 8 p3 p4 p5 p6)), .val (.int (atF bs 9 p3 p4 p5 p6)), .val (.int (atF bs 10 p3 p4 p5 p6)), .val (.int (atF bs 11 p3 p4 p5 p6))] [(.ref b74)])
          refine Goes.of (fun t => XS.dup X74.here hx rfl (hb hby d2_300) rfl rfl) ?_
          show Goes p e below KK T74 (mkF m 301 #[.val (.int p1), .val (.ref a2), .val (.int p3), .val (.int p4), .val (.int p5), .val (.int p6), .val (.int (atF bs 0 p3 p4 p5 p6)), .val (.int (atF bs 1 p3 p4 p5 p6)), .val (.int (atF bs 2 p3 p4 p5 p6)), .val (.int (atF bs 3 p3 p4 p5 p6)), .val (.int (atF bs 4 p3 p4 p5 p6)), .val (.int (atF bs 5 p3 p4 p5 p6)), .val (.int (atF bs 6 p3 p4 p5 p6)), .val (.int (atF bs 7 p3 p4 p5 p6)), .val (.int (atF bs 8 p3 p4 p5 p6)), .val (.int (atF bs 9 p3 p4 p5 p6)), .val (.int (atF bs 10 p3 p4 p5 p6)), .val (.int (atF bs 11 p3 p4 p5 p6))] [(.ref b74), (.ref b74)])
          refine Goes.of (fun t => XS.bipush X74.here hx rfl (hb hby d2_301)) ?_
          show Goes p e below KK T74 (mkF m 303 #[.val (.int p1), .val (.ref a2), .val (.int p3), .val (.int p4), .val (.int p5), .val (.int p6), .val (.int (atF bs 0 p3 p4 p5 p6)), .val (.int (atF bs 1 p3 p4 p5 p6)), .val (.int (atF bs 2 p3 p4 p5 p6)), .val (.int (atF bs 3 p3 p4 p5 p6)), .val (.int (atF bs 4 p3 p4 p5 p6)), .val (.int (atF bs 5 p3 p4 p5 p6)), .val (.int (atF bs 6 p3 p4 p5 p6)), .val (.int (atF bs 7 p3 p4 p5 p6)), .val (.int (atF bs 8 p3 p4 p5 p6)), .val (.int (atF bs 9 p3 p4 p5 p6)), .val (.int (atF bs 10 p3 p4 p5 p6)), .val (.int (atF bs 11 p3 p4 p5 p6))] [(.int (9 : Int32)), (.ref b74), (.ref b74)])
          obtain ⟨T75, h75, k75, X75, e75, E75, A75, st75⟩ := newP (aty := .char) X74 hx hZw w_55 e74 (g := (mkF m 303 #[.val (.int p1), .val (.ref a2), .val (.int p3), .val (.int p4), .val (.int p5), .val (.int p6), .val (.int (atF bs 0 p3 p4 p5 p6)), .val (.int (atF bs 1 p3 p4 p5 p6)), .val (.int (atF bs 2 p3 p4 p5 p6)), .val (.int (atF bs 3 p3 p4 p5 p6)), .val (.int (atF bs 4 p3 p4 p5 p6)), .val (.int (atF bs 5 p3 p4 p5 p6)), .val (.int (atF bs 6 p3 p4 p5 p6)), .val (.int (atF bs 7 p3 p4 p5 p6)), .val (.int (atF bs 8 p3 p4 p5 p6)), .val (.int (atF bs 9 p3 p4 p5 p6)), .val (.int (atF bs 10 p3 p4 p5 p6)), .val (.int (atF bs 11 p3 p4 p5 p6))] [(.int (9 : Int32)), (.ref b74), (.ref b74)])) rfl (hb hby d2_303) rfl (by decide) (cap := 9) (by decide) (by decide) (by decide) (by decide)
          obtain ⟨b75, g75⟩ : ∃ z, z = h74.size := ⟨_, rfl⟩
          rw [← g75] at A75 st75
          refine Goes.of (st75) ?_
          have ne_a2_b75 : a2 ≠ b75 := Nat.ne_of_lt (Nat.lt_of_lt_of_le E2_74.lt (Nat.le_of_eq g75.symm))
          have ne_b2_b75 : b2 ≠ b75 := Nat.ne_of_lt (Nat.lt_of_lt_of_le V2_74.lt (Nat.le_of_eq g75.symm))
          have ne_b74_b75 : b74 ≠ b75 := Nat.ne_of_lt (Nat.lt_of_lt_of_le A74.lt (Nat.le_of_eq g75.symm))
          have g_b75 : n0 ≤ b75 := Nat.le_trans Z74 (Nat.le_of_eq g75.symm)
          have sz_b75 : h0.size ≤ b75 := Nat.le_trans K74.1 (Nat.le_of_eq g75.symm)
          have sf_b75 : Safe Z EL0 s.vm h74 b75 := Safe.new (Nat.le_of_eq g75.symm)
          have sf_b74_75 := Safe.ext E75 CR74.1 sf_b74_74
          have sf_b75_75 := Safe.ext E75 CR74.1 sf_b75
          have CR75 := CR74.trans (CHr.ext E75 CR74.1)
          have E2_74_75 : Exa Z h75 a2 "java/lang/String" := E2_74.ext E75
          have C2_74_75 : Fld Z h75 a2 "java/lang/String" "coder" "B" (.int (0 : Int32)) := C2_74.ext E75
          have W2v_74_75 : Fld Z h75 a2 "java/lang/String" "value" "[B" (.ref b2) := W2v_74.ext E75
          have V2_74_75 : AI Z h75 b2 .byte bs := V2_74.ext E75
          have Scs_74_75 : Sta Z h75 "java/lang/String" "COMPACT_STRINGS" "Z" (.int cz) := Scs_74.ext E75
          have Sf_74_75 : Sta Z h75 "jdk/internal/util/Preconditions" "SIOOBE_FORMATTER" "Ljava/util/function/BiFunction;" fm := Sf_74.ext E75
          have A74_75 : Exa Z h75 b74 "java/lang/String" := A74.ext E75
          have F_value_b74_75 : Fld Z h75 b74 "java/lang/String" "value" "[B" .null := F_value_b74.ext E75
          have F_coder_b74_75 : Fld Z h75 b74 "java/lang/String" "coder" "B" (.int (0 : Int32)) := F_coder_b74.ext E75
          have K75 : Keep h0 h75 [] := K74.ext E75
          have Z75 : n0 ≤ h75.size := Nat.le_trans Z74 E75.1
          have HK75 := Nat.le_trans HK74 E75.1
          have V_b75 : AI Z h75 b75 .char [(0 : Int32), (0 : Int32), (0 : Int32), (0 : Int32), (0 : Int32), (0 : Int32), (0 : Int32), (0 : Int32), (0 : Int32)] := AI.fresh (k := 9) (by simp) (rfl) A75
          show Goes p e below KK T75 (mkF m 305 #[.val (.int p1), .val (.ref a2), .val (.int p3), .val (.int p4), .val (.int p5), .val (.int p6), .val (.int (atF bs 0 p3 p4 p5 p6)), .val (.int (atF bs 1 p3 p4 p5 p6)), .val (.int (atF bs 2 p3 p4 p5 p6)), .val (.int (atF bs 3 p3 p4 p5 p6)), .val (.int (atF bs 4 p3 p4 p5 p6)), .val (.int (atF bs 5 p3 p4 p5 p6)), .val (.int (atF bs 6 p3 p4 p5 p6)), .val (.int (atF bs 7 p3 p4 p5 p6)), .val (.int (atF bs 8 p3 p4 p5 p6)), .val (.int (atF bs 9 p3 p4 p5 p6)), .val (.int (atF bs 10 p3 p4 p5 p6)), .val (.int (atF bs 11 p3 p4 p5 p6))] [(.ref b75), (.ref b74), (.ref b74)])
          refine Goes.of (fun t => XS.dup X75.here hx rfl (hb hby d2_305) rfl rfl) ?_
          show Goes p e below KK T75 (mkF m 306 #[.val (.int p1), .val (.ref a2), .val (.int p3), .val (.int p4), .val (.int p5), .val (.int p6), .val (.int (atF bs 0 p3 p4 p5 p6)), .val (.int (atF bs 1 p3 p4 p5 p6)), .val (.int (atF bs 2 p3 p4 p5 p6)), .val (.int (atF bs 3 p3 p4 p5 p6)), .val (.int (atF bs 4 p3 p4 p5 p6)), .val (.int (atF bs 5 p3 p4 p5 p6)), .val (.int (atF bs 6 p3 p4 p5 p6)), .val (.int (atF bs 7 p3 p4 p5 p6)), .val (.int (atF bs 8 p3 p4 p5 p6)), .val (.int (atF bs 9 p3 p4 p5 p6)), .val (.int (atF bs 10 p3 p4 p5 p6)), .val (.int (atF bs 11 p3 p4 p5 p6))] [(.ref b75), (.ref b75), (.ref b74), (.ref b74)])
          refine Goes.of (fun t => XS.iconst X75.here hx rfl (hb hby d2_306)) ?_
          show Goes p e below KK T75 (mkF m 307 #[.val (.int p1), .val (.ref a2), .val (.int p3), .val (.int p4), .val (.int p5), .val (.int p6), .val (.int (atF bs 0 p3 p4 p5 p6)), .val (.int (atF bs 1 p3 p4 p5 p6)), .val (.int (atF bs 2 p3 p4 p5 p6)), .val (.int (atF bs 3 p3 p4 p5 p6)), .val (.int (atF bs 4 p3 p4 p5 p6)), .val (.int (atF bs 5 p3 p4 p5 p6)), .val (.int (atF bs 6 p3 p4 p5 p6)), .val (.int (atF bs 7 p3 p4 p5 p6)), .val (.int (atF bs 8 p3 p4 p5 p6)), .val (.int (atF bs 9 p3 p4 p5 p6)), .val (.int (atF bs 10 p3 p4 p5 p6)), .val (.int (atF bs 11 p3 p4 p5 p6))] [(.int (0 : Int32)), (.ref b75), (.ref b75), (.ref b74), (.ref b74)])
          refine Goes.of (fun t => XS.iload X75.here hx rfl (hb hby d2_307) rfl) ?_
          show Goes p e below KK T75 (mkF m 309 #[.val (.int p1), .val (.ref a2), .val (.int p3), .val (.int p4), .val (.int p5), .val (.int p6), .val (.int (atF bs 0 p3 p4 p5 p6)), .val (.int (atF bs 1 p3 p4 p5 p6)), .val (.int (atF bs 2 p3 p4 p5 p6)), .val (.int (atF bs 3 p3 p4 p5 p6)), .val (.int (atF bs 4 p3 p4 p5 p6)), .val (.int (atF bs 5 p3 p4 p5 p6)), .val (.int (atF bs 6 p3 p4 p5 p6)), .val (.int (atF bs 7 p3 p4 p5 p6)), .val (.int (atF bs 8 p3 p4 p5 p6)), .val (.int (atF bs 9 p3 p4 p5 p6)), .val (.int (atF bs 10 p3 p4 p5 p6)), .val (.int (atF bs 11 p3 p4 p5 p6))] [(.int (atF bs 0 p3 p4 p5 p6)), (.int (0 : Int32)), (.ref b75), (.ref b75), (.ref b74), (.ref b74)])
          obtain ⟨T76, h76, X76, e76, W76, V76, st76⟩ := AI.castore X75 hx hZw e75 V_b75 (i := 0) (j := (0 : Int32)) (rfl) ((by simp)) (g := (mkF m 309 #[.val (.int p1), .val (.ref a2), .val (.int p3), .val (.int p4), .val (.int p5), .val (.int p6), .val (.int (atF bs 0 p3 p4 p5 p6)), .val (.int (atF bs 1 p3 p4 p5 p6)), .val (.int (atF bs 2 p3 p4 p5 p6)), .val (.int (atF bs 3 p3 p4 p5 p6)), .val (.int (atF bs 4 p3 p4 p5 p6)), .val (.int (atF bs 5 p3 p4 p5 p6)), .val (.int (atF bs 6 p3 p4 p5 p6)), .val (.int (atF bs 7 p3 p4 p5 p6)), .val (.int (atF bs 8 p3 p4 p5 p6)), .val (.int (atF bs 9 p3 p4 p5 p6)), .val (.int (atF bs 10 p3 p4 p5 p6)), .val (.int (atF bs 11 p3 p4 p5 p6))] [(.int (atF bs 0 p3 p4 p5 p6)), (.int (0 : Int32)), (.ref b75), (.ref b75), (.ref b74), (.ref b74)])) rfl rfl (hb hby d2_309)
          refine Goes.of (st76) ?_
          have sf_b74_76 := Safe.wr W76 sf_b75_75 CR75.1 sf_b74_75
          have sf_b75_76 := Safe.wr W76 sf_b75_75 CR75.1 sf_b75_75
          have CR76 := CR75.trans (CHr.wr W76 sf_b75_75 CR75.1)
          have E2_74_75_76 : Exa Z h76 a2 "java/lang/String" := E2_74_75.wr W76
          have C2_74_75_76 : Fld Z h76 a2 "java/lang/String" "coder" "B" (.int (0 : Int32)) := C2_74_75.other W76 (Or.inl ne_a2_b75)
          have W2v_74_75_76 : Fld Z h76 a2 "java/lang/String" "value" "[B" (.ref b2) := W2v_74_75.other W76 (Or.inl ne_a2_b75)
          have V2_74_75_76 : AI Z h76 b2 .byte bs := V2_74_75.other W76 ne_b2_b75
          have Scs_74_75_76 : Sta Z h76 "java/lang/String" "COMPACT_STRINGS" "Z" (.int cz) := Scs_74_75.wr W76
          have Sf_74_75_76 : Sta Z h76 "jdk/internal/util/Preconditions" "SIOOBE_FORMATTER" "Ljava/util/function/BiFunction;" fm := Sf_74_75.wr W76
          have A74_75_76 : Exa Z h76 b74 "java/lang/String" := A74_75.wr W76
          have F_value_b74_75_76 : Fld Z h76 b74 "java/lang/String" "value" "[B" .null := F_value_b74_75.other W76 (Or.inl ne_b74_b75)
          have F_coder_b74_75_76 : Fld Z h76 b74 "java/lang/String" "coder" "B" (.int (0 : Int32)) := F_coder_b74_75.other W76 (Or.inl ne_b74_b75)
          have K76 : Keep h0 h76 [] := K75.wr W76 (Or.inr sz_b75)
          have Z76 : n0 ≤ h76.size := Nat.le_trans Z75 (Keep.of_wr W76).1
          have HK76 := Nat.le_trans HK75 (Keep.of_wr W76).1
          have N76 := Fr.snoc X76 N49 g_b75
          have V_b75_76 : AI Z h76 b75 .char [(nar .char (atF bs 0 p3 p4 p5 p6)), (0 : Int32), (0 : Int32), (0 : Int32), (0 : Int32), (0 : Int32), (0 : Int32), (0 : Int32), (0 : Int32)] := V76
          show Goes p e below KK T76 (mkF m 310 #[.val (.int p1), .val (.ref a2), .val (.int p3), .val (.int p4), .val (.int p5), .val (.int p6), .val (.int (atF bs 0 p3 p4 p5 p6)), .val (.int (atF bs 1 p3 p4 p5 p6)), .val (.int (atF bs 2 p3 p4 p5 p6)), .val (.int (atF bs 3 p3 p4 p5 p6)), .val (.int (atF bs 4 p3 p4 p5 p6)), .val (.int (atF bs 5 p3 p4 p5 p6)), .val (.int (atF bs 6 p3 p4 p5 p6)), .val (.int (atF bs 7 p3 p4 p5 p6)), .val (.int (atF bs 8 p3 p4 p5 p6)), .val (.int (atF bs 9 p3 p4 p5 p6)), .val (.int (atF bs 10 p3 p4 p5 p6)), .val (.int (atF bs 11 p3 p4 p5 p6))] [(.ref b75), (.ref b74), (.ref b74)])
          refine Goes.of (fun t => XS.dup X76.here hx rfl (hb hby d2_310) rfl rfl) ?_
          show Goes p e below KK T76 (mkF m 311 #[.val (.int p1), .val (.ref a2), .val (.int p3), .val (.int p4), .val (.int p5), .val (.int p6), .val (.int (atF bs 0 p3 p4 p5 p6)), .val (.int (atF bs 1 p3 p4 p5 p6)), .val (.int (atF bs 2 p3 p4 p5 p6)), .val (.int (atF bs 3 p3 p4 p5 p6)), .val (.int (atF bs 4 p3 p4 p5 p6)), .val (.int (atF bs 5 p3 p4 p5 p6)), .val (.int (atF bs 6 p3 p4 p5 p6)), .val (.int (atF bs 7 p3 p4 p5 p6)), .val (.int (atF bs 8 p3 p4 p5 p6)), .val (.int (atF bs 9 p3 p4 p5 p6)), .val (.int (atF bs 10 p3 p4 p5 p6)), .val (.int (atF bs 11 p3 p4 p5 p6))] [(.ref b75), (.ref b75), (.ref b74), (.ref b74)])
          refine Goes.of (fun t => XS.iconst X76.here hx rfl (hb hby d2_311)) ?_
          show Goes p e below KK T76 (mkF m 312 #[.val (.int p1), .val (.ref a2), .val (.int p3), .val (.int p4), .val (.int p5), .val (.int p6), .val (.int (atF bs 0 p3 p4 p5 p6)), .val (.int (atF bs 1 p3 p4 p5 p6)), .val (.int (atF bs 2 p3 p4 p5 p6)), .val (.int (atF bs 3 p3 p4 p5 p6)), .val (.int (atF bs 4 p3 p4 p5 p6)), .val (.int (atF bs 5 p3 p4 p5 p6)), .val (.int (atF bs 6 p3 p4 p5 p6)), .val (.int (atF bs 7 p3 p4 p5 p6)), .val (.int (atF bs 8 p3 p4 p5 p6)), .val (.int (atF bs 9 p3 p4 p5 p6)), .val (.int (atF bs 10 p3 p4 p5 p6)), .val (.int (atF bs 11 p3 p4 p5 p6))] [(.int (1 : Int32)), (.ref b75), (.ref b75), (.ref b74), (.ref b74)])
          refine Goes.of (fun t => XS.iload X76.here hx rfl (hb hby d2_312) rfl) ?_
          show Goes p e below KK T76 (mkF m 314 #[.val (.int p1), .val (.ref a2), .val (.int p3), .val (.int p4), .val (.int p5), .val (.int p6), .val (.int (atF bs 0 p3 p4 p5 p6)), .val (.int (atF bs 1 p3 p4 p5 p6)), .val (.int (atF bs 2 p3 p4 p5 p6)), .val (.int (atF bs 3 p3 p4 p5 p6)), .val (.int (atF bs 4 p3 p4 p5 p6)), .val (.int (atF bs 5 p3 p4 p5 p6)), .val (.int (atF bs 6 p3 p4 p5 p6)), .val (.int (atF bs 7 p3 p4 p5 p6)), .val (.int (atF bs 8 p3 p4 p5 p6)), .val (.int (atF bs 9 p3 p4 p5 p6)), .val (.int (atF bs 10 p3 p4 p5 p6)), .val (.int (atF bs 11 p3 p4 p5 p6))] [(.int (atF bs 1 p3 p4 p5 p6)), (.int (1 : Int32)), (.ref b75), (.ref b75), (.ref b74), (.ref b74)])
          obtain ⟨T77, h77, X77, e77, W77, V77, st77⟩ := AI.castore X76 hx hZw e76 V_b75_76 (i := 1) (j := (1 : Int32)) (rfl) ((by simp)) (g := (mkF m 314 #[.val (.int p1), .val (.ref a2), .val (.int p3), .val (.int p4), .val (.int p5), .val (.int p6), .val (.int (atF bs 0 p3 p4 p5 p6)), .val (.int (atF bs 1 p3 p4 p5 p6)), .val (.int (atF bs 2 p3 p4 p5 p6)), .val (.int (atF bs 3 p3 p4 p5 p6)), .val (.int (atF bs 4 p3 p4 p5 p6)), .val (.int (atF bs 5 p3 p4 p5 p6)), .val (.int (atF bs 6 p3 p4 p5 p6)), .val (.int (atF bs 7 p3 p4 p5 p6)), .val (.int (atF bs 8 p3 p4 p5 p6)), .val (.int (atF bs 9 p3 p4 p5 p6)), .val (.int (atF bs 10 p3 p4 p5 p6)), .val (.int (atF bs 11 p3 p4 p5 p6))] [(.int (atF bs 1 p3 p4 p5 p6)), (.int (1 : Int32)), (.ref b75), (.ref b75), (.ref b74), (.ref b74)])) rfl rfl (hb hby d2_314)
          refine Goes.of (st77) ?_
          have sf_b74_77 := Safe.wr W77 sf_b75_76 CR76.1 sf_b74_76
          have sf_b75_77 := Safe.wr W77 sf_b75_76 CR76.1 sf_b75_76
          have CR77 := CR76.trans (CHr.wr W77 sf_b75_76 CR76.1)
          have E2_74_75_76_77 : Exa Z h77 a2 "java/lang/String" := E2_74_75_76.wr W77
          have C2_74_75_76_77 : Fld Z h77 a2 "java/lang/String" "coder" "B" (.int (0 : Int32)) := C2_74_75_76.other W77 (Or.inl ne_a2_b75)
          have W2v_74_75_76_77 : Fld Z h77 a2 "java/lang/String" "value" "[B" (.ref b2) := W2v_74_75_76.other W77 (Or.inl ne_a2_b75)
          have V2_74_75_76_77 : AI Z h77 b2 .byte bs := V2_74_75_76.other W77 ne_b2_b75
          have Scs_74_75_76_77 : Sta Z h77 "java/lang/String" "COMPACT_STRINGS" "Z" (.int cz) := Scs_74_75_76.wr W77
          have Sf_74_75_76_77 : Sta Z h77 "jdk/internal/util/Preconditions" "SIOOBE_FORMATTER" "Ljava/util/function/BiFunction;" fm := Sf_74_75_76.wr W77
          have A74_75_76_77 : Exa Z h77 b74 "java/lang/String" := A74_75_76.wr W77
          have F_value_b74_75_76_77 : Fld Z h77 b74 "java/lang/String" "value" "[B" .null := F_value_b74_75_76.other W77 (Or.inl ne_b74_b75)
          have F_coder_b74_75_76_77 : Fld Z h77 b74 "java/lang/String" "coder" "B" (.int (0 : Int32)) := F_coder_b74_75_76.other W77 (Or.inl ne_b74_b75)
          have K77 : Keep h0 h77 [] := K76.wr W77 (Or.inr sz_b75)
          have Z77 : n0 ≤ h77.size := Nat.le_trans Z76 (Keep.of_wr W77).1
          have HK77 := Nat.le_trans HK76 (Keep.of_wr W77).1
          have N77 := Fr.snoc X77 N76 g_b75
          have V_b75_77 : AI Z h77 b75 .char [(nar .char (atF bs 0 p3 p4 p5 p6)), (nar .char (atF bs 1 p3 p4 p5 p6)), (0 : Int32), (0 : Int32), (0 : Int32), (0 : Int32), (0 : Int32), (0 : Int32), (0 : Int32)] := V77
          show Goes p e below KK T77 (mkF m 315 #[.val (.int p1), .val (.ref a2), .val (.int p3), .val (.int p4), .val (.int p5), .val (.int p6), .val (.int (atF bs 0 p3 p4 p5 p6)), .val (.int (atF bs 1 p3 p4 p5 p6)), .val (.int (atF bs 2 p3 p4 p5 p6)), .val (.int (atF bs 3 p3 p4 p5 p6)), .val (.int (atF bs 4 p3 p4 p5 p6)), .val (.int (atF bs 5 p3 p4 p5 p6)), .val (.int (atF bs 6 p3 p4 p5 p6)), .val (.int (atF bs 7 p3 p4 p5 p6)), .val (.int (atF bs 8 p3 p4 p5 p6)), .val (.int (atF bs 9 p3 p4 p5 p6)), .val (.int (atF bs 10 p3 p4 p5 p6)), .val (.int (atF bs 11 p3 p4 p5 p6))] [(.ref b75), (.ref b74), (.ref b74)])
          refine Goes.of (fun t => XS.dup X77.here hx rfl (hb hby d2_315) rfl rfl) ?_
          show Goes p e below KK T77 (mkF m 316 #[.val (.int p1), .val (.ref a2), .val (.int p3), .val (.int p4), .val (.int p5), .val (.int p6), .val (.int (atF bs 0 p3 p4 p5 p6)), .val (.int (atF bs 1 p3 p4 p5 p6)), .val (.int (atF bs 2 p3 p4 p5 p6)), .val (.int (atF bs 3 p3 p4 p5 p6)), .val (.int (atF bs 4 p3 p4 p5 p6)), .val (.int (atF bs 5 p3 p4 p5 p6)), .val (.int (atF bs 6 p3 p4 p5 p6)), .val (.int (atF bs 7 p3 p4 p5 p6)), .val (.int (atF bs 8 p3 p4 p5 p6)), .val (.int (atF bs 9 p3 p4 p5 p6)), .val (.int (atF bs 10 p3 p4 p5 p6)), .val (.int (atF bs 11 p3 p4 p5 p6))] [(.ref b75), (.ref b75), (.ref b74), (.ref b74)])
          refine Goes.of (fun t => XS.iconst X77.here hx rfl (hb hby d2_316)) ?_
          show Goes p e below KK T77 (mkF m 317 #[.val (.int p1), .val (.ref a2), .val (.int p3), .val (.int p4), .val (.int p5), .val (.int p6), .val (.int (atF bs 0 p3 p4 p5 p6)), .val (.int (atF bs 1 p3 p4 p5 p6)), .val (.int (atF bs 2 p3 p4 p5 p6)), .val (.int (atF bs 3 p3 p4 p5 p6)), .val (.int (atF bs 4 p3 p4 p5 p6)), .val (.int (atF bs 5 p3 p4 p5 p6)), .val (.int (atF bs 6 p3 p4 p5 p6)), .val (.int (atF bs 7 p3 p4 p5 p6)), .val (.int (atF bs 8 p3 p4 p5 p6)), .val (.int (atF bs 9 p3 p4 p5 p6)), .val (.int (atF bs 10 p3 p4 p5 p6)), .val (.int (atF bs 11 p3 p4 p5 p6))] [(.int (2 : Int32)), (.ref b75), (.ref b75), (.ref b74), (.ref b74)])
          refine Goes.of (fun t => XS.iload X77.here hx rfl (hb hby d2_317) rfl) ?_
          show Goes p e below KK T77 (mkF m 319 #[.val (.int p1), .val (.ref a2), .val (.int p3), .val (.int p4), .val (.int p5), .val (.int p6), .val (.int (atF bs 0 p3 p4 p5 p6)), .val (.int (atF bs 1 p3 p4 p5 p6)), .val (.int (atF bs 2 p3 p4 p5 p6)), .val (.int (atF bs 3 p3 p4 p5 p6)), .val (.int (atF bs 4 p3 p4 p5 p6)), .val (.int (atF bs 5 p3 p4 p5 p6)), .val (.int (atF bs 6 p3 p4 p5 p6)), .val (.int (atF bs 7 p3 p4 p5 p6)), .val (.int (atF bs 8 p3 p4 p5 p6)), .val (.int (atF bs 9 p3 p4 p5 p6)), .val (.int (atF bs 10 p3 p4 p5 p6)), .val (.int (atF bs 11 p3 p4 p5 p6))] [(.int (atF bs 2 p3 p4 p5 p6)), (.int (2 : Int32)), (.ref b75), (.ref b75), (.ref b74), (.ref b74)])
          obtain ⟨T78, h78, X78, e78, W78, V78, st78⟩ := AI.castore X77 hx hZw e77 V_b75_77 (i := 2) (j := (2 : Int32)) (rfl) ((by simp)) (g := (mkF m 319 #[.val (.int p1), .val (.ref a2), .val (.int p3), .val (.int p4), .val (.int p5), .val (.int p6), .val (.int (atF bs 0 p3 p4 p5 p6)), .val (.int (atF bs 1 p3 p4 p5 p6)), .val (.int (atF bs 2 p3 p4 p5 p6)), .val (.int (atF bs 3 p3 p4 p5 p6)), .val (.int (atF bs 4 p3 p4 p5 p6)), .val (.int (atF bs 5 p3 p4 p5 p6)), .val (.int (atF bs 6 p3 p4 p5 p6)), .val (.int (atF bs 7 p3 p4 p5 p6)), .val (.int (atF bs 8 p3 p4 p5 p6)), .val (.int (atF bs 9 p3 p4 p5 p6)), .val (.int (atF bs 10 p3 p4 p5 p6)), .val (.int (atF bs 11 p3 p4 p5 p6))] [(.int (atF bs 2 p3 p4 p5 p6)), (.int (2 : Int32)), (.ref b75), (.ref b75), (.ref b74), (.ref b74)])) rfl rfl (hb hby d2_319)
          refine Goes.of (st78) ?_
          have sf_b74_78 := Safe.wr W78 sf_b75_77 CR77.1 sf_b74_77
          have sf_b75_78 := Safe.wr W78 sf_b75_77 CR77.1 sf_b75_77
          have CR78 := CR77.trans (CHr.wr W78 sf_b75_77 CR77.1)
          have E2_74_75_76_77_78 : Exa Z h78 a2 "java/lang/String" := E2_74_75_76_77.wr W78
          have C2_74_75_76_77_78 : Fld Z h78 a2 "java/lang/String" "coder" "B" (.int (0 : Int32)) := C2_74_75_76_77.other W78 (Or.inl ne_a2_b75)
          have W2v_74_75_76_77_78 : Fld Z h78 a2 "java/lang/String" "value" "[B" (.ref b2) := W2v_74_75_76_77.other W78 (Or.inl ne_a2_b75)
          have V2_74_75_76_77_78 : AI Z h78 b2 .byte bs := V2_74_75_76_77.other W78 ne_b2_b75
          have Scs_74_75_76_77_78 : Sta Z h78 "java/lang/String" "COMPACT_STRINGS" "Z" (.int cz) := Scs_74_75_76_77.wr W78
          have Sf_74_75_76_77_78 : Sta Z h78 "jdk/internal/util/Preconditions" "SIOOBE_FORMATTER" "Ljava/util/function/BiFunction;" fm := Sf_74_75_76_77.wr W78
          have A74_75_76_77_78 : Exa Z h78 b74 "java/lang/String" := A74_75_76_77.wr W78
          have F_value_b74_75_76_77_78 : Fld Z h78 b74 "java/lang/String" "value" "[B" .null := F_value_b74_75_76_77.other W78 (Or.inl ne_b74_b75)
          have F_coder_b74_75_76_77_78 : Fld Z h78 b74 "java/lang/String" "coder" "B" (.int (0 : Int32)) := F_coder_b74_75_76_77.other W78 (Or.inl ne_b74_b75)
          have K78 : Keep h0 h78 [] := K77.wr W78 (Or.inr sz_b75)
          have Z78 : n0 ≤ h78.size := Nat.le_trans Z77 (Keep.of_wr W78).1
          have HK78 := Nat.le_trans HK77 (Keep.of_wr W78).1
          have N78 := Fr.snoc X78 N77 g_b75
          have V_b75_78 : AI Z h78 b75 .char [(nar .char (atF bs 0 p3 p4 p5 p6)), (nar .char (atF bs 1 p3 p4 p5 p6)), (nar .char (atF bs 2 p3 p4 p5 p6)), (0 : Int32), (0 : Int32), (0 : Int32), (0 : Int32), (0 : Int32), (0 : Int32)] := V78
          show Goes p e below KK T78 (mkF m 320 #[.val (.int p1), .val (.ref a2), .val (.int p3), .val (.int p4), .val (.int p5), .val (.int p6), .val (.int (atF bs 0 p3 p4 p5 p6)), .val (.int (atF bs 1 p3 p4 p5 p6)), .val (.int (atF bs 2 p3 p4 p5 p6)), .val (.int (atF bs 3 p3 p4 p5 p6)), .val (.int (atF bs 4 p3 p4 p5 p6)), .val (.int (atF bs 5 p3 p4 p5 p6)), .val (.int (atF bs 6 p3 p4 p5 p6)), .val (.int (atF bs 7 p3 p4 p5 p6)), .val (.int (atF bs 8 p3 p4 p5 p6)), .val (.int (atF bs 9 p3 p4 p5 p6)), .val (.int (atF bs 10 p3 p4 p5 p6)), .val (.int (atF bs 11 p3 p4 p5 p6))] [(.ref b75), (.ref b74), (.ref b74)])
          refine Goes.of (fun t => XS.dup X78.here hx rfl (hb hby d2_320) rfl rfl) ?_
          show Goes p e below KK T78 (mkF m 321 #[.val (.int p1), .val (.ref a2), .val (.int p3), .val (.int p4), .val (.int p5), .val (.int p6), .val (.int (atF bs 0 p3 p4 p5 p6)), .val (.int (atF bs 1 p3 p4 p5 p6)), .val (.int (atF bs 2 p3 p4 p5 p6)), .val (.int (atF bs 3 p3 p4 p5 p6)), .val (.int (atF bs 4 p3 p4 p5 p6)), .val (.int (atF bs 5 p3 p4 p5 p6)), .val (.int (atF bs 6 p3 p4 p5 p6)), .val (.int (atF bs 7 p3 p4 p5 p6)), .val (.int (atF bs 8 p3 p4 p5 p6)), .val (.int (atF bs 9 p3 p4 p5 p6)), .val (.int (atF bs 10 p3 p4 p5 p6)), .val (.int (atF bs 11 p3 p4 p5 p6))] [(.ref b75), (.ref b75), (.ref b74), (.ref b74)])
          refine Goes.of (fun t => XS.iconst X78.here hx rfl (hb hby d2_321)) ?_
          show Goes p e below KK T78 (mkF m 322 #[.val (.int p1), .val (.ref a2), .val (.int p3), .val (.int p4), .val (.int p5), .val (.int p6), .val (.int (atF bs 0 p3 p4 p5 p6)), .val (.int (atF bs 1 p3 p4 p5 p6)), .val (.int (atF bs 2 p3 p4 p5 p6)), .val (.int (atF bs 3 p3 p4 p5 p6)), .val (.int (atF bs 4 p3 p4 p5 p6)), .val (.int (atF bs 5 p3 p4 p5 p6)), .val (.int (atF bs 6 p3 p4 p5 p6)), .val (.int (atF bs 7 p3 p4 p5 p6)), .val (.int (atF bs 8 p3 p4 p5 p6)), .val (.int (atF bs 9 p3 p4 p5 p6)), .val (.int (atF bs 10 p3 p4 p5 p6)), .val (.int (atF bs 11 p3 p4 p5 p6))] [(.int (3 : Int32)), (.ref b75), (.ref b75), (.ref b74), (.ref b74)])
          refine Goes.of (fun t => XS.iload X78.here hx rfl (hb hby d2_322) rfl) ?_
          show Goes p e below KK T78 (mkF m 324 #[.val (.int p1), .val (.ref a2), .val (.int p3), .val (.int p4), .val (.int p5), .val (.int p6), .val (.int (atF bs 0 p3 p4 p5 p6)), .val (.int (atF bs 1 p3 p4 p5 p6)), .val (.int (atF bs 2 p3 p4 p5 p6)), .val (.int (atF bs 3 p3 p4 p5 p6)), .val (.int (atF bs 4 p3 p4 p5 p6)), .val (.int (atF bs 5 p3 p4 p5 p6)), .val (.int (atF bs 6 p3 p4 p5 p6)), .val (.int (atF bs 7 p3 p4 p5 p6)), .val (.int (atF bs 8 p3 p4 p5 p6)), .val (.int (atF bs 9 p3 p4 p5 p6)), .val (.int (atF bs 10 p3 p4 p5 p6)), .val (.int (atF bs 11 p3 p4 p5 p6))] [(.int (atF bs 3 p3 p4 p5 p6)), (.int (3 : Int32)), (.ref b75), (.ref b75), (.ref b74), (.ref b74)])
          obtain ⟨T79, h79, X79, e79, W79, V79, st79⟩ := AI.castore X78 hx hZw e78 V_b75_78 (i := 3) (j := (3 : Int32)) (rfl) ((by simp)) (g := (mkF m 324 #[.val (.int p1), .val (.ref a2), .val (.int p3), .val (.int p4), .val (.int p5), .val (.int p6), .val (.int (atF bs 0 p3 p4 p5 p6)), .val (.int (atF bs 1 p3 p4 p5 p6)), .val (.int (atF bs 2 p3 p4 p5 p6)), .val (.int (atF bs 3 p3 p4 p5 p6)), .val (.int (atF bs 4 p3 p4 p5 p6)), .val (.int (atF bs 5 p3 p4 p5 p6)), .val (.int (atF bs 6 p3 p4 p5 p6)), .val (.int (atF bs 7 p3 p4 p5 p6)), .val (.int (atF bs 8 p3 p4 p5 p6)), .val (.int (atF bs 9 p3 p4 p5 p6)), .val (.int (atF bs 10 p3 p4 p5 p6)), .val (.int (atF bs 11 p3 p4 p5 p6))] [(.int (atF bs 3 p3 p4 p5 p6)), (.int (3 : Int32)), (.ref b75), (.ref b75), (.ref b74), (.ref b74)])) rfl rfl (hb hby d2_324)
          refine Goes.of (st79) ?_
          have sf_b74_79 := Safe.wr W79 sf_b75_78 CR78.1 sf_b74_78
          have sf_b75_79 := Safe.wr W79 sf_b75_78 CR78.1 sf_b75_78
          have CR79 := CR78.trans (CHr.wr W79 sf_b75_78 CR78.1)
          have E2_74_75_76_77_78_79 : Exa Z h79 a2 "java/lang/String" := E2_74_75_76_77_78.wr W79
          have C2_74_75_76_77_78_79 : Fld Z h79 a2 "java/lang/String" "coder" "B" (.int (0 : Int32)) := C2_74_75_76_77_78.other W79 (Or.inl ne_a2_b75)
          have W2v_74_75_76_77_78_79 : Fld Z h79 a2 "java/lang/String" "value" "[B" (.ref b2) := W2v_74_75_76_77_78.other W79 (Or.inl ne_a2_b75)
          have V2_74_75_76_77_78_79 : AI Z h79 b2 .byte bs := V2_74_75_76_77_78.other W79 ne_b2_b75
          have Scs_74_75_76_77_78_79 : Sta Z h79 "java/lang/String" "COMPACT_STRINGS" "Z" (.int cz) := Scs_74_75_76_77_78.wr W79
          have Sf_74_75_76_77_78_79 : Sta Z h79 "jdk/internal/util/Preconditions" "SIOOBE_FORMATTER" "Ljava/util/function/BiFunction;" fm := Sf_74_75_76_77_78.wr W79
          have A74_75_76_77_78_79 : Exa Z h79 b74 "java/lang/String" := A74_75_76_77_78.wr W79
          have F_value_b74_75_76_77_78_79 : Fld Z h79 b74 "java/lang/String" "value" "[B" .null := F_value_b74_75_76_77_78.other W79 (Or.inl ne_b74_b75)
          have F_coder_b74_75_76_77_78_79 : Fld Z h79 b74 "java/lang/String" "coder" "B" (.int (0 : Int32)) := F_coder_b74_75_76_77_78.other W79 (Or.inl ne_b74_b75)
          have K79 : Keep h0 h79 [] := K78.wr W79 (Or.inr sz_b75)
          have Z79 : n0 ≤ h79.size := Nat.le_trans Z78 (Keep.of_wr W79).1
          have HK79 := Nat.le_trans HK78 (Keep.of_wr W79).1
          have N79 := Fr.snoc X79 N78 g_b75
          have V_b75_79 : AI Z h79 b75 .char [(nar .char (atF bs 0 p3 p4 p5 p6)), (nar .char (atF bs 1 p3 p4 p5 p6)), (nar .char (atF bs 2 p3 p4 p5 p6)), (nar .char (atF bs 3 p3 p4 p5 p6)), (0 : Int32), (0 : Int32), (0 : Int32), (0 : Int32), (0 : Int32)] := V79
          show Goes p e below KK T79 (mkF m 325 #[.val (.int p1), .val (.ref a2), .val (.int p3), .val (.int p4), .val (.int p5), .val (.int p6), .val (.int (atF bs 0 p3 p4 p5 p6)), .val (.int (atF bs 1 p3 p4 p5 p6)), .val (.int (atF bs 2 p3 p4 p5 p6)), .val (.int (atF bs 3 p3 p4 p5 p6)), .val (.int (atF bs 4 p3 p4 p5 p6)), .val (.int (atF bs 5 p3 p4 p5 p6)), .val (.int (atF bs 6 p3 p4 p5 p6)), .val (.int (atF bs 7 p3 p4 p5 p6)), .val (.int (atF bs 8 p3 p4 p5 p6)), .val (.int (atF bs 9 p3 p4 p5 p6)), .val (.int (atF bs 10 p3 p4 p5 p6)), .val (.int (atF bs 11 p3 p4 p5 p6))] [(.ref b75), (.ref b74), (.ref b74)])
          refine Goes.of (fun t => XS.dup X79.here hx rfl (hb hby d2_325) rfl rfl) ?_
          show Goes p e below KK T79 (mkF m 326 #[.val (.int p1), .val (.ref a2), .val (.int p3), .val (.int p4), .val (.int p5), .val (.int p6), .val (.int (atF bs 0 p3 p4 p5 p6)), .val (.int (atF bs 1 p3 p4 p5 p6)), .val (.int (atF bs 2 p3 p4 p5 p6)), .val (.int (atF bs 3 p3 p4 p5 p6)), .val (.int (atF bs 4 p3 p4 p5 p6)), .val (.int (atF bs 5 p3 p4 p5 p6)), .val (.int (atF bs 6 p3 p4 p5 p6)), .val (.int (atF bs 7 p3 p4 p5 p6)), .val (.int (atF bs 8 p3 p4 p5 p6)), .val (.int (atF bs 9 p3 p4 p5 p6)), .val (.int (atF bs 10 p3 p4 p5 p6)), .val (.int (atF bs 11 p3 p4 p5 p6))] [(.ref b75), (.ref b75), (.ref b74), (.ref b74)])
          refine Goes.of (fun t => XS.iconst X79.here hx rfl (hb hby d2_326)) ?_
          show Goes p e below KK T79 (mkF m 327 #[.val (.int p1), .val (.ref a2), .val (.int p3), .val (.int p4), .val (.int p5), .val (.int p6), .val (.int (atF bs 0 p3 p4 p5 p6)), .val (.int (atF bs 1 p3 p4 p5 p6)), .val (.int (atF bs 2 p3 p4 p5 p6)), .val (.int (atF bs 3 p3 p4 p5 p6)), .val (.int (atF bs 4 p3 p4 p5 p6)), .val (.int (atF bs 5 p3 p4 p5 p6)), .val (.int (atF bs 6 p3 p4 p5 p6)), .val (.int (atF bs 7 p3 p4 p5 p6)), .val (.int (atF bs 8 p3 p4 p5 p6)), .val (.int (atF bs 9 p3 p4 p5 p6)), .val (.int (atF bs 10 p3 p4 p5 p6)), .val (.int (atF bs 11 p3 p4 p5 p6))] [(.int (4 : Int32)), (.ref b75), (.ref b75), (.ref b74), (.ref b74)])
          refine Goes.of (fun t => XS.iload X79.here hx rfl (hb hby d2_327) rfl) ?_
          show Goes p e below KK T79 (mkF m 329 #[.val (.int p1), .val (.ref a2), .val (.int p3), .val (.int p4), .val (.int p5), .val (.int p6), .val (.int (atF bs 0 p3 p4 p5 p6)), .val (.int (atF bs 1 p3 p4 p5 p6)), .val (.int (atF bs 2 p3 p4 p5 p6)), .val (.int (atF bs 3 p3 p4 p5 p6)), .val (.int (atF bs 4 p3 p4 p5 p6)), .val (.int (atF bs 5 p3 p4 p5 p6)), .val (.int (atF bs 6 p3 p4 p5 p6)), .val (.int (atF bs 7 p3 p4 p5 p6)), .val (.int (atF bs 8 p3 p4 p5 p6)), .val (.int (atF bs 9 p3 p4 p5 p6)), .val (.int (atF bs 10 p3 p4 p5 p6)), .val (.int (atF bs 11 p3 p4 p5 p6))] [(.int (atF bs 4 p3 p4 p5 p6)), (.int (4 : Int32)), (.ref b75), (.ref b75), (.ref b74), (.ref b74)])
          obtain ⟨T80, h80, X80, e80, W80, V80, st80⟩ := AI.castore X79 hx hZw e79 V_b75_79 (i := 4) (j := (4 : Int32)) (rfl) ((by simp)) (g := (mkF m 329 #[.val (.int p1), .val (.ref a2), .val (.int p3), .val (.int p4), .val (.int p5), .val (.int p6), .val (.int (atF bs 0 p3 p4 p5 p6)), .val (.int (atF bs 1 p3 p4 p5 p6)), .val (.int (atF bs 2 p3 p4 p5 p6)), .val (.int (atF bs 3 p3 p4 p5 p6)), .val (.int (atF bs 4 p3 p4 p5 p6)), .val (.int (atF bs 5 p3 p4 p5 p6)), .val (.int (atF bs 6 p3 p4 p5 p6)), .val (.int (atF bs 7 p3 p4 p5 p6)), .val (.int (atF bs 8 p3 p4 p5 p6)), .val (.int (atF bs 9 p3 p4 p5 p6)), .val (.int (atF bs 10 p3 p4 p5 p6)), .val (.int (atF bs 11 p3 p4 p5 p6))] [(.int (atF bs 4 p3 p4 p5 p6)), (.int (4 : Int32)), (.ref b75), (.ref b75), (.ref b74), (.ref b74)])) rfl rfl (hb hby d2_329)
          refine Goes.of (st80) ?_
          have sf_b74_80 := Safe.wr W80 sf_b75_79 CR79.1 sf_b74_79
          have sf_b75_80 := Safe.wr W80 sf_b75_79 CR79.1 sf_b75_79
          have CR80 := CR79.trans (CHr.wr W80 sf_b75_79 CR79.1)
          have E2_74_75_76_77_78_79_80 : Exa Z h80 a2 "java/lang/String" := E2_74_75_76_77_78_79.wr W80
          have C2_74_75_76_77_78_79_80 : Fld Z h80 a2 "java/lang/String" "coder" "B" (.int (0 : Int32)) := C2_74_75_76_77_78_79.other W80 (Or.inl ne_a2_b75)
          have W2v_74_75_76_77_78_79_80 : Fld Z h80 a2 "java/lang/String" "value" "[B" (.ref b2) := W2v_74_75_76_77_78_79.other W80 (Or.inl ne_a2_b75)
          have V2_74_75_76_77_78_79_80 : AI Z h80 b2 .byte bs := V2_74_75_76_77_78_79.other W80 ne_b2_b75
          have Scs_74_75_76_77_78_79_80 : Sta Z h80 "java/lang/String" "COMPACT_STRINGS" "Z" (.int cz) := Scs_74_75_76_77_78_79.wr W80
          have Sf_74_75_76_77_78_79_80 : Sta Z h80 "jdk/internal/util/Preconditions" "SIOOBE_FORMATTER" "Ljava/util/function/BiFunction;" fm := Sf_74_75_76_77_78_79.wr W80
          have A74_75_76_77_78_79_80 : Exa Z h80 b74 "java/lang/String" := A74_75_76_77_78_79.wr W80
          have F_value_b74_75_76_77_78_79_80 : Fld Z h80 b74 "java/lang/String" "value" "[B" .null := F_value_b74_75_76_77_78_79.other W80 (Or.inl ne_b74_b75)
          have F_coder_b74_75_76_77_78_79_80 : Fld Z h80 b74 "java/lang/String" "coder" "B" (.int (0 : Int32)) := F_coder_b74_75_76_77_78_79.other W80 (Or.inl ne_b74_b75)
          have K80 : Keep h0 h80 [] := K79.wr W80 (Or.inr sz_b75)
          have Z80 : n0 ≤ h80.size := Nat.le_trans Z79 (Keep.of_wr W80).1
          have HK80 := Nat.le_trans HK79 (Keep.of_wr W80).1
          have N80 := Fr.snoc X80 N79 g_b75
          have V_b75_80 : AI Z h80 b75 .char [(nar .char (atF bs 0 p3 p4 p5 p6)), (nar .char (atF bs 1 p3 p4 p5 p6)), (nar .char (atF bs 2 p3 p4 p5 p6)), (nar .char (atF bs 3 p3 p4 p5 p6)), (nar .char (atF bs 4 p3 p4 p5 p6)), (0 : Int32), (0 : Int32), (0 : Int32), (0 : Int32)] := V80
          show Goes p e below KK T80 (mkF m 330 #[.val (.int p1), .val (.ref a2), .val (.int p3), .val (.int p4), .val (.int p5), .val (.int p6), .val (.int (atF bs 0 p3 p4 p5 p6)), .val (.int (atF bs 1 p3 p4 p5 p6)), .val (.int (atF bs 2 p3 p4 p5 p6)), .val (.int (atF bs 3 p3 p4 p5 p6)), .val (.int (atF bs 4 p3 p4 p5 p6)), .val (.int (atF bs 5 p3 p4 p5 p6)), .val (.int (atF bs 6 p3 p4 p5 p6)), .val (.int (atF bs 7 p3 p4 p5 p6)), .val (.int (atF bs 8 p3 p4 p5 p6)), .val (.int (atF bs 9 p3 p4 p5 p6)), .val (.int (atF bs 10 p3 p4 p5 p6)), .val (.int (atF bs 11 p3 p4 p5 p6))] [(.ref b75), (.ref b74), (.ref b74)])
          refine Goes.of (fun t => XS.dup X80.here hx rfl (hb hby d2_330) rfl rfl) ?_
          show Goes p e below KK T80 (mkF m 331 #[.val (.int p1), .val (.ref a2), .val (.int p3), .val (.int p4), .val (.int p5), .val (.int p6), .val (.int (atF bs 0 p3 p4 p5 p6)), .val (.int (atF bs 1 p3 p4 p5 p6)), .val (.int (atF bs 2 p3 p4 p5 p6)), .val (.int (atF bs 3 p3 p4 p5 p6)), .val (.int (atF bs 4 p3 p4 p5 p6)), .val (.int (atF bs 5 p3 p4 p5 p6)), .val (.int (atF bs 6 p3 p4 p5 p6)), .val (.int (atF bs 7 p3 p4 p5 p6)), .val (.int (atF bs 8 p3 p4 p5 p6)), .val (.int (atF bs 9 p3 p4 p5 p6)), .val (.int (atF bs 10 p3 p4 p5 p6)), .val (.int (atF bs 11 p3 p4 p5 p6))] [(.ref b75), (.ref b75), (.ref b74), (.ref b74)])
          refine Goes.of (fun t => XS.iconst X80.here hx rfl (hb hby d2_331)) ?_
          show Goes p e below KK T80 (mkF m 332 #[.val (.int p1), .val (.ref a2), .val (.int p3), .val (.int p4), .val (.int p5), .val (.int p6), .val (.int (atF bs 0 p3 p4 p5 p6)), .val (.int (atF bs 1 p3 p4 p5 p6)), .val (.int (atF bs 2 p3 p4 p5 p6)), .val (.int (atF bs 3 p3 p4 p5 p6)), .val (.int (atF bs 4 p3 p4 p5 p6)), .val (.int (atF bs 5 p3 p4 p5 p6)), .val (.int (atF bs 6 p3 p4 p5 p6)), .val (.int (atF bs 7 p3 p4 p5 p6)), .val (.int (atF bs 8 p3 p4 p5 p6)), .val (.int (atF bs 9 p3 p4 p5 p6)), .val (.int (atF bs 10 p3 p4 p5 p6)), .val (.int (atF bs 11 p3 p4 p5 p6))] [(.int (5 : Int32)), (.ref b75), (.ref b75), (.ref b74), (.ref b74)])
          refine Goes.of (fun t => XS.iload X80.here hx rfl (hb hby d2_332) rfl) ?_
          show Goes p e below KK T80 (mkF m 334 #[.val (.int p1), .val (.ref a2), .val (.int p3), .val (.int p4), .val (.int p5), .val (.int p6), .val (.int (atF bs 0 p3 p4 p5 p6)), .val (.int (atF bs 1 p3 p4 p5 p6)), .val (.int (atF bs 2 p3 p4 p5 p6)), .val (.int (atF bs 3 p3 p4 p5 p6)), .val (.int (atF bs 4 p3 p4 p5 p6)), .val (.int (atF bs 5 p3 p4 p5 p6)), .val (.int (atF bs 6 p3 p4 p5 p6)), .val (.int (atF bs 7 p3 p4 p5 p6)), .val (.int (atF bs 8 p3 p4 p5 p6)), .val (.int (atF bs 9 p3 p4 p5 p6)), .val (.int (atF bs 10 p3 p4 p5 p6)), .val (.int (atF bs 11 p3 p4 p5 p6))] [(.int (atF bs 5 p3 p4 p5 p6)), (.int (5 : Int32)), (.ref b75), (.ref b75), (.ref b74), (.ref b74)])
          obtain ⟨T81, h81, X81, e81, W81, V81, st81⟩ := AI.castore X80 hx hZw e80 V_b75_80 (i := 5) (j := (5 : Int32)) (rfl) ((by simp)) (g := (mkF m 334 #[.val (.int p1), .val (.ref a2), .val (.int p3), .val (.int p4), .val (.int p5), .val (.int p6), .val (.int (atF bs 0 p3 p4 p5 p6)), .val (.int (atF bs 1 p3 p4 p5 p6)), .val (.int (atF bs 2 p3 p4 p5 p6)), .val (.int (atF bs 3 p3 p4 p5 p6)), .val (.int (atF bs 4 p3 p4 p5 p6)), .val (.int (atF bs 5 p3 p4 p5 p6)), .val (.int (atF bs 6 p3 p4 p5 p6)), .val (.int (atF bs 7 p3 p4 p5 p6)), .val (.int (atF bs 8 p3 p4 p5 p6)), .val (.int (atF bs 9 p3 p4 p5 p6)), .val (.int (atF bs 10 p3 p4 p5 p6)), .val (.int (atF bs 11 p3 p4 p5 p6))] [(.int (atF bs 5 p3 p4 p5 p6)), (.int (5 : Int32)), (.ref b75), (.ref b75), (.ref b74), (.ref b74)])) rfl rfl (hb hby d2_334)
          refine Goes.of (st81) ?_
          have sf_b74_81 := Safe.wr W81 sf_b75_80 CR80.1 sf_b74_80
          have sf_b75_81 := Safe.wr W81 sf_b75_80 CR80.1 sf_b75_80
          have CR81 := CR80.trans (CHr.wr W81 sf_b75_80 CR80.1)
          have E2_74_75_76_77_78_79_80_81 : Exa Z h81 a2 "java/lang/String" := E2_74_75_76_77_78_79_80.wr W81
          have C2_74_75_76_77_78_79_80_81 : Fld Z h81 a2 "java/lang/String" "coder" "B" (.int (0 : Int32)) := C2_74_75_76_77_78_79_80.other W81 (Or.inl ne_a2_b75)
          have W2v_74_75_76_77_78_79_80_81 : Fld Z h81 a2 "java/lang/String" "value" "[B" (.ref b2) := W2v_74_75_76_77_78_79_80.other W81 (Or.inl ne_a2_b75)
          have V2_74_75_76_77_78_79_80_81 : AI Z h81 b2 .byte bs := V2_74_75_76_77_78_79_80.other W81 ne_b2_b75
          have Scs_74_75_76_77_78_79_80_81 : Sta Z h81 "java/lang/String" "COMPACT_STRINGS" "Z" (.int cz) := Scs_74_75_76_77_78_79_80.wr W81
          have Sf_74_75_76_77_78_79_80_81 : Sta Z h81 "jdk/internal/util/Preconditions" "SIOOBE_FORMATTER" "Ljava/util/function/BiFunction;" fm := Sf_74_75_76_77_78_79_80.wr W81
          have A74_75_76_77_78_79_80_81 : Exa Z h81 b74 "java/lang/String" := A74_75_76_77_78_79_80.wr W81
          have F_value_b74_75_76_77_78_79_80_81 : Fld Z h81 b74 "java/lang/String" "value" "[B" .null := F_value_b74_75_76_77_78_79_80.other W81 (Or.inl ne_b74_b75)
          have F_coder_b74_75_76_77_78_79_80_81 : Fld Z h81 b74 "java/lang/String" "coder" "B" (.int (0 : Int32)) := F_coder_b74_75_76_77_78_79_80.other W81 (Or.inl ne_b74_b75)
          have K81 : Keep h0 h81 [] := K80.wr W81 (Or.inr sz_b75)
          have Z81 : n0 ≤ h81.size := Nat.le_trans Z80 (Keep.of_wr W81).1
          have HK81 := Nat.le_trans HK80 (Keep.of_wr W81).1
          have N81 := Fr.snoc X81 N80 g_b75
          have V_b75_81 : AI Z h81 b75 .char [(nar .char (atF bs 0 p3 p4 p5 p6)), (nar .char (atF bs 1 p3 p4 p5 p6)), (nar .char (atF bs 2 p3 p4 p5 p6)), (nar .char (atF bs 3 p3 p4 p5 p6)), (nar .char (atF bs 4 p3 p4 p5 p6)), (nar .char (atF bs 5 p3 p4 p5 p6)), (0 : Int32), (0 : Int32), (0 : Int32)] := V81
          show Goes p e below KK T81 (mkF m 335 #[.val (.int p1), .val (.ref a2), .val (.int p3), .val (.int p4), .val (.int p5), .val (.int p6), .val (.int (atF bs 0 p3 p4 p5 p6)), .val (.int (atF bs 1 p3 p4 p5 p6)), .val (.int (atF bs 2 p3 p4 p5 p6)), .val (.int (atF bs 3 p3 p4 p5 p6)), .val (.int (atF bs 4 p3 p4 p5 p6)), .val (.int (atF bs 5 p3 p4 p5 p6)), .val (.int (atF bs 6 p3 p4 p5 p6)), .val (.int (atF bs 7 p3 p4 p5 p6)), .val (.int (atF bs 8 p3 p4 p5 p6)), .val (.int (atF bs 9 p3 p4 p5 p6)), .val (.int (atF bs 10 p3 p4 p5 p6)), .val (.int (atF bs 11 p3 p4 p5 p6))] [(.ref b75), (.ref b74), (.ref b74)])
          refine Goes.of (fun t => XS.dup X81.here hx rfl (hb hby d2_335) rfl rfl) ?_
          show Goes p e below KK T81 (mkF m 336 #[.val (.int p1), .val (.ref a2), .val (.int p3), .val (.int p4), .val (.int p5), .val (.int p6), .val (.int (atF bs 0 p3 p4 p5 p6)), .val (.int (atF bs 1 p3 p4 p5 p6)), .val (.int (atF bs 2 p3 p4 p5 p6)), .val (.int (atF bs 3 p3 p4 p5 p6)), .val (.int (atF bs 4 p3 p4 p5 p6)), .val (.int (atF bs 5 p3 p4 p5 p6)), .val (.int (atF bs 6 p3 p4 p5 p6)), .val (.int (atF bs 7 p3 p4 p5 p6)), .val (.int (atF bs 8 p3 p4 p5 p6)), .val (.int (atF bs 9 p3 p4 p5 p6)), .val (.int (atF bs 10 p3 p4 p5 p6)), .val (.int (atF bs 11 p3 p4 p5 p6))] [(.ref b75), (.ref b75), (.ref b74), (.ref b74)])
          refine Goes.of (fun t => XS.bipush X81.here hx rfl (hb hby d2_336)) ?_
          show Goes p e below KK T81 (mkF m 338 #[.val (.int p1), .val (.ref a2), .val (.int p3), .val (.int p4), .val (.int p5), .val (.int p6), .val (.int (atF bs 0 p3 p4 p5 p6)), .val (.int (atF bs 1 p3 p4 p5 p6)), .val (.int (atF bs 2 p3 p4 p5 p6)), .val (.int (atF bs 3 p3 p4 p5 p6)), .val (.int (atF bs 4 p3 p4 p5 p6)), .val (.int (atF bs 5 p3 p4 p5 p6)), .val (.int (atF bs 6 p3 p4 p5 p6)), .val (.int (atF bs 7 p3 p4 p5 p6)), .val (.int (atF bs 8 p3 p4 p5 p6)), .val (.int (atF bs 9 p3 p4 p5 p6)), .val (.int (atF bs 10 p3 p4 p5 p6)), .val (.int (atF bs 11 p3 p4 p5 p6))] [(.int (6 : Int32)), (.ref b75), (.ref b75), (.ref b74), (.ref b74)])
          refine Goes.of (fun t => XS.iload X81.here hx rfl (hb hby d2_338) rfl) ?_
          show Goes p e below KK T81 (mkF m 340 #[.val (.int p1), .val (.ref a2), .val (.int p3), .val (.int p4), .val (.int p5), .val (.int p6), .val (.int (atF bs 0 p3 p4 p5 p6)), .val (.int (atF bs 1 p3 p4 p5 p6)), .val (.int (atF bs 2 p3 p4 p5 p6)), .val (.int (atF bs 3 p3 p4 p5 p6)), .val (.int (atF bs 4 p3 p4 p5 p6)), .val (.int (atF bs 5 p3 p4 p5 p6)), .val (.int (atF bs 6 p3 p4 p5 p6)), .val (.int (atF bs 7 p3 p4 p5 p6)), .val (.int (atF bs 8 p3 p4 p5 p6)), .val (.int (atF bs 9 p3 p4 p5 p6)), .val (.int (atF bs 10 p3 p4 p5 p6)), .val (.int (atF bs 11 p3 p4 p5 p6))] [(.int (atF bs 6 p3 p4 p5 p6)), (.int (6 : Int32)), (.ref b75), (.ref b75), (.ref b74), (.ref b74)])
          obtain ⟨T82, h82, X82, e82, W82, V82, st82⟩ := AI.castore X81 hx hZw e81 V_b75_81 (i := 6) (j := (6 : Int32)) (rfl) ((by simp)) (g := (mkF m 340 #[.val (.int p1), .val (.ref a2), .val (.int p3), .val (.int p4), .val (.int p5), .val (.int p6), .val (.int (atF bs 0 p3 p4 p5 p6)), .val (.int (atF bs 1 p3 p4 p5 p6)), .val (.int (atF bs 2 p3 p4 p5 p6)), .val (.int (atF bs 3 p3 p4 p5 p6)), .val (.int (atF bs 4 p3 p4 p5 p6)), .val (.int (atF bs 5 p3 p4 p5 p6)), .val (.int (atF bs 6 p3 p4 p5 p6)), .val (.int (atF bs 7 p3 p4 p5 p6)), .val (.int (atF bs 8 p3 p4 p5 p6)), .val (.int (atF bs 9 p3 p4 p5 p6)), .val (.int (atF bs 10 p3 p4 p5 p6)), .val (.int (atF bs 11 p3 p4 p5 p6))] [(.int (atF bs 6 p3 p4 p5 p6)), (.int (6 : Int32)), (.ref b75), (.ref b75), (.ref b74), (.ref b74)])) rfl rfl (hb hby d2_340)
          refine Goes.of (st82) ?_
          have sf_b74_82 := Safe.wr W82 sf_b75_81 CR81.1 sf_b74_81
          have sf_b75_82 := Safe.wr W82 sf_b75_81 CR81.1 sf_b75_81
          have CR82 := CR81.trans (CHr.wr W82 sf_b75_81 CR81.1)
          have E2_74_75_76_77_78_79_80_81_82 : Exa Z h82 a2 "java/lang/String" := E2_74_75_76_77_78_79_80_81.wr W82
          have C2_74_75_76_77_78_79_80_81_82 : Fld Z h82 a2 "java/lang/String" "coder" "B" (.int (0 : Int32)) := C2_74_75_76_77_78_79_80_81.other W82 (Or.inl ne_a2_b75)
          have W2v_74_75_76_77_78_79_80_81_82 : Fld Z h82 a2 "java/lang/String" "value" "[B" (.ref b2) := W2v_74_75_76_77_78_79_80_81.other W82 (Or.inl ne_a2_b75)
          have V2_74_75_76_77_78_79_80_81_82 : AI Z h82 b2 .byte bs := V2_74_75_76_77_78_79_80_81.other W82 ne_b2_b75
          have Scs_74_75_76_77_78_79_80_81_82 : Sta Z h82 "java/lang/String" "COMPACT_STRINGS" "Z" (.int cz) := Scs_74_75_76_77_78_79_80_81.wr W82
          have Sf_74_75_76_77_78_79_80_81_82 : Sta Z h82 "jdk/internal/util/Preconditions" "SIOOBE_FORMATTER" "Ljava/util/function/BiFunction;" fm := Sf_74_75_76_77_78_79_80_81.wr W82
          have A74_75_76_77_78_79_80_81_82 : Exa Z h82 b74 "java/lang/String" := A74_75_76_77_78_79_80_81.wr W82
          have F_value_b74_75_76_77_78_79_80_81_82 : Fld Z h82 b74 "java/lang/String" "value" "[B" .null := F_value_b74_75_76_77_78_79_80_81.other W82 (Or.inl ne_b74_b75)
          have F_coder_b74_75_76_77_78_79_80_81_82 : Fld Z h82 b74 "java/lang/String" "coder" "B" (.int (0 : Int32)) := F_coder_b74_75_76_77_78_79_80_81.other W82 (Or.inl ne_b74_b75)
          have K82 : Keep h0 h82 [] := K81.wr W82 (Or.inr sz_b75)
          have Z82 : n0 ≤ h82.size := Nat.le_trans Z81 (Keep.of_wr W82).1
          have HK82 := Nat.le_trans HK81 (Keep.of_wr W82).1
          have N82 := Fr.snoc X82 N81 g_b75
          have V_b75_82 : AI Z h82 b75 .char [(nar .char (atF bs 0 p3 p4 p5 p6)), (nar .char (atF bs 1 p3 p4 p5 p6)), (nar .char (atF bs 2 p3 p4 p5 p6)), (nar .char (atF bs 3 p3 p4 p5 p6)), (nar .char (atF bs 4 p3 p4 p5 p6)), (nar .char (atF bs 5 p3 p4 p5 p6)), (nar .char (atF bs 6 p3 p4 p5 p6)), (0 : Int32), (0 : Int32)] := V82
          show Goes p e below KK T82 (mkF m 341 #[.val (.int p1), .val (.ref a2), .val (.int p3), .val (.int p4), .val (.int p5), .val (.int p6), .val (.int (atF bs 0 p3 p4 p5 p6)), .val (.int (atF bs 1 p3 p4 p5 p6)), .val (.int (atF bs 2 p3 p4 p5 p6)), .val (.int (atF bs 3 p3 p4 p5 p6)), .val (.int (atF bs 4 p3 p4 p5 p6)), .val (.int (atF bs 5 p3 p4 p5 p6)), .val (.int (atF bs 6 p3 p4 p5 p6)), .val (.int (atF bs 7 p3 p4 p5 p6)), .val (.int (atF bs 8 p3 p4 p5 p6)), .val (.int (atF bs 9 p3 p4 p5 p6)), .val (.int (atF bs 10 p3 p4 p5 p6)), .val (.int (atF bs 11 p3 p4 p5 p6))] [(.ref b75), (.ref b74), (.ref b74)])
          refine Goes.of (fun t => XS.dup X82.here hx rfl (hb hby d2_341) rfl rfl) ?_
          show Goes p e below KK T82 (mkF m 342 #[.val (.int p1), .val (.ref a2), .val (.int p3), .val (.int p4), .val (.int p5), .val (.int p6), .val (.int (atF bs 0 p3 p4 p5 p6)), .val (.int (atF bs 1 p3 p4 p5 p6)), .val (.int (atF bs 2 p3 p4 p5 p6)), .val (.int (atF bs 3 p3 p4 p5 p6)), .val (.int (atF bs 4 p3 p4 p5 p6)), .val (.int (atF bs 5 p3 p4 p5 p6)), .val (.int (atF bs 6 p3 p4 p5 p6)), .val (.int (atF bs 7 p3 p4 p5 p6)), .val (.int (atF bs 8 p3 p4 p5 p6)), .val (.int (atF bs 9 p3 p4 p5 p6)), .val (.int (atF bs 10 p3 p4 p5 p6)), .val (.int (atF bs 11 p3 p4 p5 p6))] [(.ref b75), (.ref b75), (.ref b74), (.ref b74)])
          refine Goes.of (fun t => XS.bipush X82.here hx rfl (hb hby d2_342)) ?_
          show Goes p e below KK T82 (mkF m 344 #[.val (.int p1), .val (.ref a2), .val (.int p3), .val (.int p4), .val (.int p5), .val (.int p6), .val (.int (atF bs 0 p3 p4 p5 p6)), .val (.int (atF bs 1 p3 p4 p5 p6)), .val (.int (atF bs 2 p3 p4 p5 p6)), .val (.int (atF bs 3 p3 p4 p5 p6)), .val (.int (atF bs 4 p3 p4 p5 p6)), .val (.int (atF bs 5 p3 p4 p5 p6)), .val (.int (atF bs 6 p3 p4 p5 p6)), .val (.int (atF bs 7 p3 p4 p5 p6)), .val (.int (atF bs 8 p3 p4 p5 p6)), .val (.int (atF bs 9 p3 p4 p5 p6)), .val (.int (atF bs 10 p3 p4 p5 p6)), .val (.int (atF bs 11 p3 p4 p5 p6))] [(.int (7 : Int32)), (.ref b75), (.ref b75), (.ref b74), (.ref b74)])
          refine Goes.of (fun t => XS.iload X82.here hx rfl (hb hby d2_344) rfl) ?_
          show Goes p e below KK T82 (mkF m 346 #[.val (.int p1), .val (.ref a2), .val (.int p3), .val (.int p4), .val (.int p5), .val (.int p6), .val (.int (atF bs 0 p3 p4 p5 p6)), .val (.int (atF bs 1 p3 p4 p5 p6)), .val (.int (atF bs 2 p3 p4 p5 p6)), .val (.int (atF bs 3 p3 p4 p5 p6)), .val (.int (atF bs 4 p3 p4 p5 p6)), .val (.int (atF bs 5 p3 p4 p5 p6)), .val (.int (atF bs 6 p3 p4 p5 p6)), .val (.int (atF bs 7 p3 p4 p5 p6)), .val (.int (atF bs 8 p3 p4 p5 p6)), .val (.int (atF bs 9 p3 p4 p5 p6)), .val (.int (atF bs 10 p3 p4 p5 p6)), .val (.int (atF bs 11 p3 p4 p5 p6))] [(.int (atF bs 7 p3 p4 p5 p6)), (.int (7 : Int32)), (.ref b75), (.ref b75), (.ref b74), (.ref b74)])
          obtain ⟨T83, h83, X83, e83, W83, V83, st83⟩ := AI.castore X82 hx hZw e82 V_b75_82 (i := 7) (j := (7 : Int32)) (rfl) ((by simp)) (g := (mkF m 346 #[.val (.int p1), .val (.ref a2), .val (.int p3), .val (.int p4), .val (.int p5), .val (.int p6), .val (.int (atF bs 0 p3 p4 p5 p6)), .val (.int (atF bs 1 p3 p4 p5 p6)), .val (.int (atF bs 2 p3 p4 p5 p6)), .val (.int (atF bs 3 p3 p4 p5 p6)), .val (.int (atF bs 4 p3 p4 p5 p6)), .val (.int (atF bs 5 p3 p4 p5 p6)), .val (.int (atF bs 6 p3 p4 p5 p6)), .val (.int (atF bs 7 p3 p4 p5 p6)), .val (.int (atF bs 8 p3 p4 p5 p6)), .val (.int (atF bs 9 p3 p4 p5 p6)), .val (.int (atF bs 10 p3 p4 p5 p6)), .val (.int (atF bs 11 p3 p4 p5 p6))] [(.int (atF bs 7 p3 p4 p5 p6)), (.int (7 : Int32)), (.ref b75), (.ref b75), (.ref b74), (.ref b74)])) rfl rfl (hb hby d2_346)
          refine Goes.of (st83) ?_
          have sf_b74_83 := Safe.wr W83 sf_b75_82 CR82.1 sf_b74_82
          have sf_b75_83 := Safe.wr W83 sf_b75_82 CR82.1 sf_b75_82
          have CR83 := CR82.trans (CHr.wr W83 sf_b75_82 CR82.1)
          have E2_74_75_76_77_78_79_80_81_82_83 : Exa Z h83 a2 "java/lang/String" := E2_74_75_76_77_78_79_80_81_82.wr W83
          have C2_74_75_76_77_78_79_80_81_82_83 : Fld Z h83 a2 "java/lang/String" "coder" "B" (.int (0 : Int32)) := C2_74_75_76_77_78_79_80_81_82.other W83 (Or.inl ne_a2_b75)
          have W2v_74_75_76_77_78_79_80_81_82_83 : Fld Z h83 a2 "java/lang/String" "value" "[B" (.ref b2) := W2v_74_75_76_77_78_79_80_81_82.other W83 (Or.inl ne_a2_b75)
          have V2_74_75_76_77_78_79_80_81_82_83 : AI Z h83 b2 .byte bs := V2_74_75_76_77_78_79_80_81_82.other W83 ne_b2_b75
          have Scs_74_75_76_77_78_79_80_81_82_83 : Sta Z h83 "java/lang/String" "COMPACT_STRINGS" "Z" (.int cz) := Scs_74_75_76_77_78_79_80_81_82.wr W83
          have Sf_74_75_76_77_78_79_80_81_82_83 : Sta Z h83 "jdk/internal/util/Preconditions" "SIOOBE_FORMATTER" "Ljava/util/function/BiFunction;" fm := Sf_74_75_76_77_78_79_80_81_82.wr W83
          have A74_75_76_77_78_79_80_81_82_83 : Exa Z h83 b74 "java/lang/String" := A74_75_76_77_78_79_80_81_82.wr W83
          have F_value_b74_75_76_77_78_79_80_81_82_83 : Fld Z h83 b74 "java/lang/String" "value" "[B" .null := F_value_b74_75_76_77_78_79_80_81_82.other W83 (Or.inl ne_b74_b75)
          have F_coder_b74_75_76_77_78_79_80_81_82_83 : Fld Z h83 b74 "java/lang/String" "coder" "B" (.int (0 : Int32)) := F_coder_b74_75_76_77_78_79_80_81_82.other W83 (Or.inl ne_b74_b75)
          have K83 : Keep h0 h83 [] := K82.wr W83 (Or.inr sz_b75)
          have Z83 : n0 ≤ h83.size := Nat.le_trans Z82 (Keep.of_wr W83).1
          have HK83 := Nat.le_trans HK82 (Keep.of_wr W83).1
          have N83 := Fr.snoc X83 N82 g_b75
          have V_b75_83 : AI Z h83 b75 .char [(nar .char (atF bs 0 p3 p4 p5 p6)), (nar .char (atF bs 1 p3 p4 p5 p6)), (nar .char (atF bs 2 p3 p4 p5 p6)), (nar .char (atF bs 3 p3 p4 p5 p6)), (nar .char (atF bs 4 p3 p4 p5 p6)), (nar .char (atF bs 5 p3 p4 p5 p6)), (nar .char (atF bs 6 p3 p4 p5 p6)), (nar .char (atF bs 7 p3 p4 p5 p6)), (0 : Int32)] := V83
          show Goes p e below KK T83 (mkF m 347 #[.val (.int p1), .val (.ref a2), .val (.int p3), .val (.int p4), .val (.int p5), .val (.int p6), .val (.int (atF bs 0 p3 p4 p5 p6)), .val (.int (atF bs 1 p3 p4 p5 p6)), .val (.int (atF bs 2 p3 p4 p5 p6)), .val (.int (atF bs 3 p3 p4 p5 p6)), .val (.int (atF bs 4 p3 p4 p5 p6)), .val (.int (atF bs 5 p3 p4 p5 p6)), .val (.int (atF bs 6 p3 p4 p5 p6)), .val (.int (atF bs 7 p3 p4 p5 p6)), .val (.int (atF bs 8 p3 p4 p5 p6)), .val (.int (atF bs 9 p3 p4 p5 p6)), .val (.int (atF bs 10 p3 p4 p5 p6)), .val (.int (atF bs 11 p3 p4 p5 p6))] [(.ref b75), (.ref b74), (.ref b74)])
          refine Goes.of (fun t => XS.dup X83.here hx rfl (hb hby d2_347) rfl rfl) ?_
          show Goes p e below KK T83 (mkF m 348 #[.val (.int p1), .val (.ref a2), .val (.int p3), .val (.int p4), .val (.int p5), .val (.int p6), .val (.int (atF bs 0 p3 p4 p5 p6)), .val (.int (atF bs 1 p3 p4 p5 p6)), .val (.int (atF bs 2 p3 p4 p5 p6)), .val (.int (atF bs 3 p3 p4 p5 p6)), .val (.int (atF bs 4 p3 p4 p5 p6)), .val (.int (atF bs 5 p3 p4 p5 p6)), .val (.int (atF bs 6 p3 p4 p5 p6)), .val (.int (atF bs 7 p3 p4 p5 p6)), .val (.int (atF bs 8 p3 p4 p5 p6)), .val (.int (atF bs 9 p3 p4 p5 p6)), .val (.int (atF bs 10 p3 p4 p5 p6)), .val (.int (atF bs 11 p3 p4 p5 p6))] [(.ref b75), (.ref b75), (.ref b74), (.ref b74)])
          refine Goes.of (fun t => XS.bipush X83.here hx rfl (hb hby d2_348)) ?_
          show Goes p e below KK T83 (mkF m 350 #[.val (.int p1), .val (.ref a2), .val (.int p3), .val (.int p4), .val (.int p5), .val (.int p6), .val (.int (atF bs 0 p3 p4 p5 p6)), .val (.int (atF bs 1 p3 p4 p5 p6)), .val (.int (atF bs 2 p3 p4 p5 p6)), .val (.int (atF bs 3 p3 p4 p5 p6)), .val (.int (atF bs 4 p3 p4 p5 p6)), .val (.int (atF bs 5 p3 p4 p5 p6)), .val (.int (atF bs 6 p3 p4 p5 p6)), .val (.int (atF bs 7 p3 p4 p5 p6)), .val (.int (atF bs 8 p3 p4 p5 p6)), .val (.int (atF bs 9 p3 p4 p5 p6)), .val (.int (atF bs 10 p3 p4 p5 p6)), .val (.int (atF bs 11 p3 p4 p5 p6))] [(.int (8 : Int32)), (.ref b75), (.ref b75), (.ref b74), (.ref b74)])
          refine Goes.of (fun t => XS.iload X83.here hx rfl (hb hby d2_350) rfl) ?_
          show Goes p e below KK T83 (mkF m 352 #[.val (.int p1), .val (.ref a2), .val (.int p3), .val (.int p4), .val (.int p5), .val (.int p6), .val (.int (atF bs 0 p3 p4 p5 p6)), .val (.int (atF bs 1 p3 p4 p5 p6)), .val (.int (atF bs 2 p3 p4 p5 p6)), .val (.int (atF bs 3 p3 p4 p5 p6)), .val (.int (atF bs 4 p3 p4 p5 p6)), .val (.int (atF bs 5 p3 p4 p5 p6)), .val (.int (atF bs 6 p3 p4 p5 p6)), .val (.int (atF bs 7 p3 p4 p5 p6)), .val (.int (atF bs 8 p3 p4 p5 p6)), .val (.int (atF bs 9 p3 p4 p5 p6)), .val (.int (atF bs 10 p3 p4 p5 p6)), .val (.int (atF bs 11 p3 p4 p5 p6))] [(.int (atF bs 8 p3 p4 p5 p6)), (.int (8 : Int32)), (.ref b75), (.ref b75), (.ref b74), (.ref b74)])
          obtain ⟨T84, h84, X84, e84, W84, V84, st84⟩ := AI.castore X83 hx hZw e83 V_b75_83 (i := 8) (j := (8 : Int32)) (rfl) ((by simp)) (g := (mkF m 352 #[.val (.int p1), .val (.ref a2), .val (.int p3), .val (.int p4), .val (.int p5), .val (.int p6), .val (.int (atF bs 0 p3 p4 p5 p6)), .val (.int (atF bs 1 p3 p4 p5 p6)), .val (.int (atF bs 2 p3 p4 p5 p6)), .val (.int (atF bs 3 p3 p4 p5 p6)), .val (.int (atF bs 4 p3 p4 p5 p6)), .val (.int (atF bs 5 p3 p4 p5 p6)), .val (.int (atF bs 6 p3 p4 p5 p6)), .val (.int (atF bs 7 p3 p4 p5 p6)), .val (.int (atF bs 8 p3 p4 p5 p6)), .val (.int (atF bs 9 p3 p4 p5 p6)), .val (.int (atF bs 10 p3 p4 p5 p6)), .val (.int (atF bs 11 p3 p4 p5 p6))] [(.int (atF bs 8 p3 p4 p5 p6)), (.int (8 : Int32)), (.ref b75), (.ref b75), (.ref b74), (.ref b74)])) rfl rfl (hb hby d2_352)
          refine Goes.of (st84) ?_
          have sf_b74_84 := Safe.wr W84 sf_b75_83 CR83.1 sf_b74_83
          have sf_b75_84 := Safe.wr W84 sf_b75_83 CR83.1 sf_b75_83
          have CR84 := CR83.trans (CHr.wr W84 sf_b75_83 CR83.1)
          have E2_74_75_76_77_78_79_80_81_82_83_84 : Exa Z h84 a2 "java/lang/String" := E2_74_75_76_77_78_79_80_81_82_83.wr W84
          have C2_74_75_76_77_78_79_80_81_82_83_84 : Fld Z h84 a2 "java/lang/String" "coder" "B" (.int (0 : Int32)) := C2_74_75_76_77_78_79_80_81_82_83.other W84 (Or.inl ne_a2_b75)
          have W2v_74_75_76_77_78_79_80_81_82_83_84 : Fld Z h84 a2 "java/lang/String" "value" "[B" (.ref b2) := W2v_74_75_76_77_78_79_80_81_82_83.other W84 (Or.inl ne_a2_b75)
          have V2_74_75_76_77_78_79_80_81_82_83_84 : AI Z h84 b2 .byte bs := V2_74_75_76_77_78_79_80_81_82_83.other W84 ne_b2_b75
          have Scs_74_75_76_77_78_79_80_81_82_83_84 : Sta Z h84 "java/lang/String" "COMPACT_STRINGS" "Z" (.int cz) := Scs_74_75_76_77_78_79_80_81_82_83.wr W84
          have Sf_74_75_76_77_78_79_80_81_82_83_84 : Sta Z h84 "jdk/internal/util/Preconditions" "SIOOBE_FORMATTER" "Ljava/util/function/BiFunction;" fm := Sf_74_75_76_77_78_79_80_81_82_83.wr W84
          have A74_75_76_77_78_79_80_81_82_83_84 : Exa Z h84 b74 "java/lang/String" := A74_75_76_77_78_79_80_81_82_83.wr W84
          have F_value_b74_75_76_77_78_79_80_81_82_83_84 : Fld Z h84 b74 "java/lang/String" "value" "[B" .null := F_value_b74_75_76_77_78_79_80_81_82_83.other W84 (Or.inl ne_b74_b75)
          have F_coder_b74_75_76_77_78_79_80_81_82_83_84 : Fld Z h84 b74 "java/lang/String" "coder" "B" (.int (0 : Int32)) := F_coder_b74_75_76_77_78_79_80_81_82_83.other W84 (Or.inl ne_b74_b75)
          have K84 : Keep h0 h84 [] := K83.wr W84 (Or.inr sz_b75)
          have Z84 : n0 ≤ h84.size := Nat.le_trans Z83 (Keep.of_wr W84).1
          have HK84 := Nat.le_trans HK83 (Keep.of_wr W84).1
          have N84 := Fr.snoc X84 N83 g_b75
          have V_b75_84 : AI Z h84 b75 .char [(nar .char (atF bs 0 p3 p4 p5 p6)), (nar .char (atF bs 1 p3 p4 p5 p6)), (nar .char (atF bs 2 p3 p4 p5 p6)), (nar .char (atF bs 3 p3 p4 p5 p6)), (nar .char (atF bs 4 p3 p4 p5 p6)), (nar .char (atF bs 5 p3 p4 p5 p6)), (nar .char (atF bs 6 p3 p4 p5 p6)), (nar .char (atF bs 7 p3 p4 p5 p6)), (nar .char (atF bs 8 p3 p4 p5 p6))] := V84
          show Goes p e below KK T84 (mkF m 353 #[.val (.int p1), .val (.ref a2), .val (.int p3), .val (.int p4), .val (.int p5), .val (.int p6), .val (.int (atF bs 0 p3 p4 p5 p6)), .val (.int (atF bs 1 p3 p4 p5 p6)), .val (.int (atF bs 2 p3 p4 p5 p6)), .val (.int (atF bs 3 p3 p4 p5 p6)), .val (.int (atF bs 4 p3 p4 p5 p6)), .val (.int (atF bs 5 p3 p4 p5 p6)), .val (.int (atF bs 6 p3 p4 p5 p6)), .val (.int (atF bs 7 p3 p4 p5 p6)), .val (.int (atF bs 8 p3 p4 p5 p6)), .val (.int (atF bs 9 p3 p4 p5 p6)), .val (.int (atF bs 10 p3 p4 p5 p6)), .val (.int (atF bs 11 p3 p4 p5 p6))] [(.ref b75), (.ref b74), (.ref b74)])
          obtain ⟨_, _, ⟨T85, L85, k85, n85⟩, -, X85, ⟨Lc85, hQ85, l85, y85, z85⟩, st85⟩ := X84.specialBack hx (y := (⟨"java/lang/String", "<init>", "([C)V"⟩ : MethodName)) rfl hownw (mvT hZw w_56) (mvT hZw w_57) (mvT hZw w_58) (by decide) (backOf (W := 1) (rm11N l Z a0 hw [] b74 b75 [(nar .char (atF bs 0 p3 p4 p5 p6)), (nar .char (atF bs 1 p3 p4 p5 p6)), (nar .char (atF bs 2 p3 p4 p5 p6)), (nar .char (atF bs 3 p3 p4 p5 p6)), (nar .char (atF bs 4 p3 p4 p5 p6)), (nar .char (atF bs 5 p3 p4 p5 p6)), (nar .char (atF bs 6 p3 p4 p5 p6)), (nar .char (atF bs 7 p3 p4 p5 p6)), (nar .char (atF bs 8 p3 p4 p5 p6))] 9 cz h84 n0 Z84 A74_75_76_77_78_79_80_81_82_83_84 F_coder_b74_75_76_77_78_79_80_81_82_83_84 F_value_b74_75_76_77_78_79_80_81_82_83_84 g_b74 V_b75_84 rfl (by simp) (by simp) (own_cs hbs hd hf 9) Scs_74_75_76_77_78_79_80_81_82_83_84 hcz) hZw w_58 w_1 (by decide) (by decide)) (g := (mkF m 353 #[.val (.int p1), .val (.ref a2), .val (.int p3), .val (.int p4), .val (.int p5), .val (.int p6), .val (.int (atF bs 0 p3 p4 p5 p6)), .val (.int (atF bs 1 p3 p4 p5 p6)), .val (.int (atF bs 2 p3 p4 p5 p6)), .val (.int (atF bs 3 p3 p4 p5 p6)), .val (.int (atF bs 4 p3 p4 p5 p6)), .val (.int (atF bs 5 p3 p4 p5 p6)), .val (.int (atF bs 6 p3 p4 p5 p6)), .val (.int (atF bs 7 p3 p4 p5 p6)), .val (.int (atF bs 8 p3 p4 p5 p6)), .val (.int (atF bs 9 p3 p4 p5 p6)), .val (.int (atF bs 10 p3 p4 p5 p6)), .val (.int (atF bs 11 p3 p4 p5 p6))] [(.ref b75), (.ref b74), (.ref b74)])) rfl (by rw [hml]; rfl) (Steps.refl _) (a := b74) (argsL := [(.ref b75)]) (rest := [(.ref b74)]) (lenOf pd_27 rfl) rfl (by show 2 * 0 + _ ≤ _; exact Nat.le_of_eq rfl) (hb hby d2_353) (fun _ _ => ⟨rfl, e84, (by decide : 2 + 1 ≤ _), (by decide : 13 + 12 ≤ _)⟩)
          dsimp only [Pt.U, Pt.locs, Pt.cells, Pt.slots] at X85 l85 y85 z85 st85 hQ85
          subst y85 z85
          obtain ⟨r85, rfl, N85q, Kc85, hb85, E85, Fc85, Fv85, V85⟩ := hQ85
          have N85 : Fr n0 L85 := by rw [l85]; exact Fr.app N84 N85q
          have ne_a2_r85 : a2 ≠ r85 := Nat.ne_of_lt (Nat.lt_of_lt_of_le E2_74_75_76_77_78_79_80_81_82_83_84.lt hb85)
          have ne_b2_r85 : b2 ≠ r85 := Nat.ne_of_lt (Nat.lt_of_lt_of_le V2_74_75_76_77_78_79_80_81_82_83_84.lt hb85)
          have ne_b74_r85 : b74 ≠ r85 := Nat.ne_of_lt (Nat.lt_of_lt_of_le A74_75_76_77_78_79_80_81_82_83_84.lt hb85)
          have ne_b75_r85 : b75 ≠ r85 := Nat.ne_of_lt (Nat.lt_of_lt_of_le V_b75_84.lt hb85)
          have g_r85 : n0 ≤ r85 := Nat.le_trans Z84 hb85
          have sz_r85 : h0.size ≤ r85 := Nat.le_trans K84.1 hb85
          have sf_b74_85 := Safe.keep Kc85 (sfS sf_b74_84 sf0) CR84.1 sf_b74_84
          have sf_b75_85 := Safe.keep Kc85 (sfS sf_b74_84 sf0) CR84.1 sf_b75_84
          have CR85 := CR84.trans (CHr.keep Kc85 (sfS sf_b74_84 sf0) CR84.1)
          have E2_74_75_76_77_78_79_80_81_82_83_84_85 : Exa Z T85.heap a2 "java/lang/String" := E2_74_75_76_77_78_79_80_81_82_83_84.keep Kc85
          have C2_74_75_76_77_78_79_80_81_82_83_84_85 : Fld Z T85.heap a2 "java/lang/String" "coder" "B" (.int (0 : Int32)) := C2_74_75_76_77_78_79_80_81_82_83_84.keep Kc85 (ninS ne_a2_b74 nin0)
          have W2v_74_75_76_77_78_79_80_81_82_83_84_85 : Fld Z T85.heap a2 "java/lang/String" "value" "[B" (.ref b2) := W2v_74_75_76_77_78_79_80_81_82_83_84.keep Kc85 (ninS ne_a2_b74 nin0)
          have V2_74_75_76_77_78_79_80_81_82_83_84_85 : AI Z T85.heap b2 .byte bs := V2_74_75_76_77_78_79_80_81_82_83_84.keep Kc85 (ninS ne_b2_b74 nin0)
          have A74_75_76_77_78_79_80_81_82_83_84_85 : Exa Z T85.heap b74 "java/lang/String" := A74_75_76_77_78_79_80_81_82_83_84.keep Kc85
          have K85 : Keep h0 T85.heap [] := K84.trans Kc85 (allS (Or.inr sz_b74) all0)
          have Z85 : n0 ≤ T85.heap.size := Nat.le_trans Z84 Kc85.1
          have HK85 := Nat.le_trans HK84 Kc85.1
          have e85 : T85.heap = T85.heap := rfl
          refine Goes.tr st85 ?_
          show Goes p e below KK T85 (mkF m 356 #[.val (.int p1), .val (.ref a2), .val (.int p3), .val (.int p4), .val (.int p5), .val (.int p6), .val (.int (atF bs 0 p3 p4 p5 p6)), .val (.int (atF bs 1 p3 p4 p5 p6)), .val (.int (atF bs 2 p3 p4 p5 p6)), .val (.int (atF bs 3 p3 p4 p5 p6)), .val (.int (atF bs 4 p3 p4 p5 p6)), .val (.int (atF bs 5 p3 p4 p5 p6)), .val (.int (atF bs 6 p3 p4 p5 p6)), .val (.int (atF bs 7 p3 p4 p5 p6)), .val (.int (atF bs 8 p3 p4 p5 p6)), .val (.int (atF bs 9 p3 p4 p5 p6)), .val (.int (atF bs 10 p3 p4 p5 p6)), .val (.int (atF bs 11 p3 p4 p5 p6))] [(.ref b74)])
          have hkk' : kk = 9 := by
            have z0 : (0 : Int32).toInt = 0 := rfl
            have z7 : (7 : Int32).toInt = 7 := rfl
            have z8 : (8 : Int32).toInt = 8 := rfl
            have z9 : (9 : Int32).toInt = 9 := rfl
            have z10 : (10 : Int32).toInt = 10 := rfl
            have z11 : (11 : Int32).toInt = 11 := rfl
            have z12 : (12 : Int32).toInt = 12 := rfl
            have qhc163 : ¬ p1.toInt = (0 : Int32).toInt := fun q => hc163 (Int32.toInt_inj.mp q)
            have qhc180 : ¬ p1.toInt = (7 : Int32).toInt := fun q => hc180 (Int32.toInt_inj.mp q)
            have qhc234 : ¬ p1.toInt = (8 : Int32).toInt := fun q => hc234 (Int32.toInt_inj.mp q)
            have qhc294 := congrArg Int32.toInt hc294
            omega
          subst hkk'
          rw [← hKK]
          refine Goes.retRefH X85 HS0 (by rw [e85]; exact HK85) (by rw [e85, hh]; exact CR85.trans (CHv.at X85 hZw hEL CR85.1)) hx hlk rfl rfl Bd.returns (hb hby d2_356) ?_ (by decide) (by decide)
          rw [e85]
          exact ⟨b74, r85, rfl, N85, K85, E85, Fc85, Fv85, V85⟩
        · refine Goes.of (fun t => XS.icmpYes X49.here hx rfl (pc0 := 294) (pc' := 357) rfl (hb hby d2_294) rfl (feq hc294).2 (by decide) (by decide)) ?_
          show Goes p e below KK T49 (mkF m 357 #[.val (.int p1), .val (.ref a2), .val (.int p3), .val (.int p4), .val (.int p5), .val (.int p6), .val (.int (atF bs 0 p3 p4 p5 p6)), .val (.int (atF bs 1 p3 p4 p5 p6)), .val (.int (atF bs 2 p3 p4 p5 p6)), .val (.int (atF bs 3 p3 p4 p5 p6)), .val (.int (atF bs 4 p3 p4 p5 p6)), .val (.int (atF bs 5 p3 p4 p5 p6)), .val (.int (atF bs 6 p3 p4 p5 p6)), .val (.int (atF bs 7 p3 p4 p5 p6)), .val (.int (atF bs 8 p3 p4 p5 p6)), .val (.int (atF bs 9 p3 p4 p5 p6)), .val (.int (atF bs 10 p3 p4 p5 p6)), .val (.int (atF bs 11 p3 p4 p5 p6))] [])
          refine Goes.of (fun t => XS.iloadN X49.here hx rfl (hb hby d2_357) rfl) ?_
          show Goes p e below KK T49 (mkF m 358 #[.val (.int p1), .val (.ref a2), .val (.int p3), .val (.int p4), .val (.int p5), .val (.int p6), .val (.int (atF bs 0 p3 p4 p5 p6)), .val (.int (atF bs 1 p3 p4 p5 p6)), .val (.int (atF bs 2 p3 p4 p5 p6)), .val (.int (atF bs 3 p3 p4 p5 p6)), .val (.int (atF bs 4 p3 p4 p5 p6)), .val (.int (atF bs 5 p3 p4 p5 p6)), .val (.int (atF bs 6 p3 p4 p5 p6)), .val (.int (atF bs 7 p3 p4 p5 p6)), .val (.int (atF bs 8 p3 p4 p5 p6)), .val (.int (atF bs 9 p3 p4 p5 p6)), .val (.int (atF bs 10 p3 p4 p5 p6)), .val (.int (atF bs 11 p3 p4 p5 p6))] [(.int p1)])
          refine Goes.of (fun t => XS.bipush X49.here hx rfl (hb hby d2_358)) ?_
          show Goes p e below KK T49 (mkF m 360 #[.val (.int p1), .val (.ref a2), .val (.int p3), .val (.int p4), .val (.int p5), .val (.int p6), .val (.int (atF bs 0 p3 p4 p5 p6)), .val (.int (atF bs 1 p3 p4 p5 p6)), .val (.int (atF bs 2 p3 p4 p5 p6)), .val (.int (atF bs 3 p3 p4 p5 p6)), .val (.int (atF bs 4 p3 p4 p5 p6)), .val (.int (atF bs 5 p3 p4 p5 p6)), .val (.int (atF bs 6 p3 p4 p5 p6)), .val (.int (atF bs 7 p3 p4 p5 p6)), .val (.int (atF bs 8 p3 p4 p5 p6)), .val (.int (atF bs 9 p3 p4 p5 p6)), .val (.int (atF bs 10 p3 p4 p5 p6)), .val (.int (atF bs 11 p3 p4 p5 p6))] [(.int (10 : Int32)), (.int p1)])
          by_cases hc360 : p1 = (10 : Int32)
          · refine Goes.of (fun t => XS.icmpNo X49.here hx rfl (hb hby d2_360) rfl (teq hc360).2) ?_
            show Goes p e below KK T49 (mkF m 363 #[.val (.int p1), .val (.ref a2), .val (.int p3), .val (.int p4), .val (.int p5), .val (.int p6), .val (.int (atF bs 0 p3 p4 p5 p6)), .val (.int (atF bs 1 p3 p4 p5 p6)), .val (.int (atF bs 2 p3 p4 p5 p6)), .val (.int (atF bs 3 p3 p4 p5 p6)), .val (.int (atF bs 4 p3 p4 p5 p6)), .val (.int (atF bs 5 p3 p4 p5 p6)), .val (.int (atF bs 6 p3 p4 p5 p6)), .val (.int (atF bs 7 p3 p4 p5 p6)), .val (.int (atF bs 8 p3 p4 p5 p6)), .val (.int (atF bs 9 p3 p4 p5 p6)), .val (.int (atF bs 10 p3 p4 p5 p6)), .val (.int (atF bs 11 p3 p4 p5 p6))] [])
            obtain ⟨T88, h88, X88, e88, E88, A88, D88, -, st88⟩ := newO X49 hx hZw hownw w_54 w_2 w_1 e49 (g := (mkF m 363 #[.val (.int p1), .val (.ref a2), .val (.int p3), .val (.int p4), .val (.int p5), .val (.int p6), .val (.int (atF bs 0 p3 p4 p5 p6)), .val (.int (atF bs 1 p3 p4 p5 p6)), .val (.int (atF bs 2 p3 p4 p5 p6)), .val (.int (atF bs 3 p3 p4 p5 p6)), .val (.int (atF bs 4 p3 p4 p5 p6)), .val (.int (atF bs 5 p3 p4 p5 p6)), .val (.int (atF bs 6 p3 p4 p5 p6)), .val (.int (atF bs 7 p3 p4 p5 p6)), .val (.int (atF bs 8 p3 p4 p5 p6)), .val (.int (atF bs 9 p3 p4 p5 p6)), .val (.int (atF bs 10 p3 p4 p5 p6)), .val (.int (atF bs 11 p3 p4 p5 p6))] [])) rfl (hb hby d2_363) (by decide) (by decide)
            obtain ⟨b88, g88⟩ : ∃ z, z = h0.size := ⟨_, rfl⟩
            rw [← g88] at A88 D88 st88
            refine Goes.of (st88) ?_
            have ne_a2_b88 : a2 ≠ b88 := Nat.ne_of_lt (Nat.lt_of_lt_of_le E2.lt (Nat.le_of_eq g88.symm))
            have ne_b2_b88 : b2 ≠ b88 := Nat.ne_of_lt (Nat.lt_of_lt_of_le V2.lt (Nat.le_of_eq g88.symm))
            have g_b88 : n0 ≤ b88 := Nat.le_trans Z0 (Nat.le_of_eq g88.symm)
            have sz_b88 : h0.size ≤ b88 := Nat.le_trans (Keep.refl h0 []).1 (Nat.le_of_eq g88.symm)
            have sf_b88 : Safe Z EL0 s.vm h0 b88 := Safe.new (Nat.le_of_eq g88.symm)
            have sf_b88_88 := Safe.ext E88 CR0.1 sf_b88
            have CR88 := CR0.trans (CHr.ext E88 CR0.1)
            have E2_88 : Exa Z h88 a2 "java/lang/String" := E2.ext E88
            have C2_88 : Fld Z h88 a2 "java/lang/String" "coder" "B" (.int (0 : Int32)) := C2.ext E88
            have W2v_88 : Fld Z h88 a2 "java/lang/String" "value" "[B" (.ref b2) := W2v.ext E88
            have V2_88 : AI Z h88 b2 .byte bs := V2.ext E88
            have Scs_88 : Sta Z h88 "java/lang/String" "COMPACT_STRINGS" "Z" (.int cz) := Scs.ext E88
            have Sf_88 : Sta Z h88 "jdk/internal/util/Preconditions" "SIOOBE_FORMATTER" "Ljava/util/function/BiFunction;" fm := Sf.ext E88
            have K88 : Keep h0 h88 [] := (Keep.refl h0 []).ext E88
            have Z88 : n0 ≤ h88.size := Nat.le_trans Z0 E88.1
            have HK88 := Nat.le_trans HK0 E88.1
            have F_value_b88 : Fld Z h88 b88 "java/lang/String" "value" "[B" .null := D88 (Or.inr w_4) (ty := (.array .byte)) (by decide)
            have F_coder_b88 : Fld Z h88 b88 "java/lang/String" "coder" "B" (.int (0 : Int32)) := D88 (Or.inr w_5) (ty := .byte) (by decide)
            show Goes p e below KK T88 (mkF m 366 #[.val (.int p1), .val (.ref a2), .val (.int p3), .val (.int p4), .val (.int p5), .val (.int p6), .val (.int (atF bs 0 p3 p4 p5 p6)), .val (.int (atF bs 1 p3 p4 p5 p6)), .val (.int (atF bs 2 p3 p4 p5 p6)), .val (.int (atF bs 3 p3 p4 p5 p6)), .val (.int (atF bs 4 p3 p4 p5 p6)), .val (.int (atF bs 5 p3 p4 p5 p6)), .val (.int (atF bs 6 p3 p4 p5 p6)), .val (.int (atF bs 7 p3 p4 p5 p6)), .val (.int (atF bs 8 p3 p4 p5 p6)), .val (.int (atF bs 9 p3 p4 p5 p6)), .val (.int (atF bs 10 p3 p4 p5 p6)), .val (.int (atF bs 11 p3 p4 p5 p6))] [(.ref b88)])
            refine Goes.of (fun t => XS.dup X88.here hx rfl (hb hby d2_366) rfl rfl) ?_
            show Goes p e below KK T88 (mkF m 367 #[.val (.int p1), .val (.ref a2), .val (.int p3), .val (.int p4), .val (.int p5), .val (.int p6), .val (.int (atF bs 0 p3 p4 p5 p6)), .val (.int (atF bs 1 p3 p4 p5 p6)), .val (.int (atF bs 2 p3 p4 p5 p6)), .val (.int (atF bs 3 p3 p4 p5 p6)), .val (.int (atF bs 4 p3 p4 p5 p6)), .val (.int (atF bs 5 p3 p4 p5 p6)), .val (.int (atF bs 6 p3 p4 p5 p6)), .val (.int (atF bs 7 p3 p4 p5 p6)), .val (.int (atF bs 8 p3 p4 p5 p6)), .val (.int (atF bs 9 p3 p4 p5 p6)), .val (.int (atF bs 10 p3 p4 p5 p6)), .val (.int (atF bs 11 p3 p4 p5 p6))] [(.ref b88), (.ref b88)])
            refine Goes.of (fun t => XS.bipush X88.here hx rfl (hb hby d2_367)) ?_
            show Goes p e below KK T88 (mkF m 369 #[.val (.int p1), .val (.ref a2), .val (.int p3), .val (.int p4), .val (.int p5), .val (.int p6), .val (.int (atF bs 0 p3 p4 p5 p6)), .val (.int (atF bs 1 p3 p4 p5 p6)), .val (.int (atF bs 2 p3 p4 p5 p6)), .val (.int (atF bs 3 p3 p4 p5 p6)), .val (.int (atF bs 4 p3 p4 p5 p6)), .val (.int (atF bs 5 p3 p4 p5 p6)), .val (.int (atF bs 6 p3 p4 p5 p6)), .val (.int (atF bs 7 p3 p4 p5 p6)), .val (.int (atF bs 8 p3 p4 p5 p6)), .val (.int (atF bs 9 p3 p4 p5 p6)), .val (.int (atF bs 10 p3 p4 p5 p6)), .val (.int (atF bs 11 p3 p4 p5 p6))] [(.int (10 : Int32)), (.ref b88), (.ref b88)])
            obtain ⟨T89, h89, k89, X89, e89, E89, A89, st89⟩ := newP (aty := .char) X88 hx hZw w_55 e88 (g := (mkF m 369 #[.val (.int p1), .val (.ref a2), .val (.int p3), .val (.int p4), .val (.int p5), .val (.int p6), .val (.int (atF bs 0 p3 p4 p5 p6)), .val (.int (atF bs 1 p3 p4 p5 p6)), .val (.int (atF bs 2 p3 p4 p5 p6)), .val (.int (atF bs 3 p3 p4 p5 p6)), .val (.int (atF bs 4 p3 p4 p5 p6)), .val (.int (atF bs 5 p3 p4 p5 p6)), .val (.int (atF bs 6 p3 p4 p5 p6)), .val (.int (atF bs 7 p3 p4 p5 p6)), .val (.int (atF bs 8 p3 p4 p5 p6)), .val (.int (atF bs 9 p3 p4 p5 p6)), .val (.int (atF bs 10 p3 p4 p5 p6)), .val (.int (atF bs 11 p3 p4 p5 p6))] [(.int (10 : Int32)), (.ref b88), (.ref b88)])) rfl (hb hby d2_369) rfl (by decide) (cap := 10) (by decide) (by decide) (by decide) (by decide)
            obtain ⟨b89, g89⟩ : ∃ z, z = h88.size := ⟨_, rfl⟩
            rw [← g89] at A89 st89
            refine Goes.of (st89) ?_
            have ne_a2_b89 : a2 ≠ b89 := Nat.ne_of_lt (Nat.lt_of_lt_of_le E2_88.lt (Nat.le_of_eq g89.symm))
            have ne_b2_b89 : b2 ≠ b89 := Nat.ne_of_lt (Nat.lt_of_lt_of_le V2_88.lt (Nat.le_of_eq g89.symm))
            have ne_b88_b89 : b88 ≠ b89 := Nat.ne_of_lt (Nat.lt_of_lt_of_le A88.lt (Nat.le_of_eq g89.symm))
            have g_b89 : n0 ≤ b89 := Nat.le_trans Z88 (Nat.le_of_eq g89.symm)
            have sz_b89 : h0.size ≤ b89 := Nat.le_trans K88.1 (Nat.le_of_eq g89.symm)
            have sf_b89 : Safe Z EL0 s.vm h88 b89 := Safe.new (Nat.le_of_eq g89.symm)
            have sf_b88_89 := Safe.ext E89 CR88.1 sf_b88_88
            have sf_b89_89 := Safe.ext E89 CR88.1 sf_b89
            have CR89 := CR88.trans (CHr.ext E89 CR88.1)
            have E2_88_89 : Exa Z h89 a2 "java/lang/String" := E2_88.ext E89
            have C2_88_89 : Fld Z h89 a2 "java/lang/String" "coder" "B" (.int (0 : Int32)) := C2_88.ext E89
            have W2v_88_89 : Fld Z h89 a2 "java/lang/String" "value" "[B" (.ref b2) := W2v_88.ext E89
            have V2_88_89 : AI Z h89 b2 .byte bs := V2_88.ext E89
            have Scs_88_89 : Sta Z h89 "java/lang/String" "COMPACT_STRINGS" "Z" (.int cz) := Scs_88.ext E89
            have Sf_88_89 : Sta Z h89 "jdk/internal/util/Preconditions" "SIOOBE_FORMATTER" "Ljava/util/function/BiFunction;" fm := Sf_88.ext E89
            have A88_89 : Exa Z h89 b88 "java/lang/String" := A88.ext E89
            have F_value_b88_89 : Fld Z h89 b88 "java/lang/String" "value" "[B" .null := F_value_b88.ext E89
            have F_coder_b88_89 : Fld Z h89 b88 "java/lang/String" "coder" "B" (.int (0 : Int32)) := F_coder_b88.ext E89
            have K89 : Keep h0 h89 [] := K88.ext E89
            have Z89 : n0 ≤ h89.size := Nat.le_trans Z88 E89.1
            have HK89 := Nat.le_trans HK88 E89.1
            have V_b89 : AI Z h89 b89 .char [(0 : Int32), (0 : Int32), (0 : Int32), (0 : Int32), (0 : Int32), (0 : Int32), (0 : Int32), (0 : Int32), (0 : Int32), (0 : Int32)] := AI.fresh (k := 10) (by simp) (rfl) A89
            show Goes p e below KK T89 (mkF m 371 #[.val (.int p1), .val (.ref a2), .val (.int p3), .val (.int p4), .val (.int p5), .val (.int p6), .val (.int (atF bs 0 p3 p4 p5 p6)), .val (.int (atF bs 1 p3 p4 p5 p6)), .val (.int (atF bs 2 p3 p4 p5 p6)), .val (.int (atF bs 3 p3 p4 p5 p6)), .val (.int (atF bs 4 p3 p4 p5 p6)), .val (.int (atF bs 5 p3 p4 p5 p6)), .val (.int (atF bs 6 p3 p4 p5 p6)), .val (.int (atF bs 7 p3 p4 p5 p6)), .val (.int (atF bs 8 p3 p4 p5 p6)), .val (.int (atF bs 9 p3 p4 p5 p6)), .val (.int (atF bs 10 p3 p4 p5 p6)), .val (.int (atF bs 11 p3 p4 p5 p6))] [(.ref b89), (.ref b88), (.ref b88)])
            refine Goes.of (fun t => XS.dup X89.here hx rfl (hb hby d2_371) rfl rfl) ?_
            show Goes p e below KK T89 (mkF m 372 #[.val (.int p1), .val (.ref a2), .val (.int p3), .val (.int p4), .val (.int p5), .val (.int p6), .val (.int (atF bs 0 p3 p4 p5 p6)), .val (.int (atF bs 1 p3 p4 p5 p6)), .val (.int (atF bs 2 p3 p4 p5 p6)), .val (.int (atF bs 3 p3 p4 p5 p6)), .val (.int (atF bs 4 p3 p4 p5 p6)), .val (.int (atF bs 5 p3 p4 p5 p6)), .val (.int (atF bs 6 p3 p4 p5 p6)), .val (.int (atF bs 7 p3 p4 p5 p6)), .val (.int (atF bs 8 p3 p4 p5 p6)), .val (.int (atF bs 9 p3 p4 p5 p6)), .val (.int (atF bs 10 p3 p4 p5 p6)), .val (.int (atF bs 11 p3 p4 p5 p6))] [(.ref b89), (.ref b89), (.ref b88), (.ref b88)])
            refine Goes.of (fun t => XS.iconst X89.here hx rfl (hb hby d2_372)) ?_
            show Goes p e below KK T89 (mkF m 373 #[.val (.int p1), .val (.ref a2), .val (.int p3), .val (.int p4), .val (.int p5), .val (.int p6), .val (.int (atF bs 0 p3 p4 p5 p6)), .val (.int (atF bs 1 p3 p4 p5 p6)), .val (.int (atF bs 2 p3 p4 p5 p6)), .val (.int (atF bs 3 p3 p4 p5 p6)), .val (.int (atF bs 4 p3 p4 p5 p6)), .val (.int (atF bs 5 p3 p4 p5 p6)), .val (.int (atF bs 6 p3 p4 p5 p6)), .val (.int (atF bs 7 p3 p4 p5 p6)), .val (.int (atF bs 8 p3 p4 p5 p6)), .val (.int (atF bs 9 p3 p4 p5 p6)), .val (.int (atF bs 10 p3 p4 p5 p6)), .val (.int (atF bs 11 p3 p4 p5 p6))] [(.int (0 : Int32)), (.ref b89), (.ref b89), (.ref b88), (.ref b88)])
            refine Goes.of (fun t => XS.iload X89.here hx rfl (hb hby d2_373) rfl) ?_
            show Goes p e below KK T89 (mkF m 375 #[.val (.int p1), .val (.ref a2), .val (.int p3), .val (.int p4), .val (.int p5), .val (.int p6), .val (.int (atF bs 0 p3 p4 p5 p6)), .val (.int (atF bs 1 p3 p4 p5 p6)), .val (.int (atF bs 2 p3 p4 p5 p6)), .val (.int (atF bs 3 p3 p4 p5 p6)), .val (.int (atF bs 4 p3 p4 p5 p6)), .val (.int (atF bs 5 p3 p4 p5 p6)), .val (.int (atF bs 6 p3 p4 p5 p6)), .val (.int (atF bs 7 p3 p4 p5 p6)), .val (.int (atF bs 8 p3 p4 p5 p6)), .val (.int (atF bs 9 p3 p4 p5 p6)), .val (.int (atF bs 10 p3 p4 p5 p6)), .val (.int (atF bs 11 p3 p4 p5 p6))] [(.int (atF bs 0 p3 p4 p5 p6)), (.int (0 : Int32)), (.ref b89), (.ref b89), (.ref b88), (.ref b88)])
            obtain ⟨T90, h90, X90, e90, W90, V90, st90⟩ := AI.castore X89 hx hZw e89 V_b89 (i := 0) (j := (0 : Int32)) (rfl) ((by simp)) (g := (mkF m 375 #[.val (.int p1), .val (.ref a2), .val (.int p3), .val (.int p4), .val (.int p5), .val (.int p6), .val (.int (atF bs 0 p3 p4 p5 p6)), .val (.int (atF bs 1 p3 p4 p5 p6)), .val (.int (atF bs 2 p3 p4 p5 p6)), .val (.int (atF bs 3 p3 p4 p5 p6)), .val (.int (atF bs 4 p3 p4 p5 p6)), .val (.int (atF bs 5 p3 p4 p5 p6)), .val (.int (atF bs 6 p3 p4 p5 p6)), .val (.int (atF bs 7 p3 p4 p5 p6)), .val (.int (atF bs 8 p3 p4 p5 p6)), .val (.int (atF bs 9 p3 p4 p5 p6)), .val (.int (atF bs 10 p3 p4 p5 p6)), .val (.int (atF bs 11 p3 p4 p5 p6))] [(.int (atF bs 0 p3 p4 p5 p6)), (.int (0 : Int32)), (.ref b89), (.ref b89), (.ref b88), (.ref b88)])) rfl rfl (hb hby d2_375)
            refine Goes.of (st90) ?_
            have sf_b88_90 := Safe.wr W90 sf_b89_89 CR89.1 sf_b88_89
            have sf_b89_90 := Safe.wr W90 sf_b89_89 CR89.1 sf_b89_89
            have CR90 := CR89.trans (CHr.wr W90 sf_b89_89 CR89.1)
            have E2_88_89_90 : Exa Z h90 a2 "java/lang/String" := E2_88_89.wr W90
            have C2_88_89_90 : Fld Z h90 a2 "java/lang/String" "coder" "B" (.int (0 : Int32)) := C2_88_89.other W90 (Or.inl ne_a2_b89)
            have W2v_88_89_90 : Fld Z h90 a2 "java/lang/String" "value" "[B" (.ref b2) := W2v_88_89.other W90 (Or.inl ne_a2_b89)
            have V2_88_89_90 : AI Z h90 b2 .byte bs := V2_88_89.other W90 ne_b2_b89
            have Scs_88_89_90 : Sta Z h90 "java/lang/String" "COMPACT_STRINGS" "Z" (.int cz) := Scs_88_89.wr W90
            have Sf_88_89_90 : Sta Z h90 "jdk/internal/util/Preconditions" "SIOOBE_FORMATTER" "Ljava/util/function/BiFunction;" fm := Sf_88_89.wr W90
            have A88_89_90 : Exa Z h90 b88 "java/lang/String" := A88_89.wr W90
            have F_value_b88_89_90 : Fld Z h90 b88 "java/lang/String" "value" "[B" .null := F_value_b88_89.other W90 (Or.inl ne_b88_b89)
            have F_coder_b88_89_90 : Fld Z h90 b88 "java/lang/String" "coder" "B" (.int (0 : Int32)) := F_coder_b88_89.other W90 (Or.inl ne_b88_b89)
            have K90 : Keep h0 h90 [] := K89.wr W90 (Or.inr sz_b89)
            have Z90 : n0 ≤ h90.size := Nat.le_trans Z89 (Keep.of_wr W90).1
            have HK90 := Nat.le_trans HK89 (Keep.of_wr W90).1
            have N90 := Fr.snoc X90 N49 g_b89
            have V_b89_90 : AI Z h90 b89 .char [(nar .char (atF bs 0 p3 p4 p5 p6)), (0 : Int32), (0 : Int32), (0 : Int32), (0 : Int32), (0 : Int32), (0 : Int32), (0 : Int32), (0 : Int32), (0 : Int32)] := V90
            show Goes p e below KK T90 (mkF m 376 #[.val (.int p1), .val (.ref a2), .val (.int p3), .val (.int p4), .val (.int p5), .val (.int p6), .val (.int (atF bs 0 p3 p4 p5 p6)), .val (.int (atF bs 1 p3 p4 p5 p6)), .val (.int (atF bs 2 p3 p4 p5 p6)), .val (.int (atF bs 3 p3 p4 p5 p6)), .val (.int (atF bs 4 p3 p4 p5 p6)), .val (.int (atF bs 5 p3 p4 p5 p6)), .val (.int (atF bs 6 p3 p4 p5 p6)), .val (.int (atF bs 7 p3 p4 p5 p6)), .val (.int (atF bs 8 p3 p4 p5 p6)), .val (.int (atF bs 9 p3 p4 p5 p6)), .val (.int (atF bs 10 p3 p4 p5 p6)), .val (.int (atF bs 11 p3 p4 p5 p6))] [(.ref b89), (.ref b88), (.ref b88)])
            refine Goes.of (fun t => XS.dup X90.here hx rfl (hb hby d2_376) rfl rfl) ?_
            show Goes p e below KK T90 (mkF m 377 #[.val (.int p1), .val (.ref a2), .val (.int p3), .val (.int p4), .val (.int p5), .val (.int p6), .val (.int (atF bs 0 p3 p4 p5 p6)), .val (.int (atF bs 1 p3 p4 p5 p6)), .val (.int (atF bs 2 p3 p4 p5 p6)), .val (.int (atF bs 3 p3 p4 p5 p6)), .val (.int (atF bs 4 p3 p4 p5 p6)), .val (.int (atF bs 5 p3 p4 p5 p6)), .val (.int (atF bs 6 p3 p4 p5 p6)), .val (.int (atF bs 7 p3 p4 p5 p6)), .val (.int (atF bs 8 p3 p4 p5 p6)), .val (.int (atF bs 9 p3 p4 p5 p6)), .val (.int (atF bs 10 p3 p4 p5 p6)), .val (.int (atF bs 11 p3 p4 p5 p6))] [(.ref b89), (.ref b89), (.ref b88), (.ref b88)])
            refine Goes.of (fun t => XS.iconst X90.here hx rfl (hb hby d2_377)) ?_
            show Goes p e below KK T90 (mkF m 378 #[.val (.int p1), .val (.ref a2), .val (.int p3), .val (.int p4), .val (.int p5), .val (.int p6), .val (.int (atF bs 0 p3 p4 p5 p6)), .val (.int (atF bs 1 p3 p4 p5 p6)), .val (.int (atF bs 2 p3 p4 p5 p6)), .val (.int (atF bs 3 p3 p4 p5 p6)), .val (.int (atF bs 4 p3 p4 p5 p6)), .val (.int (atF bs 5 p3 p4 p5 p6)), .val (.int (atF bs 6 p3 p4 p5 p6)), .val (.int (atF bs 7 p3 p4 p5 p6)), .val (.int (atF bs 8 p3 p4 p5 p6)), .val (.int (atF bs 9 p3 p4 p5 p6)), .val (.int (atF bs 10 p3 p4 p5 p6)), .val (.int (atF bs 11 p3 p4 p5 p6))] [(.int (1 : Int32)), (.ref b89), (.ref b89), (.ref b88), (.ref b88)])
            refine Goes.of (fun t => XS.iload X90.here hx rfl (hb hby d2_378) rfl) ?_
            show Goes p e below KK T90 (mkF m 380 #[.val (.int p1), .val (.ref a2), .val (.int p3), .val (.int p4), .val (.int p5), .val (.int p6), .val (.int (atF bs 0 p3 p4 p5 p6)), .val (.int (atF bs 1 p3 p4 p5 p6)), .val (.int (atF bs 2 p3 p4 p5 p6)), .val (.int (atF bs 3 p3 p4 p5 p6)), .val (.int (atF bs 4 p3 p4 p5 p6)), .val (.int (atF bs 5 p3 p4 p5 p6)), .val (.int (atF bs 6 p3 p4 p5 p6)), .val (.int (atF bs 7 p3 p4 p5 p6)), .val (.int (atF bs 8 p3 p4 p5 p6)), .val (.int (atF bs 9 p3 p4 p5 p6)), .val (.int (atF bs 10 p3 p4 p5 p6)), .val (.int (atF bs 11 p3 p4 p5 p6))] [(.int (atF bs 1 p3 p4 p5 p6)), (.int (1 : Int32)), (.ref b89), (.ref b89), (.ref b88), (.ref b88)])
            obtain ⟨T91, h91, X91, e91, W91, V91, st91⟩ := AI.castore X90 hx hZw e90 V_b89_90 (i := 1) (j := (1 : Int32)) (rfl) ((by simp)) (g := (mkF m 380 #[.val (.int p1), .val (.ref a2), .val (.int p3), .val (.int p4), .val (.int p5), .val (.int p6), .val (.int (atF bs 0 p3 p4 p5 p6)), .val (.int (atF bs 1 p3 p4 p5 p6)), .val (.int (atF bs 2 p3 p4 p5 p6)), .val (.int (atF bs 3 p3 p4 p5 p6)), .val (.int (atF bs 4 p3 p4 p5 p6)), .val (.int (atF bs 5 p3 p4 p5 p6)), .val (.int (atF bs 6 p3 p4 p5 p6)), .val (.int (atF bs 7 p3 p4 p5 p6)), .val (.int (atF bs 8 p3 p4 p5 p6)), .val (.int (atF bs 9 p3 p4 p5 p6)), .val (.int (atF bs 10 p3 p4 p5 p6)), .val (.int (atF bs 11 p3 p4 p5 p6))] [(.int (atF bs 1 p3 p4 p5 p6)), (.int (1 : Int32)), (.ref b89), (.ref b89), (.ref b88), (.ref b88)])) rfl rfl (hb hby d2_380)
            refine Goes.of (st91) ?_
            have sf_b88_91 := Safe.wr W91 sf_b89_90 CR90.1 sf_b88_90
            have sf_b89_91 := Safe.wr W91 sf_b89_90 CR90.1 sf_b89_90
            have CR91 := CR90.trans (CHr.wr W91 sf_b89_90 CR90.1)
            have E2_88_89_90_91 : Exa Z h91 a2 "java/lang/String" := E2_88_89_90.wr W91
            have C2_88_89_90_91 : Fld Z h91 a2 "java/lang/String" "coder" "B" (.int (0 : Int32)) := C2_88_89_90.other W91 (Or.inl ne_a2_b89)
            have W2v_88_89_90_91 : Fld Z h91 a2 "java/lang/String" "value" "[B" (.ref b2) := W2v_88_89_90.other W91 (Or.inl ne_a2_b89)
            have V2_88_89_90_91 : AI Z h91 b2 .byte bs := V2_88_89_90.other W91 ne_b2_b89
            have Scs_88_89_90_91 : Sta Z h91 "java/lang/String" "COMPACT_STRINGS" "Z" (.int cz) := Scs_88_89_90.wr W91
            have Sf_88_89_90_91 : Sta Z h91 "jdk/internal/util/Preconditions" "SIOOBE_FORMATTER" "Ljava/util/function/BiFunction;" fm := Sf_88_89_90.wr W91
            have A88_89_90_91 : Exa Z h91 b88 "java/lang/String" := A88_89_90.wr W91
            have F_value_b88_89_90_91 : Fld Z h91 b88 "java/lang/String" "value" "[B" .null := F_value_b88_89_90.other W91 (Or.inl ne_b88_b89)
            have F_coder_b88_89_90_91 : Fld Z h91 b88 "java/lang/String" "coder" "B" (.int (0 : Int32)) := F_coder_b88_89_90.other W91 (Or.inl ne_b88_b89)
            have K91 : Keep h0 h91 [] := K90.wr W91 (Or.inr sz_b89)
            have Z91 : n0 ≤ h91.size := Nat.le_trans Z90 (Keep.of_wr W91).1
            have HK91 := Nat.le_trans HK90 (Keep.of_wr W91).1
            have N91 := Fr.snoc X91 N90 g_b89
            have V_b89_91 : AI Z h91 b89 .char [(nar .char (atF bs 0 p3 p4 p5 p6)), (nar .char (atF bs 1 p3 p4 p5 p6)), (0 : Int32), (0 : Int32), (0 : Int32), (0 : Int32), (0 : Int32), (0 : Int32), (0 : Int32), (0 : Int32)] := V91
            show Goes p e below KK T91 (mkF m 381 #[.val (.int p1), .val (.ref a2), .val (.int p3), .val (.int p4), .val (.int p5), .val (.int p6), .val (.int (atF bs 0 p3 p4 p5 p6)), .val (.int (atF bs 1 p3 p4 p5 p6)), .val (.int (atF bs 2 p3 p4 p5 p6)), .val (.int (atF bs 3 p3 p4 p5 p6)), .val (.int (atF bs 4 p3 p4 p5 p6)), .val (.int (atF bs 5 p3 p4 p5 p6)), .val (.int (atF bs 6 p3 p4 p5 p6)), .val (.int (atF bs 7 p3 p4 p5 p6)), .val (.int (atF bs 8 p3 p4 p5 p6)), .val (.int (atF bs 9 p3 p4 p5 p6)), .val (.int (atF bs 10 p3 p4 p5 p6)), .val (.int (atF bs 11 p3 p4 p5 p6))] [(.ref b89), (.ref b88), (.ref b88)])
            refine Goes.of (fun t => XS.dup X91.here hx rfl (hb hby d2_381) rfl rfl) ?_
            show Goes p e below KK T91 (mkF m 382 #[.val (.int p1), .val (.ref a2), .val (.int p3), .val (.int p4), .val (.int p5), .val (.int p6), .val (.int (atF bs 0 p3 p4 p5 p6)), .val (.int (atF bs 1 p3 p4 p5 p6)), .val (.int (atF bs 2 p3 p4 p5 p6)), .val (.int (atF bs 3 p3 p4 p5 p6)), .val (.int (atF bs 4 p3 p4 p5 p6)), .val (.int (atF bs 5 p3 p4 p5 p6)), .val (.int (atF bs 6 p3 p4 p5 p6)), .val (.int (atF bs 7 p3 p4 p5 p6)), .val (.int (atF bs 8 p3 p4 p5 p6)), .val (.int (atF bs 9 p3 p4 p5 p6)), .val (.int (atF bs 10 p3 p4 p5 p6)), .val (.int (atF bs 11 p3 p4 p5 p6))] [(.ref b89), (.ref b89), (.ref b88), (.ref b88)])
            refine Goes.of (fun t => XS.iconst X91.here hx rfl (hb hby d2_382)) ?_
            show Goes p e below KK T91 (mkF m 383 #[.val (.int p1), .val (.ref a2), .val (.int p3), .val (.int p4), .val (.int p5), .val (.int p6), .val (.int (atF bs 0 p3 p4 p5 p6)), .val (.int (atF bs 1 p3 p4 p5 p6)), .val (.int (atF bs 2 p3 p4 p5 p6)), .val (.int (atF bs 3 p3 p4 p5 p6)), .val (.int (atF bs 4 p3 p4 p5 p6)), .val (.int (atF bs 5 p3 p4 p5 p6)), .val (.int (atF bs 6 p3 p4 p5 p6)), .val (.int (atF bs 7 p3 p4 p5 p6)), .val (.int (atF bs 8 p3 p4 p5 p6)), .val (.int (atF bs 9 p3 p4 p5 p6)), .val (.int (atF bs 10 p3 p4 p5 p6)), .val (.int (atF bs 11 p3 p4 p5 p6))] [(.int (2 : Int32)), (.ref b89), (.ref b89), (.ref b88), (.ref b88)])
            refine Goes.of (fun t => XS.iload X91.here hx rfl (hb hby d2_383) rfl) ?_
            show Goes p e below KK T91 (mkF m 385 #[.val (.int p1), .val (.ref a2), .val (.int p3), .val (.int p4), .val (.int p5), .val (.int p6), .val (.int (atF bs 0 p3 p4 p5 p6)), .val (.int (atF bs 1 p3 p4 p5 p6)), .val (.int (atF bs 2 p3 p4 p5 p6)), .val (.int (atF bs 3 p3 p4 p5 p6)), .val (.int (atF bs 4 p3 p4 p5 p6)), .val (.int (atF bs 5 p3 p4 p5 p6)), .val (.int (atF bs 6 p3 p4 p5 p6)), .val (.int (atF bs 7 p3 p4 p5 p6)), .val (.int (atF bs 8 p3 p4 p5 p6)), .val (.int (atF bs 9 p3 p4 p5 p6)), .val (.int (atF bs 10 p3 p4 p5 p6)), .val (.int (atF bs 11 p3 p4 p5 p6))] [(.int (atF bs 2 p3 p4 p5 p6)), (.int (2 : Int32)), (.ref b89), (.ref b89), (.ref b88), (.ref b88)])
            obtain ⟨T92, h92, X92, e92, W92, V92, st92⟩ := AI.castore X91 hx hZw e91 V_b89_91 (i := 2) (j := (2 : Int32)) (rfl) ((by simp)) (g := (mkF m 385 #[.val (.int p1), .val (.ref a2), .val (.int p3), .val (.int p4), .val (.int p5), .val (.int p6), .val (.int (atF bs 0 p3 p4 p5 p6)), .val (.int (atF bs 1 p3 p4 p5 p6)), .val (.int (atF bs 2 p3 p4 p5 p6)), .val (.int (atF bs 3 p3 p4 p5 p6)), .val (.int (atF bs 4 p3 p4 p5 p6)), .val (.int (atF bs 5 p3 p4 p5 p6)), .val (.int (atF bs 6 p3 p4 p5 p6)), .val (.int (atF bs 7 p3 p4 p5 p6)), .val (.int (atF bs 8 p3 p4 p5 p6)), .val (.int (atF bs 9 p3 p4 p5 p6)), .val (.int (atF bs 10 p3 p4 p5 p6)), .val (.int (atF bs 11 p3 p4 p5 p6))] [(.int (atF bs 2 p3 p4 p5 p6)), (.int (2 : Int32)), (.ref b89), (.ref b89), (.ref b88), (.ref b88)])) rfl rfl (hb hby d2_385)
            refine Goes.of (st92) ?_
            have sf_b88_92 := Safe.wr W92 sf_b89_91 CR91.1 sf_b88_91
            have sf_b89_92 := Safe.wr W92 sf_b89_91 CR91.1 sf_b89_91
            have CR92 := CR91.trans (CHr.wr W92 sf_b89_91 CR91.1)
            have E2_88_89_90_91_92 : Exa Z h92 a2 "java/lang/String" := E2_88_89_90_91.wr W92
            have C2_88_89_90_91_92 : Fld Z h92 a2 "java/lang/String" "coder" "B" (.int (0 : Int32)) := C2_88_89_90_91.other W92 (Or.inl ne_a2_b89)
            have W2v_88_89_90_91_92 : Fld Z h92 a2 "java/lang/String" "value" "[B" (.ref b2) := W2v_88_89_90_91.other W92 (Or.inl ne_a2_b89)
            have V2_88_89_90_91_92 : AI Z h92 b2 .byte bs := V2_88_89_90_91.other W92 ne_b2_b89
            have Scs_88_89_90_91_92 : Sta Z h92 "java/lang/String" "COMPACT_STRINGS" "Z" (.int cz) := Scs_88_89_90_91.wr W92
            have Sf_88_89_90_91_92 : Sta Z h92 "jdk/internal/util/Preconditions" "SIOOBE_FORMATTER" "Ljava/util/function/BiFunction;" fm := Sf_88_89_90_91.wr W92
            have A88_89_90_91_92 : Exa Z h92 b88 "java/lang/String" := A88_89_90_91.wr W92
            have F_value_b88_89_90_91_92 : Fld Z h92 b88 "java/lang/String" "value" "[B" .null := F_value_b88_89_90_91.other W92 (Or.inl ne_b88_b89)
            have F_coder_b88_89_90_91_92 : Fld Z h92 b88 "java/lang/String" "coder" "B" (.int (0 : Int32)) := F_coder_b88_89_90_91.other W92 (Or.inl ne_b88_b89)
            have K92 : Keep h0 h92 [] := K91.wr W92 (Or.inr sz_b89)
            have Z92 : n0 ≤ h92.size := Nat.le_trans Z91 (Keep.of_wr W92).1
            have HK92 := Nat.le_trans HK91 (Keep.of_wr W92).1
            have N92 := Fr.snoc X92 N91 g_b89
            have V_b89_92 : AI Z h92 b89 .char [(nar .char (atF bs 0 p3 p4 p5 p6)), (nar .char (atF bs 1 p3 p4 p5 p6)), (nar .char (atF bs 2 p3 p4 p5 p6)), (0 : Int32), (0 : Int32), (0 : Int32), (0 : Int32), (0 : Int32), (0 : Int32), (0 : Int32)] := V92
            show Goes p e below KK T92 (mkF m 386 #[.val (.int p1), .val (.ref a2), .val (.int p3), .val (.int p4), .val (.int p5), .val (.int p6), .val (.int (atF bs 0 p3 p4 p5 p6)), .val (.int (atF bs 1 p3 p4 p5 p6)), .val (.int (atF bs 2 p3 p4 p5 p6)), .val (.int (atF bs 3 p3 p4 p5 p6)), .val (.int (atF bs 4 p3 p4 p5 p6)), .val (.int (atF bs 5 p3 p4 p5 p6)), .val (.int (atF bs 6 p3 p4 p5 p6)), .val (.int (atF bs 7 p3 p4 p5 p6)), .val (.int (atF bs 8 p3 p4 p5 p6)), .val (.int (atF bs 9 p3 p4 p5 p6)), .val (.int (atF bs 10 p3 p4 p5 p6)), .val (.int (atF bs 11 p3 p4 p5 p6))] [(.ref b89), (.ref b88), (.ref b88)])
            refine Goes.of (fun t => XS.dup X92.here hx rfl (hb hby d2_386) rfl rfl) ?_
            show Goes p e below KK T92 (mkF m 387 #[.val (.int p1), .val (.ref a2), .val (.int p3), .val (.int p4), .val (.int p5), .val (.int p6), .val (.int (atF bs 0 p3 p4 p5 p6)), .val (.int (atF bs 1 p3 p4 p5 p6)), .val (.int (atF bs 2 p3 p4 p5 p6)), .val (.int (atF bs 3 p3 p4 p5 p6)), .val (.int (atF bs 4 p3 p4 p5 p6)), .val (.int (atF bs 5 p3 p4 p5 p6)), .val (.int (atF bs 6 p3 p4 p5 p6)), .val (.int (atF bs 7 p3 p4 p5 p6)), .val (.int (atF bs 8 p3 p4 p5 p6)), .val (.int (atF bs 9 p3 p4 p5 p6)), .val (.int (atF bs 10 p3 p4 p5 p6)), .val (.int (atF bs 11 p3 p4 p5 p6))] [(.ref b89), (.ref b89), (.ref b88), (.ref b88)])
            refine Goes.of (fun t => XS.iconst X92.here hx rfl (hb hby d2_387)) ?_
            show Goes p e below KK T92 (mkF m 388 #[.val (.int p1), .val (.ref a2), .val (.int p3), .val (.int p4), .val (.int p5), .val (.int p6), .val (.int (atF bs 0 p3 p4 p5 p6)), .val (.int (atF bs 1 p3 p4 p5 p6)), .val (.int (atF bs 2 p3 p4 p5 p6)), .val (.int (atF bs 3 p3 p4 p5 p6)), .val (.int (atF bs 4 p3 p4 p5 p6)), .val (.int (atF bs 5 p3 p4 p5 p6)), .val (.int (atF bs 6 p3 p4 p5 p6)), .val (.int (atF bs 7 p3 p4 p5 p6)), .val (.int (atF bs 8 p3 p4 p5 p6)), .val (.int (atF bs 9 p3 p4 p5 p6)), .val (.int (atF bs 10 p3 p4 p5 p6)), .val (.int (atF bs 11 p3 p4 p5 p6))] [(.int (3 : Int32)), (.ref b89), (.ref b89), (.ref b88), (.ref b88)])
            refine Goes.of (fun t => XS.iload X92.here hx rfl (hb hby d2_388) rfl) ?_
            show Goes p e below KK T92 (mkF m 390 #[.val (.int p1), .val (.ref a2), .val (.int p3), .val (.int p4), .val (.int p5), .val (.int p6), .val (.int (atF bs 0 p3 p4 p5 p6)), .val (.int (atF bs 1 p3 p4 p5 p6)), .val (.int (atF bs 2 p3 p4 p5 p6)), .val (.int (atF bs 3 p3 p4 p5 p6)), .val (.int (atF bs 4 p3 p4 p5 p6)), .val (.int (atF bs 5 p3 p4 p5 p6)), .val (.int (atF bs 6 p3 p4 p5 p6)), .val (.int (atF bs 7 p3 p4 p5 p6)), .val (.int (atF bs 8 p3 p4 p5 p6)), .val (.int (atF bs 9 p3 p4 p5 p6)), .val (.int (atF bs 10 p3 p4 p5 p6)), .val (.int (atF bs 11 p3 p4 p5 p6))] [(.int (atF bs 3 p3 p4 p5 p6)), (.int (3 : Int32)), (.ref b89), (.ref b89), (.ref b88), (.ref b88)])
            obtain ⟨T93, h93, X93, e93, W93, V93, st93⟩ := AI.castore X92 hx hZw e92 V_b89_92 (i := 3) (j := (3 : Int32)) (rfl) ((by simp)) (g := (mkF m 390 #[.val (.int p1), .val (.ref a2), .val (.int p3), .val (.int p4), .val (.int p5), .val (.int p6), .val (.int (atF bs 0 p3 p4 p5 p6)), .val (.int (atF bs 1 p3 p4 p5 p6)), .val (.int (atF bs 2 p3 p4 p5 p6)), .val (.int (atF bs 3 p3 p4 p5 p6)), .val (.int (atF bs 4 p3 p4 p5 p6)), .val (.int (atF bs 5 p3 p4 p5 p6)), .val (.int (atF bs 6 p3 p4 p5 p6)), .val (.int (atF bs 7 p3 p4 p5 p6)), .val (.int (atF bs 8 p3 p4 p5 p6)), .val (.int (atF bs 9 p3 p4 p5 p6)), .val (.int (atF bs 10 p3 p4 p5 p6)), .val (.int (atF bs 11 p3 p4 p5 p6))] [(.int (atF bs 3 p3 p4 p5 p6)), (.int (3 : Int32)), (.ref b89), (.ref b89), (.ref b88), (.ref b88)])) rfl rfl (hb hby d2_390)
            refine Goes.of (st93) ?_
            have sf_b88_93 := Safe.wr W93 sf_b89_92 CR92.1 sf_b88_92
            have sf_b89_93 := Safe.wr W93 sf_b89_92 CR92.1 sf_b89_92
            have CR93 := CR92.trans (CHr.wr W93 sf_b89_92 CR92.1)
            have E2_88_89_90_91_92_93 : Exa Z h93 a2 "java/lang/String" := E2_88_89_90_91_92.wr W93
            have C2_88_89_90_91_92_93 : Fld Z h93 a2 "java/lang/String" "coder" "B" (.int (0 : Int32)) := C2_88_89_90_91_92.other W93 (Or.inl ne_a2_b89)
            have W2v_88_89_90_91_92_93 : Fld Z h93 a2 "java/lang/String" "value" "[B" (.ref b2) := W2v_88_89_90_91_92.other W93 (Or.inl ne_a2_b89)
            have V2_88_89_90_91_92_93 : AI Z h93 b2 .byte bs := V2_88_89_90_91_92.other W93 ne_b2_b89
            have Scs_88_89_90_91_92_93 : Sta Z h93 "java/lang/String" "COMPACT_STRINGS" "Z" (.int cz) := Scs_88_89_90_91_92.wr W93
            have Sf_88_89_90_91_92_93 : Sta Z h93 "jdk/internal/util/Preconditions" "SIOOBE_FORMATTER" "Ljava/util/function/BiFunction;" fm := Sf_88_89_90_91_92.wr W93
            have A88_89_90_91_92_93 : Exa Z h93 b88 "java/lang/String" := A88_89_90_91_92.wr W93
            have F_value_b88_89_90_91_92_93 : Fld Z h93 b88 "java/lang/String" "value" "[B" .null := F_value_b88_89_90_91_92.other W93 (Or.inl ne_b88_b89)
            have F_coder_b88_89_90_91_92_93 : Fld Z h93 b88 "java/lang/String" "coder" "B" (.int (0 : Int32)) := F_coder_b88_89_90_91_92.other W93 (Or.inl ne_b88_b89)
            have K93 : Keep h0 h93 [] := K92.wr W93 (Or.inr sz_b89)
            have Z93 : n0 ≤ h93.size := Nat.le_trans Z92 (Keep.of_wr W93).1
            have HK93 := Nat.le_trans HK92 (Keep.of_wr W93).1
            have N93 := Fr.snoc X93 N92 g_b89
            have V_b89_93 : AI Z h93 b89 .char [(nar .char (atF bs 0 p3 p4 p5 p6)), (nar .char (atF bs 1 p3 p4 p5 p6)), (nar .char (atF bs 2 p3 p4 p5 p6)), (nar .char (atF bs 3 p3 p4 p5 p6)), (0 : Int32), (0 : Int32), (0 : Int32), (0 : Int32), (0 : Int32), (0 : Int32)] := V93
            show Goes p e below KK T93 (mkF m 391 #[.val (.int p1), .val (.ref a2), .val (.int p3), .val (.int p4), .val (.int p5), .val (.int p6), .val (.int (atF bs 0 p3 p4 p5 p6)), .val (.int (atF bs 1 p3 p4 p5 p6)), .val (.int (atF bs 2 p3 p4 p5 p6)), .val (.int (atF bs 3 p3 p4 p5 p6)), .val (.int (atF bs 4 p3 p4 p5 p6)), .val (.int (atF bs 5 p3 p4 p5 p6)), .val (.int (atF bs 6 p3 p4 p5 p6)), .val (.int (atF bs 7 p3 p4 p5 p6)), .val (.int (atF bs 8 p3 p4 p5 p6)), .val (.int (atF bs 9 p3 p4 p5 p6)), .val (.int (atF bs 10 p3 p4 p5 p6)), .val (.int (atF bs 11 p3 p4 p5 p6))] [(.ref b89), (.ref b88), (.ref b88)])
            refine Goes.of (fun t => XS.dup X93.here hx rfl (hb hby d2_391) rfl rfl) ?_
            show Goes p e below KK T93 (mkF m 392 #[.val (.int p1), .val (.ref a2), .val (.int p3), .val (.int p4), .val (.int p5), .val (.int p6), .val (.int (atF bs 0 p3 p4 p5 p6)), .val (.int (atF bs 1 p3 p4 p5 p6)), .val (.int (atF bs 2 p3 p4 p5 p6)), .val (.int (atF bs 3 p3 p4 p5 p6)), .val (.int (atF bs 4 p3 p4 p5 p6)), .val (.int (atF bs 5 p3 p4 p5 p6)), .val (.int (atF bs 6 p3 p4 p5 p6)), .val (.int (atF bs 7 p3 p4 p5 p6)), .val (.int (atF bs 8 p3 p4 p5 p6)), .val (.int (atF bs 9 p3 p4 p5 p6)), .val (.int (atF bs 10 p3 p4 p5 p6)), .val (.int (atF bs 11 p3 p4 p5 p6))] [(.ref b89), (.ref b89), (.ref b88), (.ref b88)])
            refine Goes.of (fun t => XS.iconst X93.here hx rfl (hb hby d2_392)) ?_
            show Goes p e below KK T93 (mkF m 393 #[.val (.int p1), .val (.ref a2), .val (.int p3), .val (.int p4), .val (.int p5), .val (.int p6), .val (.int (atF bs 0 p3 p4 p5 p6)), .val (.int (atF bs 1 p3 p4 p5 p6)), .val (.int (atF bs 2 p3 p4 p5 p6)), .val (.int (atF bs 3 p3 p4 p5 p6)), .val (.int (atF bs 4 p3 p4 p5 p6)), .val (.int (atF bs 5 p3 p4 p5 p6)), .val (.int (atF bs 6 p3 p4 p5 p6)), .val (.int (atF bs 7 p3 p4 p5 p6)), .val (.int (atF bs 8 p3 p4 p5 p6)), .val (.int (atF bs 9 p3 p4 p5 p6)), .val (.int (atF bs 10 p3 p4 p5 p6)), .val (.int (atF bs 11 p3 p4 p5 p6))] [(.int (4 : Int32)), (.ref b89), (.ref b89), (.ref b88), (.ref b88)])
            refine Goes.of (fun t => XS.iload X93.here hx rfl (hb hby d2_393) rfl) ?_
            show Goes p e below KK T93 (mkF m 395 #[.val (.int p1), .val (.ref a2), .val (.int p3), .val (.int p4), .val (.int p5), .val (.int p6), .val (.int (atF bs 0 p3 p4 p5 p6)), .val (.int (atF bs 1 p3 p4 p5 p6)), .val (.int (atF bs 2 p3 p4 p5 p6)), .val (.int (atF bs 3 p3 p4 p5 p6)), .val (.int (atF bs 4 p3 p4 p5 p6)), .val (.int (atF bs 5 p3 p4 p5 p6)), .val (.int (atF bs 6 p3 p4 p5 p6)), .val (.int (atF bs 7 p3 p4 p5 p6)), .val (.int (atF bs 8 p3 p4 p5 p6)), .val (.int (atF bs 9 p3 p4 p5 p6)), .val (.int (atF bs 10 p3 p4 p5 p6)), .val (.int (atF bs 11 p3 p4 p5 p6))] [(.int (atF bs 4 p3 p4 p5 p6)), (.int (4 : Int32)), (.ref b89), (.ref b89), (.ref b88), (.ref b88)])
            obtain ⟨T94, h94, X94, e94, W94, V94, st94⟩ := AI.castore X93 hx hZw e93 V_b89_93 (i := 4) (j := (4 : Int32)) (rfl) ((by simp)) (g := (mkF m 395 #[.val (.int p1), .val (.ref a2), .val (.int p3), .val (.int p4), .val (.int p5), .val (.int p6), .val (.int (atF bs 0 p3 p4 p5 p6)), .val (.int (atF bs 1 p3 p4 p5 p6)), .val (.int (atF bs 2 p3 p4 p5 p6)), .val (.int (atF bs 3 p3 p4 p5 p6)), .val (.int (atF bs 4 p3 p4 p5 p6)), .val (.int (atF bs 5 p3 p4 p5 p6)), .val (.int (atF bs 6 p3 p4 p5 p6)), .val (.int (atF bs 7 p3 p4 p5 p6)), .val (.int (atF bs 8 p3 p4 p5 p6)), .val (.int (atF bs 9 p3 p4 p5 p6)), .val (.int (atF bs 10 p3 p4 p5 p6)), .val (.int (atF bs 11 p3 p4 p5 p6))] [(.int (atF bs 4 p3 p4 p5 p6)), (.int (4 : Int32)), (.ref b89), (.ref b89), (.ref b88), (.ref b88)])) rfl rfl (hb hby d2_395)
            refine Goes.of (st94) ?_
            have sf_b88_94 := Safe.wr W94 sf_b89_93 CR93.1 sf_b88_93
            have sf_b89_94 := Safe.wr W94 sf_b89_93 CR93.1 sf_b89_93
            have CR94 := CR93.trans (CHr.wr W94 sf_b89_93 CR93.1)
            have E2_88_89_90_91_92_93_94 : Exa Z h94 a2 "java/lang/String" := E2_88_89_90_91_92_93.wr W94
            have C2_88_89_90_91_92_93_94 : Fld Z h94 a2 "java/lang/String" "coder" "B" (.int (0 : Int32)) := C2_88_89_90_91_92_93.other W94 (Or.inl ne_a2_b89)
            have W2v_88_89_90_91_92_93_94 : Fld Z h94 a2 "java/lang/String" "value" "[B" (.ref b2) := W2v_88_89_90_91_92_93.other W94 (Or.inl ne_a2_b89)
            have V2_88_89_90_91_92_93_94 : AI Z h94 b2 .byte bs := V2_88_89_90_91_92_93.other W94 ne_b2_b89
            have Scs_88_89_90_91_92_93_94 : Sta Z h94 "java/lang/String" "COMPACT_STRINGS" "Z" (.int cz) := Scs_88_89_90_91_92_93.wr W94
            have Sf_88_89_90_91_92_93_94 : Sta Z h94 "jdk/internal/util/Preconditions" "SIOOBE_FORMATTER" "Ljava/util/function/BiFunction;" fm := Sf_88_89_90_91_92_93.wr W94
            have A88_89_90_91_92_93_94 : Exa Z h94 b88 "java/lang/String" := A88_89_90_91_92_93.wr W94
            have F_value_b88_89_90_91_92_93_94 : Fld Z h94 b88 "java/lang/String" "value" "[B" .null := F_value_b88_89_90_91_92_93.other W94 (Or.inl ne_b88_b89)
            have F_coder_b88_89_90_91_92_93_94 : Fld Z h94 b88 "java/lang/String" "coder" "B" (.int (0 : Int32)) := F_coder_b88_89_90_91_92_93.other W94 (Or.inl ne_b88_b89)
            have K94 : Keep h0 h94 [] := K93.wr W94 (Or.inr sz_b89)
            have Z94 : n0 ≤ h94.size := Nat.le_trans Z93 (Keep.of_wr W94).1
            have HK94 := Nat.le_trans HK93 (Keep.of_wr W94).1
            have N94 := Fr.snoc X94 N93 g_b89
            have V_b89_94 : AI Z h94 b89 .char [(nar .char (atF bs 0 p3 p4 p5 p6)), (nar .char (atF bs 1 p3 p4 p5 p6)), (nar .char (atF bs 2 p3 p4 p5 p6)), (nar .char (atF bs 3 p3 p4 p5 p6)), (nar .char (atF bs 4 p3 p4 p5 p6)), (0 : Int32), (0 : Int32), (0 : Int32), (0 : Int32), (0 : Int32)] := V94
            show Goes p e below KK T94 (mkF m 396 #[.val (.int p1), .val (.ref a2), .val (.int p3), .val (.int p4), .val (.int p5), .val (.int p6), .val (.int (atF bs 0 p3 p4 p5 p6)), .val (.int (atF bs 1 p3 p4 p5 p6)), .val (.int (atF bs 2 p3 p4 p5 p6)), .val (.int (atF bs 3 p3 p4 p5 p6)), .val (.int (atF bs 4 p3 p4 p5 p6)), .val (.int (atF bs 5 p3 p4 p5 p6)), .val (.int (atF bs 6 p3 p4 p5 p6)), .val (.int (atF bs 7 p3 p4 p5 p6)), .val (.int (atF bs 8 p3 p4 p5 p6)), .val (.int (atF bs 9 p3 p4 p5 p6)), .val (.int (atF bs 10 p3 p4 p5 p6)), .val (.int (atF bs 11 p3 p4 p5 p6))] [(.ref b89), (.ref b88), (.ref b88)])
            refine Goes.of (fun t => XS.dup X94.here hx rfl (hb hby d2_396) rfl rfl) ?_
            show Goes p e below KK T94 (mkF m 397 #[.val (.int p1), .val (.ref a2), .val (.int p3), .val (.int p4), .val (.int p5), .val (.int p6), .val (.int (atF bs 0 p3 p4 p5 p6)), .val (.int (atF bs 1 p3 p4 p5 p6)), .val (.int (atF bs 2 p3 p4 p5 p6)), .val (.int (atF bs 3 p3 p4 p5 p6)), .val (.int (atF bs 4 p3 p4 p5 p6)), .val (.int (atF bs 5 p3 p4 p5 p6)), .val (.int (atF bs 6 p3 p4 p5 p6)), .val (.int (atF bs 7 p3 p4 p5 p6)), .val (.int (atF bs 8 p3 p4 p5 p6)), .val (.int (atF bs 9 p3 p4 p5 p6)), .val (.int (atF bs 10 p3 p4 p5 p6)), .val (.int (atF bs 11 p3 p4 p5 p6))] [(.ref b89), (.ref b89), (.ref b88), (.ref b88)])
            refine Goes.of (fun t => XS.iconst X94.here hx rfl (hb hby d2_397)) ?_
            show Goes p e below KK T94 (mkF m 398 #[.val (.int p1), .val (.ref a2), .val (.int p3), .val (.int p4), .val (.int p5), .val (.int p6), .val (.int (atF bs 0 p3 p4 p5 p6)), .val (.int (atF bs 1 p3 p4 p5 p6)), .val (.int (atF bs 2 p3 p4 p5 p6)), .val (.int (atF bs 3 p3 p4 p5 p6)), .val (.int (atF bs 4 p3 p4 p5 p6)), .val (.int (atF bs 5 p3 p4 p5 p6)), .val (.int (atF bs 6 p3 p4 p5 p6)), .val (.int (atF bs 7 p3 p4 p5 p6)), .val (.int (atF bs 8 p3 p4 p5 p6)), .val (.int (atF bs 9 p3 p4 p5 p6)), .val (.int (atF bs 10 p3 p4 p5 p6)), .val (.int (atF bs 11 p3 p4 p5 p6))] [(.int (5 : Int32)), (.ref b89), (.ref b89), (.ref b88), (.ref b88)])
            refine Goes.of (fun t => XS.iload X94.here hx rfl (hb hby d2_398) rfl) ?_
            show Goes p e below KK T94 (mkF m 400 #[.val (.int p1), .val (.ref a2), .val (.int p3), .val (.int p4), .val (.int p5), .val (.int p6), .val (.int (atF bs 0 p3 p4 p5 p6)), .val (.int (atF bs 1 p3 p4 p5 p6)), .val (.int (atF bs 2 p3 p4 p5 p6)), .val (.int (atF bs 3 p3 p4 p5 p6)), .val (.int (atF bs 4 p3 p4 p5 p6)), .val (.int (atF bs 5 p3 p4 p5 p6)), .val (.int (atF bs 6 p3 p4 p5 p6)), .val (.int (atF bs 7 p3 p4 p5 p6)), .val (.int (atF bs 8 p3 p4 p5 p6)), .val (.int (atF bs 9 p3 p4 p5 p6)), .val (.int (atF bs 10 p3 p4 p5 p6)), .val (.int (atF bs 11 p3 p4 p5 p6))] [(.int (atF bs 5 p3 p4 p5 p6)), (.int (5 : Int32)), (.ref b89), (.ref b89), (.ref b88), (.ref b88)])
            obtain ⟨T95, h95, X95, e95, W95, V95, st95⟩ := AI.castore X94 hx hZw e94 V_b89_94 (i := 5) (j := (5 : Int32)) (rfl) ((by simp)) (g := (mkF m 400 #[.val (.int p1), .val (.ref a2), .val (.int p3), .val (.int p4), .val (.int p5), .val (.int p6), .val (.int (atF bs 0 p3 p4 p5 p6)), .val (.int (atF bs 1 p3 p4 p5 p6)), .val (.int (atF bs 2 p3 p4 p5 p6)), .val (.int (atF bs 3 p3 p4 p5 p6)), .val (.int (atF bs 4 p3 p4 p5 p6)), .val (.int (atF bs 5 p3 p4 p5 p6)), .val (.int (atF bs 6 p3 p4 p5 p6)), .val (.int (atF bs 7 p3 p4 p5 p6)), .val (.int (atF bs 8 p3 p4 p5 p6)), .val (.int (atF bs 9 p3 p4 p5 p6)), .val (.int (atF bs 10 p3 p4 p5 p6)), .val (.int (atF bs 11 p3 p4 p5 p6))] [(.int (atF bs 5 p3 p4 p5 p6)), (.int (5 : Int32)), (.ref b89), (.ref b89), (.ref b88), (.ref b88)])) rfl rfl (hb hby d2_400)
            refine Goes.of (st95) ?_
            have sf_b88_95 := Safe.wr W95 sf_b89_94 CR94.1 sf_b88_94
            have sf_b89_95 := Safe.wr W95 sf_b89_94 CR94.1 sf_b89_94
            have CR95 := CR94.trans (CHr.wr W95 sf_b89_94 CR94.1)
            have E2_88_89_90_91_92_93_94_95 : Exa Z h95 a2 "java/lang/String" := E2_88_89_90_91_92_93_94.wr W95
            have C2_88_89_90_91_92_93_94_95 : Fld Z h95 a2 "java/lang/String" "coder" "B" (.int (0 : Int32)) := C2_88_89_90_91_92_93_94.other W95 (Or.inl ne_a2_b89)
            have W2v_88_89_90_91_92_93_94_95 : Fld Z h95 a2 "java/lang/String" "value" "[B" (.ref b2) := W2v_88_89_90_91_92_93_94.other W95 (Or.inl ne_a2_b89)
            have V2_88_89_90_91_92_93_94_95 : AI Z h95 b2 .byte bs := V2_88_89_90_91_92_93_94.other W95 ne_b2_b89
            have Scs_88_89_90_91_92_93_94_95 : Sta Z h95 "java/lang/String" "COMPACT_STRINGS" "Z" (.int cz) := Scs_88_89_90_91_92_93_94.wr W95
            have Sf_88_89_90_91_92_93_94_95 : Sta Z h95 "jdk/internal/util/Preconditions" "SIOOBE_FORMATTER" "Ljava/util/function/BiFunction;" fm := Sf_88_89_90_91_92_93_94.wr W95
            have A88_89_90_91_92_93_94_95 : Exa Z h95 b88 "java/lang/String" := A88_89_90_91_92_93_94.wr W95
            have F_value_b88_89_90_91_92_93_94_95 : Fld Z h95 b88 "java/lang/String" "value" "[B" .null := F_value_b88_89_90_91_92_93_94.other W95 (Or.inl ne_b88_b89)
            have F_coder_b88_89_90_91_92_93_94_95 : Fld Z h95 b88 "java/lang/String" "coder" "B" (.int (0 : Int32)) := F_coder_b88_89_90_91_92_93_94.other W95 (Or.inl ne_b88_b89)
            have K95 : Keep h0 h95 [] := K94.wr W95 (Or.inr sz_b89)
            have Z95 : n0 ≤ h95.size := Nat.le_trans Z94 (Keep.of_wr W95).1
            have HK95 := Nat.le_trans HK94 (Keep.of_wr W95).1
            have N95 := Fr.snoc X95 N94 g_b89
            have V_b89_95 : AI Z h95 b89 .char [(nar .char (atF bs 0 p3 p4 p5 p6)), (nar .char (atF bs 1 p3 p4 p5 p6)), (nar .char (atF bs 2 p3 p4 p5 p6)), (nar .char (atF bs 3 p3 p4 p5 p6)), (nar .char (atF bs 4 p3 p4 p5 p6)), (nar .char (atF bs 5 p3 p4 p5 p6)), (0 : Int32), (0 : Int32), (0 : Int32), (0 : Int32)] := V95
            show Goes p e below KK T95 (mkF m 401 #[.val (.int p1), .val (.ref a2), .val (.int p3), .val (.int p4), .val (.int p5), .val (.int p6), .val (.int (atF bs 0 p3 p4 p5 p6)), .val (.int (atF bs 1 p3 p4 p5 p6)), .val (.int (atF bs 2 p3 p4 p5 p6)), .val (.int (atF bs 3 p3 p4 p5 p6)), .val (.int (atF bs 4 p3 p4 p5 p6)), .val (.int (atF bs 5 p3 p4 p5 p6)), .val (.int (atF bs 6 p3 p4 p5 p6)), .val (.int (atF bs 7 p3 p4 p5 p6)), .val (.int (atF bs 8 p3 p4 p5 p6)), .val (.int (atF bs 9 p3 p4 p5 p6)), .val (.int (atF bs 10 p3 p4 p5 p6)), .val (.int (atF bs 11 p3 p4 p5 p6))] [(.ref b89), (.ref b88), (.ref b88)])
            refine Goes.of (fun t => XS.dup X95.here hx rfl (hb hby d2_401) rfl rfl) ?_
            show Goes p e below KK T95 (mkF m 402 #[.val (.int p1), .val (.ref a2), .val (.int p3), .val (.int p4), .val (.int p5), .val (.int p6), .val (.int (atF bs 0 p3 p4 p5 p6)), .val (.int (atF bs 1 p3 p4 p5 p6)), .val (.int (atF bs 2 p3 p4 p5 p6)), .val (.int (atF bs 3 p3 p4 p5 p6)), .val (.int (atF bs 4 p3 p4 p5 p6)), .val (.int (atF bs 5 p3 p4 p5 p6)), .val (.int (atF bs 6 p3 p4 p5 p6)), .val (.int (atF bs 7 p3 p4 p5 p6)), .val (.int (atF bs 8 p3 p4 p5 p6)), .val (.int (atF bs 9 p3 p4 p5 p6)), .val (.int (atF bs 10 p3 p4 p5 p6)), .val (.int (atF bs 11 p3 p4 p5 p6))] [(.ref b89), (.ref b89), (.ref b88), (.ref b88)])
            refine Goes.of (fun t => XS.bipush X95.here hx rfl (hb hby d2_402)) ?_
            show Goes p e below KK T95 (mkF m 404 #[.val (.int p1), .val (.ref a2), .val (.int p3), .val (.int p4), .val (.int p5), .val (.int p6), .val (.int (atF bs 0 p3 p4 p5 p6)), .val (.int (atF bs 1 p3 p4 p5 p6)), .val (.int (atF bs 2 p3 p4 p5 p6)), .val (.int (atF bs 3 p3 p4 p5 p6)), .val (.int (atF bs 4 p3 p4 p5 p6)), .val (.int (atF bs 5 p3 p4 p5 p6)), .val (.int (atF bs 6 p3 p4 p5 p6)), .val (.int (atF bs 7 p3 p4 p5 p6)), .val (.int (atF bs 8 p3 p4 p5 p6)), .val (.int (atF bs 9 p3 p4 p5 p6)), .val (.int (atF bs 10 p3 p4 p5 p6)), .val (.int (atF bs 11 p3 p4 p5 p6))] [(.int (6 : Int32)), (.ref b89), (.ref b89), (.ref b88), (.ref b88)])
            refine Goes.of (fun t => XS.iload X95.here hx rfl (hb hby d2_404) rfl) ?_
            show Goes p e below KK T95 (mkF m 406 #[.val (.int p1), .val (.ref a2), .val (.int p3), .val (.int p4), .val (.int p5), .val (.int p6), .val (.int (atF bs 0 p3 p4 p5 p6)), .val (.int (atF bs 1 p3 p4 p5 p6)), .val (.int (atF bs 2 p3 p4 p5 p6)), .val (.int (atF bs 3 p3 p4 p5 p6)), .val (.int (atF bs 4 p3 p4 p5 p6)), .val (.int (atF bs 5 p3 p4 p5 p6)), .val (.int (atF bs 6 p3 p4 p5 p6)), .val (.int (atF bs 7 p3 p4 p5 p6)), .val (.int (atF bs 8 p3 p4 p5 p6)), .val (.int (atF bs 9 p3 p4 p5 p6)), .val (.int (atF bs 10 p3 p4 p5 p6)), .val (.int (atF bs 11 p3 p4 p5 p6))] [(.int (atF bs 6 p3 p4 p5 p6)), (.int (6 : Int32)), (.ref b89), (.ref b89), (.ref b88), (.ref b88)])
            obtain ⟨T96, h96, X96, e96, W96, V96, st96⟩ := AI.castore X95 hx hZw e95 V_b89_95 (i := 6) (j := (6 : Int32)) (rfl) ((by simp)) (g := (mkF m 406 #[.val (.int p1), .val (.ref a2), .val (.int p3), .val (.int p4), .val (.int p5), .val (.int p6), .val (.int (atF bs 0 p3 p4 p5 p6)), .val (.int (atF bs 1 p3 p4 p5 p6)), .val (.int (atF bs 2 p3 p4 p5 p6)), .val (.int (atF bs 3 p3 p4 p5 p6)), .val (.int (atF bs 4 p3 p4 p5 p6)), .val (.int (atF bs 5 p3 p4 p5 p6)), .val (.int (atF bs 6 p3 p4 p5 p6)), .val (.int (atF bs 7 p3 p4 p5 p6)), .val (.int (atF bs 8 p3 p4 p5 p6)), .val (.int (atF bs 9 p3 p4 p5 p6)), .val (.int (atF bs 10 p3 p4 p5 p6)), .val (.int (atF bs 11 p3 p4 p5 p6))] [(.int (atF bs 6 p3 p4 p5 p6)), (.int (6 : Int32)), (.ref b89), (.ref b89), (.ref b88), (.ref b88)])) rfl rfl (hb hby d2_406)
            refine Goes.of (st96) ?_
            have sf_b88_96 := Safe.wr W96 sf_b89_95 CR95.1 sf_b88_95
            have sf_b89_96 := Safe.wr W96 sf_b89_95 CR95.1 sf_b89_95
            have CR96 := CR95.trans (CHr.wr W96 sf_b89_95 CR95.1)
            have E2_88_89_90_91_92_93_94_95_96 : Exa Z h96 a2 "java/lang/String" := E2_88_89_90_91_92_93_94_95.wr W96
            have C2_88_89_90_91_92_93_94_95_96 : Fld Z h96 a2 "java/lang/String" "coder" "B" (.int (0 : Int32)) := C2_88_89_90_91_92_93_94_95.other W96 (Or.inl ne_a2_b89)
            have W2v_88_89_90_91_92_93_94_95_96 : Fld Z h96 a2 "java/lang/String" "value" "[B" (.ref b2) := W2v_88_89_90_91_92_93_94_95.other W96 (Or.inl ne_a2_b89)
            have V2_88_89_90_91_92_93_94_95_96 : AI Z h96 b2 .byte bs := V2_88_89_90_91_92_93_94_95.other W96 ne_b2_b89
            have Scs_88_89_90_91_92_93_94_95_96 : Sta Z h96 "java/lang/String" "COMPACT_STRINGS" "Z" (.int cz) := Scs_88_89_90_91_92_93_94_95.wr W96
            have Sf_88_89_90_91_92_93_94_95_96 : Sta Z h96 "jdk/internal/util/Preconditions" "SIOOBE_FORMATTER" "Ljava/util/function/BiFunction;" fm := Sf_88_89_90_91_92_93_94_95.wr W96
            have A88_89_90_91_92_93_94_95_96 : Exa Z h96 b88 "java/lang/String" := A88_89_90_91_92_93_94_95.wr W96
            have F_value_b88_89_90_91_92_93_94_95_96 : Fld Z h96 b88 "java/lang/String" "value" "[B" .null := F_value_b88_89_90_91_92_93_94_95.other W96 (Or.inl ne_b88_b89)
            have F_coder_b88_89_90_91_92_93_94_95_96 : Fld Z h96 b88 "java/lang/String" "coder" "B" (.int (0 : Int32)) := F_coder_b88_89_90_91_92_93_94_95.other W96 (Or.inl ne_b88_b89)
            have K96 : Keep h0 h96 [] := K95.wr W96 (Or.inr sz_b89)
            have Z96 : n0 ≤ h96.size := Nat.le_trans Z95 (Keep.of_wr W96).1
            have HK96 := Nat.le_trans HK95 (Keep.of_wr W96).1
            have N96 := Fr.snoc X96 N95 g_b89
            have V_b89_96 : AI Z h96 b89 .char [(nar .char (atF bs 0 p3 p4 p5 p6)), (nar .char (atF bs 1 p3 p4 p5 p6)), (nar .char (atF bs 2 p3 p4 p5 p6)), (nar .char (atF bs 3 p3 p4 p5 p6)), (nar .char (atF bs 4 p3 p4 p5 p6)), (nar .char (atF bs 5 p3 p4 p5 p6)), (nar .char (atF bs 6 p3 p4 p5 p6)), (0 : Int32), (0 : Int32), (0 : Int32)] := V96
            show Goes p e below KK T96 (mkF m 407 #[.val (.int p1), .val (.ref a2), .val (.int p3), .val (.int p4), .val (.int p5), .val (.int p6), .val (.int (atF bs 0 p3 p4 p5 p6)), .val (.int (atF bs 1 p3 p4 p5 p6)), .val (.int (atF bs 2 p3 p4 p5 p6)), .val (.int (atF bs 3 p3 p4 p5 p6)), .val (.int (atF bs 4 p3 p4 p5 p6)), .val (.int (atF bs 5 p3 p4 p5 p6)), .val (.int (atF bs 6 p3 p4 p5 p6)), .val (.int (atF bs 7 p3 p4 p5 p6)), .val (.int (atF bs 8 p3 p4 p5 p6)), .val (.int (atF bs 9 p3 p4 p5 p6)), .val (.int (atF bs 10 p3 p4 p5 p6)), .val (.int (atF bs 11 p3 p4 p5 p6))] [(.ref b89), (.ref b88), (.ref b88)])
            refine Goes.of (fun t => XS.dup X96.here hx rfl (hb hby d2_407) rfl rfl) ?_
            show Goes p e below KK T96 (mkF m 408 #[.val (.int p1), .val (.ref a2), .val (.int p3), .val (.int p4), .val (.int p5), .val (.int p6), .val (.int (atF bs 0 p3 p4 p5 p6)), .val (.int (atF bs 1 p3 p4 p5 p6)), .val (.int (atF bs 2 p3 p4 p5 p6)), .val (.int (atF bs 3 p3 p4 p5 p6)), .val (.int (atF bs 4 p3 p4 p5 p6)), .val (.int (atF bs 5 p3 p4 p5 p6)), .val (.int (atF bs 6 p3 p4 p5 p6)), .val (.int (atF bs 7 p3 p4 p5 p6)), .val (.int (atF bs 8 p3 p4 p5 p6)), .val (.int (atF bs 9 p3 p4 p5 p6)), .val (.int (atF bs 10 p3 p4 p5 p6)), .val (.int (atF bs 11 p3 p4 p5 p6))] [(.ref b89), (.ref b89), (.ref b88), (.ref b88)])
            refine Goes.of (fun t => XS.bipush X96.here hx rfl (hb hby d2_408)) ?_
            show Goes p e below KK T96 (mkF m 410 #[.val (.int p1), .val (.ref a2), .val (.int p3), .val (.int p4), .val (.int p5), .val (.int p6), .val (.int (atF bs 0 p3 p4 p5 p6)), .val (.int (atF bs 1 p3 p4 p5 p6)), .val (.int (atF bs 2 p3 p4 p5 p6)), .val (.int (atF bs 3 p3 p4 p5 p6)), .val (.int (atF bs 4 p3 p4 p5 p6)), .val (.int (atF bs 5 p3 p4 p5 p6)), .val (.int (atF bs 6 p3 p4 p5 p6)), .val (.int (atF bs 7 p3 p4 p5 p6)), .val (.int (atF bs 8 p3 p4 p5 p6)), .val (.int (atF bs 9 p3 p4 p5 p6)), .val (.int (atF bs 10 p3 p4 p5 p6)), .val (.int (atF bs 11 p3 p4 p5 p6))] [(.int (7 : Int32)), (.ref b89), (.ref b89), (.ref b88), (.ref b88)])
            refine Goes.of (fun t => XS.iload X96.here hx rfl (hb hby d2_410) rfl) ?_
            show Goes p e below KK T96 (mkF m 412 #[.val (.int p1), .val (.ref a2), .val (.int p3), .val (.int p4), .val (.int p5), .val (.int p6), .val (.int (atF bs 0 p3 p4 p5 p6)), .val (.int (atF bs 1 p3 p4 p5 p6)), .val (.int (atF bs 2 p3 p4 p5 p6)), .val (.int (atF bs 3 p3 p4 p5 p6)), .val (.int (atF bs 4 p3 p4 p5 p6)), .val (.int (atF bs 5 p3 p4 p5 p6)), .val (.int (atF bs 6 p3 p4 p5 p6)), .val (.int (atF bs 7 p3 p4 p5 p6)), .val (.int (atF bs 8 p3 p4 p5 p6)), .val (.int (atF bs 9 p3 p4 p5 p6)), .val (.int (atF bs 10 p3 p4 p5 p6)), .val (.int (atF bs 11 p3 p4 p5 p6))] [(.int (atF bs 7 p3 p4 p5 p6)), (.int (7 : Int32)), (.ref b89), (.ref b89), (.ref b88), (.ref b88)])
            obtain ⟨T97, h97, X97, e97, W97, V97, st97⟩ := AI.castore X96 hx hZw e96 V_b89_96 (i := 7) (j := (7 : Int32)) (rfl) ((by simp)) (g := (mkF m 412 #[.val (.int p1), .val (.ref a2), .val (.int p3), .val (.int p4), .val (.int p5), .val (.int p6), .val (.int (atF bs 0 p3 p4 p5 p6)), .val (.int (atF bs 1 p3 p4 p5 p6)), .val (.int (atF bs 2 p3 p4 p5 p6)), .val (.int (atF bs 3 p3 p4 p5 p6)), .val (.int (atF bs 4 p3 p4 p5 p6)), .val (.int (atF bs 5 p3 p4 p5 p6)), .val (.int (atF bs 6 p3 p4 p5 p6)), .val (.int (atF bs 7 p3 p4 p5 p6)), .val (.int (atF bs 8 p3 p4 p5 p6)), .val (.int (atF bs 9 p3 p4 p5 p6)), .val (.int (atF bs 10 p3 p4 p5 p6)), .val (.int (atF bs 11 p3 p4 p5 p6))] [(.int (atF bs 7 p3 p4 p5 p6)), (.int (7 : Int32)), (.ref b89), (.ref b89), (.ref b88), (.ref b88)])) rfl rfl (hb hby d2_412)
            refine Goes.of (st97) ?_
            have sf_b88_97 := Safe.wr W97 sf_b89_96 CR96.1 sf_b88_96
            have sf_b89_97 := Safe.wr W97 sf_b89_96 CR96.1 sf_b89_96
            have CR97 := CR96.trans (CHr.wr W97 sf_b89_96 CR96.1)
            have E2_88_89_90_91_92_93_94_95_96_97 : Exa Z h97 a2 "java/lang/String" := E2_88_89_90_91_92_93_94_95_96.wr W97
            have C2_88_89_90_91_92_93_94_95_96_97 : Fld Z h97 a2 "java/lang/String" "coder" "B" (.int (0 : Int32)) := C2_88_89_90_91_92_93_94_95_96.other W97 (Or.inl ne_a2_b89)
            have W2v_88_89_90_91_92_93_94_95_96_97 : Fld Z h97 a2 "java/lang/String" "value" "[B" (.ref b2) := W2v_88_89_90_91_92_93_94_95_96.other W97 (Or.inl ne_a2_b89)
            have V2_88_89_90_91_92_93_94_95_96_97 : AI Z h97 b2 .byte bs := V2_88_89_90_91_92_93_94_95_96.other W97 ne_b2_b89
            have Scs_88_89_90_91_92_93_94_95_96_97 : Sta Z h97 "java/lang/String" "COMPACT_STRINGS" "Z" (.int cz) := Scs_88_89_90_91_92_93_94_95_96.wr W97
            have Sf_88_89_90_91_92_93_94_95_96_97 : Sta Z h97 "jdk/internal/util/Preconditions" "SIOOBE_FORMATTER" "Ljava/util/function/BiFunction;" fm := Sf_88_89_90_91_92_93_94_95_96.wr W97
            have A88_89_90_91_92_93_94_95_96_97 : Exa Z h97 b88 "java/lang/String" := A88_89_90_91_92_93_94_95_96.wr W97
            have F_value_b88_89_90_91_92_93_94_95_96_97 : Fld Z h97 b88 "java/lang/String" "value" "[B" .null := F_value_b88_89_90_91_92_93_94_95_96.other W97 (Or.inl ne_b88_b89)
            have F_coder_b88_89_90_91_92_93_94_95_96_97 : Fld Z h97 b88 "java/lang/String" "coder" "B" (.int (0 : Int32)) := F_coder_b88_89_90_91_92_93_94_95_96.other W97 (Or.inl ne_b88_b89)
            have K97 : Keep h0 h97 [] := K96.wr W97 (Or.inr sz_b89)
            have Z97 : n0 ≤ h97.size := Nat.le_trans Z96 (Keep.of_wr W97).1
            have HK97 := Nat.le_trans HK96 (Keep.of_wr W97).1
            have N97 := Fr.snoc X97 N96 g_b89
            have V_b89_97 : AI Z h97 b89 .char [(nar .char (atF bs 0 p3 p4 p5 p6)), (nar .char (atF bs 1 p3 p4 p5 p6)), (nar .char (atF bs 2 p3 p4 p5 p6)), (nar .char (atF bs 3 p3 p4 p5 p6)), (nar .char (atF bs 4 p3 p4 p5 p6)), (nar .char (atF bs 5 p3 p4 p5 p6)), (nar .char (atF bs 6 p3 p4 p5 p6)), (nar .char (atF bs 7 p3 p4 p5 p6)), (0 : Int32), (0 : Int32)] := V97
            show Goes p e below KK T97 (mkF m 413 #[.val (.int p1), .val (.ref a2), .val (.int p3), .val (.int p4), .val (.int p5), .val (.int p6), .val (.int (atF bs 0 p3 p4 p5 p6)), .val (.int (atF bs 1 p3 p4 p5 p6)), .val (.int (atF bs 2 p3 p4 p5 p6)), .val (.int (atF bs 3 p3 p4 p5 p6)), .val (.int (atF bs 4 p3 p4 p5 p6)), .val (.int (atF bs 5 p3 p4 p5 p6)), .val (.int (atF bs 6 p3 p4 p5 p6)), .val (.int (atF bs 7 p3 p4 p5 p6)), .val (.int (atF bs 8 p3 p4 p5 p6)), .val (.int (atF bs 9 p3 p4 p5 p6)), .val (.int (atF bs 10 p3 p4 p5 p6)), .val (.int (atF bs 11 p3 p4 p5 p6))] [(.ref b89), (.ref b88), (.ref b88)])
            refine Goes.of (fun t => XS.dup X97.here hx rfl (hb hby d2_413) rfl rfl) ?_
            show Goes p e below KK T97 (mkF m 414 #[.val (.int p1), .val (.ref a2), .val (.int p3), .val (.int p4), .val (.int p5), .val (.int p6), .val (.int (atF bs 0 p3 p4 p5 p6)), .val (.int (atF bs 1 p3 p4 p5 p6)), .val (.int (atF bs 2 p3 p4 p5 p6)), .val (.int (atF bs 3 p3 p4 p5 p6)), .val (.int (atF bs 4 p3 p4 p5 p6)), .val (.int (atF bs 5 p3 p4 p5 p6)), .val (.int (atF bs 6 p3 p4 p5 p6)), .val (.int (atF bs 7 p3 p4 p5 p6)), .val (.int (atF bs 8 p3 p4 p5 p6)), .val (.int (atF bs 9 p3 p4 p5 p6)), .val (.int (atF bs 10 p3 p4 p5 p6)), .val (.int (atF bs 11 p3 p4 p5 p6))] [(.ref b89), (.ref b89), (.ref b88), (.ref b88)])
            refine Goes.of (fun t => XS.bipush X97.here hx rfl (hb hby d2_414)) ?_
            show Goes p e below KK T97 (mkF m 416 #[.val (.int p1), .val (.ref a2), .val (.int p3), .val (.int p4), .val (.int p5), .val (.int p6), .val (.int (atF bs 0 p3 p4 p5 p6)), .val (.int (atF bs 1 p3 p4 p5 p6)), .val (.int (atF bs 2 p3 p4 p5 p6)), .val (.int (atF bs 3 p3 p4 p5 p6)), .val (.int (atF bs 4 p3 p4 p5 p6)), .val (.int (atF bs 5 p3 p4 p5 p6)), .val (.int (atF bs 6 p3 p4 p5 p6)), .val (.int (atF bs 7 p3 p4 p5 p6)), .val (.int (atF bs 8 p3 p4 p5 p6)), .val (.int (atF bs 9 p3 p4 p5 p6)), .val (.int (atF bs 10 p3 p4 p5 p6)), .val (.int (atF bs 11 p3 p4 p5 p6))] [(.int (8 : Int32)), (.ref b89), (.ref b89), (.ref b88), (.ref b88)])
            refine Goes.of (fun t => XS.iload X97.here hx rfl (hb hby d2_416) rfl) ?_
            show Goes p e below KK T97 (mkF m 418 #[.val (.int p1), .val (.ref a2), .val (.int p3), .val (.int p4), .val (.int p5), .val (.int p6), .val (.int (atF bs 0 p3 p4 p5 p6)), .val (.int (atF bs 1 p3 p4 p5 p6)), .val (.int (atF bs 2 p3 p4 p5 p6)), .val (.int (atF bs 3 p3 p4 p5 p6)), .val (.int (atF bs 4 p3 p4 p5 p6)), .val (.int (atF bs 5 p3 p4 p5 p6)), .val (.int (atF bs 6 p3 p4 p5 p6)), .val (.int (atF bs 7 p3 p4 p5 p6)), .val (.int (atF bs 8 p3 p4 p5 p6)), .val (.int (atF bs 9 p3 p4 p5 p6)), .val (.int (atF bs 10 p3 p4 p5 p6)), .val (.int (atF bs 11 p3 p4 p5 p6))] [(.int (atF bs 8 p3 p4 p5 p6)), (.int (8 : Int32)), (.ref b89), (.ref b89), (.ref b88), (.ref b88)])
            obtain ⟨T98, h98, X98, e98, W98, V98, st98⟩ := AI.castore X97 hx hZw e97 V_b89_97 (i := 8) (j := (8 : Int32)) (rfl) ((by simp)) (g := (mkF m 418 #[.val (.int p1), .val (.ref a2), .val (.int p3), .val (.int p4), .val (.int p5), .val (.int p6), .val (.int (atF bs 0 p3 p4 p5 p6)), .val (.int (atF bs 1 p3 p4 p5 p6)), .val (.int (atF bs 2 p3 p4 p5 p6)), .val (.int (atF bs 3 p3 p4 p5 p6)), .val (.int (atF bs 4 p3 p4 p5 p6)), .val (.int (atF bs 5 p3 p4 p5 p6)), .val (.int (atF bs 6 p3 p4 p5 p6)), .val (.int (atF bs 7 p3 p4 p5 p6)), .val (.int (atF bs 8 p3 p4 p5 p6)), .val (.int (atF bs 9 p3 p4 p5 p6)), .val (.int (atF bs 10 p3 p4 p5 p6)), .val (.int (atF bs 11 p3 p4 p5 p6))] [(.int (atF bs 8 p3 p4 p5 p6)), (.int (8 : Int32)), (.ref b89), (.ref b89), (.ref b88), (.ref b88)])) rfl rfl (hb hby d2_418)
            refine Goes.of (st98) ?_
            have sf_b88_98 := Safe.wr W98 sf_b89_97 CR97.1 sf_b88_97
            have sf_b89_98 := Safe.wr W98 sf_b89_97 CR97.1 sf_b89_97
            have CR98 := CR97.trans (CHr.wr W98 sf_b89_97 CR97.1)
            have E2_88_89_90_91_92_93_94_95_96_97_98 : Exa Z h98 a2 "java/lang/String" := E2_88_89_90_91_92_93_94_95_96_97.wr W98
            have C2_88_89_90_91_92_93_94_95_96_97_98 : Fld Z h98 a2 "java/lang/String" "coder" "B" (.int (0 : Int32)) := C2_88_89_90_91_92_93_94_95_96_97.other W98 (Or.inl ne_a2_b89)
            have W2v_88_89_90_91_92_93_94_95_96_97_98 : Fld Z h98 a2 "java/lang/String" "value" "[B" (.ref b2) := W2v_88_89_90_91_92_93_94_95_96_97.other W98 (Or.inl ne_a2_b89)
            have V2_88_89_90_91_92_93_94_95_96_97_98 : AI Z h98 b2 .byte bs := V2_88_89_90_91_92_93_94_95_96_97.other W98 ne_b2_b89
            have Scs_88_89_90_91_92_93_94_95_96_97_98 : Sta Z h98 "java/lang/String" "COMPACT_STRINGS" "Z" (.int cz) := Scs_88_89_90_91_92_93_94_95_96_97.wr W98
            have Sf_88_89_90_91_92_93_94_95_96_97_98 : Sta Z h98 "jdk/internal/util/Preconditions" "SIOOBE_FORMATTER" "Ljava/util/function/BiFunction;" fm := Sf_88_89_90_91_92_93_94_95_96_97.wr W98
            have A88_89_90_91_92_93_94_95_96_97_98 : Exa Z h98 b88 "java/lang/String" := A88_89_90_91_92_93_94_95_96_97.wr W98
            have F_value_b88_89_90_91_92_93_94_95_96_97_98 : Fld Z h98 b88 "java/lang/String" "value" "[B" .null := F_value_b88_89_90_91_92_93_94_95_96_97.other W98 (Or.inl ne_b88_b89)
            have F_coder_b88_89_90_91_92_93_94_95_96_97_98 : Fld Z h98 b88 "java/lang/String" "coder" "B" (.int (0 : Int32)) := F_coder_b88_89_90_91_92_93_94_95_96_97.other W98 (Or.inl ne_b88_b89)
            have K98 : Keep h0 h98 [] := K97.wr W98 (Or.inr sz_b89)
            have Z98 : n0 ≤ h98.size := Nat.le_trans Z97 (Keep.of_wr W98).1
            have HK98 := Nat.le_trans HK97 (Keep.of_wr W98).1
            have N98 := Fr.snoc X98 N97 g_b89
            have V_b89_98 : AI Z h98 b89 .char [(nar .char (atF bs 0 p3 p4 p5 p6)), (nar .char (atF bs 1 p3 p4 p5 p6)), (nar .char (atF bs 2 p3 p4 p5 p6)), (nar .char (atF bs 3 p3 p4 p5 p6)), (nar .char (atF bs 4 p3 p4 p5 p6)), (nar .char (atF bs 5 p3 p4 p5 p6)), (nar .char (atF bs 6 p3 p4 p5 p6)), (nar .char (atF bs 7 p3 p4 p5 p6)), (nar .char (atF bs 8 p3 p4 p5 p6)), (0 : Int32)] := V98
            show Goes p e below KK T98 (mkF m 419 #[.val (.int p1), .val (.ref a2), .val (.int p3), .val (.int p4), .val (.int p5), .val (.int p6), .val (.int (atF bs 0 p3 p4 p5 p6)), .val (.int (atF bs 1 p3 p4 p5 p6)), .val (.int (atF bs 2 p3 p4 p5 p6)), .val (.int (atF bs 3 p3 p4 p5 p6)), .val (.int (atF bs 4 p3 p4 p5 p6)), .val (.int (atF bs 5 p3 p4 p5 p6)), .val (.int (atF bs 6 p3 p4 p5 p6)), .val (.int (atF bs 7 p3 p4 p5 p6)), .val (.int (atF bs 8 p3 p4 p5 p6)), .val (.int (atF bs 9 p3 p4 p5 p6)), .val (.int (atF bs 10 p3 p4 p5 p6)), .val (.int (atF bs 11 p3 p4 p5 p6))] [(.ref b89), (.ref b88), (.ref b88)])
            refine Goes.of (fun t => XS.dup X98.here hx rfl (hb hby d2_419) rfl rfl) ?_
            show Goes p e below KK T98 (mkF m 420 #[.val (.int p1), .val (.ref a2), .val (.int p3), .val (.int p4), .val (.int p5), .val (.int p6), .val (.int (atF bs 0 p3 p4 p5 p6)), .val (.int (atF bs 1 p3 p4 p5 p6)), .val (.int (atF bs 2 p3 p4 p5 p6)), .val (.int (atF bs 3 p3 p4 p5 p6)), .val (.int (atF bs 4 p3 p4 p5 p6)), .val (.int (atF bs 5 p3 p4 p5 p6)), .val (.int (atF bs 6 p3 p4 p5 p6)), .val (.int (atF bs 7 p3 p4 p5 p6)), .val (.int (atF bs 8 p3 p4 p5 p6)), .val (.int (atF bs 9 p3 p4 p5 p6)), .val (.int (atF bs 10 p3 p4 p5 p6)), .val (.int (atF bs 11 p3 p4 p5 p6))] [(.ref b89), (.ref b89), (.ref b88), (.ref b88)])
            refine Goes.of (fun t => XS.bipush X98.here hx rfl (hb hby d2_420)) ?_
            show Goes p e below KK T98 (mkF m 422 #[.val (.int p1), .val (.ref a2), .val (.int p3), .val (.int p4), .val (.int p5), .val (.int p6), .val (.int (atF bs 0 p3 p4 p5 p6)), .val (.int (atF bs 1 p3 p4 p5 p6)), .val (.int (atF bs 2 p3 p4 p5 p6)), .val (.int (atF bs 3 p3 p4 p5 p6)), .val (.int (atF bs 4 p3 p4 p5 p6)), .val (.int (atF bs 5 p3 p4 p5 p6)), .val (.int (atF bs 6 p3 p4 p5 p6)), .val (.int (atF bs 7 p3 p4 p5 p6)), .val (.int (atF bs 8 p3 p4 p5 p6)), .val (.int (atF bs 9 p3 p4 p5 p6)), .val (.int (atF bs 10 p3 p4 p5 p6)), .val (.int (atF bs 11 p3 p4 p5 p6))] [(.int (9 : Int32)), (.ref b89), (.ref b89), (.ref b88), (.ref b88)])
            refine Goes.of (fun t => XS.iload X98.here hx rfl (hb hby d2_422) rfl) ?_
            show Goes p e below KK T98 (mkF m 424 #[.val (.int p1), .val (.ref a2), .val (.int p3), .val (.int p4), .val (.int p5), .val (.int p6), .val (.int (atF bs 0 p3 p4 p5 p6)), .val (.int (atF bs 1 p3 p4 p5 p6)), .val (.int (atF bs 2 p3 p4 p5 p6)), .val (.int (atF bs 3 p3 p4 p5 p6)), .val (.int (atF bs 4 p3 p4 p5 p6)), .val (.int (atF bs 5 p3 p4 p5 p6)), .val (.int (atF bs 6 p3 p4 p5 p6)), .val (.int (atF bs 7 p3 p4 p5 p6)), .val (.int (atF bs 8 p3 p4 p5 p6)), .val (.int (atF bs 9 p3 p4 p5 p6)), .val (.int (atF bs 10 p3 p4 p5 p6)), .val (.int (atF bs 11 p3 p4 p5 p6))] [(.int (atF bs 9 p3 p4 p5 p6)), (.int (9 : Int32)), (.ref b89), (.ref b89), (.ref b88), (.ref b88)])
            obtain ⟨T99, h99, X99, e99, W99, V99, st99⟩ := AI.castore X98 hx hZw e98 V_b89_98 (i := 9) (j := (9 : Int32)) (rfl) ((by simp)) (g := (mkF m 424 #[.val (.int p1), .val (.ref a2), .val (.int p3), .val (.int p4), .val (.int p5), .val (.int p6), .val (.int (atF bs 0 p3 p4 p5 p6)), .val (.int (atF bs 1 p3 p4 p5 p6)), .val (.int (atF bs 2 p3 p4 p5 p6)), .val (.int (atF bs 3 p3 p4 p5 p6)), .val (.int (atF bs 4 p3 p4 p5 p6)), .val (.int (atF bs 5 p3 p4 p5 p6)), .val (.int (atF bs 6 p3 p4 p5 p6)), .val (.int (atF bs 7 p3 p4 p5 p6)), .val (.int (atF bs 8 p3 p4 p5 p6)), .val (.int (atF bs 9 p3 p4 p5 p6)), .val (.int (atF bs 10 p3 p4 p5 p6)), .val (.int (atF bs 11 p3 p4 p5 p6))] [(.int (atF bs 9 p3 p4 p5 p6)), (.int (9 : Int32)), (.ref b89), (.ref b89), (.ref b88), (.ref b88)])) rfl rfl (hb hby d2_424)
            refine Goes.of (st99) ?_
            have sf_b88_99 := Safe.wr W99 sf_b89_98 CR98.1 sf_b88_98
            have sf_b89_99 := Safe.wr W99 sf_b89_98 CR98.1 sf_b89_98
            have CR99 := CR98.trans (CHr.wr W99 sf_b89_98 CR98.1)
            have E2_88_89_90_91_92_93_94_95_96_97_98_99 : Exa Z h99 a2 "java/lang/String" := E2_88_89_90_91_92_93_94_95_96_97_98.wr W99
            have C2_88_89_90_91_92_93_94_95_96_97_98_99 : Fld Z h99 a2 "java/lang/String" "coder" "B" (.int (0 : Int32)) := C2_88_89_90_91_92_93_94_95_96_97_98.other W99 (Or.inl ne_a2_b89)
            have W2v_88_89_90_91_92_93_94_95_96_97_98_99 : Fld Z h99 a2 "java/lang/String" "value" "[B" (.ref b2) := W2v_88_89_90_91_92_93_94_95_96_97_98.other W99 (Or.inl ne_a2_b89)
            have V2_88_89_90_91_92_93_94_95_96_97_98_99 : AI Z h99 b2 .byte bs := V2_88_89_90_91_92_93_94_95_96_97_98.other W99 ne_b2_b89
            have Scs_88_89_90_91_92_93_94_95_96_97_98_99 : Sta Z h99 "java/lang/String" "COMPACT_STRINGS" "Z" (.int cz) := Scs_88_89_90_91_92_93_94_95_96_97_98.wr W99
            have Sf_88_89_90_91_92_93_94_95_96_97_98_99 : Sta Z h99 "jdk/internal/util/Preconditions" "SIOOBE_FORMATTER" "Ljava/util/function/BiFunction;" fm := Sf_88_89_90_91_92_93_94_95_96_97_98.wr W99
            have A88_89_90_91_92_93_94_95_96_97_98_99 : Exa Z h99 b88 "java/lang/String" := A88_89_90_91_92_93_94_95_96_97_98.wr W99
            have F100_99 : Fld Z h99 b88 "java/lang/String" "value" "[B" .null := F_value_b88_89_90_91_92_93_94_95_96_97_98.other W99 (Or.inl ne_b88_b89)
            have F101_99 : Fld Z h99 b88 "java/lang/String" "coder" "B" (.int (0 : Int32)) := F_coder_b88_89_90_91_92_93_94_95_96_97_98.other W99 (Or.inl ne_b88_b89)
            have K99 : Keep h0 h99 [] := K98.wr W99 (Or.inr sz_b89)
            have Z99 : n0 ≤ h99.size := Nat.le_trans Z98 (Keep.of_wr W99).1
            have HK99 := Nat.le_trans HK98 (Keep.of_wr W99).1
            have N99 := Fr.snoc X99 N98 g_b89
            have V_b89_99 : AI Z h99 b89 .char [(nar .char (atF bs 0 p3 p4 p5 p6)), (nar .char (atF bs 1 p3 p4 p5 p6)), (nar .char (atF bs 2 p3 p4 p5 p6)), (nar .char (atF bs 3 p3 p4 p5 p6)), (nar .char (atF bs 4 p3 p4 p5 p6)), (nar .char (atF bs 5 p3 p4 p5 p6)), (nar .char (atF bs 6 p3 p4 p5 p6)), (nar .char (atF bs 7 p3 p4 p5 p6)), (nar .char (atF bs 8 p3 p4 p5 p6)), (nar .char (atF bs 9 p3 p4 p5 p6))] := V99
            show Goes p e below KK T99 (mkF m 425 #[.val (.int p1), .val (.ref a2), .val (.int p3), .val (.int p4), .val (.int p5), .val (.int p6), .val (.int (atF bs 0 p3 p4 p5 p6)), .val (.int (atF bs 1 p3 p4 p5 p6)), .val (.int (atF bs 2 p3 p4 p5 p6)), .val (.int (atF bs 3 p3 p4 p5 p6)), .val (.int (atF bs 4 p3 p4 p5 p6)), .val (.int (atF bs 5 p3 p4 p5 p6)), .val (.int (atF bs 6 p3 p4 p5 p6)), .val (.int (atF bs 7 p3 p4 p5 p6)), .val (.int (atF bs 8 p3 p4 p5 p6)), .val (.int (atF bs 9 p3 p4 p5 p6)), .val (.int (atF bs 10 p3 p4 p5 p6)), .val (.int (atF bs 11 p3 p4 p5 p6))] [(.ref b89), (.ref b88), (.ref b88)])
            obtain ⟨_, _, ⟨T102, L102, k102, n102⟩, -, X102, ⟨Lc102, hQ102, l102, y102, z102⟩, st102⟩ := X99.specialBack hx (y := (⟨"java/lang/String", "<init>", "([C)V"⟩ : MethodName)) rfl hownw (mvT hZw w_56) (mvT hZw w_57) (mvT hZw w_58) (by decide) (backOf (W := 1) (rm11N l Z a0 hw [] b88 b89 [(nar .char (atF bs 0 p3 p4 p5 p6)), (nar .char (atF bs 1 p3 p4 p5 p6)), (nar .char (atF bs 2 p3 p4 p5 p6)), (nar .char (atF bs 3 p3 p4 p5 p6)), (nar .char (atF bs 4 p3 p4 p5 p6)), (nar .char (atF bs 5 p3 p4 p5 p6)), (nar .char (atF bs 6 p3 p4 p5 p6)), (nar .char (atF bs 7 p3 p4 p5 p6)), (nar .char (atF bs 8 p3 p4 p5 p6)), (nar .char (atF bs 9 p3 p4 p5 p6))] 10 cz h99 n0 Z99 A88_89_90_91_92_93_94_95_96_97_98_99 F101_99 F100_99 g_b88 V_b89_99 rfl (by simp) (by simp) (own_cs hbs hd hf 10) Scs_88_89_90_91_92_93_94_95_96_97_98_99 hcz) hZw w_58 w_1 (by decide) (by decide)) (g := (mkF m 425 #[.val (.int p1), .val (.ref a2), .val (.int p3), .val (.int p4), .val (.int p5), .val (.int p6), .val (.int (atF bs 0 p3 p4 p5 p6)), .val (.int (atF bs 1 p3 p4 p5 p6)), .val (.int (atF bs 2 p3 p4 p5 p6)), .val (.int (atF bs 3 p3 p4 p5 p6)), .val (.int (atF bs 4 p3 p4 p5 p6)), .val (.int (atF bs 5 p3 p4 p5 p6)), .val (.int (atF bs 6 p3 p4 p5 p6)), .val (.int (atF bs 7 p3 p4 p5 p6)), .val (.int (atF bs 8 p3 p4 p5 p6)), .val (.int (atF bs 9 p3 p4 p5 p6)), .val (.int (atF bs 10 p3 p4 p5 p6)), .val (.int (atF bs 11 p3 p4 p5 p6))] [(.ref b89), (.ref b88), (.ref b88)])) rfl (by rw [hml]; rfl) (Steps.refl _) (a := b88) (argsL := [(.ref b89)]) (rest := [(.ref b88)]) (lenOf pd_27 rfl) rfl (by show 2 * 0 + _ ≤ _; exact Nat.le_of_eq rfl) (hb hby d2_425) (fun _ _ => ⟨rfl, e99, (by decide : 2 + 1 ≤ _), (by decide : 14 + 12 ≤ _)⟩)
            dsimp only [Pt.U, Pt.locs, Pt.cells, Pt.slots] at X102 l102 y102 z102 st102 hQ102
            subst y102 z102
            obtain ⟨r102, rfl, N102q, Kc102, hb102, E102, Fc102, Fv102, V102⟩ := hQ102
            have N102 : Fr n0 L102 := by rw [l102]; exact Fr.app N99 N102q
            have ne_a2_r102 : a2 ≠ r102 := Nat.ne_of_lt (Nat.lt_of_lt_of_le E2_88_89_90_91_92_93_94_95_96_97_98_99.lt hb102)
            have ne_b2_r102 : b2 ≠ r102 := Nat.ne_of_lt (Nat.lt_of_lt_of_le V2_88_89_90_91_92_93_94_95_96_97_98_99.lt hb102)
            have ne_b88_r102 : b88 ≠ r102 := Nat.ne_of_lt (Nat.lt_of_lt_of_le A88_89_90_91_92_93_94_95_96_97_98_99.lt hb102)
            have ne_b89_r102 : b89 ≠ r102 := Nat.ne_of_lt (Nat.lt_of_lt_of_le V_b89_99.lt hb102)
            have g_r102 : n0 ≤ r102 := Nat.le_trans Z99 hb102
            have sz_r102 : h0.size ≤ r102 := Nat.le_trans K99.1 hb102
            have sf_b88_102 := Safe.keep Kc102 (sfS sf_b88_99 sf0) CR99.1 sf_b88_99
            have sf_b89_102 := Safe.keep Kc102 (sfS sf_b88_99 sf0) CR99.1 sf_b89_99
            have CR102 := CR99.trans (CHr.keep Kc102 (sfS sf_b88_99 sf0) CR99.1)
            have E2_88_89_90_91_92_93_94_95_96_97_98_99_102 : Exa Z T102.heap a2 "java/lang/String" := E2_88_89_90_91_92_93_94_95_96_97_98_99.keep Kc102
            have C2_88_89_90_91_92_93_94_95_96_97_98_99_102 : Fld Z T102.heap a2 "java/lang/String" "coder" "B" (.int (0 : Int32)) := C2_88_89_90_91_92_93_94_95_96_97_98_99.keep Kc102 (ninS ne_a2_b88 nin0)
            have W2v_88_89_90_91_92_93_94_95_96_97_98_99_102 : Fld Z T102.heap a2 "java/lang/String" "value" "[B" (.ref b2) := W2v_88_89_90_91_92_93_94_95_96_97_98_99.keep Kc102 (ninS ne_a2_b88 nin0)
            have V2_88_89_90_91_92_93_94_95_96_97_98_99_102 : AI Z T102.heap b2 .byte bs := V2_88_89_90_91_92_93_94_95_96_97_98_99.keep Kc102 (ninS ne_b2_b88 nin0)
            have A88_89_90_91_92_93_94_95_96_97_98_99_102 : Exa Z T102.heap b88 "java/lang/String" := A88_89_90_91_92_93_94_95_96_97_98_99.keep Kc102
            have K102 : Keep h0 T102.heap [] := K99.trans Kc102 (allS (Or.inr sz_b88) all0)
            have Z102 : n0 ≤ T102.heap.size := Nat.le_trans Z99 Kc102.1
            have HK102 := Nat.le_trans HK99 Kc102.1
            have e102 : T102.heap = T102.heap := rfl
            refine Goes.tr st102 ?_
            show Goes p e below KK T102 (mkF m 428 #[.val (.int p1), .val (.ref a2), .val (.int p3), .val (.int p4), .val (.int p5), .val (.int p6), .val (.int (atF bs 0 p3 p4 p5 p6)), .val (.int (atF bs 1 p3 p4 p5 p6)), .val (.int (atF bs 2 p3 p4 p5 p6)), .val (.int (atF bs 3 p3 p4 p5 p6)), .val (.int (atF bs 4 p3 p4 p5 p6)), .val (.int (atF bs 5 p3 p4 p5 p6)), .val (.int (atF bs 6 p3 p4 p5 p6)), .val (.int (atF bs 7 p3 p4 p5 p6)), .val (.int (atF bs 8 p3 p4 p5 p6)), .val (.int (atF bs 9 p3 p4 p5 p6)), .val (.int (atF bs 10 p3 p4 p5 p6)), .val (.int (atF bs 11 p3 p4 p5 p6))] [(.ref b88)])
            have hkk' : kk = 10 := by
              have z0 : (0 : Int32).toInt = 0 := rfl
              have z7 : (7 : Int32).toInt = 7 := rfl
              have z8 : (8 : Int32).toInt = 8 := rfl
              have z9 : (9 : Int32).toInt = 9 := rfl
              have z10 : (10 : Int32).toInt = 10 := rfl
              have z11 : (11 : Int32).toInt = 11 := rfl
              have z12 : (12 : Int32).toInt = 12 := rfl
              have qhc163 : ¬ p1.toInt = (0 : Int32).toInt := fun q => hc163 (Int32.toInt_inj.mp q)
              have qhc180 : ¬ p1.toInt = (7 : Int32).toInt := fun q => hc180 (Int32.toInt_inj.mp q)
              have qhc234 : ¬ p1.toInt = (8 : Int32).toInt := fun q => hc234 (Int32.toInt_inj.mp q)
              have qhc294 : ¬ p1.toInt = (9 : Int32).toInt := fun q => hc294 (Int32.toInt_inj.mp q)
              have qhc360 := congrArg Int32.toInt hc360
              omega
            subst hkk'
            rw [← hKK]
            refine Goes.retRefH X102 HS0 (by rw [e102]; exact HK102) (by rw [e102, hh]; exact CR102.trans (CHv.at X102 hZw hEL CR102.1)) hx hlk rfl rfl Bd.returns (hb hby d2_428) ?_ (by decide) (by decide)
            rw [e102]
            exact ⟨b88, r102, rfl, N102, K102, E102, Fc102, Fv102, V102⟩
          · refine Goes.of (fun t => XS.icmpYes X49.here hx rfl (pc0 := 360) (pc' := 429) rfl (hb hby d2_360) rfl (feq hc360).2 (by decide) (by decide)) ?_
            show Goes p e below KK T49 (mkF m 429 #[.val (.int p1), .val (.ref a2), .val (.int p3), .val (.int p4), .val (.int p5), .val (.int p6), .val (.int (atF bs 0 p3 p4 p5 p6)), .val (.int (atF bs 1 p3 p4 p5 p6)), .val (.int (atF bs 2 p3 p4 p5 p6)), .val (.int (atF bs 3 p3 p4 p5 p6)), .val (.int (atF bs 4 p3 p4 p5 p6)), .val (.int (atF bs 5 p3 p4 p5 p6)), .val (.int (atF bs 6 p3 p4 p5 p6)), .val (.int (atF bs 7 p3 p4 p5 p6)), .val (.int (atF bs 8 p3 p4 p5 p6)), .val (.int (atF bs 9 p3 p4 p5 p6)), .val (.int (atF bs 10 p3 p4 p5 p6)), .val (.int (atF bs 11 p3 p4 p5 p6))] [])
            refine Goes.of (fun t => XS.iloadN X49.here hx rfl (hb hby d2_429) rfl) ?_
            show Goes p e below KK T49 (mkF m 430 #[.val (.int p1), .val (.ref a2), .val (.int p3), .val (.int p4), .val (.int p5), .val (.int p6), .val (.int (atF bs 0 p3 p4 p5 p6)), .val (.int (atF bs 1 p3 p4 p5 p6)), .val (.int (atF bs 2 p3 p4 p5 p6)), .val (.int (atF bs 3 p3 p4 p5 p6)), .val (.int (atF bs 4 p3 p4 p5 p6)), .val (.int (atF bs 5 p3 p4 p5 p6)), .val (.int (atF bs 6 p3 p4 p5 p6)), .val (.int (atF bs 7 p3 p4 p5 p6)), .val (.int (atF bs 8 p3 p4 p5 p6)), .val (.int (atF bs 9 p3 p4 p5 p6)), .val (.int (atF bs 10 p3 p4 p5 p6)), .val (.int (atF bs 11 p3 p4 p5 p6))] [(.int p1)])
            refine Goes.of (fun t => XS.bipush X49.here hx rfl (hb hby d2_430)) ?_
            show Goes p e below KK T49 (mkF m 432 #[.val (.int p1), .val (.ref a2), .val (.int p3), .val (.int p4), .val (.int p5), .val (.int p6), .val (.int (atF bs 0 p3 p4 p5 p6)), .val (.int (atF bs 1 p3 p4 p5 p6)), .val (.int (atF bs 2 p3 p4 p5 p6)), .val (.int (atF bs 3 p3 p4 p5 p6)), .val (.int (atF bs 4 p3 p4 p5 p6)), .val (.int (atF bs 5 p3 p4 p5 p6)), .val (.int (atF bs 6 p3 p4 p5 p6)), .val (.int (atF bs 7 p3 p4 p5 p6)), .val (.int (atF bs 8 p3 p4 p5 p6)), .val (.int (atF bs 9 p3 p4 p5 p6)), .val (.int (atF bs 10 p3 p4 p5 p6)), .val (.int (atF bs 11 p3 p4 p5 p6))] [(.int (11 : Int32)), (.int p1)])
            by_cases hc432 : p1 = (11 : Int32)
            · refine Goes.of (fun t => XS.icmpNo X49.here hx rfl (hb hby d2_432) rfl (teq hc432).2) ?_
              show Goes p e below KK T49 (mkF m 435 #[.val (.int p1), .val (.ref a2), .val (.int p3), .val (.int p4), .val (.int p5), .val (.int p6), .val (.int (atF bs 0 p3 p4 p5 p6)), .val (.int (atF bs 1 p3 p4 p5 p6)), .val (.int (atF bs 2 p3 p4 p5 p6)), .val (.int (atF bs 3 p3 p4 p5 p6)), .val (.int (atF bs 4 p3 p4 p5 p6)), .val (.int (atF bs 5 p3 p4 p5 p6)), .val (.int (atF bs 6 p3 p4 p5 p6)), .val (.int (atF bs 7 p3 p4 p5 p6)), .val (.int (atF bs 8 p3 p4 p5 p6)), .val (.int (atF bs 9 p3 p4 p5 p6)), .val (.int (atF bs 10 p3 p4 p5 p6)), .val (.int (atF bs 11 p3 p4 p5 p6))] [])
              obtain ⟨T103, h103, X103, e103, E103, A103, D103, -, st103⟩ := newO X49 hx hZw hownw w_54 w_2 w_1 e49 (g := (mkF m 435 #[.val (.int p1), .val (.ref a2), .val (.int p3), .val (.int p4), .val (.int p5), .val (.int p6), .val (.int (atF bs 0 p3 p4 p5 p6)), .val (.int (atF bs 1 p3 p4 p5 p6)), .val (.int (atF bs 2 p3 p4 p5 p6)), .val (.int (atF bs 3 p3 p4 p5 p6)), .val (.int (atF bs 4 p3 p4 p5 p6)), .val (.int (atF bs 5 p3 p4 p5 p6)), .val (.int (atF bs 6 p3 p4 p5 p6)), .val (.int (atF bs 7 p3 p4 p5 p6)), .val (.int (atF bs 8 p3 p4 p5 p6)), .val (.int (atF bs 9 p3 p4 p5 p6)), .val (.int (atF bs 10 p3 p4 p5 p6)), .val (.int (atF bs 11 p3 p4 p5 p6))] [])) rfl (hb hby d2_435) (by decide) (by decide)
              obtain ⟨b103, g103⟩ : ∃ z, z = h0.size := ⟨_, rfl⟩
              rw [← g103] at A103 D103 st103
              refine Goes.of (st103) ?_
              have ne_a2_b103 : a2 ≠ b103 := Nat.ne_of_lt (Nat.lt_of_lt_of_le E2.lt (Nat.le_of_eq g103.symm))
              have ne_b2_b103 : b2 ≠ b103 := Nat.ne_of_lt (Nat.lt_of_lt_of_le V2.lt (Nat.le_of_eq g103.symm))
              have g_b103 : n0 ≤ b103 := Nat.le_trans Z0 (Nat.le_of_eq g103.symm)
              have sz_b103 : h0.size ≤ b103 := Nat.le_trans (Keep.refl h0 []).1 (Nat.le_of_eq g103.symm)
              have sf_b103 : Safe Z EL0 s.vm h0 b103 := Safe.new (Nat.le_of_eq g103.symm)
              have sf_b103_103 := Safe.ext E103 CR0.1 sf_b103
              have CR103 := CR0.trans (CHr.ext E103 CR0.1)
              have E2_103 : Exa Z h103 a2 "java/lang/String" := E2.ext E103
              have C2_103 : Fld Z h103 a2 "java/lang/String" "coder" "B" (.int (0 : Int32)) := C2.ext E103
              have W2v_103 : Fld Z h103 a2 "java/lang/String" "value" "[B" (.ref b2) := W2v.ext E103
              have V2_103 : AI Z h103 b2 .byte bs := V2.ext E103
              have Scs_103 : Sta Z h103 "java/lang/String" "COMPACT_STRINGS" "Z" (.int cz) := Scs.ext E103
              have Sf_103 : Sta Z h103 "jdk/internal/util/Preconditions" "SIOOBE_FORMATTER" "Ljava/util/function/BiFunction;" fm := Sf.ext E103
              have K103 : Keep h0 h103 [] := (Keep.refl h0 []).ext E103
              have Z103 : n0 ≤ h103.size := Nat.le_trans Z0 E103.1
              have HK103 := Nat.le_trans HK0 E103.1
              have F_value_b103 : Fld Z h103 b103 "java/lang/String" "value" "[B" .null := D103 (Or.inr w_4) (ty := (.array .byte)) (by decide)
              have F_coder_b103 : Fld Z h103 b103 "java/lang/String" "coder" "B" (.int (0 : Int32)) := D103 (Or.inr w_5) (ty := .byte) (by decide)
              show Goes p e below KK T103 (mkF m 438 #[.val (.int p1), .val (.ref a2), .val (.int p3), .val (.int p4), .val (.int p5), .val (.int p6), .val (.int (atF bs 0 p3 p4 p5 p6)), .val (.int (atF bs 1 p3 p4 p5 p6)), .val (.int (atF bs 2 p3 p4 p5 p6)), .val (.int (atF bs 3 p3 p4 p5 p6)), .val (.int (atF bs 4 p3 p4 p5 p6)), .val (.int (atF bs 5 p3 p4 p5 p6)), .val (.int (atF bs 6 p3 p4 p5 p6)), .val (.int (atF bs 7 p3 p4 p5 p6)), .val (.int (atF bs 8 p3 p4 p5 p6)), .val (.int (atF bs 9 p3 p4 p5 p6)), .val (.int (atF bs 10 p3 p4 p5 p6)), .val (.int (atF bs 11 p3 p4 p5 p6))] [(.ref b103)])
              refine Goes.of (fun t => XS.dup X103.here hx rfl (hb hby d2_438) rfl rfl) ?_
              show Goes p e below KK T103 (mkF m 439 #[.val (.int p1), .val (.ref a2), .val (.int p3), .val (.int p4), .val (.int p5), .val (.int p6), .val (.int (atF bs 0 p3 p4 p5 p6)), .val (.int (atF bs 1 p3 p4 p5 p6)), .val (.int (atF bs 2 p3 p4 p5 p6)), .val (.int (atF bs 3 p3 p4 p5 p6)), .val (.int (atF bs 4 p3 p4 p5 p6)), .val (.int (atF bs 5 p3 p4 p5 p6)), .val (.int (atF bs 6 p3 p4 p5 p6)), .val (.int (atF bs 7 p3 p4 p5 p6)), .val (.int (atF bs 8 p3 p4 p5 p6)), .val (.int (atF bs 9 p3 p4 p5 p6)), .val (.int (atF bs 10 p3 p4 p5 p6)), .val (.int (atF bs 11 p3 p4 p5 p6))] [(.ref b103), (.ref b103)])
              refine Goes.of (fun t => XS.bipush X103.here hx rfl (hb hby d2_439)) ?_
              show Goes p e below KK T103 (mkF m 441 #[.val (.int p1), .val (.ref a2), .val (.int p3), .val (.int p4), .val (.int p5), .val (.int p6), .val (.int (atF bs 0 p3 p4 p5 p6)), .val (.int (atF bs 1 p3 p4 p5 p6)), .val (.int (atF bs 2 p3 p4 p5 p6)), .val (.int (atF bs 3 p3 p4 p5 p6)), .val (.int (atF bs 4 p3 p4 p5 p6)), .val (.int (atF bs 5 p3 p4 p5 p6)), .val (.int (atF bs 6 p3 p4 p5 p6)), .val (.int (atF bs 7 p3 p4 p5 p6)), .val (.int (atF bs 8 p3 p4 p5 p6)), .val (.int (atF bs 9 p3 p4 p5 p6)), .val (.int (atF bs 10 p3 p4 p5 p6)), .val (.int (atF bs 11 p3 p4 p5 p6))] [(.int (11 : Int32)), (.ref b103), (.ref b103)])
              obtain ⟨T104, h104, k104, X104, e104, E104, A104, st104⟩ := newP (aty := .char) X103 hx hZw w_55 e103 (g := (mkF m 441 #[.val (.int p1), .val (.ref a2), .val (.int p3), .val (.int p4), .val (.int p5), .val (.int p6), .val (.int (atF bs 0 p3 p4 p5 p6)), .val (.int (atF bs 1 p3 p4 p5 p6)), .val (.int (atF bs 2 p3 p4 p5 p6)), .val (.int (atF bs 3 p3 p4 p5 p6)), .val (.int (atF bs 4 p3 p4 p5 p6)), .val (.int (atF bs 5 p3 p4 p5 p6)), .val (.int (atF bs 6 p3 p4 p5 p6)), .val (.int (atF bs 7 p3 p4 p5 p6)), .val (.int (atF bs 8 p3 p4 p5 p6)), .val (.int (atF bs 9 p3 p4 p5 p6)), .val (.int (atF bs 10 p3 p4 p5 p6)), .val (.int (atF bs 11 p3 p4 p5 p6))] [(.int (11 : Int32)), (.ref b103), (.ref b103)])) rfl (hb hby d2_441) rfl (by decide) (cap := 11) (by decide) (by decide) (by decide) (by decide)
              obtain ⟨b104, g104⟩ : ∃ z, z = h103.size := ⟨_, rfl⟩
              rw [← g104] at A104 st104
              refine Goes.of (st104) ?_
              have ne_a2_b104 : a2 ≠ b104 := Nat.ne_of_lt (Nat.lt_of_lt_of_le E2_103.lt (Nat.le_of_eq g104.symm))
              have ne_b2_b104 : b2 ≠ b104 := Nat.ne_of_lt (Nat.lt_of_lt_of_le V2_103.lt (Nat.le_of_eq g104.symm))
              have ne_b103_b104 : b103 ≠ b104 := Nat.ne_of_lt (Nat.lt_of_lt_of_le A103.lt (Nat.le_of_eq g104.symm))
              have g_b104 : n0 ≤ b104 := Nat.le_trans Z103 (Nat.le_of_eq g104.symm)
              have sz_b104 : h0.size ≤ b104 := Nat.le_trans K103.1 (Nat.le_of_eq g104.symm)
              have sf_b104 : Safe Z EL0 s.vm h103 b104 := Safe.new (Nat.le_of_eq g104.symm)
              have sf_b103_104 := Safe.ext E104 CR103.1 sf_b103_103
              have sf_b104_104 := Safe.ext E104 CR103.1 sf_b104
              have CR104 := CR103.trans (CHr.ext E104 CR103.1)
              have E2_103_104 : Exa Z h104 a2 "java/lang/String" := E2_103.ext E104
              have C2_103_104 : Fld Z h104 a2 "java/lang/String" "coder" "B" (.int (0 : Int32)) := C2_103.ext E104
              have W2v_103_104 : Fld Z h104 a2 "java/lang/String" "value" "[B" (.ref b2) := W2v_103.ext E104
              have V2_103_104 : AI Z h104 b2 .byte bs := V2_103.ext E104
              have Scs_103_104 : Sta Z h104 "java/lang/String" "COMPACT_STRINGS" "Z" (.int cz) := Scs_103.ext E104
              have Sf_103_104 : Sta Z h104 "jdk/internal/util/Preconditions" "SIOOBE_FORMATTER" "Ljava/util/function/BiFunction;" fm := Sf_103.ext E104
              have A103_104 : Exa Z h104 b103 "java/lang/String" := A103.ext E104
              have F_value_b103_104 : Fld Z h104 b103 "java/lang/String" "value" "[B" .null := F_value_b103.ext E104
              have F_coder_b103_104 : Fld Z h104 b103 "java/lang/String" "coder" "B" (.int (0 : Int32)) := F_coder_b103.ext E104
              have K104 : Keep h0 h104 [] := K103.ext E104
              have Z104 : n0 ≤ h104.size := Nat.le_trans Z103 E104.1
              have HK104 := Nat.le_trans HK103 E104.1
              have V_b104 : AI Z h104 b104 .char [(0 : Int32), (0 : Int32), (0 : Int32), (0 : Int32), (0 : Int32), (0 : Int32), (0 : Int32), (0 : Int32), (0 : Int32), (0 : Int32), (0 : Int32)] := AI.fresh (k := 11) (by simp) (rfl) A104
              show Goes p e below KK T104 (mkF m 443 #[.val (.int p1), .val (.ref a2), .val (.int p3), .val (.int p4), .val (.int p5), .val (.int p6), .val (.int (atF bs 0 p3 p4 p5 p6)), .val (.int (atF bs 1 p3 p4 p5 p6)), .val (.int (atF bs 2 p3 p4 p5 p6)), .val (.int (atF bs 3 p3 p4 p5 p6)), .val (.int (atF bs 4 p3 p4 p5 p6)), .val (.int (atF bs 5 p3 p4 p5 p6)), .val (.int (atF bs 6 p3 p4 p5 p6)), .val (.int (atF bs 7 p3 p4 p5 p6)), .val (.int (atF bs 8 p3 p4 p5 p6)), .val (.int (atF bs 9 p3 p4 p5 p6)), .val (.int (atF bs 10 p3 p4 p5 p6)), .val (.int (atF bs 11 p3 p4 p5 p6))] [(.ref b104), (.ref b103), (.ref b103)])
              refine Goes.of (fun t => XS.dup X104.here hx rfl (hb hby d2_443) rfl rfl) ?_
              show Goes p e below KK T104 (mkF m 444 #[.val (.int p1), .val (.ref a2), .val (.int p3), .val (.int p4), .val (.int p5), .val (.int p6), .val (.int (atF bs 0 p3 p4 p5 p6)), .val (.int (atF bs 1 p3 p4 p5 p6)), .val (.int (atF bs 2 p3 p4 p5 p6)), .val (.int (atF bs 3 p3 p4 p5 p6)), .val (.int (atF bs 4 p3 p4 p5 p6)), .val (.int (atF bs 5 p3 p4 p5 p6)), .val (.int (atF bs 6 p3 p4 p5 p6)), .val (.int (atF bs 7 p3 p4 p5 p6)), .val (.int (atF bs 8 p3 p4 p5 p6)), .val (.int (atF bs 9 p3 p4 p5 p6)), .val (.int (atF bs 10 p3 p4 p5 p6)), .val (.int (atF bs 11 p3 p4 p5 p6))] [(.ref b104), (.ref b104), (.ref b103), (.ref b103)])
              refine Goes.of (fun t => XS.iconst X104.here hx rfl (hb hby d2_444)) ?_
              show Goes p e below KK T104 (mkF m 445 #[.val (.int p1), .val (.ref a2), .val (.int p3), .val (.int p4), .val (.int p5), .val (.int p6), .val (.int (atF bs 0 p3 p4 p5 p6)), .val (.int (atF bs 1 p3 p4 p5 p6)), .val (.int (atF bs 2 p3 p4 p5 p6)), .val (.int (atF bs 3 p3 p4 p5 p6)), .val (.int (atF bs 4 p3 p4 p5 p6)), .val (.int (atF bs 5 p3 p4 p5 p6)), .val (.int (atF bs 6 p3 p4 p5 p6)), .val (.int (atF bs 7 p3 p4 p5 p6)), .val (.int (atF bs 8 p3 p4 p5 p6)), .val (.int (atF bs 9 p3 p4 p5 p6)), .val (.int (atF bs 10 p3 p4 p5 p6)), .val (.int (atF bs 11 p3 p4 p5 p6))] [(.int (0 : Int32)), (.ref b104), (.ref b104), (.ref b103), (.ref b103)])
              refine Goes.of (fun t => XS.iload X104.here hx rfl (hb hby d2_445) rfl) ?_
              show Goes p e below KK T104 (mkF m 447 #[.val (.int p1), .val (.ref a2), .val (.int p3), .val (.int p4), .val (.int p5), .val (.int p6), .val (.int (atF bs 0 p3 p4 p5 p6)), .val (.int (atF bs 1 p3 p4 p5 p6)), .val (.int (atF bs 2 p3 p4 p5 p6)), .val (.int (atF bs 3 p3 p4 p5 p6)), .val (.int (atF bs 4 p3 p4 p5 p6)), .val (.int (atF bs 5 p3 p4 p5 p6)), .val (.int (atF bs 6 p3 p4 p5 p6)), .val (.int (atF bs 7 p3 p4 p5 p6)), .val (.int (atF bs 8 p3 p4 p5 p6)), .val (.int (atF bs 9 p3 p4 p5 p6)), .val (.int (atF bs 10 p3 p4 p5 p6)), .val (.int (atF bs 11 p3 p4 p5 p6))] [(.int (atF bs 0 p3 p4 p5 p6)), (.int (0 : Int32)), (.ref b104), (.ref b104), (.ref b103), (.ref b103)])
              obtain ⟨T105, h105, X105, e105, W105, V105, st105⟩ := AI.castore X104 hx hZw e104 V_b104 (i := 0) (j := (0 : Int32)) (rfl) ((by simp)) (g := (mkF m 447 #[.val (.int p1), .val (.ref a2), .val (.int p3), .val (.int p4), .val (.int p5), .val (.int p6), .val (.int (atF bs 0 p3 p4 p5 p6)), .val (.int (atF bs 1 p3 p4 p5 p6)), .val (.int (atF bs 2 p3 p4 p5 p6)), .val (.int (atF bs 3 p3 p4 p5 p6)), .val (.int (atF bs 4 p3 p4 p5 p6)), .val (.int (atF bs 5 p3 p4 p5 p6)), .val (.int (atF bs 6 p3 p4 p5 p6)), .val (.int (atF bs 7 p3 p4 p5 p6)), .val (.int (atF bs 8 p3 p4 p5 p6)), .val (.int (atF bs 9 p3 p4 p5 p6)), .val (.int (atF bs 10 p3 p4 p5 p6)), .val (.int (atF bs 11 p3 p4 p5 p6))] [(.int (atF bs 0 p3 p4 p5 p6)), (.int (0 : Int32)), (.ref b104), (.ref b104), (.ref b103), (.ref b103)])) rfl rfl (hb hby d2_447)
              refine Goes.of (st105) ?_
              have sf_b103_105 := Safe.wr W105 sf_b104_104 CR104.1 sf_b103_104
              have sf_b104_105 := Safe.wr W105 sf_b104_104 CR104.1 sf_b104_104
              have CR105 := CR104.trans (CHr.wr W105 sf_b104_104 CR104.1)
              have E2_103_104_105 : Exa Z h105 a2 "java/lang/String" := E2_103_104.wr W105
              have C2_103_104_105 : Fld Z h105 a2 "java/lang/String" "coder" "B" (.int (0 : Int32)) := C2_103_104.other W105 (Or.inl ne_a2_b104)
              have W2v_103_104_105 : Fld Z h105 a2 "java/lang/String" "value" "[B" (.ref b2) := W2v_103_104.other W105 (Or.inl ne_a2_b104)
              have V2_103_104_105 : AI Z h105 b2 .byte bs := V2_103_104.other W105 ne_b2_b104
              have Scs_103_104_105 : Sta Z h105 "java/lang/String" "COMPACT_STRINGS" "Z" (.int cz) := Scs_103_104.wr W105
              have Sf_103_104_105 : Sta Z h105 "jdk/internal/util/Preconditions" "SIOOBE_FORMATTER" "Ljava/util/function/BiFunction;" fm := Sf_103_104.wr W105
              have A103_104_105 : Exa Z h105 b103 "java/lang/String" := A103_104.wr W105
              have F_value_b103_104_105 : Fld Z h105 b103 "java/lang/String" "value" "[B" .null := F_value_b103_104.other W105 (Or.inl ne_b103_b104)
              have F_coder_b103_104_105 : Fld Z h105 b103 "java/lang/String" "coder" "B" (.int (0 : Int32)) := F_coder_b103_104.other W105 (Or.inl ne_b103_b104)
              have K105 : Keep h0 h105 [] := K104.wr W105 (Or.inr sz_b104)
              have Z105 : n0 ≤ h105.size := Nat.le_trans Z104 (Keep.of_wr W105).1
              have HK105 := Nat.le_trans HK104 (Keep.of_wr W105).1
              have N105 := Fr.snoc X105 N49 g_b104
              have V_b104_105 : AI Z h105 b104 .char [(nar .char (atF bs 0 p3 p4 p5 p6)), (0 : Int32), (0 : Int32), (0 : Int32), (0 : Int32), (0 : Int32), (0 : Int32), (0 : Int32), (0 : Int32), (0 : Int32), (0 : Int32)] := V105
              show Goes p e below KK T105 (mkF m 448 #[.val (.int p1), .val (.ref a2), .val (.int p3), .val (.int p4), .val (.int p5), .val (.int p6), .val (.int (atF bs 0 p3 p4 p5 p6)), .val (.int (atF bs 1 p3 p4 p5 p6)), .val (.int (atF bs 2 p3 p4 p5 p6)), .val (.int (atF bs 3 p3 p4 p5 p6)), .val (.int (atF bs 4 p3 p4 p5 p6)), .val (.int (atF bs 5 p3 p4 p5 p6)), .val (.int (atF bs 6 p3 p4 p5 p6)), .val (.int (atF bs 7 p3 p4 p5 p6)), .val (.int (atF bs 8 p3 p4 p5 p6)), .val (.int (atF bs 9 p3 p4 p5 p6)), .val (.int (atF bs 10 p3 p4 p5 p6)), .val (.int (atF bs 11 p3 p4 p5 p6))] [(.ref b104), (.ref b103), (.ref b103)])
              refine Goes.of (fun t => XS.dup X105.here hx rfl (hb hby d2_448) rfl rfl) ?_
              show Goes p e below KK T105 (mkF m 449 #[.val (.int p1), .val (.ref a2), .val (.int p3), .val (.int p4), .val (.int p5), .val (.int p6), .val (.int (atF bs 0 p3 p4 p5 p6)), .val (.int (atF bs 1 p3 p4 p5 p6)), .val (.int (atF bs 2 p3 p4 p5 p6)), .val (.int (atF bs 3 p3 p4 p5 p6)), .val (.int (atF bs 4 p3 p4 p5 p6)), .val (.int (atF bs 5 p3 p4 p5 p6)), .val (.int (atF bs 6 p3 p4 p5 p6)), .val (.int (atF bs 7 p3 p4 p5 p6)), .val (.int (atF bs 8 p3 p4 p5 p6)), .val (.int (atF bs 9 p3 p4 p5 p6)), .val (.int (atF bs 10 p3 p4 p5 p6)), .val (.int (atF bs 11 p3 p4 p5 p6))] [(.ref b104), (.ref b104), (.ref b103), (.ref b103)])
              refine Goes.of (fun t => XS.iconst X105.here hx rfl (hb hby d2_449)) ?_
              show Goes p e below KK T105 (mkF m 450 #[.val (.int p1), .val (.ref a2), .val (.int p3), .val (.int p4), .val (.int p5), .val (.int p6), .val (.int (atF bs 0 p3 p4 p5 p6)), .val (.int (atF bs 1 p3 p4 p5 p6)), .val (.int (atF bs 2 p3 p4 p5 p6)), .val (.int (atF bs 3 p3 p4 p5 p6)), .val (.int (atF bs 4 p3 p4 p5 p6)), .val (.int (atF bs 5 p3 p4 p5 p6)), .val (.int (atF bs 6 p3 p4 p5 p6)), .val (.int (atF bs 7 p3 p4 p5 p6)), .val (.int (atF bs 8 p3 p4 p5 p6)), .val (.int (atF bs 9 p3 p4 p5 p6)), .val (.int (atF bs 10 p3 p4 p5 p6)), .val (.int (atF bs 11 p3 p4 p5 p6))] [(.int (1 : Int32)), (.ref b104), (.ref b104), (.ref b103), (.ref b103)])
              refine Goes.of (fun t => XS.iload X105.here hx rfl (hb hby d2_450) rfl) ?_
              show Goes p e below KK T105 (mkF m 452 #[.val (.int p1), .val (.ref a2), .val (.int p3), .val (.int p4), .val (.int p5), .val (.int p6), .val (.int (atF bs 0 p3 p4 p5 p6)), .val (.int (atF bs 1 p3 p4 p5 p6)), .val (.int (atF bs 2 p3 p4 p5 p6)), .val (.int (atF bs 3 p3 p4 p5 p6)), .val (.int (atF bs 4 p3 p4 p5 p6)), .val (.int (atF bs 5 p3 p4 p5 p6)), .val (.int (atF bs 6 p3 p4 p5 p6)), .val (.int (atF bs 7 p3 p4 p5 p6)), .val (.int (atF bs 8 p3 p4 p5 p6)), .val (.int (atF bs 9 p3 p4 p5 p6)), .val (.int (atF bs 10 p3 p4 p5 p6)), .val (.int (atF bs 11 p3 p4 p5 p6))] [(.int (atF bs 1 p3 p4 p5 p6)), (.int (1 : Int32)), (.ref b104), (.ref b104), (.ref b103), (.ref b103)])
              obtain ⟨T106, h106, X106, e106, W106, V106, st106⟩ := AI.castore X105 hx hZw e105 V_b104_105 (i := 1) (j := (1 : Int32)) (rfl) ((by simp)) (g := (mkF m 452 #[.val (.int p1), .val (.ref a2), .val (.int p3), .val (.int p4), .val (.int p5), .val (.int p6), .val (.int (atF bs 0 p3 p4 p5 p6)), .val (.int (atF bs 1 p3 p4 p5 p6)), .val (.int (atF bs 2 p3 p4 p5 p6)), .val (.int (atF bs 3 p3 p4 p5 p6)), .val (.int (atF bs 4 p3 p4 p5 p6)), .val (.int (atF bs 5 p3 p4 p5 p6)), .val (.int (atF bs 6 p3 p4 p5 p6)), .val (.int (atF bs 7 p3 p4 p5 p6)), .val (.int (atF bs 8 p3 p4 p5 p6)), .val (.int (atF bs 9 p3 p4 p5 p6)), .val (.int (atF bs 10 p3 p4 p5 p6)), .val (.int (atF bs 11 p3 p4 p5 p6))] [(.int (atF bs 1 p3 p4 p5 p6)), (.int (1 : Int32)), (.ref b104), (.ref b104), (.ref b103), (.ref b103)])) rfl rfl (hb hby d2_452)
              refine Goes.of (st106) ?_
              have sf_b103_106 := Safe.wr W106 sf_b104_105 CR105.1 sf_b103_105
              have sf_b104_106 := Safe.wr W106 sf_b104_105 CR105.1 sf_b104_105
              have CR106 := CR105.trans (CHr.wr W106 sf_b104_105 CR105.1)
              have E2_103_104_105_106 : Exa Z h106 a2 "java/lang/String" := E2_103_104_105.wr W106
              have C2_103_104_105_106 : Fld Z h106 a2 "java/lang/String" "coder" "B" (.int (0 : Int32)) := C2_103_104_105.other W106 (Or.inl ne_a2_b104)
              have W2v_103_104_105_106 : Fld Z h106 a2 "java/lang/String" "value" "[B" (.ref b2) := W2v_103_104_105.other W106 (Or.inl ne_a2_b104)
              have V2_103_104_105_106 : AI Z h106 b2 .byte bs := V2_103_104_105.other W106 ne_b2_b104
              have Scs_103_104_105_106 : Sta Z h106 "java/lang/String" "COMPACT_STRINGS" "Z" (.int cz) := Scs_103_104_105.wr W106
              have Sf_103_104_105_106 : Sta Z h106 "jdk/internal/util/Preconditions" "SIOOBE_FORMATTER" "Ljava/util/function/BiFunction;" fm := Sf_103_104_105.wr W106
              have A103_104_105_106 : Exa Z h106 b103 "java/lang/String" := A103_104_105.wr W106
              have F_value_b103_104_105_106 : Fld Z h106 b103 "java/lang/String" "value" "[B" .null := F_value_b103_104_105.other W106 (Or.inl ne_b103_b104)
              have F_coder_b103_104_105_106 : Fld Z h106 b103 "java/lang/String" "coder" "B" (.int (0 : Int32)) := F_coder_b103_104_105.other W106 (Or.inl ne_b103_b104)
              have K106 : Keep h0 h106 [] := K105.wr W106 (Or.inr sz_b104)
              have Z106 : n0 ≤ h106.size := Nat.le_trans Z105 (Keep.of_wr W106).1
              have HK106 := Nat.le_trans HK105 (Keep.of_wr W106).1
              have N106 := Fr.snoc X106 N105 g_b104
              have V_b104_106 : AI Z h106 b104 .char [(nar .char (atF bs 0 p3 p4 p5 p6)), (nar .char (atF bs 1 p3 p4 p5 p6)), (0 : Int32), (0 : Int32), (0 : Int32), (0 : Int32), (0 : Int32), (0 : Int32), (0 : Int32), (0 : Int32), (0 : Int32)] := V106
              show Goes p e below KK T106 (mkF m 453 #[.val (.int p1), .val (.ref a2), .val (.int p3), .val (.int p4), .val (.int p5), .val (.int p6), .val (.int (atF bs 0 p3 p4 p5 p6)), .val (.int (atF bs 1 p3 p4 p5 p6)), .val (.int (atF bs 2 p3 p4 p5 p6)), .val (.int (atF bs 3 p3 p4 p5 p6)), .val (.int (atF bs 4 p3 p4 p5 p6)), .val (.int (atF bs 5 p3 p4 p5 p6)), .val (.int (atF bs 6 p3 p4 p5 p6)), .val (.int (atF bs 7 p3 p4 p5 p6)), .val (.int (atF bs 8 p3 p4 p5 p6)), .val (.int (atF bs 9 p3 p4 p5 p6)), .val (.int (atF bs 10 p3 p4 p5 p6)), .val (.int (atF bs 11 p3 p4 p5 p6))] [(.ref b104), (.ref b103), (.ref b103)])
              refine Goes.of (fun t => XS.dup X106.here hx rfl (hb hby d2_453) rfl rfl) ?_
              show Goes p e below KK T106 (mkF m 454 #[.val (.int p1), .val (.ref a2), .val (.int p3), .val (.int p4), .val (.int p5), .val (.int p6), .val (.int (atF bs 0 p3 p4 p5 p6)), .val (.int (atF bs 1 p3 p4 p5 p6)), .val (.int (atF bs 2 p3 p4 p5 p6)), .val (.int (atF bs 3 p3 p4 p5 p6)), .val (.int (atF bs 4 p3 p4 p5 p6)), .val (.int (atF bs 5 p3 p4 p5 p6)), .val (.int (atF bs 6 p3 p4 p5 p6)), .val (.int (atF bs 7 p3 p4 p5 p6)), .val (.int (atF bs 8 p3 p4 p5 p6)), .val (.int (atF bs 9 p3 p4 p5 p6)), .val (.int (atF bs 10 p3 p4 p5 p6)), .val (.int (atF bs 11 p3 p4 p5 p6))] [(.ref b104), (.ref b104), (.ref b103), (.ref b103)])
              refine Goes.of (fun t => XS.iconst X106.here hx rfl (hb hby d2_454)) ?_
              show Goes p e below KK T106 (mkF m 455 #[.val (.int p1), .val (.ref a2), .val (.int p3), .val (.int p4), .val (.int p5), .val (.int p6), .val (.int (atF bs 0 p3 p4 p5 p6)), .val (.int (atF bs 1 p3 p4 p5 p6)), .val (.int (atF bs 2 p3 p4 p5 p6)), .val (.int (atF bs 3 p3 p4 p5 p6)), .val (.int (atF bs 4 p3 p4 p5 p6)), .val (.int (atF bs 5 p3 p4 p5 p6)), .val (.int (atF bs 6 p3 p4 p5 p6)), .val (.int (atF bs 7 p3 p4 p5 p6)), .val (.int (atF bs 8 p3 p4 p5 p6)), .val (.int (atF bs 9 p3 p4 p5 p6)), .val (.int (atF bs 10 p3 p4 p5 p6)), .val (.int (atF bs 11 p3 p4 p5 p6))] [(.int (2 : Int32)), (.ref b104), (.ref b104), (.ref b103), (.ref b103)])
              refine Goes.of (fun t => XS.iload X106.here hx rfl (hb hby d2_455) rfl) ?_
              show Goes p e below KK T106 (mkF m 457 #[.val (.int p1), .val (.ref a2), .val (.int p3), .val (.int p4), .val (.int p5), .val (.int p6), .val (.int (atF bs 0 p3 p4 p5 p6)), .val (.int (atF bs 1 p3 p4 p5 p6)), .val (.int (atF bs 2 p3 p4 p5 p6)), .val (.int (atF bs 3 p3 p4 p5 p6)), .val (.int (atF bs 4 p3 p4 p5 p6)), .val (.int (atF bs 5 p3 p4 p5 p6)), .val (.int (atF bs 6 p3 p4 p5 p6)), .val (.int (atF bs 7 p3 p4 p5 p6)), .val (.int (atF bs 8 p3 p4 p5 p6)), .val (.int (atF bs 9 p3 p4 p5 p6)), .val (.int (atF bs 10 p3 p4 p5 p6)), .val (.int (atF bs 11 p3 p4 p5 p6))] [(.int (atF bs 2 p3 p4 p5 p6)), (.int (2 : Int32)), (.ref b104), (.ref b104), (.ref b103), (.ref b103)])
              obtain ⟨T107, h107, X107, e107, W107, V107, st107⟩ := AI.castore X106 hx hZw e106 V_b104_106 (i := 2) (j := (2 : Int32)) (rfl) ((by simp)) (g := (mkF m 457 #[.val (.int p1), .val (.ref a2), .val (.int p3), .val (.int p4), .val (.int p5), .val (.int p6), .val (.int (atF bs 0 p3 p4 p5 p6)), .val (.int (atF bs 1 p3 p4 p5 p6)), .val (.int (atF bs 2 p3 p4 p5 p6)), .val (.int (atF bs 3 p3 p4 p5 p6)), .val (.int (atF bs 4 p3 p4 p5 p6)), .val (.int (atF bs 5 p3 p4 p5 p6)), .val (.int (atF bs 6 p3 p4 p5 p6)), .val (.int (atF bs 7 p3 p4 p5 p6)), .val (.int (atF bs 8 p3 p4 p5 p6)), .val (.int (atF bs 9 p3 p4 p5 p6)), .val (.int (atF bs 10 p3 p4 p5 p6)), .val (.int (atF bs 11 p3 p4 p5 p6))] [(.int (atF bs 2 p3 p4 p5 p6)), (.int (2 : Int32)), (.ref b104), (.ref b104), (.ref b103), (.ref b103)])) rfl rfl (hb hby d2_457)
              refine Goes.of (st107) ?_
              have sf_b103_107 := Safe.wr W107 sf_b104_106 CR106.1 sf_b103_106
              have sf_b104_107 := Safe.wr W107 sf_b104_106 CR106.1 sf_b104_106
              have CR107 := CR106.trans (CHr.wr W107 sf_b104_106 CR106.1)
              have E2_103_104_105_106_107 : Exa Z h107 a2 "java/lang/String" := E2_103_104_105_106.wr W107
              have C2_103_104_105_106_107 : Fld Z h107 a2 "java/lang/String" "coder" "B" (.int (0 : Int32)) := C2_103_104_105_106.other W107 (Or.inl ne_a2_b104)
              have W2v_103_104_105_106_107 : Fld Z h107 a2 "java/lang/String" "value" "[B" (.ref b2) := W2v_103_104_105_106.other W107 (Or.inl ne_a2_b104)
              have V2_103_104_105_106_107 : AI Z h107 b2 .byte bs := V2_103_104_105_106.other W107 ne_b2_b104
              have Scs_103_104_105_106_107 : Sta Z h107 "java/lang/String" "COMPACT_STRINGS" "Z" (.int cz) := Scs_103_104_105_106.wr W107
              have Sf_103_104_105_106_107 : Sta Z h107 "jdk/internal/util/Preconditions" "SIOOBE_FORMATTER" "Ljava/util/function/BiFunction;" fm := Sf_103_104_105_106.wr W107
              have A103_104_105_106_107 : Exa Z h107 b103 "java/lang/String" := A103_104_105_106.wr W107
              have F_value_b103_104_105_106_107 : Fld Z h107 b103 "java/lang/String" "value" "[B" .null := F_value_b103_104_105_106.other W107 (Or.inl ne_b103_b104)
              have F_coder_b103_104_105_106_107 : Fld Z h107 b103 "java/lang/String" "coder" "B" (.int (0 : Int32)) := F_coder_b103_104_105_106.other W107 (Or.inl ne_b103_b104)
              have K107 : Keep h0 h107 [] := K106.wr W107 (Or.inr sz_b104)
              have Z107 : n0 ≤ h107.size := Nat.le_trans Z106 (Keep.of_wr W107).1
              have HK107 := Nat.le_trans HK106 (Keep.of_wr W107).1
              have N107 := Fr.snoc X107 N106 g_b104
              have V_b104_107 : AI Z h107 b104 .char [(nar .char (atF bs 0 p3 p4 p5 p6)), (nar .char (atF bs 1 p3 p4 p5 p6)), (nar .char (atF bs 2 p3 p4 p5 p6)), (0 : Int32), (0 : Int32), (0 : Int32), (0 : Int32), (0 : Int32), (0 : Int32), (0 : Int32), (0 : Int32)] := V107
              show Goes p e below KK T107 (mkF m 458 #[.val (.int p1), .val (.ref a2), .val (.int p3), .val (.int p4), .val (.int p5), .val (.int p6), .val (.int (atF bs 0 p3 p4 p5 p6)), .val (.int (atF bs 1 p3 p4 p5 p6)), .val (.int (atF bs 2 p3 p4 p5 p6)), .val (.int (atF bs 3 p3 p4 p5 p6)), .val (.int (atF bs 4 p3 p4 p5 p6)), .val (.int (atF bs 5 p3 p4 p5 p6)), .val (.int (atF bs 6 p3 p4 p5 p6)), .val (.int (atF bs 7 p3 p4 p5 p6)), .val (.int (atF bs 8 p3 p4 p5 p6)), .val (.int (atF bs 9 p3 p4 p5 p6)), .val (.int (atF bs 10 p3 p4 p5 p6)), .val (.int (atF bs 11 p3 p4 p5 p6))] [(.ref b104), (.ref b103), (.ref b103)])
              refine Goes.of (fun t => XS.dup X107.here hx rfl (hb hby d2_458) rfl rfl) ?_
              show Goes p e below KK T107 (mkF m 459 #[.val (.int p1), .val (.ref a2), .val (.int p3), .val (.int p4), .val (.int p5), .val (.int p6), .val (.int (atF bs 0 p3 p4 p5 p6)), .val (.int (atF bs 1 p3 p4 p5 p6)), .val (.int (atF bs 2 p3 p4 p5 p6)), .val (.int (atF bs 3 p3 p4 p5 p6)), .val (.int (atF bs 4 p3 p4 p5 p6)), .val (.int (atF bs 5 p3 p4 p5 p6)), .val (.int (atF bs 6 p3 p4 p5 p6)), .val (.int (atF bs 7 p3 p4 p5 p6)), .val (.int (atF bs 8 p3 p4 p5 p6)), .val (.int (atF bs 9 p3 p4 p5 p6)), .val (.int (atF bs 10 p3 p4 p5 p6)), .val (.int (atF bs 11 p3 p4 p5 p6))] [(.ref b104), (.ref b104), (.ref b103), (.ref b103)])
              refine Goes.of (fun t => XS.iconst X107.here hx rfl (hb hby d2_459)) ?_
              show Goes p e below KK T107 (mkF m 460 #[.val (.int p1), .val (.ref a2), .val (.int p3), .val (.int p4), .val (.int p5), .val (.int p6), .val (.int (atF bs 0 p3 p4 p5 p6)), .val (.int (atF bs 1 p3 p4 p5 p6)), .val (.int (atF bs 2 p3 p4 p5 p6)), .val (.int (atF bs 3 p3 p4 p5 p6)), .val (.int (atF bs 4 p3 p4 p5 p6)), .val (.int (atF bs 5 p3 p4 p5 p6)), .val (.int (atF bs 6 p3 p4 p5 p6)), .val (.int (atF bs 7 p3 p4 p5 p6)), .val (.int (atF bs 8 p3 p4 p5 p6)), .val (.int (atF bs 9 p3 p4 p5 p6)), .val (.int (atF bs 10 p3 p4 p5 p6)), .val (.int (atF bs 11 p3 p4 p5 p6))] [(.int (3 : Int32)), (.ref b104), (.ref b104), (.ref b103), (.ref b103)])
              refine Goes.of (fun t => XS.iload X107.here hx rfl (hb hby d2_460) rfl) ?_
              show Goes p e below KK T107 (mkF m 462 #[.val (.int p1), .val (.ref a2), .val (.int p3), .val (.int p4), .val (.int p5), .val (.int p6), .val (.int (atF bs 0 p3 p4 p5 p6)), .val (.int (atF bs 1 p3 p4 p5 p6)), .val (.int (atF bs 2 p3 p4 p5 p6)), .val (.int (atF bs 3 p3 p4 p5 p6)), .val (.int (atF bs 4 p3 p4 p5 p6)), .val (.int (atF bs 5 p3 p4 p5 p6)), .val (.int (atF bs 6 p3 p4 p5 p6)), .val (.int (atF bs 7 p3 p4 p5 p6)), .val (.int (atF bs 8 p3 p4 p5 p6)), .val (.int (atF bs 9 p3 p4 p5 p6)), .val (.int (atF bs 10 p3 p4 p5 p6)), .val (.int (atF bs 11 p3 p4 p5 p6))] [(.int (atF bs 3 p3 p4 p5 p6)), (.int (3 : Int32)), (.ref b104), (.ref b104), (.ref b103), (.ref b103)])
              obtain ⟨T108, h108, X108, e108, W108, V108, st108⟩ := AI.castore X107 hx hZw e107 V_b104_107 (i := 3) (j := (3 : Int32)) (rfl) ((by simp)) (g := (mkF m 462 #[.val (.int p1), .val (.ref a2), .val (.int p3), .val (.int p4), .val (.int p5), .val (.int p6), .val (.int (atF bs 0 p3 p4 p5 p6)), .val (.int (atF bs 1 p3 p4 p5 p6)), .val (.int (atF bs 2 p3 p4 p5 p6)), .val (.int (atF bs 3 p3 p4 p5 p6)), .val (.int (atF bs 4 p3 p4 p5 p6)), .val (.int (atF bs 5 p3 p4 p5 p6)), .val (.int (atF bs 6 p3 p4 p5 p6)), .val (.int (atF bs 7 p3 p4 p5 p6)), .val (.int (atF bs 8 p3 p4 p5 p6)), .val (.int (atF bs 9 p3 p4 p5 p6)), .val (.int (atF bs 10 p3 p4 p5 p6)), .val (.int (atF bs 11 p3 p4 p5 p6))] [(.int (atF bs 3 p3 p4 p5 p6)), (.int (3 : Int32)), (.ref b104), (.ref b104), (.ref b103), (.ref b103)])) rfl rfl (hb hby d2_462)
              refine Goes.of (st108) ?_
              have sf_b103_108 := Safe.wr W108 sf_b104_107 CR107.1 sf_b103_107
              have sf_b104_108 := Safe.wr W108 sf_b104_107 CR107.1 sf_b104_107
              have CR108 := CR107.trans (CHr.wr W108 sf_b104_107 CR107.1)
              have E2_103_104_105_106_107_108 : Exa Z h108 a2 "java/lang/String" := E2_103_104_105_106_107.wr W108
              have C2_103_104_105_106_107_108 : Fld Z h108 a2 "java/lang/String" "coder" "B" (.int (0 : Int32)) := C2_103_104_105_106_107.other W108 (Or.inl ne_a2_b104)
              have W2v_103_104_105_106_107_108 : Fld Z h108 a2 "java/lang/String" "value" "[B" (.ref b2) := W2v_103_104_105_106_107.other W108 (Or.inl ne_a2_b104)
              have V2_103_104_105_106_107_108 : AI Z h108 b2 .byte bs := V2_103_104_105_106_107.other W108 ne_b2_b104
              have Scs_103_104_105_106_107_108 : Sta Z h108 "java/lang/String" "COMPACT_STRINGS" "Z" (.int cz) := Scs_103_104_105_106_107.wr W108
              have Sf_103_104_105_106_107_108 : Sta Z h108 "jdk/internal/util/Preconditions" "SIOOBE_FORMATTER" "Ljava/util/function/BiFunction;" fm := Sf_103_104_105_106_107.wr W108
              have A103_104_105_106_107_108 : Exa Z h108 b103 "java/lang/String" := A103_104_105_106_107.wr W108
              have F_value_b103_104_105_106_107_108 : Fld Z h108 b103 "java/lang/String" "value" "[B" .null := F_value_b103_104_105_106_107.other W108 (Or.inl ne_b103_b104)
              have F_coder_b103_104_105_106_107_108 : Fld Z h108 b103 "java/lang/String" "coder" "B" (.int (0 : Int32)) := F_coder_b103_104_105_106_107.other W108 (Or.inl ne_b103_b104)
              have K108 : Keep h0 h108 [] := K107.wr W108 (Or.inr sz_b104)
              have Z108 : n0 ≤ h108.size := Nat.le_trans Z107 (Keep.of_wr W108).1
              have HK108 := Nat.le_trans HK107 (Keep.of_wr W108).1
              have N108 := Fr.snoc X108 N107 g_b104
              have V_b104_108 : AI Z h108 b104 .char [(nar .char (atF bs 0 p3 p4 p5 p6)), (nar .char (atF bs 1 p3 p4 p5 p6)), (nar .char (atF bs 2 p3 p4 p5 p6)), (nar .char (atF bs 3 p3 p4 p5 p6)), (0 : Int32), (0 : Int32), (0 : Int32), (0 : Int32), (0 : Int32), (0 : Int32), (0 : Int32)] := V108
              show Goes p e below KK T108 (mkF m 463 #[.val (.int p1), .val (.ref a2), .val (.int p3), .val (.int p4), .val (.int p5), .val (.int p6), .val (.int (atF bs 0 p3 p4 p5 p6)), .val (.int (atF bs 1 p3 p4 p5 p6)), .val (.int (atF bs 2 p3 p4 p5 p6)), .val (.int (atF bs 3 p3 p4 p5 p6)), .val (.int (atF bs 4 p3 p4 p5 p6)), .val (.int (atF bs 5 p3 p4 p5 p6)), .val (.int (atF bs 6 p3 p4 p5 p6)), .val (.int (atF bs 7 p3 p4 p5 p6)), .val (.int (atF bs 8 p3 p4 p5 p6)), .val (.int (atF bs 9 p3 p4 p5 p6)), .val (.int (atF bs 10 p3 p4 p5 p6)), .val (.int (atF bs 11 p3 p4 p5 p6))] [(.ref b104), (.ref b103), (.ref b103)])
              refine Goes.of (fun t => XS.dup X108.here hx rfl (hb hby d2_463) rfl rfl) ?_
              show Goes p e below KK T108 (mkF m 464 #[.val (.int p1), .val (.ref a2), .val (.int p3), .val (.int p4), .val (.int p5), .val (.int p6), .val (.int (atF bs 0 p3 p4 p5 p6)), .val (.int (atF bs 1 p3 p4 p5 p6)), .val (.int (atF bs 2 p3 p4 p5 p6)), .val (.int (atF bs 3 p3 p4 p5 p6)), .val (.int (atF bs 4 p3 p4 p5 p6)), .val (.int (atF bs 5 p3 p4 p5 p6)), .val (.int (atF bs 6 p3 p4 p5 p6)), .val (.int (atF bs 7 p3 p4 p5 p6)), .val (.int (atF bs 8 p3 p4 p5 p6)), .val (.int (atF bs 9 p3 p4 p5 p6)), .val (.int (atF bs 10 p3 p4 p5 p6)), .val (.int (atF bs 11 p3 p4 p5 p6))] [(.ref b104), (.ref b104), (.ref b103), (.ref b103)])
              refine Goes.of (fun t => XS.iconst X108.here hx rfl (hb hby d2_464)) ?_
              show Goes p e below KK T108 (mkF m 465 #[.val (.int p1), .val (.ref a2), .val (.int p3), .val (.int p4), .val (.int p5), .val (.int p6), .val (.int (atF bs 0 p3 p4 p5 p6)), .val (.int (atF bs 1 p3 p4 p5 p6)), .val (.int (atF bs 2 p3 p4 p5 p6)), .val (.int (atF bs 3 p3 p4 p5 p6)), .val (.int (atF bs 4 p3 p4 p5 p6)), .val (.int (atF bs 5 p3 p4 p5 p6)), .val (.int (atF bs 6 p3 p4 p5 p6)), .val (.int (atF bs 7 p3 p4 p5 p6)), .val (.int (atF bs 8 p3 p4 p5 p6)), .val (.int (atF bs 9 p3 p4 p5 p6)), .val (.int (atF bs 10 p3 p4 p5 p6)), .val (.int (atF bs 11 p3 p4 p5 p6))] [(.int (4 : Int32)), (.ref b104), (.ref b104), (.ref b103), (.ref b103)])
              refine Goes.of (fun t => XS.iload X108.here hx rfl (hb hby d2_465) rfl) ?_
              show Goes p e below KK T108 (mkF m 467 #[.val (.int p1), .val (.ref a2), .val (.int p3), .val (.int p4), .val (.int p5), .val (.int p6), .val (.int (atF bs 0 p3 p4 p5 p6)), .val (.int (atF bs 1 p3 p4 p5 p6)), .val (.int (atF bs 2 p3 p4 p5 p6)), .val (.int (atF bs 3 p3 p4 p5 p6)), .val (.int (atF bs 4 p3 p4 p5 p6)), .val (.int (atF bs 5 p3 p4 p5 p6)), .val (.int (atF bs 6 p3 p4 p5 p6)), .val (.int (atF bs 7 p3 p4 p5 p6)), .val (.int (atF bs 8 p3 p4 p5 p6)), .val (.int (atF bs 9 p3 p4 p5 p6)), .val (.int (atF bs 10 p3 p4 p5 p6)), .val (.int (atF bs 11 p3 p4 p5 p6))] [(.int (atF bs 4 p3 p4 p5 p6)), (.int (4 : Int32)), (.ref b104), (.ref b104), (.ref b103), (.ref b103)])
              obtain ⟨T109, h109, X109, e109, W109, V109, st109⟩ := AI.castore X108 hx hZw e108 V_b104_108 (i := 4) (j := (4 : Int32)) (rfl) ((by simp)) (g := (mkF m 467 #[.val (.int p1), .val (.ref a2), .val (.int p3), .val (.int p4), .val (.int p5), .val (.int p6), .val (.int (atF bs 0 p3 p4 p5 p6)), .val (.int (atF bs 1 p3 p4 p5 p6)), .val (.int (atF bs 2 p3 p4 p5 p6)), .val (.int (atF bs 3 p3 p4 p5 p6)), .val (.int (atF bs 4 p3 p4 p5 p6)), .val (.int (atF bs 5 p3 p4 p5 p6)), .val (.int (atF bs 6 p3 p4 p5 p6)), .val (.int (atF bs 7 p3 p4 p5 p6)), .val (.int (atF bs 8 p3 p4 p5 p6)), .val (.int (atF bs 9 p3 p4 p5 p6)), .val (.int (atF bs 10 p3 p4 p5 p6)), .val (.int (atF bs 11 p3 p4 p5 p6))] [(.int (atF bs 4 p3 p4 p5 p6)), (.int (4 : Int32)), (.ref b104), (.ref b104), (.ref b103), (.ref b103)])) rfl rfl (hb hby d2_467)
              refine Goes.of (st109) ?_
              have sf_b103_109 := Safe.wr W109 sf_b104_108 CR108.1 sf_b103_108
              have sf_b104_109 := Safe.wr W109 sf_b104_108 CR108.1 sf_b104_108
              have CR109 := CR108.trans (CHr.wr W109 sf_b104_108 CR108.1)
              have E2_103_104_105_106_107_108_109 : Exa Z h109 a2 "java/lang/String" := E2_103_104_105_106_107_108.wr W109
              have C2_103_104_105_106_107_108_109 : Fld Z h109 a2 "java/lang/String" "coder" "B" (.int (0 : Int32)) := C2_103_104_105_106_107_108.other W109 (Or.inl ne_a2_b104)
              have W2v_103_104_105_106_107_108_109 : Fld Z h109 a2 "java/lang/String" "value" "[B" (.ref b2) := W2v_103_104_105_106_107_108.other W109 (Or.inl ne_a2_b104)
              have V2_103_104_105_106_107_108_109 : AI Z h109 b2 .byte bs := V2_103_104_105_106_107_108.other W109 ne_b2_b104
              have Scs_103_104_105_106_107_108_109 : Sta Z h109 "java/lang/String" "COMPACT_STRINGS" "Z" (.int cz) := Scs_103_104_105_106_107_108.wr W109
              have Sf_103_104_105_106_107_108_109 : Sta Z h109 "jdk/internal/util/Preconditions" "SIOOBE_FORMATTER" "Ljava/util/function/BiFunction;" fm := Sf_103_104_105_106_107_108.wr W109
              have A103_104_105_106_107_108_109 : Exa Z h109 b103 "java/lang/String" := A103_104_105_106_107_108.wr W109
              have F_value_b103_104_105_106_107_108_109 : Fld Z h109 b103 "java/lang/String" "value" "[B" .null := F_value_b103_104_105_106_107_108.other W109 (Or.inl ne_b103_b104)
              have F_coder_b103_104_105_106_107_108_109 : Fld Z h109 b103 "java/lang/String" "coder" "B" (.int (0 : Int32)) := F_coder_b103_104_105_106_107_108.other W109 (Or.inl ne_b103_b104)
              have K109 : Keep h0 h109 [] := K108.wr W109 (Or.inr sz_b104)
              have Z109 : n0 ≤ h109.size := Nat.le_trans Z108 (Keep.of_wr W109).1
              have HK109 := Nat.le_trans HK108 (Keep.of_wr W109).1
              have N109 := Fr.snoc X109 N108 g_b104
              have V_b104_109 : AI Z h109 b104 .char [(nar .char (atF bs 0 p3 p4 p5 p6)), (nar .char (atF bs 1 p3 p4 p5 p6)), (nar .char (atF bs 2 p3 p4 p5 p6)), (nar .char (atF bs 3 p3 p4 p5 p6)), (nar .char (atF bs 4 p3 p4 p5 p6)), (0 : Int32), (0 : Int32), (0 : Int32), (0 : Int32), (0 : Int32), (0 : Int32)] := V109
              show Goes p e below KK T109 (mkF m 468 #[.val (.int p1), .val (.ref a2), .val (.int p3), .val (.int p4), .val (.int p5), .val (.int p6), .val (.int (atF bs 0 p3 p4 p5 p6)), .val (.int (atF bs 1 p3 p4 p5 p6)), .val (.int (atF bs 2 p3 p4 p5 p6)), .val (.int (atF bs 3 p3 p4 p5 p6)), .val (.int (atF bs 4 p3 p4 p5 p6)), .val (.int (atF bs 5 p3 p4 p5 p6)), .val (.int (atF bs 6 p3 p4 p5 p6)), .val (.int (atF bs 7 p3 p4 p5 p6)), .val (.int (atF bs 8 p3 p4 p5 p6)), .val (.int (atF bs 9 p3 p4 p5 p6)), .val (.int (atF bs 10 p3 p4 p5 p6)), .val (.int (atF bs 11 p3 p4 p5 p6))] [(.ref b104), (.ref b103), (.ref b103)])
              refine Goes.of (fun t => XS.dup X109.here hx rfl (hb hby d2_468) rfl rfl) ?_
              show Goes p e below KK T109 (mkF m 469 #[.val (.int p1), .val (.ref a2), .val (.int p3), .val (.int p4), .val (.int p5), .val (.int p6), .val (.int (atF bs 0 p3 p4 p5 p6)), .val (.int (atF bs 1 p3 p4 p5 p6)), .val (.int (atF bs 2 p3 p4 p5 p6)), .val (.int (atF bs 3 p3 p4 p5 p6)), .val (.int (atF bs 4 p3 p4 p5 p6)), .val (.int (atF bs 5 p3 p4 p5 p6)), .val (.int (atF bs 6 p3 p4 p5 p6)), .val (.int (atF bs 7 p3 p4 p5 p6)), .val (.int (atF bs 8 p3 p4 p5 p6)), .val (.int (atF bs 9 p3 p4 p5 p6)), .val (.int (atF bs 10 p3 p4 p5 p6)), .val (.int (atF bs 11 p3 p4 p5 p6))] [(.ref b104), (.ref b104), (.ref b103), (.ref b103)])
              refine Goes.of (fun t => XS.iconst X109.here hx rfl (hb hby d2_469)) ?_
              show Goes p e below KK T109 (mkF m 470 #[.val (.int p1), .val (.ref a2), .val (.int p3), .val (.int p4), .val (.int p5), .val (.int p6), .val (.int (atF bs 0 p3 p4 p5 p6)), .val (.int (atF bs 1 p3 p4 p5 p6)), .val (.int (atF bs 2 p3 p4 p5 p6)), .val (.int (atF bs 3 p3 p4 p5 p6)), .val (.int (atF bs 4 p3 p4 p5 p6)), .val (.int (atF bs 5 p3 p4 p5 p6)), .val (.int (atF bs 6 p3 p4 p5 p6)), .val (.int (atF bs 7 p3 p4 p5 p6)), .val (.int (atF bs 8 p3 p4 p5 p6)), .val (.int (atF bs 9 p3 p4 p5 p6)), .val (.int (atF bs 10 p3 p4 p5 p6)), .val (.int (atF bs 11 p3 p4 p5 p6))] [(.int (5 : Int32)), (.ref b104), (.ref b104), (.ref b103), (.ref b103)])
              refine Goes.of (fun t => XS.iload X109.here hx rfl (hb hby d2_470) rfl) ?_
              show Goes p e below KK T109 (mkF m 472 #[.val (.int p1), .val (.ref a2), .val (.int p3), .val (.int p4), .val (.int p5), .val (.int p6), .val (.int (atF bs 0 p3 p4 p5 p6)), .val (.int (atF bs 1 p3 p4 p5 p6)), .val (.int (atF bs 2 p3 p4 p5 p6)), .val (.int (atF bs 3 p3 p4 p5 p6)), .val (.int (atF bs 4 p3 p4 p5 p6)), .val (.int (atF bs 5 p3 p4 p5 p6)), .val (.int (atF bs 6 p3 p4 p5 p6)), .val (.int (atF bs 7 p3 p4 p5 p6)), .val (.int (atF bs 8 p3 p4 p5 p6)), .val (.int (atF bs 9 p3 p4 p5 p6)), .val (.int (atF bs 10 p3 p4 p5 p6)), .val (.int (atF bs 11 p3 p4 p5 p6))] [(.int (atF bs 5 p3 p4 p5 p6)), (.int (5 : Int32)), (.ref b104), (.ref b104), (.ref b103), (.ref b103)])
              obtain ⟨T110, h110, X110, e110, W110, V110, st110⟩ := AI.castore X109 hx hZw e109 V_b104_109 (i := 5) (j := (5 : Int32)) (rfl) ((by simp)) (g := (mkF m 472 #[.val (.int p1), .val (.ref a2), .val (.int p3), .val (.int p4), .val (.int p5), .val (.int p6), .val (.int (atF bs 0 p3 p4 p5 p6)), .val (.int (atF bs 1 p3 p4 p5 p6)), .val (.int (atF bs 2 p3 p4 p5 p6)), .val (.int (atF bs 3 p3 p4 p5 p6)), .val (.int (atF bs 4 p3 p4 p5 p6)), .val (.int (atF bs 5 p3 p4 p5 p6)), .val (.int (atF bs 6 p3 p4 p5 p6)), .val (.int (atF bs 7 p3 p4 p5 p6)), .val (.int (atF bs 8 p3 p4 p5 p6)), .val (.int (atF bs 9 p3 p4 p5 p6)), .val (.int (atF bs 10 p3 p4 p5 p6)), .val (.int (atF bs 11 p3 p4 p5 p6))] [(.int (atF bs 5 p3 p4 p5 p6)), (.int (5 : Int32)), (.ref b104), (.ref b104), (.ref b103), (.ref b103)])) rfl rfl (hb hby d2_472)
              refine Goes.of (st110) ?_
              have sf_b103_110 := Safe.wr W110 sf_b104_109 CR109.1 sf_b103_109
              have sf_b104_110 := Safe.wr W110 sf_b104_109 CR109.1 sf_b104_109
              have CR110 := CR109.trans (CHr.wr W110 sf_b104_109 CR109.1)
              have E2_103_104_105_106_107_108_109_110 : Exa Z h110 a2 "java/lang/String" := E2_103_104_105_106_107_108_109.wr W110
              have C2_103_104_105_106_107_108_109_110 : Fld Z h110 a2 "java/lang/String" "coder" "B" (.int (0 : Int32)) := C2_103_104_105_106_107_108_109.other W110 (Or.inl ne_a2_b104)
              have W2v_103_104_105_106_107_108_109_110 : Fld Z h110 a2 "java/lang/String" "value" "[B" (.ref b2) := W2v_103_104_105_106_107_108_109.other W110 (Or.inl ne_a2_b104)
              have V2_103_104_105_106_107_108_109_110 : AI Z h110 b2 .byte bs := V2_103_104_105_106_107_108_109.other W110 ne_b2_b104
              have Scs_103_104_105_106_107_108_109_110 : Sta Z h110 "java/lang/String" "COMPACT_STRINGS" "Z" (.int cz) := Scs_103_104_105_106_107_108_109.wr W110
              have Sf_103_104_105_106_107_108_109_110 : Sta Z h110 "jdk/internal/util/Preconditions" "SIOOBE_FORMATTER" "Ljava/util/function/BiFunction;" fm := Sf_103_104_105_106_107_108_109.wr W110
              have A103_104_105_106_107_108_109_110 : Exa Z h110 b103 "java/lang/String" := A103_104_105_106_107_108_109.wr W110
              have F_value_b103_104_105_106_107_108_109_110 : Fld Z h110 b103 "java/lang/String" "value" "[B" .null := F_value_b103_104_105_106_107_108_109.other W110 (Or.inl ne_b103_b104)
              have F_coder_b103_104_105_106_107_108_109_110 : Fld Z h110 b103 "java/lang/String" "coder" "B" (.int (0 : Int32)) := F_coder_b103_104_105_106_107_108_109.other W110 (Or.inl ne_b103_b104)
              have K110 : Keep h0 h110 [] := K109.wr W110 (Or.inr sz_b104)
              have Z110 : n0 ≤ h110.size := Nat.le_trans Z109 (Keep.of_wr W110).1
              have HK110 := Nat.le_trans HK109 (Keep.of_wr W110).1
              have N110 := Fr.snoc X110 N109 g_b104
              have V_b104_110 : AI Z h110 b104 .char [(nar .char (atF bs 0 p3 p4 p5 p6)), (nar .char (atF bs 1 p3 p4 p5 p6)), (nar .char (atF bs 2 p3 p4 p5 p6)), (nar .char (atF bs 3 p3 p4 p5 p6)), (nar .char (atF bs 4 p3 p4 p5 p6)), (nar .char (atF bs 5 p3 p4 p5 p6)), (0 : Int32), (0 : Int32), (0 : Int32), (0 : Int32), (0 : Int32)] := V110
              show Goes p e below KK T110 (mkF m 473 #[.val (.int p1), .val (.ref a2), .val (.int p3), .val (.int p4), .val (.int p5), .val (.int p6), .val (.int (atF bs 0 p3 p4 p5 p6)), .val (.int (atF bs 1 p3 p4 p5 p6)), .val (.int (atF bs 2 p3 p4 p5 p6)), .val (.int (atF bs 3 p3 p4 p5 p6)), .val (.int (atF bs 4 p3 p4 p5 p6)), .val (.int (atF bs 5 p3 p4 p5 p6)), .val (.int (atF bs 6 p3 p4 p5 p6)), .val (.int (atF bs 7 p3 p4 p5 p6)), .val (.int (atF bs 8 p3 p4 p5 p6)), .val (.int (atF bs 9 p3 p4 p5 p6)), .val (.int (atF bs 10 p3 p4 p5 p6)), .val (.int (atF bs 11 p3 p4 p5 p6))] [(.ref b104), (.ref b103), (.ref b103)])
              refine Goes.of (fun t => XS.dup X110.here hx rfl (hb hby d2_473) rfl rfl) ?_
              show Goes p e below KK T110 (mkF m 474 #[.val (.int p1), .val (.ref a2), .val (.int p3), .val (.int p4), .val (.int p5), .val (.int p6), .val (.int (atF bs 0 p3 p4 p5 p6)), .val (.int (atF bs 1 p3 p4 p5 p6)), .val (.int (atF bs 2 p3 p4 p5 p6)), .val (.int (atF bs 3 p3 p4 p5 p6)), .val (.int (atF bs 4 p3 p4 p5 p6)), .val (.int (atF bs 5 p3 p4 p5 p6)), .val (.int (atF bs 6 p3 p4 p5 p6)), .val (.int (atF bs 7 p3 p4 p5 p6)), .val (.int (atF bs 8 p3 p4 p5 p6)), .val (.int (atF bs 9 p3 p4 p5 p6)), .val (.int (atF bs 10 p3 p4 p5 p6)), .val (.int (atF bs 11 p3 p4 p5 p6))] [(.ref b104), (.ref b104), (.ref b103), (.ref b103)])
              refine Goes.of (fun t => XS.bipush X110.here hx rfl (hb hby d2_474)) ?_
              show Goes p e below KK T110 (mkF m 476 #[.val (.int p1), .val (.ref a2), .val (.int p3), .val (.int p4), .val (.int p5), .val (.int p6), .val (.int (atF bs 0 p3 p4 p5 p6)), .val (.int (atF bs 1 p3 p4 p5 p6)), .val (.int (atF bs 2 p3 p4 p5 p6)), .val (.int (atF bs 3 p3 p4 p5 p6)), .val (.int (atF bs 4 p3 p4 p5 p6)), .val (.int (atF bs 5 p3 p4 p5 p6)), .val (.int (atF bs 6 p3 p4 p5 p6)), .val (.int (atF bs 7 p3 p4 p5 p6)), .val (.int (atF bs 8 p3 p4 p5 p6)), .val (.int (atF bs 9 p3 p4 p5 p6)), .val (.int (atF bs 10 p3 p4 p5 p6)), .val (.int (atF bs 11 p3 p4 p5 p6))] [(.int (6 : Int32)), (.ref b104), (.ref b104), (.ref b103), (.ref b103)])
              refine Goes.of (fun t => XS.iload X110.here hx rfl (hb hby d2_476) rfl) ?_
              show Goes p e below KK T110 (mkF m 478 #[.val (.int p1), .val (.ref a2), .val (.int p3), .val (.int p4), .val (.int p5), .val (.int p6), .val (.int (atF bs 0 p3 p4 p5 p6)), .val (.int (atF bs 1 p3 p4 p5 p6)), .val (.int (atF bs 2 p3 p4 p5 p6)), .val (.int (atF bs 3 p3 p4 p5 p6)), .val (.int (atF bs 4 p3 p4 p5 p6)), .val (.int (atF bs 5 p3 p4 p5 p6)), .val (.int (atF bs 6 p3 p4 p5 p6)), .val (.int (atF bs 7 p3 p4 p5 p6)), .val (.int (atF bs 8 p3 p4 p5 p6)), .val (.int (atF bs 9 p3 p4 p5 p6)), .val (.int (atF bs 10 p3 p4 p5 p6)), .val (.int (atF bs 11 p3 p4 p5 p6))] [(.int (atF bs 6 p3 p4 p5 p6)), (.int (6 : Int32)), (.ref b104), (.ref b104), (.ref b103), (.ref b103)])
              obtain ⟨T111, h111, X111, e111, W111, V111, st111⟩ := AI.castore X110 hx hZw e110 V_b104_110 (i := 6) (j := (6 : Int32)) (rfl) ((by simp)) (g := (mkF m 478 #[.val (.int p1), .val (.ref a2), .val (.int p3), .val (.int p4), .val (.int p5), .val (.int p6), .val (.int (atF bs 0 p3 p4 p5 p6)), .val (.int (atF bs 1 p3 p4 p5 p6)), .val (.int (atF bs 2 p3 p4 p5 p6)), .val (.int (atF bs 3 p3 p4 p5 p6)), .val (.int (atF bs 4 p3 p4 p5 p6)), .val (.int (atF bs 5 p3 p4 p5 p6)), .val (.int (atF bs 6 p3 p4 p5 p6)), .val (.int (atF bs 7 p3 p4 p5 p6)), .val (.int (atF bs 8 p3 p4 p5 p6)), .val (.int (atF bs 9 p3 p4 p5 p6)), .val (.int (atF bs 10 p3 p4 p5 p6)), .val (.int (atF bs 11 p3 p4 p5 p6))] [(.int (atF bs 6 p3 p4 p5 p6)), (.int (6 : Int32)), (.ref b104), (.ref b104), (.ref b103), (.ref b103)])) rfl rfl (hb hby d2_478)
              refine Goes.of (st111) ?_
              have sf_b103_111 := Safe.wr W111 sf_b104_110 CR110.1 sf_b103_110
              have sf_b104_111 := Safe.wr W111 sf_b104_110 CR110.1 sf_b104_110
              have CR111 := CR110.trans (CHr.wr W111 sf_b104_110 CR110.1)
              have E2_103_104_105_106_107_108_109_110_111 : Exa Z h111 a2 "java/lang/String" := E2_103_104_105_106_107_108_109_110.wr W111
              have C2_103_104_105_106_107_108_109_110_111 : Fld Z h111 a2 "java/lang/String" "coder" "B" (.int (0 : Int32)) := C2_103_104_105_106_107_108_109_110.other W111 (Or.inl ne_a2_b104)
              have W2v_103_104_105_106_107_108_109_110_111 : Fld Z h111 a2 "java/lang/String" "value" "[B" (.ref b2) := W2v_103_104_105_106_107_108_109_110.other W111 (Or.inl ne_a2_b104)
              have V2_103_104_105_106_107_108_109_110_111 : AI Z h111 b2 .byte bs := V2_103_104_105_106_107_108_109_110.other W111 ne_b2_b104
              have Scs_103_104_105_106_107_108_109_110_111 : Sta Z h111 "java/lang/String" "COMPACT_STRINGS" "Z" (.int cz) := Scs_103_104_105_106_107_108_109_110.wr W111
              have Sf_103_104_105_106_107_108_109_110_111 : Sta Z h111 "jdk/internal/util/Preconditions" "SIOOBE_FORMATTER" "Ljava/util/function/BiFunction;" fm := Sf_103_104_105_106_107_108_109_110.wr W111
              have A103_104_105_106_107_108_109_110_111 : Exa Z h111 b103 "java/lang/String" := A103_104_105_106_107_108_109_110.wr W111
              have F112_111 : Fld Z h111 b103 "java/lang/String" "value" "[B" .null := F_value_b103_104_105_106_107_108_109_110.other W111 (Or.inl ne_b103_b104)
              have F113_111 : Fld Z h111 b103 "java/lang/String" "coder" "B" (.int (0 : Int32)) := F_coder_b103_104_105_106_107_108_109_110.other W111 (Or.inl ne_b103_b104)
              have K111 : Keep h0 h111 [] := K110.wr W111 (Or.inr sz_b104)
              have Z111 : n0 ≤ h111.size := Nat.le_trans Z110 (Keep.of_wr W111).1
              have HK111 := Nat.le_trans HK110 (Keep.of_wr W111).1
              have N111 := Fr.snoc X111 N110 g_b104
              have V_b104_111 : AI Z h111 b104 .char [(nar .char (atF bs 0 p3 p4 p5 p6)), (nar .char (atF bs 1 p3 p4 p5 p6)), (nar .char (atF bs 2 p3 p4 p5 p6)), (nar .char (atF bs 3 p3 p4 p5 p6)), (nar .char (atF bs 4 p3 p4 p5 p6)), (nar .char (atF bs 5 p3 p4 p5 p6)), (nar .char (atF bs 6 p3 p4 p5 p6)), (0 : Int32), (0 : Int32), (0 : Int32), (0 : Int32)] := V111
              show Goes p e below KK T111 (mkF m 479 #[.val (.int p1), .val (.ref a2), .val (.int p3), .val (.int p4), .val (.int p5), .val (.int p6), .val (.int (atF bs 0 p3 p4 p5 p6)), .val (.int (atF bs 1 p3 p4 p5 p6)), .val (.int (atF bs 2 p3 p4 p5 p6)), .val (.int (atF bs 3 p3 p4 p5 p6)), .val (.int (atF bs 4 p3 p4 p5 p6)), .val (.int (atF bs 5 p3 p4 p5 p6)), .val (.int (atF bs 6 p3 p4 p5 p6)), .val (.int (atF bs 7 p3 p4 p5 p6)), .val (.int (atF bs 8 p3 p4 p5 p6)), .val (.int (atF bs 9 p3 p4 p5 p6)), .val (.int (atF bs 10 p3 p4 p5 p6)), .val (.int (atF bs 11 p3 p4 p5 p6))] [(.ref b104), (.ref b103), (.ref b103)])
              refine Goes.of (fun t => XS.dup X111.here hx rfl (hb hby d2_479) rfl rfl) ?_
              show Goes p e below KK T111 (mkF m 480 #[.val (.int p1), .val (.ref a2), .val (.int p3), .val (.int p4), .val (.int p5), .val (.int p6), .val (.int (atF bs 0 p3 p4 p5 p6)), .val (.int (atF bs 1 p3 p4 p5 p6)), .val (.int (atF bs 2 p3 p4 p5 p6)), .val (.int (atF bs 3 p3 p4 p5 p6)), .val (.int (atF bs 4 p3 p4 p5 p6)), .val (.int (atF bs 5 p3 p4 p5 p6)), .val (.int (atF bs 6 p3 p4 p5 p6)), .val (.int (atF bs 7 p3 p4 p5 p6)), .val (.int (atF bs 8 p3 p4 p5 p6)), .val (.int (atF bs 9 p3 p4 p5 p6)), .val (.int (atF bs 10 p3 p4 p5 p6)), .val (.int (atF bs 11 p3 p4 p5 p6))] [(.ref b104), (.ref b104), (.ref b103), (.ref b103)])
              refine Goes.of (fun t => XS.bipush X111.here hx rfl (hb hby d2_480)) ?_
              show Goes p e below KK T111 (mkF m 482 #[.val (.int p1), .val (.ref a2), .val (.int p3), .val (.int p4), .val (.int p5), .val (.int p6), .val (.int (atF bs 0 p3 p4 p5 p6)), .val (.int (atF bs 1 p3 p4 p5 p6)), .val (.int (atF bs 2 p3 p4 p5 p6)), .val (.int (atF bs 3 p3 p4 p5 p6)), .val (.int (atF bs 4 p3 p4 p5 p6)), .val (.int (atF bs 5 p3 p4 p5 p6)), .val (.int (atF bs 6 p3 p4 p5 p6)), .val (.int (atF bs 7 p3 p4 p5 p6)), .val (.int (atF bs 8 p3 p4 p5 p6)), .val (.int (atF bs 9 p3 p4 p5 p6)), .val (.int (atF bs 10 p3 p4 p5 p6)), .val (.int (atF bs 11 p3 p4 p5 p6))] [(.int (7 : Int32)), (.ref b104), (.ref b104), (.ref b103), (.ref b103)])
              refine Goes.of (fun t => XS.iload X111.here hx rfl (hb hby d2_482) rfl) ?_
              show Goes p e below KK T111 (mkF m 484 #[.val (.int p1), .val (.ref a2), .val (.int p3), .val (.int p4), .val (.int p5), .val (.int p6), .val (.int (atF bs 0 p3 p4 p5 p6)), .val (.int (atF bs 1 p3 p4 p5 p6)), .val (.int (atF bs 2 p3 p4 p5 p6)), .val (.int (atF bs 3 p3 p4 p5 p6)), .val (.int (atF bs 4 p3 p4 p5 p6)), .val (.int (atF bs 5 p3 p4 p5 p6)), .val (.int (atF bs 6 p3 p4 p5 p6)), .val (.int (atF bs 7 p3 p4 p5 p6)), .val (.int (atF bs 8 p3 p4 p5 p6)), .val (.int (atF bs 9 p3 p4 p5 p6)), .val (.int (atF bs 10 p3 p4 p5 p6)), .val (.int (atF bs 11 p3 p4 p5 p6))] [(.int (atF bs 7 p3 p4 p5 p6)), (.int (7 : Int32)), (.ref b104), (.ref b104), (.ref b103), (.ref b103)])
              obtain ⟨T114, h114, X114, e114, W114, V114, st114⟩ := AI.castore X111 hx hZw e111 V_b104_111 (i := 7) (j := (7 : Int32)) (rfl) ((by simp)) (g := (mkF m 484 #[.val (.int p1), .val (.ref a2), .val (.int p3), .val (.int p4), .val (.int p5), .val (.int p6), .val (.int (atF bs 0 p3 p4 p5 p6)), .val (.int (atF bs 1 p3 p4 p5 p6)), .val (.int (atF bs 2 p3 p4 p5 p6)), .val (.int (atF bs 3 p3 p4 p5 p6)), .val (.int (atF bs 4 p3 p4 p5 p6)), .val (.int (atF bs 5 p3 p4 p5 p6)), .val (.int (atF bs 6 p3 p4 p5 p6)), .val (.int (atF bs 7 p3 p4 p5 p6)), .val (.int (atF bs 8 p3 p4 p5 p6)), .val (.int (atF bs 9 p3 p4 p5 p6)), .val (.int (atF bs 10 p3 p4 p5 p6)), .val (.int (atF bs 11 p3 p4 p5 p6))] [(.int (atF bs 7 p3 p4 p5 p6)), (.int (7 : Int32)), (.ref b104), (.ref b104), (.ref b103), (.ref b103)])) rfl rfl (hb hby d2_484)
              refine Goes.of (st114) ?_
              have sf_b103_114 := Safe.wr W114 sf_b104_111 CR111.1 sf_b103_111
              have sf_b104_114 := Safe.wr W114 sf_b104_111 CR111.1 sf_b104_111
              have CR114 := CR111.trans (CHr.wr W114 sf_b104_111 CR111.1)
              have E2_103_104_105_106_107_108_109_110_111_114 : Exa Z h114 a2 "java/lang/String" := E2_103_104_105_106_107_108_109_110_111.wr W114
              have C2_103_104_105_106_107_108_109_110_111_114 : Fld Z h114 a2 "java/lang/String" "coder" "B" (.int (0 : Int32)) := C2_103_104_105_106_107_108_109_110_111.other W114 (Or.inl ne_a2_b104)
              have W2v_103_104_105_106_107_108_109_110_111_114 : Fld Z h114 a2 "java/lang/String" "value" "[B" (.ref b2) := W2v_103_104_105_106_107_108_109_110_111.other W114 (Or.inl ne_a2_b104)
              have V2_103_104_105_106_107_108_109_110_111_114 : AI Z h114 b2 .byte bs := V2_103_104_105_106_107_108_109_110_111.other W114 ne_b2_b104
              have Scs_103_104_105_106_107_108_109_110_111_114 : Sta Z h114 "java/lang/String" "COMPACT_STRINGS" "Z" (.int cz) := Scs_103_104_105_106_107_108_109_110_111.wr W114
              have Sf_103_104_105_106_107_108_109_110_111_114 : Sta Z h114 "jdk/internal/util/Preconditions" "SIOOBE_FORMATTER" "Ljava/util/function/BiFunction;" fm := Sf_103_104_105_106_107_108_109_110_111.wr W114
              have A103_104_105_106_107_108_109_110_111_114 : Exa Z h114 b103 "java/lang/String" := A103_104_105_106_107_108_109_110_111.wr W114
              have F112_111_114 : Fld Z h114 b103 "java/lang/String" "value" "[B" .null := F112_111.other W114 (Or.inl ne_b103_b104)
              have F113_111_114 : Fld Z h114 b103 "java/lang/String" "coder" "B" (.int (0 : Int32)) := F113_111.other W114 (Or.inl ne_b103_b104)
              have K114 : Keep h0 h114 [] := K111.wr W114 (Or.inr sz_b104)
              have Z114 : n0 ≤ h114.size := Nat.le_trans Z111 (Keep.of_wr W114).1
              have HK114 := Nat.le_trans HK111 (Keep.of_wr W114).1
              have N114 := Fr.snoc X114 N111 g_b104
              have V_b104_114 : AI Z h114 b104 .char [(nar .char (atF bs 0 p3 p4 p5 p6)), (nar .char (atF bs 1 p3 p4 p5 p6)), (nar .char (atF bs 2 p3 p4 p5 p6)), (nar .char (atF bs 3 p3 p4 p5 p6)), (nar .char (atF bs 4 p3 p4 p5 p6)), (nar .char (atF bs 5 p3 p4 p5 p6)), (nar .char (atF bs 6 p3 p4 p5 p6)), (nar .char (atF bs 7 p3 p4 p5 p6)), (0 : Int32), (0 : Int32), (0 : Int32)] := V114
              show Goes p e below KK T114 (mkF m 485 #[.val (.int p1), .val (.ref a2), .val (.int p3), .val (.int p4), .val (.int p5), .val (.int p6), .val (.int (atF bs 0 p3 p4 p5 p6)), .val (.int (atF bs 1 p3 p4 p5 p6)), .val (.int (atF bs 2 p3 p4 p5 p6)), .val (.int (atF bs 3 p3 p4 p5 p6)), .val (.int (atF bs 4 p3 p4 p5 p6)), .val (.int (atF bs 5 p3 p4 p5 p6)), .val (.int (atF bs 6 p3 p4 p5 p6)), .val (.int (atF bs 7 p3 p4 p5 p6)), .val (.int (atF bs 8 p3 p4 p5 p6)), .val (.int (atF bs 9 p3 p4 p5 p6)), .val (.int (atF bs 10 p3 p4 p5 p6)), .val (.int (atF bs 11 p3 p4 p5 p6))] [(.ref b104), (.ref b103), (.ref b103)])
              refine Goes.of (fun t => XS.dup X114.here hx rfl (hb hby d2_485) rfl rfl) ?_
              show Goes p e below KK T114 (mkF m 486 #[.val (.int p1), .val (.ref a2), .val (.int p3), .val (.int p4), .val (.int p5), .val (.int p6), .val (.int (atF bs 0 p3 p4 p5 p6)), .val (.int (atF bs 1 p3 p4 p5 p6)), .val (.int (atF bs 2 p3 p4 p5 p6)), .val (.int (atF bs 3 p3 p4 p5 p6)), .val (.int (atF bs 4 p3 p4 p5 p6)), .val (.int (atF bs 5 p3 p4 p5 p6)), .val (.int (atF bs 6 p3 p4 p5 p6)), .val (.int (atF bs 7 p3 p4 p5 p6)), .val (.int (atF bs 8 p3 p4 p5 p6)), .val (.int (atF bs 9 p3 p4 p5 p6)), .val (.int (atF bs 10 p3 p4 p5 p6)), .val (.int (atF bs 11 p3 p4 p5 p6))] [(.ref b104), (.ref b104), (.ref b103), (.ref b103)])
              refine Goes.of (fun t => XS.bipush X114.here hx rfl (hb hby d2_486)) ?_
              show Goes p e below KK T114 (mkF m 488 #[.val (.int p1), .val (.ref a2), .val (.int p3), .val (.int p4), .val (.int p5), .val (.int p6), .val (.int (atF bs 0 p3 p4 p5 p6)), .val (.int (atF bs 1 p3 p4 p5 p6)), .val (.int (atF bs 2 p3 p4 p5 p6)), .val (.int (atF bs 3 p3 p4 p5 p6)), .val (.int (atF bs 4 p3 p4 p5 p6)), .val (.int (atF bs 5 p3 p4 p5 p6)), .val (.int (atF bs 6 p3 p4 p5 p6)), .val (.int (atF bs 7 p3 p4 p5 p6)), .val (.int (atF bs 8 p3 p4 p5 p6)), .val (.int (atF bs 9 p3 p4 p5 p6)), .val (.int (atF bs 10 p3 p4 p5 p6)), .val (.int (atF bs 11 p3 p4 p5 p6))] [(.int (8 : Int32)), (.ref b104), (.ref b104), (.ref b103), (.ref b103)])
              refine Goes.of (fun t => XS.iload X114.here hx rfl (hb hby d2_488) rfl) ?_
              show Goes p e below KK T114 (mkF m 490 #[.val (.int p1), .val (.ref a2), .val (.int p3), .val (.int p4), .val (.int p5), .val (.int p6), .val (.int (atF bs 0 p3 p4 p5 p6)), .val (.int (atF bs 1 p3 p4 p5 p6)), .val (.int (atF bs 2 p3 p4 p5 p6)), .val (.int (atF bs 3 p3 p4 p5 p6)), .val (.int (atF bs 4 p3 p4 p5 p6)), .val (.int (atF bs 5 p3 p4 p5 p6)), .val (.int (atF bs 6 p3 p4 p5 p6)), .val (.int (atF bs 7 p3 p4 p5 p6)), .val (.int (atF bs 8 p3 p4 p5 p6)), .val (.int (atF bs 9 p3 p4 p5 p6)), .val (.int (atF bs 10 p3 p4 p5 p6)), .val (.int (atF bs 11 p3 p4 p5 p6))] [(.int (atF bs 8 p3 p4 p5 p6)), (.int (8 : Int32)), (.ref b104), (.ref b104), (.ref b103), (.ref b103)])
              obtain ⟨T115, h115, X115, e115, W115, V115, st115⟩ := AI.castore X114 hx hZw e114 V_b104_114 (i := 8) (j := (8 : Int32)) (rfl) ((by simp)) (g := (mkF m 490 #[.val (.int p1), .val (.ref a2), .val (.int p3), .val (.int p4), .val (.int p5), .val (.int p6), .val (.int (atF bs 0 p3 p4 p5 p6)), .val (.int (atF bs 1 p3 p4 p5 p6)), .val (.int (atF bs 2 p3 p4 p5 p6)), .val (.int (atF bs 3 p3 p4 p5 p6)), .val (.int (atF bs 4 p3 p4 p5 p6)), .val (.int (atF bs 5 p3 p4 p5 p6)), .val (.int (atF bs 6 p3 p4 p5 p6)), .val (.int (atF bs 7 p3 p4 p5 p6)), .val (.int (atF bs 8 p3 p4 p5 p6)), .val (.int (atF bs 9 p3 p4 p5 p6)), .val (.int (atF bs 10 p3 p4 p5 p6)), .val (.int (atF bs 11 p3 p4 p5 p6))] [(.int (atF bs 8 p3 p4 p5 p6)), (.int (8 : Int32)), (.ref b104), (.ref b104), (.ref b103), (.ref b103)])) rfl rfl (hb hby d2_490)
              refine Goes.of (st115) ?_
              have sf_b103_115 := Safe.wr W115 sf_b104_114 CR114.1 sf_b103_114
              have sf_b104_115 := Safe.wr W115 sf_b104_114 CR114.1 sf_b104_114
              have CR115 := CR114.trans (CHr.wr W115 sf_b104_114 CR114.1)
              have E116_115 : Exa Z h115 a2 "java/lang/String" := E2_103_104_105_106_107_108_109_110_111_114.wr W115
              have F117_115 : Fld Z h115 a2 "java/lang/String" "coder" "B" (.int (0 : Int32)) := C2_103_104_105_106_107_108_109_110_111_114.other W115 (Or.inl ne_a2_b104)
              have F118_115 : Fld Z h115 a2 "java/lang/String" "value" "[B" (.ref b2) := W2v_103_104_105_106_107_108_109_110_111_114.other W115 (Or.inl ne_a2_b104)
              have V119_115 : AI Z h115 b2 .byte bs := V2_103_104_105_106_107_108_109_110_111_114.other W115 ne_b2_b104
              have S120_115 : Sta Z h115 "java/lang/String" "COMPACT_STRINGS" "Z" (.int cz) := Scs_103_104_105_106_107_108_109_110_111_114.wr W115
              have S121_115 : Sta Z h115 "jdk/internal/util/Preconditions" "SIOOBE_FORMATTER" "Ljava/util/function/BiFunction;" fm := Sf_103_104_105_106_107_108_109_110_111_114.wr W115
              have E122_115 : Exa Z h115 b103 "java/lang/String" := A103_104_105_106_107_108_109_110_111_114.wr W115
              have F112_111_114_115 : Fld Z h115 b103 "java/lang/String" "value" "[B" .null := F112_111_114.other W115 (Or.inl ne_b103_b104)
              have F113_111_114_115 : Fld Z h115 b103 "java/lang/String" "coder" "B" (.int (0 : Int32)) := F113_111_114.other W115 (Or.inl ne_b103_b104)
              have K115 : Keep h0 h115 [] := K114.wr W115 (Or.inr sz_b104)
              have Z115 : n0 ≤ h115.size := Nat.le_trans Z114 (Keep.of_wr W115).1
              have HK115 := Nat.le_trans HK114 (Keep.of_wr W115).1
              have N115 := Fr.snoc X115 N114 g_b104
              have V_b104_115 : AI Z h115 b104 .char [(nar .char (atF bs 0 p3 p4 p5 p6)), (nar .char (atF bs 1 p3 p4 p5 p6)), (nar .char (atF bs 2 p3 p4 p5 p6)), (nar .char (atF bs 3 p3 p4 p5 p6)), (nar .char (atF bs 4 p3 p4 p5 p6)), (nar .char (atF bs 5 p3 p4 p5 p6)), (nar .char (atF bs 6 p3 p4 p5 p6)), (nar .char (atF bs 7 p3 p4 p5 p6)), (nar .char (atF bs 8 p3 p4 p5 p6)), (0 : Int32), (0 : Int32)] := V115
              show Goes p e below KK T115 (mkF m 491 #[.val (.int p1), .val (.ref a2), .val (.int p3), .val (.int p4), .val (.int p5), .val (.int p6), .val (.int (atF bs 0 p3 p4 p5 p6)), .val (.int (atF bs 1 p3 p4 p5 p6)), .val (.int (atF bs 2 p3 p4 p5 p6)), .val (.int (atF bs 3 p3 p4 p5 p6)), .val (.int (atF bs 4 p3 p4 p5 p6)), .val (.int (atF bs 5 p3 p4 p5 p6)), .val (.int (atF bs 6 p3 p4 p5 p6)), .val (.int (atF bs 7 p3 p4 p5 p6)), .val (.int (atF bs 8 p3 p4 p5 p6)), .val (.int (atF bs 9 p3 p4 p5 p6)), .val (.int (atF bs 10 p3 p4 p5 p6)), .val (.int (atF bs 11 p3 p4 p5 p6))] [(.ref b104), (.ref b103), (.ref b103)])
              refine Goes.of (fun t => XS.dup X115.here hx rfl (hb hby d2_491) rfl rfl) ?_
              show Goes p e below KK T115 (mkF m 492 #[.val (.int p1), .val (.ref a2), .val (.int p3), .val (.int p4), .val (.int p5), .val (.int p6), .val (.int (atF bs 0 p3 p4 p5 p6)), .val (.int (atF bs 1 p3 p4 p5 p6)), .val (.int (atF bs 2 p3 p4 p5 p6)), .val (.int (atF bs 3 p3 p4 p5 p6)), .val (.int (atF bs 4 p3 p4 p5 p6)), .val (.int (atF bs 5 p3 p4 p5 p6)), .val (.int (atF bs 6 p3 p4 p5 p6)), .val (.int (atF bs 7 p3 p4 p5 p6)), .val (.int (atF bs 8 p3 p4 p5 p6)), .val (.int (atF bs 9 p3 p4 p5 p6)), .val (.int (atF bs 10 p3 p4 p5 p6)), .val (.int (atF bs 11 p3 p4 p5 p6))] [(.ref b104), (.ref b104), (.ref b103), (.ref b103)])
              refine Goes.of (fun t => XS.bipush X115.here hx rfl (hb hby d2_492)) ?_
              show Goes p e below KK T115 (mkF m 494 #[.val (.int p1), .val (.ref a2), .val (.int p3), .val (.int p4), .val (.int p5), .val (.int p6), .val (.int (atF bs 0 p3 p4 p5 p6)), .val (.int (atF bs 1 p3 p4 p5 p6)), .val (.int (atF bs 2 p3 p4 p5 p6)), .val (.int (atF bs 3 p3 p4 p5 p6)), .val (.int (atF bs 4 p3 p4 p5 p6)), .val (.int (atF bs 5 p3 p4 p5 p6)), .val (.int (atF bs 6 p3 p4 p5 p6)), .val (.int (atF bs 7 p3 p4 p5 p6)), .val (.int (atF bs 8 p3 p4 p5 p6)), .val (.int (atF bs 9 p3 p4 p5 p6)), .val (.int (atF bs 10 p3 p4 p5 p6)), .val (.int (atF bs 11 p3 p4 p5 p6))] [(.int (9 : Int32)), (.ref b104), (.ref b104), (.ref b103), (.ref b103)])
              refine Goes.of (fun t => XS.iload X115.here hx rfl (hb hby d2_494) rfl) ?_
              show Goes p e below KK T115 (mkF m 496 #[.val (.int p1), .val (.ref a2), .val (.int p3), .val (.int p4), .val (.int p5), .val (.int p6), .val (.int (atF bs 0 p3 p4 p5 p6)), .val (.int (atF bs 1 p3 p4 p5 p6)), .val (.int (atF bs 2 p3 p4 p5 p6)), .val (.int (atF bs 3 p3 p4 p5 p6)), .val (.int (atF bs 4 p3 p4 p5 p6)), .val (.int (atF bs 5 p3 p4 p5 p6)), .val (.int (atF bs 6 p3 p4 p5 p6)), .val (.int (atF bs 7 p3 p4 p5 p6)), .val (.int (atF bs 8 p3 p4 p5 p6)), .val (.int (atF bs 9 p3 p4 p5 p6)), .val (.int (atF bs 10 p3 p4 p5 p6)), .val (.int (atF bs 11 p3 p4 p5 p6))] [(.int (atF bs 9 p3 p4 p5 p6)), (.int (9 : Int32)), (.ref b104), (.ref b104), (.ref b103), (.ref b103)])
              obtain ⟨T123, h123, X123, e123, W123, V123, st123⟩ := AI.castore X115 hx hZw e115 V_b104_115 (i := 9) (j := (9 : Int32)) (rfl) ((by simp)) (g := (mkF m 496 #[.val (.int p1), .val (.ref a2), .val (.int p3), .val (.int p4), .val (.int p5), .val (.int p6), .val (.int (atF bs 0 p3 p4 p5 p6)), .val (.int (atF bs 1 p3 p4 p5 p6)), .val (.int (atF bs 2 p3 p4 p5 p6)), .val (.int (atF bs 3 p3 p4 p5 p6)), .val (.int (atF bs 4 p3 p4 p5 p6)), .val (.int (atF bs 5 p3 p4 p5 p6)), .val (.int (atF bs 6 p3 p4 p5 p6)), .val (.int (atF bs 7 p3 p4 p5 p6)), .val (.int (atF bs 8 p3 p4 p5 p6)), .val (.int (atF bs 9 p3 p4 p5 p6)), .val (.int (atF bs 10 p3 p4 p5 p6)), .val (.int (atF bs 11 p3 p4 p5 p6))] [(.int (atF bs 9 p3 p4 p5 p6)), (.int (9 : Int32)), (.ref b104), (.ref b104), (.ref b103), (.ref b103)])) rfl rfl (hb hby d2_496)
              refine Goes.of (st123) ?_
              have sf_b103_123 := Safe.wr W123 sf_b104_115 CR115.1 sf_b103_115
              have sf_b104_123 := Safe.wr W123 sf_b104_115 CR115.1 sf_b104_115
              have CR123 := CR115.trans (CHr.wr W123 sf_b104_115 CR115.1)
              have E116_115_123 : Exa Z h123 a2 "java/lang/String" := E116_115.wr W123
              have F117_115_123 : Fld Z h123 a2 "java/lang/String" "coder" "B" (.int (0 : Int32)) := F117_115.other W123 (Or.inl ne_a2_b104)
              have F118_115_123 : Fld Z h123 a2 "java/lang/String" "value" "[B" (.ref b2) := F118_115.other W123 (Or.inl ne_a2_b104)
              have V119_115_123 : AI Z h123 b2 .byte bs := V119_115.other W123 ne_b2_b104
              have S120_115_123 : Sta Z h123 "java/lang/String" "COMPACT_STRINGS" "Z" (.int cz) := S120_115.wr W123
              have S121_115_123 : Sta Z h123 "jdk/internal/util/Preconditions" "SIOOBE_FORMATTER" "Ljava/util/function/BiFunction;" fm := S121_115.wr W123
              have E122_115_123 : Exa Z h123 b103 "java/lang/String" := E122_115.wr W123
              have F112_111_114_115_123 : Fld Z h123 b103 "java/lang/String" "value" "[B" .null := F112_111_114_115.other W123 (Or.inl ne_b103_b104)
              have F113_111_114_115_123 : Fld Z h123 b103 "java/lang/String" "coder" "B" (.int (0 : Int32)) := F113_111_114_115.other W123 (Or.inl ne_b103_b104)
              have K123 : Keep h0 h123 [] := K115.wr W123 (Or.inr sz_b104)
              have Z123 : n0 ≤ h123.size := Nat.le_trans Z115 (Keep.of_wr W123).1
              have HK123 := Nat.le_trans HK115 (Keep.of_wr W123).1
              have N123 := Fr.snoc X123 N115 g_b104
              have V_b104_123 : AI Z h123 b104 .char [(nar .char (atF bs 0 p3 p4 p5 p6)), (nar .char (atF bs 1 p3 p4 p5 p6)), (nar .char (atF bs 2 p3 p4 p5 p6)), (nar .char (atF bs 3 p3 p4 p5 p6)), (nar .char (atF bs 4 p3 p4 p5 p6)), (nar .char (atF bs 5 p3 p4 p5 p6)), (nar .char (atF bs 6 p3 p4 p5 p6)), (nar .char (atF bs 7 p3 p4 p5 p6)), (nar .char (atF bs 8 p3 p4 p5 p6)), (nar .char (atF bs 9 p3 p4 p5 p6)), (0 : Int32)] := V123
              show Goes p e below KK T123 (mkF m 497 #[.val (.int p1), .val (.ref a2), .val (.int p3), .val (.int p4), .val (.int p5), .val (.int p6), .val (.int (atF bs 0 p3 p4 p5 p6)), .val (.int (atF bs 1 p3 p4 p5 p6)), .val (.int (atF bs 2 p3 p4 p5 p6)), .val (.int (atF bs 3 p3 p4 p5 p6)), .val (.int (atF bs 4 p3 p4 p5 p6)), .val (.int (atF bs 5 p3 p4 p5 p6)), .val (.int (atF bs 6 p3 p4 p5 p6)), .val (.int (atF bs 7 p3 p4 p5 p6)), .val (.int (atF bs 8 p3 p4 p5 p6)), .val (.int (atF bs 9 p3 p4 p5 p6)), .val (.int (atF bs 10 p3 p4 p5 p6)), .val (.int (atF bs 11 p3 p4 p5 p6))] [(.ref b104), (.ref b103), (.ref b103)])
              refine Goes.of (fun t => XS.dup X123.here hx rfl (hb hby d2_497) rfl rfl) ?_
              show Goes p e below KK T123 (mkF m 498 #[.val (.int p1), .val (.ref a2), .val (.int p3), .val (.int p4), .val (.int p5), .val (.int p6), .val (.int (atF bs 0 p3 p4 p5 p6)), .val (.int (atF bs 1 p3 p4 p5 p6)), .val (.int (atF bs 2 p3 p4 p5 p6)), .val (.int (atF bs 3 p3 p4 p5 p6)), .val (.int (atF bs 4 p3 p4 p5 p6)), .val (.int (atF bs 5 p3 p4 p5 p6)), .val (.int (atF bs 6 p3 p4 p5 p6)), .val (.int (atF bs 7 p3 p4 p5 p6)), .val (.int (atF bs 8 p3 p4 p5 p6)), .val (.int (atF bs 9 p3 p4 p5 p6)), .val (.int (atF bs 10 p3 p4 p5 p6)), .val (.int (atF bs 11 p3 p4 p5 p6))] [(.ref b104), (.ref b104), (.ref b103), (.ref b103)])
              refine Goes.of (fun t => XS.bipush X123.here hx rfl (hb hby d2_498)) ?_
              show Goes p e below KK T123 (mkF m 500 #[.val (.int p1), .val (.ref a2), .val (.int p3), .val (.int p4), .val (.int p5), .val (.int p6), .val (.int (atF bs 0 p3 p4 p5 p6)), .val (.int (atF bs 1 p3 p4 p5 p6)), .val (.int (atF bs 2 p3 p4 p5 p6)), .val (.int (atF bs 3 p3 p4 p5 p6)), .val (.int (atF bs 4 p3 p4 p5 p6)), .val (.int (atF bs 5 p3 p4 p5 p6)), .val (.int (atF bs 6 p3 p4 p5 p6)), .val (.int (atF bs 7 p3 p4 p5 p6)), .val (.int (atF bs 8 p3 p4 p5 p6)), .val (.int (atF bs 9 p3 p4 p5 p6)), .val (.int (atF bs 10 p3 p4 p5 p6)), .val (.int (atF bs 11 p3 p4 p5 p6))] [(.int (10 : Int32)), (.ref b104), (.ref b104), (.ref b103), (.ref b103)])
              refine Goes.of (fun t => XS.iload X123.here hx rfl (hb hby d2_500) rfl) ?_
              show Goes p e below KK T123 (mkF m 502 #[.val (.int p1), .val (.ref a2), .val (.int p3), .val (.int p4), .val (.int p5), .val (.int p6), .val (.int (atF bs 0 p3 p4 p5 p6)), .val (.int (atF bs 1 p3 p4 p5 p6)), .val (.int (atF bs 2 p3 p4 p5 p6)), .val (.int (atF bs 3 p3 p4 p5 p6)), .val (.int (atF bs 4 p3 p4 p5 p6)), .val (.int (atF bs 5 p3 p4 p5 p6)), .val (.int (atF bs 6 p3 p4 p5 p6)), .val (.int (atF bs 7 p3 p4 p5 p6)), .val (.int (atF bs 8 p3 p4 p5 p6)), .val (.int (atF bs 9 p3 p4 p5 p6)), .val (.int (atF bs 10 p3 p4 p5 p6)), .val (.int (atF bs 11 p3 p4 p5 p6))] [(.int (atF bs 10 p3 p4 p5 p6)), (.int (10 : Int32)), (.ref b104), (.ref b104), (.ref b103), (.ref b103)])
              obtain ⟨T124, h124, X124, e124, W124, V124, st124⟩ := AI.castore X123 hx hZw e123 V_b104_123 (i := 10) (j := (10 : Int32)) (rfl) ((by simp)) (g := (mkF m 502 #[.val (.int p1), .val (.ref a2), .val (.int p3), .val (.int p4), .val (.int p5), .val (.int p6), .val (.int (atF bs 0 p3 p4 p5 p6)), .val (.int (atF bs 1 p3 p4 p5 p6)), .val (.int (atF bs 2 p3 p4 p5 p6)), .val (.int (atF bs 3 p3 p4 p5 p6)), .val (.int (atF bs 4 p3 p4 p5 p6)), .val (.int (atF bs 5 p3 p4 p5 p6)), .val (.int (atF bs 6 p3 p4 p5 p6)), .val (.int (atF bs 7 p3 p4 p5 p6)), .val (.int (atF bs 8 p3 p4 p5 p6)), .val (.int (atF bs 9 p3 p4 p5 p6)), .val (.int (atF bs 10 p3 p4 p5 p6)), .val (.int (atF bs 11 p3 p4 p5 p6))] [(.int (atF bs 10 p3 p4 p5 p6)), (.int (10 : Int32)), (.ref b104), (.ref b104), (.ref b103), (.ref b103)])) rfl rfl (hb hby d2_502)
              refine Goes.of (st124) ?_
              have sf_b103_124 := Safe.wr W124 sf_b104_123 CR123.1 sf_b103_123
              have sf_b104_124 := Safe.wr W124 sf_b104_123 CR123.1 sf_b104_123
              have CR124 := CR123.trans (CHr.wr W124 sf_b104_123 CR123.1)
              have E116_115_123_124 : Exa Z h124 a2 "java/lang/String" := E116_115_123.wr W124
              have F117_115_123_124 : Fld Z h124 a2 "java/lang/String" "coder" "B" (.int (0 : Int32)) := F117_115_123.other W124 (Or.inl ne_a2_b104)
              have F118_115_123_124 : Fld Z h124 a2 "java/lang/String" "value" "[B" (.ref b2) := F118_115_123.other W124 (Or.inl ne_a2_b104)
              have V119_115_123_124 : AI Z h124 b2 .byte bs := V119_115_123.other W124 ne_b2_b104
              have S120_115_123_124 : Sta Z h124 "java/lang/String" "COMPACT_STRINGS" "Z" (.int cz) := S120_115_123.wr W124
              have S121_115_123_124 : Sta Z h124 "jdk/internal/util/Preconditions" "SIOOBE_FORMATTER" "Ljava/util/function/BiFunction;" fm := S121_115_123.wr W124
              have E122_115_123_124 : Exa Z h124 b103 "java/lang/String" := E122_115_123.wr W124
              have F112_111_114_115_123_124 : Fld Z h124 b103 "java/lang/String" "value" "[B" .null := F112_111_114_115_123.other W124 (Or.inl ne_b103_b104)
              have F113_111_114_115_123_124 : Fld Z h124 b103 "java/lang/String" "coder" "B" (.int (0 : Int32)) := F113_111_114_115_123.other W124 (Or.inl ne_b103_b104)
              have K124 : Keep h0 h124 [] := K123.wr W124 (Or.inr sz_b104)
              have Z124 : n0 ≤ h124.size := Nat.le_trans Z123 (Keep.of_wr W124).1
              have HK124 := Nat.le_trans HK123 (Keep.of_wr W124).1
              have N124 := Fr.snoc X124 N123 g_b104
              have V_b104_124 : AI Z h124 b104 .char [(nar .char (atF bs 0 p3 p4 p5 p6)), (nar .char (atF bs 1 p3 p4 p5 p6)), (nar .char (atF bs 2 p3 p4 p5 p6)), (nar .char (atF bs 3 p3 p4 p5 p6)), (nar .char (atF bs 4 p3 p4 p5 p6)), (nar .char (atF bs 5 p3 p4 p5 p6)), (nar .char (atF bs 6 p3 p4 p5 p6)), (nar .char (atF bs 7 p3 p4 p5 p6)), (nar .char (atF bs 8 p3 p4 p5 p6)), (nar .char (atF bs 9 p3 p4 p5 p6)), (nar .char (atF bs 10 p3 p4 p5 p6))] := V124
              show Goes p e below KK T124 (mkF m 503 #[.val (.int p1), .val (.ref a2), .val (.int p3), .val (.int p4), .val (.int p5), .val (.int p6), .val (.int (atF bs 0 p3 p4 p5 p6)), .val (.int (atF bs 1 p3 p4 p5 p6)), .val (.int (atF bs 2 p3 p4 p5 p6)), .val (.int (atF bs 3 p3 p4 p5 p6)), .val (.int (atF bs 4 p3 p4 p5 p6)), .val (.int (atF bs 5 p3 p4 p5 p6)), .val (.int (atF bs 6 p3 p4 p5 p6)), .val (.int (atF bs 7 p3 p4 p5 p6)), .val (.int (atF bs 8 p3 p4 p5 p6)), .val (.int (atF bs 9 p3 p4 p5 p6)), .val (.int (atF bs 10 p3 p4 p5 p6)), .val (.int (atF bs 11 p3 p4 p5 p6))] [(.ref b104), (.ref b103), (.ref b103)])
              obtain ⟨_, _, ⟨T125, L125, k125, n125⟩, -, X125, ⟨Lc125, hQ125, l125, y125, z125⟩, st125⟩ := X124.specialBack hx (y := (⟨"java/lang/String", "<init>", "([C)V"⟩ : MethodName)) rfl hownw (mvT hZw w_56) (mvT hZw w_57) (mvT hZw w_58) (by decide) (backOf (W := 1) (rm11N l Z a0 hw [] b103 b104 [(nar .char (atF bs 0 p3 p4 p5 p6)), (nar .char (atF bs 1 p3 p4 p5 p6)), (nar .char (atF bs 2 p3 p4 p5 p6)), (nar .char (atF bs 3 p3 p4 p5 p6)), (nar .char (atF bs 4 p3 p4 p5 p6)), (nar .char (atF bs 5 p3 p4 p5 p6)), (nar .char (atF bs 6 p3 p4 p5 p6)), (nar .char (atF bs 7 p3 p4 p5 p6)), (nar .char (atF bs 8 p3 p4 p5 p6)), (nar .char (atF bs 9 p3 p4 p5 p6)), (nar .char (atF bs 10 p3 p4 p5 p6))] 11 cz h124 n0 Z124 E122_115_123_124 F113_111_114_115_123_124 F112_111_114_115_123_124 g_b103 V_b104_124 rfl (by simp) (by simp) (own_cs hbs hd hf 11) S120_115_123_124 hcz) hZw w_58 w_1 (by decide) (by decide)) (g := (mkF m 503 #[.val (.int p1), .val (.ref a2), .val (.int p3), .val (.int p4), .val (.int p5), .val (.int p6), .val (.int (atF bs 0 p3 p4 p5 p6)), .val (.int (atF bs 1 p3 p4 p5 p6)), .val (.int (atF bs 2 p3 p4 p5 p6)), .val (.int (atF bs 3 p3 p4 p5 p6)), .val (.int (atF bs 4 p3 p4 p5 p6)), .val (.int (atF bs 5 p3 p4 p5 p6)), .val (.int (atF bs 6 p3 p4 p5 p6)), .val (.int (atF bs 7 p3 p4 p5 p6)), .val (.int (atF bs 8 p3 p4 p5 p6)), .val (.int (atF bs 9 p3 p4 p5 p6)), .val (.int (atF bs 10 p3 p4 p5 p6)), .val (.int (atF bs 11 p3 p4 p5 p6))] [(.ref b104), (.ref b103), (.ref b103)])) rfl (by rw [hml]; rfl) (Steps.refl _) (a := b103) (argsL := [(.ref b104)]) (rest := [(.ref b103)]) (lenOf pd_27 rfl) rfl (by show 2 * 0 + _ ≤ _; exact Nat.le_of_eq rfl) (hb hby d2_503) (fun _ _ => ⟨rfl, e124, (by decide : 2 + 1 ≤ _), (by decide : 15 + 12 ≤ _)⟩)
              dsimp only [Pt.U, Pt.locs, Pt.cells, Pt.slots] at X125 l125 y125 z125 st125 hQ125
              subst y125 z125
              obtain ⟨r125, rfl, N125q, Kc125, hb125, E125, Fc125, Fv125, V125⟩ := hQ125
              have N125 : Fr n0 L125 := by rw [l125]; exact Fr.app N124 N125q
              have ne_a2_r125 : a2 ≠ r125 := Nat.ne_of_lt (Nat.lt_of_lt_of_le E116_115_123_124.lt hb125)
              have ne_b2_r125 : b2 ≠ r125 := Nat.ne_of_lt (Nat.lt_of_lt_of_le V119_115_123_124.lt hb125)
              have ne_b103_r125 : b103 ≠ r125 := Nat.ne_of_lt (Nat.lt_of_lt_of_le E122_115_123_124.lt hb125)
              have ne_b104_r125 : b104 ≠ r125 := Nat.ne_of_lt (Nat.lt_of_lt_of_le V_b104_124.lt hb125)
              have g_r125 : n0 ≤ r125 := Nat.le_trans Z124 hb125
              have sz_r125 : h0.size ≤ r125 := Nat.le_trans K124.1 hb125
              have sf_b103_125 := Safe.keep Kc125 (sfS sf_b103_124 sf0) CR124.1 sf_b103_124
              have sf_b104_125 := Safe.keep Kc125 (sfS sf_b103_124 sf0) CR124.1 sf_b104_124
              have CR125 := CR124.trans (CHr.keep Kc125 (sfS sf_b103_124 sf0) CR124.1)
              have E116_115_123_124_125 : Exa Z T125.heap a2 "java/lang/String" := E116_115_123_124.keep Kc125
              have F117_115_123_124_125 : Fld Z T125.heap a2 "java/lang/String" "coder" "B" (.int (0 : Int32)) := F117_115_123_124.keep Kc125 (ninS ne_a2_b103 nin0)
              have F118_115_123_124_125 : Fld Z T125.heap a2 "java/lang/String" "value" "[B" (.ref b2) := F118_115_123_124.keep Kc125 (ninS ne_a2_b103 nin0)
              have V119_115_123_124_125 : AI Z T125.heap b2 .byte bs := V119_115_123_124.keep Kc125 (ninS ne_b2_b103 nin0)
              have E122_115_123_124_125 : Exa Z T125.heap b103 "java/lang/String" := E122_115_123_124.keep Kc125
              have K125 : Keep h0 T125.heap [] := K124.trans Kc125 (allS (Or.inr sz_b103) all0)
              have Z125 : n0 ≤ T125.heap.size := Nat.le_trans Z124 Kc125.1
              have HK125 := Nat.le_trans HK124 Kc125.1
              have e125 : T125.heap = T125.heap := rfl
              refine Goes.tr st125 ?_
              show Goes p e below KK T125 (mkF m 506 #[.val (.int p1), .val (.ref a2), .val (.int p3), .val (.int p4), .val (.int p5), .val (.int p6), .val (.int (atF bs 0 p3 p4 p5 p6)), .val (.int (atF bs 1 p3 p4 p5 p6)), .val (.int (atF bs 2 p3 p4 p5 p6)), .val (.int (atF bs 3 p3 p4 p5 p6)), .val (.int (atF bs 4 p3 p4 p5 p6)), .val (.int (atF bs 5 p3 p4 p5 p6)), .val (.int (atF bs 6 p3 p4 p5 p6)), .val (.int (atF bs 7 p3 p4 p5 p6)), .val (.int (atF bs 8 p3 p4 p5 p6)), .val (.int (atF bs 9 p3 p4 p5 p6)), .val (.int (atF bs 10 p3 p4 p5 p6)), .val (.int (atF bs 11 p3 p4 p5 p6))] [(.ref b103)])
              have hkk' : kk = 11 := by
                have z0 : (0 : Int32).toInt = 0 := rfl
                have z7 : (7 : Int32).toInt = 7 := rfl
                have z8 : (8 : Int32).toInt = 8 := rfl
                have z9 : (9 : Int32).toInt = 9 := rfl
                have z10 : (10 : Int32).toInt = 10 := rfl
                have z11 : (11 : Int32).toInt = 11 := rfl
                have z12 : (12 : Int32).toInt = 12 := rfl
                have qhc163 : ¬ p1.toInt = (0 : Int32).toInt := fun q => hc163 (Int32.toInt_inj.mp q)
                have qhc180 : ¬ p1.toInt = (7 : Int32).toInt := fun q => hc180 (Int32.toInt_inj.mp q)
                have qhc234 : ¬ p1.toInt = (8 : Int32).toInt := fun q => hc234 (Int32.toInt_inj.mp q)
                have qhc294 : ¬ p1.toInt = (9 : Int32).toInt := fun q => hc294 (Int32.toInt_inj.mp q)
                have qhc360 : ¬ p1.toInt = (10 : Int32).toInt := fun q => hc360 (Int32.toInt_inj.mp q)
                have qhc432 := congrArg Int32.toInt hc432
                omega
              subst hkk'
              rw [← hKK]
              refine Goes.retRefH X125 HS0 (by rw [e125]; exact HK125) (by rw [e125, hh]; exact CR125.trans (CHv.at X125 hZw hEL CR125.1)) hx hlk rfl rfl Bd.returns (hb hby d2_506) ?_ (by decide) (by decide)
              rw [e125]
              exact ⟨b103, r125, rfl, N125, K125, E125, Fc125, Fv125, V125⟩
            · refine Goes.of (fun t => XS.icmpYes X49.here hx rfl (pc0 := 432) (pc' := 507) rfl (hb hby d2_432) rfl (feq hc432).2 (by decide) (by decide)) ?_
              show Goes p e below KK T49 (mkF m 507 #[.val (.int p1), .val (.ref a2), .val (.int p3), .val (.int p4), .val (.int p5), .val (.int p6), .val (.int (atF bs 0 p3 p4 p5 p6)), .val (.int (atF bs 1 p3 p4 p5 p6)), .val (.int (atF bs 2 p3 p4 p5 p6)), .val (.int (atF bs 3 p3 p4 p5 p6)), .val (.int (atF bs 4 p3 p4 p5 p6)), .val (.int (atF bs 5 p3 p4 p5 p6)), .val (.int (atF bs 6 p3 p4 p5 p6)), .val (.int (atF bs 7 p3 p4 p5 p6)), .val (.int (atF bs 8 p3 p4 p5 p6)), .val (.int (atF bs 9 p3 p4 p5 p6)), .val (.int (atF bs 10 p3 p4 p5 p6)), .val (.int (atF bs 11 p3 p4 p5 p6))] [])
              obtain ⟨T126, h126, X126, e126, E126, A126, D126, -, st126⟩ := newO X49 hx hZw hownw w_54 w_2 w_1 e49 (g := (mkF m 507 #[.val (.int p1), .val (.ref a2), .val (.int p3), .val (.int p4), .val (.int p5), .val (.int p6), .val (.int (atF bs 0 p3 p4 p5 p6)), .val (.int (atF bs 1 p3 p4 p5 p6)), .val (.int (atF bs 2 p3 p4 p5 p6)), .val (.int (atF bs 3 p3 p4 p5 p6)), .val (.int (atF bs 4 p3 p4 p5 p6)), .val (.int (atF bs 5 p3 p4 p5 p6)), .val (.int (atF bs 6 p3 p4 p5 p6)), .val (.int (atF bs 7 p3 p4 p5 p6)), .val (.int (atF bs 8 p3 p4 p5 p6)), .val (.int (atF bs 9 p3 p4 p5 p6)), .val (.int (atF bs 10 p3 p4 p5 p6)), .val (.int (atF bs 11 p3 p4 p5 p6))] [])) rfl (hb hby d2_507) (by decide) (by decide)
              obtain ⟨b126, g126⟩ : ∃ z, z = h0.size := ⟨_, rfl⟩
              rw [← g126] at A126 D126 st126
              refine Goes.of (st126) ?_
              have ne_a2_b126 : a2 ≠ b126 := Nat.ne_of_lt (Nat.lt_of_lt_of_le E2.lt (Nat.le_of_eq g126.symm))
              have ne_b2_b126 : b2 ≠ b126 := Nat.ne_of_lt (Nat.lt_of_lt_of_le V2.lt (Nat.le_of_eq g126.symm))
              have g_b126 : n0 ≤ b126 := Nat.le_trans Z0 (Nat.le_of_eq g126.symm)
              have sz_b126 : h0.size ≤ b126 := Nat.le_trans (Keep.refl h0 []).1 (Nat.le_of_eq g126.symm)
              have sf_b126 : Safe Z EL0 s.vm h0 b126 := Safe.new (Nat.le_of_eq g126.symm)
              have sf_b126_126 := Safe.ext E126 CR0.1 sf_b126
              have CR126 := CR0.trans (CHr.ext E126 CR0.1)
              have E2_126 : Exa Z h126 a2 "java/lang/String" := E2.ext E126
              have C2_126 : Fld Z h126 a2 "java/lang/String" "coder" "B" (.int (0 : Int32)) := C2.ext E126
              have W2v_126 : Fld Z h126 a2 "java/lang/String" "value" "[B" (.ref b2) := W2v.ext E126
              have V2_126 : AI Z h126 b2 .byte bs := V2.ext E126
              have Scs_126 : Sta Z h126 "java/lang/String" "COMPACT_STRINGS" "Z" (.int cz) := Scs.ext E126
              have Sf_126 : Sta Z h126 "jdk/internal/util/Preconditions" "SIOOBE_FORMATTER" "Ljava/util/function/BiFunction;" fm := Sf.ext E126
              have K126 : Keep h0 h126 [] := (Keep.refl h0 []).ext E126
              have Z126 : n0 ≤ h126.size := Nat.le_trans Z0 E126.1
              have HK126 := Nat.le_trans HK0 E126.1
              have F_value_b126 : Fld Z h126 b126 "java/lang/String" "value" "[B" .null := D126 (Or.inr w_4) (ty := (.array .byte)) (by decide)
              have F_coder_b126 : Fld Z h126 b126 "java/lang/String" "coder" "B" (.int (0 : Int32)) := D126 (Or.inr w_5) (ty := .byte) (by decide)
              show Goes p e below KK T126 (mkF m 510 #[.val (.int p1), .val (.ref a2), .val (.int p3), .val (.int p4), .val (.int p5), .val (.int p6), .val (.int (atF bs 0 p3 p4 p5 p6)), .val (.int (atF bs 1 p3 p4 p5 p6)), .val (.int (atF bs 2 p3 p4 p5 p6)), .val (.int (atF bs 3 p3 p4 p5 p6)), .val (.int (atF bs 4 p3 p4 p5 p6)), .val (.int (atF bs 5 p3 p4 p5 p6)), .val (.int (atF bs 6 p3 p4 p5 p6)), .val (.int (atF bs 7 p3 p4 p5 p6)), .val (.int (atF bs 8 p3 p4 p5 p6)), .val (.int (atF bs 9 p3 p4 p5 p6)), .val (.int (atF bs 10 p3 p4 p5 p6)), .val (.int (atF bs 11 p3 p4 p5 p6))] [(.ref b126)])
              refine Goes.of (fun t => XS.dup X126.here hx rfl (hb hby d2_510) rfl rfl) ?_
              show Goes p e below KK T126 (mkF m 511 #[.val (.int p1), .val (.ref a2), .val (.int p3), .val (.int p4), .val (.int p5), .val (.int p6), .val (.int (atF bs 0 p3 p4 p5 p6)), .val (.int (atF bs 1 p3 p4 p5 p6)), .val (.int (atF bs 2 p3 p4 p5 p6)), .val (.int (atF bs 3 p3 p4 p5 p6)), .val (.int (atF bs 4 p3 p4 p5 p6)), .val (.int (atF bs 5 p3 p4 p5 p6)), .val (.int (atF bs 6 p3 p4 p5 p6)), .val (.int (atF bs 7 p3 p4 p5 p6)), .val (.int (atF bs 8 p3 p4 p5 p6)), .val (.int (atF bs 9 p3 p4 p5 p6)), .val (.int (atF bs 10 p3 p4 p5 p6)), .val (.int (atF bs 11 p3 p4 p5 p6))] [(.ref b126), (.ref b126)])
              refine Goes.of (fun t => XS.bipush X126.here hx rfl (hb hby d2_511)) ?_
              show Goes p e below KK T126 (mkF m 513 #[.val (.int p1), .val (.ref a2), .val (.int p3), .val (.int p4), .val (.int p5), .val (.int p6), .val (.int (atF bs 0 p3 p4 p5 p6)), .val (.int (atF bs 1 p3 p4 p5 p6)), .val (.int (atF bs 2 p3 p4 p5 p6)), .val (.int (atF bs 3 p3 p4 p5 p6)), .val (.int (atF bs 4 p3 p4 p5 p6)), .val (.int (atF bs 5 p3 p4 p5 p6)), .val (.int (atF bs 6 p3 p4 p5 p6)), .val (.int (atF bs 7 p3 p4 p5 p6)), .val (.int (atF bs 8 p3 p4 p5 p6)), .val (.int (atF bs 9 p3 p4 p5 p6)), .val (.int (atF bs 10 p3 p4 p5 p6)), .val (.int (atF bs 11 p3 p4 p5 p6))] [(.int (12 : Int32)), (.ref b126), (.ref b126)])
              obtain ⟨T127, h127, k127, X127, e127, E127, A127, st127⟩ := newP (aty := .char) X126 hx hZw w_55 e126 (g := (mkF m 513 #[.val (.int p1), .val (.ref a2), .val (.int p3), .val (.int p4), .val (.int p5), .val (.int p6), .val (.int (atF bs 0 p3 p4 p5 p6)), .val (.int (atF bs 1 p3 p4 p5 p6)), .val (.int (atF bs 2 p3 p4 p5 p6)), .val (.int (atF bs 3 p3 p4 p5 p6)), .val (.int (atF bs 4 p3 p4 p5 p6)), .val (.int (atF bs 5 p3 p4 p5 p6)), .val (.int (atF bs 6 p3 p4 p5 p6)), .val (.int (atF bs 7 p3 p4 p5 p6)), .val (.int (atF bs 8 p3 p4 p5 p6)), .val (.int (atF bs 9 p3 p4 p5 p6)), .val (.int (atF bs 10 p3 p4 p5 p6)), .val (.int (atF bs 11 p3 p4 p5 p6))] [(.int (12 : Int32)), (.ref b126), (.ref b126)])) rfl (hb hby d2_513) rfl (by decide) (cap := 12) (by decide) (by decide) (by decide) (by decide)
              obtain ⟨b127, g127⟩ : ∃ z, z = h126.size := ⟨_, rfl⟩
              rw [← g127] at A127 st127
              refine Goes.of (st127) ?_
              have ne_a2_b127 : a2 ≠ b127 := Nat.ne_of_lt (Nat.lt_of_lt_of_le E2_126.lt (Nat.le_of_eq g127.symm))
              have ne_b2_b127 : b2 ≠ b127 := Nat.ne_of_lt (Nat.lt_of_lt_of_le V2_126.lt (Nat.le_of_eq g127.symm))
              have ne_b126_b127 : b126 ≠ b127 := Nat.ne_of_lt (Nat.lt_of_lt_of_le A126.lt (Nat.le_of_eq g127.symm))
              have g_b127 : n0 ≤ b127 := Nat.le_trans Z126 (Nat.le_of_eq g127.symm)
              have sz_b127 : h0.size ≤ b127 := Nat.le_trans K126.1 (Nat.le_of_eq g127.symm)
              have sf_b127 : Safe Z EL0 s.vm h126 b127 := Safe.new (Nat.le_of_eq g127.symm)
              have sf_b126_127 := Safe.ext E127 CR126.1 sf_b126_126
              have sf_b127_127 := Safe.ext E127 CR126.1 sf_b127
              have CR127 := CR126.trans (CHr.ext E127 CR126.1)
              have E2_126_127 : Exa Z h127 a2 "java/lang/String" := E2_126.ext E127
              have C2_126_127 : Fld Z h127 a2 "java/lang/String" "coder" "B" (.int (0 : Int32)) := C2_126.ext E127
              have W2v_126_127 : Fld Z h127 a2 "java/lang/String" "value" "[B" (.ref b2) := W2v_126.ext E127
              have V2_126_127 : AI Z h127 b2 .byte bs := V2_126.ext E127
              have Scs_126_127 : Sta Z h127 "java/lang/String" "COMPACT_STRINGS" "Z" (.int cz) := Scs_126.ext E127
              have Sf_126_127 : Sta Z h127 "jdk/internal/util/Preconditions" "SIOOBE_FORMATTER" "Ljava/util/function/BiFunction;" fm := Sf_126.ext E127
              have A126_127 : Exa Z h127 b126 "java/lang/String" := A126.ext E127
              have F_value_b126_127 : Fld Z h127 b126 "java/lang/String" "value" "[B" .null := F_value_b126.ext E127
              have F_coder_b126_127 : Fld Z h127 b126 "java/lang/String" "coder" "B" (.int (0 : Int32)) := F_coder_b126.ext E127
              have K127 : Keep h0 h127 [] := K126.ext E127
              have Z127 : n0 ≤ h127.size := Nat.le_trans Z126 E127.1
              have HK127 := Nat.le_trans HK126 E127.1
              have V_b127 : AI Z h127 b127 .char [(0 : Int32), (0 : Int32), (0 : Int32), (0 : Int32), (0 : Int32), (0 : Int32), (0 : Int32), (0 : Int32), (0 : Int32), (0 : Int32), (0 : Int32), (0 : Int32)] := AI.fresh (k := 12) (by simp) (rfl) A127
              show Goes p e below KK T127 (mkF m 515 #[.val (.int p1), .val (.ref a2), .val (.int p3), .val (.int p4), .val (.int p5), .val (.int p6), .val (.int (atF bs 0 p3 p4 p5 p6)), .val (.int (atF bs 1 p3 p4 p5 p6)), .val (.int (atF bs 2 p3 p4 p5 p6)), .val (.int (atF bs 3 p3 p4 p5 p6)), .val (.int (atF bs 4 p3 p4 p5 p6)), .val (.int (atF bs 5 p3 p4 p5 p6)), .val (.int (atF bs 6 p3 p4 p5 p6)), .val (.int (atF bs 7 p3 p4 p5 p6)), .val (.int (atF bs 8 p3 p4 p5 p6)), .val (.int (atF bs 9 p3 p4 p5 p6)), .val (.int (atF bs 10 p3 p4 p5 p6)), .val (.int (atF bs 11 p3 p4 p5 p6))] [(.ref b127), (.ref b126), (.ref b126)])
              refine Goes.of (fun t => XS.dup X127.here hx rfl (hb hby d2_515) rfl rfl) ?_
              show Goes p e below KK T127 (mkF m 516 #[.val (.int p1), .val (.ref a2), .val (.int p3), .val (.int p4), .val (.int p5), .val (.int p6), .val (.int (atF bs 0 p3 p4 p5 p6)), .val (.int (atF bs 1 p3 p4 p5 p6)), .val (.int (atF bs 2 p3 p4 p5 p6)), .val (.int (atF bs 3 p3 p4 p5 p6)), .val (.int (atF bs 4 p3 p4 p5 p6)), .val (.int (atF bs 5 p3 p4 p5 p6)), .val (.int (atF bs 6 p3 p4 p5 p6)), .val (.int (atF bs 7 p3 p4 p5 p6)), .val (.int (atF bs 8 p3 p4 p5 p6)), .val (.int (atF bs 9 p3 p4 p5 p6)), .val (.int (atF bs 10 p3 p4 p5 p6)), .val (.int (atF bs 11 p3 p4 p5 p6))] [(.ref b127), (.ref b127), (.ref b126), (.ref b126)])
              refine Goes.of (fun t => XS.iconst X127.here hx rfl (hb hby d2_516)) ?_
              show Goes p e below KK T127 (mkF m 517 #[.val (.int p1), .val (.ref a2), .val (.int p3), .val (.int p4), .val (.int p5), .val (.int p6), .val (.int (atF bs 0 p3 p4 p5 p6)), .val (.int (atF bs 1 p3 p4 p5 p6)), .val (.int (atF bs 2 p3 p4 p5 p6)), .val (.int (atF bs 3 p3 p4 p5 p6)), .val (.int (atF bs 4 p3 p4 p5 p6)), .val (.int (atF bs 5 p3 p4 p5 p6)), .val (.int (atF bs 6 p3 p4 p5 p6)), .val (.int (atF bs 7 p3 p4 p5 p6)), .val (.int (atF bs 8 p3 p4 p5 p6)), .val (.int (atF bs 9 p3 p4 p5 p6)), .val (.int (atF bs 10 p3 p4 p5 p6)), .val (.int (atF bs 11 p3 p4 p5 p6))] [(.int (0 : Int32)), (.ref b127), (.ref b127), (.ref b126), (.ref b126)])
              refine Goes.of (fun t => XS.iload X127.here hx rfl (hb hby d2_517) rfl) ?_
              show Goes p e below KK T127 (mkF m 519 #[.val (.int p1), .val (.ref a2), .val (.int p3), .val (.int p4), .val (.int p5), .val (.int p6), .val (.int (atF bs 0 p3 p4 p5 p6)), .val (.int (atF bs 1 p3 p4 p5 p6)), .val (.int (atF bs 2 p3 p4 p5 p6)), .val (.int (atF bs 3 p3 p4 p5 p6)), .val (.int (atF bs 4 p3 p4 p5 p6)), .val (.int (atF bs 5 p3 p4 p5 p6)), .val (.int (atF bs 6 p3 p4 p5 p6)), .val (.int (atF bs 7 p3 p4 p5 p6)), .val (.int (atF bs 8 p3 p4 p5 p6)), .val (.int (atF bs 9 p3 p4 p5 p6)), .val (.int (atF bs 10 p3 p4 p5 p6)), .val (.int (atF bs 11 p3 p4 p5 p6))] [(.int (atF bs 0 p3 p4 p5 p6)), (.int (0 : Int32)), (.ref b127), (.ref b127), (.ref b126), (.ref b126)])
              obtain ⟨T128, h128, X128, e128, W128, V128, st128⟩ := AI.castore X127 hx hZw e127 V_b127 (i := 0) (j := (0 : Int32)) (rfl) ((by simp)) (g := (mkF m 519 #[.val (.int p1), .val (.ref a2), .val (.int p3), .val (.int p4), .val (.int p5), .val (.int p6), .val (.int (atF bs 0 p3 p4 p5 p6)), .val (.int (atF bs 1 p3 p4 p5 p6)), .val (.int (atF bs 2 p3 p4 p5 p6)), .val (.int (atF bs 3 p3 p4 p5 p6)), .val (.int (atF bs 4 p3 p4 p5 p6)), .val (.int (atF bs 5 p3 p4 p5 p6)), .val (.int (atF bs 6 p3 p4 p5 p6)), .val (.int (atF bs 7 p3 p4 p5 p6)), .val (.int (atF bs 8 p3 p4 p5 p6)), .val (.int (atF bs 9 p3 p4 p5 p6)), .val (.int (atF bs 10 p3 p4 p5 p6)), .val (.int (atF bs 11 p3 p4 p5 p6))] [(.int (atF bs 0 p3 p4 p5 p6)), (.int (0 : Int32)), (.ref b127), (.ref b127), (.ref b126), (.ref b126)])) rfl rfl (hb hby d2_519)
              refine Goes.of (st128) ?_
              have sf_b126_128 := Safe.wr W128 sf_b127_127 CR127.1 sf_b126_127
              have sf_b127_128 := Safe.wr W128 sf_b127_127 CR127.1 sf_b127_127
              have CR128 := CR127.trans (CHr.wr W128 sf_b127_127 CR127.1)
              have E2_126_127_128 : Exa Z h128 a2 "java/lang/String" := E2_126_127.wr W128
              have C2_126_127_128 : Fld Z h128 a2 "java/lang/String" "coder" "B" (.int (0 : Int32)) := C2_126_127.other W128 (Or.inl ne_a2_b127)
              have W2v_126_127_128 : Fld Z h128 a2 "java/lang/String" "value" "[B" (.ref b2) := W2v_126_127.other W128 (Or.inl ne_a2_b127)
              have V2_126_127_128 : AI Z h128 b2 .byte bs := V2_126_127.other W128 ne_b2_b127
              have Scs_126_127_128 : Sta Z h128 "java/lang/String" "COMPACT_STRINGS" "Z" (.int cz) := Scs_126_127.wr W128
              have Sf_126_127_128 : Sta Z h128 "jdk/internal/util/Preconditions" "SIOOBE_FORMATTER" "Ljava/util/function/BiFunction;" fm := Sf_126_127.wr W128
              have A126_127_128 : Exa Z h128 b126 "java/lang/String" := A126_127.wr W128
              have F_value_b126_127_128 : Fld Z h128 b126 "java/lang/String" "value" "[B" .null := F_value_b126_127.other W128 (Or.inl ne_b126_b127)
              have F_coder_b126_127_128 : Fld Z h128 b126 "java/lang/String" "coder" "B" (.int (0 : Int32)) := F_coder_b126_127.other W128 (Or.inl ne_b126_b127)
              have K128 : Keep h0 h128 [] := K127.wr W128 (Or.inr sz_b127)
              have Z128 : n0 ≤ h128.size := Nat.le_trans Z127 (Keep.of_wr W128).1
              have HK128 := Nat.le_trans HK127 (Keep.of_wr W128).1
              have N128 := Fr.snoc X128 N49 g_b127
              have V_b127_128 : AI Z h128 b127 .char [(nar .char (atF bs 0 p3 p4 p5 p6)), (0 : Int32), (0 : Int32), (0 : Int32), (0 : Int32), (0 : Int32), (0 : Int32), (0 : Int32), (0 : Int32), (0 : Int32), (0 : Int32), (0 : Int32)] := V128
              show Goes p e below KK T128 (mkF m 520 #[.val (.int p1), .val (.ref a2), .val (.int p3), .val (.int p4), .val (.int p5), .val (.int p6), .val (.int (atF bs 0 p3 p4 p5 p6)), .val (.int (atF bs 1 p3 p4 p5 p6)), .val (.int (atF bs 2 p3 p4 p5 p6)), .val (.int (atF bs 3 p3 p4 p5 p6)), .val (.int (atF bs 4 p3 p4 p5 p6)), .val (.int (atF bs 5 p3 p4 p5 p6)), .val (.int (atF bs 6 p3 p4 p5 p6)), .val (.int (atF bs 7 p3 p4 p5 p6)), .val (.int (atF bs 8 p3 p4 p5 p6)), .val (.int (atF bs 9 p3 p4 p5 p6)), .val (.int (atF bs 10 p3 p4 p5 p6)), .val (.int (atF bs 11 p3 p4 p5 p6))] [(.ref b127), (.ref b126), (.ref b126)])
              refine Goes.of (fun t => XS.dup X128.here hx rfl (hb hby d2_520) rfl rfl) ?_
              show Goes p e below KK T128 (mkF m 521 #[.val (.int p1), .val (.ref a2), .val (.int p3), .val (.int p4), .val (.int p5), .val (.int p6), .val (.int (atF bs 0 p3 p4 p5 p6)), .val (.int (atF bs 1 p3 p4 p5 p6)), .val (.int (atF bs 2 p3 p4 p5 p6)), .val (.int (atF bs 3 p3 p4 p5 p6)), .val (.int (atF bs 4 p3 p4 p5 p6)), .val (.int (atF bs 5 p3 p4 p5 p6)), .val (.int (atF bs 6 p3 p4 p5 p6)), .val (.int (atF bs 7 p3 p4 p5 p6)), .val (.int (atF bs 8 p3 p4 p5 p6)), .val (.int (atF bs 9 p3 p4 p5 p6)), .val (.int (atF bs 10 p3 p4 p5 p6)), .val (.int (atF bs 11 p3 p4 p5 p6))] [(.ref b127), (.ref b127), (.ref b126), (.ref b126)])
              refine Goes.of (fun t => XS.iconst X128.here hx rfl (hb hby d2_521)) ?_
              show Goes p e below KK T128 (mkF m 522 #[.val (.int p1), .val (.ref a2), .val (.int p3), .val (.int p4), .val (.int p5), .val (.int p6), .val (.int (atF bs 0 p3 p4 p5 p6)), .val (.int (atF bs 1 p3 p4 p5 p6)), .val (.int (atF bs 2 p3 p4 p5 p6)), .val (.int (atF bs 3 p3 p4 p5 p6)), .val (.int (atF bs 4 p3 p4 p5 p6)), .val (.int (atF bs 5 p3 p4 p5 p6)), .val (.int (atF bs 6 p3 p4 p5 p6)), .val (.int (atF bs 7 p3 p4 p5 p6)), .val (.int (atF bs 8 p3 p4 p5 p6)), .val (.int (atF bs 9 p3 p4 p5 p6)), .val (.int (atF bs 10 p3 p4 p5 p6)), .val (.int (atF bs 11 p3 p4 p5 p6))] [(.int (1 : Int32)), (.ref b127), (.ref b127), (.ref b126), (.ref b126)])
              refine Goes.of (fun t => XS.iload X128.here hx rfl (hb hby d2_522) rfl) ?_
              show Goes p e below KK T128 (mkF m 524 #[.val (.int p1), .val (.ref a2), .val (.int p3), .val (.int p4), .val (.int p5), .val (.int p6), .val (.int (atF bs 0 p3 p4 p5 p6)), .val (.int (atF bs 1 p3 p4 p5 p6)), .val (.int (atF bs 2 p3 p4 p5 p6)), .val (.int (atF bs 3 p3 p4 p5 p6)), .val (.int (atF bs 4 p3 p4 p5 p6)), .val (.int (atF bs 5 p3 p4 p5 p6)), .val (.int (atF bs 6 p3 p4 p5 p6)), .val (.int (atF bs 7 p3 p4 p5 p6)), .val (.int (atF bs 8 p3 p4 p5 p6)), .val (.int (atF bs 9 p3 p4 p5 p6)), .val (.int (atF bs 10 p3 p4 p5 p6)), .val (.int (atF bs 11 p3 p4 p5 p6))] [(.int (atF bs 1 p3 p4 p5 p6)), (.int (1 : Int32)), (.ref b127), (.ref b127), (.ref b126), (.ref b126)])
              obtain ⟨T129, h129, X129, e129, W129, V129, st129⟩ := AI.castore X128 hx hZw e128 V_b127_128 (i := 1) (j := (1 : Int32)) (rfl) ((by simp)) (g := (mkF m 524 #[.val (.int p1), .val (.ref a2), .val (.int p3), .val (.int p4), .val (.int p5), .val (.int p6), .val (.int (atF bs 0 p3 p4 p5 p6)), .val (.int (atF bs 1 p3 p4 p5 p6)), .val (.int (atF bs 2 p3 p4 p5 p6)), .val (.int (atF bs 3 p3 p4 p5 p6)), .val (.int (atF bs 4 p3 p4 p5 p6)), .val (.int (atF bs 5 p3 p4 p5 p6)), .val (.int (atF bs 6 p3 p4 p5 p6)), .val (.int (atF bs 7 p3 p4 p5 p6)), .val (.int (atF bs 8 p3 p4 p5 p6)), .val (.int (atF bs 9 p3 p4 p5 p6)), .val (.int (atF bs 10 p3 p4 p5 p6)), .val (.int (atF bs 11 p3 p4 p5 p6))] [(.int (atF bs 1 p3 p4 p5 p6)), (.int (1 : Int32)), (.ref b127), (.ref b127), (.ref b126), (.ref b126)])) rfl rfl (hb hby d2_524)
              refine Goes.of (st129) ?_
              have sf_b126_129 := Safe.wr W129 sf_b127_128 CR128.1 sf_b126_128
              have sf_b127_129 := Safe.wr W129 sf_b127_128 CR128.1 sf_b127_128
              have CR129 := CR128.trans (CHr.wr W129 sf_b127_128 CR128.1)
              have E2_126_127_128_129 : Exa Z h129 a2 "java/lang/String" := E2_126_127_128.wr W129
              have C2_126_127_128_129 : Fld Z h129 a2 "java/lang/String" "coder" "B" (.int (0 : Int32)) := C2_126_127_128.other W129 (Or.inl ne_a2_b127)
              have W2v_126_127_128_129 : Fld Z h129 a2 "java/lang/String" "value" "[B" (.ref b2) := W2v_126_127_128.other W129 (Or.inl ne_a2_b127)
              have V2_126_127_128_129 : AI Z h129 b2 .byte bs := V2_126_127_128.other W129 ne_b2_b127
              have Scs_126_127_128_129 : Sta Z h129 "java/lang/String" "COMPACT_STRINGS" "Z" (.int cz) := Scs_126_127_128.wr W129
              have Sf_126_127_128_129 : Sta Z h129 "jdk/internal/util/Preconditions" "SIOOBE_FORMATTER" "Ljava/util/function/BiFunction;" fm := Sf_126_127_128.wr W129
              have A126_127_128_129 : Exa Z h129 b126 "java/lang/String" := A126_127_128.wr W129
              have F_value_b126_127_128_129 : Fld Z h129 b126 "java/lang/String" "value" "[B" .null := F_value_b126_127_128.other W129 (Or.inl ne_b126_b127)
              have F_coder_b126_127_128_129 : Fld Z h129 b126 "java/lang/String" "coder" "B" (.int (0 : Int32)) := F_coder_b126_127_128.other W129 (Or.inl ne_b126_b127)
              have K129 : Keep h0 h129 [] := K128.wr W129 (Or.inr sz_b127)
              have Z129 : n0 ≤ h129.size := Nat.le_trans Z128 (Keep.of_wr W129).1
              have HK129 := Nat.le_trans HK128 (Keep.of_wr W129).1
              have N129 := Fr.snoc X129 N128 g_b127
              have V_b127_129 : AI Z h129 b127 .char [(nar .char (atF bs 0 p3 p4 p5 p6)), (nar .char (atF bs 1 p3 p4 p5 p6)), (0 : Int32), (0 : Int32), (0 : Int32), (0 : Int32), (0 : Int32), (0 : Int32), (0 : Int32), (0 : Int32), (0 : Int32), (0 : Int32)] := V129
              show Goes p e below KK T129 (mkF m 525 #[.val (.int p1), .val (.ref a2), .val (.int p3), .val (.int p4), .val (.int p5), .val (.int p6), .val (.int (atF bs 0 p3 p4 p5 p6)), .val (.int (atF bs 1 p3 p4 p5 p6)), .val (.int (atF bs 2 p3 p4 p5 p6)), .val (.int (atF bs 3 p3 p4 p5 p6)), .val (.int (atF bs 4 p3 p4 p5 p6)), .val (.int (atF bs 5 p3 p4 p5 p6)), .val (.int (atF bs 6 p3 p4 p5 p6)), .val (.int (atF bs 7 p3 p4 p5 p6)), .val (.int (atF bs 8 p3 p4 p5 p6)), .val (.int (atF bs 9 p3 p4 p5 p6)), .val (.int (atF bs 10 p3 p4 p5 p6)), .val (.int (atF bs 11 p3 p4 p5 p6))] [(.ref b127), (.ref b126), (.ref b126)])
              refine Goes.of (fun t => XS.dup X129.here hx rfl (hb hby d2_525) rfl rfl) ?_
              show Goes p e below KK T129 (mkF m 526 #[.val (.int p1), .val (.ref a2), .val (.int p3), .val (.int p4), .val (.int p5), .val (.int p6), .val (.int (atF bs 0 p3 p4 p5 p6)), .val (.int (atF bs 1 p3 p4 p5 p6)), .val (.int (atF bs 2 p3 p4 p5 p6)), .val (.int (atF bs 3 p3 p4 p5 p6)), .val (.int (atF bs 4 p3 p4 p5 p6)), .val (.int (atF bs 5 p3 p4 p5 p6)), .val (.int (atF bs 6 p3 p4 p5 p6)), .val (.int (atF bs 7 p3 p4 p5 p6)), .val (.int (atF bs 8 p3 p4 p5 p6)), .val (.int (atF bs 9 p3 p4 p5 p6)), .val (.int (atF bs 10 p3 p4 p5 p6)), .val (.int (atF bs 11 p3 p4 p5 p6))] [(.ref b127), (.ref b127), (.ref b126), (.ref b126)])
              refine Goes.of (fun t => XS.iconst X129.here hx rfl (hb hby d2_526)) ?_
              show Goes p e below KK T129 (mkF m 527 #[.val (.int p1), .val (.ref a2), .val (.int p3), .val (.int p4), .val (.int p5), .val (.int p6), .val (.int (atF bs 0 p3 p4 p5 p6)), .val (.int (atF bs 1 p3 p4 p5 p6)), .val (.int (atF bs 2 p3 p4 p5 p6)), .val (.int (atF bs 3 p3 p4 p5 p6)), .val (.int (atF bs 4 p3 p4 p5 p6)), .val (.int (atF bs 5 p3 p4 p5 p6)), .val (.int (atF bs 6 p3 p4 p5 p6)), .val (.int (atF bs 7 p3 p4 p5 p6)), .val (.int (atF bs 8 p3 p4 p5 p6)), .val (.int (atF bs 9 p3 p4 p5 p6)), .val (.int (atF bs 10 p3 p4 p5 p6)), .val (.int (atF bs 11 p3 p4 p5 p6))] [(.int (2 : Int32)), (.ref b127), (.ref b127), (.ref b126), (.ref b126)])
              refine Goes.of (fun t => XS.iload X129.here hx rfl (hb hby d2_527) rfl) ?_
              show Goes p e below KK T129 (mkF m 529 #[.val (.int p1), .val (.ref a2), .val (.int p3), .val (.int p4), .val (.int p5), .val (.int p6), .val (.int (atF bs 0 p3 p4 p5 p6)), .val (.int (atF bs 1 p3 p4 p5 p6)), .val (.int (atF bs 2 p3 p4 p5 p6)), .val (.int (atF bs 3 p3 p4 p5 p6)), .val (.int (atF bs 4 p3 p4 p5 p6)), .val (.int (atF bs 5 p3 p4 p5 p6)), .val (.int (atF bs 6 p3 p4 p5 p6)), .val (.int (atF bs 7 p3 p4 p5 p6)), .val (.int (atF bs 8 p3 p4 p5 p6)), .val (.int (atF bs 9 p3 p4 p5 p6)), .val (.int (atF bs 10 p3 p4 p5 p6)), .val (.int (atF bs 11 p3 p4 p5 p6))] [(.int (atF bs 2 p3 p4 p5 p6)), (.int (2 : Int32)), (.ref b127), (.ref b127), (.ref b126), (.ref b126)])
              obtain ⟨T130, h130, X130, e130, W130, V130, st130⟩ := AI.castore X129 hx hZw e129 V_b127_129 (i := 2) (j := (2 : Int32)) (rfl) ((by simp)) (g := (mkF m 529 #[.val (.int p1), .val (.ref a2), .val (.int p3), .val (.int p4), .val (.int p5), .val (.int p6), .val (.int (atF bs 0 p3 p4 p5 p6)), .val (.int (atF bs 1 p3 p4 p5 p6)), .val (.int (atF bs 2 p3 p4 p5 p6)), .val (.int (atF bs 3 p3 p4 p5 p6)), .val (.int (atF bs 4 p3 p4 p5 p6)), .val (.int (atF bs 5 p3 p4 p5 p6)), .val (.int (atF bs 6 p3 p4 p5 p6)), .val (.int (atF bs 7 p3 p4 p5 p6)), .val (.int (atF bs 8 p3 p4 p5 p6)), .val (.int (atF bs 9 p3 p4 p5 p6)), .val (.int (atF bs 10 p3 p4 p5 p6)), .val (.int (atF bs 11 p3 p4 p5 p6))] [(.int (atF bs 2 p3 p4 p5 p6)), (.int (2 : Int32)), (.ref b127), (.ref b127), (.ref b126), (.ref b126)])) rfl rfl (hb hby d2_529)
              refine Goes.of (st130) ?_
              have sf_b126_130 := Safe.wr W130 sf_b127_129 CR129.1 sf_b126_129
              have sf_b127_130 := Safe.wr W130 sf_b127_129 CR129.1 sf_b127_129
              have CR130 := CR129.trans (CHr.wr W130 sf_b127_129 CR129.1)
              have E2_126_127_128_129_130 : Exa Z h130 a2 "java/lang/String" := E2_126_127_128_129.wr W130
              have C2_126_127_128_129_130 : Fld Z h130 a2 "java/lang/String" "coder" "B" (.int (0 : Int32)) := C2_126_127_128_129.other W130 (Or.inl ne_a2_b127)
              have W2v_126_127_128_129_130 : Fld Z h130 a2 "java/lang/String" "value" "[B" (.ref b2) := W2v_126_127_128_129.other W130 (Or.inl ne_a2_b127)
              have V2_126_127_128_129_130 : AI Z h130 b2 .byte bs := V2_126_127_128_129.other W130 ne_b2_b127
              have Scs_126_127_128_129_130 : Sta Z h130 "java/lang/String" "COMPACT_STRINGS" "Z" (.int cz) := Scs_126_127_128_129.wr W130
              have Sf_126_127_128_129_130 : Sta Z h130 "jdk/internal/util/Preconditions" "SIOOBE_FORMATTER" "Ljava/util/function/BiFunction;" fm := Sf_126_127_128_129.wr W130
              have A126_127_128_129_130 : Exa Z h130 b126 "java/lang/String" := A126_127_128_129.wr W130
              have F_value_b126_127_128_129_130 : Fld Z h130 b126 "java/lang/String" "value" "[B" .null := F_value_b126_127_128_129.other W130 (Or.inl ne_b126_b127)
              have F_coder_b126_127_128_129_130 : Fld Z h130 b126 "java/lang/String" "coder" "B" (.int (0 : Int32)) := F_coder_b126_127_128_129.other W130 (Or.inl ne_b126_b127)
              have K130 : Keep h0 h130 [] := K129.wr W130 (Or.inr sz_b127)
              have Z130 : n0 ≤ h130.size := Nat.le_trans Z129 (Keep.of_wr W130).1
              have HK130 := Nat.le_trans HK129 (Keep.of_wr W130).1
              have N130 := Fr.snoc X130 N129 g_b127
              have V_b127_130 : AI Z h130 b127 .char [(nar .char (atF bs 0 p3 p4 p5 p6)), (nar .char (atF bs 1 p3 p4 p5 p6)), (nar .char (atF bs 2 p3 p4 p5 p6)), (0 : Int32), (0 : Int32), (0 : Int32), (0 : Int32), (0 : Int32), (0 : Int32), (0 : Int32), (0 : Int32), (0 : Int32)] := V130
              show Goes p e below KK T130 (mkF m 530 #[.val (.int p1), .val (.ref a2), .val (.int p3), .val (.int p4), .val (.int p5), .val (.int p6), .val (.int (atF bs 0 p3 p4 p5 p6)), .val (.int (atF bs 1 p3 p4 p5 p6)), .val (.int (atF bs 2 p3 p4 p5 p6)), .val (.int (atF bs 3 p3 p4 p5 p6)), .val (.int (atF bs 4 p3 p4 p5 p6)), .val (.int (atF bs 5 p3 p4 p5 p6)), .val (.int (atF bs 6 p3 p4 p5 p6)), .val (.int (atF bs 7 p3 p4 p5 p6)), .val (.int (atF bs 8 p3 p4 p5 p6)), .val (.int (atF bs 9 p3 p4 p5 p6)), .val (.int (atF bs 10 p3 p4 p5 p6)), .val (.int (atF bs 11 p3 p4 p5 p6))] [(.ref b127), (.ref b126), (.ref b126)])
              refine Goes.of (fun t => XS.dup X130.here hx rfl (hb hby d2_530) rfl rfl) ?_
              show Goes p e below KK T130 (mkF m 531 #[.val (.int p1), .val (.ref a2), .val (.int p3), .val (.int p4), .val (.int p5), .val (.int p6), .val (.int (atF bs 0 p3 p4 p5 p6)), .val (.int (atF bs 1 p3 p4 p5 p6)), .val (.int (atF bs 2 p3 p4 p5 p6)), .val (.int (atF bs 3 p3 p4 p5 p6)), .val (.int (atF bs 4 p3 p4 p5 p6)), .val (.int (atF bs 5 p3 p4 p5 p6)), .val (.int (atF bs 6 p3 p4 p5 p6)), .val (.int (atF bs 7 p3 p4 p5 p6)), .val (.int (atF bs 8 p3 p4 p5 p6)), .val (.int (atF bs 9 p3 p4 p5 p6)), .val (.int (atF bs 10 p3 p4 p5 p6)), .val (.int (atF bs 11 p3 p4 p5 p6))] [(.ref b127), (.ref b127), (.ref b126), (.ref b126)])
              refine Goes.of (fun t => XS.iconst X130.here hx rfl (hb hby d2_531)) ?_
              show Goes p e below KK T130 (mkF m 532 #[.val (.int p1), .val (.ref a2), .val (.int p3), .val (.int p4), .val (.int p5), .val (.int p6), .val (.int (atF bs 0 p3 p4 p5 p6)), .val (.int (atF bs 1 p3 p4 p5 p6)), .val (.int (atF bs 2 p3 p4 p5 p6)), .val (.int (atF bs 3 p3 p4 p5 p6)), .val (.int (atF bs 4 p3 p4 p5 p6)), .val (.int (atF bs 5 p3 p4 p5 p6)), .val (.int (atF bs 6 p3 p4 p5 p6)), .val (.int (atF bs 7 p3 p4 p5 p6)), .val (.int (atF bs 8 p3 p4 p5 p6)), .val (.int (atF bs 9 p3 p4 p5 p6)), .val (.int (atF bs 10 p3 p4 p5 p6)), .val (.int (atF bs 11 p3 p4 p5 p6))] [(.int (3 : Int32)), (.ref b127), (.ref b127), (.ref b126), (.ref b126)])
              refine Goes.of (fun t => XS.iload X130.here hx rfl (hb hby d2_532) rfl) ?_
              show Goes p e below KK T130 (mkF m 534 #[.val (.int p1), .val (.ref a2), .val (.int p3), .val (.int p4), .val (.int p5), .val (.int p6), .val (.int (atF bs 0 p3 p4 p5 p6)), .val (.int (atF bs 1 p3 p4 p5 p6)), .val (.int (atF bs 2 p3 p4 p5 p6)), .val (.int (atF bs 3 p3 p4 p5 p6)), .val (.int (atF bs 4 p3 p4 p5 p6)), .val (.int (atF bs 5 p3 p4 p5 p6)), .val (.int (atF bs 6 p3 p4 p5 p6)), .val (.int (atF bs 7 p3 p4 p5 p6)), .val (.int (atF bs 8 p3 p4 p5 p6)), .val (.int (atF bs 9 p3 p4 p5 p6)), .val (.int (atF bs 10 p3 p4 p5 p6)), .val (.int (atF bs 11 p3 p4 p5 p6))] [(.int (atF bs 3 p3 p4 p5 p6)), (.int (3 : Int32)), (.ref b127), (.ref b127), (.ref b126), (.ref b126)])
              obtain ⟨T131, h131, X131, e131, W131, V131, st131⟩ := AI.castore X130 hx hZw e130 V_b127_130 (i := 3) (j := (3 : Int32)) (rfl) ((by simp)) (g := (mkF m 534 #[.val (.int p1), .val (.ref a2), .val (.int p3), .val (.int p4), .val (.int p5), .val (.int p6), .val (.int (atF bs 0 p3 p4 p5 p6)), .val (.int (atF bs 1 p3 p4 p5 p6)), .val (.int (atF bs 2 p3 p4 p5 p6)), .val (.int (atF bs 3 p3 p4 p5 p6)), .val (.int (atF bs 4 p3 p4 p5 p6)), .val (.int (atF bs 5 p3 p4 p5 p6)), .val (.int (atF bs 6 p3 p4 p5 p6)), .val (.int (atF bs 7 p3 p4 p5 p6)), .val (.int (atF bs 8 p3 p4 p5 p6)), .val (.int (atF bs 9 p3 p4 p5 p6)), .val (.int (atF bs 10 p3 p4 p5 p6)), .val (.int (atF bs 11 p3 p4 p5 p6))] [(.int (atF bs 3 p3 p4 p5 p6)), (.int (3 : Int32)), (.ref b127), (.ref b127), (.ref b126), (.ref b126)])) rfl rfl (hb hby d2_534)
              refine Goes.of (st131) ?_
              have sf_b126_131 := Safe.wr W131 sf_b127_130 CR130.1 sf_b126_130
              have sf_b127_131 := Safe.wr W131 sf_b127_130 CR130.1 sf_b127_130
              have CR131 := CR130.trans (CHr.wr W131 sf_b127_130 CR130.1)
              have E2_126_127_128_129_130_131 : Exa Z h131 a2 "java/lang/String" := E2_126_127_128_129_130.wr W131
              have C2_126_127_128_129_130_131 : Fld Z h131 a2 "java/lang/String" "coder" "B" (.int (0 : Int32)) := C2_126_127_128_129_130.other W131 (Or.inl ne_a2_b127)
              have W2v_126_127_128_129_130_131 : Fld Z h131 a2 "java/lang/String" "value" "[B" (.ref b2) := W2v_126_127_128_129_130.other W131 (Or.inl ne_a2_b127)
              have V2_126_127_128_129_130_131 : AI Z h131 b2 .byte bs := V2_126_127_128_129_130.other W131 ne_b2_b127
              have Scs_126_127_128_129_130_131 : Sta Z h131 "java/lang/String" "COMPACT_STRINGS" "Z" (.int cz) := Scs_126_127_128_129_130.wr W131
              have Sf_126_127_128_129_130_131 : Sta Z h131 "jdk/internal/util/Preconditions" "SIOOBE_FORMATTER" "Ljava/util/function/BiFunction;" fm := Sf_126_127_128_129_130.wr W131
              have A126_127_128_129_130_131 : Exa Z h131 b126 "java/lang/String" := A126_127_128_129_130.wr W131
              have F_value_b126_127_128_129_130_131 : Fld Z h131 b126 "java/lang/String" "value" "[B" .null := F_value_b126_127_128_129_130.other W131 (Or.inl ne_b126_b127)
              have F_coder_b126_127_128_129_130_131 : Fld Z h131 b126 "java/lang/String" "coder" "B" (.int (0 : Int32)) := F_coder_b126_127_128_129_130.other W131 (Or.inl ne_b126_b127)
              have K131 : Keep h0 h131 [] := K130.wr W131 (Or.inr sz_b127)
              have Z131 : n0 ≤ h131.size := Nat.le_trans Z130 (Keep.of_wr W131).1
              have HK131 := Nat.le_trans HK130 (Keep.of_wr W131).1
              have N131 := Fr.snoc X131 N130 g_b127
              have V_b127_131 : AI Z h131 b127 .char [(nar .char (atF bs 0 p3 p4 p5 p6)), (nar .char (atF bs 1 p3 p4 p5 p6)), (nar .char (atF bs 2 p3 p4 p5 p6)), (nar .char (atF bs 3 p3 p4 p5 p6)), (0 : Int32), (0 : Int32), (0 : Int32), (0 : Int32), (0 : Int32), (0 : Int32), (0 : Int32), (0 : Int32)] := V131
              show Goes p e below KK T131 (mkF m 535 #[.val (.int p1), .val (.ref a2), .val (.int p3), .val (.int p4), .val (.int p5), .val (.int p6), .val (.int (atF bs 0 p3 p4 p5 p6)), .val (.int (atF bs 1 p3 p4 p5 p6)), .val (.int (atF bs 2 p3 p4 p5 p6)), .val (.int (atF bs 3 p3 p4 p5 p6)), .val (.int (atF bs 4 p3 p4 p5 p6)), .val (.int (atF bs 5 p3 p4 p5 p6)), .val (.int (atF bs 6 p3 p4 p5 p6)), .val (.int (atF bs 7 p3 p4 p5 p6)), .val (.int (atF bs 8 p3 p4 p5 p6)), .val (.int (atF bs 9 p3 p4 p5 p6)), .val (.int (atF bs 10 p3 p4 p5 p6)), .val (.int (atF bs 11 p3 p4 p5 p6))] [(.ref b127), (.ref b126), (.ref b126)])
              refine Goes.of (fun t => XS.dup X131.here hx rfl (hb hby d2_535) rfl rfl) ?_
              show Goes p e below KK T131 (mkF m 536 #[.val (.int p1), .val (.ref a2), .val (.int p3), .val (.int p4), .val (.int p5), .val (.int p6), .val (.int (atF bs 0 p3 p4 p5 p6)), .val (.int (atF bs 1 p3 p4 p5 p6)), .val (.int (atF bs 2 p3 p4 p5 p6)), .val (.int (atF bs 3 p3 p4 p5 p6)), .val (.int (atF bs 4 p3 p4 p5 p6)), .val (.int (atF bs 5 p3 p4 p5 p6)), .val (.int (atF bs 6 p3 p4 p5 p6)), .val (.int (atF bs 7 p3 p4 p5 p6)), .val (.int (atF bs 8 p3 p4 p5 p6)), .val (.int (atF bs 9 p3 p4 p5 p6)), .val (.int (atF bs 10 p3 p4 p5 p6)), .val (.int (atF bs 11 p3 p4 p5 p6))] [(.ref b127), (.ref b127), (.ref b126), (.ref b126)])
              refine Goes.of (fun t => XS.iconst X131.here hx rfl (hb hby d2_536)) ?_
              show Goes p e below KK T131 (mkF m 537 #[.val (.int p1), .val (.ref a2), .val (.int p3), .val (.int p4), .val (.int p5), .val (.int p6), .val (.int (atF bs 0 p3 p4 p5 p6)), .val (.int (atF bs 1 p3 p4 p5 p6)), .val (.int (atF bs 2 p3 p4 p5 p6)), .val (.int (atF bs 3 p3 p4 p5 p6)), .val (.int (atF bs 4 p3 p4 p5 p6)), .val (.int (atF bs 5 p3 p4 p5 p6)), .val (.int (atF bs 6 p3 p4 p5 p6)), .val (.int (atF bs 7 p3 p4 p5 p6)), .val (.int (atF bs 8 p3 p4 p5 p6)), .val (.int (atF bs 9 p3 p4 p5 p6)), .val (.int (atF bs 10 p3 p4 p5 p6)), .val (.int (atF bs 11 p3 p4 p5 p6))] [(.int (4 : Int32)), (.ref b127), (.ref b127), (.ref b126), (.ref b126)])
              refine Goes.of (fun t => XS.iload X131.here hx rfl (hb hby d2_537) rfl) ?_
              show Goes p e below KK T131 (mkF m 539 #[.val (.int p1), .val (.ref a2), .val (.int p3), .val (.int p4), .val (.int p5), .val (.int p6), .val (.int (atF bs 0 p3 p4 p5 p6)), .val (.int (atF bs 1 p3 p4 p5 p6)), .val (.int (atF bs 2 p3 p4 p5 p6)), .val (.int (atF bs 3 p3 p4 p5 p6)), .val (.int (atF bs 4 p3 p4 p5 p6)), .val (.int (atF bs 5 p3 p4 p5 p6)), .val (.int (atF bs 6 p3 p4 p5 p6)), .val (.int (atF bs 7 p3 p4 p5 p6)), .val (.int (atF bs 8 p3 p4 p5 p6)), .val (.int (atF bs 9 p3 p4 p5 p6)), .val (.int (atF bs 10 p3 p4 p5 p6)), .val (.int (atF bs 11 p3 p4 p5 p6))] [(.int (atF bs 4 p3 p4 p5 p6)), (.int (4 : Int32)), (.ref b127), (.ref b127), (.ref b126), (.ref b126)])
              obtain ⟨T132, h132, X132, e132, W132, V132, st132⟩ := AI.castore X131 hx hZw e131 V_b127_131 (i := 4) (j := (4 : Int32)) (rfl) ((by simp)) (g := (mkF m 539 #[.val (.int p1), .val (.ref a2), .val (.int p3), .val (.int p4), .val (.int p5), .val (.int p6), .val (.int (atF bs 0 p3 p4 p5 p6)), .val (.int (atF bs 1 p3 p4 p5 p6)), .val (.int (atF bs 2 p3 p4 p5 p6)), .val (.int (atF bs 3 p3 p4 p5 p6)), .val (.int (atF bs 4 p3 p4 p5 p6)), .val (.int (atF bs 5 p3 p4 p5 p6)), .val (.int (atF bs 6 p3 p4 p5 p6)), .val (.int (atF bs 7 p3 p4 p5 p6)), .val (.int (atF bs 8 p3 p4 p5 p6)), .val (.int (atF bs 9 p3 p4 p5 p6)), .val (.int (atF bs 10 p3 p4 p5 p6)), .val (.int (atF bs 11 p3 p4 p5 p6))] [(.int (atF bs 4 p3 p4 p5 p6)), (.int (4 : Int32)), (.ref b127), (.ref b127), (.ref b126), (.ref b126)])) rfl rfl (hb hby d2_539)
              refine Goes.of (st132) ?_
              have sf_b126_132 := Safe.wr W132 sf_b127_131 CR131.1 sf_b126_131
              have sf_b127_132 := Safe.wr W132 sf_b127_131 CR131.1 sf_b127_131
              have CR132 := CR131.trans (CHr.wr W132 sf_b127_131 CR131.1)
              have E2_126_127_128_129_130_131_132 : Exa Z h132 a2 "java/lang/String" := E2_126_127_128_129_130_131.wr W132
              have C2_126_127_128_129_130_131_132 : Fld Z h132 a2 "java/lang/String" "coder" "B" (.int (0 : Int32)) := C2_126_127_128_129_130_131.other W132 (Or.inl ne_a2_b127)
              have W2v_126_127_128_129_130_131_132 : Fld Z h132 a2 "java/lang/String" "value" "[B" (.ref b2) := W2v_126_127_128_129_130_131.other W132 (Or.inl ne_a2_b127)
              have V2_126_127_128_129_130_131_132 : AI Z h132 b2 .byte bs := V2_126_127_128_129_130_131.other W132 ne_b2_b127
              have Scs_126_127_128_129_130_131_132 : Sta Z h132 "java/lang/String" "COMPACT_STRINGS" "Z" (.int cz) := Scs_126_127_128_129_130_131.wr W132
              have Sf_126_127_128_129_130_131_132 : Sta Z h132 "jdk/internal/util/Preconditions" "SIOOBE_FORMATTER" "Ljava/util/function/BiFunction;" fm := Sf_126_127_128_129_130_131.wr W132
              have A126_127_128_129_130_131_132 : Exa Z h132 b126 "java/lang/String" := A126_127_128_129_130_131.wr W132
              have F_value_b126_127_128_129_130_131_132 : Fld Z h132 b126 "java/lang/String" "value" "[B" .null := F_value_b126_127_128_129_130_131.other W132 (Or.inl ne_b126_b127)
              have F_coder_b126_127_128_129_130_131_132 : Fld Z h132 b126 "java/lang/String" "coder" "B" (.int (0 : Int32)) := F_coder_b126_127_128_129_130_131.other W132 (Or.inl ne_b126_b127)
              have K132 : Keep h0 h132 [] := K131.wr W132 (Or.inr sz_b127)
              have Z132 : n0 ≤ h132.size := Nat.le_trans Z131 (Keep.of_wr W132).1
              have HK132 := Nat.le_trans HK131 (Keep.of_wr W132).1
              have N132 := Fr.snoc X132 N131 g_b127
              have V_b127_132 : AI Z h132 b127 .char [(nar .char (atF bs 0 p3 p4 p5 p6)), (nar .char (atF bs 1 p3 p4 p5 p6)), (nar .char (atF bs 2 p3 p4 p5 p6)), (nar .char (atF bs 3 p3 p4 p5 p6)), (nar .char (atF bs 4 p3 p4 p5 p6)), (0 : Int32), (0 : Int32), (0 : Int32), (0 : Int32), (0 : Int32), (0 : Int32), (0 : Int32)] := V132
              show Goes p e below KK T132 (mkF m 540 #[.val (.int p1), .val (.ref a2), .val (.int p3), .val (.int p4), .val (.int p5), .val (.int p6), .val (.int (atF bs 0 p3 p4 p5 p6)), .val (.int (atF bs 1 p3 p4 p5 p6)), .val (.int (atF bs 2 p3 p4 p5 p6)), .val (.int (atF bs 3 p3 p4 p5 p6)), .val (.int (atF bs 4 p3 p4 p5 p6)), .val (.int (atF bs 5 p3 p4 p5 p6)), .val (.int (atF bs 6 p3 p4 p5 p6)), .val (.int (atF bs 7 p3 p4 p5 p6)), .val (.int (atF bs 8 p3 p4 p5 p6)), .val (.int (atF bs 9 p3 p4 p5 p6)), .val (.int (atF bs 10 p3 p4 p5 p6)), .val (.int (atF bs 11 p3 p4 p5 p6))] [(.ref b127), (.ref b126), (.ref b126)])
              refine Goes.of (fun t => XS.dup X132.here hx rfl (hb hby d2_540) rfl rfl) ?_
              show Goes p e below KK T132 (mkF m 541 #[.val (.int p1), .val (.ref a2), .val (.int p3), .val (.int p4), .val (.int p5), .val (.int p6), .val (.int (atF bs 0 p3 p4 p5 p6)), .val (.int (atF bs 1 p3 p4 p5 p6)), .val (.int (atF bs 2 p3 p4 p5 p6)), .val (.int (atF bs 3 p3 p4 p5 p6)), .val (.int (atF bs 4 p3 p4 p5 p6)), .val (.int (atF bs 5 p3 p4 p5 p6)), .val (.int (atF bs 6 p3 p4 p5 p6)), .val (.int (atF bs 7 p3 p4 p5 p6)), .val (.int (atF bs 8 p3 p4 p5 p6)), .val (.int (atF bs 9 p3 p4 p5 p6)), .val (.int (atF bs 10 p3 p4 p5 p6)), .val (.int (atF bs 11 p3 p4 p5 p6))] [(.ref b127), (.ref b127), (.ref b126), (.ref b126)])
              refine Goes.of (fun t => XS.iconst X132.here hx rfl (hb hby d2_541)) ?_
              show Goes p e below KK T132 (mkF m 542 #[.val (.int p1), .val (.ref a2), .val (.int p3), .val (.int p4), .val (.int p5), .val (.int p6), .val (.int (atF bs 0 p3 p4 p5 p6)), .val (.int (atF bs 1 p3 p4 p5 p6)), .val (.int (atF bs 2 p3 p4 p5 p6)), .val (.int (atF bs 3 p3 p4 p5 p6)), .val (.int (atF bs 4 p3 p4 p5 p6)), .val (.int (atF bs 5 p3 p4 p5 p6)), .val (.int (atF bs 6 p3 p4 p5 p6)), .val (.int (atF bs 7 p3 p4 p5 p6)), .val (.int (atF bs 8 p3 p4 p5 p6)), .val (.int (atF bs 9 p3 p4 p5 p6)), .val (.int (atF bs 10 p3 p4 p5 p6)), .val (.int (atF bs 11 p3 p4 p5 p6))] [(.int (5 : Int32)), (.ref b127), (.ref b127), (.ref b126), (.ref b126)])
              refine Goes.of (fun t => XS.iload X132.here hx rfl (hb hby d2_542) rfl) ?_
              show Goes p e below KK T132 (mkF m 544 #[.val (.int p1), .val (.ref a2), .val (.int p3), .val (.int p4), .val (.int p5), .val (.int p6), .val (.int (atF bs 0 p3 p4 p5 p6)), .val (.int (atF bs 1 p3 p4 p5 p6)), .val (.int (atF bs 2 p3 p4 p5 p6)), .val (.int (atF bs 3 p3 p4 p5 p6)), .val (.int (atF bs 4 p3 p4 p5 p6)), .val (.int (atF bs 5 p3 p4 p5 p6)), .val (.int (atF bs 6 p3 p4 p5 p6)), .val (.int (atF bs 7 p3 p4 p5 p6)), .val (.int (atF bs 8 p3 p4 p5 p6)), .val (.int (atF bs 9 p3 p4 p5 p6)), .val (.int (atF bs 10 p3 p4 p5 p6)), .val (.int (atF bs 11 p3 p4 p5 p6))] [(.int (atF bs 5 p3 p4 p5 p6)), (.int (5 : Int32)), (.ref b127), (.ref b127), (.ref b126), (.ref b126)])
              obtain ⟨T133, h133, X133, e133, W133, V133, st133⟩ := AI.castore X132 hx hZw e132 V_b127_132 (i := 5) (j := (5 : Int32)) (rfl) ((by simp)) (g := (mkF m 544 #[.val (.int p1), .val (.ref a2), .val (.int p3), .val (.int p4), .val (.int p5), .val (.int p6), .val (.int (atF bs 0 p3 p4 p5 p6)), .val (.int (atF bs 1 p3 p4 p5 p6)), .val (.int (atF bs 2 p3 p4 p5 p6)), .val (.int (atF bs 3 p3 p4 p5 p6)), .val (.int (atF bs 4 p3 p4 p5 p6)), .val (.int (atF bs 5 p3 p4 p5 p6)), .val (.int (atF bs 6 p3 p4 p5 p6)), .val (.int (atF bs 7 p3 p4 p5 p6)), .val (.int (atF bs 8 p3 p4 p5 p6)), .val (.int (atF bs 9 p3 p4 p5 p6)), .val (.int (atF bs 10 p3 p4 p5 p6)), .val (.int (atF bs 11 p3 p4 p5 p6))] [(.int (atF bs 5 p3 p4 p5 p6)), (.int (5 : Int32)), (.ref b127), (.ref b127), (.ref b126), (.ref b126)])) rfl rfl (hb hby d2_544)
              refine Goes.of (st133) ?_
              have sf_b126_133 := Safe.wr W133 sf_b127_132 CR132.1 sf_b126_132
              have sf_b127_133 := Safe.wr W133 sf_b127_132 CR132.1 sf_b127_132
              have CR133 := CR132.trans (CHr.wr W133 sf_b127_132 CR132.1)
              have E2_126_127_128_129_130_131_132_133 : Exa Z h133 a2 "java/lang/String" := E2_126_127_128_129_130_131_132.wr W133
              have C2_126_127_128_129_130_131_132_133 : Fld Z h133 a2 "java/lang/String" "coder" "B" (.int (0 : Int32)) := C2_126_127_128_129_130_131_132.other W133 (Or.inl ne_a2_b127)
              have W2v_126_127_128_129_130_131_132_133 : Fld Z h133 a2 "java/lang/String" "value" "[B" (.ref b2) := W2v_126_127_128_129_130_131_132.other W133 (Or.inl ne_a2_b127)
              have V2_126_127_128_129_130_131_132_133 : AI Z h133 b2 .byte bs := V2_126_127_128_129_130_131_132.other W133 ne_b2_b127
              have Scs_126_127_128_129_130_131_132_133 : Sta Z h133 "java/lang/String" "COMPACT_STRINGS" "Z" (.int cz) := Scs_126_127_128_129_130_131_132.wr W133
              have Sf_126_127_128_129_130_131_132_133 : Sta Z h133 "jdk/internal/util/Preconditions" "SIOOBE_FORMATTER" "Ljava/util/function/BiFunction;" fm := Sf_126_127_128_129_130_131_132.wr W133
              have A126_127_128_129_130_131_132_133 : Exa Z h133 b126 "java/lang/String" := A126_127_128_129_130_131_132.wr W133
              have F_value_b126_127_128_129_130_131_132_133 : Fld Z h133 b126 "java/lang/String" "value" "[B" .null := F_value_b126_127_128_129_130_131_132.other W133 (Or.inl ne_b126_b127)
              have F_coder_b126_127_128_129_130_131_132_133 : Fld Z h133 b126 "java/lang/String" "coder" "B" (.int (0 : Int32)) := F_coder_b126_127_128_129_130_131_132.other W133 (Or.inl ne_b126_b127)
              have K133 : Keep h0 h133 [] := K132.wr W133 (Or.inr sz_b127)
              have Z133 : n0 ≤ h133.size := Nat.le_trans Z132 (Keep.of_wr W133).1
              have HK133 := Nat.le_trans HK132 (Keep.of_wr W133).1
              have N133 := Fr.snoc X133 N132 g_b127
              have V_b127_133 : AI Z h133 b127 .char [(nar .char (atF bs 0 p3 p4 p5 p6)), (nar .char (atF bs 1 p3 p4 p5 p6)), (nar .char (atF bs 2 p3 p4 p5 p6)), (nar .char (atF bs 3 p3 p4 p5 p6)), (nar .char (atF bs 4 p3 p4 p5 p6)), (nar .char (atF bs 5 p3 p4 p5 p6)), (0 : Int32), (0 : Int32), (0 : Int32), (0 : Int32), (0 : Int32), (0 : Int32)] := V133
              show Goes p e below KK T133 (mkF m 545 #[.val (.int p1), .val (.ref a2), .val (.int p3), .val (.int p4), .val (.int p5), .val (.int p6), .val (.int (atF bs 0 p3 p4 p5 p6)), .val (.int (atF bs 1 p3 p4 p5 p6)), .val (.int (atF bs 2 p3 p4 p5 p6)), .val (.int (atF bs 3 p3 p4 p5 p6)), .val (.int (atF bs 4 p3 p4 p5 p6)), .val (.int (atF bs 5 p3 p4 p5 p6)), .val (.int (atF bs 6 p3 p4 p5 p6)), .val (.int (atF bs 7 p3 p4 p5 p6)), .val (.int (atF bs 8 p3 p4 p5 p6)), .val (.int (atF bs 9 p3 p4 p5 p6)), .val (.int (atF bs 10 p3 p4 p5 p6)), .val (.int (atF bs 11 p3 p4 p5 p6))] [(.ref b127), (.ref b126), (.ref b126)])
              refine Goes.of (fun t => XS.dup X133.here hx rfl (hb hby d2_545) rfl rfl) ?_
              show Goes p e below KK T133 (mkF m 546 #[.val (.int p1), .val (.ref a2), .val (.int p3), .val (.int p4), .val (.int p5), .val (.int p6), .val (.int (atF bs 0 p3 p4 p5 p6)), .val (.int (atF bs 1 p3 p4 p5 p6)), .val (.int (atF bs 2 p3 p4 p5 p6)), .val (.int (atF bs 3 p3 p4 p5 p6)), .val (.int (atF bs 4 p3 p4 p5 p6)), .val (.int (atF bs 5 p3 p4 p5 p6)), .val (.int (atF bs 6 p3 p4 p5 p6)), .val (.int (atF bs 7 p3 p4 p5 p6)), .val (.int (atF bs 8 p3 p4 p5 p6)), .val (.int (atF bs 9 p3 p4 p5 p6)), .val (.int (atF bs 10 p3 p4 p5 p6)), .val (.int (atF bs 11 p3 p4 p5 p6))] [(.ref b127), (.ref b127), (.ref b126), (.ref b126)])
              refine Goes.of (fun t => XS.bipush X133.here hx rfl (hb hby d2_546)) ?_
              show Goes p e below KK T133 (mkF m 548 #[.val (.int p1), .val (.ref a2), .val (.int p3), .val (.int p4), .val (.int p5), .val (.int p6), .val (.int (atF bs 0 p3 p4 p5 p6)), .val (.int (atF bs 1 p3 p4 p5 p6)), .val (.int (atF bs 2 p3 p4 p5 p6)), .val (.int (atF bs 3 p3 p4 p5 p6)), .val (.int (atF bs 4 p3 p4 p5 p6)), .val (.int (atF bs 5 p3 p4 p5 p6)), .val (.int (atF bs 6 p3 p4 p5 p6)), .val (.int (atF bs 7 p3 p4 p5 p6)), .val (.int (atF bs 8 p3 p4 p5 p6)), .val (.int (atF bs 9 p3 p4 p5 p6)), .val (.int (atF bs 10 p3 p4 p5 p6)), .val (.int (atF bs 11 p3 p4 p5 p6))] [(.int (6 : Int32)), (.ref b127), (.ref b127), (.ref b126), (.ref b126)])
              refine Goes.of (fun t => XS.iload X133.here hx rfl (hb hby d2_548) rfl) ?_
              show Goes p e below KK T133 (mkF m 550 #[.val (.int p1), .val (.ref a2), .val (.int p3), .val (.int p4), .val (.int p5), .val (.int p6), .val (.int (atF bs 0 p3 p4 p5 p6)), .val (.int (atF bs 1 p3 p4 p5 p6)), .val (.int (atF bs 2 p3 p4 p5 p6)), .val (.int (atF bs 3 p3 p4 p5 p6)), .val (.int (atF bs 4 p3 p4 p5 p6)), .val (.int (atF bs 5 p3 p4 p5 p6)), .val (.int (atF bs 6 p3 p4 p5 p6)), .val (.int (atF bs 7 p3 p4 p5 p6)), .val (.int (atF bs 8 p3 p4 p5 p6)), .val (.int (atF bs 9 p3 p4 p5 p6)), .val (.int (atF bs 10 p3 p4 p5 p6)), .val (.int (atF bs 11 p3 p4 p5 p6))] [(.int (atF bs 6 p3 p4 p5 p6)), (.int (6 : Int32)), (.ref b127), (.ref b127), (.ref b126), (.ref b126)])
              obtain ⟨T134, h134, X134, e134, W134, V134, st134⟩ := AI.castore X133 hx hZw e133 V_b127_133 (i := 6) (j := (6 : Int32)) (rfl) ((by simp)) (g := (mkF m 550 #[.val (.int p1), .val (.ref a2), .val (.int p3), .val (.int p4), .val (.int p5), .val (.int p6), .val (.int (atF bs 0 p3 p4 p5 p6)), .val (.int (atF bs 1 p3 p4 p5 p6)), .val (.int (atF bs 2 p3 p4 p5 p6)), .val (.int (atF bs 3 p3 p4 p5 p6)), .val (.int (atF bs 4 p3 p4 p5 p6)), .val (.int (atF bs 5 p3 p4 p5 p6)), .val (.int (atF bs 6 p3 p4 p5 p6)), .val (.int (atF bs 7 p3 p4 p5 p6)), .val (.int (atF bs 8 p3 p4 p5 p6)), .val (.int (atF bs 9 p3 p4 p5 p6)), .val (.int (atF bs 10 p3 p4 p5 p6)), .val (.int (atF bs 11 p3 p4 p5 p6))] [(.int (atF bs 6 p3 p4 p5 p6)), (.int (6 : Int32)), (.ref b127), (.ref b127), (.ref b126), (.ref b126)])) rfl rfl (hb hby d2_550)
              refine Goes.of (st134) ?_
              have sf_b126_134 := Safe.wr W134 sf_b127_133 CR133.1 sf_b126_133
              have sf_b127_134 := Safe.wr W134 sf_b127_133 CR133.1 sf_b127_133
              have CR134 := CR133.trans (CHr.wr W134 sf_b127_133 CR133.1)
              have E2_126_127_128_129_130_131_132_133_134 : Exa Z h134 a2 "java/lang/String" := E2_126_127_128_129_130_131_132_133.wr W134
              have C2_126_127_128_129_130_131_132_133_134 : Fld Z h134 a2 "java/lang/String" "coder" "B" (.int (0 : Int32)) := C2_126_127_128_129_130_131_132_133.other W134 (Or.inl ne_a2_b127)
              have W2v_126_127_128_129_130_131_132_133_134 : Fld Z h134 a2 "java/lang/String" "value" "[B" (.ref b2) := W2v_126_127_128_129_130_131_132_133.other W134 (Or.inl ne_a2_b127)
              have V2_126_127_128_129_130_131_132_133_134 : AI Z h134 b2 .byte bs := V2_126_127_128_129_130_131_132_133.other W134 ne_b2_b127
              have Scs_126_127_128_129_130_131_132_133_134 : Sta Z h134 "java/lang/String" "COMPACT_STRINGS" "Z" (.int cz) := Scs_126_127_128_129_130_131_132_133.wr W134
              have Sf_126_127_128_129_130_131_132_133_134 : Sta Z h134 "jdk/internal/util/Preconditions" "SIOOBE_FORMATTER" "Ljava/util/function/BiFunction;" fm := Sf_126_127_128_129_130_131_132_133.wr W134
              have A126_127_128_129_130_131_132_133_134 : Exa Z h134 b126 "java/lang/String" := A126_127_128_129_130_131_132_133.wr W134
              have F135_134 : Fld Z h134 b126 "java/lang/String" "value" "[B" .null := F_value_b126_127_128_129_130_131_132_133.other W134 (Or.inl ne_b126_b127)
              have F136_134 : Fld Z h134 b126 "java/lang/String" "coder" "B" (.int (0 : Int32)) := F_coder_b126_127_128_129_130_131_132_133.other W134 (Or.inl ne_b126_b127)
              have K134 : Keep h0 h134 [] := K133.wr W134 (Or.inr sz_b127)
              have Z134 : n0 ≤ h134.size := Nat.le_trans Z133 (Keep.of_wr W134).1
              have HK134 := Nat.le_trans HK133 (Keep.of_wr W134).1
              have N134 := Fr.snoc X134 N133 g_b127
              have V_b127_134 : AI Z h134 b127 .char [(nar .char (atF bs 0 p3 p4 p5 p6)), (nar .char (atF bs 1 p3 p4 p5 p6)), (nar .char (atF bs 2 p3 p4 p5 p6)), (nar .char (atF bs 3 p3 p4 p5 p6)), (nar .char (atF bs 4 p3 p4 p5 p6)), (nar .char (atF bs 5 p3 p4 p5 p6)), (nar .char (atF bs 6 p3 p4 p5 p6)), (0 : Int32), (0 : Int32), (0 : Int32), (0 : Int32), (0 : Int32)] := V134
              show Goes p e below KK T134 (mkF m 551 #[.val (.int p1), .val (.ref a2), .val (.int p3), .val (.int p4), .val (.int p5), .val (.int p6), .val (.int (atF bs 0 p3 p4 p5 p6)), .val (.int (atF bs 1 p3 p4 p5 p6)), .val (.int (atF bs 2 p3 p4 p5 p6)), .val (.int (atF bs 3 p3 p4 p5 p6)), .val (.int (atF bs 4 p3 p4 p5 p6)), .val (.int (atF bs 5 p3 p4 p5 p6)), .val (.int (atF bs 6 p3 p4 p5 p6)), .val (.int (atF bs 7 p3 p4 p5 p6)), .val (.int (atF bs 8 p3 p4 p5 p6)), .val (.int (atF bs 9 p3 p4 p5 p6)), .val (.int (atF bs 10 p3 p4 p5 p6)), .val (.int (atF bs 11 p3 p4 p5 p6))] [(.ref b127), (.ref b126), (.ref b126)])
              refine Goes.of (fun t => XS.dup X134.here hx rfl (hb hby d2_551) rfl rfl) ?_
              show Goes p e below KK T134 (mkF m 552 #[.val (.int p1), .val (.ref a2), .val (.int p3), .val (.int p4), .val (.int p5), .val (.int p6), .val (.int (atF bs 0 p3 p4 p5 p6)), .val (.int (atF bs 1 p3 p4 p5 p6)), .val (.int (atF bs 2 p3 p4 p5 p6)), .val (.int (atF bs 3 p3 p4 p5 p6)), .val (.int (atF bs 4 p3 p4 p5 p6)), .val (.int (atF bs 5 p3 p4 p5 p6)), .val (.int (atF bs 6 p3 p4 p5 p6)), .val (.int (atF bs 7 p3 p4 p5 p6)), .val (.int (atF bs 8 p3 p4 p5 p6)), .val (.int (atF bs 9 p3 p4 p5 p6)), .val (.int (atF bs 10 p3 p4 p5 p6)), .val (.int (atF bs 11 p3 p4 p5 p6))] [(.ref b127), (.ref b127), (.ref b126), (.ref b126)])
              refine Goes.of (fun t => XS.bipush X134.here hx rfl (hb hby d2_552)) ?_
              show Goes p e below KK T134 (mkF m 554 #[.val (.int p1), .val (.ref a2), .val (.int p3), .val (.int p4), .val (.int p5), .val (.int p6), .val (.int (atF bs 0 p3 p4 p5 p6)), .val (.int (atF bs 1 p3 p4 p5 p6)), .val (.int (atF bs 2 p3 p4 p5 p6)), .val (.int (atF bs 3 p3 p4 p5 p6)), .val (.int (atF bs 4 p3 p4 p5 p6)), .val (.int (atF bs 5 p3 p4 p5 p6)), .val (.int (atF bs 6 p3 p4 p5 p6)), .val (.int (atF bs 7 p3 p4 p5 p6)), .val (.int (atF bs 8 p3 p4 p5 p6)), .val (.int (atF bs 9 p3 p4 p5 p6)), .val (.int (atF bs 10 p3 p4 p5 p6)), .val (.int (atF bs 11 p3 p4 p5 p6))] [(.int (7 : Int32)), (.ref b127), (.ref b127), (.ref b126), (.ref b126)])
              refine Goes.of (fun t => XS.iload X134.here hx rfl (hb hby d2_554) rfl) ?_
              show Goes p e below KK T134 (mkF m 556 #[.val (.int p1), .val (.ref a2), .val (.int p3), .val (.int p4), .val (.int p5), .val (.int p6), .val (.int (atF bs 0 p3 p4 p5 p6)), .val (.int (atF bs 1 p3 p4 p5 p6)), .val (.int (atF bs 2 p3 p4 p5 p6)), .val (.int (atF bs 3 p3 p4 p5 p6)), .val (.int (atF bs 4 p3 p4 p5 p6)), .val (.int (atF bs 5 p3 p4 p5 p6)), .val (.int (atF bs 6 p3 p4 p5 p6)), .val (.int (atF bs 7 p3 p4 p5 p6)), .val (.int (atF bs 8 p3 p4 p5 p6)), .val (.int (atF bs 9 p3 p4 p5 p6)), .val (.int (atF bs 10 p3 p4 p5 p6)), .val (.int (atF bs 11 p3 p4 p5 p6))] [(.int (atF bs 7 p3 p4 p5 p6)), (.int (7 : Int32)), (.ref b127), (.ref b127), (.ref b126), (.ref b126)])
              obtain ⟨T137, h137, X137, e137, W137, V137, st137⟩ := AI.castore X134 hx hZw e134 V_b127_134 (i := 7) (j := (7 : Int32)) (rfl) ((by simp)) (g := (mkF m 556 #[.val (.int p1), .val (.ref a2), .val (.int p3), .val (.int p4), .val (.int p5), .val (.int p6), .val (.int (atF bs 0 p3 p4 p5 p6)), .val (.int (atF bs 1 p3 p4 p5 p6)), .val (.int (atF bs 2 p3 p4 p5 p6)), .val (.int (atF bs 3 p3 p4 p5 p6)), .val (.int (atF bs 4 p3 p4 p5 p6)), .val (.int (atF bs 5 p3 p4 p5 p6)), .val (.int (atF bs 6 p3 p4 p5 p6)), .val (.int (atF bs 7 p3 p4 p5 p6)), .val (.int (atF bs 8 p3 p4 p5 p6)), .val (.int (atF bs 9 p3 p4 p5 p6)), .val (.int (atF bs 10 p3 p4 p5 p6)), .val (.int (atF bs 11 p3 p4 p5 p6))] [(.int (atF bs 7 p3 p4 p5 p6)), (.int (7 : Int32)), (.ref b127), (.ref b127), (.ref b126), (.ref b126)])) rfl rfl (hb hby d2_556)
              refine Goes.of (st137) ?_
              have sf_b126_137 := Safe.wr W137 sf_b127_134 CR134.1 sf_b126_134
              have sf_b127_137 := Safe.wr W137 sf_b127_134 CR134.1 sf_b127_134
              have CR137 := CR134.trans (CHr.wr W137 sf_b127_134 CR134.1)
              have E2_126_127_128_129_130_131_132_133_134_137 : Exa Z h137 a2 "java/lang/String" := E2_126_127_128_129_130_131_132_133_134.wr W137
              have C2_126_127_128_129_130_131_132_133_134_137 : Fld Z h137 a2 "java/lang/String" "coder" "B" (.int (0 : Int32)) := C2_126_127_128_129_130_131_132_133_134.other W137 (Or.inl ne_a2_b127)
              have W2v_126_127_128_129_130_131_132_133_134_137 : Fld Z h137 a2 "java/lang/String" "value" "[B" (.ref b2) := W2v_126_127_128_129_130_131_132_133_134.other W137 (Or.inl ne_a2_b127)
              have V2_126_127_128_129_130_131_132_133_134_137 : AI Z h137 b2 .byte bs := V2_126_127_128_129_130_131_132_133_134.other W137 ne_b2_b127
              have Scs_126_127_128_129_130_131_132_133_134_137 : Sta Z h137 "java/lang/String" "COMPACT_STRINGS" "Z" (.int cz) := Scs_126_127_128_129_130_131_132_133_134.wr W137
              have Sf_126_127_128_129_130_131_132_133_134_137 : Sta Z h137 "jdk/internal/util/Preconditions" "SIOOBE_FORMATTER" "Ljava/util/function/BiFunction;" fm := Sf_126_127_128_129_130_131_132_133_134.wr W137
              have A126_127_128_129_130_131_132_133_134_137 : Exa Z h137 b126 "java/lang/String" := A126_127_128_129_130_131_132_133_134.wr W137
              have F135_134_137 : Fld Z h137 b126 "java/lang/String" "value" "[B" .null := F135_134.other W137 (Or.inl ne_b126_b127)
              have F136_134_137 : Fld Z h137 b126 "java/lang/String" "coder" "B" (.int (0 : Int32)) := F136_134.other W137 (Or.inl ne_b126_b127)
              have K137 : Keep h0 h137 [] := K134.wr W137 (Or.inr sz_b127)
              have Z137 : n0 ≤ h137.size := Nat.le_trans Z134 (Keep.of_wr W137).1
              have HK137 := Nat.le_trans HK134 (Keep.of_wr W137).1
              have N137 := Fr.snoc X137 N134 g_b127
              have V_b127_137 : AI Z h137 b127 .char [(nar .char (atF bs 0 p3 p4 p5 p6)), (nar .char (atF bs 1 p3 p4 p5 p6)), (nar .char (atF bs 2 p3 p4 p5 p6)), (nar .char (atF bs 3 p3 p4 p5 p6)), (nar .char (atF bs 4 p3 p4 p5 p6)), (nar .char (atF bs 5 p3 p4 p5 p6)), (nar .char (atF bs 6 p3 p4 p5 p6)), (nar .char (atF bs 7 p3 p4 p5 p6)), (0 : Int32), (0 : Int32), (0 : Int32), (0 : Int32)] := V137
              show Goes p e below KK T137 (mkF m 557 #[.val (.int p1), .val (.ref a2), .val (.int p3), .val (.int p4), .val (.int p5), .val (.int p6), .val (.int (atF bs 0 p3 p4 p5 p6)), .val (.int (atF bs 1 p3 p4 p5 p6)), .val (.int (atF bs 2 p3 p4 p5 p6)), .val (.int (atF bs 3 p3 p4 p5 p6)), .val (.int (atF bs 4 p3 p4 p5 p6)), .val (.int (atF bs 5 p3 p4 p5 p6)), .val (.int (atF bs 6 p3 p4 p5 p6)), .val (.int (atF bs 7 p3 p4 p5 p6)), .val (.int (atF bs 8 p3 p4 p5 p6)), .val (.int (atF bs 9 p3 p4 p5 p6)), .val (.int (atF bs 10 p3 p4 p5 p6)), .val (.int (atF bs 11 p3 p4 p5 p6))] [(.ref b127), (.ref b126), (.ref b126)])
              refine Goes.of (fun t => XS.dup X137.here hx rfl (hb hby d2_557) rfl rfl) ?_
              show Goes p e below KK T137 (mkF m 558 #[.val (.int p1), .val (.ref a2), .val (.int p3), .val (.int p4), .val (.int p5), .val (.int p6), .val (.int (atF bs 0 p3 p4 p5 p6)), .val (.int (atF bs 1 p3 p4 p5 p6)), .val (.int (atF bs 2 p3 p4 p5 p6)), .val (.int (atF bs 3 p3 p4 p5 p6)), .val (.int (atF bs 4 p3 p4 p5 p6)), .val (.int (atF bs 5 p3 p4 p5 p6)), .val (.int (atF bs 6 p3 p4 p5 p6)), .val (.int (atF bs 7 p3 p4 p5 p6)), .val (.int (atF bs 8 p3 p4 p5 p6)), .val (.int (atF bs 9 p3 p4 p5 p6)), .val (.int (atF bs 10 p3 p4 p5 p6)), .val (.int (atF bs 11 p3 p4 p5 p6))] [(.ref b127), (.ref b127), (.ref b126), (.ref b126)])
              refine Goes.of (fun t => XS.bipush X137.here hx rfl (hb hby d2_558)) ?_
              show Goes p e below KK T137 (mkF m 560 #[.val (.int p1), .val (.ref a2), .val (.int p3), .val (.int p4), .val (.int p5), .val (.int p6), .val (.int (atF bs 0 p3 p4 p5 p6)), .val (.int (atF bs 1 p3 p4 p5 p6)), .val (.int (atF bs 2 p3 p4 p5 p6)), .val (.int (atF bs 3 p3 p4 p5 p6)), .val (.int (atF bs 4 p3 p4 p5 p6)), .val (.int (atF bs 5 p3 p4 p5 p6)), .val (.int (atF bs 6 p3 p4 p5 p6)), .val (.int (atF bs 7 p3 p4 p5 p6)), .val (.int (atF bs 8 p3 p4 p5 p6)), .val (.int (atF bs 9 p3 p4 p5 p6)), .val (.int (atF bs 10 p3 p4 p5 p6)), .val (.int (atF bs 11 p3 p4 p5 p6))] [(.int (8 : Int32)), (.ref b127), (.ref b127), (.ref b126), (.ref b126)])
              refine Goes.of (fun t => XS.iload X137.here hx rfl (hb hby d2_560) rfl) ?_
              show Goes p e below KK T137 (mkF m 562 #[.val (.int p1), .val (.ref a2), .val (.int p3), .val (.int p4), .val (.int p5), .val (.int p6), .val (.int (atF bs 0 p3 p4 p5 p6)), .val (.int (atF bs 1 p3 p4 p5 p6)), .val (.int (atF bs 2 p3 p4 p5 p6)), .val (.int (atF bs 3 p3 p4 p5 p6)), .val (.int (atF bs 4 p3 p4 p5 p6)), .val (.int (atF bs 5 p3 p4 p5 p6)), .val (.int (atF bs 6 p3 p4 p5 p6)), .val (.int (atF bs 7 p3 p4 p5 p6)), .val (.int (atF bs 8 p3 p4 p5 p6)), .val (.int (atF bs 9 p3 p4 p5 p6)), .val (.int (atF bs 10 p3 p4 p5 p6)), .val (.int (atF bs 11 p3 p4 p5 p6))] [(.int (atF bs 8 p3 p4 p5 p6)), (.int (8 : Int32)), (.ref b127), (.ref b127), (.ref b126), (.ref b126)])
              obtain ⟨T138, h138, X138, e138, W138, V138, st138⟩ := AI.castore X137 hx hZw e137 V_b127_137 (i := 8) (j := (8 : Int32)) (rfl) ((by simp)) (g := (mkF m 562 #[.val (.int p1), .val (.ref a2), .val (.int p3), .val (.int p4), .val (.int p5), .val (.int p6), .val (.int (atF bs 0 p3 p4 p5 p6)), .val (.int (atF bs 1 p3 p4 p5 p6)), .val (.int (atF bs 2 p3 p4 p5 p6)), .val (.int (atF bs 3 p3 p4 p5 p6)), .val (.int (atF bs 4 p3 p4 p5 p6)), .val (.int (atF bs 5 p3 p4 p5 p6)), .val (.int (atF bs 6 p3 p4 p5 p6)), .val (.int (atF bs 7 p3 p4 p5 p6)), .val (.int (atF bs 8 p3 p4 p5 p6)), .val (.int (atF bs 9 p3 p4 p5 p6)), .val (.int (atF bs 10 p3 p4 p5 p6)), .val (.int (atF bs 11 p3 p4 p5 p6))] [(.int (atF bs 8 p3 p4 p5 p6)), (.int (8 : Int32)), (.ref b127), (.ref b127), (.ref b126), (.ref b126)])) rfl rfl (hb hby d2_562)
              refine Goes.of (st138) ?_
              have sf_b126_138 := Safe.wr W138 sf_b127_137 CR137.1 sf_b126_137
              have sf_b127_138 := Safe.wr W138 sf_b127_137 CR137.1 sf_b127_137
              have CR138 := CR137.trans (CHr.wr W138 sf_b127_137 CR137.1)
              have E139_138 : Exa Z h138 a2 "java/lang/String" := E2_126_127_128_129_130_131_132_133_134_137.wr W138
              have F140_138 : Fld Z h138 a2 "java/lang/String" "coder" "B" (.int (0 : Int32)) := C2_126_127_128_129_130_131_132_133_134_137.other W138 (Or.inl ne_a2_b127)
              have F141_138 : Fld Z h138 a2 "java/lang/String" "value" "[B" (.ref b2) := W2v_126_127_128_129_130_131_132_133_134_137.other W138 (Or.inl ne_a2_b127)
              have V142_138 : AI Z h138 b2 .byte bs := V2_126_127_128_129_130_131_132_133_134_137.other W138 ne_b2_b127
              have S143_138 : Sta Z h138 "java/lang/String" "COMPACT_STRINGS" "Z" (.int cz) := Scs_126_127_128_129_130_131_132_133_134_137.wr W138
              have S144_138 : Sta Z h138 "jdk/internal/util/Preconditions" "SIOOBE_FORMATTER" "Ljava/util/function/BiFunction;" fm := Sf_126_127_128_129_130_131_132_133_134_137.wr W138
              have E145_138 : Exa Z h138 b126 "java/lang/String" := A126_127_128_129_130_131_132_133_134_137.wr W138
              have F135_134_137_138 : Fld Z h138 b126 "java/lang/String" "value" "[B" .null := F135_134_137.other W138 (Or.inl ne_b126_b127)
              have F136_134_137_138 : Fld Z h138 b126 "java/lang/String" "coder" "B" (.int (0 : Int32)) := F136_134_137.other W138 (Or.inl ne_b126_b127)
              have K138 : Keep h0 h138 [] := K137.wr W138 (Or.inr sz_b127)
              have Z138 : n0 ≤ h138.size := Nat.le_trans Z137 (Keep.of_wr W138).1
              have HK138 := Nat.le_trans HK137 (Keep.of_wr W138).1
              have N138 := Fr.snoc X138 N137 g_b127
              have V_b127_138 : AI Z h138 b127 .char [(nar .char (atF bs 0 p3 p4 p5 p6)), (nar .char (atF bs 1 p3 p4 p5 p6)), (nar .char (atF bs 2 p3 p4 p5 p6)), (nar .char (atF bs 3 p3 p4 p5 p6)), (nar .char (atF bs 4 p3 p4 p5 p6)), (nar .char (atF bs 5 p3 p4 p5 p6)), (nar .char (atF bs 6 p3 p4 p5 p6)), (nar .char (atF bs 7 p3 p4 p5 p6)), (nar .char (atF bs 8 p3 p4 p5 p6)), (0 : Int32), (0 : Int32), (0 : Int32)] := V138
              show Goes p e below KK T138 (mkF m 563 #[.val (.int p1), .val (.ref a2), .val (.int p3), .val (.int p4), .val (.int p5), .val (.int p6), .val (.int (atF bs 0 p3 p4 p5 p6)), .val (.int (atF bs 1 p3 p4 p5 p6)), .val (.int (atF bs 2 p3 p4 p5 p6)), .val (.int (atF bs 3 p3 p4 p5 p6)), .val (.int (atF bs 4 p3 p4 p5 p6)), .val (.int (atF bs 5 p3 p4 p5 p6)), .val (.int (atF bs 6 p3 p4 p5 p6)), .val (.int (atF bs 7 p3 p4 p5 p6)), .val (.int (atF bs 8 p3 p4 p5 p6)), .val (.int (atF bs 9 p3 p4 p5 p6)), .val (.int (atF bs 10 p3 p4 p5 p6)), .val (.int (atF bs 11 p3 p4 p5 p6))] [(.ref b127), (.ref b126), (.ref b126)])
              refine Goes.of (fun t => XS.dup X138.here hx rfl (hb hby d2_563) rfl rfl) ?_
              show Goes p e below KK T138 (mkF m 564 #[.val (.int p1), .val (.ref a2), .val (.int p3), .val (.int p4), .val (.int p5), .val (.int p6), .val (.int (atF bs 0 p3 p4 p5 p6)), .val (.int (atF bs 1 p3 p4 p5 p6)), .val (.int (atF bs 2 p3 p4 p5 p6)), .val (.int (atF bs 3 p3 p4 p5 p6)), .val (.int (atF bs 4 p3 p4 p5 p6)), .val (.int (atF bs 5 p3 p4 p5 p6)), .val (.int (atF bs 6 p3 p4 p5 p6)), .val (.int (atF bs 7 p3 p4 p5 p6)), .val (.int (atF bs 8 p3 p4 p5 p6)), .val (.int (atF bs 9 p3 p4 p5 p6)), .val (.int (atF bs 10 p3 p4 p5 p6)), .val (.int (atF bs 11 p3 p4 p5 p6))] [(.ref b127), (.ref b127), (.ref b126), (.ref b126)])
              refine Goes.of (fun t => XS.bipush X138.here hx rfl (hb hby d2_564)) ?_
              show Goes p e below KK T138 (mkF m 566 #[.val (.int p1), .val (.ref a2), .val (.int p3), .val (.int p4), .val (.int p5), .val (.int p6), .val (.int (atF bs 0 p3 p4 p5 p6)), .val (.int (atF bs 1 p3 p4 p5 p6)), .val (.int (atF bs 2 p3 p4 p5 p6)), .val (.int (atF bs 3 p3 p4 p5 p6)), .val (.int (atF bs 4 p3 p4 p5 p6)), .val (.int (atF bs 5 p3 p4 p5 p6)), .val (.int (atF bs 6 p3 p4 p5 p6)), .val (.int (atF bs 7 p3 p4 p5 p6)), .val (.int (atF bs 8 p3 p4 p5 p6)), .val (.int (atF bs 9 p3 p4 p5 p6)), .val (.int (atF bs 10 p3 p4 p5 p6)), .val (.int (atF bs 11 p3 p4 p5 p6))] [(.int (9 : Int32)), (.ref b127), (.ref b127), (.ref b126), (.ref b126)])
              refine Goes.of (fun t => XS.iload X138.here hx rfl (hb hby d2_566) rfl) ?_
              show Goes p e below KK T138 (mkF m 568 #[.val (.int p1), .val (.ref a2), .val (.int p3), .val (.int p4), .val (.int p5), .val (.int p6), .val (.int (atF bs 0 p3 p4 p5 p6)), .val (.int (atF bs 1 p3 p4 p5 p6)), .val (.int (atF bs 2 p3 p4 p5 p6)), .val (.int (atF bs 3 p3 p4 p5 p6)), .val (.int (atF bs 4 p3 p4 p5 p6)), .val (.int (atF bs 5 p3 p4 p5 p6)), .val (.int (atF bs 6 p3 p4 p5 p6)), .val (.int (atF bs 7 p3 p4 p5 p6)), .val (.int (atF bs 8 p3 p4 p5 p6)), .val (.int (atF bs 9 p3 p4 p5 p6)), .val (.int (atF bs 10 p3 p4 p5 p6)), .val (.int (atF bs 11 p3 p4 p5 p6))] [(.int (atF bs 9 p3 p4 p5 p6)), (.int (9 : Int32)), (.ref b127), (.ref b127), (.ref b126), (.ref b126)])
              obtain ⟨T146, h146, X146, e146, W146, V146, st146⟩ := AI.castore X138 hx hZw e138 V_b127_138 (i := 9) (j := (9 : Int32)) (rfl) ((by simp)) (g := (mkF m 568 #[.val (.int p1), .val (.ref a2), .val (.int p3), .val (.int p4), .val (.int p5), .val (.int p6), .val (.int (atF bs 0 p3 p4 p5 p6)), .val (.int (atF bs 1 p3 p4 p5 p6)), .val (.int (atF bs 2 p3 p4 p5 p6)), .val (.int (atF bs 3 p3 p4 p5 p6)), .val (.int (atF bs 4 p3 p4 p5 p6)), .val (.int (atF bs 5 p3 p4 p5 p6)), .val (.int (atF bs 6 p3 p4 p5 p6)), .val (.int (atF bs 7 p3 p4 p5 p6)), .val (.int (atF bs 8 p3 p4 p5 p6)), .val (.int (atF bs 9 p3 p4 p5 p6)), .val (.int (atF bs 10 p3 p4 p5 p6)), .val (.int (atF bs 11 p3 p4 p5 p6))] [(.int (atF bs 9 p3 p4 p5 p6)), (.int (9 : Int32)), (.ref b127), (.ref b127), (.ref b126), (.ref b126)])) rfl rfl (hb hby d2_568)
              refine Goes.of (st146) ?_
              have sf_b126_146 := Safe.wr W146 sf_b127_138 CR138.1 sf_b126_138
              have sf_b127_146 := Safe.wr W146 sf_b127_138 CR138.1 sf_b127_138
              have CR146 := CR138.trans (CHr.wr W146 sf_b127_138 CR138.1)
              have E139_138_146 : Exa Z h146 a2 "java/lang/String" := E139_138.wr W146
              have F140_138_146 : Fld Z h146 a2 "java/lang/String" "coder" "B" (.int (0 : Int32)) := F140_138.other W146 (Or.inl ne_a2_b127)
              have F141_138_146 : Fld Z h146 a2 "java/lang/String" "value" "[B" (.ref b2) := F141_138.other W146 (Or.inl ne_a2_b127)
              have V142_138_146 : AI Z h146 b2 .byte bs := V142_138.other W146 ne_b2_b127
              have S143_138_146 : Sta Z h146 "java/lang/String" "COMPACT_STRINGS" "Z" (.int cz) := S143_138.wr W146
              have S144_138_146 : Sta Z h146 "jdk/internal/util/Preconditions" "SIOOBE_FORMATTER" "Ljava/util/function/BiFunction;" fm := S144_138.wr W146
              have E145_138_146 : Exa Z h146 b126 "java/lang/String" := E145_138.wr W146
              have F135_134_137_138_146 : Fld Z h146 b126 "java/lang/String" "value" "[B" .null := F135_134_137_138.other W146 (Or.inl ne_b126_b127)
              have F136_134_137_138_146 : Fld Z h146 b126 "java/lang/String" "coder" "B" (.int (0 : Int32)) := F136_134_137_138.other W146 (Or.inl ne_b126_b127)
              have K146 : Keep h0 h146 [] := K138.wr W146 (Or.inr sz_b127)
              have Z146 : n0 ≤ h146.size := Nat.le_trans Z138 (Keep.of_wr W146).1
              have HK146 := Nat.le_trans HK138 (Keep.of_wr W146).1
              have N146 := Fr.snoc X146 N138 g_b127
              have V_b127_146 : AI Z h146 b127 .char [(nar .char (atF bs 0 p3 p4 p5 p6)), (nar .char (atF bs 1 p3 p4 p5 p6)), (nar .char (atF bs 2 p3 p4 p5 p6)), (nar .char (atF bs 3 p3 p4 p5 p6)), (nar .char (atF bs 4 p3 p4 p5 p6)), (nar .char (atF bs 5 p3 p4 p5 p6)), (nar .char (atF bs 6 p3 p4 p5 p6)), (nar .char (atF bs 7 p3 p4 p5 p6)), (nar .char (atF bs 8 p3 p4 p5 p6)), (nar .char (atF bs 9 p3 p4 p5 p6)), (0 : Int32), (0 : Int32)] := V146
              show Goes p e below KK T146 (mkF m 569 #[.val (.int p1), .val (.ref a2), .val (.int p3), .val (.int p4), .val (.int p5), .val (.int p6), .val (.int (atF bs 0 p3 p4 p5 p6)), .val (.int (atF bs 1 p3 p4 p5 p6)), .val (.int (atF bs 2 p3 p4 p5 p6)), .val (.int (atF bs 3 p3 p4 p5 p6)), .val (.int (atF bs 4 p3 p4 p5 p6)), .val (.int (atF bs 5 p3 p4 p5 p6)), .val (.int (atF bs 6 p3 p4 p5 p6)), .val (.int (atF bs 7 p3 p4 p5 p6)), .val (.int (atF bs 8 p3 p4 p5 p6)), .val (.int (atF bs 9 p3 p4 p5 p6)), .val (.int (atF bs 10 p3 p4 p5 p6)), .val (.int (atF bs 11 p3 p4 p5 p6))] [(.ref b127), (.ref b126), (.ref b126)])
              refine Goes.of (fun t => XS.dup X146.here hx rfl (hb hby d2_569) rfl rfl) ?_
              show Goes p e below KK T146 (mkF m 570 #[.val (.int p1), .val (.ref a2), .val (.int p3), .val (.int p4), .val (.int p5), .val (.int p6), .val (.int (atF bs 0 p3 p4 p5 p6)), .val (.int (atF bs 1 p3 p4 p5 p6)), .val (.int (atF bs 2 p3 p4 p5 p6)), .val (.int (atF bs 3 p3 p4 p5 p6)), .val (.int (atF bs 4 p3 p4 p5 p6)), .val (.int (atF bs 5 p3 p4 p5 p6)), .val (.int (atF bs 6 p3 p4 p5 p6)), .val (.int (atF bs 7 p3 p4 p5 p6)), .val (.int (atF bs 8 p3 p4 p5 p6)), .val (.int (atF bs 9 p3 p4 p5 p6)), .val (.int (atF bs 10 p3 p4 p5 p6)), .val (.int (atF bs 11 p3 p4 p5 p6))] [(.ref b127), (.ref b127), (.ref b126), (.ref b126)])
              refine Goes.of (fun t => XS.bipush X146.here hx rfl (hb hby d2_570)) ?_
              show Goes p e below KK T146 (mkF m 572 #[.val (.int p1), .val (.ref a2), .val (.int p3), .val (.int p4), .val (.int p5), .val (.int p6), .val (.int (atF bs 0 p3 p4 p5 p6)), .val (.int (atF bs 1 p3 p4 p5 p6)), .val (.int (atF bs 2 p3 p4 p5 p6)), .val (.int (atF bs 3 p3 p4 p5 p6)), .val (.int (atF bs 4 p3 p4 p5 p6)), .val (.int (atF bs 5 p3 p4 p5 p6)), .val (.int (atF bs 6 p3 p4 p5 p6)), .val (.int (atF bs 7 p3 p4 p5 p6)), .val (.int (atF bs 8 p3 p4 p5 p6)), .val (.int (atF bs 9 p3 p4 p5 p6)), .val (.int (atF bs 10 p3 p4 p5 p6)), .val (.int (atF bs 11 p3 p4 p5 p6))] [(.int (10 : Int32)), (.ref b127), (.ref b127), (.ref b126), (.ref b126)])
              refine Goes.of (fun t => XS.iload X146.here hx rfl (hb hby d2_572) rfl) ?_
              show Goes p e below KK T146 (mkF m 574 #[.val (.int p1), .val (.ref a2), .val (.int p3), .val (.int p4), .val (.int p5), .val (.int p6), .val (.int (atF bs 0 p3 p4 p5 p6)), .val (.int (atF bs 1 p3 p4 p5 p6)), .val (.int (atF bs 2 p3 p4 p5 p6)), .val (.int (atF bs 3 p3 p4 p5 p6)), .val (.int (atF bs 4 p3 p4 p5 p6)), .val (.int (atF bs 5 p3 p4 p5 p6)), .val (.int (atF bs 6 p3 p4 p5 p6)), .val (.int (atF bs 7 p3 p4 p5 p6)), .val (.int (atF bs 8 p3 p4 p5 p6)), .val (.int (atF bs 9 p3 p4 p5 p6)), .val (.int (atF bs 10 p3 p4 p5 p6)), .val (.int (atF bs 11 p3 p4 p5 p6))] [(.int (atF bs 10 p3 p4 p5 p6)), (.int (10 : Int32)), (.ref b127), (.ref b127), (.ref b126), (.ref b126)])
              obtain ⟨T147, h147, X147, e147, W147, V147, st147⟩ := AI.castore X146 hx hZw e146 V_b127_146 (i := 10) (j := (10 : Int32)) (rfl) ((by simp)) (g := (mkF m 574 #[.val (.int p1), .val (.ref a2), .val (.int p3), .val (.int p4), .val (.int p5), .val (.int p6), .val (.int (atF bs 0 p3 p4 p5 p6)), .val (.int (atF bs 1 p3 p4 p5 p6)), .val (.int (atF bs 2 p3 p4 p5 p6)), .val (.int (atF bs 3 p3 p4 p5 p6)), .val (.int (atF bs 4 p3 p4 p5 p6)), .val (.int (atF bs 5 p3 p4 p5 p6)), .val (.int (atF bs 6 p3 p4 p5 p6)), .val (.int (atF bs 7 p3 p4 p5 p6)), .val (.int (atF bs 8 p3 p4 p5 p6)), .val (.int (atF bs 9 p3 p4 p5 p6)), .val (.int (atF bs 10 p3 p4 p5 p6)), .val (.int (atF bs 11 p3 p4 p5 p6))] [(.int (atF bs 10 p3 p4 p5 p6)), (.int (10 : Int32)), (.ref b127), (.ref b127), (.ref b126), (.ref b126)])) rfl rfl (hb hby d2_574)
              refine Goes.of (st147) ?_
              have sf_b126_147 := Safe.wr W147 sf_b127_146 CR146.1 sf_b126_146
              have sf_b127_147 := Safe.wr W147 sf_b127_146 CR146.1 sf_b127_146
              have CR147 := CR146.trans (CHr.wr W147 sf_b127_146 CR146.1)
              have E139_138_146_147 : Exa Z h147 a2 "java/lang/String" := E139_138_146.wr W147
              have F140_138_146_147 : Fld Z h147 a2 "java/lang/String" "coder" "B" (.int (0 : Int32)) := F140_138_146.other W147 (Or.inl ne_a2_b127)
              have F141_138_146_147 : Fld Z h147 a2 "java/lang/String" "value" "[B" (.ref b2) := F141_138_146.other W147 (Or.inl ne_a2_b127)
              have V142_138_146_147 : AI Z h147 b2 .byte bs := V142_138_146.other W147 ne_b2_b127
              have S143_138_146_147 : Sta Z h147 "java/lang/String" "COMPACT_STRINGS" "Z" (.int cz) := S143_138_146.wr W147
              have S144_138_146_147 : Sta Z h147 "jdk/internal/util/Preconditions" "SIOOBE_FORMATTER" "Ljava/util/function/BiFunction;" fm := S144_138_146.wr W147
              have E145_138_146_147 : Exa Z h147 b126 "java/lang/String" := E145_138_146.wr W147
              have F135_134_137_138_146_147 : Fld Z h147 b126 "java/lang/String" "value" "[B" .null := F135_134_137_138_146.other W147 (Or.inl ne_b126_b127)
              have F136_134_137_138_146_147 : Fld Z h147 b126 "java/lang/String" "coder" "B" (.int (0 : Int32)) := F136_134_137_138_146.other W147 (Or.inl ne_b126_b127)
              have K147 : Keep h0 h147 [] := K146.wr W147 (Or.inr sz_b127)
              have Z147 : n0 ≤ h147.size := Nat.le_trans Z146 (Keep.of_wr W147).1
              have HK147 := Nat.le_trans HK146 (Keep.of_wr W147).1
              have N147 := Fr.snoc X147 N146 g_b127
              have V_b127_147 : AI Z h147 b127 .char [(nar .char (atF bs 0 p3 p4 p5 p6)), (nar .char (atF bs 1 p3 p4 p5 p6)), (nar .char (atF bs 2 p3 p4 p5 p6)), (nar .char (atF bs 3 p3 p4 p5 p6)), (nar .char (atF bs 4 p3 p4 p5 p6)), (nar .char (atF bs 5 p3 p4 p5 p6)), (nar .char (atF bs 6 p3 p4 p5 p6)), (nar .char (atF bs 7 p3 p4 p5 p6)), (nar .char (atF bs 8 p3 p4 p5 p6)), (nar .char (atF bs 9 p3 p4 p5 p6)), (nar .char (atF bs 10 p3 p4 p5 p6)), (0 : Int32)] := V147
              show Goes p e below KK T147 (mkF m 575 #[.val (.int p1), .val (.ref a2), .val (.int p3), .val (.int p4), .val (.int p5), .val (.int p6), .val (.int (atF bs 0 p3 p4 p5 p6)), .val (.int (atF bs 1 p3 p4 p5 p6)), .val (.int (atF bs 2 p3 p4 p5 p6)), .val (.int (atF bs 3 p3 p4 p5 p6)), .val (.int (atF bs 4 p3 p4 p5 p6)), .val (.int (atF bs 5 p3 p4 p5 p6)), .val (.int (atF bs 6 p3 p4 p5 p6)), .val (.int (atF bs 7 p3 p4 p5 p6)), .val (.int (atF bs 8 p3 p4 p5 p6)), .val (.int (atF bs 9 p3 p4 p5 p6)), .val (.int (atF bs 10 p3 p4 p5 p6)), .val (.int (atF bs 11 p3 p4 p5 p6))] [(.ref b127), (.ref b126), (.ref b126)])
              refine Goes.of (fun t => XS.dup X147.here hx rfl (hb hby d2_575) rfl rfl) ?_
              show Goes p e below KK T147 (mkF m 576 #[.val (.int p1), .val (.ref a2), .val (.int p3), .val (.int p4), .val (.int p5), .val (.int p6), .val (.int (atF bs 0 p3 p4 p5 p6)), .val (.int (atF bs 1 p3 p4 p5 p6)), .val (.int (atF bs 2 p3 p4 p5 p6)), .val (.int (atF bs 3 p3 p4 p5 p6)), .val (.int (atF bs 4 p3 p4 p5 p6)), .val (.int (atF bs 5 p3 p4 p5 p6)), .val (.int (atF bs 6 p3 p4 p5 p6)), .val (.int (atF bs 7 p3 p4 p5 p6)), .val (.int (atF bs 8 p3 p4 p5 p6)), .val (.int (atF bs 9 p3 p4 p5 p6)), .val (.int (atF bs 10 p3 p4 p5 p6)), .val (.int (atF bs 11 p3 p4 p5 p6))] [(.ref b127), (.ref b127), (.ref b126), (.ref b126)])
              refine Goes.of (fun t => XS.bipush X147.here hx rfl (hb hby d2_576)) ?_
              show Goes p e below KK T147 (mkF m 578 #[.val (.int p1), .val (.ref a2), .val (.int p3), .val (.int p4), .val (.int p5), .val (.int p6), .val (.int (atF bs 0 p3 p4 p5 p6)), .val (.int (atF bs 1 p3 p4 p5 p6)), .val (.int (atF bs 2 p3 p4 p5 p6)), .val (.int (atF bs 3 p3 p4 p5 p6)), .val (.int (atF bs 4 p3 p4 p5 p6)), .val (.int (atF bs 5 p3 p4 p5 p6)), .val (.int (atF bs 6 p3 p4 p5 p6)), .val (.int (atF bs 7 p3 p4 p5 p6)), .val (.int (atF bs 8 p3 p4 p5 p6)), .val (.int (atF bs 9 p3 p4 p5 p6)), .val (.int (atF bs 10 p3 p4 p5 p6)), .val (.int (atF bs 11 p3 p4 p5 p6))] [(.int (11 : Int32)), (.ref b127), (.ref b127), (.ref b126), (.ref b126)])
              refine Goes.of (fun t => XS.iload X147.here hx rfl (hb hby d2_578) rfl) ?_
              show Goes p e below KK T147 (mkF m 580 #[.val (.int p1), .val (.ref a2), .val (.int p3), .val (.int p4), .val (.int p5), .val (.int p6), .val (.int (atF bs 0 p3 p4 p5 p6)), .val (.int (atF bs 1 p3 p4 p5 p6)), .val (.int (atF bs 2 p3 p4 p5 p6)), .val (.int (atF bs 3 p3 p4 p5 p6)), .val (.int (atF bs 4 p3 p4 p5 p6)), .val (.int (atF bs 5 p3 p4 p5 p6)), .val (.int (atF bs 6 p3 p4 p5 p6)), .val (.int (atF bs 7 p3 p4 p5 p6)), .val (.int (atF bs 8 p3 p4 p5 p6)), .val (.int (atF bs 9 p3 p4 p5 p6)), .val (.int (atF bs 10 p3 p4 p5 p6)), .val (.int (atF bs 11 p3 p4 p5 p6))] [(.int (atF bs 11 p3 p4 p5 p6)), (.int (11 : Int32)), (.ref b127), (.ref b127), (.ref b126), (.ref b126)])
              obtain ⟨T148, h148, X148, e148, W148, V148, st148⟩ := AI.castore X147 hx hZw e147 V_b127_147 (i := 11) (j := (11 : Int32)) (rfl) ((by simp)) (g := (mkF m 580 #[.val (.int p1), .val (.ref a2), .val (.int p3), .val (.int p4), .val (.int p5), .val (.int p6), .val (.int (atF bs 0 p3 p4 p5 p6)), .val (.int (atF bs 1 p3 p4 p5 p6)), .val (.int (atF bs 2 p3 p4 p5 p6)), .val (.int (atF bs 3 p3 p4 p5 p6)), .val (.int (atF bs 4 p3 p4 p5 p6)), .val (.int (atF bs 5 p3 p4 p5 p6)), .val (.int (atF bs 6 p3 p4 p5 p6)), .val (.int (atF bs 7 p3 p4 p5 p6)), .val (.int (atF bs 8 p3 p4 p5 p6)), .val (.int (atF bs 9 p3 p4 p5 p6)), .val (.int (atF bs 10 p3 p4 p5 p6)), .val (.int (atF bs 11 p3 p4 p5 p6))] [(.int (atF bs 11 p3 p4 p5 p6)), (.int (11 : Int32)), (.ref b127), (.ref b127), (.ref b126), (.ref b126)])) rfl rfl (hb hby d2_580)
              refine Goes.of (st148) ?_
              have sf_b126_148 := Safe.wr W148 sf_b127_147 CR147.1 sf_b126_147
              have sf_b127_148 := Safe.wr W148 sf_b127_147 CR147.1 sf_b127_147
              have CR148 := CR147.trans (CHr.wr W148 sf_b127_147 CR147.1)
              have E139_138_146_147_148 : Exa Z h148 a2 "java/lang/String" := E139_138_146_147.wr W148
              have F140_138_146_147_148 : Fld Z h148 a2 "java/lang/String" "coder" "B" (.int (0 : Int32)) := F140_138_146_147.other W148 (Or.inl ne_a2_b127)
              have F141_138_146_147_148 : Fld Z h148 a2 "java/lang/String" "value" "[B" (.ref b2) := F141_138_146_147.other W148 (Or.inl ne_a2_b127)
              have V142_138_146_147_148 : AI Z h148 b2 .byte bs := V142_138_146_147.other W148 ne_b2_b127
              have S143_138_146_147_148 : Sta Z h148 "java/lang/String" "COMPACT_STRINGS" "Z" (.int cz) := S143_138_146_147.wr W148
              have S144_138_146_147_148 : Sta Z h148 "jdk/internal/util/Preconditions" "SIOOBE_FORMATTER" "Ljava/util/function/BiFunction;" fm := S144_138_146_147.wr W148
              have E145_138_146_147_148 : Exa Z h148 b126 "java/lang/String" := E145_138_146_147.wr W148
              have F135_134_137_138_146_147_148 : Fld Z h148 b126 "java/lang/String" "value" "[B" .null := F135_134_137_138_146_147.other W148 (Or.inl ne_b126_b127)
              have F136_134_137_138_146_147_148 : Fld Z h148 b126 "java/lang/String" "coder" "B" (.int (0 : Int32)) := F136_134_137_138_146_147.other W148 (Or.inl ne_b126_b127)
              have K148 : Keep h0 h148 [] := K147.wr W148 (Or.inr sz_b127)
              have Z148 : n0 ≤ h148.size := Nat.le_trans Z147 (Keep.of_wr W148).1
              have HK148 := Nat.le_trans HK147 (Keep.of_wr W148).1
              have N148 := Fr.snoc X148 N147 g_b127
              have V_b127_148 : AI Z h148 b127 .char [(nar .char (atF bs 0 p3 p4 p5 p6)), (nar .char (atF bs 1 p3 p4 p5 p6)), (nar .char (atF bs 2 p3 p4 p5 p6)), (nar .char (atF bs 3 p3 p4 p5 p6)), (nar .char (atF bs 4 p3 p4 p5 p6)), (nar .char (atF bs 5 p3 p4 p5 p6)), (nar .char (atF bs 6 p3 p4 p5 p6)), (nar .char (atF bs 7 p3 p4 p5 p6)), (nar .char (atF bs 8 p3 p4 p5 p6)), (nar .char (atF bs 9 p3 p4 p5 p6)), (nar .char (atF bs 10 p3 p4 p5 p6)), (nar .char (atF bs 11 p3 p4 p5 p6))] := V148
              show Goes p e below KK T148 (mkF m 581 #[.val (.int p1), .val (.ref a2), .val (.int p3), .val (.int p4), .val (.int p5), .val (.int p6), .val (.int (atF bs 0 p3 p4 p5 p6)), .val (.int (atF bs 1 p3 p4 p5 p6)), .val (.int (atF bs 2 p3 p4 p5 p6)), .val (.int (atF bs 3 p3 p4 p5 p6)), .val (.int (atF bs 4 p3 p4 p5 p6)), .val (.int (atF bs 5 p3 p4 p5 p6)), .val (.int (atF bs 6 p3 p4 p5 p6)), .val (.int (atF bs 7 p3 p4 p5 p6)), .val (.int (atF bs 8 p3 p4 p5 p6)), .val (.int (atF bs 9 p3 p4 p5 p6)), .val (.int (atF bs 10 p3 p4 p5 p6)), .val (.int (atF bs 11 p3 p4 p5 p6))] [(.ref b127), (.ref b126), (.ref b126)])
              obtain ⟨_, _, ⟨T149, L149, k149, n149⟩, -, X149, ⟨Lc149, hQ149, l149, y149, z149⟩, st149⟩ := X148.specialBack hx (y := (⟨"java/lang/String", "<init>", "([C)V"⟩ : MethodName)) rfl hownw (mvT hZw w_56) (mvT hZw w_57) (mvT hZw w_58) (by decide) (backOf (W := 1) (rm11N l Z a0 hw [] b126 b127 [(nar .char (atF bs 0 p3 p4 p5 p6)), (nar .char (atF bs 1 p3 p4 p5 p6)), (nar .char (atF bs 2 p3 p4 p5 p6)), (nar .char (atF bs 3 p3 p4 p5 p6)), (nar .char (atF bs 4 p3 p4 p5 p6)), (nar .char (atF bs 5 p3 p4 p5 p6)), (nar .char (atF bs 6 p3 p4 p5 p6)), (nar .char (atF bs 7 p3 p4 p5 p6)), (nar .char (atF bs 8 p3 p4 p5 p6)), (nar .char (atF bs 9 p3 p4 p5 p6)), (nar .char (atF bs 10 p3 p4 p5 p6)), (nar .char (atF bs 11 p3 p4 p5 p6))] 12 cz h148 n0 Z148 E145_138_146_147_148 F136_134_137_138_146_147_148 F135_134_137_138_146_147_148 g_b126 V_b127_148 rfl (by simp) (by simp) (own_cs hbs hd hf 12) S143_138_146_147_148 hcz) hZw w_58 w_1 (by decide) (by decide)) (g := (mkF m 581 #[.val (.int p1), .val (.ref a2), .val (.int p3), .val (.int p4), .val (.int p5), .val (.int p6), .val (.int (atF bs 0 p3 p4 p5 p6)), .val (.int (atF bs 1 p3 p4 p5 p6)), .val (.int (atF bs 2 p3 p4 p5 p6)), .val (.int (atF bs 3 p3 p4 p5 p6)), .val (.int (atF bs 4 p3 p4 p5 p6)), .val (.int (atF bs 5 p3 p4 p5 p6)), .val (.int (atF bs 6 p3 p4 p5 p6)), .val (.int (atF bs 7 p3 p4 p5 p6)), .val (.int (atF bs 8 p3 p4 p5 p6)), .val (.int (atF bs 9 p3 p4 p5 p6)), .val (.int (atF bs 10 p3 p4 p5 p6)), .val (.int (atF bs 11 p3 p4 p5 p6))] [(.ref b127), (.ref b126), (.ref b126)])) rfl (by rw [hml]; rfl) (Steps.refl _) (a := b126) (argsL := [(.ref b127)]) (rest := [(.ref b126)]) (lenOf pd_27 rfl) rfl (by show 2 * 0 + _ ≤ _; exact Nat.le_of_eq rfl) (hb hby d2_581) (fun _ _ => ⟨rfl, e148, (by decide : 2 + 1 ≤ _), (by decide : 16 + 12 ≤ _)⟩)
              dsimp only [Pt.U, Pt.locs, Pt.cells, Pt.slots] at X149 l149 y149 z149 st149 hQ149
              subst y149 z149
              obtain ⟨r149, rfl, N149q, Kc149, hb149, E149, Fc149, Fv149, V149⟩ := hQ149
              have N149 : Fr n0 L149 := by rw [l149]; exact Fr.app N148 N149q
              have ne_a2_r149 : a2 ≠ r149 := Nat.ne_of_lt (Nat.lt_of_lt_of_le E139_138_146_147_148.lt hb149)
              have ne_b2_r149 : b2 ≠ r149 := Nat.ne_of_lt (Nat.lt_of_lt_of_le V142_138_146_147_148.lt hb149)
              have ne_b126_r149 : b126 ≠ r149 := Nat.ne_of_lt (Nat.lt_of_lt_of_le E145_138_146_147_148.lt hb149)
              have ne_b127_r149 : b127 ≠ r149 := Nat.ne_of_lt (Nat.lt_of_lt_of_le V_b127_148.lt hb149)
              have g_r149 : n0 ≤ r149 := Nat.le_trans Z148 hb149
              have sz_r149 : h0.size ≤ r149 := Nat.le_trans K148.1 hb149
              have sf_b126_149 := Safe.keep Kc149 (sfS sf_b126_148 sf0) CR148.1 sf_b126_148
              have sf_b127_149 := Safe.keep Kc149 (sfS sf_b126_148 sf0) CR148.1 sf_b127_148
              have CR149 := CR148.trans (CHr.keep Kc149 (sfS sf_b126_148 sf0) CR148.1)
              have E139_138_146_147_148_149 : Exa Z T149.heap a2 "java/lang/String" := E139_138_146_147_148.keep Kc149
              have F140_138_146_147_148_149 : Fld Z T149.heap a2 "java/lang/String" "coder" "B" (.int (0 : Int32)) := F140_138_146_147_148.keep Kc149 (ninS ne_a2_b126 nin0)
              have F141_138_146_147_148_149 : Fld Z T149.heap a2 "java/lang/String" "value" "[B" (.ref b2) := F141_138_146_147_148.keep Kc149 (ninS ne_a2_b126 nin0)
              have V142_138_146_147_148_149 : AI Z T149.heap b2 .byte bs := V142_138_146_147_148.keep Kc149 (ninS ne_b2_b126 nin0)
              have E145_138_146_147_148_149 : Exa Z T149.heap b126 "java/lang/String" := E145_138_146_147_148.keep Kc149
              have K149 : Keep h0 T149.heap [] := K148.trans Kc149 (allS (Or.inr sz_b126) all0)
              have Z149 : n0 ≤ T149.heap.size := Nat.le_trans Z148 Kc149.1
              have HK149 := Nat.le_trans HK148 Kc149.1
              have e149 : T149.heap = T149.heap := rfl
              refine Goes.tr st149 ?_
              show Goes p e below KK T149 (mkF m 584 #[.val (.int p1), .val (.ref a2), .val (.int p3), .val (.int p4), .val (.int p5), .val (.int p6), .val (.int (atF bs 0 p3 p4 p5 p6)), .val (.int (atF bs 1 p3 p4 p5 p6)), .val (.int (atF bs 2 p3 p4 p5 p6)), .val (.int (atF bs 3 p3 p4 p5 p6)), .val (.int (atF bs 4 p3 p4 p5 p6)), .val (.int (atF bs 5 p3 p4 p5 p6)), .val (.int (atF bs 6 p3 p4 p5 p6)), .val (.int (atF bs 7 p3 p4 p5 p6)), .val (.int (atF bs 8 p3 p4 p5 p6)), .val (.int (atF bs 9 p3 p4 p5 p6)), .val (.int (atF bs 10 p3 p4 p5 p6)), .val (.int (atF bs 11 p3 p4 p5 p6))] [(.ref b126)])
              have hkk' : kk = 12 := by
                have z0 : (0 : Int32).toInt = 0 := rfl
                have z7 : (7 : Int32).toInt = 7 := rfl
                have z8 : (8 : Int32).toInt = 8 := rfl
                have z9 : (9 : Int32).toInt = 9 := rfl
                have z10 : (10 : Int32).toInt = 10 := rfl
                have z11 : (11 : Int32).toInt = 11 := rfl
                have z12 : (12 : Int32).toInt = 12 := rfl
                have qhc163 : ¬ p1.toInt = (0 : Int32).toInt := fun q => hc163 (Int32.toInt_inj.mp q)
                have qhc180 : ¬ p1.toInt = (7 : Int32).toInt := fun q => hc180 (Int32.toInt_inj.mp q)
                have qhc234 : ¬ p1.toInt = (8 : Int32).toInt := fun q => hc234 (Int32.toInt_inj.mp q)
                have qhc294 : ¬ p1.toInt = (9 : Int32).toInt := fun q => hc294 (Int32.toInt_inj.mp q)
                have qhc360 : ¬ p1.toInt = (10 : Int32).toInt := fun q => hc360 (Int32.toInt_inj.mp q)
                have qhc432 : ¬ p1.toInt = (11 : Int32).toInt := fun q => hc432 (Int32.toInt_inj.mp q)
                omega
              subst hkk'
              rw [← hKK]
              refine Goes.retRefH X149 HS0 (by rw [e149]; exact HK149) (by rw [e149, hh]; exact CR149.trans (CHv.at X149 hZw hEL CR149.1)) hx hlk rfl rfl Bd.returns (hb hby d2_584) ?_ (by decide) (by decide)
              rw [e149]
              exact ⟨b126, r149, rfl, N149, K149, E149, Fc149, Fv149, V149⟩
theorem d19_0 : decode jdk_43_method_13_code 0 = .ok (.aload_n 0, 1) := by decide +kernel
theorem d19_1 : decode jdk_43_method_13_code 1 = .ok (.arraylength, 1) := by decide +kernel
theorem d19_2 : decode jdk_43_method_13_code 2 = .ok (.aload_n 1, 1) := by decide +kernel
theorem d19_3 : decode jdk_43_method_13_code 3 = .ok (.arraylength, 1) := by decide +kernel
theorem d19_4 : decode jdk_43_method_13_code 4 = .ok (.if_icmp .ne 30, 3) := by decide +kernel
theorem d19_7 : decode jdk_43_method_13_code 7 = .ok (.iconst 0, 1) := by decide +kernel
theorem d19_8 : decode jdk_43_method_13_code 8 = .ok (.istore_n 2, 1) := by decide +kernel
theorem d19_9 : decode jdk_43_method_13_code 9 = .ok (.iload_n 2, 1) := by decide +kernel
theorem d19_10 : decode jdk_43_method_13_code 10 = .ok (.aload_n 0, 1) := by decide +kernel
theorem d19_11 : decode jdk_43_method_13_code 11 = .ok (.arraylength, 1) := by decide +kernel
theorem d19_12 : decode jdk_43_method_13_code 12 = .ok (.if_icmp .ge 20, 3) := by decide +kernel
theorem d19_15 : decode jdk_43_method_13_code 15 = .ok (.aload_n 0, 1) := by decide +kernel
theorem d19_16 : decode jdk_43_method_13_code 16 = .ok (.iload_n 2, 1) := by decide +kernel
theorem d19_17 : decode jdk_43_method_13_code 17 = .ok (.baload, 1) := by decide +kernel
theorem d19_18 : decode jdk_43_method_13_code 18 = .ok (.aload_n 1, 1) := by decide +kernel
theorem d19_19 : decode jdk_43_method_13_code 19 = .ok (.iload_n 2, 1) := by decide +kernel
theorem d19_20 : decode jdk_43_method_13_code 20 = .ok (.baload, 1) := by decide +kernel
theorem d19_21 : decode jdk_43_method_13_code 21 = .ok (.if_icmp .eq 5, 3) := by decide +kernel
theorem d19_24 : decode jdk_43_method_13_code 24 = .ok (.iconst 0, 1) := by decide +kernel
theorem d19_25 : decode jdk_43_method_13_code 25 = .ok (.ireturn, 1) := by decide +kernel
theorem d19_26 : decode jdk_43_method_13_code 26 = .ok (.iinc 2 1, 3) := by decide +kernel
theorem d19_29 : decode jdk_43_method_13_code 29 = .ok (.goto (-20), 3) := by decide +kernel
theorem d19_32 : decode jdk_43_method_13_code 32 = .ok (.iconst 1, 1) := by decide +kernel
theorem d19_33 : decode jdk_43_method_13_code 33 = .ok (.ireturn, 1) := by decide +kernel
theorem d19_34 : decode jdk_43_method_13_code 34 = .ok (.iconst 0, 1) := by decide +kernel
theorem d19_35 : decode jdk_43_method_13_code 35 = .ok (.ireturn, 1) := by decide +kernel
theorem pn_19 : plainFor (⟨"java/lang/StringLatin1", "equals", "([B[B)Z"⟩ : MethodName) = true := plainFor_of_name (by first | (simp [plainName, overriddenIn]; done) | decide +kernel)
theorem ef_19 (m : MethodId) (x0 : Addr) (x1 : Addr) : entryFrame m #[(.ref x0), (.ref x1)] 3 = mkF m 0 #[.val (.ref x0), .val (.ref x1), .unset] [] := by first | (simp [entryFrame, mkF, argsToLocals, Value.category]; done) | rfl
def Q19 (Z : State) (a1 : Addr) (a2 : Addr) (xs : List Int32) (ys : List Int32) (n1 : Int32) (n2 : Int32) (h0 : Heap) (n0 : Nat) (v : Option Value) (h : Heap) (L : List Loc) : Prop := v = some (.int (if xs = ys then 1 else 0)) ∧ Fr n0 L ∧ h = h0
set_option maxRecDepth 65536 in
set_option maxHeartbeats 40000000 in
theorem rm19 (l : Launch) (Z : State) (a0 : Array Value) (hw : ∀ d ∈ tables_1, d.before a0 Z = true) (ws : List Jvm.Cond) (a1 : Addr) (a2 : Addr) (xs : List Int32) (ys : List Int32) (n1 : Int32) (n2 : Int32) (h0 : Heap) (n0 : Nat) (Z0 : n0 ≤ h0.size) (V_a1 : AI Z h0 a1 .byte xs) (V_a2 : AI Z h0 a2 .byte ys) (hn1 : n1.toInt = (xs.length : Int)) (hn2 : n2.toInt = (ys.length : Int)) (hb1 : xs.length < 2147483647) :
    MetFree l (⟨"java/lang/StringLatin1", "equals", "([B[B)Z"⟩ : MethodName) (head1 (Jvm.Cond.code (⟨"java/lang/StringLatin1", "equals", "([B[B)Z"⟩ : MethodName) jdk_43_method_13_code 3 (some .boolean) :: ws) ({ frames := 0, cells := 0, slots := 0, locals := 0 } : Room)) (fun a U => a = #[(.ref a1), (.ref a2)] ∧ Z.Warmed39 U.vm ∧ U.heap = h0) (fun _ _ _ _ _ => True) (fun _ U o U' => ∃ v L, o = .returned v ∧ Q19 Z a1 a2 xs ys n1 n2 h0 n0 v U'.heap L ∧ FrameEnd U o U' L ({ frames := 0, cells := 0, slots := 0, locals := 0 } : Room).cells ({ frames := 0, cells := 0, slots := 0, locals := 0 } : Room).slots) := by
  refine MetFree.of_bodySF pn_19 hisR ?_
  intro p e s m args below meth c s₁ Bd hml0 hP hK
  obtain ⟨rfl, hZ, hh⟩ := hP
  have hx := Bd.exec
  have hby := Bd.bytes
  have hml : c.maxLocals = 3 := hml0
  have hown : s.vm.findClass "java/lang/StringLatin1" = some m.cls := findClass_of_methodNamed Bd.named
  have hnm := (name_of_methodNamed Bd.named Bd.method).1
  have hlk : meth.locks = false := BodyLoose.notSynchronized Bd
  have X0 : Stand p l e ({ frames := 0, cells := 0, slots := 0, locals := 0 } : Room) s m #[(.ref a1), (.ref a2)] below meth c s₁ [] 0 0 := Stand.of_body Bd
  have e0 : s₁.heap = h0 := by rw [← hh, Bd.state]; rfl
  have N0 := Fr.nil n0
  show Goes p e below (OwnK s (Q19 Z a1 a2 xs ys n1 n2 h0 n0) ({ frames := 0, cells := 0, slots := 0, locals := 0 } : Room).cells ({ frames := 0, cells := 0, slots := 0, locals := 0 } : Room).slots) s₁ (entryFrame m #[(.ref a1), (.ref a2)] 3)
  refine Goes.cast (ef_19 m a1 a2) ?_
  generalize hKK : OwnK s (Q19 Z a1 a2 xs ys n1 n2 h0 n0) ({ frames := 0, cells := 0, slots := 0, locals := 0 } : Room).cells ({ frames := 0, cells := 0, slots := 0, locals := 0 } : Room).slots = KK
  show Goes p e below KK s₁ (mkF m 0 #[.val (.ref a1), .val (.ref a2), .unset] [])
  refine Goes.of (fun t => XS.aloadN X0.here hx rfl (hb hby d19_0) rfl rfl) ?_
  show Goes p e below KK s₁ (mkF m 1 #[.val (.ref a1), .val (.ref a2), .unset] [(.ref a1)])
  refine Goes.of (AI.arraylength X0 hx hZ e0 V_a1 (j := n1) (hn1) (g := (mkF m 1 #[.val (.ref a1), .val (.ref a2), .unset] [(.ref a1)])) rfl rfl (hb hby d19_1)) ?_
  show Goes p e below KK s₁ (mkF m 2 #[.val (.ref a1), .val (.ref a2), .unset] [(.int n1)])
  refine Goes.of (fun t => XS.aloadN X0.here hx rfl (hb hby d19_2) rfl rfl) ?_
  show Goes p e below KK s₁ (mkF m 3 #[.val (.ref a1), .val (.ref a2), .unset] [(.ref a2), (.int n1)])
  refine Goes.of (AI.arraylength X0 hx hZ e0 V_a2 (j := n2) (hn2) (g := (mkF m 3 #[.val (.ref a1), .val (.ref a2), .unset] [(.ref a2), (.int n1)])) rfl rfl (hb hby d19_3)) ?_
  show Goes p e below KK s₁ (mkF m 4 #[.val (.ref a1), .val (.ref a2), .unset] [(.int n2), (.int n1)])
  by_cases hc4 : n1 = n2
  · refine Goes.of (fun t => XS.icmpNo X0.here hx rfl (hb hby d19_4) rfl (teq hc4).2) ?_
    show Goes p e below KK s₁ (mkF m 7 #[.val (.ref a1), .val (.ref a2), .unset] [])
    refine Goes.of (fun t => XS.iconst X0.here hx rfl (hb hby d19_7)) ?_
    show Goes p e below KK s₁ (mkF m 8 #[.val (.ref a1), .val (.ref a2), .unset] [(.int (0 : Int32))])
    refine Goes.of (fun t => XS.istoreN X0.here hx rfl (hb hby d19_8) rfl (l' := #[.val (.ref a1), .val (.ref a2), .val (.int (0 : Int32))]) rfl) ?_
    show Goes p e below KK s₁ (mkF m 9 #[.val (.ref a1), .val (.ref a2), .val (.int (0 : Int32))] [])
    have hlen : xs.length = ys.length := by have q := congrArg Int32.toInt hc4; omega
    have lp : ∀ (d i : Nat) (zi : Int32), zi.toInt = (i : Int) → i + d = xs.length → (∀ j, j < i → xs[j]? = ys[j]?) → Goes p e below KK s₁ (mkF m 9 #[.val (.ref a1), .val (.ref a2), .val (.int zi)] []) := by
      intro d
      induction d with
      | zero =>
        intro i zi hzi hid hpre
        show Goes p e below KK s₁ (mkF m 9 #[.val (.ref a1), .val (.ref a2), .val (.int zi)] [])
        refine Goes.of (fun t => XS.iloadN X0.here hx rfl (hb hby d19_9) rfl) ?_
        show Goes p e below KK s₁ (mkF m 10 #[.val (.ref a1), .val (.ref a2), .val (.int zi)] [(.int zi)])
        refine Goes.of (fun t => XS.aloadN X0.here hx rfl (hb hby d19_10) rfl rfl) ?_
        show Goes p e below KK s₁ (mkF m 11 #[.val (.ref a1), .val (.ref a2), .val (.int zi)] [(.ref a1), (.int zi)])
        refine Goes.of (AI.arraylength X0 hx hZ e0 V_a1 (j := n1) (hn1) (g := (mkF m 11 #[.val (.ref a1), .val (.ref a2), .val (.int zi)] [(.ref a1), (.int zi)])) rfl rfl (hb hby d19_11)) ?_
        show Goes p e below KK s₁ (mkF m 12 #[.val (.ref a1), .val (.ref a2), .val (.int zi)] [(.int n1), (.int zi)])
        refine Goes.of (fun t => XS.icmpYes X0.here hx rfl (pc0 := 12) (pc' := 32) rfl (hb hby d19_12) rfl (flt (show ¬ (zi < n1) from fun q => by rw [Int32.lt_iff_toInt_lt, hzi, hn1] at q; omega)).2.1 (by decide) (by decide)) ?_
        show Goes p e below KK s₁ (mkF m 32 #[.val (.ref a1), .val (.ref a2), .val (.int zi)] [])
        refine Goes.of (fun t => XS.iconst X0.here hx rfl (hb hby d19_32)) ?_
        show Goes p e below KK s₁ (mkF m 33 #[.val (.ref a1), .val (.ref a2), .val (.int zi)] [(.int (1 : Int32))])
        rw [← hKK]
        refine Goes.retNar X0 hx hlk (t := .boolean) (by simp) Bd.returns (hb hby d19_33) ?_ (by decide) (by decide)
        rw [e0]
        exact ⟨by rw [if_pos (List.ext_getElem? fun j => by
                    rcases Nat.lt_or_ge j xs.length with q | q
                    · exact hpre j (by omega)
                    · rw [List.getElem?_eq_none q, List.getElem?_eq_none (by omega)])]; rfl, N0, rfl⟩
      | succ d ih =>
        intro i zi hzi hid hpre
        obtain ⟨x1, hx1⟩ : ∃ x, xs[i]? = some x := ⟨_, List.getElem?_eq_getElem (by omega)⟩
        obtain ⟨y1, hy1⟩ : ∃ x, ys[i]? = some x := ⟨_, List.getElem?_eq_getElem (by omega)⟩
        show Goes p e below KK s₁ (mkF m 9 #[.val (.ref a1), .val (.ref a2), .val (.int zi)] [])
        refine Goes.of (fun t => XS.iloadN X0.here hx rfl (hb hby d19_9) rfl) ?_
        show Goes p e below KK s₁ (mkF m 10 #[.val (.ref a1), .val (.ref a2), .val (.int zi)] [(.int zi)])
        refine Goes.of (fun t => XS.aloadN X0.here hx rfl (hb hby d19_10) rfl rfl) ?_
        show Goes p e below KK s₁ (mkF m 11 #[.val (.ref a1), .val (.ref a2), .val (.int zi)] [(.ref a1), (.int zi)])
        refine Goes.of (AI.arraylength X0 hx hZ e0 V_a1 (j := n1) (hn1) (g := (mkF m 11 #[.val (.ref a1), .val (.ref a2), .val (.int zi)] [(.ref a1), (.int zi)])) rfl rfl (hb hby d19_11)) ?_
        show Goes p e below KK s₁ (mkF m 12 #[.val (.ref a1), .val (.ref a2), .val (.int zi)] [(.int n1), (.int zi)])
        refine Goes.of (fun t => XS.icmpNo X0.here hx rfl (hb hby d19_12) rfl (tlt (show zi < n1 from by rw [Int32.lt_iff_toInt_lt, hzi, hn1]; omega)).2.1) ?_
        show Goes p e below KK s₁ (mkF m 15 #[.val (.ref a1), .val (.ref a2), .val (.int zi)] [])
        refine Goes.of (fun t => XS.aloadN X0.here hx rfl (hb hby d19_15) rfl rfl) ?_
        show Goes p e below KK s₁ (mkF m 16 #[.val (.ref a1), .val (.ref a2), .val (.int zi)] [(.ref a1)])
        refine Goes.of (fun t => XS.iloadN X0.here hx rfl (hb hby d19_16) rfl) ?_
        show Goes p e below KK s₁ (mkF m 17 #[.val (.ref a1), .val (.ref a2), .val (.int zi)] [(.int zi), (.ref a1)])
        refine Goes.of (AI.baload X0 hx hZ e0 V_a1 (i := i) (j := zi) (x := x1) (hzi) (hx1) (g := (mkF m 17 #[.val (.ref a1), .val (.ref a2), .val (.int zi)] [(.int zi), (.ref a1)])) rfl rfl (hb hby d19_17)) ?_
        show Goes p e below KK s₁ (mkF m 18 #[.val (.ref a1), .val (.ref a2), .val (.int zi)] [(.int x1)])
        refine Goes.of (fun t => XS.aloadN X0.here hx rfl (hb hby d19_18) rfl rfl) ?_
        show Goes p e below KK s₁ (mkF m 19 #[.val (.ref a1), .val (.ref a2), .val (.int zi)] [(.ref a2), (.int x1)])
        refine Goes.of (fun t => XS.iloadN X0.here hx rfl (hb hby d19_19) rfl) ?_
        show Goes p e below KK s₁ (mkF m 20 #[.val (.ref a1), .val (.ref a2), .val (.int zi)] [(.int zi), (.ref a2), (.int x1)])
        refine Goes.of (AI.baload X0 hx hZ e0 V_a2 (i := i) (j := zi) (x := y1) (hzi) (hy1) (g := (mkF m 20 #[.val (.ref a1), .val (.ref a2), .val (.int zi)] [(.int zi), (.ref a2), (.int x1)])) rfl rfl (hb hby d19_20)) ?_
        show Goes p e below KK s₁ (mkF m 21 #[.val (.ref a1), .val (.ref a2), .val (.int zi)] [(.int y1), (.int x1)])
        by_cases hc21 : x1 = y1
        · refine Goes.of (fun t => XS.icmpYes X0.here hx rfl (pc0 := 21) (pc' := 26) rfl (hb hby d19_21) rfl (teq hc21).1 (by decide) (by decide)) ?_
          show Goes p e below KK s₁ (mkF m 26 #[.val (.ref a1), .val (.ref a2), .val (.int zi)] [])
          refine Goes.of (fun t => XS.iinc X0.here hx rfl (hb hby d19_26) rfl (l' := #[.val (.ref a1), .val (.ref a2), .val (.int (zi + (1 : Int32)))]) rfl) ?_
          show Goes p e below KK s₁ (mkF m 29 #[.val (.ref a1), .val (.ref a2), .val (.int (zi + (1 : Int32)))] [])
          refine Goes.of (fun t => XS.goto X0.here hx rfl (pc0 := 29) (pc' := 9) rfl (hb hby d19_29) (by decide) (by decide)) ?_
          show Goes p e below KK s₁ (mkF m 9 #[.val (.ref a1), .val (.ref a2), .val (.int (zi + (1 : Int32)))] [])
          refine ih (i + 1) _ ?_ (by omega) (fun j q => ?_)
          · have q1 : (1 : Int32).toInt = 1 := rfl
            rw [Jvm.Kit.i32_add (by omega) (by omega), hzi, q1]; rfl
          · rcases Nat.lt_or_ge j i with q1 | q1
            · exact hpre j q1
            · obtain rfl : j = i := by omega
              rw [hx1, hy1, hc21]
        · refine Goes.of (fun t => XS.icmpNo X0.here hx rfl (hb hby d19_21) rfl (feq hc21).1) ?_
          show Goes p e below KK s₁ (mkF m 24 #[.val (.ref a1), .val (.ref a2), .val (.int zi)] [])
          refine Goes.of (fun t => XS.iconst X0.here hx rfl (hb hby d19_24)) ?_
          show Goes p e below KK s₁ (mkF m 25 #[.val (.ref a1), .val (.ref a2), .val (.int zi)] [(.int (0 : Int32))])
          rw [← hKK]
          refine Goes.retNar X0 hx hlk (t := .boolean) (by simp) Bd.returns (hb hby d19_25) ?_ (by decide) (by decide)
          rw [e0]
          exact ⟨by rw [if_neg (fun q => by subst q; rw [hx1] at hy1; exact hc21 (Option.some.inj hy1))]; rfl, N0, rfl⟩
    exact lp xs.length 0 0 rfl (by omega) (fun j q => absurd q (Nat.not_lt_zero j))
  · refine Goes.of (fun t => XS.icmpYes X0.here hx rfl (pc0 := 4) (pc' := 34) rfl (hb hby d19_4) rfl (feq hc4).2 (by decide) (by decide)) ?_
    show Goes p e below KK s₁ (mkF m 34 #[.val (.ref a1), .val (.ref a2), .unset] [])
    refine Goes.of (fun t => XS.iconst X0.here hx rfl (hb hby d19_34)) ?_
    show Goes p e below KK s₁ (mkF m 35 #[.val (.ref a1), .val (.ref a2), .unset] [(.int (0 : Int32))])
    rw [← hKK]
    refine Goes.retNar X0 hx hlk (t := .boolean) (by simp) Bd.returns (hb hby d19_35) ?_ (by decide) (by decide)
    rw [e0]
    exact ⟨by rw [if_neg (fun q => hc4 (Int32.toInt_inj.mp (by rw [hn1, hn2, q])))]; rfl, N0, rfl⟩
theorem d18_0 : decode jdk_42_method_66_code 0 = .ok (.aload_n 0, 1) := by decide +kernel
theorem d18_1 : decode jdk_42_method_66_code 1 = .ok (.aload_n 1, 1) := by decide +kernel
theorem d18_2 : decode jdk_42_method_66_code 2 = .ok (.if_acmp .ne 5, 3) := by decide +kernel
theorem d18_5 : decode jdk_42_method_66_code 5 = .ok (.iconst 1, 1) := by decide +kernel
theorem d18_6 : decode jdk_42_method_66_code 6 = .ok (.ireturn, 1) := by decide +kernel
theorem d18_7 : decode jdk_42_method_66_code 7 = .ok (.aload_n 1, 1) := by decide +kernel
theorem d18_8 : decode jdk_42_method_66_code 8 = .ok (.instanceof 10, 3) := by decide +kernel
theorem d18_11 : decode jdk_42_method_66_code 11 = .ok (.ifCond .eq 43, 3) := by decide +kernel
theorem d18_14 : decode jdk_42_method_66_code 14 = .ok (.aload_n 1, 1) := by decide +kernel
theorem d18_15 : decode jdk_42_method_66_code 15 = .ok (.checkcast 10, 3) := by decide +kernel
theorem d18_18 : decode jdk_42_method_66_code 18 = .ok (.astore_n 2, 1) := by decide +kernel
theorem d18_19 : decode jdk_42_method_66_code 19 = .ok (.getstatic 38, 3) := by decide +kernel
theorem d18_22 : decode jdk_42_method_66_code 22 = .ok (.ifCond .eq 14, 3) := by decide +kernel
theorem d18_25 : decode jdk_42_method_66_code 25 = .ok (.aload_n 0, 1) := by decide +kernel
theorem d18_26 : decode jdk_42_method_66_code 26 = .ok (.getfield 15, 3) := by decide +kernel
theorem d18_29 : decode jdk_42_method_66_code 29 = .ok (.aload_n 2, 1) := by decide +kernel
theorem d18_30 : decode jdk_42_method_66_code 30 = .ok (.getfield 15, 3) := by decide +kernel
theorem d18_33 : decode jdk_42_method_66_code 33 = .ok (.if_icmp .ne 21, 3) := by decide +kernel
theorem d18_36 : decode jdk_42_method_66_code 36 = .ok (.aload_n 0, 1) := by decide +kernel
theorem d18_37 : decode jdk_42_method_66_code 37 = .ok (.getfield 9, 3) := by decide +kernel
theorem d18_40 : decode jdk_42_method_66_code 40 = .ok (.aload_n 2, 1) := by decide +kernel
theorem d18_41 : decode jdk_42_method_66_code 41 = .ok (.getfield 9, 3) := by decide +kernel
theorem d18_44 : decode jdk_42_method_66_code 44 = .ok (.invokestatic 541, 3) := by decide +kernel
theorem d18_47 : decode jdk_42_method_66_code 47 = .ok (.ifCond .eq 7, 3) := by decide +kernel
theorem d18_50 : decode jdk_42_method_66_code 50 = .ok (.iconst 1, 1) := by decide +kernel
theorem d18_51 : decode jdk_42_method_66_code 51 = .ok (.goto 4, 3) := by decide +kernel
theorem d18_54 : decode jdk_42_method_66_code 54 = .ok (.iconst 0, 1) := by decide +kernel
theorem d18_55 : decode jdk_42_method_66_code 55 = .ok (.ireturn, 1) := by decide +kernel
theorem pn_18 : plainFor (⟨"java/lang/String", "equals", "(Ljava/lang/Object;)Z"⟩ : MethodName) = true := plainFor_of_name (by first | (simp [plainName, overriddenIn]; done) | decide +kernel)
theorem pd_30 : parseMethodDescriptor "([B[B)Z" = some ⟨[(.array .byte), (.array .byte)], some .boolean⟩ := by decide +kernel
theorem ef_18 (m : MethodId) (x0 : Addr) (x1 : Addr) : entryFrame m #[(.ref x0), (.ref x1)] 3 = mkF m 0 #[.val (.ref x0), .val (.ref x1), .unset] [] := by first | (simp [entryFrame, mkF, argsToLocals, Value.category]; done) | rfl
def Q18 (Z : State) (a1 : Addr) (a2 : Addr) (b1 : Addr) (xs : List Int32) (b2 : Addr) (ys : List Int32) (n1 : Int32) (n2 : Int32) (cz : Int32) (h0 : Heap) (n0 : Nat) (v : Option Value) (h : Heap) (L : List Loc) : Prop := v = some (.int (if xs = ys then 1 else 0)) ∧ Fr n0 L ∧ h = h0
set_option maxRecDepth 65536 in
set_option maxHeartbeats 40000000 in
theorem rm18 (l : Launch) (Z : State) (a0 : Array Value) (hw : ∀ d ∈ tables_1, d.before a0 Z = true) (ws : List Jvm.Cond) (a1 : Addr) (a2 : Addr) (b1 : Addr) (xs : List Int32) (b2 : Addr) (ys : List Int32) (n1 : Int32) (n2 : Int32) (cz : Int32) (h0 : Heap) (n0 : Nat) (Z0 : n0 ≤ h0.size) (E1 : Exa Z h0 a1 "java/lang/String") (C1 : Fld Z h0 a1 "java/lang/String" "coder" "B" (.int (0 : Int32))) (W1v : Fld Z h0 a1 "java/lang/String" "value" "[B" (.ref b1)) (V1 : AI Z h0 b1 .byte xs) (E2 : Exa Z h0 a2 "java/lang/String") (C2 : Fld Z h0 a2 "java/lang/String" "coder" "B" (.int (0 : Int32))) (W2v : Fld Z h0 a2 "java/lang/String" "value" "[B" (.ref b2)) (V2 : AI Z h0 b2 .byte ys) (hn1 : n1.toInt = (xs.length : Int)) (hn2 : n2.toInt = (ys.length : Int)) (hb1 : xs.length < 2147483647) (Scs : Sta Z h0 "java/lang/String" "COMPACT_STRINGS" "Z" (.int cz)) (hcz : ¬ cz = 0) :
    MetFree l (⟨"java/lang/String", "equals", "(Ljava/lang/Object;)Z"⟩ : MethodName) (head1 (Jvm.Cond.code (⟨"java/lang/String", "equals", "(Ljava/lang/Object;)Z"⟩ : MethodName) jdk_42_method_66_code 3 (some .boolean) :: ws) ({ frames := 1, cells := 0, slots := 0, locals := 14 } : Room)) (fun a U => a = #[(.ref a1), (.ref a2)] ∧ Z.Warmed39 U.vm ∧ U.heap = h0) (fun _ _ _ _ _ => True) (fun _ U o U' => ∃ v L, o = .returned v ∧ Q18 Z a1 a2 b1 xs b2 ys n1 n2 cz h0 n0 v U'.heap L ∧ FrameEnd U o U' L ({ frames := 1, cells := 0, slots := 0, locals := 14 } : Room).cells ({ frames := 1, cells := 0, slots := 0, locals := 14 } : Room).slots) := by
  refine MetFree.of_bodySF pn_18 hisR ?_
  intro p e s m args below meth c s₁ Bd hml0 hP hK
  obtain ⟨rfl, hZ, hh⟩ := hP
  have hx := Bd.exec
  have hby := Bd.bytes
  have hml : c.maxLocals = 3 := hml0
  have hown : s.vm.findClass "java/lang/String" = some m.cls := findClass_of_methodNamed Bd.named
  have hnm := (name_of_methodNamed Bd.named Bd.method).1
  have hlk : meth.locks = false := BodyLoose.notSynchronized Bd
  have X0 : Stand p l e ({ frames := 1, cells := 0, slots := 0, locals := 14 } : Room) s m #[(.ref a1), (.ref a2)] below meth c s₁ [] 0 0 := Stand.of_body Bd
  have e0 : s₁.heap = h0 := by rw [← hh, Bd.state]; rfl
  have N0 := Fr.nil n0
  show Goes p e below (OwnK s (Q18 Z a1 a2 b1 xs b2 ys n1 n2 cz h0 n0) ({ frames := 1, cells := 0, slots := 0, locals := 14 } : Room).cells ({ frames := 1, cells := 0, slots := 0, locals := 14 } : Room).slots) s₁ (entryFrame m #[(.ref a1), (.ref a2)] 3)
  refine Goes.cast (ef_18 m a1 a2) ?_
  generalize hKK : OwnK s (Q18 Z a1 a2 b1 xs b2 ys n1 n2 cz h0 n0) ({ frames := 1, cells := 0, slots := 0, locals := 14 } : Room).cells ({ frames := 1, cells := 0, slots := 0, locals := 14 } : Room).slots = KK
  show Goes p e below KK s₁ (mkF m 0 #[.val (.ref a1), .val (.ref a2), .unset] [])
  have w_24 := hw _ (List.mem_of_getElem? (i := 24) rfl)
  have w_30 := hw _ (List.mem_of_getElem? (i := 30) rfl)
  have w_31 := hw _ (List.mem_of_getElem? (i := 31) rfl)
  have w_44 := hw _ (List.mem_of_getElem? (i := 44) rfl)
  have w_86 := hw _ (List.mem_of_getElem? (i := 86) rfl)
  have w_87 := hw _ (List.mem_of_getElem? (i := 87) rfl)
  have w_88 := hw _ (List.mem_of_getElem? (i := 88) rfl)
  have w_89 := hw _ (List.mem_of_getElem? (i := 89) rfl)
  refine Goes.of (fun t => XS.aloadN X0.here hx rfl (hb hby d18_0) rfl rfl) ?_
  show Goes p e below KK s₁ (mkF m 1 #[.val (.ref a1), .val (.ref a2), .unset] [(.ref a1)])
  refine Goes.of (fun t => XS.aloadN X0.here hx rfl (hb hby d18_1) rfl rfl) ?_
  show Goes p e below KK s₁ (mkF m 2 #[.val (.ref a1), .val (.ref a2), .unset] [(.ref a2), (.ref a1)])
  by_cases h12 : a1 = a2
  · have hbb : b1 = b2 := Value.ref.inj (Fld.injV W1v (h12 ▸ W2v))
    have hxy : xs = ys := AI.inj V1 (hbb ▸ V2)
    refine Goes.of (fun t => Jvm.RoadKit.acmp (g := (mkF m 2 #[.val (.ref a1), .val (.ref a2), .unset] [(.ref a2), (.ref a1)])) X0 hx rfl rfl rfl (pc0 := 2) (pc' := 5) (same := true) rfl (hb hby d18_2) rfl (decide_eq_true (congrArg Value.ref h12)) (by decide) (by decide)) ?_
    show Goes p e below KK s₁ (mkF m 5 #[.val (.ref a1), .val (.ref a2), .unset] [])
    refine Goes.of (fun t => XS.iconst X0.here hx rfl (hb hby d18_5)) ?_
    show Goes p e below KK s₁ (mkF m 6 #[.val (.ref a1), .val (.ref a2), .unset] [(.int (1 : Int32))])
    rw [← hKK]
    refine Goes.retNar X0 hx hlk (t := .boolean) (by simp) Bd.returns (hb hby d18_6) ?_ (by decide) (by decide)
    rw [e0]
    exact ⟨by rw [if_pos hxy]; rfl, N0, rfl⟩
  · show Goes p e below KK s₁ (mkF m 2 #[.val (.ref a1), .val (.ref a2), .unset] [(.ref a2), (.ref a1)])
    refine Goes.of (fun t => Jvm.RoadKit.acmp (g := (mkF m 2 #[.val (.ref a1), .val (.ref a2), .unset] [(.ref a2), (.ref a1)])) X0 hx rfl rfl rfl (pc0 := 2) (pc' := 7) (same := false) rfl (hb hby d18_2) rfl (decide_eq_false fun q => h12 (Value.ref.inj q)) (by decide) (by decide)) ?_
    show Goes p e below KK s₁ (mkF m 7 #[.val (.ref a1), .val (.ref a2), .unset] [])
    refine Goes.of (fun t => XS.aloadN X0.here hx rfl (hb hby d18_7) rfl rfl) ?_
    show Goes p e below KK s₁ (mkF m 8 #[.val (.ref a1), .val (.ref a2), .unset] [(.ref a2)])
    obtain ⟨T150, X150, e150, st150⟩ := instY X0 hx hZ hown w_86 e0 (Ins.self E2) (g := (mkF m 8 #[.val (.ref a1), .val (.ref a2), .unset] [(.ref a2)])) rfl rfl (hb hby d18_8)
    refine Goes.of (st150) ?_
    show Goes p e below KK T150 (mkF m 11 #[.val (.ref a1), .val (.ref a2), .unset] [(.int (1 : Int32))])
    refine Goes.of (fun t => XS.ifNo X150.here hx rfl (hb hby d18_11) rfl ((if0 _ _).trans (feq (show ¬ ((1 : Int32) = (0 : Int32)) from by decide)).1)) ?_
    show Goes p e below KK T150 (mkF m 14 #[.val (.ref a1), .val (.ref a2), .unset] [])
    refine Goes.of (fun t => XS.aloadN X150.here hx rfl (hb hby d18_14) rfl rfl) ?_
    show Goes p e below KK T150 (mkF m 15 #[.val (.ref a1), .val (.ref a2), .unset] [(.ref a2)])
    obtain ⟨T151, X151, e151, st151⟩ := castY X150 hx hZ hown w_86 e150 (Ins.self E2) (g := (mkF m 15 #[.val (.ref a1), .val (.ref a2), .unset] [(.ref a2)])) rfl rfl (hb hby d18_15)
    refine Goes.of (st151) ?_
    show Goes p e below KK T151 (mkF m 18 #[.val (.ref a1), .val (.ref a2), .unset] [(.ref a2)])
    refine Goes.of (fun t => XS.astoreN X151.here hx rfl (hb hby d18_18) rfl rfl (l' := #[.val (.ref a1), .val (.ref a2), .val (.ref a2)]) rfl) ?_
    show Goes p e below KK T151 (mkF m 19 #[.val (.ref a1), .val (.ref a2), .val (.ref a2)] [])
    obtain ⟨T152, X152, e152, st152⟩ := getS2 X151 hx hZ hown (host := "") (Or.inl w_30) Via.refl e151 Scs (g := (mkF m 19 #[.val (.ref a1), .val (.ref a2), .val (.ref a2)] [])) rfl (hb hby d18_19)
    refine Goes.of (st152) ?_
    show Goes p e below KK T152 (mkF m 22 #[.val (.ref a1), .val (.ref a2), .val (.ref a2)] [(.int cz)])
    refine Goes.of (fun t => XS.ifNo X152.here hx rfl (hb hby d18_22) rfl ((if0 _ _).trans (feq (show ¬ (cz = (0 : Int32)) from hcz)).1)) ?_
    show Goes p e below KK T152 (mkF m 25 #[.val (.ref a1), .val (.ref a2), .val (.ref a2)] [])
    refine Goes.of (fun t => XS.aloadN X152.here hx rfl (hb hby d18_25) rfl rfl) ?_
    show Goes p e below KK T152 (mkF m 26 #[.val (.ref a1), .val (.ref a2), .val (.ref a2)] [(.ref a1)])
    obtain ⟨T153, X153, e153, st153⟩ := getF X152 hx hZ hown (host := "") (Or.inl w_31) Via.refl e152 C1 (g := (mkF m 26 #[.val (.ref a1), .val (.ref a2), .val (.ref a2)] [(.ref a1)])) rfl rfl (hb hby d18_26)
    refine Goes.of (st153) ?_
    show Goes p e below KK T153 (mkF m 29 #[.val (.ref a1), .val (.ref a2), .val (.ref a2)] [(.int (0 : Int32))])
    refine Goes.of (fun t => XS.aloadN X153.here hx rfl (hb hby d18_29) rfl rfl) ?_
    show Goes p e below KK T153 (mkF m 30 #[.val (.ref a1), .val (.ref a2), .val (.ref a2)] [(.ref a2), (.int (0 : Int32))])
    obtain ⟨T154, X154, e154, st154⟩ := getF X153 hx hZ hown (host := "") (Or.inl w_31) Via.refl e153 C2 (g := (mkF m 30 #[.val (.ref a1), .val (.ref a2), .val (.ref a2)] [(.ref a2), (.int (0 : Int32))])) rfl rfl (hb hby d18_30)
    refine Goes.of (st154) ?_
    show Goes p e below KK T154 (mkF m 33 #[.val (.ref a1), .val (.ref a2), .val (.ref a2)] [(.int (0 : Int32)), (.int (0 : Int32))])
    refine Goes.of (fun t => XS.icmpNo X154.here hx rfl (hb hby d18_33) rfl (teq (show (0 : Int32) = (0 : Int32) from rfl)).2) ?_
    show Goes p e below KK T154 (mkF m 36 #[.val (.ref a1), .val (.ref a2), .val (.ref a2)] [])
    refine Goes.of (fun t => XS.aloadN X154.here hx rfl (hb hby d18_36) rfl rfl) ?_
    show Goes p e below KK T154 (mkF m 37 #[.val (.ref a1), .val (.ref a2), .val (.ref a2)] [(.ref a1)])
    obtain ⟨T155, X155, e155, st155⟩ := getF X154 hx hZ hown (host := "") (Or.inl w_24) Via.refl e154 W1v (g := (mkF m 37 #[.val (.ref a1), .val (.ref a2), .val (.ref a2)] [(.ref a1)])) rfl rfl (hb hby d18_37)
    refine Goes.of (st155) ?_
    show Goes p e below KK T155 (mkF m 40 #[.val (.ref a1), .val (.ref a2), .val (.ref a2)] [(.ref b1)])
    refine Goes.of (fun t => XS.aloadN X155.here hx rfl (hb hby d18_40) rfl rfl) ?_
    show Goes p e below KK T155 (mkF m 41 #[.val (.ref a1), .val (.ref a2), .val (.ref a2)] [(.ref a2), (.ref b1)])
    obtain ⟨T156, X156, e156, st156⟩ := getF X155 hx hZ hown (host := "") (Or.inl w_24) Via.refl e155 W2v (g := (mkF m 41 #[.val (.ref a1), .val (.ref a2), .val (.ref a2)] [(.ref a2), (.ref b1)])) rfl rfl (hb hby d18_41)
    refine Goes.of (st156) ?_
    show Goes p e below KK T156 (mkF m 44 #[.val (.ref a1), .val (.ref a2), .val (.ref a2)] [(.ref b2), (.ref b1)])
    obtain ⟨_, _, ⟨T157, L157, k157, n157⟩, -, X157, ⟨Lc157, hQ157, l157, y157, z157⟩, st157⟩ := Jvm.LawKit.callS X156 hx (y := (⟨"java/lang/StringLatin1", "equals", "([B[B)Z"⟩ : MethodName)) hown (mvT hZ w_87) (mvT hZ w_88) (mvT hZ w_44) (mvT hZ w_89) (by decide) (backOf (W := 0) (rm19 l Z a0 hw [] b1 b2 xs ys n1 n2 h0 n0 Z0 V1 V2 hn1 hn2 hb1) hZ w_89 w_44 (by decide) (by decide)) (g := (mkF m 44 #[.val (.ref a1), .val (.ref a2), .val (.ref a2)] [(.ref b2), (.ref b1)])) rfl (by rw [hml]; rfl) (argsL := [(.ref b1), (.ref b2)]) (rest := []) (lenOf pd_30 rfl) rfl (by show 2 * 0 + _ ≤ _; exact Nat.le_of_eq rfl) (hb hby d18_44) (fun _ _ => ⟨rfl, e156, (by decide : 0 + 0 ≤ _), (by decide : 0 + 0 ≤ _)⟩)
    dsimp only [Pt.U, Pt.locs, Pt.cells, Pt.slots] at X157 l157 y157 z157 st157 hQ157
    subst y157 z157
    obtain ⟨rfl, N157q, e157⟩ := hQ157
    have N157 : Fr n0 L157 := by rw [l157]; exact Fr.app N0 N157q
    refine Goes.of st157 ?_
    show Goes p e below KK T157 (mkF m 47 #[.val (.ref a1), .val (.ref a2), .val (.ref a2)] [(.int (if xs = ys then (1 : Int32) else 0))])
    by_cases hc47 : (if xs = ys then (1 : Int32) else 0) = (0 : Int32)
    · refine Goes.of (fun t => XS.ifYes X157.here hx rfl (pc0 := 47) (pc' := 54) rfl (hb hby d18_47) rfl ((if0 _ _).trans (teq hc47).1) (by decide) (by decide)) ?_
      show Goes p e below KK T157 (mkF m 54 #[.val (.ref a1), .val (.ref a2), .val (.ref a2)] [])
      refine Goes.of (fun t => XS.iconst X157.here hx rfl (hb hby d18_54)) ?_
      show Goes p e below KK T157 (mkF m 55 #[.val (.ref a1), .val (.ref a2), .val (.ref a2)] [(.int (0 : Int32))])
      rw [← hKK]
      refine Goes.retNar X157 hx hlk (t := .boolean) (by simp) Bd.returns (hb hby d18_55) ?_ (by decide) (by decide)
      rw [e157]
      exact ⟨by rw [if_neg (fun q => by rw [if_pos q] at hc47; exact absurd hc47 (by decide))]; rfl, N157, rfl⟩
    · refine Goes.of (fun t => XS.ifNo X157.here hx rfl (hb hby d18_47) rfl ((if0 _ _).trans (feq hc47).1)) ?_
      show Goes p e below KK T157 (mkF m 50 #[.val (.ref a1), .val (.ref a2), .val (.ref a2)] [])
      refine Goes.of (fun t => XS.iconst X157.here hx rfl (hb hby d18_50)) ?_
      show Goes p e below KK T157 (mkF m 51 #[.val (.ref a1), .val (.ref a2), .val (.ref a2)] [(.int (1 : Int32))])
      refine Goes.of (fun t => XS.goto X157.here hx rfl (pc0 := 51) (pc' := 55) rfl (hb hby d18_51) (by decide) (by decide)) ?_
      show Goes p e below KK T157 (mkF m 55 #[.val (.ref a1), .val (.ref a2), .val (.ref a2)] [(.int (1 : Int32))])
      rw [← hKK]
      refine Goes.retNar X157 hx hlk (t := .boolean) (by simp) Bd.returns (hb hby d18_55) ?_ (by decide) (by decide)
      rw [e157]
      exact ⟨by rw [if_pos (Classical.byContradiction fun q => hc47 (by rw [if_neg q]))]; rfl, N157, rfl⟩
theorem d17_0 : decode prog_4_method_2_code 0 = .ok (.aload_n 0, 1) := by decide +kernel
theorem d17_1 : decode prog_4_method_2_code 1 = .ok (.ldc 19, 2) := by decide +kernel
theorem d17_3 : decode prog_4_method_2_code 3 = .ok (.invokevirtual 21, 3) := by decide +kernel
theorem d17_6 : decode prog_4_method_2_code 6 = .ok (.ifCond .ne 12, 3) := by decide +kernel
theorem d17_9 : decode prog_4_method_2_code 9 = .ok (.aload_n 0, 1) := by decide +kernel
theorem d17_10 : decode prog_4_method_2_code 10 = .ok (.ldc 27, 2) := by decide +kernel
theorem d17_12 : decode prog_4_method_2_code 12 = .ok (.invokevirtual 21, 3) := by decide +kernel
theorem d17_15 : decode prog_4_method_2_code 15 = .ok (.ifCond .eq 7, 3) := by decide +kernel
theorem d17_18 : decode prog_4_method_2_code 18 = .ok (.iconst 1, 1) := by decide +kernel
theorem d17_19 : decode prog_4_method_2_code 19 = .ok (.goto 4, 3) := by decide +kernel
theorem d17_22 : decode prog_4_method_2_code 22 = .ok (.iconst 0, 1) := by decide +kernel
theorem d17_23 : decode prog_4_method_2_code 23 = .ok (.ireturn, 1) := by decide +kernel
theorem pn_17 : plainFor (⟨"com/example/warrant/warrant/cli/PolicyFiles", "names", "(Ljava/lang/String;)Z"⟩ : MethodName) = true := plainFor_of_name (by first | (simp [plainName, overriddenIn]; done) | decide +kernel)
theorem pd_32 : parseMethodDescriptor "(Ljava/lang/Object;)Z" = some ⟨[(.object "java/lang/Object")], some .boolean⟩ := by decide +kernel
theorem ef_17 (m : MethodId) (x0 : Addr) : entryFrame m #[(.ref x0)] 1 = mkF m 0 #[.val (.ref x0)] [] := by first | (simp [entryFrame, mkF, argsToLocals, Value.category]; done) | rfl
def Q17 (Z : State) (a1 : Addr) (b1 : Addr) (xs : List Int32) (n1 : Int32) (cz : Int32) (h0 : Heap) (n0 : Nat) (v : Option Value) (h : Heap) (L : List Loc) : Prop := v = some (.int (nmV xs)) ∧ Fr n0 L ∧ Keep h0 h []
set_option maxRecDepth 65536 in
set_option maxHeartbeats 40000000 in
theorem rm17 (l : Launch) (Z : State) (a0 : Array Value) (hw : ∀ d ∈ tables_1, d.before a0 Z = true) (ws : List Jvm.Cond) (a1 : Addr) (b1 : Addr) (xs : List Int32) (n1 : Int32) (cz : Int32) (h0 : Heap) (n0 : Nat) (Z0 : n0 ≤ h0.size) (E1 : Exa Z h0 a1 "java/lang/String") (C1 : Fld Z h0 a1 "java/lang/String" "coder" "B" (.int (0 : Int32))) (W1v : Fld Z h0 a1 "java/lang/String" "value" "[B" (.ref b1)) (V1 : AI Z h0 b1 .byte xs) (hn1 : n1.toInt = (xs.length : Int)) (hb1 : xs.length < 2147483647) (Scs : Sta Z h0 "java/lang/String" "COMPACT_STRINGS" "Z" (.int cz)) (hcz : ¬ cz = 0) :
    MetFree l (⟨"com/example/warrant/warrant/cli/PolicyFiles", "names", "(Ljava/lang/String;)Z"⟩ : MethodName) (head1 (Jvm.Cond.code (⟨"com/example/warrant/warrant/cli/PolicyFiles", "names", "(Ljava/lang/String;)Z"⟩ : MethodName) prog_4_method_2_code 1 (some .boolean) :: ws) ({ frames := 2, cells := 4, slots := 84, locals := 28 } : Room)) (fun a U => a = #[(.ref a1)] ∧ Z.Warmed39 U.vm ∧ U.heap = h0 ∧ CHv Z EL0 U.vm h0) (fun _ _ _ _ _ => True) (fun _ U o U' => ∃ v L, o = .returned v ∧ Q17 Z a1 b1 xs n1 cz h0 n0 v U'.heap L ∧ CHr Z EL0 U.vm U.heap U'.vm U'.heap ∧ ReturnedEndW U o U' L ({ frames := 2, cells := 4, slots := 84, locals := 28 } : Room).cells ({ frames := 2, cells := 4, slots := 84, locals := 28 } : Room).slots) := by
  refine MetFree.of_bodySF pn_17 hisR ?_
  intro p e s m args below meth c s₁ Bd hml0 hP hK
  obtain ⟨rfl, hZ, hh, hch⟩ := hP
  have hx := Bd.exec
  have hby := Bd.bytes
  have hml : c.maxLocals = 1 := hml0
  have hown : s.vm.findClass "com/example/warrant/warrant/cli/PolicyFiles" = some m.cls := findClass_of_methodNamed Bd.named
  have hnm := (name_of_methodNamed Bd.named Bd.method).1
  have hlk : meth.locks = false := BodyLoose.notSynchronized Bd
  have X0 : Stand p l e ({ frames := 2, cells := 4, slots := 84, locals := 28 } : Room) s m #[(.ref a1)] below meth c s₁ [] 0 0 := Stand.of_body Bd
  have e0 : s₁.heap = h0 := by rw [← hh, Bd.state]; rfl
  have N0 := Fr.nil n0
  have hEL := own_EW hw
  have CR0 : CHr Z EL0 s.vm h0 s.vm h0 := CHr.refl (hch)
  have hZw : Z.Warmed39 (s.setVm s.vm).vm := hZ
  have hownw : (s.setVm s.vm).vm.findClass "com/example/warrant/warrant/cli/PolicyFiles" = some m.cls := hown
  have X0w : Stand p l e ({ frames := 2, cells := 4, slots := 84, locals := 28 } : Room) (s.setVm s.vm) m #[(.ref a1)] below meth c s₁ [] 0 0 := X0
  have HS0 : s.Since s.vm h0.size := (State.WarmedH.refl s).since _
  have HK0 : h0.size ≤ h0.size := Nat.le_refl _
  show Goes p e below (OwnKH Z EL0 s (Q17 Z a1 b1 xs n1 cz h0 n0) ({ frames := 2, cells := 4, slots := 84, locals := 28 } : Room).cells ({ frames := 2, cells := 4, slots := 84, locals := 28 } : Room).slots) s₁ (entryFrame m #[(.ref a1)] 1)
  refine Goes.cast (ef_17 m a1) ?_
  generalize hKK : OwnKH Z EL0 s (Q17 Z a1 b1 xs n1 cz h0 n0) ({ frames := 2, cells := 4, slots := 84, locals := 28 } : Room).cells ({ frames := 2, cells := 4, slots := 84, locals := 28 } : Room).slots = KK
  show Goes p e below KK s₁ (mkF m 0 #[.val (.ref a1)] [])
  have w_1 := hw _ (List.mem_of_getElem? (i := 1) rfl)
  have w_2 := hw _ (List.mem_of_getElem? (i := 2) rfl)
  have w_3 := hw _ (List.mem_of_getElem? (i := 3) rfl)
  have w_4 := hw _ (List.mem_of_getElem? (i := 4) rfl)
  have w_5 := hw _ (List.mem_of_getElem? (i := 5) rfl)
  have w_6 := hw _ (List.mem_of_getElem? (i := 6) rfl)
  have w_7 := hw _ (List.mem_of_getElem? (i := 7) rfl)
  have w_80 := hw _ (List.mem_of_getElem? (i := 80) rfl)
  have w_81 := hw _ (List.mem_of_getElem? (i := 81) rfl)
  have w_82 := hw _ (List.mem_of_getElem? (i := 82) rfl)
  have w_83 := hw _ (List.mem_of_getElem? (i := 83) rfl)
  have w_84 := hw _ (List.mem_of_getElem? (i := 84) rfl)
  have w_85 := hw _ (List.mem_of_getElem? (i := 85) rfl)
  have w_90 := hw _ (List.mem_of_getElem? (i := 90) rfl)
  refine Goes.of (fun t => XS.aloadN X0w.here hx rfl (hb hby d17_0) rfl rfl) ?_
  show Goes p e below KK s₁ (mkF m 1 #[.val (.ref a1)] [(.ref a1)])
  have wS158 : ∀ a ∈ Bundle.stringAtoms, a.before a0 Z = true := fun a ha => by
    simp only [Bundle.stringAtoms, List.mem_cons, List.not_mem_nil, or_false] at ha
    rcases ha with rfl | rfl | rfl | rfl | rfl | rfl | rfl
    · exact w_1
    · exact w_2
    · exact w_3
    · exact w_4
    · exact w_5
    · exact w_6
    · exact w_7
  obtain ⟨a158, T158, h158, k158, b158, kk158, X158, e158, E158, HS158, HK158, hZ158, hown158, Ex158, Fc158, Fv158, Va158, la158, lb158, cr158, Lt158, Sn158, st158⟩ := ldcCH X0w hx hZw hownw w_80 wS158 e0 HS0 HK0 hEL (List.mem_of_getElem? (i := 0) rfl) CR0.1 (vs := [(.int 45), (.int 45), (.int 112), (.int 111), (.int 108), (.int 105), (.int 99), (.int 121)]) (z := 8) ⟨by decide +kernel, by decide +kernel⟩ (by decide) rfl (g := (mkF m 1 #[.val (.ref a1)] [(.ref a1)])) rfl (hb hby d17_1) (n := 32) (by decide +kernel) (by decide) (by decide) (by decide)
  refine Goes.of (st158) ?_
  have CR158 := CR0.trans cr158
  have E1_158 : Exa Z h158 a1 "java/lang/String" := E1.ext E158
  have C1_158 : Fld Z h158 a1 "java/lang/String" "coder" "B" (.int (0 : Int32)) := C1.ext E158
  have W1v_158 : Fld Z h158 a1 "java/lang/String" "value" "[B" (.ref b1) := W1v.ext E158
  have V1_158 : AI Z h158 b1 .byte xs := V1.ext E158
  have Scs_158 : Sta Z h158 "java/lang/String" "COMPACT_STRINGS" "Z" (.int cz) := Scs.ext E158
  have K158 : Keep h0 h158 [] := (Keep.refl h0 []).ext E158
  have Z158 : n0 ≤ h158.size := Nat.le_trans Z0 E158.1
  have V158 : AI Z h158 b158 .byte [45, 45, 112, 111, 108, 105, 99, 121] := AI.ofArv Va158 rfl rfl
  show Goes p e below KK T158 (mkF m 3 #[.val (.ref a1)] [(.ref a158), (.ref a1)])
  obtain ⟨cq159, kq159, q159a, q159b, q159c⟩ := isOf hZ158 e158 E1_158
  obtain ⟨_, _, ⟨T159, L159, k159, n159⟩, -, X159, ⟨Lc159, hQ159, l159, y159, z159⟩, st159⟩ := X158.virtualBack hx (y := (⟨"java/lang/String", "equals", "(Ljava/lang/Object;)Z"⟩ : MethodName)) (z := (⟨"java/lang/String", "equals", "(Ljava/lang/Object;)Z"⟩ : MethodName)) hown158 (mvT hZ158 w_81) (mvT hZ158 w_82) (notFace_of_selects (args := #[]) (mvT hZ158 w_84)) (mvT hZ158 w_84) (mvT hZ158 w_83) (by decide) (backOf (W := 0) (rm18 l Z a0 hw [] a1 a158 b1 xs b158 [45, 45, 112, 111, 108, 105, 99, 121] n1 8 cz h158 n0 Z158 E1_158 C1_158 W1v_158 V1_158 Ex158 Fc158 Fv158 V158 hn1 rfl hb1 Scs_158 hcz) hZ158 w_85 w_1 (by decide) (by decide)) q159a q159c (g := (mkF m 3 #[.val (.ref a1)] [(.ref a158), (.ref a1)])) rfl (by rw [hml]; rfl) (Steps.refl _) (argsL := [(.ref a158)]) (rest := []) (lenOf pd_32 rfl) rfl (by show 2 * 0 + _ ≤ _; exact Nat.le_of_eq rfl) (hb hby d17_3) (fun _ _ => ⟨rfl, e158, (by decide : 2 + 0 ≤ _), (by decide : 36 + 0 ≤ _)⟩)
  dsimp only [Pt.U, Pt.locs, Pt.cells, Pt.slots] at X159 l159 y159 z159 st159 hQ159
  subst y159 z159
  obtain ⟨rfl, N159q, e159⟩ := hQ159
  have N159 : Fr n0 L159 := by rw [l159]; exact Fr.app N0 N159q
  refine Goes.tr st159 ?_
  show Goes p e below KK T159 (mkF m 6 #[.val (.ref a1)] [(.int (if xs = [45, 45, 112, 111, 108, 105, 99, 121] then (1 : Int32) else 0))])
  by_cases hc6 : (if xs = [45, 45, 112, 111, 108, 105, 99, 121] then (1 : Int32) else 0) = (0 : Int32)
  · refine Goes.of (fun t => XS.ifNo X159.here hx rfl (hb hby d17_6) rfl ((if0 _ _).trans (teq hc6).2)) ?_
    show Goes p e below KK T159 (mkF m 9 #[.val (.ref a1)] [])
    refine Goes.of (fun t => XS.aloadN X159.here hx rfl (hb hby d17_9) rfl rfl) ?_
    show Goes p e below KK T159 (mkF m 10 #[.val (.ref a1)] [(.ref a1)])
    have wS160 : ∀ a ∈ Bundle.stringAtoms, a.before a0 Z = true := fun a ha => by
      simp only [Bundle.stringAtoms, List.mem_cons, List.not_mem_nil, or_false] at ha
      rcases ha with rfl | rfl | rfl | rfl | rfl | rfl | rfl
      · exact w_1
      · exact w_2
      · exact w_3
      · exact w_4
      · exact w_5
      · exact w_6
      · exact w_7
    obtain ⟨a160, T160, h160, k160, b160, kk160, X160, e160, E160, HS160, HK160, hZ160, hown160, Ex160, Fc160, Fv160, Va160, la160, lb160, cr160, Lt160, Sn160, st160⟩ := ldcCH X159 hx hZ158 hown158 w_90 wS160 e159 HS158 HK158 hEL (List.mem_of_getElem? (i := 1) rfl) CR158.1 (vs := [(.int 45), (.int 45), (.int 114), (.int 101), (.int 102), (.int 101), (.int 114), (.int 101), (.int 110), (.int 99), (.int 101)]) (z := 11) ⟨by decide +kernel, by decide +kernel⟩ (by decide) rfl (g := (mkF m 10 #[.val (.ref a1)] [(.ref a1)])) rfl (hb hby d17_10) (n := 44) (by decide +kernel) (by decide) (by decide) (by decide)
    refine Goes.of (st160) ?_
    have CR160 := CR158.trans cr160
    have E1_158_160 : Exa Z h160 a1 "java/lang/String" := E1_158.ext E160
    have C1_158_160 : Fld Z h160 a1 "java/lang/String" "coder" "B" (.int (0 : Int32)) := C1_158.ext E160
    have W1v_158_160 : Fld Z h160 a1 "java/lang/String" "value" "[B" (.ref b1) := W1v_158.ext E160
    have V1_158_160 : AI Z h160 b1 .byte xs := V1_158.ext E160
    have Scs_158_160 : Sta Z h160 "java/lang/String" "COMPACT_STRINGS" "Z" (.int cz) := Scs_158.ext E160
    have Ex158_160 : Exa Z h160 a158 "java/lang/String" := Ex158.ext E160
    have Fc158_160 : Fld Z h160 a158 "java/lang/String" "coder" "B" (.int (0 : Int32)) := Fc158.ext E160
    have Fv158_160 : Fld Z h160 a158 "java/lang/String" "value" "[B" (.ref b158) := Fv158.ext E160
    have V158_160 : AI Z h160 b158 .byte [45, 45, 112, 111, 108, 105, 99, 121] := V158.ext E160
    have K160 : Keep h0 h160 [] := K158.ext E160
    have Z160 : n0 ≤ h160.size := Nat.le_trans Z158 E160.1
    have V160 : AI Z h160 b160 .byte [45, 45, 114, 101, 102, 101, 114, 101, 110, 99, 101] := AI.ofArv Va160 rfl rfl
    show Goes p e below KK T160 (mkF m 12 #[.val (.ref a1)] [(.ref a160), (.ref a1)])
    obtain ⟨cq161, kq161, q161a, q161b, q161c⟩ := isOf hZ160 e160 E1_158_160
    obtain ⟨_, _, ⟨T161, L161, k161, n161⟩, -, X161, ⟨Lc161, hQ161, l161, y161, z161⟩, st161⟩ := X160.virtualBack hx (y := (⟨"java/lang/String", "equals", "(Ljava/lang/Object;)Z"⟩ : MethodName)) (z := (⟨"java/lang/String", "equals", "(Ljava/lang/Object;)Z"⟩ : MethodName)) hown160 (mvT hZ160 w_81) (mvT hZ160 w_82) (notFace_of_selects (args := #[]) (mvT hZ160 w_84)) (mvT hZ160 w_84) (mvT hZ160 w_83) (by decide) (backOf (W := 0) (rm18 l Z a0 hw [] a1 a160 b1 xs b160 [45, 45, 114, 101, 102, 101, 114, 101, 110, 99, 101] n1 11 cz h160 n0 Z160 E1_158_160 C1_158_160 W1v_158_160 V1_158_160 Ex160 Fc160 Fv160 V160 hn1 rfl hb1 Scs_158_160 hcz) hZ160 w_85 w_1 (by decide) (by decide)) q161a q161c (g := (mkF m 12 #[.val (.ref a1)] [(.ref a160), (.ref a1)])) rfl (by rw [hml]; rfl) (Steps.refl _) (argsL := [(.ref a160)]) (rest := []) (lenOf pd_32 rfl) rfl (by show 2 * 0 + _ ≤ _; exact Nat.le_of_eq rfl) (hb hby d17_12) (fun _ _ => ⟨rfl, e160, (by decide : 4 + 0 ≤ _), (by decide : 84 + 0 ≤ _)⟩)
    dsimp only [Pt.U, Pt.locs, Pt.cells, Pt.slots] at X161 l161 y161 z161 st161 hQ161
    subst y161 z161
    obtain ⟨rfl, N161q, e161⟩ := hQ161
    have N161 : Fr n0 L161 := by rw [l161]; exact Fr.app N159 N161q
    refine Goes.tr st161 ?_
    show Goes p e below KK T161 (mkF m 15 #[.val (.ref a1)] [(.int (if xs = [45, 45, 114, 101, 102, 101, 114, 101, 110, 99, 101] then (1 : Int32) else 0))])
    by_cases hc15 : (if xs = [45, 45, 114, 101, 102, 101, 114, 101, 110, 99, 101] then (1 : Int32) else 0) = (0 : Int32)
    · refine Goes.of (fun t => XS.ifYes X161.here hx rfl (pc0 := 15) (pc' := 22) rfl (hb hby d17_15) rfl ((if0 _ _).trans (teq hc15).1) (by decide) (by decide)) ?_
      show Goes p e below KK T161 (mkF m 22 #[.val (.ref a1)] [])
      refine Goes.of (fun t => XS.iconst X161.here hx rfl (hb hby d17_22)) ?_
      show Goes p e below KK T161 (mkF m 23 #[.val (.ref a1)] [(.int (0 : Int32))])
      rw [← hKK]
      refine Goes.retNarH X161 HS160 (by rw [e161]; exact HK160) (by rw [e161, hh]; exact CR160.trans (CHv.at X161 hZ160 hEL CR160.1)) hx hlk (t := .boolean) (by simp) Bd.returns (hb hby d17_23) ?_ (by decide) (by decide)
      rw [e161]
      exact ⟨by unfold nmV; rw [if_neg (show ¬ xs = XP from fun q => by rw [if_pos (show xs = [45, 45, 112, 111, 108, 105, 99, 121] from q)] at hc6; exact absurd hc6 (by decide)), if_neg (show ¬ xs = XR from fun q => by rw [if_pos (show xs = [45, 45, 114, 101, 102, 101, 114, 101, 110, 99, 101] from q)] at hc15; exact absurd hc15 (by decide))]; rfl, N161, K160⟩
    · refine Goes.of (fun t => XS.ifNo X161.here hx rfl (hb hby d17_15) rfl ((if0 _ _).trans (feq hc15).1)) ?_
      show Goes p e below KK T161 (mkF m 18 #[.val (.ref a1)] [])
      refine Goes.of (fun t => XS.iconst X161.here hx rfl (hb hby d17_18)) ?_
      show Goes p e below KK T161 (mkF m 19 #[.val (.ref a1)] [(.int (1 : Int32))])
      refine Goes.of (fun t => XS.goto X161.here hx rfl (pc0 := 19) (pc' := 23) rfl (hb hby d17_19) (by decide) (by decide)) ?_
      show Goes p e below KK T161 (mkF m 23 #[.val (.ref a1)] [(.int (1 : Int32))])
      rw [← hKK]
      refine Goes.retNarH X161 HS160 (by rw [e161]; exact HK160) (by rw [e161, hh]; exact CR160.trans (CHv.at X161 hZ160 hEL CR160.1)) hx hlk (t := .boolean) (by simp) Bd.returns (hb hby d17_23) ?_ (by decide) (by decide)
      rw [e161]
      exact ⟨by unfold nmV; rw [if_neg (show ¬ xs = XP from fun q => by rw [if_pos (show xs = [45, 45, 112, 111, 108, 105, 99, 121] from q)] at hc6; exact absurd hc6 (by decide)), if_pos (show xs = XR from Classical.byContradiction fun q => hc15 (if_neg q))]; rfl, N161, K160⟩
  · refine Goes.of (fun t => XS.ifYes X159.here hx rfl (pc0 := 6) (pc' := 18) rfl (hb hby d17_6) rfl ((if0 _ _).trans (feq hc6).2) (by decide) (by decide)) ?_
    show Goes p e below KK T159 (mkF m 18 #[.val (.ref a1)] [])
    refine Goes.of (fun t => XS.iconst X159.here hx rfl (hb hby d17_18)) ?_
    show Goes p e below KK T159 (mkF m 19 #[.val (.ref a1)] [(.int (1 : Int32))])
    refine Goes.of (fun t => XS.goto X159.here hx rfl (pc0 := 19) (pc' := 23) rfl (hb hby d17_19) (by decide) (by decide)) ?_
    show Goes p e below KK T159 (mkF m 23 #[.val (.ref a1)] [(.int (1 : Int32))])
    rw [← hKK]
    refine Goes.retNarH X159 HS158 (by rw [e159]; exact HK158) (by rw [e159, hh]; exact CR158.trans (CHv.at X159 hZ158 hEL CR158.1)) hx hlk (t := .boolean) (by simp) Bd.returns (hb hby d17_23) ?_ (by decide) (by decide)
    rw [e159]
    exact ⟨by unfold nmV; rw [if_pos (show xs = XP from Classical.byContradiction fun q => hc6 (if_neg q))]; rfl, N159, K158⟩
theorem pn_0 : plainFor (⟨"com/example/warrant/warrant/cli/PolicyFilesNamesPinLaw", "law", "(IIII)Z"⟩ : MethodName) = true := plainFor_of_name (by first | (simp [plainName, overriddenIn]; done) | decide +kernel)
theorem pd_34 : parseMethodDescriptor "(I)I" = some ⟨[.int], some .int⟩ := by decide +kernel
theorem pd_35 : parseMethodDescriptor "(ILjava/lang/String;ZICC)Ljava/lang/String;" = some ⟨[.int, (.object "java/lang/String"), .boolean, .int, .char, .char], some (.object "java/lang/String")⟩ := by decide +kernel
theorem pd_36 : parseMethodDescriptor "(Ljava/lang/String;)Z" = some ⟨[(.object "java/lang/String")], some .boolean⟩ := by decide +kernel
theorem ef_0 (m : MethodId) (x0 : Int32) (x1 : Int32) (x2 : Int32) (x3 : Int32) : entryFrame m #[(.int x0), (.int x1), (.int x2), (.int x3)] maxLocals = mkF m 0 #[.val (.int x0), .val (.int x1), .val (.int x2), .val (.int x3), .unset, .unset, .unset, .unset, .unset, .unset, .unset, .unset] [] := by first | (simp [entryFrame, mkF, argsToLocals, Value.category, maxLocals]; done) | rfl
def Q0 (Z : State) (p1 : Int32) (p2 : Int32) (p3 : Int32) (p4 : Int32) (cz : Int32) (fm : Value) (h0 : Heap) (n0 : Nat) (v : Option Value) (h : Heap) (L : List Loc) : Prop := v = some (.int 1) ∧ Fr n0 L
set_option maxRecDepth 65536 in
set_option maxHeartbeats 40000000 in
theorem rm0 (l : Launch) (Z : State) (a0 : Array Value) (hw : ∀ d ∈ tables_1, d.before a0 Z = true) (ws : List Jvm.Cond) (p1 : Int32) (p2 : Int32) (p3 : Int32) (p4 : Int32) (cz : Int32) (fm : Value) (h0 : Heap) (n0 : Nat) (Z0 : n0 ≤ h0.size) (hh0 : Z.heap = h0) (hn0 : n0 = h0.size) (Scs : Sta Z h0 "java/lang/String" "COMPACT_STRINGS" "Z" (.int cz)) (hcz : ¬ cz = 0) (Sf : Sta Z h0 "jdk/internal/util/Preconditions" "SIOOBE_FORMATTER" "Ljava/util/function/BiFunction;" fm) (hfm : fm.isRef = true) (hch : CHv Z EL0 Z.vm Z.heap) :
    MetFree l x (head1 (Jvm.Cond.code x code maxLocals ret :: ws) room_1) (fun a U => a = #[(.int p1), (.int p2), (.int p3), (.int p4)] ∧ Z = U) (fun _ _ _ _ _ => True) (fun _ U o U' => ∃ v L, o = .returned v ∧ Q0 Z p1 p2 p3 p4 cz fm h0 n0 v U'.heap L ∧ ReturnedEndW U o U' L room_1.cells room_1.slots) := by
  refine MetFree.of_bodySF pn_0 hisR ?_
  intro p e s m args below meth c s₁ Bd hml0 hP hK
  obtain ⟨rfl, hs⟩ := hP
  have hZ : Z.Warmed39 s.vm := hs ▸ State.Warmed39.refl Z
  have hh : s.heap = h0 := by rw [← hs]; exact hh0
  have hx := Bd.exec
  have hby := Bd.bytes
  have hml : c.maxLocals = 12 := hml0
  have hown : s.vm.findClass "com/example/warrant/warrant/cli/PolicyFilesNamesPinLaw" = some m.cls := findClass_of_methodNamed Bd.named
  have hnm := (name_of_methodNamed Bd.named Bd.method).1
  have hlk : meth.locks = false := BodyLoose.notSynchronized Bd
  have X0 : Stand p l e room_1 s m #[(.int p1), (.int p2), (.int p3), (.int p4)] below meth c s₁ [] 0 0 := Stand.of_body Bd
  have e0 : s₁.heap = h0 := by rw [← hh, Bd.state]; rfl
  have N0 := Fr.nil n0
  have hEL := own_EW hw
  have CR0 : CHr Z EL0 s.vm h0 s.vm h0 := CHr.refl (by rw [← hh0, ← hs]; exact hch)
  have hZw : Z.Warmed39 (s.setVm s.vm).vm := hZ
  have hownw : (s.setVm s.vm).vm.findClass "com/example/warrant/warrant/cli/PolicyFilesNamesPinLaw" = some m.cls := hown
  have X0w : Stand p l e room_1 (s.setVm s.vm) m #[(.int p1), (.int p2), (.int p3), (.int p4)] below meth c s₁ [] 0 0 := X0
  have HS0 : s.Since s.vm h0.size := (State.WarmedH.refl s).since _
  have HK0 : h0.size ≤ h0.size := Nat.le_refl _
  show Goes p e below (OwnKW s (Q0 Z p1 p2 p3 p4 cz fm h0 n0) room_1.cells room_1.slots) s₁ (entryFrame m #[(.int p1), (.int p2), (.int p3), (.int p4)] maxLocals)
  refine Goes.cast (ef_0 m p1 p2 p3 p4) ?_
  generalize hKK : OwnKW s (Q0 Z p1 p2 p3 p4 cz fm h0 n0) room_1.cells room_1.slots = KK
  show Goes p e below KK s₁ (mkF m 0 #[.val (.int p1), .val (.int p2), .val (.int p3), .val (.int p4), .unset, .unset, .unset, .unset, .unset, .unset, .unset, .unset] [])
  have w_0 := hw _ (List.mem_of_getElem? (i := 0) rfl)
  have w_1 := hw _ (List.mem_of_getElem? (i := 1) rfl)
  have w_2 := hw _ (List.mem_of_getElem? (i := 2) rfl)
  have w_3 := hw _ (List.mem_of_getElem? (i := 3) rfl)
  have w_4 := hw _ (List.mem_of_getElem? (i := 4) rfl)
  have w_5 := hw _ (List.mem_of_getElem? (i := 5) rfl)
  have w_6 := hw _ (List.mem_of_getElem? (i := 6) rfl)
  have w_7 := hw _ (List.mem_of_getElem? (i := 7) rfl)
  have w_8 := hw _ (List.mem_of_getElem? (i := 8) rfl)
  have w_9 := hw _ (List.mem_of_getElem? (i := 9) rfl)
  have w_10 := hw _ (List.mem_of_getElem? (i := 10) rfl)
  have w_11 := hw _ (List.mem_of_getElem? (i := 11) rfl)
  have w_12 := hw _ (List.mem_of_getElem? (i := 12) rfl)
  have w_13 := hw _ (List.mem_of_getElem? (i := 13) rfl)
  have w_14 := hw _ (List.mem_of_getElem? (i := 14) rfl)
  have w_15 := hw _ (List.mem_of_getElem? (i := 15) rfl)
  have w_19 := hw _ (List.mem_of_getElem? (i := 19) rfl)
  have w_20 := hw _ (List.mem_of_getElem? (i := 20) rfl)
  have w_21 := hw _ (List.mem_of_getElem? (i := 21) rfl)
  have w_22 := hw _ (List.mem_of_getElem? (i := 22) rfl)
  have w_23 := hw _ (List.mem_of_getElem? (i := 23) rfl)
  have w_32 := hw _ (List.mem_of_getElem? (i := 32) rfl)
  have w_33 := hw _ (List.mem_of_getElem? (i := 33) rfl)
  have w_34 := hw _ (List.mem_of_getElem? (i := 34) rfl)
  have w_35 := hw _ (List.mem_of_getElem? (i := 35) rfl)
  have w_36 := hw _ (List.mem_of_getElem? (i := 36) rfl)
  have w_76 := hw _ (List.mem_of_getElem? (i := 76) rfl)
  have w_77 := hw _ (List.mem_of_getElem? (i := 77) rfl)
  have w_78 := hw _ (List.mem_of_getElem? (i := 78) rfl)
  have w_79 := hw _ (List.mem_of_getElem? (i := 79) rfl)
  have w_91 := hw _ (List.mem_of_getElem? (i := 91) rfl)
  refine Goes.of (fun t => XS.iloadN X0w.here hx rfl (hb hby at_0) rfl) ?_
  show Goes p e below KK s₁ (mkF m 1 #[.val (.int p1), .val (.int p2), .val (.int p3), .val (.int p4), .unset, .unset, .unset, .unset, .unset, .unset, .unset, .unset] [(.int p1)])
  refine Goes.of (fun t => XS.iconst X0w.here hx rfl (hb hby at_1)) ?_
  show Goes p e below KK s₁ (mkF m 2 #[.val (.int p1), .val (.int p2), .val (.int p3), .val (.int p4), .unset, .unset, .unset, .unset, .unset, .unset, .unset, .unset] [(.int (1 : Int32)), (.int p1)])
  refine Goes.of (fun t => XS.iand X0w.here hx rfl (hb hby at_2) rfl) ?_
  show Goes p e below KK s₁ (mkF m 3 #[.val (.int p1), .val (.int p2), .val (.int p3), .val (.int p4), .unset, .unset, .unset, .unset, .unset, .unset, .unset, .unset] [(.int (p1 &&& (1 : Int32)))])
  by_cases hc3 : (p1 &&& (1 : Int32)) = (0 : Int32)
  · refine Goes.of (fun t => XS.ifNo X0w.here hx rfl (hb hby at_3) rfl ((if0 _ _).trans (teq hc3).2)) ?_
    show Goes p e below KK s₁ (mkF m 6 #[.val (.int p1), .val (.int p2), .val (.int p3), .val (.int p4), .unset, .unset, .unset, .unset, .unset, .unset, .unset, .unset] [])
    have wS162 : ∀ a ∈ Bundle.stringAtoms, a.before a0 Z = true := fun a ha => by
      simp only [Bundle.stringAtoms, List.mem_cons, List.not_mem_nil, or_false] at ha
      rcases ha with rfl | rfl | rfl | rfl | rfl | rfl | rfl
      · exact w_1
      · exact w_2
      · exact w_3
      · exact w_4
      · exact w_5
      · exact w_6
      · exact w_7
    obtain ⟨a162, T162, h162, k162, b162, kk162, X162, e162, E162, HS162, HK162, hZ162, hown162, Ex162, Fc162, Fv162, Va162, la162, lb162, cr162, Lt162, Sn162, st162⟩ := ldcCH X0w hx hZw hownw w_0 wS162 e0 HS0 HK0 hEL (List.mem_of_getElem? (i := 2) rfl) CR0.1 (vs := [(.int 45), (.int 45), (.int 112), (.int 111), (.int 108), (.int 105), (.int 99), (.int 121)]) (z := 8) ⟨by decide +kernel, by decide +kernel⟩ (by decide) rfl (g := (mkF m 6 #[.val (.int p1), .val (.int p2), .val (.int p3), .val (.int p4), .unset, .unset, .unset, .unset, .unset, .unset, .unset, .unset] [])) rfl (hb hby at_6) (n := 32) (by decide +kernel) (by decide) (by decide) (by decide)
    refine Goes.of (st162) ?_
    have CR162 := CR0.trans cr162
    have Scs_162 : Sta Z h162 "java/lang/String" "COMPACT_STRINGS" "Z" (.int cz) := Scs.ext E162
    have Sf_162 : Sta Z h162 "jdk/internal/util/Preconditions" "SIOOBE_FORMATTER" "Ljava/util/function/BiFunction;" fm := Sf.ext E162
    have K162 : Keep h0 h162 [] := (Keep.refl h0 []).ext E162
    have Z162 : n0 ≤ h162.size := Nat.le_trans Z0 E162.1
    have V162 : AI Z h162 b162 .byte [45, 45, 112, 111, 108, 105, 99, 121] := AI.ofArv Va162 rfl rfl
    show Goes p e below KK T162 (mkF m 8 #[.val (.int p1), .val (.int p2), .val (.int p3), .val (.int p4), .unset, .unset, .unset, .unset, .unset, .unset, .unset, .unset] [(.ref a162)])
    refine Goes.of (fun t => XS.goto X162.here hx rfl (pc0 := 8) (pc' := 13) rfl (hb hby at_8) (by decide) (by decide)) ?_
    show Goes p e below KK T162 (mkF m 13 #[.val (.int p1), .val (.int p2), .val (.int p3), .val (.int p4), .unset, .unset, .unset, .unset, .unset, .unset, .unset, .unset] [(.ref a162)])
    refine Goes.of (fun t => XS.astore X162.here hx rfl (hb hby at_13) rfl rfl (l' := #[.val (.int p1), .val (.int p2), .val (.int p3), .val (.int p4), .val (.ref a162), .unset, .unset, .unset, .unset, .unset, .unset, .unset]) rfl) ?_
    show Goes p e below KK T162 (mkF m 15 #[.val (.int p1), .val (.int p2), .val (.int p3), .val (.int p4), .val (.ref a162), .unset, .unset, .unset, .unset, .unset, .unset, .unset] [])
    have j163 : ∀ t, Steps p.tables e below (T162.setTop (mkF m 26 #[.val (.int p1), .val (.int p2), .val (.int p3), .val (.int p4), .val (.ref a162), .unset, .unset, .unset, .unset, .unset, .unset, .unset] [(.int (if (p1 &&& (2 : Int32)) = (0 : Int32) then (0 : Int32) else (1 : Int32)))])) t → Steps p.tables e below (T162.setTop (mkF m 15 #[.val (.int p1), .val (.int p2), .val (.int p3), .val (.int p4), .val (.ref a162), .unset, .unset, .unset, .unset, .unset, .unset, .unset] [])) t := by
      intro t k
      refine XS.iloadN X162.here hx rfl (hb hby at_15) rfl ?_
      show Steps p.tables e below (T162.setTop (mkF m 16 #[.val (.int p1), .val (.int p2), .val (.int p3), .val (.int p4), .val (.ref a162), .unset, .unset, .unset, .unset, .unset, .unset, .unset] [(.int p1)])) _
      refine XS.iconst X162.here hx rfl (hb hby at_16) ?_
      show Steps p.tables e below (T162.setTop (mkF m 17 #[.val (.int p1), .val (.int p2), .val (.int p3), .val (.int p4), .val (.ref a162), .unset, .unset, .unset, .unset, .unset, .unset, .unset] [(.int (2 : Int32)), (.int p1)])) _
      refine XS.iand X162.here hx rfl (hb hby at_17) rfl ?_
      show Steps p.tables e below (T162.setTop (mkF m 18 #[.val (.int p1), .val (.int p2), .val (.int p3), .val (.int p4), .val (.ref a162), .unset, .unset, .unset, .unset, .unset, .unset, .unset] [(.int (p1 &&& (2 : Int32)))])) _
      by_cases hc18 : (p1 &&& (2 : Int32)) = (0 : Int32)
      · refine XS.ifYes X162.here hx rfl (pc0 := 18) (pc' := 25) rfl (hb hby at_18) rfl ((if0 _ _).trans (teq hc18).1) (by decide) (by decide) ?_
        show Steps p.tables e below (T162.setTop (mkF m 25 #[.val (.int p1), .val (.int p2), .val (.int p3), .val (.int p4), .val (.ref a162), .unset, .unset, .unset, .unset, .unset, .unset, .unset] [])) _
        refine XS.iconst X162.here hx rfl (hb hby at_25) ?_
        show Steps p.tables e below (T162.setTop (mkF m 26 #[.val (.int p1), .val (.int p2), .val (.int p3), .val (.int p4), .val (.ref a162), .unset, .unset, .unset, .unset, .unset, .unset, .unset] [(.int (0 : Int32))])) _
        try rw [if_pos hc18] at k
        exact k
      · refine XS.ifNo X162.here hx rfl (hb hby at_18) rfl ((if0 _ _).trans (feq hc18).1) ?_
        show Steps p.tables e below (T162.setTop (mkF m 21 #[.val (.int p1), .val (.int p2), .val (.int p3), .val (.int p4), .val (.ref a162), .unset, .unset, .unset, .unset, .unset, .unset, .unset] [])) _
        refine XS.iconst X162.here hx rfl (hb hby at_21) ?_
        show Steps p.tables e below (T162.setTop (mkF m 22 #[.val (.int p1), .val (.int p2), .val (.int p3), .val (.int p4), .val (.ref a162), .unset, .unset, .unset, .unset, .unset, .unset, .unset] [(.int (1 : Int32))])) _
        refine XS.goto X162.here hx rfl (pc0 := 22) (pc' := 26) rfl (hb hby at_22) (by decide) (by decide) ?_
        show Steps p.tables e below (T162.setTop (mkF m 26 #[.val (.int p1), .val (.int p2), .val (.int p3), .val (.int p4), .val (.ref a162), .unset, .unset, .unset, .unset, .unset, .unset, .unset] [(.int (1 : Int32))])) _
        try rw [if_neg hc18] at k
        exact k
    refine Goes.of j163 ?_
    generalize e_mu : (if (p1 &&& (2 : Int32)) = (0 : Int32) then (0 : Int32) else (1 : Int32)) = mu
    show Goes p e below KK T162 (mkF m 26 #[.val (.int p1), .val (.int p2), .val (.int p3), .val (.int p4), .val (.ref a162), .unset, .unset, .unset, .unset, .unset, .unset, .unset] [(.int mu)])
    refine Goes.of (fun t => XS.istore X162.here hx rfl (hb hby at_26) rfl (l' := #[.val (.int p1), .val (.int p2), .val (.int p3), .val (.int p4), .val (.ref a162), .val (.int mu), .unset, .unset, .unset, .unset, .unset, .unset]) rfl) ?_
    show Goes p e below KK T162 (mkF m 28 #[.val (.int p1), .val (.int p2), .val (.int p3), .val (.int p4), .val (.ref a162), .val (.int mu), .unset, .unset, .unset, .unset, .unset, .unset] [])
    refine Goes.of (fun t => XS.iloadN X162.here hx rfl (hb hby at_28) rfl) ?_
    show Goes p e below KK T162 (mkF m 29 #[.val (.int p1), .val (.int p2), .val (.int p3), .val (.int p4), .val (.ref a162), .val (.int mu), .unset, .unset, .unset, .unset, .unset, .unset] [(.int p2)])
    refine Goes.of (X162.ldcInt hx hown162 (mvT hZ162 w_8) (g := (mkF m 29 #[.val (.int p1), .val (.int p2), .val (.int p3), .val (.int p4), .val (.ref a162), .val (.int mu), .unset, .unset, .unset, .unset, .unset, .unset] [(.int p2)])) rfl (hb hby at_29)) ?_
    show Goes p e below KK T162 (mkF m 31 #[.val (.int p1), .val (.int p2), .val (.int p3), .val (.int p4), .val (.ref a162), .val (.int mu), .unset, .unset, .unset, .unset, .unset, .unset] [(.int (2147483647 : Int32)), (.int p2)])
    refine Goes.of (fun t => XS.iand X162.here hx rfl (hb hby at_31) rfl) ?_
    show Goes p e below KK T162 (mkF m 32 #[.val (.int p1), .val (.int p2), .val (.int p3), .val (.int p4), .val (.ref a162), .val (.int mu), .unset, .unset, .unset, .unset, .unset, .unset] [(.int (p2 &&& (2147483647 : Int32)))])
    refine Goes.of (fun t => XS.bipush X162.here hx rfl (hb hby at_32)) ?_
    show Goes p e below KK T162 (mkF m 34 #[.val (.int p1), .val (.int p2), .val (.int p3), .val (.int p4), .val (.ref a162), .val (.int mu), .unset, .unset, .unset, .unset, .unset, .unset] [(.int (12 : Int32)), (.int (p2 &&& (2147483647 : Int32)))])
    refine Goes.of (fun t => iremM X162 hx rfl (hb hby at_34) rfl (by decide)) ?_
    show Goes p e below KK T162 (mkF m 35 #[.val (.int p1), .val (.int p2), .val (.int p3), .val (.int p4), .val (.ref a162), .val (.int mu), .unset, .unset, .unset, .unset, .unset, .unset] [(.int ((p2 &&& (2147483647 : Int32)) % (12 : Int32)))])
    generalize e_po : ((p2 &&& (2147483647 : Int32)) % (12 : Int32)) = po
    show Goes p e below KK T162 (mkF m 35 #[.val (.int p1), .val (.int p2), .val (.int p3), .val (.int p4), .val (.ref a162), .val (.int mu), .unset, .unset, .unset, .unset, .unset, .unset] [(.int po)])
    have hp1 : (p2 &&& 2147483647).toInt = p2.toInt % 2 ^ 31 := Jvm.Kit.i32_mask p2 2147483647 (k := 31) (by decide) (by decide)
    have hp2 : po.toInt = (p2 &&& 2147483647).toInt % 12 := by rw [← e_po]; exact Jvm.Kit.i32_rem_nonneg (by omega)
    have hp3 : 0 ≤ po.toInt := by omega
    refine Goes.of (fun t => XS.istore X162.here hx rfl (hb hby at_35) rfl (l' := #[.val (.int p1), .val (.int p2), .val (.int p3), .val (.int p4), .val (.ref a162), .val (.int mu), .val (.int po), .unset, .unset, .unset, .unset, .unset]) rfl) ?_
    show Goes p e below KK T162 (mkF m 37 #[.val (.int p1), .val (.int p2), .val (.int p3), .val (.int p4), .val (.ref a162), .val (.int mu), .val (.int po), .unset, .unset, .unset, .unset, .unset] [])
    refine Goes.of (fun t => XS.iloadN X162.here hx rfl (hb hby at_37) rfl) ?_
    show Goes p e below KK T162 (mkF m 38 #[.val (.int p1), .val (.int p2), .val (.int p3), .val (.int p4), .val (.ref a162), .val (.int mu), .val (.int po), .unset, .unset, .unset, .unset, .unset] [(.int p3)])
    refine Goes.of (fun t => XS.sipush X162.here hx rfl (hb hby at_38)) ?_
    show Goes p e below KK T162 (mkF m 41 #[.val (.int p1), .val (.int p2), .val (.int p3), .val (.int p4), .val (.ref a162), .val (.int mu), .val (.int po), .unset, .unset, .unset, .unset, .unset] [(.int (255 : Int32)), (.int p3)])
    refine Goes.of (fun t => XS.iand X162.here hx rfl (hb hby at_41) rfl) ?_
    show Goes p e below KK T162 (mkF m 42 #[.val (.int p1), .val (.int p2), .val (.int p3), .val (.int p4), .val (.ref a162), .val (.int mu), .val (.int po), .unset, .unset, .unset, .unset, .unset] [(.int (p3 &&& (255 : Int32)))])
    refine Goes.of (fun t => XT.i2c X162.here hx rfl (hb hby at_42) rfl) ?_
    show Goes p e below KK T162 (mkF m 43 #[.val (.int p1), .val (.int p2), .val (.int p3), .val (.int p4), .val (.ref a162), .val (.int mu), .val (.int po), .unset, .unset, .unset, .unset, .unset] [(.int ((p3 &&& (255 : Int32)).toUInt32.toUInt16.toUInt32.toInt32))])
    generalize e_dr : ((p3 &&& (255 : Int32)).toUInt32.toUInt16.toUInt32.toInt32) = dr
    show Goes p e below KK T162 (mkF m 43 #[.val (.int p1), .val (.int p2), .val (.int p3), .val (.int p4), .val (.ref a162), .val (.int mu), .val (.int po), .unset, .unset, .unset, .unset, .unset] [(.int dr)])
    have hd : 0 ≤ dr.toInt ∧ dr.toInt ≤ 255 := by rw [← e_dr]; exact own_i2c p3
    refine Goes.of (fun t => XS.istore X162.here hx rfl (hb hby at_43) rfl (l' := #[.val (.int p1), .val (.int p2), .val (.int p3), .val (.int p4), .val (.ref a162), .val (.int mu), .val (.int po), .val (.int dr), .unset, .unset, .unset, .unset]) rfl) ?_
    show Goes p e below KK T162 (mkF m 45 #[.val (.int p1), .val (.int p2), .val (.int p3), .val (.int p4), .val (.ref a162), .val (.int mu), .val (.int po), .val (.int dr), .unset, .unset, .unset, .unset] [])
    refine Goes.of (fun t => XS.iloadN X162.here hx rfl (hb hby at_45) rfl) ?_
    show Goes p e below KK T162 (mkF m 46 #[.val (.int p1), .val (.int p2), .val (.int p3), .val (.int p4), .val (.ref a162), .val (.int mu), .val (.int po), .val (.int dr), .unset, .unset, .unset, .unset] [(.int p3)])
    refine Goes.of (fun t => XS.bipush X162.here hx rfl (hb hby at_46)) ?_
    show Goes p e below KK T162 (mkF m 48 #[.val (.int p1), .val (.int p2), .val (.int p3), .val (.int p4), .val (.ref a162), .val (.int mu), .val (.int po), .val (.int dr), .unset, .unset, .unset, .unset] [(.int (8 : Int32)), (.int p3)])
    refine Goes.of (fun t => XT.iushr X162.here hx rfl (hb hby at_48) rfl) ?_
    show Goes p e below KK T162 (mkF m 49 #[.val (.int p1), .val (.int p2), .val (.int p3), .val (.int p4), .val (.ref a162), .val (.int mu), .val (.int po), .val (.int dr), .unset, .unset, .unset, .unset] [(.int (XT.ushr p3 (8 : Int32)))])
    refine Goes.of (fun t => XS.sipush X162.here hx rfl (hb hby at_49)) ?_
    show Goes p e below KK T162 (mkF m 52 #[.val (.int p1), .val (.int p2), .val (.int p3), .val (.int p4), .val (.ref a162), .val (.int mu), .val (.int po), .val (.int dr), .unset, .unset, .unset, .unset] [(.int (255 : Int32)), (.int (XT.ushr p3 (8 : Int32)))])
    refine Goes.of (fun t => XS.iand X162.here hx rfl (hb hby at_52) rfl) ?_
    show Goes p e below KK T162 (mkF m 53 #[.val (.int p1), .val (.int p2), .val (.int p3), .val (.int p4), .val (.ref a162), .val (.int mu), .val (.int po), .val (.int dr), .unset, .unset, .unset, .unset] [(.int ((XT.ushr p3 (8 : Int32)) &&& (255 : Int32)))])
    refine Goes.of (fun t => XT.i2c X162.here hx rfl (hb hby at_53) rfl) ?_
    show Goes p e below KK T162 (mkF m 54 #[.val (.int p1), .val (.int p2), .val (.int p3), .val (.int p4), .val (.ref a162), .val (.int mu), .val (.int po), .val (.int dr), .unset, .unset, .unset, .unset] [(.int (((XT.ushr p3 (8 : Int32)) &&& (255 : Int32)).toUInt32.toUInt16.toUInt32.toInt32))])
    generalize e_fi : (((XT.ushr p3 (8 : Int32)) &&& (255 : Int32)).toUInt32.toUInt16.toUInt32.toInt32) = fi
    show Goes p e below KK T162 (mkF m 54 #[.val (.int p1), .val (.int p2), .val (.int p3), .val (.int p4), .val (.ref a162), .val (.int mu), .val (.int po), .val (.int dr), .unset, .unset, .unset, .unset] [(.int fi)])
    have hf : 0 ≤ fi.toInt ∧ fi.toInt ≤ 255 := by rw [← e_fi]; exact own_i2c _
    refine Goes.of (fun t => XS.istore X162.here hx rfl (hb hby at_54) rfl (l' := #[.val (.int p1), .val (.int p2), .val (.int p3), .val (.int p4), .val (.ref a162), .val (.int mu), .val (.int po), .val (.int dr), .val (.int fi), .unset, .unset, .unset]) rfl) ?_
    show Goes p e below KK T162 (mkF m 56 #[.val (.int p1), .val (.int p2), .val (.int p3), .val (.int p4), .val (.ref a162), .val (.int mu), .val (.int po), .val (.int dr), .val (.int fi), .unset, .unset, .unset] [])
    refine Goes.of (fun t => XS.iloadN X162.here hx rfl (hb hby at_56) rfl) ?_
    show Goes p e below KK T162 (mkF m 57 #[.val (.int p1), .val (.int p2), .val (.int p3), .val (.int p4), .val (.ref a162), .val (.int mu), .val (.int po), .val (.int dr), .val (.int fi), .unset, .unset, .unset] [(.int p4)])
    obtain ⟨_, _, ⟨T164, L164, k164, n164⟩, -, X164, ⟨Lc164, hQ164, l164, y164, z164⟩, st164⟩ := Jvm.LawKit.callS X162 hx (y := (⟨"com/example/warrant/warrant/cli/PolicyFilesNamesPinLaw", "lengthOf", "(I)I"⟩ : MethodName)) hown162 (mvT hZ162 w_9) (mvT hZ162 w_10) (mvT hZ162 w_11) (mvT hZ162 w_12) (by decide) (backOf (W := 0) (rm1 l Z a0 hw [] p4  h162 n0 Z162 ) hZ162 w_12 w_11 (by decide) (by decide)) (g := (mkF m 57 #[.val (.int p1), .val (.int p2), .val (.int p3), .val (.int p4), .val (.ref a162), .val (.int mu), .val (.int po), .val (.int dr), .val (.int fi), .unset, .unset, .unset] [(.int p4)])) rfl (by rw [hml]; rfl) (argsL := [(.int p4)]) (rest := []) (lenOf pd_34 rfl) rfl (by show 2 * 0 + _ ≤ _; exact Nat.le_of_eq rfl) (hb hby at_57) (fun _ _ => ⟨rfl, e162, (by decide : 2 + 0 ≤ _), (by decide : 36 + 0 ≤ _)⟩)
    dsimp only [Pt.U, Pt.locs, Pt.cells, Pt.slots] at X164 l164 y164 z164 st164 hQ164
    subst y164 z164
    obtain ⟨rfl, N164q, e164⟩ := hQ164
    have N164 : Fr n0 L164 := by rw [l164]; exact Fr.app N0 N164q
    refine Goes.of st164 ?_
    show Goes p e below KK T164 (mkF m 60 #[.val (.int p1), .val (.int p2), .val (.int p3), .val (.int p4), .val (.ref a162), .val (.int mu), .val (.int po), .val (.int dr), .val (.int fi), .unset, .unset, .unset] [(.int (f1 p4))])
    generalize e_nn : (f1 p4) = nn
    show Goes p e below KK T164 (mkF m 60 #[.val (.int p1), .val (.int p2), .val (.int p3), .val (.int p4), .val (.ref a162), .val (.int mu), .val (.int po), .val (.int dr), .val (.int fi), .unset, .unset, .unset] [(.int nn)])
    obtain ⟨kn, hkn0, hkk⟩ := own_len p4
    have hkn : nn.toInt = (kn : Int) := by rw [← e_nn]; exact hkn0
    refine Goes.of (fun t => XS.istore X164.here hx rfl (hb hby at_60) rfl (l' := #[.val (.int p1), .val (.int p2), .val (.int p3), .val (.int p4), .val (.ref a162), .val (.int mu), .val (.int po), .val (.int dr), .val (.int fi), .val (.int nn), .unset, .unset]) rfl) ?_
    show Goes p e below KK T164 (mkF m 62 #[.val (.int p1), .val (.int p2), .val (.int p3), .val (.int p4), .val (.ref a162), .val (.int mu), .val (.int po), .val (.int dr), .val (.int fi), .val (.int nn), .unset, .unset] [])
    refine Goes.of (fun t => XS.iload X164.here hx rfl (hb hby at_62) rfl) ?_
    show Goes p e below KK T164 (mkF m 64 #[.val (.int p1), .val (.int p2), .val (.int p3), .val (.int p4), .val (.ref a162), .val (.int mu), .val (.int po), .val (.int dr), .val (.int fi), .val (.int nn), .unset, .unset] [(.int nn)])
    refine Goes.of (fun t => XS.aload X164.here hx rfl (hb hby at_64) rfl rfl) ?_
    show Goes p e below KK T164 (mkF m 66 #[.val (.int p1), .val (.int p2), .val (.int p3), .val (.int p4), .val (.ref a162), .val (.int mu), .val (.int po), .val (.int dr), .val (.int fi), .val (.int nn), .unset, .unset] [(.ref a162), (.int nn)])
    refine Goes.of (fun t => XS.iload X164.here hx rfl (hb hby at_66) rfl) ?_
    show Goes p e below KK T164 (mkF m 68 #[.val (.int p1), .val (.int p2), .val (.int p3), .val (.int p4), .val (.ref a162), .val (.int mu), .val (.int po), .val (.int dr), .val (.int fi), .val (.int nn), .unset, .unset] [(.int mu), (.ref a162), (.int nn)])
    refine Goes.of (fun t => XS.iload X164.here hx rfl (hb hby at_68) rfl) ?_
    show Goes p e below KK T164 (mkF m 70 #[.val (.int p1), .val (.int p2), .val (.int p3), .val (.int p4), .val (.ref a162), .val (.int mu), .val (.int po), .val (.int dr), .val (.int fi), .val (.int nn), .unset, .unset] [(.int po), (.int mu), (.ref a162), (.int nn)])
    refine Goes.of (fun t => XS.iload X164.here hx rfl (hb hby at_70) rfl) ?_
    show Goes p e below KK T164 (mkF m 72 #[.val (.int p1), .val (.int p2), .val (.int p3), .val (.int p4), .val (.ref a162), .val (.int mu), .val (.int po), .val (.int dr), .val (.int fi), .val (.int nn), .unset, .unset] [(.int dr), (.int po), (.int mu), (.ref a162), (.int nn)])
    refine Goes.of (fun t => XS.iload X164.here hx rfl (hb hby at_72) rfl) ?_
    show Goes p e below KK T164 (mkF m 74 #[.val (.int p1), .val (.int p2), .val (.int p3), .val (.int p4), .val (.ref a162), .val (.int mu), .val (.int po), .val (.int dr), .val (.int fi), .val (.int nn), .unset, .unset] [(.int fi), (.int dr), (.int po), (.int mu), (.ref a162), (.int nn)])
    obtain ⟨_, _, ⟨T165, L165, k165, n165⟩, -, X165, hSi165, hge165, ⟨Lc165, hQ165, l165, y165, z165, cr165⟩, st165⟩ := callSS X164 hx (y := (⟨"com/example/warrant/warrant/cli/PolicyFilesNamesPinLaw", "make", "(ILjava/lang/String;ZICC)Ljava/lang/String;"⟩ : MethodName)) hown162 (mvT hZ162 w_13) (mvT hZ162 w_14) (mvT hZ162 w_11) (mvT hZ162 w_15) (by decide) (backOfSH (W := 0) (rm2 l Z a0 hw [] nn a162 mu po dr fi b162 XP 8 cz fm kn h162 n0 Z162 Ex162 Fc162 Fv162 V162 rfl Scs_162 hcz Sf_162 hfm own_ascP hd hf hkn hkk) hZ162 w_15 w_11 (by decide) (by decide) hEL CR162.1) (g := (mkF m 74 #[.val (.int p1), .val (.int p2), .val (.int p3), .val (.int p4), .val (.ref a162), .val (.int mu), .val (.int po), .val (.int dr), .val (.int fi), .val (.int nn), .unset, .unset] [(.int fi), (.int dr), (.int po), (.int mu), (.ref a162), (.int nn)])) rfl (by rw [hml]; rfl) (argsL := [(.int nn), (.ref a162), (.int mu), (.int po), (.int dr), (.int fi)]) (rest := []) (lenOf pd_35 rfl) rfl (by show 2 * 0 + _ ≤ _; exact Nat.le_of_eq rfl) (hb hby at_74) (fun _ _ => ⟨rfl, e164, (by decide : 2 + 6 ≤ _), (by decide : 36 + 28 ≤ _)⟩)
    dsimp only [Pt.U, Pt.locs, Pt.cells, Pt.slots] at X165 l165 y165 z165 st165 hQ165 hSi165 hge165 cr165
    subst y165 z165
    obtain ⟨Y165, HS165, hZ165, hown165⟩ := rebS HS162 (by rw [e164]; exact HK162) X165 hSi165 hge165 hZ162 hown162
    have HK165 := Nat.le_refl T165.heap.size
    have CR165 := CR162.trans cr165
    obtain ⟨r165, t165, rfl, N165q, Kc165, E165, Fc165, Fv165, V165⟩ := hQ165
    have N165 : Fr n0 L165 := by rw [l165]; exact Fr.app N164 N165q
    have Scs_162_165 : Sta Z T165.heap "java/lang/String" "COMPACT_STRINGS" "Z" (.int cz) := own_staK Scs_162 Kc165 ns0
    have Sf_162_165 : Sta Z T165.heap "jdk/internal/util/Preconditions" "SIOOBE_FORMATTER" "Ljava/util/function/BiFunction;" fm := own_staK Sf_162 Kc165 ns0
    have Ex162_165 : Exa Z T165.heap a162 "java/lang/String" := Ex162.keep Kc165
    have Fc162_165 : Fld Z T165.heap a162 "java/lang/String" "coder" "B" (.int (0 : Int32)) := Fc162.keep Kc165 nin0
    have Fv162_165 : Fld Z T165.heap a162 "java/lang/String" "value" "[B" (.ref b162) := Fv162.keep Kc165 nin0
    have V162_165 : AI Z T165.heap b162 .byte [45, 45, 112, 111, 108, 105, 99, 121] := V162.keep Kc165 nin0
    have K165 : Keep h0 T165.heap [] := K162.trans Kc165 all0
    have Z165 : n0 ≤ T165.heap.size := Nat.le_trans Z162 Kc165.1
    have e165 : T165.heap = T165.heap := rfl
    refine Goes.tr st165 ?_
    show Goes p e below KK T165 (mkF m 77 #[.val (.int p1), .val (.int p2), .val (.int p3), .val (.int p4), .val (.ref a162), .val (.int mu), .val (.int po), .val (.int dr), .val (.int fi), .val (.int nn), .unset, .unset] [(.ref r165)])
    refine Goes.of (fun t => XS.astore Y165.here hx rfl (hb hby at_77) rfl rfl (l' := #[.val (.int p1), .val (.int p2), .val (.int p3), .val (.int p4), .val (.ref a162), .val (.int mu), .val (.int po), .val (.int dr), .val (.int fi), .val (.int nn), .val (.ref r165), .unset]) rfl) ?_
    show Goes p e below KK T165 (mkF m 79 #[.val (.int p1), .val (.int p2), .val (.int p3), .val (.int p4), .val (.ref a162), .val (.int mu), .val (.int po), .val (.int dr), .val (.int fi), .val (.int nn), .val (.ref r165), .unset] [])
    refine Goes.of (fun t => XS.iload Y165.here hx rfl (hb hby at_79) rfl) ?_
    show Goes p e below KK T165 (mkF m 81 #[.val (.int p1), .val (.int p2), .val (.int p3), .val (.int p4), .val (.ref a162), .val (.int mu), .val (.int po), .val (.int dr), .val (.int fi), .val (.int nn), .val (.ref r165), .unset] [(.int nn)])
    refine Goes.of (fun t => XS.aload Y165.here hx rfl (hb hby at_81) rfl rfl) ?_
    show Goes p e below KK T165 (mkF m 83 #[.val (.int p1), .val (.int p2), .val (.int p3), .val (.int p4), .val (.ref a162), .val (.int mu), .val (.int po), .val (.int dr), .val (.int fi), .val (.int nn), .val (.ref r165), .unset] [(.ref a162), (.int nn)])
    obtain ⟨cq166, kq166, q166a, q166b, q166c⟩ := isOf hZ165 e165 Ex162_165
    obtain ⟨_, _, ⟨T166, L166, k166, n166⟩, -, X166, ⟨Lc166, hQ166, l166, y166, z166⟩, st166⟩ := Y165.virtualBack hx (y := (⟨"java/lang/String", "length", "()I"⟩ : MethodName)) (z := (⟨"java/lang/String", "length", "()I"⟩ : MethodName)) hown165 (mvT hZ165 w_19) (mvT hZ165 w_20) (notFace_of_selects (args := #[]) (mvT hZ165 w_22)) (mvT hZ165 w_22) (mvT hZ165 w_21) (by decide) (backOf (W := 1) (rm4 l Z a0 hw [] a162 b162 [45, 45, 112, 111, 108, 105, 99, 121] 8 cz T165.heap n0 Z165 Ex162_165 Fc162_165 Fv162_165 V162_165 (rfl) Scs_162_165 hcz) hZ165 w_23 w_1 (by decide) (by decide)) q166a q166c (g := (mkF m 83 #[.val (.int p1), .val (.int p2), .val (.int p3), .val (.int p4), .val (.ref a162), .val (.int mu), .val (.int po), .val (.int dr), .val (.int fi), .val (.int nn), .val (.ref r165), .unset] [(.ref a162), (.int nn)])) rfl (by rw [hml]; rfl) (Steps.refl _) (argsL := []) (rest := [(.int nn)]) (lenOf pd_14 rfl) rfl (by show 2 * 0 + _ ≤ _; exact Nat.le_of_eq rfl) (hb hby at_83) (fun _ _ => ⟨rfl, e165, (by decide : 8 + 0 ≤ _), (by decide : 64 + 0 ≤ _)⟩)
    dsimp only [Pt.U, Pt.locs, Pt.cells, Pt.slots] at X166 l166 y166 z166 st166 hQ166
    subst y166 z166
    obtain ⟨rfl, N166q, e166⟩ := hQ166
    have N166 : Fr n0 L166 := by rw [l166]; exact Fr.app N165 N166q
    refine Goes.tr st166 ?_
    show Goes p e below KK T166 (mkF m 86 #[.val (.int p1), .val (.int p2), .val (.int p3), .val (.int p4), .val (.ref a162), .val (.int mu), .val (.int po), .val (.int dr), .val (.int fi), .val (.int nn), .val (.ref r165), .unset] [(.int 8), (.int nn)])
    by_cases hc86 : nn = 8
    · refine Goes.of (fun t => XS.icmpNo X166.here hx rfl (hb hby at_86) rfl (teq hc86).2) ?_
      show Goes p e below KK T166 (mkF m 89 #[.val (.int p1), .val (.int p2), .val (.int p3), .val (.int p4), .val (.ref a162), .val (.int mu), .val (.int po), .val (.int dr), .val (.int fi), .val (.int nn), .val (.ref r165), .unset] [])
      refine Goes.of (fun t => XS.iload X166.here hx rfl (hb hby at_89) rfl) ?_
      show Goes p e below KK T166 (mkF m 91 #[.val (.int p1), .val (.int p2), .val (.int p3), .val (.int p4), .val (.ref a162), .val (.int mu), .val (.int po), .val (.int dr), .val (.int fi), .val (.int nn), .val (.ref r165), .unset] [(.int mu)])
      by_cases hc91 : mu = (0 : Int32)
      · refine Goes.of (fun t => XS.ifYes X166.here hx rfl (pc0 := 91) (pc' := 113) rfl (hb hby at_91) rfl ((if0 _ _).trans (teq hc91).1) (by decide) (by decide)) ?_
        show Goes p e below KK T166 (mkF m 113 #[.val (.int p1), .val (.int p2), .val (.int p3), .val (.int p4), .val (.ref a162), .val (.int mu), .val (.int po), .val (.int dr), .val (.int fi), .val (.int nn), .val (.ref r165), .unset] [])
        refine Goes.of (fun t => XS.iconst X166.here hx rfl (hb hby at_113)) ?_
        show Goes p e below KK T166 (mkF m 114 #[.val (.int p1), .val (.int p2), .val (.int p3), .val (.int p4), .val (.ref a162), .val (.int mu), .val (.int po), .val (.int dr), .val (.int fi), .val (.int nn), .val (.ref r165), .unset] [(.int (1 : Int32))])
        refine Goes.of (fun t => XS.goto X166.here hx rfl (pc0 := 114) (pc' := 118) rfl (hb hby at_114) (by decide) (by decide)) ?_
        show Goes p e below KK T166 (mkF m 118 #[.val (.int p1), .val (.int p2), .val (.int p3), .val (.int p4), .val (.ref a162), .val (.int mu), .val (.int po), .val (.int dr), .val (.int fi), .val (.int nn), .val (.ref r165), .unset] [(.int (1 : Int32))])
        refine Goes.of (fun t => XS.istore X166.here hx rfl (hb hby at_118) rfl (l' := #[.val (.int p1), .val (.int p2), .val (.int p3), .val (.int p4), .val (.ref a162), .val (.int mu), .val (.int po), .val (.int dr), .val (.int fi), .val (.int nn), .val (.ref r165), .val (.int (1 : Int32))]) rfl) ?_
        show Goes p e below KK T166 (mkF m 120 #[.val (.int p1), .val (.int p2), .val (.int p3), .val (.int p4), .val (.ref a162), .val (.int mu), .val (.int po), .val (.int dr), .val (.int fi), .val (.int nn), .val (.ref r165), .val (.int (1 : Int32))] [])
        refine Goes.of (fun t => XS.aload X166.here hx rfl (hb hby at_120) rfl rfl) ?_
        show Goes p e below KK T166 (mkF m 122 #[.val (.int p1), .val (.int p2), .val (.int p3), .val (.int p4), .val (.ref a162), .val (.int mu), .val (.int po), .val (.int dr), .val (.int fi), .val (.int nn), .val (.ref r165), .val (.int (1 : Int32))] [(.ref r165)])
        obtain ⟨_, _, ⟨T167, L167, k167, n167⟩, -, X167, hSi167, hge167, ⟨Lc167, hQ167, l167, y167, z167, cr167⟩, st167⟩ := callSS X166 hx (y := (⟨"com/example/warrant/warrant/cli/PolicyFiles", "names", "(Ljava/lang/String;)Z"⟩ : MethodName)) hown165 (mvT hZ165 w_76) (mvT hZ165 w_77) (mvT hZ165 w_78) (mvT hZ165 w_79) (by decide) (backOfSH (W := 0) (rm17 l Z a0 hw [] r165 t165 (mkL XP kn mu po dr fi) nn cz T165.heap n0 Z165 E165 Fc165 Fv165 V165 (by rw [mkL_len]; exact hkn) (by rw [mkL_len]; omega) Scs_162_165 hcz) hZ165 w_79 w_78 (by decide) (by decide) hEL CR165.1) (g := (mkF m 122 #[.val (.int p1), .val (.int p2), .val (.int p3), .val (.int p4), .val (.ref a162), .val (.int mu), .val (.int po), .val (.int dr), .val (.int fi), .val (.int nn), .val (.ref r165), .val (.int (1 : Int32))] [(.ref r165)])) rfl (by rw [hml]; rfl) (argsL := [(.ref r165)]) (rest := []) (lenOf pd_36 rfl) rfl (by show 2 * 0 + _ ≤ _; exact Nat.le_of_eq rfl) (hb hby at_122) (fun _ _ => ⟨rfl, e166, (by decide : 8 + 4 ≤ _), (by decide : 64 + 84 ≤ _)⟩)
        dsimp only [Pt.U, Pt.locs, Pt.cells, Pt.slots] at X167 l167 y167 z167 st167 hQ167 hSi167 hge167 cr167
        subst y167 z167
        obtain ⟨Y167, HS167, hZ167, hown167⟩ := rebS HS165 (by rw [e166]; exact HK165) X167 hSi167 hge167 hZ165 hown165
        have HK167 := Nat.le_refl T167.heap.size
        have CR167 := CR165.trans cr167
        obtain ⟨rfl, N167q, Kc167⟩ := hQ167
        have N167 : Fr n0 L167 := by rw [l167]; exact Fr.app N166 N167q
        have Scs_162_165_167 : Sta Z T167.heap "java/lang/String" "COMPACT_STRINGS" "Z" (.int cz) := own_staK Scs_162_165 Kc167 ns0
        have Sf_162_165_167 : Sta Z T167.heap "jdk/internal/util/Preconditions" "SIOOBE_FORMATTER" "Ljava/util/function/BiFunction;" fm := own_staK Sf_162_165 Kc167 ns0
        have Ex162_165_167 : Exa Z T167.heap a162 "java/lang/String" := Ex162_165.keep Kc167
        have Fc162_165_167 : Fld Z T167.heap a162 "java/lang/String" "coder" "B" (.int (0 : Int32)) := Fc162_165.keep Kc167 nin0
        have Fv162_165_167 : Fld Z T167.heap a162 "java/lang/String" "value" "[B" (.ref b162) := Fv162_165.keep Kc167 nin0
        have V162_165_167 : AI Z T167.heap b162 .byte [45, 45, 112, 111, 108, 105, 99, 121] := V162_165.keep Kc167 nin0
        have E165_167 : Exa Z T167.heap r165 "java/lang/String" := E165.keep Kc167
        have Fc165_167 : Fld Z T167.heap r165 "java/lang/String" "coder" "B" (.int (0 : Int32)) := Fc165.keep Kc167 nin0
        have Fv165_167 : Fld Z T167.heap r165 "java/lang/String" "value" "[B" (.ref t165) := Fv165.keep Kc167 nin0
        have V165_167 : AI Z T167.heap t165 .byte (mkL XP kn mu po dr fi) := V165.keep Kc167 nin0
        have K167 : Keep h0 T167.heap [] := K165.trans Kc167 all0
        have Z167 : n0 ≤ T167.heap.size := Nat.le_trans Z165 Kc167.1
        have e167 : T167.heap = T167.heap := rfl
        refine Goes.tr st167 ?_
        show Goes p e below KK T167 (mkF m 125 #[.val (.int p1), .val (.int p2), .val (.int p3), .val (.int p4), .val (.ref a162), .val (.int mu), .val (.int po), .val (.int dr), .val (.int fi), .val (.int nn), .val (.ref r165), .val (.int (1 : Int32))] [(.int (nmV (mkL XP kn mu po dr fi)))])
        refine Goes.of (fun t => XS.iload Y167.here hx rfl (hb hby at_125) rfl) ?_
        show Goes p e below KK T167 (mkF m 127 #[.val (.int p1), .val (.int p2), .val (.int p3), .val (.int p4), .val (.ref a162), .val (.int mu), .val (.int po), .val (.int dr), .val (.int fi), .val (.int nn), .val (.ref r165), .val (.int (1 : Int32))] [(.int (1 : Int32)), (.int (nmV (mkL XP kn mu po dr fi)))])
        refine Goes.of (fun t => XS.icmpNo Y167.here hx rfl (hb hby at_127) rfl (teq (show (nmV (mkL XP kn mu po dr fi)) = (1 : Int32) from own_v1 (Or.inl (own_eq own_ascP (show kn = 8 by have q2 := congrArg Int32.toInt hc86; have z : (8 : Int32).toInt = 8 := rfl; omega) (fun i q1 q2 q3 => absurd hc91 q2))))).2) ?_
        show Goes p e below KK T167 (mkF m 130 #[.val (.int p1), .val (.int p2), .val (.int p3), .val (.int p4), .val (.ref a162), .val (.int mu), .val (.int po), .val (.int dr), .val (.int fi), .val (.int nn), .val (.ref r165), .val (.int (1 : Int32))] [])
        refine Goes.of (fun t => XS.iconst Y167.here hx rfl (hb hby at_130)) ?_
        show Goes p e below KK T167 (mkF m 131 #[.val (.int p1), .val (.int p2), .val (.int p3), .val (.int p4), .val (.ref a162), .val (.int mu), .val (.int po), .val (.int dr), .val (.int fi), .val (.int nn), .val (.ref r165), .val (.int (1 : Int32))] [(.int (1 : Int32))])
        refine Goes.of (fun t => XS.goto Y167.here hx rfl (pc0 := 131) (pc' := 135) rfl (hb hby at_131) (by decide) (by decide)) ?_
        show Goes p e below KK T167 (mkF m 135 #[.val (.int p1), .val (.int p2), .val (.int p3), .val (.int p4), .val (.ref a162), .val (.int mu), .val (.int po), .val (.int dr), .val (.int fi), .val (.int nn), .val (.ref r165), .val (.int (1 : Int32))] [(.int (1 : Int32))])
        rw [← hKK]
        refine Goes.retNarW Y167 HS167 (by rw [e167]; exact HK167) hx hlk (t := .boolean) (by simp) Bd.returns (hb hby at_135) ?_ (by decide) (by decide)
        rw [e167]
        exact ⟨rfl, N167⟩
      · refine Goes.of (fun t => XS.ifNo X166.here hx rfl (hb hby at_91) rfl ((if0 _ _).trans (feq hc91).1)) ?_
        show Goes p e below KK T166 (mkF m 94 #[.val (.int p1), .val (.int p2), .val (.int p3), .val (.int p4), .val (.ref a162), .val (.int mu), .val (.int po), .val (.int dr), .val (.int fi), .val (.int nn), .val (.ref r165), .unset] [])
        refine Goes.of (fun t => XS.iload X166.here hx rfl (hb hby at_94) rfl) ?_
        show Goes p e below KK T166 (mkF m 96 #[.val (.int p1), .val (.int p2), .val (.int p3), .val (.int p4), .val (.ref a162), .val (.int mu), .val (.int po), .val (.int dr), .val (.int fi), .val (.int nn), .val (.ref r165), .unset] [(.int po)])
        refine Goes.of (fun t => XS.iload X166.here hx rfl (hb hby at_96) rfl) ?_
        show Goes p e below KK T166 (mkF m 98 #[.val (.int p1), .val (.int p2), .val (.int p3), .val (.int p4), .val (.ref a162), .val (.int mu), .val (.int po), .val (.int dr), .val (.int fi), .val (.int nn), .val (.ref r165), .unset] [(.int nn), (.int po)])
        by_cases hc98 : po < nn
        · refine Goes.of (fun t => XS.icmpNo X166.here hx rfl (hb hby at_98) rfl (tlt hc98).2.1) ?_
          show Goes p e below KK T166 (mkF m 101 #[.val (.int p1), .val (.int p2), .val (.int p3), .val (.int p4), .val (.ref a162), .val (.int mu), .val (.int po), .val (.int dr), .val (.int fi), .val (.int nn), .val (.ref r165), .unset] [])
          refine Goes.of (fun t => XS.iload X166.here hx rfl (hb hby at_101) rfl) ?_
          show Goes p e below KK T166 (mkF m 103 #[.val (.int p1), .val (.int p2), .val (.int p3), .val (.int p4), .val (.ref a162), .val (.int mu), .val (.int po), .val (.int dr), .val (.int fi), .val (.int nn), .val (.ref r165), .unset] [(.int dr)])
          refine Goes.of (fun t => XS.aload X166.here hx rfl (hb hby at_103) rfl rfl) ?_
          show Goes p e below KK T166 (mkF m 105 #[.val (.int p1), .val (.int p2), .val (.int p3), .val (.int p4), .val (.ref a162), .val (.int mu), .val (.int po), .val (.int dr), .val (.int fi), .val (.int nn), .val (.ref r165), .unset] [(.ref a162), (.int dr)])
          refine Goes.of (fun t => XS.iload X166.here hx rfl (hb hby at_105) rfl) ?_
          show Goes p e below KK T166 (mkF m 107 #[.val (.int p1), .val (.int p2), .val (.int p3), .val (.int p4), .val (.ref a162), .val (.int mu), .val (.int po), .val (.int dr), .val (.int fi), .val (.int nn), .val (.ref r165), .unset] [(.int po), (.ref a162), (.int dr)])
          have hpl : po.toInt.toNat < 8 := by
            have q1 := hc98
            have q2 := congrArg Int32.toInt hc86
            have z : (8 : Int32).toInt = 8 := rfl
            rw [Int32.lt_iff_toInt_lt] at q1
            omega
          obtain ⟨y, hy⟩ : ∃ y, ([45, 45, 112, 111, 108, 105, 99, 121] : List Int32)[po.toInt.toNat]? = some y := ⟨_, List.getElem?_eq_getElem (show po.toInt.toNat < List.length ([45, 45, 112, 111, 108, 105, 99, 121] : List Int32) from hpl)⟩
          have hyb := own_ascP y (List.mem_of_getElem? hy)
          obtain ⟨cq168, kq168, q168a, q168b, q168c⟩ := isOf hZ165 e166 Ex162_165
          obtain ⟨_, _, ⟨T168, L168, k168, n168⟩, -, X168, ⟨Lc168, hQ168, l168, y168, z168⟩, st168⟩ := X166.virtualBack hx (y := (⟨"java/lang/String", "charAt", "(I)C"⟩ : MethodName)) (z := (⟨"java/lang/String", "charAt", "(I)C"⟩ : MethodName)) hown165 (mvT hZ165 w_32) (mvT hZ165 w_33) (notFace_of_selects (args := #[]) (mvT hZ165 w_35)) (mvT hZ165 w_35) (mvT hZ165 w_34) (by decide) (backOf (W := 1) (rm6 l Z a0 hw [] a162 po b162 [45, 45, 112, 111, 108, 105, 99, 121] 8 cz po.toInt.toNat y fm T165.heap n0 Z165 Ex162_165 Fc162_165 Fv162_165 V162_165 (rfl) Scs_162_165 hcz Sf_162_165 (fun q => by rw [Int32.lt_iff_toInt_lt] at q; have z : (0 : Int32).toInt = 0 := rfl; omega) (by rw [Int32.lt_iff_toInt_lt]; have z : (8 : Int32).toInt = 8 := rfl; omega) hfm (by omega) hy hyb) hZ165 w_36 w_1 (by decide) (by decide)) q168a q168c (g := (mkF m 107 #[.val (.int p1), .val (.int p2), .val (.int p3), .val (.int p4), .val (.ref a162), .val (.int mu), .val (.int po), .val (.int dr), .val (.int fi), .val (.int nn), .val (.ref r165), .unset] [(.int po), (.ref a162), (.int dr)])) rfl (by rw [hml]; rfl) (Steps.refl _) (argsL := [(.int po)]) (rest := [(.int dr)]) (lenOf pd_15 rfl) rfl (by show 2 * 0 + _ ≤ _; exact Nat.le_of_eq rfl) (hb hby at_107) (fun _ _ => ⟨rfl, e166, (by decide : 8 + 0 ≤ _), (by decide : 64 + 0 ≤ _)⟩)
          dsimp only [Pt.U, Pt.locs, Pt.cells, Pt.slots] at X168 l168 y168 z168 st168 hQ168
          subst y168 z168
          obtain ⟨rfl, N168q, e168⟩ := hQ168
          have N168 : Fr n0 L168 := by rw [l168]; exact Fr.app N166 N168q
          refine Goes.tr st168 ?_
          show Goes p e below KK T168 (mkF m 110 #[.val (.int p1), .val (.int p2), .val (.int p3), .val (.int p4), .val (.ref a162), .val (.int mu), .val (.int po), .val (.int dr), .val (.int fi), .val (.int nn), .val (.ref r165), .unset] [(.int y), (.int dr)])
          by_cases hc110 : dr = y
          · refine Goes.of (fun t => XS.icmpNo X168.here hx rfl (hb hby at_110) rfl (teq hc110).2) ?_
            show Goes p e below KK T168 (mkF m 113 #[.val (.int p1), .val (.int p2), .val (.int p3), .val (.int p4), .val (.ref a162), .val (.int mu), .val (.int po), .val (.int dr), .val (.int fi), .val (.int nn), .val (.ref r165), .unset] [])
            refine Goes.of (fun t => XS.iconst X168.here hx rfl (hb hby at_113)) ?_
            show Goes p e below KK T168 (mkF m 114 #[.val (.int p1), .val (.int p2), .val (.int p3), .val (.int p4), .val (.ref a162), .val (.int mu), .val (.int po), .val (.int dr), .val (.int fi), .val (.int nn), .val (.ref r165), .unset] [(.int (1 : Int32))])
            refine Goes.of (fun t => XS.goto X168.here hx rfl (pc0 := 114) (pc' := 118) rfl (hb hby at_114) (by decide) (by decide)) ?_
            show Goes p e below KK T168 (mkF m 118 #[.val (.int p1), .val (.int p2), .val (.int p3), .val (.int p4), .val (.ref a162), .val (.int mu), .val (.int po), .val (.int dr), .val (.int fi), .val (.int nn), .val (.ref r165), .unset] [(.int (1 : Int32))])
            refine Goes.of (fun t => XS.istore X168.here hx rfl (hb hby at_118) rfl (l' := #[.val (.int p1), .val (.int p2), .val (.int p3), .val (.int p4), .val (.ref a162), .val (.int mu), .val (.int po), .val (.int dr), .val (.int fi), .val (.int nn), .val (.ref r165), .val (.int (1 : Int32))]) rfl) ?_
            show Goes p e below KK T168 (mkF m 120 #[.val (.int p1), .val (.int p2), .val (.int p3), .val (.int p4), .val (.ref a162), .val (.int mu), .val (.int po), .val (.int dr), .val (.int fi), .val (.int nn), .val (.ref r165), .val (.int (1 : Int32))] [])
            refine Goes.of (fun t => XS.aload X168.here hx rfl (hb hby at_120) rfl rfl) ?_
            show Goes p e below KK T168 (mkF m 122 #[.val (.int p1), .val (.int p2), .val (.int p3), .val (.int p4), .val (.ref a162), .val (.int mu), .val (.int po), .val (.int dr), .val (.int fi), .val (.int nn), .val (.ref r165), .val (.int (1 : Int32))] [(.ref r165)])
            obtain ⟨_, _, ⟨T169, L169, k169, n169⟩, -, X169, hSi169, hge169, ⟨Lc169, hQ169, l169, y169, z169, cr169⟩, st169⟩ := callSS X168 hx (y := (⟨"com/example/warrant/warrant/cli/PolicyFiles", "names", "(Ljava/lang/String;)Z"⟩ : MethodName)) hown165 (mvT hZ165 w_76) (mvT hZ165 w_77) (mvT hZ165 w_78) (mvT hZ165 w_79) (by decide) (backOfSH (W := 0) (rm17 l Z a0 hw [] r165 t165 (mkL XP kn mu po dr fi) nn cz T165.heap n0 Z165 E165 Fc165 Fv165 V165 (by rw [mkL_len]; exact hkn) (by rw [mkL_len]; omega) Scs_162_165 hcz) hZ165 w_79 w_78 (by decide) (by decide) hEL CR165.1) (g := (mkF m 122 #[.val (.int p1), .val (.int p2), .val (.int p3), .val (.int p4), .val (.ref a162), .val (.int mu), .val (.int po), .val (.int dr), .val (.int fi), .val (.int nn), .val (.ref r165), .val (.int (1 : Int32))] [(.ref r165)])) rfl (by rw [hml]; rfl) (argsL := [(.ref r165)]) (rest := []) (lenOf pd_36 rfl) rfl (by show 2 * 0 + _ ≤ _; exact Nat.le_of_eq rfl) (hb hby at_122) (fun _ _ => ⟨rfl, e168, (by decide : 8 + 4 ≤ _), (by decide : 64 + 84 ≤ _)⟩)
            dsimp only [Pt.U, Pt.locs, Pt.cells, Pt.slots] at X169 l169 y169 z169 st169 hQ169 hSi169 hge169 cr169
            subst y169 z169
            obtain ⟨Y169, HS169, hZ169, hown169⟩ := rebS HS165 (by rw [e168]; exact HK165) X169 hSi169 hge169 hZ165 hown165
            have HK169 := Nat.le_refl T169.heap.size
            have CR169 := CR165.trans cr169
            obtain ⟨rfl, N169q, Kc169⟩ := hQ169
            have N169 : Fr n0 L169 := by rw [l169]; exact Fr.app N168 N169q
            have Scs_162_165_169 : Sta Z T169.heap "java/lang/String" "COMPACT_STRINGS" "Z" (.int cz) := own_staK Scs_162_165 Kc169 ns0
            have Sf_162_165_169 : Sta Z T169.heap "jdk/internal/util/Preconditions" "SIOOBE_FORMATTER" "Ljava/util/function/BiFunction;" fm := own_staK Sf_162_165 Kc169 ns0
            have Ex162_165_169 : Exa Z T169.heap a162 "java/lang/String" := Ex162_165.keep Kc169
            have Fc162_165_169 : Fld Z T169.heap a162 "java/lang/String" "coder" "B" (.int (0 : Int32)) := Fc162_165.keep Kc169 nin0
            have Fv162_165_169 : Fld Z T169.heap a162 "java/lang/String" "value" "[B" (.ref b162) := Fv162_165.keep Kc169 nin0
            have V162_165_169 : AI Z T169.heap b162 .byte [45, 45, 112, 111, 108, 105, 99, 121] := V162_165.keep Kc169 nin0
            have E165_169 : Exa Z T169.heap r165 "java/lang/String" := E165.keep Kc169
            have Fc165_169 : Fld Z T169.heap r165 "java/lang/String" "coder" "B" (.int (0 : Int32)) := Fc165.keep Kc169 nin0
            have Fv165_169 : Fld Z T169.heap r165 "java/lang/String" "value" "[B" (.ref t165) := Fv165.keep Kc169 nin0
            have V165_169 : AI Z T169.heap t165 .byte (mkL XP kn mu po dr fi) := V165.keep Kc169 nin0
            have K169 : Keep h0 T169.heap [] := K165.trans Kc169 all0
            have Z169 : n0 ≤ T169.heap.size := Nat.le_trans Z165 Kc169.1
            have e169 : T169.heap = T169.heap := rfl
            refine Goes.tr st169 ?_
            show Goes p e below KK T169 (mkF m 125 #[.val (.int p1), .val (.int p2), .val (.int p3), .val (.int p4), .val (.ref a162), .val (.int mu), .val (.int po), .val (.int dr), .val (.int fi), .val (.int nn), .val (.ref r165), .val (.int (1 : Int32))] [(.int (nmV (mkL XP kn mu po dr fi)))])
            refine Goes.of (fun t => XS.iload Y169.here hx rfl (hb hby at_125) rfl) ?_
            show Goes p e below KK T169 (mkF m 127 #[.val (.int p1), .val (.int p2), .val (.int p3), .val (.int p4), .val (.ref a162), .val (.int mu), .val (.int po), .val (.int dr), .val (.int fi), .val (.int nn), .val (.ref r165), .val (.int (1 : Int32))] [(.int (1 : Int32)), (.int (nmV (mkL XP kn mu po dr fi)))])
            refine Goes.of (fun t => XS.icmpNo Y169.here hx rfl (hb hby at_127) rfl (teq (show (nmV (mkL XP kn mu po dr fi)) = (1 : Int32) from own_v1 (Or.inl (own_eq own_ascP (show kn = 8 by have q2 := congrArg Int32.toInt hc86; have z : (8 : Int32).toInt = 8 := rfl; omega) (fun i q1 q2 q3 => by rw [show i = po.toInt.toNat by omega, hc110]; exact hy))))).2) ?_
            show Goes p e below KK T169 (mkF m 130 #[.val (.int p1), .val (.int p2), .val (.int p3), .val (.int p4), .val (.ref a162), .val (.int mu), .val (.int po), .val (.int dr), .val (.int fi), .val (.int nn), .val (.ref r165), .val (.int (1 : Int32))] [])
            refine Goes.of (fun t => XS.iconst Y169.here hx rfl (hb hby at_130)) ?_
            show Goes p e below KK T169 (mkF m 131 #[.val (.int p1), .val (.int p2), .val (.int p3), .val (.int p4), .val (.ref a162), .val (.int mu), .val (.int po), .val (.int dr), .val (.int fi), .val (.int nn), .val (.ref r165), .val (.int (1 : Int32))] [(.int (1 : Int32))])
            refine Goes.of (fun t => XS.goto Y169.here hx rfl (pc0 := 131) (pc' := 135) rfl (hb hby at_131) (by decide) (by decide)) ?_
            show Goes p e below KK T169 (mkF m 135 #[.val (.int p1), .val (.int p2), .val (.int p3), .val (.int p4), .val (.ref a162), .val (.int mu), .val (.int po), .val (.int dr), .val (.int fi), .val (.int nn), .val (.ref r165), .val (.int (1 : Int32))] [(.int (1 : Int32))])
            rw [← hKK]
            refine Goes.retNarW Y169 HS169 (by rw [e169]; exact HK169) hx hlk (t := .boolean) (by simp) Bd.returns (hb hby at_135) ?_ (by decide) (by decide)
            rw [e169]
            exact ⟨rfl, N169⟩
          · refine Goes.of (fun t => XS.icmpYes X168.here hx rfl (pc0 := 110) (pc' := 117) rfl (hb hby at_110) rfl (feq hc110).2 (by decide) (by decide)) ?_
            show Goes p e below KK T168 (mkF m 117 #[.val (.int p1), .val (.int p2), .val (.int p3), .val (.int p4), .val (.ref a162), .val (.int mu), .val (.int po), .val (.int dr), .val (.int fi), .val (.int nn), .val (.ref r165), .unset] [])
            refine Goes.of (fun t => XS.iconst X168.here hx rfl (hb hby at_117)) ?_
            show Goes p e below KK T168 (mkF m 118 #[.val (.int p1), .val (.int p2), .val (.int p3), .val (.int p4), .val (.ref a162), .val (.int mu), .val (.int po), .val (.int dr), .val (.int fi), .val (.int nn), .val (.ref r165), .unset] [(.int (0 : Int32))])
            refine Goes.of (fun t => XS.istore X168.here hx rfl (hb hby at_118) rfl (l' := #[.val (.int p1), .val (.int p2), .val (.int p3), .val (.int p4), .val (.ref a162), .val (.int mu), .val (.int po), .val (.int dr), .val (.int fi), .val (.int nn), .val (.ref r165), .val (.int (0 : Int32))]) rfl) ?_
            show Goes p e below KK T168 (mkF m 120 #[.val (.int p1), .val (.int p2), .val (.int p3), .val (.int p4), .val (.ref a162), .val (.int mu), .val (.int po), .val (.int dr), .val (.int fi), .val (.int nn), .val (.ref r165), .val (.int (0 : Int32))] [])
            refine Goes.of (fun t => XS.aload X168.here hx rfl (hb hby at_120) rfl rfl) ?_
            show Goes p e below KK T168 (mkF m 122 #[.val (.int p1), .val (.int p2), .val (.int p3), .val (.int p4), .val (.ref a162), .val (.int mu), .val (.int po), .val (.int dr), .val (.int fi), .val (.int nn), .val (.ref r165), .val (.int (0 : Int32))] [(.ref r165)])
            obtain ⟨_, _, ⟨T170, L170, k170, n170⟩, -, X170, hSi170, hge170, ⟨Lc170, hQ170, l170, y170, z170, cr170⟩, st170⟩ := callSS X168 hx (y := (⟨"com/example/warrant/warrant/cli/PolicyFiles", "names", "(Ljava/lang/String;)Z"⟩ : MethodName)) hown165 (mvT hZ165 w_76) (mvT hZ165 w_77) (mvT hZ165 w_78) (mvT hZ165 w_79) (by decide) (backOfSH (W := 0) (rm17 l Z a0 hw [] r165 t165 (mkL XP kn mu po dr fi) nn cz T165.heap n0 Z165 E165 Fc165 Fv165 V165 (by rw [mkL_len]; exact hkn) (by rw [mkL_len]; omega) Scs_162_165 hcz) hZ165 w_79 w_78 (by decide) (by decide) hEL CR165.1) (g := (mkF m 122 #[.val (.int p1), .val (.int p2), .val (.int p3), .val (.int p4), .val (.ref a162), .val (.int mu), .val (.int po), .val (.int dr), .val (.int fi), .val (.int nn), .val (.ref r165), .val (.int (0 : Int32))] [(.ref r165)])) rfl (by rw [hml]; rfl) (argsL := [(.ref r165)]) (rest := []) (lenOf pd_36 rfl) rfl (by show 2 * 0 + _ ≤ _; exact Nat.le_of_eq rfl) (hb hby at_122) (fun _ _ => ⟨rfl, e168, (by decide : 8 + 4 ≤ _), (by decide : 64 + 84 ≤ _)⟩)
            dsimp only [Pt.U, Pt.locs, Pt.cells, Pt.slots] at X170 l170 y170 z170 st170 hQ170 hSi170 hge170 cr170
            subst y170 z170
            obtain ⟨Y170, HS170, hZ170, hown170⟩ := rebS HS165 (by rw [e168]; exact HK165) X170 hSi170 hge170 hZ165 hown165
            have HK170 := Nat.le_refl T170.heap.size
            have CR170 := CR165.trans cr170
            obtain ⟨rfl, N170q, Kc170⟩ := hQ170
            have N170 : Fr n0 L170 := by rw [l170]; exact Fr.app N168 N170q
            have Scs_162_165_170 : Sta Z T170.heap "java/lang/String" "COMPACT_STRINGS" "Z" (.int cz) := own_staK Scs_162_165 Kc170 ns0
            have Sf_162_165_170 : Sta Z T170.heap "jdk/internal/util/Preconditions" "SIOOBE_FORMATTER" "Ljava/util/function/BiFunction;" fm := own_staK Sf_162_165 Kc170 ns0
            have Ex162_165_170 : Exa Z T170.heap a162 "java/lang/String" := Ex162_165.keep Kc170
            have Fc162_165_170 : Fld Z T170.heap a162 "java/lang/String" "coder" "B" (.int (0 : Int32)) := Fc162_165.keep Kc170 nin0
            have Fv162_165_170 : Fld Z T170.heap a162 "java/lang/String" "value" "[B" (.ref b162) := Fv162_165.keep Kc170 nin0
            have V162_165_170 : AI Z T170.heap b162 .byte [45, 45, 112, 111, 108, 105, 99, 121] := V162_165.keep Kc170 nin0
            have E165_170 : Exa Z T170.heap r165 "java/lang/String" := E165.keep Kc170
            have Fc165_170 : Fld Z T170.heap r165 "java/lang/String" "coder" "B" (.int (0 : Int32)) := Fc165.keep Kc170 nin0
            have Fv165_170 : Fld Z T170.heap r165 "java/lang/String" "value" "[B" (.ref t165) := Fv165.keep Kc170 nin0
            have V165_170 : AI Z T170.heap t165 .byte (mkL XP kn mu po dr fi) := V165.keep Kc170 nin0
            have K170 : Keep h0 T170.heap [] := K165.trans Kc170 all0
            have Z170 : n0 ≤ T170.heap.size := Nat.le_trans Z165 Kc170.1
            have e170 : T170.heap = T170.heap := rfl
            refine Goes.tr st170 ?_
            show Goes p e below KK T170 (mkF m 125 #[.val (.int p1), .val (.int p2), .val (.int p3), .val (.int p4), .val (.ref a162), .val (.int mu), .val (.int po), .val (.int dr), .val (.int fi), .val (.int nn), .val (.ref r165), .val (.int (0 : Int32))] [(.int (nmV (mkL XP kn mu po dr fi)))])
            refine Goes.of (fun t => XS.iload Y170.here hx rfl (hb hby at_125) rfl) ?_
            show Goes p e below KK T170 (mkF m 127 #[.val (.int p1), .val (.int p2), .val (.int p3), .val (.int p4), .val (.ref a162), .val (.int mu), .val (.int po), .val (.int dr), .val (.int fi), .val (.int nn), .val (.ref r165), .val (.int (0 : Int32))] [(.int (0 : Int32)), (.int (nmV (mkL XP kn mu po dr fi)))])
            refine Goes.of (fun t => XS.icmpNo Y170.here hx rfl (hb hby at_127) rfl (teq (show (nmV (mkL XP kn mu po dr fi)) = (0 : Int32) from own_v0 (own_ne own_ascP hc91 (i := po.toInt.toNat) (by omega) (by have q2 := congrArg Int32.toInt hc86; have z : (8 : Int32).toInt = 8 := rfl; omega) hy hc110 hd) own_farP)).2) ?_
            show Goes p e below KK T170 (mkF m 130 #[.val (.int p1), .val (.int p2), .val (.int p3), .val (.int p4), .val (.ref a162), .val (.int mu), .val (.int po), .val (.int dr), .val (.int fi), .val (.int nn), .val (.ref r165), .val (.int (0 : Int32))] [])
            refine Goes.of (fun t => XS.iconst Y170.here hx rfl (hb hby at_130)) ?_
            show Goes p e below KK T170 (mkF m 131 #[.val (.int p1), .val (.int p2), .val (.int p3), .val (.int p4), .val (.ref a162), .val (.int mu), .val (.int po), .val (.int dr), .val (.int fi), .val (.int nn), .val (.ref r165), .val (.int (0 : Int32))] [(.int (1 : Int32))])
            refine Goes.of (fun t => XS.goto Y170.here hx rfl (pc0 := 131) (pc' := 135) rfl (hb hby at_131) (by decide) (by decide)) ?_
            show Goes p e below KK T170 (mkF m 135 #[.val (.int p1), .val (.int p2), .val (.int p3), .val (.int p4), .val (.ref a162), .val (.int mu), .val (.int po), .val (.int dr), .val (.int fi), .val (.int nn), .val (.ref r165), .val (.int (0 : Int32))] [(.int (1 : Int32))])
            rw [← hKK]
            refine Goes.retNarW Y170 HS170 (by rw [e170]; exact HK170) hx hlk (t := .boolean) (by simp) Bd.returns (hb hby at_135) ?_ (by decide) (by decide)
            rw [e170]
            exact ⟨rfl, N170⟩
        · refine Goes.of (fun t => XS.icmpYes X166.here hx rfl (pc0 := 98) (pc' := 113) rfl (hb hby at_98) rfl (flt hc98).2.1 (by decide) (by decide)) ?_
          show Goes p e below KK T166 (mkF m 113 #[.val (.int p1), .val (.int p2), .val (.int p3), .val (.int p4), .val (.ref a162), .val (.int mu), .val (.int po), .val (.int dr), .val (.int fi), .val (.int nn), .val (.ref r165), .unset] [])
          refine Goes.of (fun t => XS.iconst X166.here hx rfl (hb hby at_113)) ?_
          show Goes p e below KK T166 (mkF m 114 #[.val (.int p1), .val (.int p2), .val (.int p3), .val (.int p4), .val (.ref a162), .val (.int mu), .val (.int po), .val (.int dr), .val (.int fi), .val (.int nn), .val (.ref r165), .unset] [(.int (1 : Int32))])
          refine Goes.of (fun t => XS.goto X166.here hx rfl (pc0 := 114) (pc' := 118) rfl (hb hby at_114) (by decide) (by decide)) ?_
          show Goes p e below KK T166 (mkF m 118 #[.val (.int p1), .val (.int p2), .val (.int p3), .val (.int p4), .val (.ref a162), .val (.int mu), .val (.int po), .val (.int dr), .val (.int fi), .val (.int nn), .val (.ref r165), .unset] [(.int (1 : Int32))])
          refine Goes.of (fun t => XS.istore X166.here hx rfl (hb hby at_118) rfl (l' := #[.val (.int p1), .val (.int p2), .val (.int p3), .val (.int p4), .val (.ref a162), .val (.int mu), .val (.int po), .val (.int dr), .val (.int fi), .val (.int nn), .val (.ref r165), .val (.int (1 : Int32))]) rfl) ?_
          show Goes p e below KK T166 (mkF m 120 #[.val (.int p1), .val (.int p2), .val (.int p3), .val (.int p4), .val (.ref a162), .val (.int mu), .val (.int po), .val (.int dr), .val (.int fi), .val (.int nn), .val (.ref r165), .val (.int (1 : Int32))] [])
          refine Goes.of (fun t => XS.aload X166.here hx rfl (hb hby at_120) rfl rfl) ?_
          show Goes p e below KK T166 (mkF m 122 #[.val (.int p1), .val (.int p2), .val (.int p3), .val (.int p4), .val (.ref a162), .val (.int mu), .val (.int po), .val (.int dr), .val (.int fi), .val (.int nn), .val (.ref r165), .val (.int (1 : Int32))] [(.ref r165)])
          obtain ⟨_, _, ⟨T171, L171, k171, n171⟩, -, X171, hSi171, hge171, ⟨Lc171, hQ171, l171, y171, z171, cr171⟩, st171⟩ := callSS X166 hx (y := (⟨"com/example/warrant/warrant/cli/PolicyFiles", "names", "(Ljava/lang/String;)Z"⟩ : MethodName)) hown165 (mvT hZ165 w_76) (mvT hZ165 w_77) (mvT hZ165 w_78) (mvT hZ165 w_79) (by decide) (backOfSH (W := 0) (rm17 l Z a0 hw [] r165 t165 (mkL XP kn mu po dr fi) nn cz T165.heap n0 Z165 E165 Fc165 Fv165 V165 (by rw [mkL_len]; exact hkn) (by rw [mkL_len]; omega) Scs_162_165 hcz) hZ165 w_79 w_78 (by decide) (by decide) hEL CR165.1) (g := (mkF m 122 #[.val (.int p1), .val (.int p2), .val (.int p3), .val (.int p4), .val (.ref a162), .val (.int mu), .val (.int po), .val (.int dr), .val (.int fi), .val (.int nn), .val (.ref r165), .val (.int (1 : Int32))] [(.ref r165)])) rfl (by rw [hml]; rfl) (argsL := [(.ref r165)]) (rest := []) (lenOf pd_36 rfl) rfl (by show 2 * 0 + _ ≤ _; exact Nat.le_of_eq rfl) (hb hby at_122) (fun _ _ => ⟨rfl, e166, (by decide : 8 + 4 ≤ _), (by decide : 64 + 84 ≤ _)⟩)
          dsimp only [Pt.U, Pt.locs, Pt.cells, Pt.slots] at X171 l171 y171 z171 st171 hQ171 hSi171 hge171 cr171
          subst y171 z171
          obtain ⟨Y171, HS171, hZ171, hown171⟩ := rebS HS165 (by rw [e166]; exact HK165) X171 hSi171 hge171 hZ165 hown165
          have HK171 := Nat.le_refl T171.heap.size
          have CR171 := CR165.trans cr171
          obtain ⟨rfl, N171q, Kc171⟩ := hQ171
          have N171 : Fr n0 L171 := by rw [l171]; exact Fr.app N166 N171q
          have Scs_162_165_171 : Sta Z T171.heap "java/lang/String" "COMPACT_STRINGS" "Z" (.int cz) := own_staK Scs_162_165 Kc171 ns0
          have Sf_162_165_171 : Sta Z T171.heap "jdk/internal/util/Preconditions" "SIOOBE_FORMATTER" "Ljava/util/function/BiFunction;" fm := own_staK Sf_162_165 Kc171 ns0
          have Ex162_165_171 : Exa Z T171.heap a162 "java/lang/String" := Ex162_165.keep Kc171
          have Fc162_165_171 : Fld Z T171.heap a162 "java/lang/String" "coder" "B" (.int (0 : Int32)) := Fc162_165.keep Kc171 nin0
          have Fv162_165_171 : Fld Z T171.heap a162 "java/lang/String" "value" "[B" (.ref b162) := Fv162_165.keep Kc171 nin0
          have V162_165_171 : AI Z T171.heap b162 .byte [45, 45, 112, 111, 108, 105, 99, 121] := V162_165.keep Kc171 nin0
          have E165_171 : Exa Z T171.heap r165 "java/lang/String" := E165.keep Kc171
          have Fc165_171 : Fld Z T171.heap r165 "java/lang/String" "coder" "B" (.int (0 : Int32)) := Fc165.keep Kc171 nin0
          have Fv165_171 : Fld Z T171.heap r165 "java/lang/String" "value" "[B" (.ref t165) := Fv165.keep Kc171 nin0
          have V165_171 : AI Z T171.heap t165 .byte (mkL XP kn mu po dr fi) := V165.keep Kc171 nin0
          have K171 : Keep h0 T171.heap [] := K165.trans Kc171 all0
          have Z171 : n0 ≤ T171.heap.size := Nat.le_trans Z165 Kc171.1
          have e171 : T171.heap = T171.heap := rfl
          refine Goes.tr st171 ?_
          show Goes p e below KK T171 (mkF m 125 #[.val (.int p1), .val (.int p2), .val (.int p3), .val (.int p4), .val (.ref a162), .val (.int mu), .val (.int po), .val (.int dr), .val (.int fi), .val (.int nn), .val (.ref r165), .val (.int (1 : Int32))] [(.int (nmV (mkL XP kn mu po dr fi)))])
          refine Goes.of (fun t => XS.iload Y171.here hx rfl (hb hby at_125) rfl) ?_
          show Goes p e below KK T171 (mkF m 127 #[.val (.int p1), .val (.int p2), .val (.int p3), .val (.int p4), .val (.ref a162), .val (.int mu), .val (.int po), .val (.int dr), .val (.int fi), .val (.int nn), .val (.ref r165), .val (.int (1 : Int32))] [(.int (1 : Int32)), (.int (nmV (mkL XP kn mu po dr fi)))])
          refine Goes.of (fun t => XS.icmpNo Y171.here hx rfl (hb hby at_127) rfl (teq (show (nmV (mkL XP kn mu po dr fi)) = (1 : Int32) from own_v1 (Or.inl (own_eq own_ascP (show kn = 8 by have q2 := congrArg Int32.toInt hc86; have z : (8 : Int32).toInt = 8 := rfl; omega) (fun i q1 q2 q3 => absurd (show po < nn by rw [Int32.lt_iff_toInt_lt]; omega) hc98))))).2) ?_
          show Goes p e below KK T171 (mkF m 130 #[.val (.int p1), .val (.int p2), .val (.int p3), .val (.int p4), .val (.ref a162), .val (.int mu), .val (.int po), .val (.int dr), .val (.int fi), .val (.int nn), .val (.ref r165), .val (.int (1 : Int32))] [])
          refine Goes.of (fun t => XS.iconst Y171.here hx rfl (hb hby at_130)) ?_
          show Goes p e below KK T171 (mkF m 131 #[.val (.int p1), .val (.int p2), .val (.int p3), .val (.int p4), .val (.ref a162), .val (.int mu), .val (.int po), .val (.int dr), .val (.int fi), .val (.int nn), .val (.ref r165), .val (.int (1 : Int32))] [(.int (1 : Int32))])
          refine Goes.of (fun t => XS.goto Y171.here hx rfl (pc0 := 131) (pc' := 135) rfl (hb hby at_131) (by decide) (by decide)) ?_
          show Goes p e below KK T171 (mkF m 135 #[.val (.int p1), .val (.int p2), .val (.int p3), .val (.int p4), .val (.ref a162), .val (.int mu), .val (.int po), .val (.int dr), .val (.int fi), .val (.int nn), .val (.ref r165), .val (.int (1 : Int32))] [(.int (1 : Int32))])
          rw [← hKK]
          refine Goes.retNarW Y171 HS171 (by rw [e171]; exact HK171) hx hlk (t := .boolean) (by simp) Bd.returns (hb hby at_135) ?_ (by decide) (by decide)
          rw [e171]
          exact ⟨rfl, N171⟩
    · refine Goes.of (fun t => XS.icmpYes X166.here hx rfl (pc0 := 86) (pc' := 117) rfl (hb hby at_86) rfl (feq hc86).2 (by decide) (by decide)) ?_
      show Goes p e below KK T166 (mkF m 117 #[.val (.int p1), .val (.int p2), .val (.int p3), .val (.int p4), .val (.ref a162), .val (.int mu), .val (.int po), .val (.int dr), .val (.int fi), .val (.int nn), .val (.ref r165), .unset] [])
      refine Goes.of (fun t => XS.iconst X166.here hx rfl (hb hby at_117)) ?_
      show Goes p e below KK T166 (mkF m 118 #[.val (.int p1), .val (.int p2), .val (.int p3), .val (.int p4), .val (.ref a162), .val (.int mu), .val (.int po), .val (.int dr), .val (.int fi), .val (.int nn), .val (.ref r165), .unset] [(.int (0 : Int32))])
      refine Goes.of (fun t => XS.istore X166.here hx rfl (hb hby at_118) rfl (l' := #[.val (.int p1), .val (.int p2), .val (.int p3), .val (.int p4), .val (.ref a162), .val (.int mu), .val (.int po), .val (.int dr), .val (.int fi), .val (.int nn), .val (.ref r165), .val (.int (0 : Int32))]) rfl) ?_
      show Goes p e below KK T166 (mkF m 120 #[.val (.int p1), .val (.int p2), .val (.int p3), .val (.int p4), .val (.ref a162), .val (.int mu), .val (.int po), .val (.int dr), .val (.int fi), .val (.int nn), .val (.ref r165), .val (.int (0 : Int32))] [])
      refine Goes.of (fun t => XS.aload X166.here hx rfl (hb hby at_120) rfl rfl) ?_
      show Goes p e below KK T166 (mkF m 122 #[.val (.int p1), .val (.int p2), .val (.int p3), .val (.int p4), .val (.ref a162), .val (.int mu), .val (.int po), .val (.int dr), .val (.int fi), .val (.int nn), .val (.ref r165), .val (.int (0 : Int32))] [(.ref r165)])
      obtain ⟨_, _, ⟨T172, L172, k172, n172⟩, -, X172, hSi172, hge172, ⟨Lc172, hQ172, l172, y172, z172, cr172⟩, st172⟩ := callSS X166 hx (y := (⟨"com/example/warrant/warrant/cli/PolicyFiles", "names", "(Ljava/lang/String;)Z"⟩ : MethodName)) hown165 (mvT hZ165 w_76) (mvT hZ165 w_77) (mvT hZ165 w_78) (mvT hZ165 w_79) (by decide) (backOfSH (W := 0) (rm17 l Z a0 hw [] r165 t165 (mkL XP kn mu po dr fi) nn cz T165.heap n0 Z165 E165 Fc165 Fv165 V165 (by rw [mkL_len]; exact hkn) (by rw [mkL_len]; omega) Scs_162_165 hcz) hZ165 w_79 w_78 (by decide) (by decide) hEL CR165.1) (g := (mkF m 122 #[.val (.int p1), .val (.int p2), .val (.int p3), .val (.int p4), .val (.ref a162), .val (.int mu), .val (.int po), .val (.int dr), .val (.int fi), .val (.int nn), .val (.ref r165), .val (.int (0 : Int32))] [(.ref r165)])) rfl (by rw [hml]; rfl) (argsL := [(.ref r165)]) (rest := []) (lenOf pd_36 rfl) rfl (by show 2 * 0 + _ ≤ _; exact Nat.le_of_eq rfl) (hb hby at_122) (fun _ _ => ⟨rfl, e166, (by decide : 8 + 4 ≤ _), (by decide : 64 + 84 ≤ _)⟩)
      dsimp only [Pt.U, Pt.locs, Pt.cells, Pt.slots] at X172 l172 y172 z172 st172 hQ172 hSi172 hge172 cr172
      subst y172 z172
      obtain ⟨Y172, HS172, hZ172, hown172⟩ := rebS HS165 (by rw [e166]; exact HK165) X172 hSi172 hge172 hZ165 hown165
      have HK172 := Nat.le_refl T172.heap.size
      have CR172 := CR165.trans cr172
      obtain ⟨rfl, N172q, Kc172⟩ := hQ172
      have N172 : Fr n0 L172 := by rw [l172]; exact Fr.app N166 N172q
      have Scs_162_165_172 : Sta Z T172.heap "java/lang/String" "COMPACT_STRINGS" "Z" (.int cz) := own_staK Scs_162_165 Kc172 ns0
      have Sf_162_165_172 : Sta Z T172.heap "jdk/internal/util/Preconditions" "SIOOBE_FORMATTER" "Ljava/util/function/BiFunction;" fm := own_staK Sf_162_165 Kc172 ns0
      have Ex162_165_172 : Exa Z T172.heap a162 "java/lang/String" := Ex162_165.keep Kc172
      have Fc162_165_172 : Fld Z T172.heap a162 "java/lang/String" "coder" "B" (.int (0 : Int32)) := Fc162_165.keep Kc172 nin0
      have Fv162_165_172 : Fld Z T172.heap a162 "java/lang/String" "value" "[B" (.ref b162) := Fv162_165.keep Kc172 nin0
      have V162_165_172 : AI Z T172.heap b162 .byte [45, 45, 112, 111, 108, 105, 99, 121] := V162_165.keep Kc172 nin0
      have E165_172 : Exa Z T172.heap r165 "java/lang/String" := E165.keep Kc172
      have Fc165_172 : Fld Z T172.heap r165 "java/lang/String" "coder" "B" (.int (0 : Int32)) := Fc165.keep Kc172 nin0
      have Fv165_172 : Fld Z T172.heap r165 "java/lang/String" "value" "[B" (.ref t165) := Fv165.keep Kc172 nin0
      have V165_172 : AI Z T172.heap t165 .byte (mkL XP kn mu po dr fi) := V165.keep Kc172 nin0
      have K172 : Keep h0 T172.heap [] := K165.trans Kc172 all0
      have Z172 : n0 ≤ T172.heap.size := Nat.le_trans Z165 Kc172.1
      have e172 : T172.heap = T172.heap := rfl
      refine Goes.tr st172 ?_
      show Goes p e below KK T172 (mkF m 125 #[.val (.int p1), .val (.int p2), .val (.int p3), .val (.int p4), .val (.ref a162), .val (.int mu), .val (.int po), .val (.int dr), .val (.int fi), .val (.int nn), .val (.ref r165), .val (.int (0 : Int32))] [(.int (nmV (mkL XP kn mu po dr fi)))])
      refine Goes.of (fun t => XS.iload Y172.here hx rfl (hb hby at_125) rfl) ?_
      show Goes p e below KK T172 (mkF m 127 #[.val (.int p1), .val (.int p2), .val (.int p3), .val (.int p4), .val (.ref a162), .val (.int mu), .val (.int po), .val (.int dr), .val (.int fi), .val (.int nn), .val (.ref r165), .val (.int (0 : Int32))] [(.int (0 : Int32)), (.int (nmV (mkL XP kn mu po dr fi)))])
      refine Goes.of (fun t => XS.icmpNo Y172.here hx rfl (hb hby at_127) rfl (teq (show (nmV (mkL XP kn mu po dr fi)) = (0 : Int32) from own_v0 (fun q => hc86 (Int32.toInt_inj.mp (by have z : (8 : Int32).toInt = 8 := rfl; have q2 := congrArg List.length q; rw [mkL_len] at q2; have q3 : kn = 8 := q2; omega))) own_farP)).2) ?_
      show Goes p e below KK T172 (mkF m 130 #[.val (.int p1), .val (.int p2), .val (.int p3), .val (.int p4), .val (.ref a162), .val (.int mu), .val (.int po), .val (.int dr), .val (.int fi), .val (.int nn), .val (.ref r165), .val (.int (0 : Int32))] [])
      refine Goes.of (fun t => XS.iconst Y172.here hx rfl (hb hby at_130)) ?_
      show Goes p e below KK T172 (mkF m 131 #[.val (.int p1), .val (.int p2), .val (.int p3), .val (.int p4), .val (.ref a162), .val (.int mu), .val (.int po), .val (.int dr), .val (.int fi), .val (.int nn), .val (.ref r165), .val (.int (0 : Int32))] [(.int (1 : Int32))])
      refine Goes.of (fun t => XS.goto Y172.here hx rfl (pc0 := 131) (pc' := 135) rfl (hb hby at_131) (by decide) (by decide)) ?_
      show Goes p e below KK T172 (mkF m 135 #[.val (.int p1), .val (.int p2), .val (.int p3), .val (.int p4), .val (.ref a162), .val (.int mu), .val (.int po), .val (.int dr), .val (.int fi), .val (.int nn), .val (.ref r165), .val (.int (0 : Int32))] [(.int (1 : Int32))])
      rw [← hKK]
      refine Goes.retNarW Y172 HS172 (by rw [e172]; exact HK172) hx hlk (t := .boolean) (by simp) Bd.returns (hb hby at_135) ?_ (by decide) (by decide)
      rw [e172]
      exact ⟨rfl, N172⟩
  · refine Goes.of (fun t => XS.ifYes X0w.here hx rfl (pc0 := 3) (pc' := 11) rfl (hb hby at_3) rfl ((if0 _ _).trans (feq hc3).2) (by decide) (by decide)) ?_
    show Goes p e below KK s₁ (mkF m 11 #[.val (.int p1), .val (.int p2), .val (.int p3), .val (.int p4), .unset, .unset, .unset, .unset, .unset, .unset, .unset, .unset] [])
    have wS173 : ∀ a ∈ Bundle.stringAtoms, a.before a0 Z = true := fun a ha => by
      simp only [Bundle.stringAtoms, List.mem_cons, List.not_mem_nil, or_false] at ha
      rcases ha with rfl | rfl | rfl | rfl | rfl | rfl | rfl
      · exact w_1
      · exact w_2
      · exact w_3
      · exact w_4
      · exact w_5
      · exact w_6
      · exact w_7
    obtain ⟨a173, T173, h173, k173, b173, kk173, X173, e173, E173, HS173, HK173, hZ173, hown173, Ex173, Fc173, Fv173, Va173, la173, lb173, cr173, Lt173, Sn173, st173⟩ := ldcCH X0w hx hZw hownw w_91 wS173 e0 HS0 HK0 hEL (List.mem_of_getElem? (i := 3) rfl) CR0.1 (vs := [(.int 45), (.int 45), (.int 114), (.int 101), (.int 102), (.int 101), (.int 114), (.int 101), (.int 110), (.int 99), (.int 101)]) (z := 11) ⟨by decide +kernel, by decide +kernel⟩ (by decide) rfl (g := (mkF m 11 #[.val (.int p1), .val (.int p2), .val (.int p3), .val (.int p4), .unset, .unset, .unset, .unset, .unset, .unset, .unset, .unset] [])) rfl (hb hby at_11) (n := 44) (by decide +kernel) (by decide) (by decide) (by decide)
    refine Goes.of (st173) ?_
    have CR173 := CR0.trans cr173
    have Scs_173 : Sta Z h173 "java/lang/String" "COMPACT_STRINGS" "Z" (.int cz) := Scs.ext E173
    have Sf_173 : Sta Z h173 "jdk/internal/util/Preconditions" "SIOOBE_FORMATTER" "Ljava/util/function/BiFunction;" fm := Sf.ext E173
    have K173 : Keep h0 h173 [] := (Keep.refl h0 []).ext E173
    have Z173 : n0 ≤ h173.size := Nat.le_trans Z0 E173.1
    have V173 : AI Z h173 b173 .byte [45, 45, 114, 101, 102, 101, 114, 101, 110, 99, 101] := AI.ofArv Va173 rfl rfl
    show Goes p e below KK T173 (mkF m 13 #[.val (.int p1), .val (.int p2), .val (.int p3), .val (.int p4), .unset, .unset, .unset, .unset, .unset, .unset, .unset, .unset] [(.ref a173)])
    refine Goes.of (fun t => XS.astore X173.here hx rfl (hb hby at_13) rfl rfl (l' := #[.val (.int p1), .val (.int p2), .val (.int p3), .val (.int p4), .val (.ref a173), .unset, .unset, .unset, .unset, .unset, .unset, .unset]) rfl) ?_
    show Goes p e below KK T173 (mkF m 15 #[.val (.int p1), .val (.int p2), .val (.int p3), .val (.int p4), .val (.ref a173), .unset, .unset, .unset, .unset, .unset, .unset, .unset] [])
    have j174 : ∀ t, Steps p.tables e below (T173.setTop (mkF m 26 #[.val (.int p1), .val (.int p2), .val (.int p3), .val (.int p4), .val (.ref a173), .unset, .unset, .unset, .unset, .unset, .unset, .unset] [(.int (if (p1 &&& (2 : Int32)) = (0 : Int32) then (0 : Int32) else (1 : Int32)))])) t → Steps p.tables e below (T173.setTop (mkF m 15 #[.val (.int p1), .val (.int p2), .val (.int p3), .val (.int p4), .val (.ref a173), .unset, .unset, .unset, .unset, .unset, .unset, .unset] [])) t := by
      intro t k
      refine XS.iloadN X173.here hx rfl (hb hby at_15) rfl ?_
      show Steps p.tables e below (T173.setTop (mkF m 16 #[.val (.int p1), .val (.int p2), .val (.int p3), .val (.int p4), .val (.ref a173), .unset, .unset, .unset, .unset, .unset, .unset, .unset] [(.int p1)])) _
      refine XS.iconst X173.here hx rfl (hb hby at_16) ?_
      show Steps p.tables e below (T173.setTop (mkF m 17 #[.val (.int p1), .val (.int p2), .val (.int p3), .val (.int p4), .val (.ref a173), .unset, .unset, .unset, .unset, .unset, .unset, .unset] [(.int (2 : Int32)), (.int p1)])) _
      refine XS.iand X173.here hx rfl (hb hby at_17) rfl ?_
      show Steps p.tables e below (T173.setTop (mkF m 18 #[.val (.int p1), .val (.int p2), .val (.int p3), .val (.int p4), .val (.ref a173), .unset, .unset, .unset, .unset, .unset, .unset, .unset] [(.int (p1 &&& (2 : Int32)))])) _
      by_cases hc18_2 : (p1 &&& (2 : Int32)) = (0 : Int32)
      · refine XS.ifYes X173.here hx rfl (pc0 := 18) (pc' := 25) rfl (hb hby at_18) rfl ((if0 _ _).trans (teq hc18_2).1) (by decide) (by decide) ?_
        show Steps p.tables e below (T173.setTop (mkF m 25 #[.val (.int p1), .val (.int p2), .val (.int p3), .val (.int p4), .val (.ref a173), .unset, .unset, .unset, .unset, .unset, .unset, .unset] [])) _
        refine XS.iconst X173.here hx rfl (hb hby at_25) ?_
        show Steps p.tables e below (T173.setTop (mkF m 26 #[.val (.int p1), .val (.int p2), .val (.int p3), .val (.int p4), .val (.ref a173), .unset, .unset, .unset, .unset, .unset, .unset, .unset] [(.int (0 : Int32))])) _
        try rw [if_pos hc18_2] at k
        exact k
      · refine XS.ifNo X173.here hx rfl (hb hby at_18) rfl ((if0 _ _).trans (feq hc18_2).1) ?_
        show Steps p.tables e below (T173.setTop (mkF m 21 #[.val (.int p1), .val (.int p2), .val (.int p3), .val (.int p4), .val (.ref a173), .unset, .unset, .unset, .unset, .unset, .unset, .unset] [])) _
        refine XS.iconst X173.here hx rfl (hb hby at_21) ?_
        show Steps p.tables e below (T173.setTop (mkF m 22 #[.val (.int p1), .val (.int p2), .val (.int p3), .val (.int p4), .val (.ref a173), .unset, .unset, .unset, .unset, .unset, .unset, .unset] [(.int (1 : Int32))])) _
        refine XS.goto X173.here hx rfl (pc0 := 22) (pc' := 26) rfl (hb hby at_22) (by decide) (by decide) ?_
        show Steps p.tables e below (T173.setTop (mkF m 26 #[.val (.int p1), .val (.int p2), .val (.int p3), .val (.int p4), .val (.ref a173), .unset, .unset, .unset, .unset, .unset, .unset, .unset] [(.int (1 : Int32))])) _
        try rw [if_neg hc18_2] at k
        exact k
    refine Goes.of j174 ?_
    generalize e_mu : (if (p1 &&& (2 : Int32)) = (0 : Int32) then (0 : Int32) else (1 : Int32)) = mu
    show Goes p e below KK T173 (mkF m 26 #[.val (.int p1), .val (.int p2), .val (.int p3), .val (.int p4), .val (.ref a173), .unset, .unset, .unset, .unset, .unset, .unset, .unset] [(.int mu)])
    refine Goes.of (fun t => XS.istore X173.here hx rfl (hb hby at_26) rfl (l' := #[.val (.int p1), .val (.int p2), .val (.int p3), .val (.int p4), .val (.ref a173), .val (.int mu), .unset, .unset, .unset, .unset, .unset, .unset]) rfl) ?_
    show Goes p e below KK T173 (mkF m 28 #[.val (.int p1), .val (.int p2), .val (.int p3), .val (.int p4), .val (.ref a173), .val (.int mu), .unset, .unset, .unset, .unset, .unset, .unset] [])
    refine Goes.of (fun t => XS.iloadN X173.here hx rfl (hb hby at_28) rfl) ?_
    show Goes p e below KK T173 (mkF m 29 #[.val (.int p1), .val (.int p2), .val (.int p3), .val (.int p4), .val (.ref a173), .val (.int mu), .unset, .unset, .unset, .unset, .unset, .unset] [(.int p2)])
    refine Goes.of (X173.ldcInt hx hown173 (mvT hZ173 w_8) (g := (mkF m 29 #[.val (.int p1), .val (.int p2), .val (.int p3), .val (.int p4), .val (.ref a173), .val (.int mu), .unset, .unset, .unset, .unset, .unset, .unset] [(.int p2)])) rfl (hb hby at_29)) ?_
    show Goes p e below KK T173 (mkF m 31 #[.val (.int p1), .val (.int p2), .val (.int p3), .val (.int p4), .val (.ref a173), .val (.int mu), .unset, .unset, .unset, .unset, .unset, .unset] [(.int (2147483647 : Int32)), (.int p2)])
    refine Goes.of (fun t => XS.iand X173.here hx rfl (hb hby at_31) rfl) ?_
    show Goes p e below KK T173 (mkF m 32 #[.val (.int p1), .val (.int p2), .val (.int p3), .val (.int p4), .val (.ref a173), .val (.int mu), .unset, .unset, .unset, .unset, .unset, .unset] [(.int (p2 &&& (2147483647 : Int32)))])
    refine Goes.of (fun t => XS.bipush X173.here hx rfl (hb hby at_32)) ?_
    show Goes p e below KK T173 (mkF m 34 #[.val (.int p1), .val (.int p2), .val (.int p3), .val (.int p4), .val (.ref a173), .val (.int mu), .unset, .unset, .unset, .unset, .unset, .unset] [(.int (12 : Int32)), (.int (p2 &&& (2147483647 : Int32)))])
    refine Goes.of (fun t => iremM X173 hx rfl (hb hby at_34) rfl (by decide)) ?_
    show Goes p e below KK T173 (mkF m 35 #[.val (.int p1), .val (.int p2), .val (.int p3), .val (.int p4), .val (.ref a173), .val (.int mu), .unset, .unset, .unset, .unset, .unset, .unset] [(.int ((p2 &&& (2147483647 : Int32)) % (12 : Int32)))])
    generalize e_po : ((p2 &&& (2147483647 : Int32)) % (12 : Int32)) = po
    show Goes p e below KK T173 (mkF m 35 #[.val (.int p1), .val (.int p2), .val (.int p3), .val (.int p4), .val (.ref a173), .val (.int mu), .unset, .unset, .unset, .unset, .unset, .unset] [(.int po)])
    have hp1 : (p2 &&& 2147483647).toInt = p2.toInt % 2 ^ 31 := Jvm.Kit.i32_mask p2 2147483647 (k := 31) (by decide) (by decide)
    have hp2 : po.toInt = (p2 &&& 2147483647).toInt % 12 := by rw [← e_po]; exact Jvm.Kit.i32_rem_nonneg (by omega)
    have hp3 : 0 ≤ po.toInt := by omega
    refine Goes.of (fun t => XS.istore X173.here hx rfl (hb hby at_35) rfl (l' := #[.val (.int p1), .val (.int p2), .val (.int p3), .val (.int p4), .val (.ref a173), .val (.int mu), .val (.int po), .unset, .unset, .unset, .unset, .unset]) rfl) ?_
    show Goes p e below KK T173 (mkF m 37 #[.val (.int p1), .val (.int p2), .val (.int p3), .val (.int p4), .val (.ref a173), .val (.int mu), .val (.int po), .unset, .unset, .unset, .unset, .unset] [])
    refine Goes.of (fun t => XS.iloadN X173.here hx rfl (hb hby at_37) rfl) ?_
    show Goes p e below KK T173 (mkF m 38 #[.val (.int p1), .val (.int p2), .val (.int p3), .val (.int p4), .val (.ref a173), .val (.int mu), .val (.int po), .unset, .unset, .unset, .unset, .unset] [(.int p3)])
    refine Goes.of (fun t => XS.sipush X173.here hx rfl (hb hby at_38)) ?_
    show Goes p e below KK T173 (mkF m 41 #[.val (.int p1), .val (.int p2), .val (.int p3), .val (.int p4), .val (.ref a173), .val (.int mu), .val (.int po), .unset, .unset, .unset, .unset, .unset] [(.int (255 : Int32)), (.int p3)])
    refine Goes.of (fun t => XS.iand X173.here hx rfl (hb hby at_41) rfl) ?_
    show Goes p e below KK T173 (mkF m 42 #[.val (.int p1), .val (.int p2), .val (.int p3), .val (.int p4), .val (.ref a173), .val (.int mu), .val (.int po), .unset, .unset, .unset, .unset, .unset] [(.int (p3 &&& (255 : Int32)))])
    refine Goes.of (fun t => XT.i2c X173.here hx rfl (hb hby at_42) rfl) ?_
    show Goes p e below KK T173 (mkF m 43 #[.val (.int p1), .val (.int p2), .val (.int p3), .val (.int p4), .val (.ref a173), .val (.int mu), .val (.int po), .unset, .unset, .unset, .unset, .unset] [(.int ((p3 &&& (255 : Int32)).toUInt32.toUInt16.toUInt32.toInt32))])
    generalize e_dr : ((p3 &&& (255 : Int32)).toUInt32.toUInt16.toUInt32.toInt32) = dr
    show Goes p e below KK T173 (mkF m 43 #[.val (.int p1), .val (.int p2), .val (.int p3), .val (.int p4), .val (.ref a173), .val (.int mu), .val (.int po), .unset, .unset, .unset, .unset, .unset] [(.int dr)])
    have hd : 0 ≤ dr.toInt ∧ dr.toInt ≤ 255 := by rw [← e_dr]; exact own_i2c p3
    refine Goes.of (fun t => XS.istore X173.here hx rfl (hb hby at_43) rfl (l' := #[.val (.int p1), .val (.int p2), .val (.int p3), .val (.int p4), .val (.ref a173), .val (.int mu), .val (.int po), .val (.int dr), .unset, .unset, .unset, .unset]) rfl) ?_
    show Goes p e below KK T173 (mkF m 45 #[.val (.int p1), .val (.int p2), .val (.int p3), .val (.int p4), .val (.ref a173), .val (.int mu), .val (.int po), .val (.int dr), .unset, .unset, .unset, .unset] [])
    refine Goes.of (fun t => XS.iloadN X173.here hx rfl (hb hby at_45) rfl) ?_
    show Goes p e below KK T173 (mkF m 46 #[.val (.int p1), .val (.int p2), .val (.int p3), .val (.int p4), .val (.ref a173), .val (.int mu), .val (.int po), .val (.int dr), .unset, .unset, .unset, .unset] [(.int p3)])
    refine Goes.of (fun t => XS.bipush X173.here hx rfl (hb hby at_46)) ?_
    show Goes p e below KK T173 (mkF m 48 #[.val (.int p1), .val (.int p2), .val (.int p3), .val (.int p4), .val (.ref a173), .val (.int mu), .val (.int po), .val (.int dr), .unset, .unset, .unset, .unset] [(.int (8 : Int32)), (.int p3)])
    refine Goes.of (fun t => XT.iushr X173.here hx rfl (hb hby at_48) rfl) ?_
    show Goes p e below KK T173 (mkF m 49 #[.val (.int p1), .val (.int p2), .val (.int p3), .val (.int p4), .val (.ref a173), .val (.int mu), .val (.int po), .val (.int dr), .unset, .unset, .unset, .unset] [(.int (XT.ushr p3 (8 : Int32)))])
    refine Goes.of (fun t => XS.sipush X173.here hx rfl (hb hby at_49)) ?_
    show Goes p e below KK T173 (mkF m 52 #[.val (.int p1), .val (.int p2), .val (.int p3), .val (.int p4), .val (.ref a173), .val (.int mu), .val (.int po), .val (.int dr), .unset, .unset, .unset, .unset] [(.int (255 : Int32)), (.int (XT.ushr p3 (8 : Int32)))])
    refine Goes.of (fun t => XS.iand X173.here hx rfl (hb hby at_52) rfl) ?_
    show Goes p e below KK T173 (mkF m 53 #[.val (.int p1), .val (.int p2), .val (.int p3), .val (.int p4), .val (.ref a173), .val (.int mu), .val (.int po), .val (.int dr), .unset, .unset, .unset, .unset] [(.int ((XT.ushr p3 (8 : Int32)) &&& (255 : Int32)))])
    refine Goes.of (fun t => XT.i2c X173.here hx rfl (hb hby at_53) rfl) ?_
    show Goes p e below KK T173 (mkF m 54 #[.val (.int p1), .val (.int p2), .val (.int p3), .val (.int p4), .val (.ref a173), .val (.int mu), .val (.int po), .val (.int dr), .unset, .unset, .unset, .unset] [(.int (((XT.ushr p3 (8 : Int32)) &&& (255 : Int32)).toUInt32.toUInt16.toUInt32.toInt32))])
    generalize e_fi : (((XT.ushr p3 (8 : Int32)) &&& (255 : Int32)).toUInt32.toUInt16.toUInt32.toInt32) = fi
    show Goes p e below KK T173 (mkF m 54 #[.val (.int p1), .val (.int p2), .val (.int p3), .val (.int p4), .val (.ref a173), .val (.int mu), .val (.int po), .val (.int dr), .unset, .unset, .unset, .unset] [(.int fi)])
    have hf : 0 ≤ fi.toInt ∧ fi.toInt ≤ 255 := by rw [← e_fi]; exact own_i2c _
    refine Goes.of (fun t => XS.istore X173.here hx rfl (hb hby at_54) rfl (l' := #[.val (.int p1), .val (.int p2), .val (.int p3), .val (.int p4), .val (.ref a173), .val (.int mu), .val (.int po), .val (.int dr), .val (.int fi), .unset, .unset, .unset]) rfl) ?_
    show Goes p e below KK T173 (mkF m 56 #[.val (.int p1), .val (.int p2), .val (.int p3), .val (.int p4), .val (.ref a173), .val (.int mu), .val (.int po), .val (.int dr), .val (.int fi), .unset, .unset, .unset] [])
    refine Goes.of (fun t => XS.iloadN X173.here hx rfl (hb hby at_56) rfl) ?_
    show Goes p e below KK T173 (mkF m 57 #[.val (.int p1), .val (.int p2), .val (.int p3), .val (.int p4), .val (.ref a173), .val (.int mu), .val (.int po), .val (.int dr), .val (.int fi), .unset, .unset, .unset] [(.int p4)])
    obtain ⟨_, _, ⟨T175, L175, k175, n175⟩, -, X175, ⟨Lc175, hQ175, l175, y175, z175⟩, st175⟩ := Jvm.LawKit.callS X173 hx (y := (⟨"com/example/warrant/warrant/cli/PolicyFilesNamesPinLaw", "lengthOf", "(I)I"⟩ : MethodName)) hown173 (mvT hZ173 w_9) (mvT hZ173 w_10) (mvT hZ173 w_11) (mvT hZ173 w_12) (by decide) (backOf (W := 0) (rm1 l Z a0 hw [] p4  h173 n0 Z173 ) hZ173 w_12 w_11 (by decide) (by decide)) (g := (mkF m 57 #[.val (.int p1), .val (.int p2), .val (.int p3), .val (.int p4), .val (.ref a173), .val (.int mu), .val (.int po), .val (.int dr), .val (.int fi), .unset, .unset, .unset] [(.int p4)])) rfl (by rw [hml]; rfl) (argsL := [(.int p4)]) (rest := []) (lenOf pd_34 rfl) rfl (by show 2 * 0 + _ ≤ _; exact Nat.le_of_eq rfl) (hb hby at_57) (fun _ _ => ⟨rfl, e173, (by decide : 2 + 0 ≤ _), (by decide : 48 + 0 ≤ _)⟩)
    dsimp only [Pt.U, Pt.locs, Pt.cells, Pt.slots] at X175 l175 y175 z175 st175 hQ175
    subst y175 z175
    obtain ⟨rfl, N175q, e175⟩ := hQ175
    have N175 : Fr n0 L175 := by rw [l175]; exact Fr.app N0 N175q
    refine Goes.of st175 ?_
    show Goes p e below KK T175 (mkF m 60 #[.val (.int p1), .val (.int p2), .val (.int p3), .val (.int p4), .val (.ref a173), .val (.int mu), .val (.int po), .val (.int dr), .val (.int fi), .unset, .unset, .unset] [(.int (f1 p4))])
    generalize e_nn : (f1 p4) = nn
    show Goes p e below KK T175 (mkF m 60 #[.val (.int p1), .val (.int p2), .val (.int p3), .val (.int p4), .val (.ref a173), .val (.int mu), .val (.int po), .val (.int dr), .val (.int fi), .unset, .unset, .unset] [(.int nn)])
    obtain ⟨kn, hkn0, hkk⟩ := own_len p4
    have hkn : nn.toInt = (kn : Int) := by rw [← e_nn]; exact hkn0
    refine Goes.of (fun t => XS.istore X175.here hx rfl (hb hby at_60) rfl (l' := #[.val (.int p1), .val (.int p2), .val (.int p3), .val (.int p4), .val (.ref a173), .val (.int mu), .val (.int po), .val (.int dr), .val (.int fi), .val (.int nn), .unset, .unset]) rfl) ?_
    show Goes p e below KK T175 (mkF m 62 #[.val (.int p1), .val (.int p2), .val (.int p3), .val (.int p4), .val (.ref a173), .val (.int mu), .val (.int po), .val (.int dr), .val (.int fi), .val (.int nn), .unset, .unset] [])
    refine Goes.of (fun t => XS.iload X175.here hx rfl (hb hby at_62) rfl) ?_
    show Goes p e below KK T175 (mkF m 64 #[.val (.int p1), .val (.int p2), .val (.int p3), .val (.int p4), .val (.ref a173), .val (.int mu), .val (.int po), .val (.int dr), .val (.int fi), .val (.int nn), .unset, .unset] [(.int nn)])
    refine Goes.of (fun t => XS.aload X175.here hx rfl (hb hby at_64) rfl rfl) ?_
    show Goes p e below KK T175 (mkF m 66 #[.val (.int p1), .val (.int p2), .val (.int p3), .val (.int p4), .val (.ref a173), .val (.int mu), .val (.int po), .val (.int dr), .val (.int fi), .val (.int nn), .unset, .unset] [(.ref a173), (.int nn)])
    refine Goes.of (fun t => XS.iload X175.here hx rfl (hb hby at_66) rfl) ?_
    show Goes p e below KK T175 (mkF m 68 #[.val (.int p1), .val (.int p2), .val (.int p3), .val (.int p4), .val (.ref a173), .val (.int mu), .val (.int po), .val (.int dr), .val (.int fi), .val (.int nn), .unset, .unset] [(.int mu), (.ref a173), (.int nn)])
    refine Goes.of (fun t => XS.iload X175.here hx rfl (hb hby at_68) rfl) ?_
    show Goes p e below KK T175 (mkF m 70 #[.val (.int p1), .val (.int p2), .val (.int p3), .val (.int p4), .val (.ref a173), .val (.int mu), .val (.int po), .val (.int dr), .val (.int fi), .val (.int nn), .unset, .unset] [(.int po), (.int mu), (.ref a173), (.int nn)])
    refine Goes.of (fun t => XS.iload X175.here hx rfl (hb hby at_70) rfl) ?_
    show Goes p e below KK T175 (mkF m 72 #[.val (.int p1), .val (.int p2), .val (.int p3), .val (.int p4), .val (.ref a173), .val (.int mu), .val (.int po), .val (.int dr), .val (.int fi), .val (.int nn), .unset, .unset] [(.int dr), (.int po), (.int mu), (.ref a173), (.int nn)])
    refine Goes.of (fun t => XS.iload X175.here hx rfl (hb hby at_72) rfl) ?_
    show Goes p e below KK T175 (mkF m 74 #[.val (.int p1), .val (.int p2), .val (.int p3), .val (.int p4), .val (.ref a173), .val (.int mu), .val (.int po), .val (.int dr), .val (.int fi), .val (.int nn), .unset, .unset] [(.int fi), (.int dr), (.int po), (.int mu), (.ref a173), (.int nn)])
    obtain ⟨_, _, ⟨T176, L176, k176, n176⟩, -, X176, hSi176, hge176, ⟨Lc176, hQ176, l176, y176, z176, cr176⟩, st176⟩ := callSS X175 hx (y := (⟨"com/example/warrant/warrant/cli/PolicyFilesNamesPinLaw", "make", "(ILjava/lang/String;ZICC)Ljava/lang/String;"⟩ : MethodName)) hown173 (mvT hZ173 w_13) (mvT hZ173 w_14) (mvT hZ173 w_11) (mvT hZ173 w_15) (by decide) (backOfSH (W := 0) (rm2 l Z a0 hw [] nn a173 mu po dr fi b173 XR 11 cz fm kn h173 n0 Z173 Ex173 Fc173 Fv173 V173 rfl Scs_173 hcz Sf_173 hfm own_ascR hd hf hkn hkk) hZ173 w_15 w_11 (by decide) (by decide) hEL CR173.1) (g := (mkF m 74 #[.val (.int p1), .val (.int p2), .val (.int p3), .val (.int p4), .val (.ref a173), .val (.int mu), .val (.int po), .val (.int dr), .val (.int fi), .val (.int nn), .unset, .unset] [(.int fi), (.int dr), (.int po), (.int mu), (.ref a173), (.int nn)])) rfl (by rw [hml]; rfl) (argsL := [(.int nn), (.ref a173), (.int mu), (.int po), (.int dr), (.int fi)]) (rest := []) (lenOf pd_35 rfl) rfl (by show 2 * 0 + _ ≤ _; exact Nat.le_of_eq rfl) (hb hby at_74) (fun _ _ => ⟨rfl, e175, (by decide : 2 + 6 ≤ _), (by decide : 48 + 28 ≤ _)⟩)
    dsimp only [Pt.U, Pt.locs, Pt.cells, Pt.slots] at X176 l176 y176 z176 st176 hQ176 hSi176 hge176 cr176
    subst y176 z176
    obtain ⟨Y176, HS176, hZ176, hown176⟩ := rebS HS173 (by rw [e175]; exact HK173) X176 hSi176 hge176 hZ173 hown173
    have HK176 := Nat.le_refl T176.heap.size
    have CR176 := CR173.trans cr176
    obtain ⟨r176, t176, rfl, N176q, Kc176, E176, Fc176, Fv176, V176⟩ := hQ176
    have N176 : Fr n0 L176 := by rw [l176]; exact Fr.app N175 N176q
    have Scs_173_176 : Sta Z T176.heap "java/lang/String" "COMPACT_STRINGS" "Z" (.int cz) := own_staK Scs_173 Kc176 ns0
    have Sf_173_176 : Sta Z T176.heap "jdk/internal/util/Preconditions" "SIOOBE_FORMATTER" "Ljava/util/function/BiFunction;" fm := own_staK Sf_173 Kc176 ns0
    have Ex173_176 : Exa Z T176.heap a173 "java/lang/String" := Ex173.keep Kc176
    have Fc173_176 : Fld Z T176.heap a173 "java/lang/String" "coder" "B" (.int (0 : Int32)) := Fc173.keep Kc176 nin0
    have Fv173_176 : Fld Z T176.heap a173 "java/lang/String" "value" "[B" (.ref b173) := Fv173.keep Kc176 nin0
    have V173_176 : AI Z T176.heap b173 .byte [45, 45, 114, 101, 102, 101, 114, 101, 110, 99, 101] := V173.keep Kc176 nin0
    have K176 : Keep h0 T176.heap [] := K173.trans Kc176 all0
    have Z176 : n0 ≤ T176.heap.size := Nat.le_trans Z173 Kc176.1
    have e176 : T176.heap = T176.heap := rfl
    refine Goes.tr st176 ?_
    show Goes p e below KK T176 (mkF m 77 #[.val (.int p1), .val (.int p2), .val (.int p3), .val (.int p4), .val (.ref a173), .val (.int mu), .val (.int po), .val (.int dr), .val (.int fi), .val (.int nn), .unset, .unset] [(.ref r176)])
    refine Goes.of (fun t => XS.astore Y176.here hx rfl (hb hby at_77) rfl rfl (l' := #[.val (.int p1), .val (.int p2), .val (.int p3), .val (.int p4), .val (.ref a173), .val (.int mu), .val (.int po), .val (.int dr), .val (.int fi), .val (.int nn), .val (.ref r176), .unset]) rfl) ?_
    show Goes p e below KK T176 (mkF m 79 #[.val (.int p1), .val (.int p2), .val (.int p3), .val (.int p4), .val (.ref a173), .val (.int mu), .val (.int po), .val (.int dr), .val (.int fi), .val (.int nn), .val (.ref r176), .unset] [])
    refine Goes.of (fun t => XS.iload Y176.here hx rfl (hb hby at_79) rfl) ?_
    show Goes p e below KK T176 (mkF m 81 #[.val (.int p1), .val (.int p2), .val (.int p3), .val (.int p4), .val (.ref a173), .val (.int mu), .val (.int po), .val (.int dr), .val (.int fi), .val (.int nn), .val (.ref r176), .unset] [(.int nn)])
    refine Goes.of (fun t => XS.aload Y176.here hx rfl (hb hby at_81) rfl rfl) ?_
    show Goes p e below KK T176 (mkF m 83 #[.val (.int p1), .val (.int p2), .val (.int p3), .val (.int p4), .val (.ref a173), .val (.int mu), .val (.int po), .val (.int dr), .val (.int fi), .val (.int nn), .val (.ref r176), .unset] [(.ref a173), (.int nn)])
    obtain ⟨cq177, kq177, q177a, q177b, q177c⟩ := isOf hZ176 e176 Ex173_176
    obtain ⟨_, _, ⟨T177, L177, k177, n177⟩, -, X177, ⟨Lc177, hQ177, l177, y177, z177⟩, st177⟩ := Y176.virtualBack hx (y := (⟨"java/lang/String", "length", "()I"⟩ : MethodName)) (z := (⟨"java/lang/String", "length", "()I"⟩ : MethodName)) hown176 (mvT hZ176 w_19) (mvT hZ176 w_20) (notFace_of_selects (args := #[]) (mvT hZ176 w_22)) (mvT hZ176 w_22) (mvT hZ176 w_21) (by decide) (backOf (W := 1) (rm4 l Z a0 hw [] a173 b173 [45, 45, 114, 101, 102, 101, 114, 101, 110, 99, 101] 11 cz T176.heap n0 Z176 Ex173_176 Fc173_176 Fv173_176 V173_176 (rfl) Scs_173_176 hcz) hZ176 w_23 w_1 (by decide) (by decide)) q177a q177c (g := (mkF m 83 #[.val (.int p1), .val (.int p2), .val (.int p3), .val (.int p4), .val (.ref a173), .val (.int mu), .val (.int po), .val (.int dr), .val (.int fi), .val (.int nn), .val (.ref r176), .unset] [(.ref a173), (.int nn)])) rfl (by rw [hml]; rfl) (Steps.refl _) (argsL := []) (rest := [(.int nn)]) (lenOf pd_14 rfl) rfl (by show 2 * 0 + _ ≤ _; exact Nat.le_of_eq rfl) (hb hby at_83) (fun _ _ => ⟨rfl, e176, (by decide : 8 + 0 ≤ _), (by decide : 76 + 0 ≤ _)⟩)
    dsimp only [Pt.U, Pt.locs, Pt.cells, Pt.slots] at X177 l177 y177 z177 st177 hQ177
    subst y177 z177
    obtain ⟨rfl, N177q, e177⟩ := hQ177
    have N177 : Fr n0 L177 := by rw [l177]; exact Fr.app N176 N177q
    refine Goes.tr st177 ?_
    show Goes p e below KK T177 (mkF m 86 #[.val (.int p1), .val (.int p2), .val (.int p3), .val (.int p4), .val (.ref a173), .val (.int mu), .val (.int po), .val (.int dr), .val (.int fi), .val (.int nn), .val (.ref r176), .unset] [(.int 11), (.int nn)])
    by_cases hc86_2 : nn = 11
    · refine Goes.of (fun t => XS.icmpNo X177.here hx rfl (hb hby at_86) rfl (teq hc86_2).2) ?_
      show Goes p e below KK T177 (mkF m 89 #[.val (.int p1), .val (.int p2), .val (.int p3), .val (.int p4), .val (.ref a173), .val (.int mu), .val (.int po), .val (.int dr), .val (.int fi), .val (.int nn), .val (.ref r176), .unset] [])
      refine Goes.of (fun t => XS.iload X177.here hx rfl (hb hby at_89) rfl) ?_
      show Goes p e below KK T177 (mkF m 91 #[.val (.int p1), .val (.int p2), .val (.int p3), .val (.int p4), .val (.ref a173), .val (.int mu), .val (.int po), .val (.int dr), .val (.int fi), .val (.int nn), .val (.ref r176), .unset] [(.int mu)])
      by_cases hc91_2 : mu = (0 : Int32)
      · refine Goes.of (fun t => XS.ifYes X177.here hx rfl (pc0 := 91) (pc' := 113) rfl (hb hby at_91) rfl ((if0 _ _).trans (teq hc91_2).1) (by decide) (by decide)) ?_
        show Goes p e below KK T177 (mkF m 113 #[.val (.int p1), .val (.int p2), .val (.int p3), .val (.int p4), .val (.ref a173), .val (.int mu), .val (.int po), .val (.int dr), .val (.int fi), .val (.int nn), .val (.ref r176), .unset] [])
        refine Goes.of (fun t => XS.iconst X177.here hx rfl (hb hby at_113)) ?_
        show Goes p e below KK T177 (mkF m 114 #[.val (.int p1), .val (.int p2), .val (.int p3), .val (.int p4), .val (.ref a173), .val (.int mu), .val (.int po), .val (.int dr), .val (.int fi), .val (.int nn), .val (.ref r176), .unset] [(.int (1 : Int32))])
        refine Goes.of (fun t => XS.goto X177.here hx rfl (pc0 := 114) (pc' := 118) rfl (hb hby at_114) (by decide) (by decide)) ?_
        show Goes p e below KK T177 (mkF m 118 #[.val (.int p1), .val (.int p2), .val (.int p3), .val (.int p4), .val (.ref a173), .val (.int mu), .val (.int po), .val (.int dr), .val (.int fi), .val (.int nn), .val (.ref r176), .unset] [(.int (1 : Int32))])
        refine Goes.of (fun t => XS.istore X177.here hx rfl (hb hby at_118) rfl (l' := #[.val (.int p1), .val (.int p2), .val (.int p3), .val (.int p4), .val (.ref a173), .val (.int mu), .val (.int po), .val (.int dr), .val (.int fi), .val (.int nn), .val (.ref r176), .val (.int (1 : Int32))]) rfl) ?_
        show Goes p e below KK T177 (mkF m 120 #[.val (.int p1), .val (.int p2), .val (.int p3), .val (.int p4), .val (.ref a173), .val (.int mu), .val (.int po), .val (.int dr), .val (.int fi), .val (.int nn), .val (.ref r176), .val (.int (1 : Int32))] [])
        refine Goes.of (fun t => XS.aload X177.here hx rfl (hb hby at_120) rfl rfl) ?_
        show Goes p e below KK T177 (mkF m 122 #[.val (.int p1), .val (.int p2), .val (.int p3), .val (.int p4), .val (.ref a173), .val (.int mu), .val (.int po), .val (.int dr), .val (.int fi), .val (.int nn), .val (.ref r176), .val (.int (1 : Int32))] [(.ref r176)])
        obtain ⟨_, _, ⟨T178, L178, k178, n178⟩, -, X178, hSi178, hge178, ⟨Lc178, hQ178, l178, y178, z178, cr178⟩, st178⟩ := callSS X177 hx (y := (⟨"com/example/warrant/warrant/cli/PolicyFiles", "names", "(Ljava/lang/String;)Z"⟩ : MethodName)) hown176 (mvT hZ176 w_76) (mvT hZ176 w_77) (mvT hZ176 w_78) (mvT hZ176 w_79) (by decide) (backOfSH (W := 0) (rm17 l Z a0 hw [] r176 t176 (mkL XR kn mu po dr fi) nn cz T176.heap n0 Z176 E176 Fc176 Fv176 V176 (by rw [mkL_len]; exact hkn) (by rw [mkL_len]; omega) Scs_173_176 hcz) hZ176 w_79 w_78 (by decide) (by decide) hEL CR176.1) (g := (mkF m 122 #[.val (.int p1), .val (.int p2), .val (.int p3), .val (.int p4), .val (.ref a173), .val (.int mu), .val (.int po), .val (.int dr), .val (.int fi), .val (.int nn), .val (.ref r176), .val (.int (1 : Int32))] [(.ref r176)])) rfl (by rw [hml]; rfl) (argsL := [(.ref r176)]) (rest := []) (lenOf pd_36 rfl) rfl (by show 2 * 0 + _ ≤ _; exact Nat.le_of_eq rfl) (hb hby at_122) (fun _ _ => ⟨rfl, e177, (by decide : 8 + 4 ≤ _), (by decide : 76 + 84 ≤ _)⟩)
        dsimp only [Pt.U, Pt.locs, Pt.cells, Pt.slots] at X178 l178 y178 z178 st178 hQ178 hSi178 hge178 cr178
        subst y178 z178
        obtain ⟨Y178, HS178, hZ178, hown178⟩ := rebS HS176 (by rw [e177]; exact HK176) X178 hSi178 hge178 hZ176 hown176
        have HK178 := Nat.le_refl T178.heap.size
        have CR178 := CR176.trans cr178
        obtain ⟨rfl, N178q, Kc178⟩ := hQ178
        have N178 : Fr n0 L178 := by rw [l178]; exact Fr.app N177 N178q
        have Scs_173_176_178 : Sta Z T178.heap "java/lang/String" "COMPACT_STRINGS" "Z" (.int cz) := own_staK Scs_173_176 Kc178 ns0
        have Sf_173_176_178 : Sta Z T178.heap "jdk/internal/util/Preconditions" "SIOOBE_FORMATTER" "Ljava/util/function/BiFunction;" fm := own_staK Sf_173_176 Kc178 ns0
        have Ex173_176_178 : Exa Z T178.heap a173 "java/lang/String" := Ex173_176.keep Kc178
        have Fc173_176_178 : Fld Z T178.heap a173 "java/lang/String" "coder" "B" (.int (0 : Int32)) := Fc173_176.keep Kc178 nin0
        have Fv173_176_178 : Fld Z T178.heap a173 "java/lang/String" "value" "[B" (.ref b173) := Fv173_176.keep Kc178 nin0
        have V173_176_178 : AI Z T178.heap b173 .byte [45, 45, 114, 101, 102, 101, 114, 101, 110, 99, 101] := V173_176.keep Kc178 nin0
        have E176_178 : Exa Z T178.heap r176 "java/lang/String" := E176.keep Kc178
        have Fc176_178 : Fld Z T178.heap r176 "java/lang/String" "coder" "B" (.int (0 : Int32)) := Fc176.keep Kc178 nin0
        have Fv176_178 : Fld Z T178.heap r176 "java/lang/String" "value" "[B" (.ref t176) := Fv176.keep Kc178 nin0
        have V176_178 : AI Z T178.heap t176 .byte (mkL XR kn mu po dr fi) := V176.keep Kc178 nin0
        have K178 : Keep h0 T178.heap [] := K176.trans Kc178 all0
        have Z178 : n0 ≤ T178.heap.size := Nat.le_trans Z176 Kc178.1
        have e178 : T178.heap = T178.heap := rfl
        refine Goes.tr st178 ?_
        show Goes p e below KK T178 (mkF m 125 #[.val (.int p1), .val (.int p2), .val (.int p3), .val (.int p4), .val (.ref a173), .val (.int mu), .val (.int po), .val (.int dr), .val (.int fi), .val (.int nn), .val (.ref r176), .val (.int (1 : Int32))] [(.int (nmV (mkL XR kn mu po dr fi)))])
        refine Goes.of (fun t => XS.iload Y178.here hx rfl (hb hby at_125) rfl) ?_
        show Goes p e below KK T178 (mkF m 127 #[.val (.int p1), .val (.int p2), .val (.int p3), .val (.int p4), .val (.ref a173), .val (.int mu), .val (.int po), .val (.int dr), .val (.int fi), .val (.int nn), .val (.ref r176), .val (.int (1 : Int32))] [(.int (1 : Int32)), (.int (nmV (mkL XR kn mu po dr fi)))])
        refine Goes.of (fun t => XS.icmpNo Y178.here hx rfl (hb hby at_127) rfl (teq (show (nmV (mkL XR kn mu po dr fi)) = (1 : Int32) from own_v1 (Or.inr (own_eq own_ascR (show kn = 11 by have q2 := congrArg Int32.toInt hc86_2; have z : (11 : Int32).toInt = 11 := rfl; omega) (fun i q1 q2 q3 => absurd hc91_2 q2))))).2) ?_
        show Goes p e below KK T178 (mkF m 130 #[.val (.int p1), .val (.int p2), .val (.int p3), .val (.int p4), .val (.ref a173), .val (.int mu), .val (.int po), .val (.int dr), .val (.int fi), .val (.int nn), .val (.ref r176), .val (.int (1 : Int32))] [])
        refine Goes.of (fun t => XS.iconst Y178.here hx rfl (hb hby at_130)) ?_
        show Goes p e below KK T178 (mkF m 131 #[.val (.int p1), .val (.int p2), .val (.int p3), .val (.int p4), .val (.ref a173), .val (.int mu), .val (.int po), .val (.int dr), .val (.int fi), .val (.int nn), .val (.ref r176), .val (.int (1 : Int32))] [(.int (1 : Int32))])
        refine Goes.of (fun t => XS.goto Y178.here hx rfl (pc0 := 131) (pc' := 135) rfl (hb hby at_131) (by decide) (by decide)) ?_
        show Goes p e below KK T178 (mkF m 135 #[.val (.int p1), .val (.int p2), .val (.int p3), .val (.int p4), .val (.ref a173), .val (.int mu), .val (.int po), .val (.int dr), .val (.int fi), .val (.int nn), .val (.ref r176), .val (.int (1 : Int32))] [(.int (1 : Int32))])
        rw [← hKK]
        refine Goes.retNarW Y178 HS178 (by rw [e178]; exact HK178) hx hlk (t := .boolean) (by simp) Bd.returns (hb hby at_135) ?_ (by decide) (by decide)
        rw [e178]
        exact ⟨rfl, N178⟩
      · refine Goes.of (fun t => XS.ifNo X177.here hx rfl (hb hby at_91) rfl ((if0 _ _).trans (feq hc91_2).1)) ?_
        show Goes p e below KK T177 (mkF m 94 #[.val (.int p1), .val (.int p2), .val (.int p3), .val (.int p4), .val (.ref a173), .val (.int mu), .val (.int po), .val (.int dr), .val (.int fi), .val (.int nn), .val (.ref r176), .unset] [])
        refine Goes.of (fun t => XS.iload X177.here hx rfl (hb hby at_94) rfl) ?_
        show Goes p e below KK T177 (mkF m 96 #[.val (.int p1), .val (.int p2), .val (.int p3), .val (.int p4), .val (.ref a173), .val (.int mu), .val (.int po), .val (.int dr), .val (.int fi), .val (.int nn), .val (.ref r176), .unset] [(.int po)])
        refine Goes.of (fun t => XS.iload X177.here hx rfl (hb hby at_96) rfl) ?_
        show Goes p e below KK T177 (mkF m 98 #[.val (.int p1), .val (.int p2), .val (.int p3), .val (.int p4), .val (.ref a173), .val (.int mu), .val (.int po), .val (.int dr), .val (.int fi), .val (.int nn), .val (.ref r176), .unset] [(.int nn), (.int po)])
        by_cases hc98_2 : po < nn
        · refine Goes.of (fun t => XS.icmpNo X177.here hx rfl (hb hby at_98) rfl (tlt hc98_2).2.1) ?_
          show Goes p e below KK T177 (mkF m 101 #[.val (.int p1), .val (.int p2), .val (.int p3), .val (.int p4), .val (.ref a173), .val (.int mu), .val (.int po), .val (.int dr), .val (.int fi), .val (.int nn), .val (.ref r176), .unset] [])
          refine Goes.of (fun t => XS.iload X177.here hx rfl (hb hby at_101) rfl) ?_
          show Goes p e below KK T177 (mkF m 103 #[.val (.int p1), .val (.int p2), .val (.int p3), .val (.int p4), .val (.ref a173), .val (.int mu), .val (.int po), .val (.int dr), .val (.int fi), .val (.int nn), .val (.ref r176), .unset] [(.int dr)])
          refine Goes.of (fun t => XS.aload X177.here hx rfl (hb hby at_103) rfl rfl) ?_
          show Goes p e below KK T177 (mkF m 105 #[.val (.int p1), .val (.int p2), .val (.int p3), .val (.int p4), .val (.ref a173), .val (.int mu), .val (.int po), .val (.int dr), .val (.int fi), .val (.int nn), .val (.ref r176), .unset] [(.ref a173), (.int dr)])
          refine Goes.of (fun t => XS.iload X177.here hx rfl (hb hby at_105) rfl) ?_
          show Goes p e below KK T177 (mkF m 107 #[.val (.int p1), .val (.int p2), .val (.int p3), .val (.int p4), .val (.ref a173), .val (.int mu), .val (.int po), .val (.int dr), .val (.int fi), .val (.int nn), .val (.ref r176), .unset] [(.int po), (.ref a173), (.int dr)])
          have hpl : po.toInt.toNat < 11 := by
            have q1 := hc98_2
            have q2 := congrArg Int32.toInt hc86_2
            have z : (11 : Int32).toInt = 11 := rfl
            rw [Int32.lt_iff_toInt_lt] at q1
            omega
          obtain ⟨y, hy⟩ : ∃ y, ([45, 45, 114, 101, 102, 101, 114, 101, 110, 99, 101] : List Int32)[po.toInt.toNat]? = some y := ⟨_, List.getElem?_eq_getElem (show po.toInt.toNat < List.length ([45, 45, 114, 101, 102, 101, 114, 101, 110, 99, 101] : List Int32) from hpl)⟩
          have hyb := own_ascR y (List.mem_of_getElem? hy)
          obtain ⟨cq179, kq179, q179a, q179b, q179c⟩ := isOf hZ176 e177 Ex173_176
          obtain ⟨_, _, ⟨T179, L179, k179, n179⟩, -, X179, ⟨Lc179, hQ179, l179, y179, z179⟩, st179⟩ := X177.virtualBack hx (y := (⟨"java/lang/String", "charAt", "(I)C"⟩ : MethodName)) (z := (⟨"java/lang/String", "charAt", "(I)C"⟩ : MethodName)) hown176 (mvT hZ176 w_32) (mvT hZ176 w_33) (notFace_of_selects (args := #[]) (mvT hZ176 w_35)) (mvT hZ176 w_35) (mvT hZ176 w_34) (by decide) (backOf (W := 1) (rm6 l Z a0 hw [] a173 po b173 [45, 45, 114, 101, 102, 101, 114, 101, 110, 99, 101] 11 cz po.toInt.toNat y fm T176.heap n0 Z176 Ex173_176 Fc173_176 Fv173_176 V173_176 (rfl) Scs_173_176 hcz Sf_173_176 (fun q => by rw [Int32.lt_iff_toInt_lt] at q; have z : (0 : Int32).toInt = 0 := rfl; omega) (by rw [Int32.lt_iff_toInt_lt]; have z : (11 : Int32).toInt = 11 := rfl; omega) hfm (by omega) hy hyb) hZ176 w_36 w_1 (by decide) (by decide)) q179a q179c (g := (mkF m 107 #[.val (.int p1), .val (.int p2), .val (.int p3), .val (.int p4), .val (.ref a173), .val (.int mu), .val (.int po), .val (.int dr), .val (.int fi), .val (.int nn), .val (.ref r176), .unset] [(.int po), (.ref a173), (.int dr)])) rfl (by rw [hml]; rfl) (Steps.refl _) (argsL := [(.int po)]) (rest := [(.int dr)]) (lenOf pd_15 rfl) rfl (by show 2 * 0 + _ ≤ _; exact Nat.le_of_eq rfl) (hb hby at_107) (fun _ _ => ⟨rfl, e177, (by decide : 8 + 0 ≤ _), (by decide : 76 + 0 ≤ _)⟩)
          dsimp only [Pt.U, Pt.locs, Pt.cells, Pt.slots] at X179 l179 y179 z179 st179 hQ179
          subst y179 z179
          obtain ⟨rfl, N179q, e179⟩ := hQ179
          have N179 : Fr n0 L179 := by rw [l179]; exact Fr.app N177 N179q
          refine Goes.tr st179 ?_
          show Goes p e below KK T179 (mkF m 110 #[.val (.int p1), .val (.int p2), .val (.int p3), .val (.int p4), .val (.ref a173), .val (.int mu), .val (.int po), .val (.int dr), .val (.int fi), .val (.int nn), .val (.ref r176), .unset] [(.int y), (.int dr)])
          by_cases hc110_2 : dr = y
          · refine Goes.of (fun t => XS.icmpNo X179.here hx rfl (hb hby at_110) rfl (teq hc110_2).2) ?_
            show Goes p e below KK T179 (mkF m 113 #[.val (.int p1), .val (.int p2), .val (.int p3), .val (.int p4), .val (.ref a173), .val (.int mu), .val (.int po), .val (.int dr), .val (.int fi), .val (.int nn), .val (.ref r176), .unset] [])
            refine Goes.of (fun t => XS.iconst X179.here hx rfl (hb hby at_113)) ?_
            show Goes p e below KK T179 (mkF m 114 #[.val (.int p1), .val (.int p2), .val (.int p3), .val (.int p4), .val (.ref a173), .val (.int mu), .val (.int po), .val (.int dr), .val (.int fi), .val (.int nn), .val (.ref r176), .unset] [(.int (1 : Int32))])
            refine Goes.of (fun t => XS.goto X179.here hx rfl (pc0 := 114) (pc' := 118) rfl (hb hby at_114) (by decide) (by decide)) ?_
            show Goes p e below KK T179 (mkF m 118 #[.val (.int p1), .val (.int p2), .val (.int p3), .val (.int p4), .val (.ref a173), .val (.int mu), .val (.int po), .val (.int dr), .val (.int fi), .val (.int nn), .val (.ref r176), .unset] [(.int (1 : Int32))])
            refine Goes.of (fun t => XS.istore X179.here hx rfl (hb hby at_118) rfl (l' := #[.val (.int p1), .val (.int p2), .val (.int p3), .val (.int p4), .val (.ref a173), .val (.int mu), .val (.int po), .val (.int dr), .val (.int fi), .val (.int nn), .val (.ref r176), .val (.int (1 : Int32))]) rfl) ?_
            show Goes p e below KK T179 (mkF m 120 #[.val (.int p1), .val (.int p2), .val (.int p3), .val (.int p4), .val (.ref a173), .val (.int mu), .val (.int po), .val (.int dr), .val (.int fi), .val (.int nn), .val (.ref r176), .val (.int (1 : Int32))] [])
            refine Goes.of (fun t => XS.aload X179.here hx rfl (hb hby at_120) rfl rfl) ?_
            show Goes p e below KK T179 (mkF m 122 #[.val (.int p1), .val (.int p2), .val (.int p3), .val (.int p4), .val (.ref a173), .val (.int mu), .val (.int po), .val (.int dr), .val (.int fi), .val (.int nn), .val (.ref r176), .val (.int (1 : Int32))] [(.ref r176)])
            obtain ⟨_, _, ⟨T180, L180, k180, n180⟩, -, X180, hSi180, hge180, ⟨Lc180, hQ180, l180, y180, z180, cr180⟩, st180⟩ := callSS X179 hx (y := (⟨"com/example/warrant/warrant/cli/PolicyFiles", "names", "(Ljava/lang/String;)Z"⟩ : MethodName)) hown176 (mvT hZ176 w_76) (mvT hZ176 w_77) (mvT hZ176 w_78) (mvT hZ176 w_79) (by decide) (backOfSH (W := 0) (rm17 l Z a0 hw [] r176 t176 (mkL XR kn mu po dr fi) nn cz T176.heap n0 Z176 E176 Fc176 Fv176 V176 (by rw [mkL_len]; exact hkn) (by rw [mkL_len]; omega) Scs_173_176 hcz) hZ176 w_79 w_78 (by decide) (by decide) hEL CR176.1) (g := (mkF m 122 #[.val (.int p1), .val (.int p2), .val (.int p3), .val (.int p4), .val (.ref a173), .val (.int mu), .val (.int po), .val (.int dr), .val (.int fi), .val (.int nn), .val (.ref r176), .val (.int (1 : Int32))] [(.ref r176)])) rfl (by rw [hml]; rfl) (argsL := [(.ref r176)]) (rest := []) (lenOf pd_36 rfl) rfl (by show 2 * 0 + _ ≤ _; exact Nat.le_of_eq rfl) (hb hby at_122) (fun _ _ => ⟨rfl, e179, (by decide : 8 + 4 ≤ _), (by decide : 76 + 84 ≤ _)⟩)
            dsimp only [Pt.U, Pt.locs, Pt.cells, Pt.slots] at X180 l180 y180 z180 st180 hQ180 hSi180 hge180 cr180
            subst y180 z180
            obtain ⟨Y180, HS180, hZ180, hown180⟩ := rebS HS176 (by rw [e179]; exact HK176) X180 hSi180 hge180 hZ176 hown176
            have HK180 := Nat.le_refl T180.heap.size
            have CR180 := CR176.trans cr180
            obtain ⟨rfl, N180q, Kc180⟩ := hQ180
            have N180 : Fr n0 L180 := by rw [l180]; exact Fr.app N179 N180q
            have Scs_173_176_180 : Sta Z T180.heap "java/lang/String" "COMPACT_STRINGS" "Z" (.int cz) := own_staK Scs_173_176 Kc180 ns0
            have Sf_173_176_180 : Sta Z T180.heap "jdk/internal/util/Preconditions" "SIOOBE_FORMATTER" "Ljava/util/function/BiFunction;" fm := own_staK Sf_173_176 Kc180 ns0
            have Ex173_176_180 : Exa Z T180.heap a173 "java/lang/String" := Ex173_176.keep Kc180
            have Fc173_176_180 : Fld Z T180.heap a173 "java/lang/String" "coder" "B" (.int (0 : Int32)) := Fc173_176.keep Kc180 nin0
            have Fv173_176_180 : Fld Z T180.heap a173 "java/lang/String" "value" "[B" (.ref b173) := Fv173_176.keep Kc180 nin0
            have V173_176_180 : AI Z T180.heap b173 .byte [45, 45, 114, 101, 102, 101, 114, 101, 110, 99, 101] := V173_176.keep Kc180 nin0
            have E176_180 : Exa Z T180.heap r176 "java/lang/String" := E176.keep Kc180
            have Fc176_180 : Fld Z T180.heap r176 "java/lang/String" "coder" "B" (.int (0 : Int32)) := Fc176.keep Kc180 nin0
            have Fv176_180 : Fld Z T180.heap r176 "java/lang/String" "value" "[B" (.ref t176) := Fv176.keep Kc180 nin0
            have V176_180 : AI Z T180.heap t176 .byte (mkL XR kn mu po dr fi) := V176.keep Kc180 nin0
            have K180 : Keep h0 T180.heap [] := K176.trans Kc180 all0
            have Z180 : n0 ≤ T180.heap.size := Nat.le_trans Z176 Kc180.1
            have e180 : T180.heap = T180.heap := rfl
            refine Goes.tr st180 ?_
            show Goes p e below KK T180 (mkF m 125 #[.val (.int p1), .val (.int p2), .val (.int p3), .val (.int p4), .val (.ref a173), .val (.int mu), .val (.int po), .val (.int dr), .val (.int fi), .val (.int nn), .val (.ref r176), .val (.int (1 : Int32))] [(.int (nmV (mkL XR kn mu po dr fi)))])
            refine Goes.of (fun t => XS.iload Y180.here hx rfl (hb hby at_125) rfl) ?_
            show Goes p e below KK T180 (mkF m 127 #[.val (.int p1), .val (.int p2), .val (.int p3), .val (.int p4), .val (.ref a173), .val (.int mu), .val (.int po), .val (.int dr), .val (.int fi), .val (.int nn), .val (.ref r176), .val (.int (1 : Int32))] [(.int (1 : Int32)), (.int (nmV (mkL XR kn mu po dr fi)))])
            refine Goes.of (fun t => XS.icmpNo Y180.here hx rfl (hb hby at_127) rfl (teq (show (nmV (mkL XR kn mu po dr fi)) = (1 : Int32) from own_v1 (Or.inr (own_eq own_ascR (show kn = 11 by have q2 := congrArg Int32.toInt hc86_2; have z : (11 : Int32).toInt = 11 := rfl; omega) (fun i q1 q2 q3 => by rw [show i = po.toInt.toNat by omega, hc110_2]; exact hy))))).2) ?_
            show Goes p e below KK T180 (mkF m 130 #[.val (.int p1), .val (.int p2), .val (.int p3), .val (.int p4), .val (.ref a173), .val (.int mu), .val (.int po), .val (.int dr), .val (.int fi), .val (.int nn), .val (.ref r176), .val (.int (1 : Int32))] [])
            refine Goes.of (fun t => XS.iconst Y180.here hx rfl (hb hby at_130)) ?_
            show Goes p e below KK T180 (mkF m 131 #[.val (.int p1), .val (.int p2), .val (.int p3), .val (.int p4), .val (.ref a173), .val (.int mu), .val (.int po), .val (.int dr), .val (.int fi), .val (.int nn), .val (.ref r176), .val (.int (1 : Int32))] [(.int (1 : Int32))])
            refine Goes.of (fun t => XS.goto Y180.here hx rfl (pc0 := 131) (pc' := 135) rfl (hb hby at_131) (by decide) (by decide)) ?_
            show Goes p e below KK T180 (mkF m 135 #[.val (.int p1), .val (.int p2), .val (.int p3), .val (.int p4), .val (.ref a173), .val (.int mu), .val (.int po), .val (.int dr), .val (.int fi), .val (.int nn), .val (.ref r176), .val (.int (1 : Int32))] [(.int (1 : Int32))])
            rw [← hKK]
            refine Goes.retNarW Y180 HS180 (by rw [e180]; exact HK180) hx hlk (t := .boolean) (by simp) Bd.returns (hb hby at_135) ?_ (by decide) (by decide)
            rw [e180]
            exact ⟨rfl, N180⟩
          · refine Goes.of (fun t => XS.icmpYes X179.here hx rfl (pc0 := 110) (pc' := 117) rfl (hb hby at_110) rfl (feq hc110_2).2 (by decide) (by decide)) ?_
            show Goes p e below KK T179 (mkF m 117 #[.val (.int p1), .val (.int p2), .val (.int p3), .val (.int p4), .val (.ref a173), .val (.int mu), .val (.int po), .val (.int dr), .val (.int fi), .val (.int nn), .val (.ref r176), .unset] [])
            refine Goes.of (fun t => XS.iconst X179.here hx rfl (hb hby at_117)) ?_
            show Goes p e below KK T179 (mkF m 118 #[.val (.int p1), .val (.int p2), .val (.int p3), .val (.int p4), .val (.ref a173), .val (.int mu), .val (.int po), .val (.int dr), .val (.int fi), .val (.int nn), .val (.ref r176), .unset] [(.int (0 : Int32))])
            refine Goes.of (fun t => XS.istore X179.here hx rfl (hb hby at_118) rfl (l' := #[.val (.int p1), .val (.int p2), .val (.int p3), .val (.int p4), .val (.ref a173), .val (.int mu), .val (.int po), .val (.int dr), .val (.int fi), .val (.int nn), .val (.ref r176), .val (.int (0 : Int32))]) rfl) ?_
            show Goes p e below KK T179 (mkF m 120 #[.val (.int p1), .val (.int p2), .val (.int p3), .val (.int p4), .val (.ref a173), .val (.int mu), .val (.int po), .val (.int dr), .val (.int fi), .val (.int nn), .val (.ref r176), .val (.int (0 : Int32))] [])
            refine Goes.of (fun t => XS.aload X179.here hx rfl (hb hby at_120) rfl rfl) ?_
            show Goes p e below KK T179 (mkF m 122 #[.val (.int p1), .val (.int p2), .val (.int p3), .val (.int p4), .val (.ref a173), .val (.int mu), .val (.int po), .val (.int dr), .val (.int fi), .val (.int nn), .val (.ref r176), .val (.int (0 : Int32))] [(.ref r176)])
            obtain ⟨_, _, ⟨T181, L181, k181, n181⟩, -, X181, hSi181, hge181, ⟨Lc181, hQ181, l181, y181, z181, cr181⟩, st181⟩ := callSS X179 hx (y := (⟨"com/example/warrant/warrant/cli/PolicyFiles", "names", "(Ljava/lang/String;)Z"⟩ : MethodName)) hown176 (mvT hZ176 w_76) (mvT hZ176 w_77) (mvT hZ176 w_78) (mvT hZ176 w_79) (by decide) (backOfSH (W := 0) (rm17 l Z a0 hw [] r176 t176 (mkL XR kn mu po dr fi) nn cz T176.heap n0 Z176 E176 Fc176 Fv176 V176 (by rw [mkL_len]; exact hkn) (by rw [mkL_len]; omega) Scs_173_176 hcz) hZ176 w_79 w_78 (by decide) (by decide) hEL CR176.1) (g := (mkF m 122 #[.val (.int p1), .val (.int p2), .val (.int p3), .val (.int p4), .val (.ref a173), .val (.int mu), .val (.int po), .val (.int dr), .val (.int fi), .val (.int nn), .val (.ref r176), .val (.int (0 : Int32))] [(.ref r176)])) rfl (by rw [hml]; rfl) (argsL := [(.ref r176)]) (rest := []) (lenOf pd_36 rfl) rfl (by show 2 * 0 + _ ≤ _; exact Nat.le_of_eq rfl) (hb hby at_122) (fun _ _ => ⟨rfl, e179, (by decide : 8 + 4 ≤ _), (by decide : 76 + 84 ≤ _)⟩)
            dsimp only [Pt.U, Pt.locs, Pt.cells, Pt.slots] at X181 l181 y181 z181 st181 hQ181 hSi181 hge181 cr181
            subst y181 z181
            obtain ⟨Y181, HS181, hZ181, hown181⟩ := rebS HS176 (by rw [e179]; exact HK176) X181 hSi181 hge181 hZ176 hown176
            have HK181 := Nat.le_refl T181.heap.size
            have CR181 := CR176.trans cr181
            obtain ⟨rfl, N181q, Kc181⟩ := hQ181
            have N181 : Fr n0 L181 := by rw [l181]; exact Fr.app N179 N181q
            have Scs_173_176_181 : Sta Z T181.heap "java/lang/String" "COMPACT_STRINGS" "Z" (.int cz) := own_staK Scs_173_176 Kc181 ns0
            have Sf_173_176_181 : Sta Z T181.heap "jdk/internal/util/Preconditions" "SIOOBE_FORMATTER" "Ljava/util/function/BiFunction;" fm := own_staK Sf_173_176 Kc181 ns0
            have Ex173_176_181 : Exa Z T181.heap a173 "java/lang/String" := Ex173_176.keep Kc181
            have Fc173_176_181 : Fld Z T181.heap a173 "java/lang/String" "coder" "B" (.int (0 : Int32)) := Fc173_176.keep Kc181 nin0
            have Fv173_176_181 : Fld Z T181.heap a173 "java/lang/String" "value" "[B" (.ref b173) := Fv173_176.keep Kc181 nin0
            have V173_176_181 : AI Z T181.heap b173 .byte [45, 45, 114, 101, 102, 101, 114, 101, 110, 99, 101] := V173_176.keep Kc181 nin0
            have E176_181 : Exa Z T181.heap r176 "java/lang/String" := E176.keep Kc181
            have Fc176_181 : Fld Z T181.heap r176 "java/lang/String" "coder" "B" (.int (0 : Int32)) := Fc176.keep Kc181 nin0
            have Fv176_181 : Fld Z T181.heap r176 "java/lang/String" "value" "[B" (.ref t176) := Fv176.keep Kc181 nin0
            have V176_181 : AI Z T181.heap t176 .byte (mkL XR kn mu po dr fi) := V176.keep Kc181 nin0
            have K181 : Keep h0 T181.heap [] := K176.trans Kc181 all0
            have Z181 : n0 ≤ T181.heap.size := Nat.le_trans Z176 Kc181.1
            have e181 : T181.heap = T181.heap := rfl
            refine Goes.tr st181 ?_
            show Goes p e below KK T181 (mkF m 125 #[.val (.int p1), .val (.int p2), .val (.int p3), .val (.int p4), .val (.ref a173), .val (.int mu), .val (.int po), .val (.int dr), .val (.int fi), .val (.int nn), .val (.ref r176), .val (.int (0 : Int32))] [(.int (nmV (mkL XR kn mu po dr fi)))])
            refine Goes.of (fun t => XS.iload Y181.here hx rfl (hb hby at_125) rfl) ?_
            show Goes p e below KK T181 (mkF m 127 #[.val (.int p1), .val (.int p2), .val (.int p3), .val (.int p4), .val (.ref a173), .val (.int mu), .val (.int po), .val (.int dr), .val (.int fi), .val (.int nn), .val (.ref r176), .val (.int (0 : Int32))] [(.int (0 : Int32)), (.int (nmV (mkL XR kn mu po dr fi)))])
            refine Goes.of (fun t => XS.icmpNo Y181.here hx rfl (hb hby at_127) rfl (teq (show (nmV (mkL XR kn mu po dr fi)) = (0 : Int32) from own_v0 own_farR (own_ne own_ascR hc91_2 (i := po.toInt.toNat) (by omega) (by have q2 := congrArg Int32.toInt hc86_2; have z : (11 : Int32).toInt = 11 := rfl; omega) hy hc110_2 hd))).2) ?_
            show Goes p e below KK T181 (mkF m 130 #[.val (.int p1), .val (.int p2), .val (.int p3), .val (.int p4), .val (.ref a173), .val (.int mu), .val (.int po), .val (.int dr), .val (.int fi), .val (.int nn), .val (.ref r176), .val (.int (0 : Int32))] [])
            refine Goes.of (fun t => XS.iconst Y181.here hx rfl (hb hby at_130)) ?_
            show Goes p e below KK T181 (mkF m 131 #[.val (.int p1), .val (.int p2), .val (.int p3), .val (.int p4), .val (.ref a173), .val (.int mu), .val (.int po), .val (.int dr), .val (.int fi), .val (.int nn), .val (.ref r176), .val (.int (0 : Int32))] [(.int (1 : Int32))])
            refine Goes.of (fun t => XS.goto Y181.here hx rfl (pc0 := 131) (pc' := 135) rfl (hb hby at_131) (by decide) (by decide)) ?_
            show Goes p e below KK T181 (mkF m 135 #[.val (.int p1), .val (.int p2), .val (.int p3), .val (.int p4), .val (.ref a173), .val (.int mu), .val (.int po), .val (.int dr), .val (.int fi), .val (.int nn), .val (.ref r176), .val (.int (0 : Int32))] [(.int (1 : Int32))])
            rw [← hKK]
            refine Goes.retNarW Y181 HS181 (by rw [e181]; exact HK181) hx hlk (t := .boolean) (by simp) Bd.returns (hb hby at_135) ?_ (by decide) (by decide)
            rw [e181]
            exact ⟨rfl, N181⟩
        · refine Goes.of (fun t => XS.icmpYes X177.here hx rfl (pc0 := 98) (pc' := 113) rfl (hb hby at_98) rfl (flt hc98_2).2.1 (by decide) (by decide)) ?_
          show Goes p e below KK T177 (mkF m 113 #[.val (.int p1), .val (.int p2), .val (.int p3), .val (.int p4), .val (.ref a173), .val (.int mu), .val (.int po), .val (.int dr), .val (.int fi), .val (.int nn), .val (.ref r176), .unset] [])
          refine Goes.of (fun t => XS.iconst X177.here hx rfl (hb hby at_113)) ?_
          show Goes p e below KK T177 (mkF m 114 #[.val (.int p1), .val (.int p2), .val (.int p3), .val (.int p4), .val (.ref a173), .val (.int mu), .val (.int po), .val (.int dr), .val (.int fi), .val (.int nn), .val (.ref r176), .unset] [(.int (1 : Int32))])
          refine Goes.of (fun t => XS.goto X177.here hx rfl (pc0 := 114) (pc' := 118) rfl (hb hby at_114) (by decide) (by decide)) ?_
          show Goes p e below KK T177 (mkF m 118 #[.val (.int p1), .val (.int p2), .val (.int p3), .val (.int p4), .val (.ref a173), .val (.int mu), .val (.int po), .val (.int dr), .val (.int fi), .val (.int nn), .val (.ref r176), .unset] [(.int (1 : Int32))])
          refine Goes.of (fun t => XS.istore X177.here hx rfl (hb hby at_118) rfl (l' := #[.val (.int p1), .val (.int p2), .val (.int p3), .val (.int p4), .val (.ref a173), .val (.int mu), .val (.int po), .val (.int dr), .val (.int fi), .val (.int nn), .val (.ref r176), .val (.int (1 : Int32))]) rfl) ?_
          show Goes p e below KK T177 (mkF m 120 #[.val (.int p1), .val (.int p2), .val (.int p3), .val (.int p4), .val (.ref a173), .val (.int mu), .val (.int po), .val (.int dr), .val (.int fi), .val (.int nn), .val (.ref r176), .val (.int (1 : Int32))] [])
          refine Goes.of (fun t => XS.aload X177.here hx rfl (hb hby at_120) rfl rfl) ?_
          show Goes p e below KK T177 (mkF m 122 #[.val (.int p1), .val (.int p2), .val (.int p3), .val (.int p4), .val (.ref a173), .val (.int mu), .val (.int po), .val (.int dr), .val (.int fi), .val (.int nn), .val (.ref r176), .val (.int (1 : Int32))] [(.ref r176)])
          obtain ⟨_, _, ⟨T182, L182, k182, n182⟩, -, X182, hSi182, hge182, ⟨Lc182, hQ182, l182, y182, z182, cr182⟩, st182⟩ := callSS X177 hx (y := (⟨"com/example/warrant/warrant/cli/PolicyFiles", "names", "(Ljava/lang/String;)Z"⟩ : MethodName)) hown176 (mvT hZ176 w_76) (mvT hZ176 w_77) (mvT hZ176 w_78) (mvT hZ176 w_79) (by decide) (backOfSH (W := 0) (rm17 l Z a0 hw [] r176 t176 (mkL XR kn mu po dr fi) nn cz T176.heap n0 Z176 E176 Fc176 Fv176 V176 (by rw [mkL_len]; exact hkn) (by rw [mkL_len]; omega) Scs_173_176 hcz) hZ176 w_79 w_78 (by decide) (by decide) hEL CR176.1) (g := (mkF m 122 #[.val (.int p1), .val (.int p2), .val (.int p3), .val (.int p4), .val (.ref a173), .val (.int mu), .val (.int po), .val (.int dr), .val (.int fi), .val (.int nn), .val (.ref r176), .val (.int (1 : Int32))] [(.ref r176)])) rfl (by rw [hml]; rfl) (argsL := [(.ref r176)]) (rest := []) (lenOf pd_36 rfl) rfl (by show 2 * 0 + _ ≤ _; exact Nat.le_of_eq rfl) (hb hby at_122) (fun _ _ => ⟨rfl, e177, (by decide : 8 + 4 ≤ _), (by decide : 76 + 84 ≤ _)⟩)
          dsimp only [Pt.U, Pt.locs, Pt.cells, Pt.slots] at X182 l182 y182 z182 st182 hQ182 hSi182 hge182 cr182
          subst y182 z182
          obtain ⟨Y182, HS182, hZ182, hown182⟩ := rebS HS176 (by rw [e177]; exact HK176) X182 hSi182 hge182 hZ176 hown176
          have HK182 := Nat.le_refl T182.heap.size
          have CR182 := CR176.trans cr182
          obtain ⟨rfl, N182q, Kc182⟩ := hQ182
          have N182 : Fr n0 L182 := by rw [l182]; exact Fr.app N177 N182q
          have Scs_173_176_182 : Sta Z T182.heap "java/lang/String" "COMPACT_STRINGS" "Z" (.int cz) := own_staK Scs_173_176 Kc182 ns0
          have Sf_173_176_182 : Sta Z T182.heap "jdk/internal/util/Preconditions" "SIOOBE_FORMATTER" "Ljava/util/function/BiFunction;" fm := own_staK Sf_173_176 Kc182 ns0
          have Ex173_176_182 : Exa Z T182.heap a173 "java/lang/String" := Ex173_176.keep Kc182
          have Fc173_176_182 : Fld Z T182.heap a173 "java/lang/String" "coder" "B" (.int (0 : Int32)) := Fc173_176.keep Kc182 nin0
          have Fv173_176_182 : Fld Z T182.heap a173 "java/lang/String" "value" "[B" (.ref b173) := Fv173_176.keep Kc182 nin0
          have V173_176_182 : AI Z T182.heap b173 .byte [45, 45, 114, 101, 102, 101, 114, 101, 110, 99, 101] := V173_176.keep Kc182 nin0
          have E176_182 : Exa Z T182.heap r176 "java/lang/String" := E176.keep Kc182
          have Fc176_182 : Fld Z T182.heap r176 "java/lang/String" "coder" "B" (.int (0 : Int32)) := Fc176.keep Kc182 nin0
          have Fv176_182 : Fld Z T182.heap r176 "java/lang/String" "value" "[B" (.ref t176) := Fv176.keep Kc182 nin0
          have V176_182 : AI Z T182.heap t176 .byte (mkL XR kn mu po dr fi) := V176.keep Kc182 nin0
          have K182 : Keep h0 T182.heap [] := K176.trans Kc182 all0
          have Z182 : n0 ≤ T182.heap.size := Nat.le_trans Z176 Kc182.1
          have e182 : T182.heap = T182.heap := rfl
          refine Goes.tr st182 ?_
          show Goes p e below KK T182 (mkF m 125 #[.val (.int p1), .val (.int p2), .val (.int p3), .val (.int p4), .val (.ref a173), .val (.int mu), .val (.int po), .val (.int dr), .val (.int fi), .val (.int nn), .val (.ref r176), .val (.int (1 : Int32))] [(.int (nmV (mkL XR kn mu po dr fi)))])
          refine Goes.of (fun t => XS.iload Y182.here hx rfl (hb hby at_125) rfl) ?_
          show Goes p e below KK T182 (mkF m 127 #[.val (.int p1), .val (.int p2), .val (.int p3), .val (.int p4), .val (.ref a173), .val (.int mu), .val (.int po), .val (.int dr), .val (.int fi), .val (.int nn), .val (.ref r176), .val (.int (1 : Int32))] [(.int (1 : Int32)), (.int (nmV (mkL XR kn mu po dr fi)))])
          refine Goes.of (fun t => XS.icmpNo Y182.here hx rfl (hb hby at_127) rfl (teq (show (nmV (mkL XR kn mu po dr fi)) = (1 : Int32) from own_v1 (Or.inr (own_eq own_ascR (show kn = 11 by have q2 := congrArg Int32.toInt hc86_2; have z : (11 : Int32).toInt = 11 := rfl; omega) (fun i q1 q2 q3 => absurd (show po < nn by rw [Int32.lt_iff_toInt_lt]; omega) hc98_2))))).2) ?_
          show Goes p e below KK T182 (mkF m 130 #[.val (.int p1), .val (.int p2), .val (.int p3), .val (.int p4), .val (.ref a173), .val (.int mu), .val (.int po), .val (.int dr), .val (.int fi), .val (.int nn), .val (.ref r176), .val (.int (1 : Int32))] [])
          refine Goes.of (fun t => XS.iconst Y182.here hx rfl (hb hby at_130)) ?_
          show Goes p e below KK T182 (mkF m 131 #[.val (.int p1), .val (.int p2), .val (.int p3), .val (.int p4), .val (.ref a173), .val (.int mu), .val (.int po), .val (.int dr), .val (.int fi), .val (.int nn), .val (.ref r176), .val (.int (1 : Int32))] [(.int (1 : Int32))])
          refine Goes.of (fun t => XS.goto Y182.here hx rfl (pc0 := 131) (pc' := 135) rfl (hb hby at_131) (by decide) (by decide)) ?_
          show Goes p e below KK T182 (mkF m 135 #[.val (.int p1), .val (.int p2), .val (.int p3), .val (.int p4), .val (.ref a173), .val (.int mu), .val (.int po), .val (.int dr), .val (.int fi), .val (.int nn), .val (.ref r176), .val (.int (1 : Int32))] [(.int (1 : Int32))])
          rw [← hKK]
          refine Goes.retNarW Y182 HS182 (by rw [e182]; exact HK182) hx hlk (t := .boolean) (by simp) Bd.returns (hb hby at_135) ?_ (by decide) (by decide)
          rw [e182]
          exact ⟨rfl, N182⟩
    · refine Goes.of (fun t => XS.icmpYes X177.here hx rfl (pc0 := 86) (pc' := 117) rfl (hb hby at_86) rfl (feq hc86_2).2 (by decide) (by decide)) ?_
      show Goes p e below KK T177 (mkF m 117 #[.val (.int p1), .val (.int p2), .val (.int p3), .val (.int p4), .val (.ref a173), .val (.int mu), .val (.int po), .val (.int dr), .val (.int fi), .val (.int nn), .val (.ref r176), .unset] [])
      refine Goes.of (fun t => XS.iconst X177.here hx rfl (hb hby at_117)) ?_
      show Goes p e below KK T177 (mkF m 118 #[.val (.int p1), .val (.int p2), .val (.int p3), .val (.int p4), .val (.ref a173), .val (.int mu), .val (.int po), .val (.int dr), .val (.int fi), .val (.int nn), .val (.ref r176), .unset] [(.int (0 : Int32))])
      refine Goes.of (fun t => XS.istore X177.here hx rfl (hb hby at_118) rfl (l' := #[.val (.int p1), .val (.int p2), .val (.int p3), .val (.int p4), .val (.ref a173), .val (.int mu), .val (.int po), .val (.int dr), .val (.int fi), .val (.int nn), .val (.ref r176), .val (.int (0 : Int32))]) rfl) ?_
      show Goes p e below KK T177 (mkF m 120 #[.val (.int p1), .val (.int p2), .val (.int p3), .val (.int p4), .val (.ref a173), .val (.int mu), .val (.int po), .val (.int dr), .val (.int fi), .val (.int nn), .val (.ref r176), .val (.int (0 : Int32))] [])
      refine Goes.of (fun t => XS.aload X177.here hx rfl (hb hby at_120) rfl rfl) ?_
      show Goes p e below KK T177 (mkF m 122 #[.val (.int p1), .val (.int p2), .val (.int p3), .val (.int p4), .val (.ref a173), .val (.int mu), .val (.int po), .val (.int dr), .val (.int fi), .val (.int nn), .val (.ref r176), .val (.int (0 : Int32))] [(.ref r176)])
      obtain ⟨_, _, ⟨T183, L183, k183, n183⟩, -, X183, hSi183, hge183, ⟨Lc183, hQ183, l183, y183, z183, cr183⟩, st183⟩ := callSS X177 hx (y := (⟨"com/example/warrant/warrant/cli/PolicyFiles", "names", "(Ljava/lang/String;)Z"⟩ : MethodName)) hown176 (mvT hZ176 w_76) (mvT hZ176 w_77) (mvT hZ176 w_78) (mvT hZ176 w_79) (by decide) (backOfSH (W := 0) (rm17 l Z a0 hw [] r176 t176 (mkL XR kn mu po dr fi) nn cz T176.heap n0 Z176 E176 Fc176 Fv176 V176 (by rw [mkL_len]; exact hkn) (by rw [mkL_len]; omega) Scs_173_176 hcz) hZ176 w_79 w_78 (by decide) (by decide) hEL CR176.1) (g := (mkF m 122 #[.val (.int p1), .val (.int p2), .val (.int p3), .val (.int p4), .val (.ref a173), .val (.int mu), .val (.int po), .val (.int dr), .val (.int fi), .val (.int nn), .val (.ref r176), .val (.int (0 : Int32))] [(.ref r176)])) rfl (by rw [hml]; rfl) (argsL := [(.ref r176)]) (rest := []) (lenOf pd_36 rfl) rfl (by show 2 * 0 + _ ≤ _; exact Nat.le_of_eq rfl) (hb hby at_122) (fun _ _ => ⟨rfl, e177, (by decide : 8 + 4 ≤ _), (by decide : 76 + 84 ≤ _)⟩)
      dsimp only [Pt.U, Pt.locs, Pt.cells, Pt.slots] at X183 l183 y183 z183 st183 hQ183 hSi183 hge183 cr183
      subst y183 z183
      obtain ⟨Y183, HS183, hZ183, hown183⟩ := rebS HS176 (by rw [e177]; exact HK176) X183 hSi183 hge183 hZ176 hown176
      have HK183 := Nat.le_refl T183.heap.size
      have CR183 := CR176.trans cr183
      obtain ⟨rfl, N183q, Kc183⟩ := hQ183
      have N183 : Fr n0 L183 := by rw [l183]; exact Fr.app N177 N183q
      have Scs_173_176_183 : Sta Z T183.heap "java/lang/String" "COMPACT_STRINGS" "Z" (.int cz) := own_staK Scs_173_176 Kc183 ns0
      have Sf_173_176_183 : Sta Z T183.heap "jdk/internal/util/Preconditions" "SIOOBE_FORMATTER" "Ljava/util/function/BiFunction;" fm := own_staK Sf_173_176 Kc183 ns0
      have Ex173_176_183 : Exa Z T183.heap a173 "java/lang/String" := Ex173_176.keep Kc183
      have Fc173_176_183 : Fld Z T183.heap a173 "java/lang/String" "coder" "B" (.int (0 : Int32)) := Fc173_176.keep Kc183 nin0
      have Fv173_176_183 : Fld Z T183.heap a173 "java/lang/String" "value" "[B" (.ref b173) := Fv173_176.keep Kc183 nin0
      have V173_176_183 : AI Z T183.heap b173 .byte [45, 45, 114, 101, 102, 101, 114, 101, 110, 99, 101] := V173_176.keep Kc183 nin0
      have E176_183 : Exa Z T183.heap r176 "java/lang/String" := E176.keep Kc183
      have Fc176_183 : Fld Z T183.heap r176 "java/lang/String" "coder" "B" (.int (0 : Int32)) := Fc176.keep Kc183 nin0
      have Fv176_183 : Fld Z T183.heap r176 "java/lang/String" "value" "[B" (.ref t176) := Fv176.keep Kc183 nin0
      have V176_183 : AI Z T183.heap t176 .byte (mkL XR kn mu po dr fi) := V176.keep Kc183 nin0
      have K183 : Keep h0 T183.heap [] := K176.trans Kc183 all0
      have Z183 : n0 ≤ T183.heap.size := Nat.le_trans Z176 Kc183.1
      have e183 : T183.heap = T183.heap := rfl
      refine Goes.tr st183 ?_
      show Goes p e below KK T183 (mkF m 125 #[.val (.int p1), .val (.int p2), .val (.int p3), .val (.int p4), .val (.ref a173), .val (.int mu), .val (.int po), .val (.int dr), .val (.int fi), .val (.int nn), .val (.ref r176), .val (.int (0 : Int32))] [(.int (nmV (mkL XR kn mu po dr fi)))])
      refine Goes.of (fun t => XS.iload Y183.here hx rfl (hb hby at_125) rfl) ?_
      show Goes p e below KK T183 (mkF m 127 #[.val (.int p1), .val (.int p2), .val (.int p3), .val (.int p4), .val (.ref a173), .val (.int mu), .val (.int po), .val (.int dr), .val (.int fi), .val (.int nn), .val (.ref r176), .val (.int (0 : Int32))] [(.int (0 : Int32)), (.int (nmV (mkL XR kn mu po dr fi)))])
      refine Goes.of (fun t => XS.icmpNo Y183.here hx rfl (hb hby at_127) rfl (teq (show (nmV (mkL XR kn mu po dr fi)) = (0 : Int32) from own_v0 own_farR (fun q => hc86_2 (Int32.toInt_inj.mp (by have z : (11 : Int32).toInt = 11 := rfl; have q2 := congrArg List.length q; rw [mkL_len] at q2; have q3 : kn = 11 := q2; omega))))).2) ?_
      show Goes p e below KK T183 (mkF m 130 #[.val (.int p1), .val (.int p2), .val (.int p3), .val (.int p4), .val (.ref a173), .val (.int mu), .val (.int po), .val (.int dr), .val (.int fi), .val (.int nn), .val (.ref r176), .val (.int (0 : Int32))] [])
      refine Goes.of (fun t => XS.iconst Y183.here hx rfl (hb hby at_130)) ?_
      show Goes p e below KK T183 (mkF m 131 #[.val (.int p1), .val (.int p2), .val (.int p3), .val (.int p4), .val (.ref a173), .val (.int mu), .val (.int po), .val (.int dr), .val (.int fi), .val (.int nn), .val (.ref r176), .val (.int (0 : Int32))] [(.int (1 : Int32))])
      refine Goes.of (fun t => XS.goto Y183.here hx rfl (pc0 := 131) (pc' := 135) rfl (hb hby at_131) (by decide) (by decide)) ?_
      show Goes p e below KK T183 (mkF m 135 #[.val (.int p1), .val (.int p2), .val (.int p3), .val (.int p4), .val (.ref a173), .val (.int mu), .val (.int po), .val (.int dr), .val (.int fi), .val (.int nn), .val (.ref r176), .val (.int (0 : Int32))] [(.int (1 : Int32))])
      rw [← hKK]
      refine Goes.retNarW Y183 HS183 (by rw [e183]; exact HK183) hx hlk (t := .boolean) (by simp) Bd.returns (hb hby at_135) ?_ (by decide) (by decide)
      rw [e183]
      exact ⟨rfl, N183⟩
set_option maxRecDepth 65536 in
set_option maxHeartbeats 40000000 in
theorem comes_1 {Post : Tables → Env → Array Value → State → Outcome → State → Prop} (hpost : ∀ tb e args s v u, (limb_1_1.after args s (.returned v) u = true ∧ limb_1_2.after args s (.returned v) u = true ∧ True) → ReturnedEndW s (.returned v) u (Jvm.fieldLocs frame_1_writes args s ++ Jvm.arrayLocs frame_1_arrays args s ++ Jvm.staticLocs frame_1_statics s) 24 5312 → Post tb e args s (.returned v) u) :
    ArmFor flags0 classFile x code maxLocals ret World_1 tables_1 room_1 Calls_1 rest_1 Pre_1 Post := by
  intro l hfl _ _ p e ha hc hk s m args below hf hA hF happ hP
  obtain ⟨hcalls, hrest, hpre⟩ := hP
  obtain ⟨-, -, -, hnamed, -, -, -, hat⟩ := (Spec.applies_iff hf).mp happ
  obtain ⟨hg, hn⟩ := and_e (Cond.before_iff.mp (show (Jvm.Cond.and given_1 narrow_1).before args s = true from hpre))
  obtain ⟨hgc, hr0⟩ := and_e hg
  obtain ⟨hg0, hr1⟩ := and_e hr0
  obtain ⟨hg1, hr2⟩ := and_e hr1
  obtain ⟨hg2, hr3⟩ := and_e hr2
  have hg3 := hr3
  obtain ⟨w0, w1, w2, w3, rfl⟩ : ∃ w0 w1 w2 w3 : Value, args = #[w0, w1, w2, w3] := by
    have hs : args.size = 4 := by simpa [Cond.value, given_1] using hgc
    obtain ⟨L⟩ := args
    match L, hs with
    | [w0, w1, w2, w3], _ => exact ⟨w0, w1, w2, w3, rfl⟩
  have hw := fun d (hd : d ∈ tables_1) => atoms_spec (ws := Jvm.Cond.code x code maxLocals ret :: tables_1) hat d (List.mem_cons_of_mem _ hd)
  have hfit : Fit s := fun {y c} hc i hi => by
    obtain ⟨ha, rfl⟩ := Array.getElem?_eq_some_iff.mp hc
    have q := List.all_eq_true.mp ((Array.all_eq_true_iff_forall_mem.mp hF) _ (Array.getElem_mem ha)) i (List.mem_range.mpr hi)
    simpa [Array.getElem?_eq_getElem hi] using q
  obtain ⟨hsets, hown0⟩ := atoms_of _ (rest_1_c_eq ▸ (show rest_1_c.before _ s = true from hrest))
  have hr0 := Cond.before_iff.mp hown0
  obtain ⟨i0, ei0⟩ := is_v hg0
  obtain rfl : w0 = (.int i0) := Option.some.inj ei0
  obtain ⟨i1, ei1⟩ := is_v hg1
  obtain rfl : w1 = (.int i1) := Option.some.inj ei1
  obtain ⟨i2, ei2⟩ := is_v hg2
  obtain rfl : w2 = (.int i2) := Option.some.inj ei2
  obtain ⟨i3, ei3⟩ := is_v hg3
  obtain rfl : w3 = (.int i3) := Option.some.inj ei3
  obtain ⟨cz, vcz⟩ := is_v (Cond.before_iff.mp (hsets _ (List.mem_of_getElem? (i := 1) rfl)))
  have Scs := Sta.start vcz (Or.inl (hsets _ (List.mem_of_getElem? (i := 0) rfl)))
  have hcw := hsets _ (List.mem_of_getElem? (i := 2) rfl)
  have hcz : ¬ cz = 0 := fun q => by
      have z := not_v (Cond.before_iff.mp hcw)
      rw [eq_i vcz (Term.int_eval _) (by rw [q])] at z
      exact absurd z (by decide)
  obtain ⟨fm, vfm, hfm⟩ := isR_v (Cond.before_iff.mp (hsets _ (List.mem_of_getElem? (i := 8) rfl)))
  have Sf := Sta.start vfm (Or.inl (hsets _ (List.mem_of_getElem? (i := 7) rfl)))
  have hch : CHv s EL0 s.vm s.heap := CHv.start (own_EW hw) (fun p hp => hcalls.1 p hp) hcw (hw _ (List.mem_of_getElem? (i := 3) rfl)) (hw _ (List.mem_of_getElem? (i := 2) rfl))
  obtain ⟨n, o, h1, h2, h3, _, L, rfl, ⟨rfl, N⟩, hq⟩ := rm0 l s _ hw tables_1 i0 i1 i2 i3 cz fm s.heap s.heap.size (Nat.le_refl _) rfl rfl Scs hcz Sf hfm hch p e ha hc hk s m _ below hf ((Spec.applies_iff_loose hf).mp happ).1 ⟨rfl, rfl⟩ trivial
  refine ⟨n, _, h1, h2, h3, hpost _ _ _ _ _ _ ⟨Cond.after_iff.mpr rfl, Cond.after_iff.mpr (eq_i res_at (Term.int_eval (1)) rfl), trivial⟩ ⟨hq.1, hq.2.1, hq.2.2.1, (hq.2.2.2.sift fun y hy => Or.inr (N y hy)).mono (by decide) (by decide)⟩⟩
theorem main_1_1 : Claimed_1_1 := comes_1 fun _ _ _ _ _ _ h hF => ⟨h.1, hF⟩
theorem main_1_2 : Claimed_1_2 := comes_1 fun _ _ _ _ _ _ h hF => ⟨h.2.1, hF⟩
end Jvm.Pilot.@@N@@
namespace Jvm.Pilot.@@N@@
open Jvm Jvm.ClassFile Sem Op Lib Jvm.Free Jvm.Stand Jvm.Pilot.@@N@@.Jvm.D
/-! MADE BY PROGRAM (witnessworld.py) out of the Statement's table words and the real class files: 20 classes; the members and pool entries that the words name. The judged class is class 1, her method 4. -/
namespace start1
open Jvm.ClassFile
def u (s : String) : CpInfo := .utf8 (stringToUtf16 s)
/-- a pool by its gaps: so many unusable entries, then the entry; so many at the end -/
def gap : Nat → List CpInfo → List CpInfo
  | 0, r => r
  | n + 1, r => .unusable :: gap n r
def poolList (es : List (Nat × CpInfo)) (last : Nat) : List CpInfo := es.foldr (fun e r => gap e.1 (e.2 :: r)) (gap last [])
def pool (es : List (Nat × CpInfo)) (last : Nat) : Array CpInfo := ⟨poolList es last⟩
def fileOf (pool : Array CpInfo) (this : Nat) (attrs : Array Attribute := #[]) (ms : Array MethodInfo := #[]) (fl : Nat := 33) (sup : Nat := 0) (ifs : Array Nat := #[]) (fds : Array FieldInfo := #[]) : ClassFile where
  minorVersion := 0
  majorVersion := 65
  constantPool := pool
  accessFlags := fl
  thisClass := this
  superClass := sup
  interfaces := ifs
  fields := fds
  methods := ms
  attributes := attrs
def plain (name : String) (sup : Option ClassId) : Class where
  name := name
  kind := .ordinary
  loader := none
  accessFlags := 33
  super := sup
  interfaces := #[]
  cf := none
  fields := #[]
  methods := #[]
  instanceTypes := #[]
  staticTypes := #[]
  resolved := #[]
  callSites := []
  init := .initialized
  statics := none
  mirror := none

def pool0 : Array CpInfo := pool [(5, u "<init>"), (0, u "()V"), (1, .class_ 10), (1, u "java/lang/Object")] 113

def k0c0 : Code := { maxStack := 0, maxLocals := 1, code := object_method_1_code, exceptionTable := #[], attributes := #[] }
def k0m0 : Method := { name := "<init>", desc := "()V", sig := { parameters := [], returnType := none }, accessFlags := 1, code := some k0c0 }
/-- java/lang/Object -/
def k0 : Class := { plain "java/lang/Object" none with
  accessFlags := 33
  interfaces := #[]
  cf := some (fileOf pool0 8 #[] #[{ accessFlags := 1, nameIndex := 5, descriptorIndex := 6, attributes := #[] }] 33 0 #[] #[])
  fields := #[]
  methods := #[k0m0]
  instanceTypes := #[]
  staticTypes := #[]
  resolved := Array.replicate 124 none
  statics := none }

def pool1 : Array CpInfo := pool [(2, .class_ 4), (1, u "java/lang/Object"), (0, u "<init>"), (0, u "()V"), (0, .methodref 8 9), (0, .class_ 10), (0, .nameAndType 11 12), (0, u "java/lang/String"), (0, u "length"), (0, u "()I"), (0, .methodref 8 14), (0, .nameAndType 15 16), (0, u "charAt"), (0, u "(I)C"), (0, .integer 2147483647), (0, .methodref 19 20), (0, .class_ 21), (0, .nameAndType 22 23), (0, u "com/example/warrant/warrant/cli/PolicyFilesNamesPinLaw"), (0, u "at"), (0, u "(ILjava/lang/String;ZICC)C"), (0, .methodref 8 25), (0, .nameAndType 5 26), (0, u "([C)V"), (0, .string 28), (0, u "--policy"), (0, .string 30), (0, u "--reference"), (0, .methodref 19 32), (0, .nameAndType 33 34), (0, u "lengthOf"), (0, u "(I)I"), (0, .methodref 19 36), (0, .nameAndType 37 38), (0, u "make"), (0, u "(ILjava/lang/String;ZICC)Ljava/lang/String;"), (0, .methodref 40 41), (0, .class_ 42), (0, .nameAndType 43 44), (0, u "com/example/warrant/warrant/cli/PolicyFiles"), (0, u "names"), (0, u "(Ljava/lang/String;)Z"), (3, u "law"), (0, u "(IIII)Z")] 2

def k1m0 : Method := { name := "<init>", desc := "()V", sig := { parameters := [], returnType := none }, accessFlags := 2, code := none }
def k1c1 : Code := { maxStack := 2, maxLocals := 6, code := method_2_code, exceptionTable := #[], attributes := #[] }
def k1m1 : Method := { name := "at", desc := "(ILjava/lang/String;ZICC)C", sig := { parameters := [.int, (.object "java/lang/String"), .boolean, .int, .char, .char], returnType := some .char }, accessFlags := 10, code := some k1c1 }
def k1c2 : Code := { maxStack := 2, maxLocals := 2, code := method_3_code, exceptionTable := #[], attributes := #[] }
def k1m2 : Method := { name := "lengthOf", desc := "(I)I", sig := { parameters := [.int], returnType := some .int }, accessFlags := 10, code := some k1c2 }
def k1c3 : Code := { maxStack := 6, maxLocals := 18, code := method_4_code, exceptionTable := #[], attributes := #[] }
def k1m3 : Method := { name := "make", desc := "(ILjava/lang/String;ZICC)Ljava/lang/String;", sig := { parameters := [.int, (.object "java/lang/String"), .boolean, .int, .char, .char], returnType := some (.object "java/lang/String") }, accessFlags := 10, code := some k1c3 }
def k1c4 : Code := { maxStack := 6, maxLocals := 12, code := code, exceptionTable := #[], attributes := #[] }
def k1m4 : Method := { name := "law", desc := "(IIII)Z", sig := { parameters := [.int, .int, .int, .int], returnType := some .boolean }, accessFlags := 9, code := some k1c4 }
/-- com/example/warrant/warrant/cli/PolicyFilesNamesPinLaw -/
def k1 : Class := { plain "com/example/warrant/warrant/cli/PolicyFilesNamesPinLaw" (some 0) with
  accessFlags := 49
  interfaces := #[]
  cf := some (fileOf pool1 19 #[] #[{ accessFlags := 2, nameIndex := 5, descriptorIndex := 6, attributes := #[] }, { accessFlags := 10, nameIndex := 22, descriptorIndex := 23, attributes := #[] }, { accessFlags := 10, nameIndex := 33, descriptorIndex := 34, attributes := #[] }, { accessFlags := 10, nameIndex := 37, descriptorIndex := 38, attributes := #[] }, { accessFlags := 9, nameIndex := 48, descriptorIndex := 49, attributes := #[] }] 49 2 #[] #[])
  fields := #[]
  methods := #[k1m0, k1m1, k1m2, k1m3, k1m4]
  instanceTypes := #[]
  staticTypes := #[]
  resolved := Array.replicate 52 none
  statics := none }

def pool2 : Array CpInfo := pool [(1, .class_ 2), (0, u "java/io/Serializable"), (0, .class_ 4), (0, u "java/lang/Object")] 2

/-- java/io/Serializable -/
def k2 : Class := { plain "java/io/Serializable" (some 0) with
  accessFlags := 1537
  interfaces := #[]
  cf := some (fileOf pool2 1 #[] #[] 1537 3 #[] #[])
  fields := #[]
  methods := #[]
  instanceTypes := #[]
  staticTypes := #[]
  resolved := Array.replicate 7 none
  statics := none }

def pool3 : Array CpInfo := pool [(1, .class_ 2), (0, u "java/lang/Comparable"), (0, .class_ 4), (0, u "java/lang/Object")] 7

/-- java/lang/Comparable -/
def k3 : Class := { plain "java/lang/Comparable" (some 0) with
  accessFlags := 1537
  interfaces := #[]
  cf := some (fileOf pool3 1 #[] #[] 1537 3 #[] #[])
  fields := #[]
  methods := #[]
  instanceTypes := #[]
  staticTypes := #[]
  resolved := Array.replicate 12 none
  statics := none }

def pool4 : Array CpInfo := pool [(2, .class_ 4), (1, u "java/lang/CharSequence"), (42, .class_ 48), (0, u "java/lang/CharSequence$1CodePointIterator"), (10, .class_ 60), (0, u "java/lang/CharSequence$1CharIterator"), (5, .class_ 67), (0, u "java/lang/Object")] 63

/-- java/lang/CharSequence -/
def k4 : Class := { plain "java/lang/CharSequence" (some 0) with
  accessFlags := 1537
  interfaces := #[]
  cf := some (fileOf pool4 2 #[.nestMembers #[47, 59]] #[] 1537 66 #[] #[])
  fields := #[]
  methods := #[]
  instanceTypes := #[]
  staticTypes := #[]
  resolved := Array.replicate 131 none
  statics := none }

def pool5 : Array CpInfo := pool [(1, .class_ 2), (0, u "java/lang/constant/Constable"), (0, .class_ 4), (0, u "java/lang/Object")] 6

/-- java/lang/constant/Constable -/
def k5 : Class := { plain "java/lang/constant/Constable" (some 0) with
  accessFlags := 1537
  interfaces := #[]
  cf := some (fileOf pool5 1 #[] #[] 1537 3 #[] #[])
  fields := #[]
  methods := #[]
  instanceTypes := #[]
  staticTypes := #[]
  resolved := Array.replicate 11 none
  statics := none }

def pool6 : Array CpInfo := pool [(1, .class_ 2), (0, u "java/lang/constant/ConstantDesc"), (0, .class_ 4), (0, u "java/lang/Object")] 32

/-- java/lang/constant/ConstantDesc -/
def k6 : Class := { plain "java/lang/constant/ConstantDesc" (some 0) with
  accessFlags := 1537
  interfaces := #[]
  cf := some (fileOf pool6 1 #[] #[] 1537 3 #[] #[])
  fields := #[]
  methods := #[]
  instanceTypes := #[]
  staticTypes := #[]
  resolved := Array.replicate 37 none
  statics := none }

def pool7 : Array CpInfo := pool [(1, .methodref 2 3), (0, .class_ 4), (0, .nameAndType 5 6), (0, u "java/lang/Object"), (0, u "<init>"), (0, u "()V"), (0, .string 8), (0, u ""), (0, .fieldref 10 11), (0, .class_ 12), (0, .nameAndType 13 14), (0, u "java/lang/String"), (0, u "value"), (0, u "[B"), (0, .fieldref 10 16), (0, .nameAndType 17 18), (0, u "coder"), (0, u "B"), (2, u "hash"), (0, u "I"), (2, u "hashIsZero"), (0, u "Z"), (0, .methodref 10 28), (0, .nameAndType 5 29), (0, u "([CIILjava/lang/Void;)V"), (8, .fieldref 10 39), (0, .nameAndType 40 26), (0, u "COMPACT_STRINGS"), (1, .class_ 44), (1, u "java/lang/StringUTF16"), (0, u "compress"), (1, .methodref 42 48), (0, .nameAndType 49 50), (0, u "coderFromArrayLen"), (0, u "([BI)B"), (56, .class_ 109), (1, u "java/lang/StringLatin1"), (32, u "()Z"), (34, .methodref 42 178), (0, .nameAndType 45 179), (0, u "([CII)[B"), (154, u "()I"), (0, .methodref 10 336), (0, .nameAndType 17 337), (0, u "()B"), (25, u "([BI)C"), (27, u "(II)V"), (35, u "(I)C"), (64, .methodref 10 493), (0, .nameAndType 494 142), (0, u "isLatin1"), (0, .methodref 107 496), (0, .nameAndType 497 363), (0, u "charAt"), (3, u "checkIndex"), (5, u "length"), (33, .methodref 107 542), (0, .nameAndType 543 544), (0, u "equals"), (0, u "([B[B)Z"), (28, u "(Ljava/lang/Object;)Z"), (1, .class_ 576), (0, u "java/lang/CharSequence"), (22, u "CASE_INSENSITIVE_ORDER"), (0, u "Ljava/util/Comparator;"), (409, u "([C)V"), (42, .fieldref 1054 1055), (0, .class_ 1056), (0, .nameAndType 1057 1058), (0, u "jdk/internal/util/Preconditions"), (0, u "SIOOBE_FORMATTER"), (0, u "Ljava/util/function/BiFunction;"), (0, .methodref 1054 1060), (0, .nameAndType 501 1061), (0, u "(IILjava/util/function/BiFunction;)I"), (39, u "serialPersistentFields"), (0, u "[Ljava/io/ObjectStreamField;"), (0, .class_ 1104), (0, u "java/lang/String$CaseInsensitiveComparator"), (1, .class_ 1107), (0, u "java/io/Serializable"), (0, .class_ 1109), (0, u "java/lang/Comparable"), (0, .class_ 1111), (0, u "java/lang/constant/Constable"), (0, .class_ 1113), (0, u "java/lang/constant/ConstantDesc"), (2, u "serialVersionUID"), (0, u "J"), (3, u "REPL"), (0, u "C"), (2, u "LATIN1"), (1, u "UTF16")] 323

def k7m0 : Method := { name := "<init>", desc := "()V", sig := { parameters := [], returnType := none }, accessFlags := 1, code := none }
def k7c1 : Code := { maxStack := 5, maxLocals := 2, code := jdk_42_method_3_code, exceptionTable := #[], attributes := #[] }
def k7m1 : Method := { name := "<init>", desc := "([C)V", sig := { parameters := [(.array .char)], returnType := none }, accessFlags := 1, code := some k7c1 }
def k7c2 : Code := { maxStack := 2, maxLocals := 1, code := jdk_42_method_54_code, exceptionTable := #[], attributes := #[] }
def k7m2 : Method := { name := "length", desc := "()I", sig := { parameters := [], returnType := some .int }, accessFlags := 1, code := some k7c2 }
def k7c3 : Code := { maxStack := 2, maxLocals := 2, code := jdk_42_method_56_code, exceptionTable := #[], attributes := #[] }
def k7m3 : Method := { name := "charAt", desc := "(I)C", sig := { parameters := [.int], returnType := some .char }, accessFlags := 1, code := some k7c3 }
def k7c4 : Code := { maxStack := 2, maxLocals := 3, code := jdk_42_method_66_code, exceptionTable := #[], attributes := #[] }
def k7m4 : Method := { name := "equals", desc := "(Ljava/lang/Object;)Z", sig := { parameters := [(.object "java/lang/Object")], returnType := some .boolean }, accessFlags := 1, code := some k7c4 }
def k7c5 : Code := { maxStack := 4, maxLocals := 6, code := jdk_42_method_149_code, exceptionTable := #[], attributes := #[] }
def k7m5 : Method := { name := "<init>", desc := "([CIILjava/lang/Void;)V", sig := { parameters := [(.array .char), .int, .int, (.object "java/lang/Void")], returnType := none }, accessFlags := 2, code := some k7c5 }
def k7c6 : Code := { maxStack := 1, maxLocals := 1, code := jdk_42_method_152_code, exceptionTable := #[], attributes := #[] }
def k7m6 : Method := { name := "coder", desc := "()B", sig := { parameters := [], returnType := some .byte }, accessFlags := 0, code := some k7c6 }
def k7c7 : Code := { maxStack := 1, maxLocals := 1, code := jdk_42_method_154_code, exceptionTable := #[], attributes := #[] }
def k7m7 : Method := { name := "isLatin1", desc := "()Z", sig := { parameters := [], returnType := some .boolean }, accessFlags := 0, code := some k7c7 }
def k7c8 : Code := { maxStack := 3, maxLocals := 2, code := jdk_42_method_155_code, exceptionTable := #[], attributes := #[] }
def k7m8 : Method := { name := "checkIndex", desc := "(II)V", sig := { parameters := [.int, .int], returnType := none }, accessFlags := 8, code := some k7c8 }
/-- java/lang/String -/
def k7 : Class := { plain "java/lang/String" (some 0) with
  accessFlags := 49
  interfaces := #[2, 3, 4, 5, 6]
  cf := some (fileOf pool7 10 #[.nestMembers #[1103]] #[{ accessFlags := 1, nameIndex := 5, descriptorIndex := 6, attributes := #[] }, { accessFlags := 1, nameIndex := 5, descriptorIndex := 1010, attributes := #[] }, { accessFlags := 1, nameIndex := 507, descriptorIndex := 334, attributes := #[] }, { accessFlags := 1, nameIndex := 497, descriptorIndex := 427, attributes := #[] }, { accessFlags := 1, nameIndex := 543, descriptorIndex := 573, attributes := #[] }, { accessFlags := 2, nameIndex := 5, descriptorIndex := 29, attributes := #[] }, { accessFlags := 0, nameIndex := 17, descriptorIndex := 337, attributes := #[] }, { accessFlags := 0, nameIndex := 494, descriptorIndex := 142, attributes := #[] }, { accessFlags := 8, nameIndex := 501, descriptorIndex := 391, attributes := #[] }] 49 2 #[1106, 1108, 575, 1110, 1112] #[{ accessFlags := 18, nameIndex := 13, descriptorIndex := 14, attributes := #[] }, { accessFlags := 18, nameIndex := 17, descriptorIndex := 18, attributes := #[] }, { accessFlags := 2, nameIndex := 21, descriptorIndex := 22, attributes := #[] }, { accessFlags := 2, nameIndex := 25, descriptorIndex := 26, attributes := #[] }, { accessFlags := 26, nameIndex := 1116, descriptorIndex := 1117, attributes := #[] }, { accessFlags := 24, nameIndex := 40, descriptorIndex := 26, attributes := #[] }, { accessFlags := 26, nameIndex := 1101, descriptorIndex := 1102, attributes := #[] }, { accessFlags := 26, nameIndex := 1121, descriptorIndex := 1122, attributes := #[] }, { accessFlags := 25, nameIndex := 599, descriptorIndex := 600, attributes := #[] }, { accessFlags := 24, nameIndex := 1125, descriptorIndex := 18, attributes := #[] }, { accessFlags := 24, nameIndex := 1127, descriptorIndex := 18, attributes := #[] }])
  fields := #[{ name := "value", type := (.array .byte), accessFlags := 18, slot := 0, constantValue := 0 }, { name := "coder", type := .byte, accessFlags := 18, slot := 1, constantValue := 0 }, { name := "hash", type := .int, accessFlags := 2, slot := 2, constantValue := 0 }, { name := "hashIsZero", type := .boolean, accessFlags := 2, slot := 3, constantValue := 0 }, { name := "serialVersionUID", type := .long, accessFlags := 26, slot := 0, constantValue := 0 }, { name := "COMPACT_STRINGS", type := .boolean, accessFlags := 24, slot := 1, constantValue := 0 }, { name := "serialPersistentFields", type := (.array (.object "java/io/ObjectStreamField")), accessFlags := 26, slot := 2, constantValue := 0 }, { name := "REPL", type := .char, accessFlags := 26, slot := 3, constantValue := 0 }, { name := "CASE_INSENSITIVE_ORDER", type := (.object "java/util/Comparator"), accessFlags := 25, slot := 4, constantValue := 0 }, { name := "LATIN1", type := .byte, accessFlags := 24, slot := 5, constantValue := 0 }, { name := "UTF16", type := .byte, accessFlags := 24, slot := 6, constantValue := 0 }]
  methods := #[k7m0, k7m1, k7m2, k7m3, k7m4, k7m5, k7m6, k7m7, k7m8]
  instanceTypes := #[(.array .byte), .byte, .int, .boolean]
  staticTypes := #[.long, .boolean, (.array (.object "java/io/ObjectStreamField")), .char, (.object "java/util/Comparator"), .byte, .byte]
  resolved := Array.replicate 1451 none
  statics := some 0 }

def pool8 : Array CpInfo := pool [(1, .class_ 2), (0, u "java/lang/String"), (1, .class_ 6), (1, u "java/lang/Object"), (0, u "<init>"), (0, u "()V"), (0, .methodref 1 10), (0, .nameAndType 11 12), (0, u "checkIndex"), (0, u "(II)V"), (1, .class_ 16), (1, u "java/lang/StringLatin1"), (36, u "([BI)C"), (67, u "$assertionsDisabled"), (0, u "Z"), (98, .class_ 223), (1, u "java/lang/StringLatin1$LinesSpliterator"), (28, u "charAt"), (28, u "equals"), (0, u "([B[B)Z"), (107, .class_ 391), (0, u "java/lang/StringLatin1$CharsSpliterator")] 3

def k8m0 : Method := { name := "<init>", desc := "()V", sig := { parameters := [], returnType := none }, accessFlags := 0, code := none }
def k8c1 : Code := { maxStack := 2, maxLocals := 2, code := jdk_43_method_2_code, exceptionTable := #[], attributes := #[] }
def k8m1 : Method := { name := "charAt", desc := "([BI)C", sig := { parameters := [(.array .byte), .int], returnType := some .char }, accessFlags := 9, code := some k8c1 }
def k8c2 : Code := { maxStack := 3, maxLocals := 3, code := jdk_43_method_13_code, exceptionTable := #[], attributes := #[] }
def k8m2 : Method := { name := "equals", desc := "([B[B)Z", sig := { parameters := [(.array .byte), (.array .byte)], returnType := some .boolean }, accessFlags := 9, code := some k8c2 }
/-- java/lang/StringLatin1 -/
def k8 : Class := { plain "java/lang/StringLatin1" (some 0) with
  accessFlags := 48
  interfaces := #[]
  cf := some (fileOf pool8 14 #[.nestMembers #[390, 221]] #[{ accessFlags := 0, nameIndex := 7, descriptorIndex := 8, attributes := #[] }, { accessFlags := 9, nameIndex := 252, descriptorIndex := 53, attributes := #[] }, { accessFlags := 9, nameIndex := 281, descriptorIndex := 282, attributes := #[] }] 48 4 #[] #[{ accessFlags := 4120, nameIndex := 121, descriptorIndex := 122, attributes := #[] }])
  fields := #[{ name := "$assertionsDisabled", type := .boolean, accessFlags := 4120, slot := 0, constantValue := 0 }]
  methods := #[k8m0, k8m1, k8m2]
  instanceTypes := #[]
  staticTypes := #[.boolean]
  resolved := Array.replicate 395 none
  statics := none }

def pool9 : Array CpInfo := pool [(2, .class_ 4), (1, u "java/lang/Object"), (0, u "<init>"), (0, u "()V"), (17, .class_ 26), (1, u "jdk/internal/util/Preconditions"), (6, u "checkIndex"), (21, .class_ 56), (0, u "jdk/internal/util/Preconditions$4"), (57, .class_ 115), (0, u "jdk/internal/util/Preconditions$1"), (7, u "SIOOBE_FORMATTER"), (0, u "Ljava/util/function/BiFunction;"), (0, .class_ 126), (0, u "jdk/internal/util/Preconditions$2"), (3, u "AIOOBE_FORMATTER"), (0, .class_ 132), (0, u "jdk/internal/util/Preconditions$3"), (3, u "IOOBE_FORMATTER"), (41, u "(IILjava/util/function/BiFunction;)I")] 15

def k9m0 : Method := { name := "<init>", desc := "()V", sig := { parameters := [], returnType := none }, accessFlags := 1, code := none }
def k9c1 : Code := { maxStack := 3, maxLocals := 3, code := jdk_41_method_11_code, exceptionTable := #[], attributes := #[] }
def k9m1 : Method := { name := "checkIndex", desc := "(IILjava/util/function/BiFunction;)I", sig := { parameters := [.int, .int, (.object "java/util/function/BiFunction")], returnType := some .int }, accessFlags := 9, code := some k9c1 }
/-- jdk/internal/util/Preconditions -/
def k9 : Class := { plain "jdk/internal/util/Preconditions" (some 0) with
  accessFlags := 33
  interfaces := #[]
  cf := some (fileOf pool9 24 #[.nestMembers #[55, 131, 125, 114]] #[{ accessFlags := 1, nameIndex := 5, descriptorIndex := 6, attributes := #[] }, { accessFlags := 9, nameIndex := 33, descriptorIndex := 178, attributes := #[] }] 33 2 #[] #[{ accessFlags := 25, nameIndex := 123, descriptorIndex := 124, attributes := #[] }, { accessFlags := 25, nameIndex := 130, descriptorIndex := 124, attributes := #[] }, { accessFlags := 25, nameIndex := 136, descriptorIndex := 124, attributes := #[] }])
  fields := #[{ name := "SIOOBE_FORMATTER", type := (.object "java/util/function/BiFunction"), accessFlags := 25, slot := 0, constantValue := 0 }, { name := "AIOOBE_FORMATTER", type := (.object "java/util/function/BiFunction"), accessFlags := 25, slot := 1, constantValue := 0 }, { name := "IOOBE_FORMATTER", type := (.object "java/util/function/BiFunction"), accessFlags := 25, slot := 2, constantValue := 0 }]
  methods := #[k9m0, k9m1]
  instanceTypes := #[]
  staticTypes := #[(.object "java/util/function/BiFunction"), (.object "java/util/function/BiFunction"), (.object "java/util/function/BiFunction")]
  resolved := Array.replicate 194 none
  statics := some 1 }

def pool10 : Array CpInfo := pool [(6, .class_ 8), (1, u "java/lang/Object"), (0, u "<init>"), (0, u "()V"), (1, .class_ 14), (1, u "java/lang/StringUTF16"), (31, u "$assertionsDisabled"), (0, u "Z"), (13, u "HI_BYTE_SHIFT"), (0, u "I"), (2, u "LO_BYTE_SHIFT"), (49, .methodref 12 116), (0, .nameAndType 117 118), (0, u "compress"), (0, u "([CI[BII)I"), (3, u "([CII)[B"), (138, u "coderFromArrayLen"), (0, u "([BI)B"), (106, .class_ 371), (1, u "java/lang/StringUTF16$LinesSpliterator"), (58, u "MAX_LENGTH"), (196, .class_ 628), (0, u "java/lang/StringUTF16$CodePointsSpliterator"), (0, .class_ 630), (0, u "java/lang/StringUTF16$CharsSpliterator")] 4

def k10m0 : Method := { name := "<init>", desc := "()V", sig := { parameters := [], returnType := none }, accessFlags := 0, code := none }
def k10c1 : Code := { maxStack := 2, maxLocals := 2, code := jdk_52_method_15_code, exceptionTable := #[], attributes := #[] }
def k10m1 : Method := { name := "coderFromArrayLen", desc := "([BI)B", sig := { parameters := [(.array .byte), .int], returnType := some .byte }, accessFlags := 8, code := some k10c1 }
def k10c2 : Code := { maxStack := 5, maxLocals := 6, code := jdk_52_method_16_code, exceptionTable := #[], attributes := #[] }
def k10m2 : Method := { name := "compress", desc := "([CII)[B", sig := { parameters := [(.array .char), .int, .int], returnType := some (.array .byte) }, accessFlags := 9, code := some k10c2 }
def k10c3 : Code := { maxStack := 3, maxLocals := 7, code := jdk_52_method_21_code, exceptionTable := #[], attributes := #[] }
def k10m3 : Method := { name := "compress", desc := "([CI[BII)I", sig := { parameters := [(.array .char), .int, (.array .byte), .int, .int], returnType := some .int }, accessFlags := 9, code := some k10c3 }
/-- java/lang/StringUTF16 -/
def k10 : Class := { plain "java/lang/StringUTF16" (some 0) with
  accessFlags := 48
  interfaces := #[]
  cf := some (fileOf pool10 12 #[.nestMembers #[627, 629, 369]] #[{ accessFlags := 0, nameIndex := 9, descriptorIndex := 10, attributes := #[] }, { accessFlags := 8, nameIndex := 261, descriptorIndex := 262, attributes := #[] }, { accessFlags := 9, nameIndex := 117, descriptorIndex := 122, attributes := #[] }, { accessFlags := 9, nameIndex := 117, descriptorIndex := 118, attributes := #[] }] 48 6 #[] #[{ accessFlags := 26, nameIndex := 61, descriptorIndex := 62, attributes := #[] }, { accessFlags := 26, nameIndex := 65, descriptorIndex := 62, attributes := #[] }, { accessFlags := 24, nameIndex := 430, descriptorIndex := 62, attributes := #[] }, { accessFlags := 4120, nameIndex := 46, descriptorIndex := 47, attributes := #[] }])
  fields := #[{ name := "HI_BYTE_SHIFT", type := .int, accessFlags := 26, slot := 0, constantValue := 0 }, { name := "LO_BYTE_SHIFT", type := .int, accessFlags := 26, slot := 1, constantValue := 0 }, { name := "MAX_LENGTH", type := .int, accessFlags := 24, slot := 2, constantValue := 0 }, { name := "$assertionsDisabled", type := .boolean, accessFlags := 4120, slot := 3, constantValue := 0 }]
  methods := #[k10m0, k10m1, k10m2, k10m3]
  instanceTypes := #[]
  staticTypes := #[.int, .int, .int, .boolean]
  resolved := Array.replicate 635 none
  statics := none }

def pool11 : Array CpInfo := pool [(2, .class_ 4), (1, u "java/lang/Object"), (0, u "<init>"), (0, u "()V"), (4, .class_ 13), (1, u "com/example/warrant/warrant/cli/PolicyFiles"), (0, u "policies"), (0, u "Ljava/util/List;"), (2, u "references"), (0, .string 20), (0, u "--policy"), (0, .methodref 22 23), (0, .class_ 24), (0, .nameAndType 25 26), (0, u "java/lang/String"), (0, u "equals"), (0, u "(Ljava/lang/Object;)Z"), (0, .string 28), (0, u "--reference"), (118, u "POLICY"), (0, u "Ljava/lang/String;"), (1, u "REFERENCE"), (4, u "names"), (0, u "(Ljava/lang/String;)Z")] 33

def k11m0 : Method := { name := "<init>", desc := "()V", sig := { parameters := [], returnType := none }, accessFlags := 0, code := none }
def k11c1 : Code := { maxStack := 2, maxLocals := 1, code := prog_4_method_2_code, exceptionTable := #[], attributes := #[] }
def k11m1 : Method := { name := "names", desc := "(Ljava/lang/String;)Z", sig := { parameters := [(.object "java/lang/String")], returnType := some .boolean }, accessFlags := 8, code := some k11c1 }
/-- com/example/warrant/warrant/cli/PolicyFiles -/
def k11 : Class := { plain "com/example/warrant/warrant/cli/PolicyFiles" (some 0) with
  accessFlags := 48
  interfaces := #[]
  cf := some (fileOf pool11 11 #[] #[{ accessFlags := 0, nameIndex := 5, descriptorIndex := 6, attributes := #[] }, { accessFlags := 8, nameIndex := 155, descriptorIndex := 156, attributes := #[] }] 48 2 #[] #[{ accessFlags := 24, nameIndex := 147, descriptorIndex := 148, attributes := #[] }, { accessFlags := 24, nameIndex := 150, descriptorIndex := 148, attributes := #[] }, { accessFlags := 18, nameIndex := 14, descriptorIndex := 15, attributes := #[] }, { accessFlags := 18, nameIndex := 18, descriptorIndex := 15, attributes := #[] }])
  fields := #[{ name := "POLICY", type := (.object "java/lang/String"), accessFlags := 24, slot := 0, constantValue := 0 }, { name := "REFERENCE", type := (.object "java/lang/String"), accessFlags := 24, slot := 1, constantValue := 0 }, { name := "policies", type := (.object "java/util/List"), accessFlags := 18, slot := 0, constantValue := 0 }, { name := "references", type := (.object "java/util/List"), accessFlags := 18, slot := 1, constantValue := 0 }]
  methods := #[k11m0, k11m1]
  instanceTypes := #[(.object "java/util/List"), (.object "java/util/List")]
  staticTypes := #[(.object "java/lang/String"), (.object "java/lang/String")]
  resolved := Array.replicate 190 none
  statics := none }

def pool12 : Array CpInfo := pool [(9, u "<init>"), (6, .class_ 18), (1, u "java/lang/Object"), (0, u "()V"), (1, .class_ 23), (1, u "jdk/internal/util/ArraysSupport"), (0, u "LOG2_ARRAY_LONG_INDEX_SCALE"), (0, u "I"), (2, u "U"), (0, u "Ljdk/internal/misc/Unsafe;"), (8, u "BIG_ENDIAN"), (0, u "Z"), (8, u "LOG2_BYTE_BIT_SIZE"), (4, u "LOG2_ARRAY_INT_INDEX_SCALE"), (54, u "JLA"), (0, u "Ljdk/internal/access/JavaLangAccess;"), (11, u "LOG2_ARRAY_BOOLEAN_INDEX_SCALE"), (9, u "LOG2_ARRAY_BYTE_INDEX_SCALE"), (5, u "LOG2_ARRAY_CHAR_INDEX_SCALE"), (5, u "LOG2_ARRAY_SHORT_INDEX_SCALE"), (18, u "LOG2_ARRAY_FLOAT_INDEX_SCALE"), (24, u "LOG2_ARRAY_DOUBLE_INDEX_SCALE"), (89, u "T_BOOLEAN"), (2, u "T_CHAR"), (1, u "T_FLOAT"), (1, u "T_DOUBLE"), (1, u "T_BYTE"), (1, u "T_SHORT"), (1, u "T_INT"), (1, u "T_LONG"), (1, u "SOFT_MAX_ARRAY_LENGTH")] 83

def k12m0 : Method := { name := "<init>", desc := "()V", sig := { parameters := [], returnType := none }, accessFlags := 2, code := none }
/-- jdk/internal/util/ArraysSupport -/
def k12 : Class := { plain "jdk/internal/util/ArraysSupport" (some 0) with
  accessFlags := 33
  interfaces := #[]
  cf := some (fileOf pool12 21 #[] #[{ accessFlags := 2, nameIndex := 9, descriptorIndex := 19, attributes := #[] }] 33 16 #[] #[{ accessFlags := 24, nameIndex := 28, descriptorIndex := 29, attributes := #[] }, { accessFlags := 26, nameIndex := 38, descriptorIndex := 39, attributes := #[] }, { accessFlags := 25, nameIndex := 121, descriptorIndex := 25, attributes := #[] }, { accessFlags := 25, nameIndex := 131, descriptorIndex := 25, attributes := #[] }, { accessFlags := 25, nameIndex := 137, descriptorIndex := 25, attributes := #[] }, { accessFlags := 25, nameIndex := 143, descriptorIndex := 25, attributes := #[] }, { accessFlags := 25, nameIndex := 53, descriptorIndex := 25, attributes := #[] }, { accessFlags := 25, nameIndex := 24, descriptorIndex := 25, attributes := #[] }, { accessFlags := 25, nameIndex := 162, descriptorIndex := 25, attributes := #[] }, { accessFlags := 25, nameIndex := 187, descriptorIndex := 25, attributes := #[] }, { accessFlags := 26, nameIndex := 48, descriptorIndex := 25, attributes := #[] }, { accessFlags := 25, nameIndex := 277, descriptorIndex := 25, attributes := #[] }, { accessFlags := 25, nameIndex := 280, descriptorIndex := 25, attributes := #[] }, { accessFlags := 25, nameIndex := 282, descriptorIndex := 25, attributes := #[] }, { accessFlags := 25, nameIndex := 284, descriptorIndex := 25, attributes := #[] }, { accessFlags := 25, nameIndex := 286, descriptorIndex := 25, attributes := #[] }, { accessFlags := 25, nameIndex := 288, descriptorIndex := 25, attributes := #[] }, { accessFlags := 25, nameIndex := 290, descriptorIndex := 25, attributes := #[] }, { accessFlags := 25, nameIndex := 292, descriptorIndex := 25, attributes := #[] }, { accessFlags := 26, nameIndex := 108, descriptorIndex := 109, attributes := #[] }, { accessFlags := 25, nameIndex := 294, descriptorIndex := 25, attributes := #[] }])
  fields := #[{ name := "U", type := (.object "jdk/internal/misc/Unsafe"), accessFlags := 24, slot := 0, constantValue := 0 }, { name := "BIG_ENDIAN", type := .boolean, accessFlags := 26, slot := 1, constantValue := 0 }, { name := "LOG2_ARRAY_BOOLEAN_INDEX_SCALE", type := .int, accessFlags := 25, slot := 2, constantValue := 0 }, { name := "LOG2_ARRAY_BYTE_INDEX_SCALE", type := .int, accessFlags := 25, slot := 3, constantValue := 0 }, { name := "LOG2_ARRAY_CHAR_INDEX_SCALE", type := .int, accessFlags := 25, slot := 4, constantValue := 0 }, { name := "LOG2_ARRAY_SHORT_INDEX_SCALE", type := .int, accessFlags := 25, slot := 5, constantValue := 0 }, { name := "LOG2_ARRAY_INT_INDEX_SCALE", type := .int, accessFlags := 25, slot := 6, constantValue := 0 }, { name := "LOG2_ARRAY_LONG_INDEX_SCALE", type := .int, accessFlags := 25, slot := 7, constantValue := 0 }, { name := "LOG2_ARRAY_FLOAT_INDEX_SCALE", type := .int, accessFlags := 25, slot := 8, constantValue := 0 }, { name := "LOG2_ARRAY_DOUBLE_INDEX_SCALE", type := .int, accessFlags := 25, slot := 9, constantValue := 0 }, { name := "LOG2_BYTE_BIT_SIZE", type := .int, accessFlags := 26, slot := 10, constantValue := 0 }, { name := "T_BOOLEAN", type := .int, accessFlags := 25, slot := 11, constantValue := 0 }, { name := "T_CHAR", type := .int, accessFlags := 25, slot := 12, constantValue := 0 }, { name := "T_FLOAT", type := .int, accessFlags := 25, slot := 13, constantValue := 0 }, { name := "T_DOUBLE", type := .int, accessFlags := 25, slot := 14, constantValue := 0 }, { name := "T_BYTE", type := .int, accessFlags := 25, slot := 15, constantValue := 0 }, { name := "T_SHORT", type := .int, accessFlags := 25, slot := 16, constantValue := 0 }, { name := "T_INT", type := .int, accessFlags := 25, slot := 17, constantValue := 0 }, { name := "T_LONG", type := .int, accessFlags := 25, slot := 18, constantValue := 0 }, { name := "JLA", type := (.object "jdk/internal/access/JavaLangAccess"), accessFlags := 26, slot := 19, constantValue := 0 }, { name := "SOFT_MAX_ARRAY_LENGTH", type := .int, accessFlags := 25, slot := 20, constantValue := 0 }]
  methods := #[k12m0]
  instanceTypes := #[]
  staticTypes := #[(.object "jdk/internal/misc/Unsafe"), .boolean, .int, .int, .int, .int, .int, .int, .int, .int, .int, .int, .int, .int, .int, .int, .int, .int, .int, (.object "jdk/internal/access/JavaLangAccess"), .int]
  resolved := Array.replicate 378 none
  statics := none }

def pool13 : Array CpInfo := pool [(1, u "java/lang/Cloneable"), (0, .class_ 1), (0, u "java/lang/Object"), (0, .class_ 3)] 3

/-- java/lang/Cloneable -/
def k13 : Class := { plain "java/lang/Cloneable" (some 0) with
  accessFlags := 1537
  interfaces := #[]
  cf := some (fileOf pool13 2 #[] #[] 1537 4 #[] #[])
  fields := #[]
  methods := #[]
  instanceTypes := #[]
  staticTypes := #[]
  resolved := Array.replicate 8 none
  statics := none }

/-- the primitive byte -/
def k14 : Class := { plain "byte" none with kind := .primitive 'B', accessFlags := 0x411 }
/-- [B -/
def k15 : Class := { plain "[B" (some 0) with kind := .array 14 .byte, interfaces := #[13, 2], accessFlags := 1041 }

/-- the primitive char -/
def k16 : Class := { plain "char" none with kind := .primitive 'C', accessFlags := 0x411 }
/-- [C -/
def k17 : Class := { plain "[C" (some 0) with kind := .array 16 .char, interfaces := #[13, 2], accessFlags := 1041 }

/-- the primitive int -/
def k18 : Class := { plain "int" none with kind := .primitive 'I', accessFlags := 0x411 }
/-- [I -/
def k19 : Class := { plain "[I" (some 0) with kind := .array 18 .int, interfaces := #[13, 2], accessFlags := 1041 }

def heap : Heap := #[{ cls := 7, slots := #[.long 0, .int 1, .null, .int 0, .null, .int 0, .int 0], vm := .statics 7 },
  { cls := 9, slots := #[.null, .null, .null], vm := .statics 9 }]
def classes : Array Class := #[k0, k1, k2, k3, k4, k5, k6, k7, k8, k9, k10, k11, k12, k13, k14, k15, k16, k17, k18, k19]
def interned : List (Array UInt16 × Addr) := []
def slotsUsed : Nat := 10
def theMethod : MethodId := ⟨1, 4⟩
def args0 : Array Value := #[.int 5, .int 3, .int 2, .int 1]
def aboutOver (below : List Frame) : State where
  vm := { classes := classes, interned := interned.toArray }
  heap := heap
  slotsUsed := slotsUsed
  threads := #[{ frames := .invoking theMethod args0 :: below }]
def below0 : List Frame := [.native { method := ⟨0, 0⟩, args := #[] }]
def about1 : State := aboutOver below0
def p0 : Program := .bare "" "" ""
def e0 : Env := launch0.env 0 0 0
theorem w_frames : about1.frames = Frame.invoking theMethod args0 :: below0 := rfl
set_option maxRecDepth 65536 in
theorem w_args : argsFit about1.vm theMethod args0 = true := by decide +kernel
set_option maxRecDepth 65536 in
theorem w_heap : heapFits about1 = true := by decide +kernel
set_option maxRecDepth 65536 in
theorem w_runnable : about1.curStatus? = some .runnable := by decide +kernel
set_option maxRecDepth 65536 in
theorem w_alone : about1.alone = true := by decide +kernel
set_option maxRecDepth 65536 in
theorem w_named : about1.methodNamed? x = some theMethod := by decide +kernel
set_option maxRecDepth 65536 in
theorem w_hears : about1.hears theMethod below0 = true := by decide +kernel
set_option maxRecDepth 65536 in
theorem w_ripe : about1.ripe theMethod args0 below0 = true := by decide +kernel
theorem w_running : about1.status = .running := rfl
set_option maxRecDepth 65536 in
theorem w_room : about1.hasRoom e0.platform room_1 = true :=
  launch0.hasRoom_least _ room_1 (by decide +kernel) (by decide +kernel) (by decide +kernel) (by decide +kernel) (by decide +kernel) (by decide +kernel)
theorem allAtoms_all (ts : List Jvm.Cond) (a : Array Jvm.Value) (st : Jvm.State) : (allAtoms ts).before a st = ts.all (fun c => c.before a st) := by
  induction ts with
  | nil => rfl
  | cons c t ih =>
    show (Jvm.Cond.and c (allAtoms t)).before a st = _
    rw [Jvm.Cond.before_and, ih, List.all_cons]
def words1 : List Jvm.Cond := Jvm.Cond.code x code maxLocals ret :: tables_1
/-- a 'code' word, met by the world's own term for the bytes: nothing is compared byte by byte -/
theorem code_word {y : MethodName} {bytes : ByteArray} {mx : Nat} {rt : Option FieldType} {a : Array Value} {s : State} {m : MethodId} {meth : Method} {c : Code} (h1 : s.methodNamed? y = some m) (h2 : s.vm.method? m = some meth) (h3 : meth.code = some c) (h4 : c.code = bytes)
    (h5 : (c.maxLocals == mx && c.exceptionTable.isEmpty && decide (c.maxStack ≤ mostOperands) && decide (meth.sig.returnType = rt) && !meth.locks && decide (parseMethodDescriptor y.desc = some meth.sig)) = true) : (Jvm.Cond.code y bytes mx rt).before a s = true := by
  simp only [Bool.and_eq_true, beq_iff_eq, Bool.not_eq_true', decide_eq_true_eq] at h5
  obtain ⟨⟨⟨⟨⟨g1, g2⟩, g3⟩, g4⟩, g5⟩, g6⟩ := h5
  simp [Cond.before, Cond.holds, Cond.value, h1, h2, h3, h4, g1, g2, g3, g4, g5, g6]
def isCode : Jvm.Cond → Bool
  | .code _ _ _ _ => true
  | _ => false
theorem all_split {L : List Jvm.Cond} {P : Jvm.Cond → Bool} (h1 : L.all (fun c => isCode c || P c) = true) (h2 : ∀ c ∈ L.filter isCode, P c = true) : L.all P = true := by
  refine List.all_eq_true.mpr fun c hc => ?_
  have h := List.all_eq_true.mp h1 c hc
  rcases Bool.eq_false_or_eq_true (isCode c) with hi | hi
  · exact h2 c (List.mem_filter.mpr ⟨hc, hi⟩)
  · simpa [hi] using h
set_option maxRecDepth 65536 in
theorem w_c0 : (Jvm.Cond.code x code maxLocals ret).before args0 about1 = true := code_word (m := ⟨1, 4⟩) (meth := k1m4) (c := k1c4) (by decide +kernel) rfl rfl rfl (by decide +kernel)
set_option maxRecDepth 65536 in
theorem w_c1 : (Jvm.Cond.code ({ cls := "com/example/warrant/warrant/cli/PolicyFilesNamesPinLaw", name := "lengthOf", desc := "(I)I" } : Jvm.MethodName) method_3_code (2 : Nat) (Option.some Jvm.ClassFile.FieldType.int)).before args0 about1 = true := code_word (m := ⟨1, 2⟩) (meth := k1m2) (c := k1c2) (by decide +kernel) rfl rfl rfl (by decide +kernel)
set_option maxRecDepth 65536 in
theorem w_c2 : (Jvm.Cond.code ({ cls := "com/example/warrant/warrant/cli/PolicyFilesNamesPinLaw", name := "make", desc := "(ILjava/lang/String;ZICC)Ljava/lang/String;" } : Jvm.MethodName) method_4_code (18 : Nat) (Option.some (Jvm.ClassFile.FieldType.object "java/lang/String"))).before args0 about1 = true := code_word (m := ⟨1, 3⟩) (meth := k1m3) (c := k1c3) (by decide +kernel) rfl rfl rfl (by decide +kernel)
set_option maxRecDepth 65536 in
theorem w_c3 : (Jvm.Cond.code ({ cls := "com/example/warrant/warrant/cli/PolicyFilesNamesPinLaw", name := "at", desc := "(ILjava/lang/String;ZICC)C" } : Jvm.MethodName) method_2_code (6 : Nat) (Option.some Jvm.ClassFile.FieldType.char)).before args0 about1 = true := code_word (m := ⟨1, 1⟩) (meth := k1m1) (c := k1c1) (by decide +kernel) rfl rfl rfl (by decide +kernel)
set_option maxRecDepth 65536 in
theorem w_c4 : (Jvm.Cond.code ({ cls := "java/lang/String", name := "length", desc := "()I" } : Jvm.MethodName) jdk_42_method_54_code (1 : Nat) (Option.some Jvm.ClassFile.FieldType.int)).before args0 about1 = true := code_word (m := ⟨7, 2⟩) (meth := k7m2) (c := k7c2) (by decide +kernel) rfl rfl rfl (by decide +kernel)
set_option maxRecDepth 65536 in
theorem w_c5 : (Jvm.Cond.code ({ cls := "java/lang/String", name := "coder", desc := "()B" } : Jvm.MethodName) jdk_42_method_152_code (1 : Nat) (Option.some Jvm.ClassFile.FieldType.byte)).before args0 about1 = true := code_word (m := ⟨7, 6⟩) (meth := k7m6) (c := k7c6) (by decide +kernel) rfl rfl rfl (by decide +kernel)
set_option maxRecDepth 65536 in
theorem w_c6 : (Jvm.Cond.code ({ cls := "java/lang/String", name := "charAt", desc := "(I)C" } : Jvm.MethodName) jdk_42_method_56_code (2 : Nat) (Option.some Jvm.ClassFile.FieldType.char)).before args0 about1 = true := code_word (m := ⟨7, 3⟩) (meth := k7m3) (c := k7c3) (by decide +kernel) rfl rfl rfl (by decide +kernel)
set_option maxRecDepth 65536 in
theorem w_c7 : (Jvm.Cond.code ({ cls := "java/lang/String", name := "isLatin1", desc := "()Z" } : Jvm.MethodName) jdk_42_method_154_code (1 : Nat) (Option.some Jvm.ClassFile.FieldType.boolean)).before args0 about1 = true := code_word (m := ⟨7, 7⟩) (meth := k7m7) (c := k7c7) (by decide +kernel) rfl rfl rfl (by decide +kernel)
set_option maxRecDepth 65536 in
theorem w_c8 : (Jvm.Cond.code ({ cls := "java/lang/StringLatin1", name := "charAt", desc := "([BI)C" } : Jvm.MethodName) jdk_43_method_2_code (2 : Nat) (Option.some Jvm.ClassFile.FieldType.char)).before args0 about1 = true := code_word (m := ⟨8, 1⟩) (meth := k8m1) (c := k8c1) (by decide +kernel) rfl rfl rfl (by decide +kernel)
set_option maxRecDepth 65536 in
theorem w_c9 : (Jvm.Cond.code ({ cls := "java/lang/String", name := "checkIndex", desc := "(II)V" } : Jvm.MethodName) jdk_42_method_155_code (2 : Nat) (Option.none : Option Jvm.ClassFile.FieldType)).before args0 about1 = true := code_word (m := ⟨7, 8⟩) (meth := k7m8) (c := k7c8) (by decide +kernel) rfl rfl rfl (by decide +kernel)
set_option maxRecDepth 65536 in
theorem w_c10 : (Jvm.Cond.code ({ cls := "jdk/internal/util/Preconditions", name := "checkIndex", desc := "(IILjava/util/function/BiFunction;)I" } : Jvm.MethodName) jdk_41_method_11_code (3 : Nat) (Option.some Jvm.ClassFile.FieldType.int)).before args0 about1 = true := code_word (m := ⟨9, 1⟩) (meth := k9m1) (c := k9c1) (by decide +kernel) rfl rfl rfl (by decide +kernel)
set_option maxRecDepth 65536 in
theorem w_c11 : (Jvm.Cond.code ({ cls := "java/lang/String", name := "<init>", desc := "([C)V" } : Jvm.MethodName) jdk_42_method_3_code (2 : Nat) (Option.none : Option Jvm.ClassFile.FieldType)).before args0 about1 = true := code_word (m := ⟨7, 1⟩) (meth := k7m1) (c := k7c1) (by decide +kernel) rfl rfl rfl (by decide +kernel)
set_option maxRecDepth 65536 in
theorem w_c12 : (Jvm.Cond.code ({ cls := "java/lang/String", name := "<init>", desc := "([CIILjava/lang/Void;)V" } : Jvm.MethodName) jdk_42_method_149_code (6 : Nat) (Option.none : Option Jvm.ClassFile.FieldType)).before args0 about1 = true := code_word (m := ⟨7, 5⟩) (meth := k7m5) (c := k7c5) (by decide +kernel) rfl rfl rfl (by decide +kernel)
set_option maxRecDepth 65536 in
theorem w_c13 : (Jvm.Cond.code ({ cls := "java/lang/Object", name := "<init>", desc := "()V" } : Jvm.MethodName) object_method_1_code (1 : Nat) (Option.none : Option Jvm.ClassFile.FieldType)).before args0 about1 = true := code_word (m := ⟨0, 0⟩) (meth := k0m0) (c := k0c0) (by decide +kernel) rfl rfl rfl (by decide +kernel)
set_option maxRecDepth 65536 in
theorem w_c14 : (Jvm.Cond.code ({ cls := "java/lang/StringUTF16", name := "compress", desc := "([CII)[B" } : Jvm.MethodName) jdk_52_method_16_code (6 : Nat) (Option.some (Jvm.ClassFile.FieldType.array Jvm.ClassFile.FieldType.byte))).before args0 about1 = true := code_word (m := ⟨10, 2⟩) (meth := k10m2) (c := k10c2) (by decide +kernel) rfl rfl rfl (by decide +kernel)
set_option maxRecDepth 65536 in
theorem w_c15 : (Jvm.Cond.code ({ cls := "java/lang/StringUTF16", name := "compress", desc := "([CI[BII)I" } : Jvm.MethodName) jdk_52_method_21_code (7 : Nat) (Option.some Jvm.ClassFile.FieldType.int)).before args0 about1 = true := code_word (m := ⟨10, 3⟩) (meth := k10m3) (c := k10c3) (by decide +kernel) rfl rfl rfl (by decide +kernel)
set_option maxRecDepth 65536 in
theorem w_c16 : (Jvm.Cond.code ({ cls := "java/lang/StringUTF16", name := "coderFromArrayLen", desc := "([BI)B" } : Jvm.MethodName) jdk_52_method_15_code (2 : Nat) (Option.some Jvm.ClassFile.FieldType.byte)).before args0 about1 = true := code_word (m := ⟨10, 1⟩) (meth := k10m1) (c := k10c1) (by decide +kernel) rfl rfl rfl (by decide +kernel)
set_option maxRecDepth 65536 in
theorem w_c17 : (Jvm.Cond.code ({ cls := "com/example/warrant/warrant/cli/PolicyFiles", name := "names", desc := "(Ljava/lang/String;)Z" } : Jvm.MethodName) prog_4_method_2_code (1 : Nat) (Option.some Jvm.ClassFile.FieldType.boolean)).before args0 about1 = true := code_word (m := ⟨11, 1⟩) (meth := k11m1) (c := k11c1) (by decide +kernel) rfl rfl rfl (by decide +kernel)
set_option maxRecDepth 65536 in
theorem w_c18 : (Jvm.Cond.code ({ cls := "java/lang/String", name := "equals", desc := "(Ljava/lang/Object;)Z" } : Jvm.MethodName) jdk_42_method_66_code (3 : Nat) (Option.some Jvm.ClassFile.FieldType.boolean)).before args0 about1 = true := code_word (m := ⟨7, 4⟩) (meth := k7m4) (c := k7c4) (by decide +kernel) rfl rfl rfl (by decide +kernel)
set_option maxRecDepth 65536 in
theorem w_c19 : (Jvm.Cond.code ({ cls := "java/lang/StringLatin1", name := "equals", desc := "([B[B)Z" } : Jvm.MethodName) jdk_43_method_13_code (3 : Nat) (Option.some Jvm.ClassFile.FieldType.boolean)).before args0 about1 = true := code_word (m := ⟨8, 2⟩) (meth := k8m2) (c := k8c2) (by decide +kernel) rfl rfl rfl (by decide +kernel)
def codes1 : List Jvm.Cond := [Jvm.Cond.code x code maxLocals ret, Jvm.Cond.code ({ cls := "com/example/warrant/warrant/cli/PolicyFilesNamesPinLaw", name := "lengthOf", desc := "(I)I" } : Jvm.MethodName) method_3_code (2 : Nat) (Option.some Jvm.ClassFile.FieldType.int), Jvm.Cond.code ({ cls := "com/example/warrant/warrant/cli/PolicyFilesNamesPinLaw", name := "make", desc := "(ILjava/lang/String;ZICC)Ljava/lang/String;" } : Jvm.MethodName) method_4_code (18 : Nat) (Option.some (Jvm.ClassFile.FieldType.object "java/lang/String")), Jvm.Cond.code ({ cls := "com/example/warrant/warrant/cli/PolicyFilesNamesPinLaw", name := "at", desc := "(ILjava/lang/String;ZICC)C" } : Jvm.MethodName) method_2_code (6 : Nat) (Option.some Jvm.ClassFile.FieldType.char), Jvm.Cond.code ({ cls := "java/lang/String", name := "length", desc := "()I" } : Jvm.MethodName) jdk_42_method_54_code (1 : Nat) (Option.some Jvm.ClassFile.FieldType.int), Jvm.Cond.code ({ cls := "java/lang/String", name := "coder", desc := "()B" } : Jvm.MethodName) jdk_42_method_152_code (1 : Nat) (Option.some Jvm.ClassFile.FieldType.byte), Jvm.Cond.code ({ cls := "java/lang/String", name := "charAt", desc := "(I)C" } : Jvm.MethodName) jdk_42_method_56_code (2 : Nat) (Option.some Jvm.ClassFile.FieldType.char), Jvm.Cond.code ({ cls := "java/lang/String", name := "isLatin1", desc := "()Z" } : Jvm.MethodName) jdk_42_method_154_code (1 : Nat) (Option.some Jvm.ClassFile.FieldType.boolean), Jvm.Cond.code ({ cls := "java/lang/StringLatin1", name := "charAt", desc := "([BI)C" } : Jvm.MethodName) jdk_43_method_2_code (2 : Nat) (Option.some Jvm.ClassFile.FieldType.char), Jvm.Cond.code ({ cls := "java/lang/String", name := "checkIndex", desc := "(II)V" } : Jvm.MethodName) jdk_42_method_155_code (2 : Nat) (Option.none : Option Jvm.ClassFile.FieldType), Jvm.Cond.code ({ cls := "jdk/internal/util/Preconditions", name := "checkIndex", desc := "(IILjava/util/function/BiFunction;)I" } : Jvm.MethodName) jdk_41_method_11_code (3 : Nat) (Option.some Jvm.ClassFile.FieldType.int), Jvm.Cond.code ({ cls := "java/lang/String", name := "<init>", desc := "([C)V" } : Jvm.MethodName) jdk_42_method_3_code (2 : Nat) (Option.none : Option Jvm.ClassFile.FieldType), Jvm.Cond.code ({ cls := "java/lang/String", name := "<init>", desc := "([CIILjava/lang/Void;)V" } : Jvm.MethodName) jdk_42_method_149_code (6 : Nat) (Option.none : Option Jvm.ClassFile.FieldType), Jvm.Cond.code ({ cls := "java/lang/Object", name := "<init>", desc := "()V" } : Jvm.MethodName) object_method_1_code (1 : Nat) (Option.none : Option Jvm.ClassFile.FieldType), Jvm.Cond.code ({ cls := "java/lang/StringUTF16", name := "compress", desc := "([CII)[B" } : Jvm.MethodName) jdk_52_method_16_code (6 : Nat) (Option.some (Jvm.ClassFile.FieldType.array Jvm.ClassFile.FieldType.byte)), Jvm.Cond.code ({ cls := "java/lang/StringUTF16", name := "compress", desc := "([CI[BII)I" } : Jvm.MethodName) jdk_52_method_21_code (7 : Nat) (Option.some Jvm.ClassFile.FieldType.int), Jvm.Cond.code ({ cls := "java/lang/StringUTF16", name := "coderFromArrayLen", desc := "([BI)B" } : Jvm.MethodName) jdk_52_method_15_code (2 : Nat) (Option.some Jvm.ClassFile.FieldType.byte), Jvm.Cond.code ({ cls := "com/example/warrant/warrant/cli/PolicyFiles", name := "names", desc := "(Ljava/lang/String;)Z" } : Jvm.MethodName) prog_4_method_2_code (1 : Nat) (Option.some Jvm.ClassFile.FieldType.boolean), Jvm.Cond.code ({ cls := "java/lang/String", name := "equals", desc := "(Ljava/lang/Object;)Z" } : Jvm.MethodName) jdk_42_method_66_code (3 : Nat) (Option.some Jvm.ClassFile.FieldType.boolean), Jvm.Cond.code ({ cls := "java/lang/StringLatin1", name := "equals", desc := "([B[B)Z" } : Jvm.MethodName) jdk_43_method_13_code (3 : Nat) (Option.some Jvm.ClassFile.FieldType.boolean)]
set_option maxRecDepth 65536 in
theorem codes_eq : words1.filter isCode = codes1 := rfl
theorem w_codes : ∀ c ∈ words1.filter isCode, c.before args0 about1 = true := by
  rw [codes_eq]
  intro c hc
  simp only [codes1, List.mem_cons, List.not_mem_nil, or_false] at hc
  rcases hc with rfl | rfl | rfl | rfl | rfl | rfl | rfl | rfl | rfl | rfl | rfl | rfl | rfl | rfl | rfl | rfl | rfl | rfl | rfl | rfl
  · exact w_c0
  · exact w_c1
  · exact w_c2
  · exact w_c3
  · exact w_c4
  · exact w_c5
  · exact w_c6
  · exact w_c7
  · exact w_c8
  · exact w_c9
  · exact w_c10
  · exact w_c11
  · exact w_c12
  · exact w_c13
  · exact w_c14
  · exact w_c15
  · exact w_c16
  · exact w_c17
  · exact w_c18
  · exact w_c19
set_option maxRecDepth 65536 in
theorem w_t1 : (words1.take 24).all (fun c => isCode c || c.before args0 about1) = true := by decide +kernel
set_option maxRecDepth 65536 in
theorem w_t2 : ((words1.drop 24).take 24).all (fun c => isCode c || c.before args0 about1) = true := by decide +kernel
set_option maxRecDepth 65536 in
theorem w_t3 : (((words1.drop 24).drop 24).take 24).all (fun c => isCode c || c.before args0 about1) = true := by decide +kernel
set_option maxRecDepth 65536 in
theorem w_t4 : (((words1.drop 24).drop 24).drop 24).all (fun c => isCode c || c.before args0 about1) = true := by decide +kernel
theorem w_tables : (allAtoms (Jvm.Cond.code x code maxLocals ret :: tables_1)).before args0 about1 = true := by
  rw [allAtoms_all]
  show words1.all (fun c => c.before args0 about1) = true
  refine all_split ?_ w_codes
  rw [← List.take_append_drop 24 words1, List.all_append, w_t1, ← List.take_append_drop 24 (words1.drop 24), List.all_append, w_t2, ← List.take_append_drop 24 ((words1.drop 24).drop 24), List.all_append, w_t3, w_t4]
  rfl
set_option maxRecDepth 65536 in
theorem w_rest : rest_1_c.before args0 about1 = true := by decide +kernel
set_option maxRecDepth 65536 in
theorem w_case : (Jvm.Cond.and given_1 narrow_1).before args0 about1 = true := by decide +kernel
set_option maxRecDepth 65536 in
theorem w_consts : constsHeld consts_1 about1 := Jvm.Lit.constsHeldB_iff.mp (by decide +kernel)
theorem w_applies : (headSpec (Jvm.Cond.code x code maxLocals ret :: tables_1) room_1).applies x e0.platform about1 = true :=
  (Spec.applies_iff w_frames).mpr ⟨w_running, w_runnable, w_alone, w_named, w_hears, w_ripe, w_room, w_tables⟩
theorem atStart : AtStart classFile x code maxLocals ret World_1 tables_1 room_1 Calls_1 rest_1 Pre_1 launch0 p0 e0 about1 theMethod args0 below0 :=
  ⟨lists_1, trivial, launch0.admits_env _ _ _, launch0.least_env, fairChoices_fair.cas, fairChoices_fair.clock, w_frames, w_args, w_heap, w_applies, ⟨w_consts, trivial⟩, w_rest, w_case⟩
end start1
theorem witness_1 : WitnessClaimed_1 := ⟨start1.p0, start1.e0, start1.about1, start1.theMethod, start1.args0, start1.below0, start1.atStart⟩
end Jvm.Pilot.@@N@@
