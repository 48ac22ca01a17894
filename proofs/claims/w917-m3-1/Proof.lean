import JvmDerived
import JvmDerived.Pilot.@@N@@Statement
import JvmDerived.Pilot.@@N@@Code
set_option linter.unusedVariables false
set_option linter.unusedSimpArgs false
@@BLOCK:NumsL.lean.txt@@
namespace Jvm.Pilot.@@N@@
open Jvm Jvm.ClassFile Sem Op Lib Jvm.Free Jvm.Stand Jvm.LawKit Jvm.RoadKit Bundle Jvm.Pilot.@@N@@.Jvm.D
section OwnKit
variable {p : Program} {l : Launch} {e : Env} {R : Room} {s : State} {m : MethodId} {args : Array Value} {below : List Frame} {meth : Method} {c : Code} {T T' : State} {locs : List Loc} {cells slots : Nat} {Z : State} {a0 : Array Value} {h h' : Heap} {g g' : JFrame} {K : Outcome → State → Prop} {a b : Addr}
/-- from the frame g over T the run comes home with K -/
def Goes (p : Program) (e : Env) (below : List Frame) (K : Outcome → State → Prop) (T : State) (g : JFrame) : Prop :=
  ∃ s₂ o, Steps p.tables e below (T.setTop g) s₂ ∧ s₂.status = .running ∧ Ended s₂ below o ∧ K o s₂
theorem Goes.of (f : ∀ t, Steps p.tables e below (T'.setTop g') t → Steps p.tables e below (T.setTop g) t) (h : Goes p e below K T' g') : Goes p e below K T g := by
  obtain ⟨s₂, o, h1, h2⟩ := h; exact ⟨s₂, o, f _ h1, h2⟩
theorem Goes.tr (f : Steps p.tables e below (T.setTop g) (T'.setTop g')) (h : Goes p e below K T' g') : Goes p e below K T g := by
  obtain ⟨s₂, o, h1, h2⟩ := h; exact ⟨s₂, o, f.trans h1, h2⟩
theorem Goes.cast (q : g = g') (h : Goes p e below K T g') : Goes p e below K T g := q ▸ h
def OwnK (s : State) (Q : Option Value → Heap → List Loc → Prop) (C S : Nat) : Outcome → State → Prop := fun o U' => ∃ v L, o = .returned v ∧ Q v U'.heap L ∧ FrameEnd s o U' L C S
section Ret
variable {Q : Option Value → Heap → List Loc → Prop} {C S pc : Nat} {Ls : Array Slot} {rest : List Value}
theorem Goes.retInt (X : Stand p l e R s m args below meth c T locs cells slots) (hx : p.tables.exec = Jvm.exec) (hlk : meth.locks = false) {z : Int32} (hret : meth.sig.returnType = some .int) (hd : decode c.code pc = .ok (.ireturn, 1)) (hQ : Q (some (.int z)) T.heap locs) (hc : cells ≤ C) (hs : slots ≤ S) :
    Goes p e below (OwnK s Q C S) T (mkF m pc Ls (.int z :: rest)) := by
  obtain ⟨fs, hr, hrun, hended, hW, hsame⟩ := X.leave (v := some (.int z)) (fun h => by rw [hret] at h; cases h) hlk
  exact ⟨_, _, retOut X hx hret rfl (Or.inl ⟨rfl, Or.inl rfl, z, rfl⟩) hd hr, hrun, hended, _, _, rfl, hQ, ⟨_, rfl⟩, hW, hsame.mono hc hs⟩
theorem Goes.retNar (X : Stand p l e R s m args below meth c T locs cells slots) (hx : p.tables.exec = Jvm.exec) (hlk : meth.locks = false) {t : FieldType} {z : Int32} (ht : t = .boolean ∨ t = .byte ∨ t = .char ∨ t = .short) (hret : meth.sig.returnType = some t) (hd : decode c.code pc = .ok (.ireturn, 1)) (hQ : Q (some (.int (nar t z))) T.heap locs) (hc : cells ≤ C) (hs : slots ≤ S) :
    Goes p e below (OwnK s Q C S) T (mkF m pc Ls (.int z :: rest)) := by
  obtain ⟨fs, hr, hrun, hended, hW, hsame⟩ := X.leave (v := some (.int (nar t z))) (fun h => by rw [hret] at h; cases h) hlk
  exact ⟨_, _, retN X hx hret ht hd hr, hrun, hended, _, _, rfl, hQ, ⟨_, rfl⟩, hW, hsame.mono hc hs⟩
theorem Goes.retLong (X : Stand p l e R s m args below meth c T locs cells slots) (hx : p.tables.exec = Jvm.exec) (hlk : meth.locks = false) {z : Int64} (hret : meth.sig.returnType = some .long) (hd : decode c.code pc = .ok (.lreturn, 1)) (hQ : Q (some (.long z)) T.heap locs) (hc : cells ≤ C) (hs : slots ≤ S) :
    Goes p e below (OwnK s Q C S) T (mkF m pc Ls (.long z :: rest)) := by
  obtain ⟨fs, hr, hrun, hended, hW, hsame⟩ := X.leave (v := some (.long z)) (fun h => by rw [hret] at h; cases h) hlk
  exact ⟨_, _, retOut X hx hret rfl (Or.inr (Or.inl ⟨rfl, rfl, z, rfl⟩)) hd hr, hrun, hended, _, _, rfl, hQ, ⟨_, rfl⟩, hW, hsame.mono hc hs⟩
theorem Goes.retRef (X : Stand p l e R s m args below meth c T locs cells slots) (hx : p.tables.exec = Jvm.exec) (hlk : meth.locks = false) {t : FieldType} {w : Value} (hw : w.isRef = true) (ht : t.isReference = true) (hret : meth.sig.returnType = some t) (hd : decode c.code pc = .ok (.areturn, 1)) (hQ : Q (some w) T.heap locs) (hc : cells ≤ C) (hs : slots ≤ S) :
    Goes p e below (OwnK s Q C S) T (mkF m pc Ls (w :: rest)) := by
  obtain ⟨fs, hr, hrun, hended, hW, hsame⟩ := X.leave (v := some w) (fun h => by rw [hret] at h; cases h) hlk
  have hn : narrow t w = w := by cases t <;> first | (cases ht; done) | (cases w <;> first | (cases hw; done) | rfl)
  exact ⟨_, _, retOut X hx hret hn (Or.inr (Or.inr (Or.inr (Or.inr ⟨rfl, ht, hw⟩)))) hd hr, hrun, hended, _, _, rfl, hQ, ⟨_, rfl⟩, hW, hsame.mono hc hs⟩
theorem Goes.retVoid (X : Stand p l e R s m args below meth c T locs cells slots) (hx : p.tables.exec = Jvm.exec) (hlk : meth.locks = false) (hret : meth.sig.returnType = none) (hd : decode c.code pc = .ok (.return_, 1)) (hQ : Q none T.heap locs) (hc : cells ≤ C) (hs : slots ≤ S) :
    Goes p e below (OwnK s Q C S) T (mkF m pc Ls []) := by
  obtain ⟨fs, hr, hrun, hended, hW, hsame⟩ := X.leave (v := none) (fun _ => rfl) hlk
  exact ⟨_, _, X.returnOut hx hret hd hr, hrun, hended, _, _, rfl, hQ, ⟨_, rfl⟩, hW, hsame.mono hc hs⟩
end Ret
/-- an array of ints, chars, bytes (not of booleans): all of its elements -/
def AI (Z : State) (h : Heap) (a : Addr) (ty : FieldType) (xs : List Int32) : Prop := ∃ cl : Cell, Arr Z h a cl ty ∧ cl.slots.toList = xs.map Value.int ∧ xs.length < 2 ^ 31 ∧ ∀ x ∈ xs, fits ty (.int x) = true
section Arrs
variable {ty : FieldType} {xs : List Int32} {sl : Nat} {v : Value} {ws : List Addr} {j x : Int32} {i : Nat} {rest : List Value}
theorem AI.lt (F : AI Z h a ty xs) : a < h.size := by obtain ⟨cl, A, -⟩ := F; exact A.lt
theorem AI.ext (F : AI Z h a ty xs) (E : Ext h h') : AI Z h' a ty xs := by obtain ⟨cl, A, r⟩ := F; exact ⟨cl, A.ext E, r⟩
theorem AI.other (F : AI Z h b ty xs) (W : Wr h h' a sl v) (q : b ≠ a) : AI Z h' b ty xs := by obtain ⟨cl, A, r⟩ := F; exact ⟨cl, A.other W q, r⟩
theorem AI.keep (F : AI Z h a ty xs) (K : Keep h h' ws) (q : a ∉ ws) : AI Z h' a ty xs := by obtain ⟨cl, A, r⟩ := F; exact ⟨cl, ⟨K.2.1 a cl A.1 q, A.2⟩, r⟩
theorem own_idx {cl : Cell} (hsz : cl.slots.toList = xs.map Value.int) (hj : j.toInt = (i : Int)) (hi : i < xs.length) : ¬ (j < 0 ∨ cl.slots.size ≤ j.toNatClampNeg) ∧ j.toNatClampNeg = i := by
  have hl : cl.slots.size = xs.length := by rw [← Array.length_toList, hsz, List.length_map]
  have hn : j.toNatClampNeg = i := by simp only [Int32.toNatClampNeg, hj]; rfl
  refine ⟨?_, hn⟩
  rw [hn, hl, Int32.lt_iff_toInt_lt, hj]
  have e0 : (0 : Int32).toInt = 0 := rfl
  omega
theorem own_at {cl : Cell} (hsz : cl.slots.toList = xs.map Value.int) (hi : xs[i]? = some x) : cl.slots[i]? = some (.int x) := by
  rw [← Array.getElem?_toList, hsz, List.getElem?_map, hi]; rfl
theorem AI.iaload (X : Stand p l e R s m args below meth c T locs cells slots) (hx : p.tables.exec = Jvm.exec) (hZ : Z.Warmed39 s.vm) (eT : T.heap = h) (A : AI Z h a .int xs) (hj : j.toInt = (i : Int)) (hi : xs[i]? = some x) (hg : g.method = m) (hs : g.stack = .int j :: .ref a :: rest) (hd : decode c.code g.pc = .ok (.iaload, 1)) :
    ∀ t, Steps p.tables e below (T.setTop { g with pc := g.pc + 1, stack := .int x :: rest }) t → Steps p.tables e below (T.setTop g) t := by
  obtain ⟨cl, A1, h1, h2, h3⟩ := A
  obtain ⟨q1, q2⟩ := own_idx h1 hj (List.getElem?_eq_some_iff.mp hi).1
  exact X.iaload hx (by rw [eT]; exact A1.1) (State.isArrayOf_alike hZ.alike A1.2.1) A1.2.2 q1 (by rw [q2]; exact own_at h1 hi) hg hs hd
theorem AI.caload (X : Stand p l e R s m args below meth c T locs cells slots) (hx : p.tables.exec = Jvm.exec) (hZ : Z.Warmed39 s.vm) (eT : T.heap = h) (A : AI Z h a .char xs) (hj : j.toInt = (i : Int)) (hi : xs[i]? = some x) (hg : g.method = m) (hs : g.stack = .int j :: .ref a :: rest) (hd : decode c.code g.pc = .ok (.caload, 1)) :
    ∀ t, Steps p.tables e below (T.setTop { g with pc := g.pc + 1, stack := .int x :: rest }) t → Steps p.tables e below (T.setTop g) t := by
  obtain ⟨cl, A1, h1, h2, h3⟩ := A
  obtain ⟨q1, q2⟩ := own_idx h1 hj (List.getElem?_eq_some_iff.mp hi).1
  exact X.caload hx (by rw [eT]; exact A1.1) (State.isArrayOf_alike hZ.alike A1.2.1) A1.2.2 q1 (by rw [q2]; exact own_at h1 hi) hg hs hd
theorem AI.baload (X : Stand p l e R s m args below meth c T locs cells slots) (hx : p.tables.exec = Jvm.exec) (hZ : Z.Warmed39 s.vm) (eT : T.heap = h) (A : AI Z h a .byte xs) (hj : j.toInt = (i : Int)) (hi : xs[i]? = some x) (hg : g.method = m) (hs : g.stack = .int j :: .ref a :: rest) (hd : decode c.code g.pc = .ok (.baload, 1)) :
    ∀ t, Steps p.tables e below (T.setTop { g with pc := g.pc + 1, stack := .int x :: rest }) t → Steps p.tables e below (T.setTop g) t := by
  obtain ⟨cl, A1, h1, h2, h3⟩ := A
  obtain ⟨q1, q2⟩ := own_idx h1 hj (List.getElem?_eq_some_iff.mp hi).1
  exact X.baloadBytes hx (by rw [eT]; exact A1.1) (State.isArrayOf_alike hZ.alike A1.2.1) A1.2.2 q1 (by rw [q2]; exact own_at h1 hi) hg hs hd
theorem AI.arraylength (X : Stand p l e R s m args below meth c T locs cells slots) (hx : p.tables.exec = Jvm.exec) (hZ : Z.Warmed39 s.vm) (eT : T.heap = h) (A : AI Z h a ty xs) (hj : j.toInt = (xs.length : Int)) (hg : g.method = m) (hs : g.stack = .ref a :: rest) (hd : decode c.code g.pc = .ok (.arraylength, 1)) :
    ∀ t, Steps p.tables e below (T.setTop { g with pc := g.pc + 1, stack := .int j :: rest }) t → Steps p.tables e below (T.setTop g) t := by
  obtain ⟨cl, A1, h1, h2, h3⟩ := A
  intro t k
  have hl : cl.slots.size = xs.length := by rw [← Array.length_toList, h1, List.length_map]
  have ej : cl.slots.size.toInt32 = j := by
    rw [hl]
    apply Int32.toInt_inj.mp
    rw [hj]; exact len_toInt h2
  refine X.arraylength hx (by rw [eT]; exact A1.1) (State.isArrayOf_alike hZ.alike A1.2.1) hg hs hd t ?_
  rw [ej]; exact k
theorem own_set {cl : Cell} (A : Arr Z h a cl ty) (h1 : cl.slots.toList = xs.map Value.int) (h2 : xs.length < 2 ^ 31) (h3 : ∀ x ∈ xs, fits ty (.int x) = true) (hf : fits ty (.int x) = true) (W : Wr h h' a i (.int x)) : AI Z h' a ty (xs.set i x) :=
  ⟨_, A.same W, by simp [Cell.setSlot, h1, List.map_set], by rw [List.length_set]; exact h2, fun y hy => by
    rcases List.mem_or_eq_of_mem_set hy with q | q
    · exact h3 y q
    · rw [q]; exact hf⟩
theorem AI.iastore (X : Stand p l e R s m args below meth c T locs cells slots) (hx : p.tables.exec = Jvm.exec) (hZ : Z.Warmed39 s.vm) (eT : T.heap = h) (A : AI Z h a .int xs) (hj : j.toInt = (i : Int)) (hi : i < xs.length) (hg : g.method = m) (hs : g.stack = .int x :: .int j :: .ref a :: rest) (hd : decode c.code g.pc = .ok (.iastore, 1)) :
    ∃ T' h', Stand p l e R s m args below meth c T' (locs ++ [⟨a, i⟩]) cells slots ∧ T'.heap = h' ∧ Wr h h' a i (.int x) ∧ AI Z h' a .int (xs.set i x) ∧ ∀ target, Steps p.tables e below (T'.setTop { g with pc := g.pc + 1, stack := rest }) target → Steps p.tables e below (T.setTop g) target := by
  obtain ⟨cl, A1, h1, h2, h3⟩ := A
  obtain ⟨q1, q2⟩ := own_idx h1 hj hi
  obtain ⟨T', h', X', e', W', st⟩ := stI X hx hZ eT A1 q1 hg hs hd
  rw [q2] at X' W'
  exact ⟨T', h', X', e', W', own_set A1 h1 h2 h3 rfl W', st⟩
theorem AI.castore (X : Stand p l e R s m args below meth c T locs cells slots) (hx : p.tables.exec = Jvm.exec) (hZ : Z.Warmed39 s.vm) (eT : T.heap = h) (A : AI Z h a .char xs) (hj : j.toInt = (i : Int)) (hi : i < xs.length) (hg : g.method = m) (hs : g.stack = .int x :: .int j :: .ref a :: rest) (hd : decode c.code g.pc = .ok (.castore, 1)) :
    ∃ T' h', Stand p l e R s m args below meth c T' (locs ++ [⟨a, i⟩]) cells slots ∧ T'.heap = h' ∧ Wr h h' a i (.int (nar .char x)) ∧ AI Z h' a .char (xs.set i (nar .char x)) ∧ ∀ target, Steps p.tables e below (T'.setTop { g with pc := g.pc + 1, stack := rest }) target → Steps p.tables e below (T.setTop g) target := by
  obtain ⟨cl, A1, h1, h2, h3⟩ := A
  obtain ⟨q1, q2⟩ := own_idx h1 hj hi
  obtain ⟨T', h', X', e', W', st⟩ := stC X hx hZ eT A1 q1 hg hs hd
  rw [q2] at X' W'
  exact ⟨T', h', X', e', W', own_set A1 h1 h2 h3 (fits_nar_char _) W', st⟩
theorem AI.bastore (X : Stand p l e R s m args below meth c T locs cells slots) (hx : p.tables.exec = Jvm.exec) (hZ : Z.Warmed39 s.vm) (eT : T.heap = h) (A : AI Z h a .byte xs) (hj : j.toInt = (i : Int)) (hi : i < xs.length) (hg : g.method = m) (hs : g.stack = .int x :: .int j :: .ref a :: rest) (hd : decode c.code g.pc = .ok (.bastore, 1)) :
    ∃ T' h', Stand p l e R s m args below meth c T' (locs ++ [⟨a, i⟩]) cells slots ∧ T'.heap = h' ∧ Wr h h' a i (.int (nar .byte x)) ∧ AI Z h' a .byte (xs.set i (nar .byte x)) ∧ ∀ target, Steps p.tables e below (T'.setTop { g with pc := g.pc + 1, stack := rest }) target → Steps p.tables e below (T.setTop g) target := by
  obtain ⟨cl, A1, h1, h2, h3⟩ := A
  obtain ⟨q1, q2⟩ := own_idx h1 hj hi
  obtain ⟨T', h', X', e', W', st⟩ := stB X hx hZ eT A1 q1 hg hs hd
  rw [q2] at X' W'
  exact ⟨T', h', X', e', W', own_set A1 h1 h2 h3 (fits_nar_byte _) W', st⟩
theorem AI.fresh {cA : ClassId} {n : Int32} {k : Nat} (ht : ty = .int ∨ ty = .char ∨ ty = .byte ∨ ty = .short) (hn : n.toInt = (k : Int)) (A : Arr Z h a (newA cA ty n) ty) : AI Z h a ty (List.replicate k 0) := by
  have e : n.toNatClampNeg = k := by simp only [Int32.toNatClampNeg, hn]; rfl
  have hk := n.toInt_lt
  refine ⟨_, A, ?_, ?_, ?_⟩
  · rcases ht with rfl | rfl | rfl | rfl <;> simp [newA, e, defaultValue]
  · rw [List.length_replicate]; omega
  · intro x hx
    obtain rfl := List.eq_of_mem_replicate hx
    rcases ht with rfl | rfl | rfl | rfl <;> rfl
end Arrs
end OwnKit
section OwnKit2
variable {p : Program} {l : Launch} {e : Env} {R : Room} {s : State} {m : MethodId} {args : Array Value} {below : List Frame} {meth : Method} {c : Code} {T T' : State} {locs : List Loc} {cells slots : Nat} {Z : State} {a0 : Array Value} {h h' : Heap} {g g' : JFrame} {a b : Addr} {ty : FieldType} {xs : List Int32}
theorem AI.arv (F : AI Z h a ty xs) {n : Int32} (hn : n.toInt = (xs.length : Int)) : ∃ k, Arv Z h a k ty n (xs.map Value.int) (.int 0) := by
  obtain ⟨cl, A, h1, h2, h3⟩ := F
  have e : n.toNatClampNeg = xs.length := by simp only [Int32.toNatClampNeg, hn]; rfl
  have hl : cl.slots.size = xs.length := by rw [← Array.length_toList, h1, List.length_map]
  refine ⟨cl.cls, cl, A, rfl, by rw [hl, e], by rw [Int32.lt_iff_toInt_lt, hn]; have z : (0 : Int32).toInt = 0 := rfl; omega, fun i hi => ?_, fun i hi => ?_⟩
  · rw [← Array.getElem?_toList, h1, List.getD_eq_getElem?_getD]
    rw [hl] at hi
    rw [List.getElem?_map, List.getElem?_eq_getElem hi]; rfl
  · rw [hl] at hi
    rw [List.getD_eq_getElem?_getD, List.getElem?_map, List.getElem?_eq_getElem hi]
    exact h3 _ (List.getElem_mem hi)
theorem AI.ofArv {k : ClassId} {n : Int32} {vs : List Value} {d : Value} (F : Arv Z h a k ty n vs d) (hn : n.toInt = (xs.length : Int)) (hv : vs = xs.map Value.int) : AI Z h a ty xs := by
  obtain ⟨cl, A, -, S, q, H, G⟩ := F
  have e : n.toNatClampNeg = xs.length := by simp only [Int32.toNatClampNeg, hn]; rfl
  have hl : cl.slots.size = xs.length := by rw [S, e]
  have hk := n.toInt_lt
  refine ⟨cl, A, ?_, by omega, ?_⟩
  · apply List.ext_getElem?
    intro i
    by_cases hi : i < xs.length
    · rw [Array.getElem?_toList, H i (by rw [hl]; exact hi), hv, List.getD_eq_getElem?_getD, List.getElem?_map, List.getElem?_eq_getElem hi]; rfl
    · rw [List.getElem?_eq_none (by rw [Array.length_toList, hl]; omega), List.getElem?_eq_none (by rw [List.length_map]; omega)]
  · intro x hx
    obtain ⟨i, hi, rfl⟩ := List.getElem_of_mem hx
    have := G i (by rw [hl]; exact hi)
    rw [hv, List.getD_eq_getElem?_getD, List.getElem?_map, List.getElem?_eq_getElem hi] at this
    exact this
theorem AI.clone (X : Stand p l e R s m args below meth c T locs cells slots) (hx : p.tables.exec = Jvm.exec) (hZ : Z.Warmed39 s.vm) {own ad : String} {index : Nat} (hown : s.vm.findClass own = some m.cls)
    (w1 : (Cond.methodLink own index ⟨ad, "clone", "()Ljava/lang/Object;"⟩).before a0 Z = true) (w2 : (Cond.sameMethod ad "java/lang/Object" "clone" "()Ljava/lang/Object;").before a0 Z = true) (w3 : (Cond.native ⟨"java/lang/Object", "clone", "()Ljava/lang/Object;"⟩).before a0 Z = true)
    (w4 : (Cond.instanceMethod ⟨"java/lang/Object", "clone", "()Ljava/lang/Object;"⟩).before a0 Z = true) (w5 : (Cond.selects ad ⟨ad, "clone", "()Ljava/lang/Object;"⟩ ⟨"java/lang/Object", "clone", "()Ljava/lang/Object;"⟩).before a0 Z = true) (w6 : (Cond.castable ad "java/lang/Cloneable").before a0 Z = true)
    (eT : T.heap = h) (F : AI Z h a ty xs) (E : Exa Z h a ad) (hg : g.method = m) (hsize : g.locals.size = c.maxLocals) {rest : List Value} (hst : g.stack = .ref a :: rest) (hd : decode c.code g.pc = .ok (.invokevirtual index, 3))
    (hf : 1 ≤ R.frames) {W cap : Nat} (hW : 2 * g.monitorRoom + (rest.map fun v => v.category).sum ≤ W) (hl : W + 14 ≤ R.locals) (hcap : xs.length ≤ cap) (hc : cells + 1 ≤ R.cells) (hsl : slots + cap ≤ R.slots) :
    ∃ T' h', Stand p l e R s m args below meth c T' locs (cells + 1) (slots + cap) ∧ T'.heap = h' ∧ Ext h h' ∧ AI Z h' h.size ty xs ∧ Exa Z h' h.size ad ∧
      ∀ target, Steps p.tables e below (T'.setTop { g with pc := g.pc + 3, stack := .ref h.size :: rest }) target → Steps p.tables e below (T.setTop g) target := by
  obtain ⟨cl, A, h1, h2, h3⟩ := F
  have hlen : cl.slots.size = xs.length := by rw [← Array.length_toList, h1, List.length_map]
  have FC : FitC Z cl := fitC_of A fun i hi v hv => by
    rw [← Array.getElem?_toList, h1, List.getElem?_map] at hv
    rw [hlen] at hi
    rw [List.getElem?_eq_getElem hi] at hv
    cases hv
    exact h3 _ (List.getElem_mem hi)
  obtain ⟨T', h', X', e', ex, A', E', st⟩ := cloneA X hx hZ hown w1 w2 w3 w4 w5 w6 eT A E FC hg hsize hst hd hf hW hl (by rw [hlen]; exact hcap) hc hsl
  exact ⟨T', h', X', e', ex, ⟨cloneOf cl, A', h1, h2, h3⟩, E', st⟩
theorem AI.copy (X : Stand p l e R s m args below meth c T locs cells slots) (hx : p.tables.exec = Jvm.exec) (hZ : Z.Warmed39 s.vm) {own : String} {index : Nat} (hown : s.vm.findClass own = some m.cls)
    (w1 : (Cond.methodLink own index Jvm.Stand.acN).before a0 Z = true) (w2 : (Cond.native Jvm.Stand.acN).before a0 Z = true) (w3 : (Cond.static Jvm.Stand.acN).before a0 Z = true) (w4 : (Cond.initialized "java/lang/System").before a0 Z = true) (eT : T.heap = h)
    {ys : List Int32} {sp dp nn : Int32} {i j k : Nat} (A : AI Z h a ty xs) (B : AI Z h b ty ys) (hty : refKind ty = false) (hi : sp.toInt = (i : Int)) (hj : dp.toInt = (j : Int)) (hk : nn.toInt = (k : Int)) (h4 : i + k ≤ xs.length) (h5 : j + k ≤ ys.length) {n0 : Nat} (N : Fr n0 locs) (ge : n0 ≤ b)
    (hg : g.method = m) (hsize : g.locals.size = c.maxLocals) {rest : List Value} (hs : g.stack = .int nn :: .int dp :: .ref b :: .int sp :: .ref a :: rest) (hd : decode c.code g.pc = .ok (.invokestatic index, 3))
    (hf : 1 ≤ R.frames) {W : Nat} (hW : 2 * g.monitorRoom + (rest.map fun v => v.category).sum ≤ W) (hlo : W + (nativeFrameWords "java/lang/System" "arraycopy" 5 + 11) ≤ R.locals) :
    ∃ T' h' L, Stand p l e R s m args below meth c T' L cells slots ∧ T'.heap = h' ∧ Fr n0 L ∧ Keep h h' [b] ∧ AI Z h' b ty (ys.take j ++ (xs.drop i).take k ++ ys.drop (j + k)) ∧
      ∀ target, Steps p.tables e below (T'.setTop { g with pc := g.pc + 3, stack := rest }) target → Steps p.tables e below (T.setTop g) target := by
  have lx : xs.length < 2 ^ 31 := by obtain ⟨_, _, _, q, _⟩ := A; exact q
  have ly : ys.length < 2 ^ 31 := by obtain ⟨_, _, _, q, _⟩ := B; exact q
  have ex : (xs.length.toInt32).toInt = (xs.length : Int) := len_toInt lx
  have ey : (ys.length.toInt32).toInt = (ys.length : Int) := len_toInt ly
  obtain ⟨k1, A1⟩ := A.arv ex
  obtain ⟨k2, B1⟩ := B.arv ey
  have cl : ∀ {x : Int32} {q : Nat}, x.toInt = (q : Int) → x.toNatClampNeg = q := fun {x q} r => by simp only [Int32.toNatClampNeg, r]; rfl
  have ng : ∀ {x : Int32} {q : Nat}, x.toInt = (q : Int) → ¬ x < 0 := fun {x q} r => by rw [Int32.lt_iff_toInt_lt, r]; have z : (0 : Int32).toInt = 0 := rfl; omega
  obtain ⟨T', h', L, X', e', N', K', V', st⟩ := cpA X hx hZ hown w1 w2 w3 w4 eT A1 B1 (Or.inl ⟨rfl, hty⟩) (ng hi) (ng hj) (ng hk) (by rw [cl hi, cl hk, cl ex]; exact h4) (by rw [cl hj, cl hk, cl ey]; exact h5) rfl (by rw [cl hj, cl hk, List.length_map]; exact h5) N ge hg hsize hs hd hf hW hlo
  refine ⟨T', h', L, X', e', N', K', AI.ofArv V' ?_ ?_, st⟩
  · rw [ey]
    simp only [List.length_append, List.length_take, List.length_drop]
    omega
  · rw [cl hi, cl hj, cl hk, List.map_append, List.map_append, List.map_take, List.map_drop, List.map_take, List.map_drop]
    congr 2
    apply List.ext_getElem?
    intro q
    by_cases hq : q < k
    · rw [List.getElem?_map, List.getElem?_range hq, List.getElem?_take_of_lt hq, List.getElem?_drop, List.getElem?_map]
      simp only [Option.map_some, List.getD_eq_getElem?_getD, List.getElem?_map]
      rw [List.getElem?_eq_getElem (show i + q < xs.length by omega)]; rfl
    · rw [List.getElem?_eq_none (by simp only [List.length_map, List.length_range]; omega), List.getElem?_eq_none (by simp only [List.length_take, List.length_drop, List.length_map]; omega)]
end OwnKit2
section OwnKitW
variable {p : Program} {l : Launch} {e : Env} {R : Room} {s : State} {m : MethodId} {args : Array Value} {below : List Frame} {meth : Method} {c : Code} {T T' : State} {locs : List Loc} {cells slots : Nat} {Z : State} {a0 : Array Value} {h h' : Heap} {g g' : JFrame} {a b : Addr} {vm0 : Vm} {k0 : Nat}
def OwnKW (s : State) (Q : Option Value → Heap → List Loc → Prop) (C S : Nat) : Outcome → State → Prop := fun o U' => ∃ v L, o = .returned v ∧ Q v U'.heap L ∧ ReturnedEndW s o U' L C S
theorem own_endW {s t : State} {o : Outcome} {L : List Loc} {k n k' n' : Nat} (h : ReturnedEndW s o t L k n) (hk : k ≤ k') (hn : n ≤ n') : ReturnedEndW s o t L k' n' := ⟨h.1, h.2.1, h.2.2.1, h.2.2.2.mono hk hn⟩
variable {Q : Option Value → Heap → List Loc → Prop} {C S pc : Nat} {Ls : Array Slot} {rest : List Value}
theorem Goes.retIntW (X : Stand p l e R (s.setVm vm0) m args below meth c T locs cells slots) (hS : s.Since vm0 k0) (hk : k0 ≤ T.heap.size) (hx : p.tables.exec = Jvm.exec) (hlk : meth.locks = false) {z : Int32} (hret : meth.sig.returnType = some .int) (hd : decode c.code pc = .ok (.ireturn, 1)) (hQ : Q (some (.int z)) T.heap locs) (hc : cells ≤ C) (hs : slots ≤ S) :
    Goes p e below (OwnKW s Q C S) T (mkF m pc Ls (.int z :: rest)) := by
  obtain ⟨fs, hr, hrun, hended, hW⟩ := X.leaveW hS hk (v := some (.int z)) (fun h => by rw [hret] at h; cases h) hlk
  exact ⟨_, _, retOut X hx hret rfl (Or.inl ⟨rfl, Or.inl rfl, z, rfl⟩) hd hr, hrun, hended, _, _, rfl, hQ, own_endW hW hc hs⟩
theorem Goes.retNarW (X : Stand p l e R (s.setVm vm0) m args below meth c T locs cells slots) (hS : s.Since vm0 k0) (hk : k0 ≤ T.heap.size) (hx : p.tables.exec = Jvm.exec) (hlk : meth.locks = false) {t : FieldType} {z : Int32} (ht : t = .boolean ∨ t = .byte ∨ t = .char ∨ t = .short) (hret : meth.sig.returnType = some t) (hd : decode c.code pc = .ok (.ireturn, 1)) (hQ : Q (some (.int (nar t z))) T.heap locs) (hc : cells ≤ C) (hs : slots ≤ S) :
    Goes p e below (OwnKW s Q C S) T (mkF m pc Ls (.int z :: rest)) := by
  obtain ⟨fs, hr, hrun, hended, hW⟩ := X.leaveW hS hk (v := some (.int (nar t z))) (fun h => by rw [hret] at h; cases h) hlk
  exact ⟨_, _, retN X hx hret ht hd hr, hrun, hended, _, _, rfl, hQ, own_endW hW hc hs⟩
theorem Goes.retRefW (X : Stand p l e R (s.setVm vm0) m args below meth c T locs cells slots) (hS : s.Since vm0 k0) (hk : k0 ≤ T.heap.size) (hx : p.tables.exec = Jvm.exec) (hlk : meth.locks = false) {t : FieldType} {w : Value} (hw : w.isRef = true) (ht : t.isReference = true) (hret : meth.sig.returnType = some t) (hd : decode c.code pc = .ok (.areturn, 1)) (hQ : Q (some w) T.heap locs) (hc : cells ≤ C) (hs : slots ≤ S) :
    Goes p e below (OwnKW s Q C S) T (mkF m pc Ls (w :: rest)) := by
  obtain ⟨fs, hr, hrun, hended, hW⟩ := X.leaveW hS hk (v := some w) (fun h => by rw [hret] at h; cases h) hlk
  have hn : narrow t w = w := by cases t <;> first | (cases ht; done) | (cases w <;> first | (cases hw; done) | rfl)
  exact ⟨_, _, retOut X hx hret hn (Or.inr (Or.inr (Or.inr (Or.inr ⟨rfl, ht, hw⟩)))) hd hr, hrun, hended, _, _, rfl, hQ, own_endW hW hc hs⟩
theorem Goes.retVoidW (X : Stand p l e R (s.setVm vm0) m args below meth c T locs cells slots) (hS : s.Since vm0 k0) (hk : k0 ≤ T.heap.size) (hx : p.tables.exec = Jvm.exec) (hlk : meth.locks = false) (hret : meth.sig.returnType = none) (hd : decode c.code pc = .ok (.return_, 1)) (hQ : Q none T.heap locs) (hc : cells ≤ C) (hs : slots ≤ S) :
    Goes p e below (OwnKW s Q C S) T (mkF m pc Ls []) := by
  obtain ⟨fs, hr, hrun, hended, hW⟩ := X.leaveW hS hk (v := none) (fun _ => rfl) hlk
  exact ⟨_, _, X.returnOut hx hret hd hr, hrun, hended, _, _, rfl, hQ, own_endW hW hc hs⟩
end OwnKitW
section OwnKitS
variable {Z : State} {h h' : Heap} {a b : Addr} {ty : FieldType} {xs ys : List Int32}
theorem AI.inj (F : AI Z h a ty xs) (G : AI Z h a ty ys) : xs = ys := by
  obtain ⟨c1, A, h1, -⟩ := F
  obtain ⟨c2, B, g1, -⟩ := G
  cases A.1.symm.trans B.1
  exact (List.map_inj_right (fun x y q => Value.int.inj q)).mp (h1.symm.trans g1)
theorem Fld.injV {C n d : String} {v w : Value} (F : Fld Z h a C n d v) (G : Fld Z h a C n d w) : v = w :=
  Classical.byContradiction fun q => Fld.ne F G q rfl
end OwnKitS
theorem d1_0 : decode prog_52_method_4_code 0 = .ok (.aload_n 0, 1) := by decide +kernel
theorem d1_1 : decode prog_52_method_4_code 1 = .ok (.getstatic 3, 3) := by decide +kernel
theorem d1_4 : decode prog_52_method_4_code 4 = .ok (.if_acmp .ne 9, 3) := by decide +kernel
theorem d1_7 : decode prog_52_method_4_code 7 = .ok (.getstatic 29, 3) := by decide +kernel
theorem d1_10 : decode prog_52_method_4_code 10 = .ok (.goto 6, 3) := by decide +kernel
theorem d1_13 : decode prog_52_method_4_code 13 = .ok (.getstatic 34, 3) := by decide +kernel
theorem d1_16 : decode prog_52_method_4_code 16 = .ok (.areturn, 1) := by decide +kernel
theorem pn_1 : plainFor (⟨"com/example/warrant/warrant/model/Effect", "decision", "()Lcom/example/warrant/warrant/model/Decision;"⟩ : MethodName) = true := plainFor_of_name (by first | (simp [plainName, overriddenIn]; done) | decide +kernel)
theorem ef_1P (m : MethodId) (x0 : Addr) : entryFrame m #[(.ref x0)] 1 = mkF m 0 #[.val (.ref x0)] [] := by first | (simp [entryFrame, mkF, argsToLocals, Value.category]; done) | rfl
def Q1P (Z : State) (a1 : Addr) (dr : Addr) (h0 : Heap) (n0 : Nat) (v : Option Value) (h : Heap) (L : List Loc) : Prop := v = some (.ref dr) ∧ Fr n0 L ∧ h = h0
set_option maxRecDepth 65536 in
set_option maxHeartbeats 40000000 in
theorem rm1P (l : Launch) (Z : State) (a0 : Array Value) (hw : ∀ d ∈ tables_1, d.before a0 Z = true) (ws : List Jvm.Cond) (a1 : Addr) (dr : Addr) (h0 : Heap) (n0 : Nat) (Z0 : n0 ≤ h0.size) (S1 : Sta Z h0 "com/example/warrant/warrant/model/Effect" "PERMIT" "Lcom/example/warrant/warrant/model/Effect;" (.ref a1)) (S2 : Sta Z h0 "com/example/warrant/warrant/model/Decision" "PERMIT" "Lcom/example/warrant/warrant/model/Decision;" (.ref dr)) :
    MetFree l (⟨"com/example/warrant/warrant/model/Effect", "decision", "()Lcom/example/warrant/warrant/model/Decision;"⟩ : MethodName) (head1 (Jvm.Cond.code (⟨"com/example/warrant/warrant/model/Effect", "decision", "()Lcom/example/warrant/warrant/model/Decision;"⟩ : MethodName) prog_52_method_4_code 1 (some (.object "com/example/warrant/warrant/model/Decision")) :: ws) ({ frames := 0, cells := 0, slots := 0, locals := 0 } : Room)) (fun a U => a = #[(.ref a1)] ∧ Z.Warmed39 U.vm ∧ U.heap = h0) (fun _ _ _ _ _ => True) (fun _ U o U' => ∃ v L, o = .returned v ∧ Q1P Z a1 dr h0 n0 v U'.heap L ∧ FrameEnd U o U' L ({ frames := 0, cells := 0, slots := 0, locals := 0 } : Room).cells ({ frames := 0, cells := 0, slots := 0, locals := 0 } : Room).slots) := by
  refine MetFree.of_bodySF pn_1 hisR ?_
  intro p e s m args below meth c s₁ Bd hml0 hP hK
  obtain ⟨rfl, hZ, hh⟩ := hP
  have hx := Bd.exec
  have hby := Bd.bytes
  have hml : c.maxLocals = 1 := hml0
  have hown : s.vm.findClass "com/example/warrant/warrant/model/Effect" = some m.cls := findClass_of_methodNamed Bd.named
  have hnm := (name_of_methodNamed Bd.named Bd.method).1
  have hlk : meth.locks = false := BodyLoose.notSynchronized Bd
  have X0 : Stand p l e ({ frames := 0, cells := 0, slots := 0, locals := 0 } : Room) s m #[(.ref a1)] below meth c s₁ [] 0 0 := Stand.of_body Bd
  have e0 : s₁.heap = h0 := by rw [← hh, Bd.state]; rfl
  have N0 := Fr.nil n0
  show Goes p e below (OwnK s (Q1P Z a1 dr h0 n0) ({ frames := 0, cells := 0, slots := 0, locals := 0 } : Room).cells ({ frames := 0, cells := 0, slots := 0, locals := 0 } : Room).slots) s₁ (entryFrame m #[(.ref a1)] 1)
  refine Goes.cast (ef_1P m a1) ?_
  generalize hKK : OwnK s (Q1P Z a1 dr h0 n0) ({ frames := 0, cells := 0, slots := 0, locals := 0 } : Room).cells ({ frames := 0, cells := 0, slots := 0, locals := 0 } : Room).slots = KK
  show Goes p e below KK s₁ (mkF m 0 #[.val (.ref a1)] [])
  have w_8 := hw _ (List.mem_of_getElem? (i := 8) rfl)
  have w_9 := hw _ (List.mem_of_getElem? (i := 9) rfl)
  refine Goes.of (fun t => XS.aloadN X0.here hx rfl (hb hby d1_0) rfl rfl) ?_
  show Goes p e below KK s₁ (mkF m 1 #[.val (.ref a1)] [(.ref a1)])
  obtain ⟨T1, X1, e1, st1⟩ := getS2 X0 hx hZ hown (host := "") (Or.inl w_8) Via.refl e0 S1 (g := (mkF m 1 #[.val (.ref a1)] [(.ref a1)])) rfl (hb hby d1_1)
  refine Goes.of (st1) ?_
  show Goes p e below KK T1 (mkF m 4 #[.val (.ref a1)] [(.ref a1), (.ref a1)])
  refine Goes.of (fun t => Jvm.RoadKit.acmp (g := (mkF m 4 #[.val (.ref a1)] [(.ref a1), (.ref a1)])) X1 hx rfl rfl rfl (pc0 := 4) (pc' := 7) (same := true) rfl (hb hby d1_4) rfl (decide_eq_true rfl) (by decide) (by decide)) ?_
  show Goes p e below KK T1 (mkF m 7 #[.val (.ref a1)] [])
  obtain ⟨T2, X2, e2, st2⟩ := getS2 X1 hx hZ hown (host := "") (Or.inl w_9) Via.refl e1 S2 (g := (mkF m 7 #[.val (.ref a1)] [])) rfl (hb hby d1_7)
  refine Goes.of (st2) ?_
  show Goes p e below KK T2 (mkF m 10 #[.val (.ref a1)] [(.ref dr)])
  refine Goes.of (fun t => XS.goto X2.here hx rfl (pc0 := 10) (pc' := 16) rfl (hb hby d1_10) (by decide) (by decide)) ?_
  show Goes p e below KK T2 (mkF m 16 #[.val (.ref a1)] [(.ref dr)])
  rw [← hKK]
  refine Goes.retRef X2 hx hlk rfl rfl Bd.returns (hb hby d1_16) ?_ (by decide) (by decide)
  rw [e2]
  exact ⟨rfl, N0, rfl⟩
theorem ef_1D (m : MethodId) (x0 : Addr) : entryFrame m #[(.ref x0)] 1 = mkF m 0 #[.val (.ref x0)] [] := by first | (simp [entryFrame, mkF, argsToLocals, Value.category]; done) | rfl
def Q1D (Z : State) (a1 : Addr) (eP : Addr) (dr : Addr) (h0 : Heap) (n0 : Nat) (v : Option Value) (h : Heap) (L : List Loc) : Prop := v = some (.ref dr) ∧ Fr n0 L ∧ h = h0
set_option maxRecDepth 65536 in
set_option maxHeartbeats 40000000 in
theorem rm1D (l : Launch) (Z : State) (a0 : Array Value) (hw : ∀ d ∈ tables_1, d.before a0 Z = true) (ws : List Jvm.Cond) (a1 : Addr) (eP : Addr) (dr : Addr) (h0 : Heap) (n0 : Nat) (Z0 : n0 ≤ h0.size) (S1 : Sta Z h0 "com/example/warrant/warrant/model/Effect" "PERMIT" "Lcom/example/warrant/warrant/model/Effect;" (.ref eP)) (S2 : Sta Z h0 "com/example/warrant/warrant/model/Decision" "DENY" "Lcom/example/warrant/warrant/model/Decision;" (.ref dr)) (hne : a1 ≠ eP) :
    MetFree l (⟨"com/example/warrant/warrant/model/Effect", "decision", "()Lcom/example/warrant/warrant/model/Decision;"⟩ : MethodName) (head1 (Jvm.Cond.code (⟨"com/example/warrant/warrant/model/Effect", "decision", "()Lcom/example/warrant/warrant/model/Decision;"⟩ : MethodName) prog_52_method_4_code 1 (some (.object "com/example/warrant/warrant/model/Decision")) :: ws) ({ frames := 0, cells := 0, slots := 0, locals := 0 } : Room)) (fun a U => a = #[(.ref a1)] ∧ Z.Warmed39 U.vm ∧ U.heap = h0) (fun _ _ _ _ _ => True) (fun _ U o U' => ∃ v L, o = .returned v ∧ Q1D Z a1 eP dr h0 n0 v U'.heap L ∧ FrameEnd U o U' L ({ frames := 0, cells := 0, slots := 0, locals := 0 } : Room).cells ({ frames := 0, cells := 0, slots := 0, locals := 0 } : Room).slots) := by
  refine MetFree.of_bodySF pn_1 hisR ?_
  intro p e s m args below meth c s₁ Bd hml0 hP hK
  obtain ⟨rfl, hZ, hh⟩ := hP
  have hx := Bd.exec
  have hby := Bd.bytes
  have hml : c.maxLocals = 1 := hml0
  have hown : s.vm.findClass "com/example/warrant/warrant/model/Effect" = some m.cls := findClass_of_methodNamed Bd.named
  have hnm := (name_of_methodNamed Bd.named Bd.method).1
  have hlk : meth.locks = false := BodyLoose.notSynchronized Bd
  have X0 : Stand p l e ({ frames := 0, cells := 0, slots := 0, locals := 0 } : Room) s m #[(.ref a1)] below meth c s₁ [] 0 0 := Stand.of_body Bd
  have e0 : s₁.heap = h0 := by rw [← hh, Bd.state]; rfl
  have N0 := Fr.nil n0
  show Goes p e below (OwnK s (Q1D Z a1 eP dr h0 n0) ({ frames := 0, cells := 0, slots := 0, locals := 0 } : Room).cells ({ frames := 0, cells := 0, slots := 0, locals := 0 } : Room).slots) s₁ (entryFrame m #[(.ref a1)] 1)
  refine Goes.cast (ef_1D m a1) ?_
  generalize hKK : OwnK s (Q1D Z a1 eP dr h0 n0) ({ frames := 0, cells := 0, slots := 0, locals := 0 } : Room).cells ({ frames := 0, cells := 0, slots := 0, locals := 0 } : Room).slots = KK
  show Goes p e below KK s₁ (mkF m 0 #[.val (.ref a1)] [])
  have w_8 := hw _ (List.mem_of_getElem? (i := 8) rfl)
  have w_44 := hw _ (List.mem_of_getElem? (i := 44) rfl)
  refine Goes.of (fun t => XS.aloadN X0.here hx rfl (hb hby d1_0) rfl rfl) ?_
  show Goes p e below KK s₁ (mkF m 1 #[.val (.ref a1)] [(.ref a1)])
  obtain ⟨T3, X3, e3, st3⟩ := getS2 X0 hx hZ hown (host := "") (Or.inl w_8) Via.refl e0 S1 (g := (mkF m 1 #[.val (.ref a1)] [(.ref a1)])) rfl (hb hby d1_1)
  refine Goes.of (st3) ?_
  show Goes p e below KK T3 (mkF m 4 #[.val (.ref a1)] [(.ref eP), (.ref a1)])
  refine Goes.of (fun t => Jvm.RoadKit.acmp (g := (mkF m 4 #[.val (.ref a1)] [(.ref eP), (.ref a1)])) X3 hx rfl rfl rfl (pc0 := 4) (pc' := 13) (same := false) rfl (hb hby d1_4) rfl (decide_eq_false fun q => hne (Value.ref.inj q)) (by decide) (by decide)) ?_
  show Goes p e below KK T3 (mkF m 13 #[.val (.ref a1)] [])
  obtain ⟨T4, X4, e4, st4⟩ := getS2 X3 hx hZ hown (host := "") (Or.inl w_44) Via.refl e3 S2 (g := (mkF m 13 #[.val (.ref a1)] [])) rfl (hb hby d1_13)
  refine Goes.of (st4) ?_
  show Goes p e below KK T4 (mkF m 16 #[.val (.ref a1)] [(.ref dr)])
  rw [← hKK]
  refine Goes.retRef X4 hx hlk rfl rfl Bd.returns (hb hby d1_16) ?_ (by decide) (by decide)
  rw [e4]
  exact ⟨rfl, N0, rfl⟩
theorem d2_0 : decode prog_48_method_4_code 0 = .ok (.aload_n 0, 1) := by decide +kernel
theorem d2_1 : decode prog_48_method_4_code 1 = .ok (.getfield 35, 3) := by decide +kernel
theorem d2_4 : decode prog_48_method_4_code 4 = .ok (.areturn, 1) := by decide +kernel
theorem pn_2 : plainFor (⟨"com/example/warrant/warrant/model/Decision", "text", "()Ljava/lang/String;"⟩ : MethodName) = true := plainFor_of_name (by first | (simp [plainName, overriddenIn]; done) | decide +kernel)
theorem ef_2 (m : MethodId) (x0 : Addr) : entryFrame m #[(.ref x0)] 1 = mkF m 0 #[.val (.ref x0)] [] := by first | (simp [entryFrame, mkF, argsToLocals, Value.category]; done) | rfl
def Q2 (Z : State) (a1 : Addr) (ts : Addr) (h0 : Heap) (n0 : Nat) (v : Option Value) (h : Heap) (L : List Loc) : Prop := v = some (.ref ts) ∧ Fr n0 L ∧ h = h0
set_option maxRecDepth 65536 in
set_option maxHeartbeats 40000000 in
theorem rm2 (l : Launch) (Z : State) (a0 : Array Value) (hw : ∀ d ∈ tables_1, d.before a0 Z = true) (ws : List Jvm.Cond) (a1 : Addr) (ts : Addr) (h0 : Heap) (n0 : Nat) (Z0 : n0 ≤ h0.size) (F1 : Fld Z h0 a1 "com/example/warrant/warrant/model/Decision" "text" "Ljava/lang/String;" (.ref ts)) :
    MetFree l (⟨"com/example/warrant/warrant/model/Decision", "text", "()Ljava/lang/String;"⟩ : MethodName) (head1 (Jvm.Cond.code (⟨"com/example/warrant/warrant/model/Decision", "text", "()Ljava/lang/String;"⟩ : MethodName) prog_48_method_4_code 1 (some (.object "java/lang/String")) :: ws) ({ frames := 0, cells := 0, slots := 0, locals := 0 } : Room)) (fun a U => a = #[(.ref a1)] ∧ Z.Warmed39 U.vm ∧ U.heap = h0) (fun _ _ _ _ _ => True) (fun _ U o U' => ∃ v L, o = .returned v ∧ Q2 Z a1 ts h0 n0 v U'.heap L ∧ FrameEnd U o U' L ({ frames := 0, cells := 0, slots := 0, locals := 0 } : Room).cells ({ frames := 0, cells := 0, slots := 0, locals := 0 } : Room).slots) := by
  refine MetFree.of_bodySF pn_2 hisR ?_
  intro p e s m args below meth c s₁ Bd hml0 hP hK
  obtain ⟨rfl, hZ, hh⟩ := hP
  have hx := Bd.exec
  have hby := Bd.bytes
  have hml : c.maxLocals = 1 := hml0
  have hown : s.vm.findClass "com/example/warrant/warrant/model/Decision" = some m.cls := findClass_of_methodNamed Bd.named
  have hnm := (name_of_methodNamed Bd.named Bd.method).1
  have hlk : meth.locks = false := BodyLoose.notSynchronized Bd
  have X0 : Stand p l e ({ frames := 0, cells := 0, slots := 0, locals := 0 } : Room) s m #[(.ref a1)] below meth c s₁ [] 0 0 := Stand.of_body Bd
  have e0 : s₁.heap = h0 := by rw [← hh, Bd.state]; rfl
  have N0 := Fr.nil n0
  show Goes p e below (OwnK s (Q2 Z a1 ts h0 n0) ({ frames := 0, cells := 0, slots := 0, locals := 0 } : Room).cells ({ frames := 0, cells := 0, slots := 0, locals := 0 } : Room).slots) s₁ (entryFrame m #[(.ref a1)] 1)
  refine Goes.cast (ef_2 m a1) ?_
  generalize hKK : OwnK s (Q2 Z a1 ts h0 n0) ({ frames := 0, cells := 0, slots := 0, locals := 0 } : Room).cells ({ frames := 0, cells := 0, slots := 0, locals := 0 } : Room).slots = KK
  show Goes p e below KK s₁ (mkF m 0 #[.val (.ref a1)] [])
  have w_26 := hw _ (List.mem_of_getElem? (i := 26) rfl)
  refine Goes.of (fun t => XS.aloadN X0.here hx rfl (hb hby d2_0) rfl rfl) ?_
  show Goes p e below KK s₁ (mkF m 1 #[.val (.ref a1)] [(.ref a1)])
  obtain ⟨T5, X5, e5, st5⟩ := getF X0 hx hZ hown (host := "") (Or.inl w_26) Via.refl e0 F1 (g := (mkF m 1 #[.val (.ref a1)] [(.ref a1)])) rfl rfl (hb hby d2_1)
  refine Goes.of (st5) ?_
  show Goes p e below KK T5 (mkF m 4 #[.val (.ref a1)] [(.ref ts)])
  rw [← hKK]
  refine Goes.retRef X5 hx hlk rfl rfl Bd.returns (hb hby d2_4) ?_ (by decide) (by decide)
  rw [e5]
  exact ⟨rfl, N0, rfl⟩
theorem d4_0 : decode jdk_43_method_13_code 0 = .ok (.aload_n 0, 1) := by decide +kernel
theorem d4_1 : decode jdk_43_method_13_code 1 = .ok (.arraylength, 1) := by decide +kernel
theorem d4_2 : decode jdk_43_method_13_code 2 = .ok (.aload_n 1, 1) := by decide +kernel
theorem d4_3 : decode jdk_43_method_13_code 3 = .ok (.arraylength, 1) := by decide +kernel
theorem d4_4 : decode jdk_43_method_13_code 4 = .ok (.if_icmp .ne 30, 3) := by decide +kernel
theorem d4_7 : decode jdk_43_method_13_code 7 = .ok (.iconst 0, 1) := by decide +kernel
theorem d4_8 : decode jdk_43_method_13_code 8 = .ok (.istore_n 2, 1) := by decide +kernel
theorem d4_9 : decode jdk_43_method_13_code 9 = .ok (.iload_n 2, 1) := by decide +kernel
theorem d4_10 : decode jdk_43_method_13_code 10 = .ok (.aload_n 0, 1) := by decide +kernel
theorem d4_11 : decode jdk_43_method_13_code 11 = .ok (.arraylength, 1) := by decide +kernel
theorem d4_12 : decode jdk_43_method_13_code 12 = .ok (.if_icmp .ge 20, 3) := by decide +kernel
theorem d4_15 : decode jdk_43_method_13_code 15 = .ok (.aload_n 0, 1) := by decide +kernel
theorem d4_16 : decode jdk_43_method_13_code 16 = .ok (.iload_n 2, 1) := by decide +kernel
theorem d4_17 : decode jdk_43_method_13_code 17 = .ok (.baload, 1) := by decide +kernel
theorem d4_18 : decode jdk_43_method_13_code 18 = .ok (.aload_n 1, 1) := by decide +kernel
theorem d4_19 : decode jdk_43_method_13_code 19 = .ok (.iload_n 2, 1) := by decide +kernel
theorem d4_20 : decode jdk_43_method_13_code 20 = .ok (.baload, 1) := by decide +kernel
theorem d4_21 : decode jdk_43_method_13_code 21 = .ok (.if_icmp .eq 5, 3) := by decide +kernel
theorem d4_24 : decode jdk_43_method_13_code 24 = .ok (.iconst 0, 1) := by decide +kernel
theorem d4_25 : decode jdk_43_method_13_code 25 = .ok (.ireturn, 1) := by decide +kernel
theorem d4_26 : decode jdk_43_method_13_code 26 = .ok (.iinc 2 1, 3) := by decide +kernel
theorem d4_29 : decode jdk_43_method_13_code 29 = .ok (.goto (-20), 3) := by decide +kernel
theorem d4_32 : decode jdk_43_method_13_code 32 = .ok (.iconst 1, 1) := by decide +kernel
theorem d4_33 : decode jdk_43_method_13_code 33 = .ok (.ireturn, 1) := by decide +kernel
theorem d4_34 : decode jdk_43_method_13_code 34 = .ok (.iconst 0, 1) := by decide +kernel
theorem d4_35 : decode jdk_43_method_13_code 35 = .ok (.ireturn, 1) := by decide +kernel
theorem pn_4 : plainFor (⟨"java/lang/StringLatin1", "equals", "([B[B)Z"⟩ : MethodName) = true := plainFor_of_name (by first | (simp [plainName, overriddenIn]; done) | decide +kernel)
theorem ef_4 (m : MethodId) (x0 : Addr) (x1 : Addr) : entryFrame m #[(.ref x0), (.ref x1)] 3 = mkF m 0 #[.val (.ref x0), .val (.ref x1), .unset] [] := by first | (simp [entryFrame, mkF, argsToLocals, Value.category]; done) | rfl
def Q4 (Z : State) (a1 : Addr) (a2 : Addr) (xs : List Int32) (ys : List Int32) (n1 : Int32) (n2 : Int32) (h0 : Heap) (n0 : Nat) (v : Option Value) (h : Heap) (L : List Loc) : Prop := v = some (.int (if xs = ys then 1 else 0)) ∧ Fr n0 L ∧ h = h0
set_option maxRecDepth 65536 in
set_option maxHeartbeats 40000000 in
theorem rm4 (l : Launch) (Z : State) (a0 : Array Value) (hw : ∀ d ∈ tables_1, d.before a0 Z = true) (ws : List Jvm.Cond) (a1 : Addr) (a2 : Addr) (xs : List Int32) (ys : List Int32) (n1 : Int32) (n2 : Int32) (h0 : Heap) (n0 : Nat) (Z0 : n0 ≤ h0.size) (V_a1 : AI Z h0 a1 .byte xs) (V_a2 : AI Z h0 a2 .byte ys) (hn1 : n1.toInt = (xs.length : Int)) (hn2 : n2.toInt = (ys.length : Int)) (hb1 : xs.length < 2147483647) :
    MetFree l (⟨"java/lang/StringLatin1", "equals", "([B[B)Z"⟩ : MethodName) (head1 (Jvm.Cond.code (⟨"java/lang/StringLatin1", "equals", "([B[B)Z"⟩ : MethodName) jdk_43_method_13_code 3 (some .boolean) :: ws) ({ frames := 0, cells := 0, slots := 0, locals := 0 } : Room)) (fun a U => a = #[(.ref a1), (.ref a2)] ∧ Z.Warmed39 U.vm ∧ U.heap = h0) (fun _ _ _ _ _ => True) (fun _ U o U' => ∃ v L, o = .returned v ∧ Q4 Z a1 a2 xs ys n1 n2 h0 n0 v U'.heap L ∧ FrameEnd U o U' L ({ frames := 0, cells := 0, slots := 0, locals := 0 } : Room).cells ({ frames := 0, cells := 0, slots := 0, locals := 0 } : Room).slots) := by
  refine MetFree.of_bodySF pn_4 hisR ?_
  intro p e s m args below meth c s₁ Bd hml0 hP hK
  obtain ⟨rfl, hZ, hh⟩ := hP
  have hx := Bd.exec
  have hby := Bd.bytes
  have hml : c.maxLocals = 3 := hml0
  have hown : s.vm.findClass "java/lang/StringLatin1" = some m.cls := findClass_of_methodNamed Bd.named
  have hnm := (name_of_methodNamed Bd.named Bd.method).1
  have hlk : meth.locks = false := BodyLoose.notSynchronized Bd
  have X0 : Stand p l e ({ frames := 0, cells := 0, slots := 0, locals := 0 } : Room) s m #[(.ref a1), (.ref a2)] below meth c s₁ [] 0 0 := Stand.of_body Bd
  have e0 : s₁.heap = h0 := by rw [← hh, Bd.state]; rfl
  have N0 := Fr.nil n0
  show Goes p e below (OwnK s (Q4 Z a1 a2 xs ys n1 n2 h0 n0) ({ frames := 0, cells := 0, slots := 0, locals := 0 } : Room).cells ({ frames := 0, cells := 0, slots := 0, locals := 0 } : Room).slots) s₁ (entryFrame m #[(.ref a1), (.ref a2)] 3)
  refine Goes.cast (ef_4 m a1 a2) ?_
  generalize hKK : OwnK s (Q4 Z a1 a2 xs ys n1 n2 h0 n0) ({ frames := 0, cells := 0, slots := 0, locals := 0 } : Room).cells ({ frames := 0, cells := 0, slots := 0, locals := 0 } : Room).slots = KK
  show Goes p e below KK s₁ (mkF m 0 #[.val (.ref a1), .val (.ref a2), .unset] [])
  refine Goes.of (fun t => XS.aloadN X0.here hx rfl (hb hby d4_0) rfl rfl) ?_
  show Goes p e below KK s₁ (mkF m 1 #[.val (.ref a1), .val (.ref a2), .unset] [(.ref a1)])
  refine Goes.of (AI.arraylength X0 hx hZ e0 V_a1 (j := n1) (hn1) (g := (mkF m 1 #[.val (.ref a1), .val (.ref a2), .unset] [(.ref a1)])) rfl rfl (hb hby d4_1)) ?_
  show Goes p e below KK s₁ (mkF m 2 #[.val (.ref a1), .val (.ref a2), .unset] [(.int n1)])
  refine Goes.of (fun t => XS.aloadN X0.here hx rfl (hb hby d4_2) rfl rfl) ?_
  show Goes p e below KK s₁ (mkF m 3 #[.val (.ref a1), .val (.ref a2), .unset] [(.ref a2), (.int n1)])
  refine Goes.of (AI.arraylength X0 hx hZ e0 V_a2 (j := n2) (hn2) (g := (mkF m 3 #[.val (.ref a1), .val (.ref a2), .unset] [(.ref a2), (.int n1)])) rfl rfl (hb hby d4_3)) ?_
  show Goes p e below KK s₁ (mkF m 4 #[.val (.ref a1), .val (.ref a2), .unset] [(.int n2), (.int n1)])
  by_cases hc4 : n1 = n2
  · refine Goes.of (fun t => XS.icmpNo X0.here hx rfl (hb hby d4_4) rfl (teq hc4).2) ?_
    show Goes p e below KK s₁ (mkF m 7 #[.val (.ref a1), .val (.ref a2), .unset] [])
    refine Goes.of (fun t => XS.iconst X0.here hx rfl (hb hby d4_7)) ?_
    show Goes p e below KK s₁ (mkF m 8 #[.val (.ref a1), .val (.ref a2), .unset] [(.int (0 : Int32))])
    refine Goes.of (fun t => XS.istoreN X0.here hx rfl (hb hby d4_8) rfl (l' := #[.val (.ref a1), .val (.ref a2), .val (.int (0 : Int32))]) rfl) ?_
    show Goes p e below KK s₁ (mkF m 9 #[.val (.ref a1), .val (.ref a2), .val (.int (0 : Int32))] [])
    have hlen : xs.length = ys.length := by have q := congrArg Int32.toInt hc4; omega
    have lp : ∀ (d i : Nat) (zi : Int32), zi.toInt = (i : Int) → i + d = xs.length → (∀ j, j < i → xs[j]? = ys[j]?) → Goes p e below KK s₁ (mkF m 9 #[.val (.ref a1), .val (.ref a2), .val (.int zi)] []) := by
      intro d
      induction d with
      | zero =>
        intro i zi hzi hid hpre
        show Goes p e below KK s₁ (mkF m 9 #[.val (.ref a1), .val (.ref a2), .val (.int zi)] [])
        refine Goes.of (fun t => XS.iloadN X0.here hx rfl (hb hby d4_9) rfl) ?_
        show Goes p e below KK s₁ (mkF m 10 #[.val (.ref a1), .val (.ref a2), .val (.int zi)] [(.int zi)])
        refine Goes.of (fun t => XS.aloadN X0.here hx rfl (hb hby d4_10) rfl rfl) ?_
        show Goes p e below KK s₁ (mkF m 11 #[.val (.ref a1), .val (.ref a2), .val (.int zi)] [(.ref a1), (.int zi)])
        refine Goes.of (AI.arraylength X0 hx hZ e0 V_a1 (j := n1) (hn1) (g := (mkF m 11 #[.val (.ref a1), .val (.ref a2), .val (.int zi)] [(.ref a1), (.int zi)])) rfl rfl (hb hby d4_11)) ?_
        show Goes p e below KK s₁ (mkF m 12 #[.val (.ref a1), .val (.ref a2), .val (.int zi)] [(.int n1), (.int zi)])
        refine Goes.of (fun t => XS.icmpYes X0.here hx rfl (pc0 := 12) (pc' := 32) rfl (hb hby d4_12) rfl (flt (show ¬ (zi < n1) from fun q => by rw [Int32.lt_iff_toInt_lt, hzi, hn1] at q; omega)).2.1 (by decide) (by decide)) ?_
        show Goes p e below KK s₁ (mkF m 32 #[.val (.ref a1), .val (.ref a2), .val (.int zi)] [])
        refine Goes.of (fun t => XS.iconst X0.here hx rfl (hb hby d4_32)) ?_
        show Goes p e below KK s₁ (mkF m 33 #[.val (.ref a1), .val (.ref a2), .val (.int zi)] [(.int (1 : Int32))])
        rw [← hKK]
        refine Goes.retNar X0 hx hlk (t := .boolean) (by simp) Bd.returns (hb hby d4_33) ?_ (by decide) (by decide)
        rw [e0]
        exact ⟨by rw [if_pos (List.ext_getElem? fun j => by
                    rcases Nat.lt_or_ge j xs.length with q | q
                    · exact hpre j (by omega)
                    · rw [List.getElem?_eq_none q, List.getElem?_eq_none (by omega)])]; rfl, N0, rfl⟩
      | succ d ih =>
        intro i zi hzi hid hpre
        obtain ⟨x1, hx1⟩ : ∃ x, xs[i]? = some x := ⟨_, List.getElem?_eq_getElem (by omega)⟩
        obtain ⟨y1, hy1⟩ : ∃ x, ys[i]? = some x := ⟨_, List.getElem?_eq_getElem (by omega)⟩
        show Goes p e below KK s₁ (mkF m 9 #[.val (.ref a1), .val (.ref a2), .val (.int zi)] [])
        refine Goes.of (fun t => XS.iloadN X0.here hx rfl (hb hby d4_9) rfl) ?_
        show Goes p e below KK s₁ (mkF m 10 #[.val (.ref a1), .val (.ref a2), .val (.int zi)] [(.int zi)])
        refine Goes.of (fun t => XS.aloadN X0.here hx rfl (hb hby d4_10) rfl rfl) ?_
        show Goes p e below KK s₁ (mkF m 11 #[.val (.ref a1), .val (.ref a2), .val (.int zi)] [(.ref a1), (.int zi)])
        refine Goes.of (AI.arraylength X0 hx hZ e0 V_a1 (j := n1) (hn1) (g := (mkF m 11 #[.val (.ref a1), .val (.ref a2), .val (.int zi)] [(.ref a1), (.int zi)])) rfl rfl (hb hby d4_11)) ?_
        show Goes p e below KK s₁ (mkF m 12 #[.val (.ref a1), .val (.ref a2), .val (.int zi)] [(.int n1), (.int zi)])
        refine Goes.of (fun t => XS.icmpNo X0.here hx rfl (hb hby d4_12) rfl (tlt (show zi < n1 from by rw [Int32.lt_iff_toInt_lt, hzi, hn1]; omega)).2.1) ?_
        show Goes p e below KK s₁ (mkF m 15 #[.val (.ref a1), .val (.ref a2), .val (.int zi)] [])
        refine Goes.of (fun t => XS.aloadN X0.here hx rfl (hb hby d4_15) rfl rfl) ?_
        show Goes p e below KK s₁ (mkF m 16 #[.val (.ref a1), .val (.ref a2), .val (.int zi)] [(.ref a1)])
        refine Goes.of (fun t => XS.iloadN X0.here hx rfl (hb hby d4_16) rfl) ?_
        show Goes p e below KK s₁ (mkF m 17 #[.val (.ref a1), .val (.ref a2), .val (.int zi)] [(.int zi), (.ref a1)])
        refine Goes.of (AI.baload X0 hx hZ e0 V_a1 (i := i) (j := zi) (x := x1) (hzi) (hx1) (g := (mkF m 17 #[.val (.ref a1), .val (.ref a2), .val (.int zi)] [(.int zi), (.ref a1)])) rfl rfl (hb hby d4_17)) ?_
        show Goes p e below KK s₁ (mkF m 18 #[.val (.ref a1), .val (.ref a2), .val (.int zi)] [(.int x1)])
        refine Goes.of (fun t => XS.aloadN X0.here hx rfl (hb hby d4_18) rfl rfl) ?_
        show Goes p e below KK s₁ (mkF m 19 #[.val (.ref a1), .val (.ref a2), .val (.int zi)] [(.ref a2), (.int x1)])
        refine Goes.of (fun t => XS.iloadN X0.here hx rfl (hb hby d4_19) rfl) ?_
        show Goes p e below KK s₁ (mkF m 20 #[.val (.ref a1), .val (.ref a2), .val (.int zi)] [(.int zi), (.ref a2), (.int x1)])
        refine Goes.of (AI.baload X0 hx hZ e0 V_a2 (i := i) (j := zi) (x := y1) (hzi) (hy1) (g := (mkF m 20 #[.val (.ref a1), .val (.ref a2), .val (.int zi)] [(.int zi), (.ref a2), (.int x1)])) rfl rfl (hb hby d4_20)) ?_
        show Goes p e below KK s₁ (mkF m 21 #[.val (.ref a1), .val (.ref a2), .val (.int zi)] [(.int y1), (.int x1)])
        by_cases hc21 : x1 = y1
        · refine Goes.of (fun t => XS.icmpYes X0.here hx rfl (pc0 := 21) (pc' := 26) rfl (hb hby d4_21) rfl (teq hc21).1 (by decide) (by decide)) ?_
          show Goes p e below KK s₁ (mkF m 26 #[.val (.ref a1), .val (.ref a2), .val (.int zi)] [])
          refine Goes.of (fun t => XS.iinc X0.here hx rfl (hb hby d4_26) rfl (l' := #[.val (.ref a1), .val (.ref a2), .val (.int (zi + (1 : Int32)))]) rfl) ?_
          show Goes p e below KK s₁ (mkF m 29 #[.val (.ref a1), .val (.ref a2), .val (.int (zi + (1 : Int32)))] [])
          refine Goes.of (fun t => XS.goto X0.here hx rfl (pc0 := 29) (pc' := 9) rfl (hb hby d4_29) (by decide) (by decide)) ?_
          show Goes p e below KK s₁ (mkF m 9 #[.val (.ref a1), .val (.ref a2), .val (.int (zi + (1 : Int32)))] [])
          refine ih (i + 1) _ ?_ (by omega) (fun j q => ?_)
          · have q1 : (1 : Int32).toInt = 1 := rfl
            rw [Jvm.Kit.i32_add (by omega) (by omega), hzi, q1]; rfl
          · rcases Nat.lt_or_ge j i with q1 | q1
            · exact hpre j q1
            · obtain rfl : j = i := by omega
              rw [hx1, hy1, hc21]
        · refine Goes.of (fun t => XS.icmpNo X0.here hx rfl (hb hby d4_21) rfl (feq hc21).1) ?_
          show Goes p e below KK s₁ (mkF m 24 #[.val (.ref a1), .val (.ref a2), .val (.int zi)] [])
          refine Goes.of (fun t => XS.iconst X0.here hx rfl (hb hby d4_24)) ?_
          show Goes p e below KK s₁ (mkF m 25 #[.val (.ref a1), .val (.ref a2), .val (.int zi)] [(.int (0 : Int32))])
          rw [← hKK]
          refine Goes.retNar X0 hx hlk (t := .boolean) (by simp) Bd.returns (hb hby d4_25) ?_ (by decide) (by decide)
          rw [e0]
          exact ⟨by rw [if_neg (fun q => by subst q; rw [hx1] at hy1; exact hc21 (Option.some.inj hy1))]; rfl, N0, rfl⟩
    exact lp xs.length 0 0 rfl (by omega) (fun j q => absurd q (Nat.not_lt_zero j))
  · refine Goes.of (fun t => XS.icmpYes X0.here hx rfl (pc0 := 4) (pc' := 34) rfl (hb hby d4_4) rfl (feq hc4).2 (by decide) (by decide)) ?_
    show Goes p e below KK s₁ (mkF m 34 #[.val (.ref a1), .val (.ref a2), .unset] [])
    refine Goes.of (fun t => XS.iconst X0.here hx rfl (hb hby d4_34)) ?_
    show Goes p e below KK s₁ (mkF m 35 #[.val (.ref a1), .val (.ref a2), .unset] [(.int (0 : Int32))])
    rw [← hKK]
    refine Goes.retNar X0 hx hlk (t := .boolean) (by simp) Bd.returns (hb hby d4_35) ?_ (by decide) (by decide)
    rw [e0]
    exact ⟨by rw [if_neg (fun q => hc4 (Int32.toInt_inj.mp (by rw [hn1, hn2, q])))]; rfl, N0, rfl⟩
theorem d3_0 : decode jdk_42_method_66_code 0 = .ok (.aload_n 0, 1) := by decide +kernel
theorem d3_1 : decode jdk_42_method_66_code 1 = .ok (.aload_n 1, 1) := by decide +kernel
theorem d3_2 : decode jdk_42_method_66_code 2 = .ok (.if_acmp .ne 5, 3) := by decide +kernel
theorem d3_5 : decode jdk_42_method_66_code 5 = .ok (.iconst 1, 1) := by decide +kernel
theorem d3_6 : decode jdk_42_method_66_code 6 = .ok (.ireturn, 1) := by decide +kernel
theorem d3_7 : decode jdk_42_method_66_code 7 = .ok (.aload_n 1, 1) := by decide +kernel
theorem d3_8 : decode jdk_42_method_66_code 8 = .ok (.instanceof 10, 3) := by decide +kernel
theorem d3_11 : decode jdk_42_method_66_code 11 = .ok (.ifCond .eq 43, 3) := by decide +kernel
theorem d3_14 : decode jdk_42_method_66_code 14 = .ok (.aload_n 1, 1) := by decide +kernel
theorem d3_15 : decode jdk_42_method_66_code 15 = .ok (.checkcast 10, 3) := by decide +kernel
theorem d3_18 : decode jdk_42_method_66_code 18 = .ok (.astore_n 2, 1) := by decide +kernel
theorem d3_19 : decode jdk_42_method_66_code 19 = .ok (.getstatic 38, 3) := by decide +kernel
theorem d3_22 : decode jdk_42_method_66_code 22 = .ok (.ifCond .eq 14, 3) := by decide +kernel
theorem d3_25 : decode jdk_42_method_66_code 25 = .ok (.aload_n 0, 1) := by decide +kernel
theorem d3_26 : decode jdk_42_method_66_code 26 = .ok (.getfield 15, 3) := by decide +kernel
theorem d3_29 : decode jdk_42_method_66_code 29 = .ok (.aload_n 2, 1) := by decide +kernel
theorem d3_30 : decode jdk_42_method_66_code 30 = .ok (.getfield 15, 3) := by decide +kernel
theorem d3_33 : decode jdk_42_method_66_code 33 = .ok (.if_icmp .ne 21, 3) := by decide +kernel
theorem d3_36 : decode jdk_42_method_66_code 36 = .ok (.aload_n 0, 1) := by decide +kernel
theorem d3_37 : decode jdk_42_method_66_code 37 = .ok (.getfield 9, 3) := by decide +kernel
theorem d3_40 : decode jdk_42_method_66_code 40 = .ok (.aload_n 2, 1) := by decide +kernel
theorem d3_41 : decode jdk_42_method_66_code 41 = .ok (.getfield 9, 3) := by decide +kernel
theorem d3_44 : decode jdk_42_method_66_code 44 = .ok (.invokestatic 541, 3) := by decide +kernel
theorem d3_47 : decode jdk_42_method_66_code 47 = .ok (.ifCond .eq 7, 3) := by decide +kernel
theorem d3_50 : decode jdk_42_method_66_code 50 = .ok (.iconst 1, 1) := by decide +kernel
theorem d3_51 : decode jdk_42_method_66_code 51 = .ok (.goto 4, 3) := by decide +kernel
theorem d3_54 : decode jdk_42_method_66_code 54 = .ok (.iconst 0, 1) := by decide +kernel
theorem d3_55 : decode jdk_42_method_66_code 55 = .ok (.ireturn, 1) := by decide +kernel
theorem pn_3 : plainFor (⟨"java/lang/String", "equals", "(Ljava/lang/Object;)Z"⟩ : MethodName) = true := plainFor_of_name (by first | (simp [plainName, overriddenIn]; done) | decide +kernel)
theorem pd_3 : parseMethodDescriptor "([B[B)Z" = some ⟨[(.array .byte), (.array .byte)], some .boolean⟩ := by decide +kernel
theorem ef_3 (m : MethodId) (x0 : Addr) (x1 : Addr) : entryFrame m #[(.ref x0), (.ref x1)] 3 = mkF m 0 #[.val (.ref x0), .val (.ref x1), .unset] [] := by first | (simp [entryFrame, mkF, argsToLocals, Value.category]; done) | rfl
def Q3 (Z : State) (a1 : Addr) (a2 : Addr) (b1 : Addr) (xs : List Int32) (b2 : Addr) (ys : List Int32) (n1 : Int32) (n2 : Int32) (cz : Int32) (h0 : Heap) (n0 : Nat) (v : Option Value) (h : Heap) (L : List Loc) : Prop := v = some (.int (if xs = ys then 1 else 0)) ∧ Fr n0 L ∧ h = h0
set_option maxRecDepth 65536 in
set_option maxHeartbeats 40000000 in
theorem rm3 (l : Launch) (Z : State) (a0 : Array Value) (hw : ∀ d ∈ tables_1, d.before a0 Z = true) (ws : List Jvm.Cond) (a1 : Addr) (a2 : Addr) (b1 : Addr) (xs : List Int32) (b2 : Addr) (ys : List Int32) (n1 : Int32) (n2 : Int32) (cz : Int32) (h0 : Heap) (n0 : Nat) (Z0 : n0 ≤ h0.size) (E1 : Exa Z h0 a1 "java/lang/String") (C1 : Fld Z h0 a1 "java/lang/String" "coder" "B" (.int (0 : Int32))) (W1v : Fld Z h0 a1 "java/lang/String" "value" "[B" (.ref b1)) (V1 : AI Z h0 b1 .byte xs) (E2 : Exa Z h0 a2 "java/lang/String") (C2 : Fld Z h0 a2 "java/lang/String" "coder" "B" (.int (0 : Int32))) (W2v : Fld Z h0 a2 "java/lang/String" "value" "[B" (.ref b2)) (V2 : AI Z h0 b2 .byte ys) (hn1 : n1.toInt = (xs.length : Int)) (hn2 : n2.toInt = (ys.length : Int)) (hb1 : xs.length < 2147483647) (Scs : Sta Z h0 "java/lang/String" "COMPACT_STRINGS" "Z" (.int cz)) (hcz : ¬ cz = 0) :
    MetFree l (⟨"java/lang/String", "equals", "(Ljava/lang/Object;)Z"⟩ : MethodName) (head1 (Jvm.Cond.code (⟨"java/lang/String", "equals", "(Ljava/lang/Object;)Z"⟩ : MethodName) jdk_42_method_66_code 3 (some .boolean) :: ws) ({ frames := 1, cells := 0, slots := 0, locals := 14 } : Room)) (fun a U => a = #[(.ref a1), (.ref a2)] ∧ Z.Warmed39 U.vm ∧ U.heap = h0) (fun _ _ _ _ _ => True) (fun _ U o U' => ∃ v L, o = .returned v ∧ Q3 Z a1 a2 b1 xs b2 ys n1 n2 cz h0 n0 v U'.heap L ∧ FrameEnd U o U' L ({ frames := 1, cells := 0, slots := 0, locals := 14 } : Room).cells ({ frames := 1, cells := 0, slots := 0, locals := 14 } : Room).slots) := by
  refine MetFree.of_bodySF pn_3 hisR ?_
  intro p e s m args below meth c s₁ Bd hml0 hP hK
  obtain ⟨rfl, hZ, hh⟩ := hP
  have hx := Bd.exec
  have hby := Bd.bytes
  have hml : c.maxLocals = 3 := hml0
  have hown : s.vm.findClass "java/lang/String" = some m.cls := findClass_of_methodNamed Bd.named
  have hnm := (name_of_methodNamed Bd.named Bd.method).1
  have hlk : meth.locks = false := BodyLoose.notSynchronized Bd
  have X0 : Stand p l e ({ frames := 1, cells := 0, slots := 0, locals := 14 } : Room) s m #[(.ref a1), (.ref a2)] below meth c s₁ [] 0 0 := Stand.of_body Bd
  have e0 : s₁.heap = h0 := by rw [← hh, Bd.state]; rfl
  have N0 := Fr.nil n0
  show Goes p e below (OwnK s (Q3 Z a1 a2 b1 xs b2 ys n1 n2 cz h0 n0) ({ frames := 1, cells := 0, slots := 0, locals := 14 } : Room).cells ({ frames := 1, cells := 0, slots := 0, locals := 14 } : Room).slots) s₁ (entryFrame m #[(.ref a1), (.ref a2)] 3)
  refine Goes.cast (ef_3 m a1 a2) ?_
  generalize hKK : OwnK s (Q3 Z a1 a2 b1 xs b2 ys n1 n2 cz h0 n0) ({ frames := 1, cells := 0, slots := 0, locals := 14 } : Room).cells ({ frames := 1, cells := 0, slots := 0, locals := 14 } : Room).slots = KK
  show Goes p e below KK s₁ (mkF m 0 #[.val (.ref a1), .val (.ref a2), .unset] [])
  have w_33 := hw _ (List.mem_of_getElem? (i := 33) rfl)
  have w_35 := hw _ (List.mem_of_getElem? (i := 35) rfl)
  have w_36 := hw _ (List.mem_of_getElem? (i := 36) rfl)
  have w_37 := hw _ (List.mem_of_getElem? (i := 37) rfl)
  have w_38 := hw _ (List.mem_of_getElem? (i := 38) rfl)
  have w_39 := hw _ (List.mem_of_getElem? (i := 39) rfl)
  have w_40 := hw _ (List.mem_of_getElem? (i := 40) rfl)
  have w_41 := hw _ (List.mem_of_getElem? (i := 41) rfl)
  refine Goes.of (fun t => XS.aloadN X0.here hx rfl (hb hby d3_0) rfl rfl) ?_
  show Goes p e below KK s₁ (mkF m 1 #[.val (.ref a1), .val (.ref a2), .unset] [(.ref a1)])
  refine Goes.of (fun t => XS.aloadN X0.here hx rfl (hb hby d3_1) rfl rfl) ?_
  show Goes p e below KK s₁ (mkF m 2 #[.val (.ref a1), .val (.ref a2), .unset] [(.ref a2), (.ref a1)])
  by_cases h12 : a1 = a2
  · have hbb : b1 = b2 := Value.ref.inj (Fld.injV W1v (h12 ▸ W2v))
    have hxy : xs = ys := AI.inj V1 (hbb ▸ V2)
    refine Goes.of (fun t => Jvm.RoadKit.acmp (g := (mkF m 2 #[.val (.ref a1), .val (.ref a2), .unset] [(.ref a2), (.ref a1)])) X0 hx rfl rfl rfl (pc0 := 2) (pc' := 5) (same := true) rfl (hb hby d3_2) rfl (decide_eq_true (congrArg Value.ref h12)) (by decide) (by decide)) ?_
    show Goes p e below KK s₁ (mkF m 5 #[.val (.ref a1), .val (.ref a2), .unset] [])
    refine Goes.of (fun t => XS.iconst X0.here hx rfl (hb hby d3_5)) ?_
    show Goes p e below KK s₁ (mkF m 6 #[.val (.ref a1), .val (.ref a2), .unset] [(.int (1 : Int32))])
    rw [← hKK]
    refine Goes.retNar X0 hx hlk (t := .boolean) (by simp) Bd.returns (hb hby d3_6) ?_ (by decide) (by decide)
    rw [e0]
    exact ⟨by rw [if_pos hxy]; rfl, N0, rfl⟩
  · show Goes p e below KK s₁ (mkF m 2 #[.val (.ref a1), .val (.ref a2), .unset] [(.ref a2), (.ref a1)])
    refine Goes.of (fun t => Jvm.RoadKit.acmp (g := (mkF m 2 #[.val (.ref a1), .val (.ref a2), .unset] [(.ref a2), (.ref a1)])) X0 hx rfl rfl rfl (pc0 := 2) (pc' := 7) (same := false) rfl (hb hby d3_2) rfl (decide_eq_false fun q => h12 (Value.ref.inj q)) (by decide) (by decide)) ?_
    show Goes p e below KK s₁ (mkF m 7 #[.val (.ref a1), .val (.ref a2), .unset] [])
    refine Goes.of (fun t => XS.aloadN X0.here hx rfl (hb hby d3_7) rfl rfl) ?_
    show Goes p e below KK s₁ (mkF m 8 #[.val (.ref a1), .val (.ref a2), .unset] [(.ref a2)])
    obtain ⟨T6, X6, e6, st6⟩ := instY X0 hx hZ hown w_33 e0 (Ins.self E2) (g := (mkF m 8 #[.val (.ref a1), .val (.ref a2), .unset] [(.ref a2)])) rfl rfl (hb hby d3_8)
    refine Goes.of (st6) ?_
    show Goes p e below KK T6 (mkF m 11 #[.val (.ref a1), .val (.ref a2), .unset] [(.int (1 : Int32))])
    refine Goes.of (fun t => XS.ifNo X6.here hx rfl (hb hby d3_11) rfl ((if0 _ _).trans (feq (show ¬ ((1 : Int32) = (0 : Int32)) from by decide)).1)) ?_
    show Goes p e below KK T6 (mkF m 14 #[.val (.ref a1), .val (.ref a2), .unset] [])
    refine Goes.of (fun t => XS.aloadN X6.here hx rfl (hb hby d3_14) rfl rfl) ?_
    show Goes p e below KK T6 (mkF m 15 #[.val (.ref a1), .val (.ref a2), .unset] [(.ref a2)])
    obtain ⟨T7, X7, e7, st7⟩ := castY X6 hx hZ hown w_33 e6 (Ins.self E2) (g := (mkF m 15 #[.val (.ref a1), .val (.ref a2), .unset] [(.ref a2)])) rfl rfl (hb hby d3_15)
    refine Goes.of (st7) ?_
    show Goes p e below KK T7 (mkF m 18 #[.val (.ref a1), .val (.ref a2), .unset] [(.ref a2)])
    refine Goes.of (fun t => XS.astoreN X7.here hx rfl (hb hby d3_18) rfl rfl (l' := #[.val (.ref a1), .val (.ref a2), .val (.ref a2)]) rfl) ?_
    show Goes p e below KK T7 (mkF m 19 #[.val (.ref a1), .val (.ref a2), .val (.ref a2)] [])
    obtain ⟨T8, X8, e8, st8⟩ := getS2 X7 hx hZ hown (host := "") (Or.inl w_35) Via.refl e7 Scs (g := (mkF m 19 #[.val (.ref a1), .val (.ref a2), .val (.ref a2)] [])) rfl (hb hby d3_19)
    refine Goes.of (st8) ?_
    show Goes p e below KK T8 (mkF m 22 #[.val (.ref a1), .val (.ref a2), .val (.ref a2)] [(.int cz)])
    refine Goes.of (fun t => XS.ifNo X8.here hx rfl (hb hby d3_22) rfl ((if0 _ _).trans (feq (show ¬ (cz = (0 : Int32)) from hcz)).1)) ?_
    show Goes p e below KK T8 (mkF m 25 #[.val (.ref a1), .val (.ref a2), .val (.ref a2)] [])
    refine Goes.of (fun t => XS.aloadN X8.here hx rfl (hb hby d3_25) rfl rfl) ?_
    show Goes p e below KK T8 (mkF m 26 #[.val (.ref a1), .val (.ref a2), .val (.ref a2)] [(.ref a1)])
    obtain ⟨T9, X9, e9, st9⟩ := getF X8 hx hZ hown (host := "") (Or.inl w_36) Via.refl e8 C1 (g := (mkF m 26 #[.val (.ref a1), .val (.ref a2), .val (.ref a2)] [(.ref a1)])) rfl rfl (hb hby d3_26)
    refine Goes.of (st9) ?_
    show Goes p e below KK T9 (mkF m 29 #[.val (.ref a1), .val (.ref a2), .val (.ref a2)] [(.int (0 : Int32))])
    refine Goes.of (fun t => XS.aloadN X9.here hx rfl (hb hby d3_29) rfl rfl) ?_
    show Goes p e below KK T9 (mkF m 30 #[.val (.ref a1), .val (.ref a2), .val (.ref a2)] [(.ref a2), (.int (0 : Int32))])
    obtain ⟨T10, X10, e10, st10⟩ := getF X9 hx hZ hown (host := "") (Or.inl w_36) Via.refl e9 C2 (g := (mkF m 30 #[.val (.ref a1), .val (.ref a2), .val (.ref a2)] [(.ref a2), (.int (0 : Int32))])) rfl rfl (hb hby d3_30)
    refine Goes.of (st10) ?_
    show Goes p e below KK T10 (mkF m 33 #[.val (.ref a1), .val (.ref a2), .val (.ref a2)] [(.int (0 : Int32)), (.int (0 : Int32))])
    refine Goes.of (fun t => XS.icmpNo X10.here hx rfl (hb hby d3_33) rfl (teq (show (0 : Int32) = (0 : Int32) from rfl)).2) ?_
    show Goes p e below KK T10 (mkF m 36 #[.val (.ref a1), .val (.ref a2), .val (.ref a2)] [])
    refine Goes.of (fun t => XS.aloadN X10.here hx rfl (hb hby d3_36) rfl rfl) ?_
    show Goes p e below KK T10 (mkF m 37 #[.val (.ref a1), .val (.ref a2), .val (.ref a2)] [(.ref a1)])
    obtain ⟨T11, X11, e11, st11⟩ := getF X10 hx hZ hown (host := "") (Or.inl w_37) Via.refl e10 W1v (g := (mkF m 37 #[.val (.ref a1), .val (.ref a2), .val (.ref a2)] [(.ref a1)])) rfl rfl (hb hby d3_37)
    refine Goes.of (st11) ?_
    show Goes p e below KK T11 (mkF m 40 #[.val (.ref a1), .val (.ref a2), .val (.ref a2)] [(.ref b1)])
    refine Goes.of (fun t => XS.aloadN X11.here hx rfl (hb hby d3_40) rfl rfl) ?_
    show Goes p e below KK T11 (mkF m 41 #[.val (.ref a1), .val (.ref a2), .val (.ref a2)] [(.ref a2), (.ref b1)])
    obtain ⟨T12, X12, e12, st12⟩ := getF X11 hx hZ hown (host := "") (Or.inl w_37) Via.refl e11 W2v (g := (mkF m 41 #[.val (.ref a1), .val (.ref a2), .val (.ref a2)] [(.ref a2), (.ref b1)])) rfl rfl (hb hby d3_41)
    refine Goes.of (st12) ?_
    show Goes p e below KK T12 (mkF m 44 #[.val (.ref a1), .val (.ref a2), .val (.ref a2)] [(.ref b2), (.ref b1)])
    obtain ⟨_, _, ⟨T13, L13, k13, n13⟩, -, X13, ⟨Lc13, hQ13, l13, y13, z13⟩, st13⟩ := Jvm.LawKit.callS X12 hx (y := (⟨"java/lang/StringLatin1", "equals", "([B[B)Z"⟩ : MethodName)) hown (mvT hZ w_38) (mvT hZ w_39) (mvT hZ w_40) (mvT hZ w_41) (by decide) (backOf (W := 0) (rm4 l Z a0 hw [] b1 b2 xs ys n1 n2 h0 n0 Z0 V1 V2 hn1 hn2 hb1) hZ w_41 w_40 (by decide) (by decide)) (g := (mkF m 44 #[.val (.ref a1), .val (.ref a2), .val (.ref a2)] [(.ref b2), (.ref b1)])) rfl (by rw [hml]; rfl) (argsL := [(.ref b1), (.ref b2)]) (rest := []) (lenOf pd_3 rfl) rfl (by show 2 * 0 + _ ≤ _; exact Nat.le_of_eq rfl) (hb hby d3_44) (fun _ _ => ⟨rfl, e12, (by decide : 0 + 0 ≤ _), (by decide : 0 + 0 ≤ _)⟩)
    dsimp only [Pt.U, Pt.locs, Pt.cells, Pt.slots] at X13 l13 y13 z13 st13 hQ13
    subst l13 y13 z13
    obtain ⟨rfl, N13q, e13⟩ := hQ13
    have N13 := Fr.app N0 N13q
    refine Goes.of st13 ?_
    show Goes p e below KK T13 (mkF m 47 #[.val (.ref a1), .val (.ref a2), .val (.ref a2)] [(.int (if xs = ys then (1 : Int32) else 0))])
    by_cases hc47 : (if xs = ys then (1 : Int32) else 0) = (0 : Int32)
    · refine Goes.of (fun t => XS.ifYes X13.here hx rfl (pc0 := 47) (pc' := 54) rfl (hb hby d3_47) rfl ((if0 _ _).trans (teq hc47).1) (by decide) (by decide)) ?_
      show Goes p e below KK T13 (mkF m 54 #[.val (.ref a1), .val (.ref a2), .val (.ref a2)] [])
      refine Goes.of (fun t => XS.iconst X13.here hx rfl (hb hby d3_54)) ?_
      show Goes p e below KK T13 (mkF m 55 #[.val (.ref a1), .val (.ref a2), .val (.ref a2)] [(.int (0 : Int32))])
      rw [← hKK]
      refine Goes.retNar X13 hx hlk (t := .boolean) (by simp) Bd.returns (hb hby d3_55) ?_ (by decide) (by decide)
      rw [e13]
      exact ⟨by rw [if_neg (fun q => by rw [if_pos q] at hc47; exact absurd hc47 (by decide))]; rfl, N13, rfl⟩
    · refine Goes.of (fun t => XS.ifNo X13.here hx rfl (hb hby d3_47) rfl ((if0 _ _).trans (feq hc47).1)) ?_
      show Goes p e below KK T13 (mkF m 50 #[.val (.ref a1), .val (.ref a2), .val (.ref a2)] [])
      refine Goes.of (fun t => XS.iconst X13.here hx rfl (hb hby d3_50)) ?_
      show Goes p e below KK T13 (mkF m 51 #[.val (.ref a1), .val (.ref a2), .val (.ref a2)] [(.int (1 : Int32))])
      refine Goes.of (fun t => XS.goto X13.here hx rfl (pc0 := 51) (pc' := 55) rfl (hb hby d3_51) (by decide) (by decide)) ?_
      show Goes p e below KK T13 (mkF m 55 #[.val (.ref a1), .val (.ref a2), .val (.ref a2)] [(.int (1 : Int32))])
      rw [← hKK]
      refine Goes.retNar X13 hx hlk (t := .boolean) (by simp) Bd.returns (hb hby d3_55) ?_ (by decide) (by decide)
      rw [e13]
      exact ⟨by rw [if_pos (Classical.byContradiction fun q => hc47 (by rw [if_neg q]))]; rfl, N13, rfl⟩
theorem pn_0 : plainFor (⟨"com/example/warrant/warrant/model/EffectDecisionPinLaw", "law", "(I)Z"⟩ : MethodName) = true := plainFor_of_name (by first | (simp [plainName, overriddenIn]; done) | decide +kernel)
theorem pd_5 : parseMethodDescriptor "()Lcom/example/warrant/warrant/model/Decision;" = some ⟨[], some (.object "com/example/warrant/warrant/model/Decision")⟩ := by decide +kernel
theorem pd_6 : parseMethodDescriptor "()Ljava/lang/String;" = some ⟨[], some (.object "java/lang/String")⟩ := by decide +kernel
theorem pd_7 : parseMethodDescriptor "(Ljava/lang/Object;)Z" = some ⟨[(.object "java/lang/Object")], some .boolean⟩ := by decide +kernel
theorem ef_0 (m : MethodId) (x0 : Int32) : entryFrame m #[(.int x0)] maxLocals = mkF m 0 #[.val (.int x0), .unset, .unset, .unset, .unset, .unset] [] := by first | (simp [entryFrame, mkF, argsToLocals, Value.category, maxLocals]; done) | rfl
def Q0 (Z : State) (p1 : Int32) (eP : Addr) (eD : Addr) (dP : Addr) (dD : Addr) (tP : Addr) (tD : Addr) (bP : Addr) (bD : Addr) (cz : Int32) (h0 : Heap) (n0 : Nat) (v : Option Value) (h : Heap) (L : List Loc) : Prop := v = some (.int 1) ∧ Fr n0 L
set_option maxRecDepth 65536 in
set_option maxHeartbeats 40000000 in
theorem rm0 (l : Launch) (Z : State) (a0 : Array Value) (hw : ∀ d ∈ tables_1, d.before a0 Z = true) (ws : List Jvm.Cond) (p1 : Int32) (eP : Addr) (eD : Addr) (dP : Addr) (dD : Addr) (tP : Addr) (tD : Addr) (bP : Addr) (bD : Addr) (cz : Int32) (h0 : Heap) (n0 : Nat) (Z0 : n0 ≤ h0.size) (hh0 : Z.heap = h0) (hn0 : n0 = h0.size) (Sa : Sta Z h0 "com/example/warrant/warrant/model/Effect" "PERMIT" "Lcom/example/warrant/warrant/model/Effect;" (.ref eP)) (Sb : Sta Z h0 "com/example/warrant/warrant/model/Effect" "DENY" "Lcom/example/warrant/warrant/model/Effect;" (.ref eD)) (Sc : Sta Z h0 "com/example/warrant/warrant/model/Decision" "PERMIT" "Lcom/example/warrant/warrant/model/Decision;" (.ref dP)) (Sd : Sta Z h0 "com/example/warrant/warrant/model/Decision" "DENY" "Lcom/example/warrant/warrant/model/Decision;" (.ref dD)) (Scs : Sta Z h0 "java/lang/String" "COMPACT_STRINGS" "Z" (.int cz)) (Qea : Exa Z h0 eP "com/example/warrant/warrant/model/Effect") (Qeb : Exa Z h0 eD "com/example/warrant/warrant/model/Effect") (Qec : Exa Z h0 dP "com/example/warrant/warrant/model/Decision") (Qed : Exa Z h0 dD "com/example/warrant/warrant/model/Decision") (Fc : Fld Z h0 dP "com/example/warrant/warrant/model/Decision" "text" "Ljava/lang/String;" (.ref tP)) (Fd : Fld Z h0 dD "com/example/warrant/warrant/model/Decision" "text" "Ljava/lang/String;" (.ref tD)) (Ep : Exa Z h0 tP "java/lang/String") (Cp : Fld Z h0 tP "java/lang/String" "coder" "B" (.int (0 : Int32))) (Wpv : Fld Z h0 tP "java/lang/String" "value" "[B" (.ref bP)) (Vp : AI Z h0 bP .byte [80, 101, 114, 109, 105, 116]) (Ed : Exa Z h0 tD "java/lang/String") (Cd : Fld Z h0 tD "java/lang/String" "coder" "B" (.int (0 : Int32))) (Wdv : Fld Z h0 tD "java/lang/String" "value" "[B" (.ref bD)) (Vd : AI Z h0 bD .byte [68, 101, 110, 121]) (hne : eD ≠ eP) (hcz : ¬ cz = 0) (hcw : Jvm.Lit.compactW.before a0 Z = true) (hc27 : Jvm.Lit.constHeld Z "com/example/warrant/warrant/model/EffectDecisionPinLaw" 27) (hc29 : Jvm.Lit.constHeld Z "com/example/warrant/warrant/model/EffectDecisionPinLaw" 29) :
    MetFree l x (head1 (Jvm.Cond.code x code maxLocals ret :: ws) room_1) (fun a U => a = #[(.int p1)] ∧ Z = U) (fun _ _ _ _ _ => True) (fun _ U o U' => ∃ v L, o = .returned v ∧ Q0 Z p1 eP eD dP dD tP tD bP bD cz h0 n0 v U'.heap L ∧ ReturnedEndW U o U' L room_1.cells room_1.slots) := by
  refine MetFree.of_bodySF pn_0 hisR ?_
  intro p e s m args below meth c s₁ Bd hml0 hP hK
  obtain ⟨rfl, hs⟩ := hP
  have hZ : Z.Warmed39 s.vm := hs ▸ State.Warmed39.refl Z
  have hh : s.heap = h0 := by rw [← hs]; exact hh0
  have hx := Bd.exec
  have hby := Bd.bytes
  have hml : c.maxLocals = 6 := hml0
  have hown : s.vm.findClass "com/example/warrant/warrant/model/EffectDecisionPinLaw" = some m.cls := findClass_of_methodNamed Bd.named
  have hnm := (name_of_methodNamed Bd.named Bd.method).1
  have hlk : meth.locks = false := BodyLoose.notSynchronized Bd
  have X0 : Stand p l e room_1 s m #[(.int p1)] below meth c s₁ [] 0 0 := Stand.of_body Bd
  have e0 : s₁.heap = h0 := by rw [← hh, Bd.state]; rfl
  have N0 := Fr.nil n0
  have hZw : Z.Warmed39 (s.setVm s.vm).vm := hZ
  have hownw : (s.setVm s.vm).vm.findClass "com/example/warrant/warrant/model/EffectDecisionPinLaw" = some m.cls := hown
  have X0w : Stand p l e room_1 (s.setVm s.vm) m #[(.int p1)] below meth c s₁ [] 0 0 := X0
  have HS0 : s.Since s.vm h0.size := (State.WarmedH.refl s).since _
  have HK0 : h0.size ≤ h0.size := Nat.le_refl _
  show Goes p e below (OwnKW s (Q0 Z p1 eP eD dP dD tP tD bP bD cz h0 n0) room_1.cells room_1.slots) s₁ (entryFrame m #[(.int p1)] maxLocals)
  refine Goes.cast (ef_0 m p1) ?_
  generalize hKK : OwnKW s (Q0 Z p1 eP eD dP dD tP tD bP bD cz h0 n0) room_1.cells room_1.slots = KK
  show Goes p e below KK s₁ (mkF m 0 #[.val (.int p1), .unset, .unset, .unset, .unset, .unset] [])
  have w_0 := hw _ (List.mem_of_getElem? (i := 0) rfl)
  have w_1 := hw _ (List.mem_of_getElem? (i := 1) rfl)
  have w_3 := hw _ (List.mem_of_getElem? (i := 3) rfl)
  have w_4 := hw _ (List.mem_of_getElem? (i := 4) rfl)
  have w_5 := hw _ (List.mem_of_getElem? (i := 5) rfl)
  have w_6 := hw _ (List.mem_of_getElem? (i := 6) rfl)
  have w_7 := hw _ (List.mem_of_getElem? (i := 7) rfl)
  have w_10 := hw _ (List.mem_of_getElem? (i := 10) rfl)
  have w_12 := hw _ (List.mem_of_getElem? (i := 12) rfl)
  have w_13 := hw _ (List.mem_of_getElem? (i := 13) rfl)
  have w_14 := hw _ (List.mem_of_getElem? (i := 14) rfl)
  have w_15 := hw _ (List.mem_of_getElem? (i := 15) rfl)
  have w_16 := hw _ (List.mem_of_getElem? (i := 16) rfl)
  have w_17 := hw _ (List.mem_of_getElem? (i := 17) rfl)
  have w_18 := hw _ (List.mem_of_getElem? (i := 18) rfl)
  have w_19 := hw _ (List.mem_of_getElem? (i := 19) rfl)
  have w_20 := hw _ (List.mem_of_getElem? (i := 20) rfl)
  have w_21 := hw _ (List.mem_of_getElem? (i := 21) rfl)
  have w_22 := hw _ (List.mem_of_getElem? (i := 22) rfl)
  have w_23 := hw _ (List.mem_of_getElem? (i := 23) rfl)
  have w_24 := hw _ (List.mem_of_getElem? (i := 24) rfl)
  have w_25 := hw _ (List.mem_of_getElem? (i := 25) rfl)
  have w_28 := hw _ (List.mem_of_getElem? (i := 28) rfl)
  have w_29 := hw _ (List.mem_of_getElem? (i := 29) rfl)
  have w_30 := hw _ (List.mem_of_getElem? (i := 30) rfl)
  have w_31 := hw _ (List.mem_of_getElem? (i := 31) rfl)
  have w_32 := hw _ (List.mem_of_getElem? (i := 32) rfl)
  have w_42 := hw _ (List.mem_of_getElem? (i := 42) rfl)
  have w_46 := hw _ (List.mem_of_getElem? (i := 46) rfl)
  have w_47 := hw _ (List.mem_of_getElem? (i := 47) rfl)
  refine Goes.of (fun t => XS.iloadN X0w.here hx rfl (hb hby at_0) rfl) ?_
  show Goes p e below KK s₁ (mkF m 1 #[.val (.int p1), .unset, .unset, .unset, .unset, .unset] [(.int p1)])
  refine Goes.of (fun t => XS.iconst X0w.here hx rfl (hb hby at_1)) ?_
  show Goes p e below KK s₁ (mkF m 2 #[.val (.int p1), .unset, .unset, .unset, .unset, .unset] [(.int (1 : Int32)), (.int p1)])
  refine Goes.of (fun t => XS.iand X0w.here hx rfl (hb hby at_2) rfl) ?_
  show Goes p e below KK s₁ (mkF m 3 #[.val (.int p1), .unset, .unset, .unset, .unset, .unset] [(.int (p1 &&& (1 : Int32)))])
  by_cases hc3 : (p1 &&& (1 : Int32)) = (0 : Int32)
  · refine Goes.of (fun t => XS.ifNo X0w.here hx rfl (hb hby at_3) rfl ((if0 _ _).trans (teq hc3).2)) ?_
    show Goes p e below KK s₁ (mkF m 6 #[.val (.int p1), .unset, .unset, .unset, .unset, .unset] [])
    refine Goes.of (fun t => XS.iconst X0w.here hx rfl (hb hby at_6)) ?_
    show Goes p e below KK s₁ (mkF m 7 #[.val (.int p1), .unset, .unset, .unset, .unset, .unset] [(.int (1 : Int32))])
    refine Goes.of (fun t => XS.goto X0w.here hx rfl (pc0 := 7) (pc' := 11) rfl (hb hby at_7) (by decide) (by decide)) ?_
    show Goes p e below KK s₁ (mkF m 11 #[.val (.int p1), .unset, .unset, .unset, .unset, .unset] [(.int (1 : Int32))])
    refine Goes.of (fun t => XS.istoreN X0w.here hx rfl (hb hby at_11) rfl (l' := #[.val (.int p1), .val (.int (1 : Int32)), .unset, .unset, .unset, .unset]) rfl) ?_
    show Goes p e below KK s₁ (mkF m 12 #[.val (.int p1), .val (.int (1 : Int32)), .unset, .unset, .unset, .unset] [])
    refine Goes.of (fun t => XS.iloadN X0w.here hx rfl (hb hby at_12) rfl) ?_
    show Goes p e below KK s₁ (mkF m 13 #[.val (.int p1), .val (.int (1 : Int32)), .unset, .unset, .unset, .unset] [(.int (1 : Int32))])
    refine Goes.of (fun t => XS.ifNo X0w.here hx rfl (hb hby at_13) rfl ((if0 _ _).trans (feq (show ¬ ((1 : Int32) = (0 : Int32)) from by decide)).1)) ?_
    show Goes p e below KK s₁ (mkF m 16 #[.val (.int p1), .val (.int (1 : Int32)), .unset, .unset, .unset, .unset] [])
    obtain ⟨T14, X14, e14, st14⟩ := getS2 X0w hx hZw hownw (host := "") (Or.inl w_0) Via.refl e0 Sa (g := (mkF m 16 #[.val (.int p1), .val (.int (1 : Int32)), .unset, .unset, .unset, .unset] [])) rfl (hb hby at_16)
    refine Goes.of (st14) ?_
    show Goes p e below KK T14 (mkF m 19 #[.val (.int p1), .val (.int (1 : Int32)), .unset, .unset, .unset, .unset] [(.ref eP)])
    refine Goes.of (fun t => XS.goto X14.here hx rfl (pc0 := 19) (pc' := 25) rfl (hb hby at_19) (by decide) (by decide)) ?_
    show Goes p e below KK T14 (mkF m 25 #[.val (.int p1), .val (.int (1 : Int32)), .unset, .unset, .unset, .unset] [(.ref eP)])
    refine Goes.of (fun t => XS.astoreN X14.here hx rfl (hb hby at_25) rfl rfl (l' := #[.val (.int p1), .val (.int (1 : Int32)), .val (.ref eP), .unset, .unset, .unset]) rfl) ?_
    show Goes p e below KK T14 (mkF m 26 #[.val (.int p1), .val (.int (1 : Int32)), .val (.ref eP), .unset, .unset, .unset] [])
    refine Goes.of (fun t => XS.aloadN X14.here hx rfl (hb hby at_26) rfl rfl) ?_
    show Goes p e below KK T14 (mkF m 27 #[.val (.int p1), .val (.int (1 : Int32)), .val (.ref eP), .unset, .unset, .unset] [(.ref eP)])
    obtain ⟨cq15, kq15, q15a, q15b, q15c⟩ := isOf hZw e14 Qea
    obtain ⟨_, _, ⟨T15, L15, k15, n15⟩, -, X15, ⟨Lc15, hQ15, l15, y15, z15⟩, st15⟩ := X14.virtualBack hx (y := (⟨"com/example/warrant/warrant/model/Effect", "decision", "()Lcom/example/warrant/warrant/model/Decision;"⟩ : MethodName)) (z := (⟨"com/example/warrant/warrant/model/Effect", "decision", "()Lcom/example/warrant/warrant/model/Decision;"⟩ : MethodName)) hownw (mvT hZw w_3) (mvT hZw w_4) (notFace_of_selects (args := #[]) (mvT hZw w_6)) (mvT hZw w_6) (mvT hZw w_5) (by decide) (backOf (W := 0) (rm1P l Z a0 hw [] eP dP h0 n0 Z0 Sa Sc) hZw w_7 w_1 (by decide) (by decide)) q15a q15c (g := (mkF m 27 #[.val (.int p1), .val (.int (1 : Int32)), .val (.ref eP), .unset, .unset, .unset] [(.ref eP)])) rfl (by rw [hml]; rfl) (Steps.refl _) (argsL := []) (rest := []) (lenOf pd_5 rfl) rfl (by show 2 * 0 + _ ≤ _; exact Nat.le_of_eq rfl) (hb hby at_27) (fun _ _ => ⟨rfl, e14, (by decide : 0 + 0 ≤ _), (by decide : 0 + 0 ≤ _)⟩)
    dsimp only [Pt.U, Pt.locs, Pt.cells, Pt.slots] at X15 l15 y15 z15 st15 hQ15
    subst l15 y15 z15
    obtain ⟨rfl, N15q, e15⟩ := hQ15
    have N15 := Fr.app N0 N15q
    refine Goes.tr st15 ?_
    show Goes p e below KK T15 (mkF m 30 #[.val (.int p1), .val (.int (1 : Int32)), .val (.ref eP), .unset, .unset, .unset] [(.ref dP)])
    refine Goes.of (fun t => XS.astoreN X15.here hx rfl (hb hby at_30) rfl rfl (l' := #[.val (.int p1), .val (.int (1 : Int32)), .val (.ref eP), .val (.ref dP), .unset, .unset]) rfl) ?_
    show Goes p e below KK T15 (mkF m 31 #[.val (.int p1), .val (.int (1 : Int32)), .val (.ref eP), .val (.ref dP), .unset, .unset] [])
    refine Goes.of (fun t => XS.iloadN X15.here hx rfl (hb hby at_31) rfl) ?_
    show Goes p e below KK T15 (mkF m 32 #[.val (.int p1), .val (.int (1 : Int32)), .val (.ref eP), .val (.ref dP), .unset, .unset] [(.int (1 : Int32))])
    refine Goes.of (fun t => XS.ifNo X15.here hx rfl (hb hby at_32) rfl ((if0 _ _).trans (feq (show ¬ ((1 : Int32) = (0 : Int32)) from by decide)).1)) ?_
    show Goes p e below KK T15 (mkF m 35 #[.val (.int p1), .val (.int (1 : Int32)), .val (.ref eP), .val (.ref dP), .unset, .unset] [])
    obtain ⟨T16, X16, e16, st16⟩ := getS2 X15 hx hZw hownw (host := "") (Or.inl w_12) Via.refl e15 Sc (g := (mkF m 35 #[.val (.int p1), .val (.int (1 : Int32)), .val (.ref eP), .val (.ref dP), .unset, .unset] [])) rfl (hb hby at_35)
    refine Goes.of (st16) ?_
    show Goes p e below KK T16 (mkF m 38 #[.val (.int p1), .val (.int (1 : Int32)), .val (.ref eP), .val (.ref dP), .unset, .unset] [(.ref dP)])
    refine Goes.of (fun t => XS.goto X16.here hx rfl (pc0 := 38) (pc' := 44) rfl (hb hby at_38) (by decide) (by decide)) ?_
    show Goes p e below KK T16 (mkF m 44 #[.val (.int p1), .val (.int (1 : Int32)), .val (.ref eP), .val (.ref dP), .unset, .unset] [(.ref dP)])
    refine Goes.of (fun t => XS.astore X16.here hx rfl (hb hby at_44) rfl rfl (l' := #[.val (.int p1), .val (.int (1 : Int32)), .val (.ref eP), .val (.ref dP), .val (.ref dP), .unset]) rfl) ?_
    show Goes p e below KK T16 (mkF m 46 #[.val (.int p1), .val (.int (1 : Int32)), .val (.ref eP), .val (.ref dP), .val (.ref dP), .unset] [])
    refine Goes.of (fun t => XS.aloadN X16.here hx rfl (hb hby at_46) rfl rfl) ?_
    show Goes p e below KK T16 (mkF m 47 #[.val (.int p1), .val (.int (1 : Int32)), .val (.ref eP), .val (.ref dP), .val (.ref dP), .unset] [(.ref dP)])
    refine Goes.of (fun t => XS.aload X16.here hx rfl (hb hby at_47) rfl rfl) ?_
    show Goes p e below KK T16 (mkF m 49 #[.val (.int p1), .val (.int (1 : Int32)), .val (.ref eP), .val (.ref dP), .val (.ref dP), .unset] [(.ref dP), (.ref dP)])
    refine Goes.of (fun t => Jvm.RoadKit.acmp (g := (mkF m 49 #[.val (.int p1), .val (.int (1 : Int32)), .val (.ref eP), .val (.ref dP), .val (.ref dP), .unset] [(.ref dP), (.ref dP)])) X16 hx rfl rfl rfl (pc0 := 49) (pc' := 54) (same := true) rfl (hb hby at_49) rfl (decide_eq_true rfl) (by decide) (by decide)) ?_
    show Goes p e below KK T16 (mkF m 54 #[.val (.int p1), .val (.int (1 : Int32)), .val (.ref eP), .val (.ref dP), .val (.ref dP), .unset] [])
    refine Goes.of (fun t => XS.iloadN X16.here hx rfl (hb hby at_54) rfl) ?_
    show Goes p e below KK T16 (mkF m 55 #[.val (.int p1), .val (.int (1 : Int32)), .val (.ref eP), .val (.ref dP), .val (.ref dP), .unset] [(.int (1 : Int32))])
    refine Goes.of (fun t => XS.ifNo X16.here hx rfl (hb hby at_55) rfl ((if0 _ _).trans (feq (show ¬ ((1 : Int32) = (0 : Int32)) from by decide)).1)) ?_
    show Goes p e below KK T16 (mkF m 58 #[.val (.int p1), .val (.int (1 : Int32)), .val (.ref eP), .val (.ref dP), .val (.ref dP), .unset] [])
    have wS17 : ∀ a ∈ Bundle.stringAtoms, a.before a0 Z = true := fun a ha => by
      simp only [Bundle.stringAtoms, List.mem_cons, List.not_mem_nil, or_false] at ha
      rcases ha with rfl | rfl | rfl | rfl | rfl | rfl | rfl
      · exact w_14
      · exact w_15
      · exact w_16
      · exact w_17
      · exact w_18
      · exact w_19
      · exact w_20
    have I17 : IB Z s.vm [] := by rw [← hs]; exact IB.start
    obtain ⟨a17, T17, h17, k17, b17, kk17, X17, e17, E17, HS17, HK17, hZ17, hown17, Ex17, Fc17, Fv17, Va17, la17, lb17, IB17, st17⟩ := ldcSV X16 hx hZw hownw w_13 wS17 e16 HS0 HK0 (by rw [hh, ← hn0]; exact N15) (fun b cl q => hs ▸ q) I17 (by simp) hc27 hcw (vs := [(.int 80), (.int 101), (.int 114), (.int 109), (.int 105), (.int 116)]) (z := 6) ⟨by decide +kernel, by decide +kernel⟩ (by decide) rfl (g := (mkF m 58 #[.val (.int p1), .val (.int (1 : Int32)), .val (.ref eP), .val (.ref dP), .val (.ref dP), .unset] [])) rfl (hb hby at_58) (n := 24) (by decide +kernel) (by decide) (by decide) (by decide)
    refine Goes.of (st17) ?_
    have Sa_17 : Sta Z h17 "com/example/warrant/warrant/model/Effect" "PERMIT" "Lcom/example/warrant/warrant/model/Effect;" (.ref eP) := Sa.ext E17
    have Sb_17 : Sta Z h17 "com/example/warrant/warrant/model/Effect" "DENY" "Lcom/example/warrant/warrant/model/Effect;" (.ref eD) := Sb.ext E17
    have Sc_17 : Sta Z h17 "com/example/warrant/warrant/model/Decision" "PERMIT" "Lcom/example/warrant/warrant/model/Decision;" (.ref dP) := Sc.ext E17
    have Sd_17 : Sta Z h17 "com/example/warrant/warrant/model/Decision" "DENY" "Lcom/example/warrant/warrant/model/Decision;" (.ref dD) := Sd.ext E17
    have Scs_17 : Sta Z h17 "java/lang/String" "COMPACT_STRINGS" "Z" (.int cz) := Scs.ext E17
    have Qea_17 : Exa Z h17 eP "com/example/warrant/warrant/model/Effect" := Qea.ext E17
    have Qeb_17 : Exa Z h17 eD "com/example/warrant/warrant/model/Effect" := Qeb.ext E17
    have Qec_17 : Exa Z h17 dP "com/example/warrant/warrant/model/Decision" := Qec.ext E17
    have Qed_17 : Exa Z h17 dD "com/example/warrant/warrant/model/Decision" := Qed.ext E17
    have Fc_17 : Fld Z h17 dP "com/example/warrant/warrant/model/Decision" "text" "Ljava/lang/String;" (.ref tP) := Fc.ext E17
    have Fd_17 : Fld Z h17 dD "com/example/warrant/warrant/model/Decision" "text" "Ljava/lang/String;" (.ref tD) := Fd.ext E17
    have Ep_17 : Exa Z h17 tP "java/lang/String" := Ep.ext E17
    have Cp_17 : Fld Z h17 tP "java/lang/String" "coder" "B" (.int (0 : Int32)) := Cp.ext E17
    have Wpv_17 : Fld Z h17 tP "java/lang/String" "value" "[B" (.ref bP) := Wpv.ext E17
    have Vp_17 : AI Z h17 bP .byte [80, 101, 114, 109, 105, 116] := Vp.ext E17
    have Ed_17 : Exa Z h17 tD "java/lang/String" := Ed.ext E17
    have Cd_17 : Fld Z h17 tD "java/lang/String" "coder" "B" (.int (0 : Int32)) := Cd.ext E17
    have Wdv_17 : Fld Z h17 tD "java/lang/String" "value" "[B" (.ref bD) := Wdv.ext E17
    have Vd_17 : AI Z h17 bD .byte [68, 101, 110, 121] := Vd.ext E17
    have Z17 : n0 ≤ h17.size := Nat.le_trans Z0 E17.1
    have V17 : AI Z h17 b17 .byte [80, 101, 114, 109, 105, 116] := AI.ofArv Va17 rfl rfl
    show Goes p e below KK T17 (mkF m 60 #[.val (.int p1), .val (.int (1 : Int32)), .val (.ref eP), .val (.ref dP), .val (.ref dP), .unset] [(.ref a17)])
    refine Goes.of (fun t => XS.goto X17.here hx rfl (pc0 := 60) (pc' := 65) rfl (hb hby at_60) (by decide) (by decide)) ?_
    show Goes p e below KK T17 (mkF m 65 #[.val (.int p1), .val (.int (1 : Int32)), .val (.ref eP), .val (.ref dP), .val (.ref dP), .unset] [(.ref a17)])
    refine Goes.of (fun t => XS.astore X17.here hx rfl (hb hby at_65) rfl rfl (l' := #[.val (.int p1), .val (.int (1 : Int32)), .val (.ref eP), .val (.ref dP), .val (.ref dP), .val (.ref a17)]) rfl) ?_
    show Goes p e below KK T17 (mkF m 67 #[.val (.int p1), .val (.int (1 : Int32)), .val (.ref eP), .val (.ref dP), .val (.ref dP), .val (.ref a17)] [])
    refine Goes.of (fun t => XS.aloadN X17.here hx rfl (hb hby at_67) rfl rfl) ?_
    show Goes p e below KK T17 (mkF m 68 #[.val (.int p1), .val (.int (1 : Int32)), .val (.ref eP), .val (.ref dP), .val (.ref dP), .val (.ref a17)] [(.ref dP)])
    obtain ⟨cq18, kq18, q18a, q18b, q18c⟩ := isOf hZ17 e17 Qec_17
    obtain ⟨_, _, ⟨T18, L18, k18, n18⟩, -, X18, ⟨Lc18, hQ18, l18, y18, z18⟩, st18⟩ := X17.virtualBack hx (y := (⟨"com/example/warrant/warrant/model/Decision", "text", "()Ljava/lang/String;"⟩ : MethodName)) (z := (⟨"com/example/warrant/warrant/model/Decision", "text", "()Ljava/lang/String;"⟩ : MethodName)) hown17 (mvT hZ17 w_21) (mvT hZ17 w_22) (notFace_of_selects (args := #[]) (mvT hZ17 w_24)) (mvT hZ17 w_24) (mvT hZ17 w_23) (by decide) (backOf (W := 0) (rm2 l Z a0 hw [] dP tP h17 n0 Z17 Fc_17) hZ17 w_25 w_10 (by decide) (by decide)) q18a q18c (g := (mkF m 68 #[.val (.int p1), .val (.int (1 : Int32)), .val (.ref eP), .val (.ref dP), .val (.ref dP), .val (.ref a17)] [(.ref dP)])) rfl (by rw [hml]; rfl) (Steps.refl _) (argsL := []) (rest := []) (lenOf pd_6 rfl) rfl (by show 2 * 0 + _ ≤ _; exact Nat.le_of_eq rfl) (hb hby at_68) (fun _ _ => ⟨rfl, e17, (by decide : 2 + 0 ≤ _), (by decide : 28 + 0 ≤ _)⟩)
    dsimp only [Pt.U, Pt.locs, Pt.cells, Pt.slots] at X18 l18 y18 z18 st18 hQ18
    subst l18 y18 z18
    obtain ⟨rfl, N18q, e18⟩ := hQ18
    have N18 := Fr.app N15 N18q
    refine Goes.tr st18 ?_
    show Goes p e below KK T18 (mkF m 71 #[.val (.int p1), .val (.int (1 : Int32)), .val (.ref eP), .val (.ref dP), .val (.ref dP), .val (.ref a17)] [(.ref tP)])
    refine Goes.of (fun t => XS.aload X18.here hx rfl (hb hby at_71) rfl rfl) ?_
    show Goes p e below KK T18 (mkF m 73 #[.val (.int p1), .val (.int (1 : Int32)), .val (.ref eP), .val (.ref dP), .val (.ref dP), .val (.ref a17)] [(.ref a17), (.ref tP)])
    obtain ⟨cq19, kq19, q19a, q19b, q19c⟩ := isOf hZ17 e18 Ep_17
    obtain ⟨_, _, ⟨T19, L19, k19, n19⟩, -, X19, ⟨Lc19, hQ19, l19, y19, z19⟩, st19⟩ := X18.virtualBack hx (y := (⟨"java/lang/String", "equals", "(Ljava/lang/Object;)Z"⟩ : MethodName)) (z := (⟨"java/lang/String", "equals", "(Ljava/lang/Object;)Z"⟩ : MethodName)) hown17 (mvT hZ17 w_28) (mvT hZ17 w_29) (notFace_of_selects (args := #[]) (mvT hZ17 w_31)) (mvT hZ17 w_31) (mvT hZ17 w_30) (by decide) (backOf (W := 0) (rm3 l Z a0 hw [] tP a17 bP [80, 101, 114, 109, 105, 116] b17 [80, 101, 114, 109, 105, 116] 6 6 cz h17 n0 Z17 Ep_17 Cp_17 Wpv_17 Vp_17 Ex17 Fc17 Fv17 V17 rfl rfl (by decide) Scs_17 hcz) hZ17 w_32 w_14 (by decide) (by decide)) q19a q19c (g := (mkF m 73 #[.val (.int p1), .val (.int (1 : Int32)), .val (.ref eP), .val (.ref dP), .val (.ref dP), .val (.ref a17)] [(.ref a17), (.ref tP)])) rfl (by rw [hml]; rfl) (Steps.refl _) (argsL := [(.ref a17)]) (rest := []) (lenOf pd_7 rfl) rfl (by show 2 * 0 + _ ≤ _; exact Nat.le_of_eq rfl) (hb hby at_73) (fun _ _ => ⟨rfl, e18, (by decide : 2 + 0 ≤ _), (by decide : 28 + 0 ≤ _)⟩)
    dsimp only [Pt.U, Pt.locs, Pt.cells, Pt.slots] at X19 l19 y19 z19 st19 hQ19
    subst l19 y19 z19
    obtain ⟨rfl, N19q, e19⟩ := hQ19
    have N19 := Fr.app N18 N19q
    refine Goes.tr st19 ?_
    show Goes p e below KK T19 (mkF m 76 #[.val (.int p1), .val (.int (1 : Int32)), .val (.ref eP), .val (.ref dP), .val (.ref dP), .val (.ref a17)] [(.int (if ([80, 101, 114, 109, 105, 116] : List Int32) = [80, 101, 114, 109, 105, 116] then (1 : Int32) else 0))])
    rw [← hKK]
    refine Goes.retNarW X19 HS17 (by rw [e19]; exact HK17) hx hlk (t := .boolean) (by simp) Bd.returns (hb hby at_76) ?_ (by decide) (by decide)
    rw [e19]
    exact ⟨by rw [if_pos rfl]; rfl, N19⟩
  · refine Goes.of (fun t => XS.ifYes X0w.here hx rfl (pc0 := 3) (pc' := 10) rfl (hb hby at_3) rfl ((if0 _ _).trans (feq hc3).2) (by decide) (by decide)) ?_
    show Goes p e below KK s₁ (mkF m 10 #[.val (.int p1), .unset, .unset, .unset, .unset, .unset] [])
    refine Goes.of (fun t => XS.iconst X0w.here hx rfl (hb hby at_10)) ?_
    show Goes p e below KK s₁ (mkF m 11 #[.val (.int p1), .unset, .unset, .unset, .unset, .unset] [(.int (0 : Int32))])
    refine Goes.of (fun t => XS.istoreN X0w.here hx rfl (hb hby at_11) rfl (l' := #[.val (.int p1), .val (.int (0 : Int32)), .unset, .unset, .unset, .unset]) rfl) ?_
    show Goes p e below KK s₁ (mkF m 12 #[.val (.int p1), .val (.int (0 : Int32)), .unset, .unset, .unset, .unset] [])
    refine Goes.of (fun t => XS.iloadN X0w.here hx rfl (hb hby at_12) rfl) ?_
    show Goes p e below KK s₁ (mkF m 13 #[.val (.int p1), .val (.int (0 : Int32)), .unset, .unset, .unset, .unset] [(.int (0 : Int32))])
    refine Goes.of (fun t => XS.ifYes X0w.here hx rfl (pc0 := 13) (pc' := 22) rfl (hb hby at_13) rfl ((if0 _ _).trans (teq (show (0 : Int32) = (0 : Int32) from by decide)).1) (by decide) (by decide)) ?_
    show Goes p e below KK s₁ (mkF m 22 #[.val (.int p1), .val (.int (0 : Int32)), .unset, .unset, .unset, .unset] [])
    obtain ⟨T20, X20, e20, st20⟩ := getS2 X0w hx hZw hownw (host := "") (Or.inl w_42) Via.refl e0 Sb (g := (mkF m 22 #[.val (.int p1), .val (.int (0 : Int32)), .unset, .unset, .unset, .unset] [])) rfl (hb hby at_22)
    refine Goes.of (st20) ?_
    show Goes p e below KK T20 (mkF m 25 #[.val (.int p1), .val (.int (0 : Int32)), .unset, .unset, .unset, .unset] [(.ref eD)])
    refine Goes.of (fun t => XS.astoreN X20.here hx rfl (hb hby at_25) rfl rfl (l' := #[.val (.int p1), .val (.int (0 : Int32)), .val (.ref eD), .unset, .unset, .unset]) rfl) ?_
    show Goes p e below KK T20 (mkF m 26 #[.val (.int p1), .val (.int (0 : Int32)), .val (.ref eD), .unset, .unset, .unset] [])
    refine Goes.of (fun t => XS.aloadN X20.here hx rfl (hb hby at_26) rfl rfl) ?_
    show Goes p e below KK T20 (mkF m 27 #[.val (.int p1), .val (.int (0 : Int32)), .val (.ref eD), .unset, .unset, .unset] [(.ref eD)])
    obtain ⟨cq21, kq21, q21a, q21b, q21c⟩ := isOf hZw e20 Qeb
    obtain ⟨_, _, ⟨T21, L21, k21, n21⟩, -, X21, ⟨Lc21, hQ21, l21, y21, z21⟩, st21⟩ := X20.virtualBack hx (y := (⟨"com/example/warrant/warrant/model/Effect", "decision", "()Lcom/example/warrant/warrant/model/Decision;"⟩ : MethodName)) (z := (⟨"com/example/warrant/warrant/model/Effect", "decision", "()Lcom/example/warrant/warrant/model/Decision;"⟩ : MethodName)) hownw (mvT hZw w_3) (mvT hZw w_4) (notFace_of_selects (args := #[]) (mvT hZw w_6)) (mvT hZw w_6) (mvT hZw w_5) (by decide) (backOf (W := 0) (rm1D l Z a0 hw [] eD eP dD h0 n0 Z0 Sa Sd hne) hZw w_7 w_1 (by decide) (by decide)) q21a q21c (g := (mkF m 27 #[.val (.int p1), .val (.int (0 : Int32)), .val (.ref eD), .unset, .unset, .unset] [(.ref eD)])) rfl (by rw [hml]; rfl) (Steps.refl _) (argsL := []) (rest := []) (lenOf pd_5 rfl) rfl (by show 2 * 0 + _ ≤ _; exact Nat.le_of_eq rfl) (hb hby at_27) (fun _ _ => ⟨rfl, e20, (by decide : 0 + 0 ≤ _), (by decide : 0 + 0 ≤ _)⟩)
    dsimp only [Pt.U, Pt.locs, Pt.cells, Pt.slots] at X21 l21 y21 z21 st21 hQ21
    subst l21 y21 z21
    obtain ⟨rfl, N21q, e21⟩ := hQ21
    have N21 := Fr.app N0 N21q
    refine Goes.tr st21 ?_
    show Goes p e below KK T21 (mkF m 30 #[.val (.int p1), .val (.int (0 : Int32)), .val (.ref eD), .unset, .unset, .unset] [(.ref dD)])
    refine Goes.of (fun t => XS.astoreN X21.here hx rfl (hb hby at_30) rfl rfl (l' := #[.val (.int p1), .val (.int (0 : Int32)), .val (.ref eD), .val (.ref dD), .unset, .unset]) rfl) ?_
    show Goes p e below KK T21 (mkF m 31 #[.val (.int p1), .val (.int (0 : Int32)), .val (.ref eD), .val (.ref dD), .unset, .unset] [])
    refine Goes.of (fun t => XS.iloadN X21.here hx rfl (hb hby at_31) rfl) ?_
    show Goes p e below KK T21 (mkF m 32 #[.val (.int p1), .val (.int (0 : Int32)), .val (.ref eD), .val (.ref dD), .unset, .unset] [(.int (0 : Int32))])
    refine Goes.of (fun t => XS.ifYes X21.here hx rfl (pc0 := 32) (pc' := 41) rfl (hb hby at_32) rfl ((if0 _ _).trans (teq (show (0 : Int32) = (0 : Int32) from by decide)).1) (by decide) (by decide)) ?_
    show Goes p e below KK T21 (mkF m 41 #[.val (.int p1), .val (.int (0 : Int32)), .val (.ref eD), .val (.ref dD), .unset, .unset] [])
    obtain ⟨T22, X22, e22, st22⟩ := getS2 X21 hx hZw hownw (host := "") (Or.inl w_46) Via.refl e21 Sd (g := (mkF m 41 #[.val (.int p1), .val (.int (0 : Int32)), .val (.ref eD), .val (.ref dD), .unset, .unset] [])) rfl (hb hby at_41)
    refine Goes.of (st22) ?_
    show Goes p e below KK T22 (mkF m 44 #[.val (.int p1), .val (.int (0 : Int32)), .val (.ref eD), .val (.ref dD), .unset, .unset] [(.ref dD)])
    refine Goes.of (fun t => XS.astore X22.here hx rfl (hb hby at_44) rfl rfl (l' := #[.val (.int p1), .val (.int (0 : Int32)), .val (.ref eD), .val (.ref dD), .val (.ref dD), .unset]) rfl) ?_
    show Goes p e below KK T22 (mkF m 46 #[.val (.int p1), .val (.int (0 : Int32)), .val (.ref eD), .val (.ref dD), .val (.ref dD), .unset] [])
    refine Goes.of (fun t => XS.aloadN X22.here hx rfl (hb hby at_46) rfl rfl) ?_
    show Goes p e below KK T22 (mkF m 47 #[.val (.int p1), .val (.int (0 : Int32)), .val (.ref eD), .val (.ref dD), .val (.ref dD), .unset] [(.ref dD)])
    refine Goes.of (fun t => XS.aload X22.here hx rfl (hb hby at_47) rfl rfl) ?_
    show Goes p e below KK T22 (mkF m 49 #[.val (.int p1), .val (.int (0 : Int32)), .val (.ref eD), .val (.ref dD), .val (.ref dD), .unset] [(.ref dD), (.ref dD)])
    refine Goes.of (fun t => Jvm.RoadKit.acmp (g := (mkF m 49 #[.val (.int p1), .val (.int (0 : Int32)), .val (.ref eD), .val (.ref dD), .val (.ref dD), .unset] [(.ref dD), (.ref dD)])) X22 hx rfl rfl rfl (pc0 := 49) (pc' := 54) (same := true) rfl (hb hby at_49) rfl (decide_eq_true rfl) (by decide) (by decide)) ?_
    show Goes p e below KK T22 (mkF m 54 #[.val (.int p1), .val (.int (0 : Int32)), .val (.ref eD), .val (.ref dD), .val (.ref dD), .unset] [])
    refine Goes.of (fun t => XS.iloadN X22.here hx rfl (hb hby at_54) rfl) ?_
    show Goes p e below KK T22 (mkF m 55 #[.val (.int p1), .val (.int (0 : Int32)), .val (.ref eD), .val (.ref dD), .val (.ref dD), .unset] [(.int (0 : Int32))])
    refine Goes.of (fun t => XS.ifYes X22.here hx rfl (pc0 := 55) (pc' := 63) rfl (hb hby at_55) rfl ((if0 _ _).trans (teq (show (0 : Int32) = (0 : Int32) from by decide)).1) (by decide) (by decide)) ?_
    show Goes p e below KK T22 (mkF m 63 #[.val (.int p1), .val (.int (0 : Int32)), .val (.ref eD), .val (.ref dD), .val (.ref dD), .unset] [])
    have wS23 : ∀ a ∈ Bundle.stringAtoms, a.before a0 Z = true := fun a ha => by
      simp only [Bundle.stringAtoms, List.mem_cons, List.not_mem_nil, or_false] at ha
      rcases ha with rfl | rfl | rfl | rfl | rfl | rfl | rfl
      · exact w_14
      · exact w_15
      · exact w_16
      · exact w_17
      · exact w_18
      · exact w_19
      · exact w_20
    have I23 : IB Z s.vm [] := by rw [← hs]; exact IB.start
    obtain ⟨a23, T23, h23, k23, b23, kk23, X23, e23, E23, HS23, HK23, hZ23, hown23, Ex23, Fc23, Fv23, Va23, la23, lb23, IB23, st23⟩ := ldcSV X22 hx hZw hownw w_47 wS23 e22 HS0 HK0 (by rw [hh, ← hn0]; exact N21) (fun b cl q => hs ▸ q) I23 (by simp) hc29 hcw (vs := [(.int 68), (.int 101), (.int 110), (.int 121)]) (z := 4) ⟨by decide +kernel, by decide +kernel⟩ (by decide) rfl (g := (mkF m 63 #[.val (.int p1), .val (.int (0 : Int32)), .val (.ref eD), .val (.ref dD), .val (.ref dD), .unset] [])) rfl (hb hby at_63) (n := 16) (by decide +kernel) (by decide) (by decide) (by decide)
    refine Goes.of (st23) ?_
    have Sa_23 : Sta Z h23 "com/example/warrant/warrant/model/Effect" "PERMIT" "Lcom/example/warrant/warrant/model/Effect;" (.ref eP) := Sa.ext E23
    have Sb_23 : Sta Z h23 "com/example/warrant/warrant/model/Effect" "DENY" "Lcom/example/warrant/warrant/model/Effect;" (.ref eD) := Sb.ext E23
    have Sc_23 : Sta Z h23 "com/example/warrant/warrant/model/Decision" "PERMIT" "Lcom/example/warrant/warrant/model/Decision;" (.ref dP) := Sc.ext E23
    have Sd_23 : Sta Z h23 "com/example/warrant/warrant/model/Decision" "DENY" "Lcom/example/warrant/warrant/model/Decision;" (.ref dD) := Sd.ext E23
    have Scs_23 : Sta Z h23 "java/lang/String" "COMPACT_STRINGS" "Z" (.int cz) := Scs.ext E23
    have Qea_23 : Exa Z h23 eP "com/example/warrant/warrant/model/Effect" := Qea.ext E23
    have Qeb_23 : Exa Z h23 eD "com/example/warrant/warrant/model/Effect" := Qeb.ext E23
    have Qec_23 : Exa Z h23 dP "com/example/warrant/warrant/model/Decision" := Qec.ext E23
    have Qed_23 : Exa Z h23 dD "com/example/warrant/warrant/model/Decision" := Qed.ext E23
    have Fc_23 : Fld Z h23 dP "com/example/warrant/warrant/model/Decision" "text" "Ljava/lang/String;" (.ref tP) := Fc.ext E23
    have Fd_23 : Fld Z h23 dD "com/example/warrant/warrant/model/Decision" "text" "Ljava/lang/String;" (.ref tD) := Fd.ext E23
    have Ep_23 : Exa Z h23 tP "java/lang/String" := Ep.ext E23
    have Cp_23 : Fld Z h23 tP "java/lang/String" "coder" "B" (.int (0 : Int32)) := Cp.ext E23
    have Wpv_23 : Fld Z h23 tP "java/lang/String" "value" "[B" (.ref bP) := Wpv.ext E23
    have Vp_23 : AI Z h23 bP .byte [80, 101, 114, 109, 105, 116] := Vp.ext E23
    have Ed_23 : Exa Z h23 tD "java/lang/String" := Ed.ext E23
    have Cd_23 : Fld Z h23 tD "java/lang/String" "coder" "B" (.int (0 : Int32)) := Cd.ext E23
    have Wdv_23 : Fld Z h23 tD "java/lang/String" "value" "[B" (.ref bD) := Wdv.ext E23
    have Vd_23 : AI Z h23 bD .byte [68, 101, 110, 121] := Vd.ext E23
    have Z23 : n0 ≤ h23.size := Nat.le_trans Z0 E23.1
    have V23 : AI Z h23 b23 .byte [68, 101, 110, 121] := AI.ofArv Va23 rfl rfl
    show Goes p e below KK T23 (mkF m 65 #[.val (.int p1), .val (.int (0 : Int32)), .val (.ref eD), .val (.ref dD), .val (.ref dD), .unset] [(.ref a23)])
    refine Goes.of (fun t => XS.astore X23.here hx rfl (hb hby at_65) rfl rfl (l' := #[.val (.int p1), .val (.int (0 : Int32)), .val (.ref eD), .val (.ref dD), .val (.ref dD), .val (.ref a23)]) rfl) ?_
    show Goes p e below KK T23 (mkF m 67 #[.val (.int p1), .val (.int (0 : Int32)), .val (.ref eD), .val (.ref dD), .val (.ref dD), .val (.ref a23)] [])
    refine Goes.of (fun t => XS.aloadN X23.here hx rfl (hb hby at_67) rfl rfl) ?_
    show Goes p e below KK T23 (mkF m 68 #[.val (.int p1), .val (.int (0 : Int32)), .val (.ref eD), .val (.ref dD), .val (.ref dD), .val (.ref a23)] [(.ref dD)])
    obtain ⟨cq24, kq24, q24a, q24b, q24c⟩ := isOf hZ23 e23 Qed_23
    obtain ⟨_, _, ⟨T24, L24, k24, n24⟩, -, X24, ⟨Lc24, hQ24, l24, y24, z24⟩, st24⟩ := X23.virtualBack hx (y := (⟨"com/example/warrant/warrant/model/Decision", "text", "()Ljava/lang/String;"⟩ : MethodName)) (z := (⟨"com/example/warrant/warrant/model/Decision", "text", "()Ljava/lang/String;"⟩ : MethodName)) hown23 (mvT hZ23 w_21) (mvT hZ23 w_22) (notFace_of_selects (args := #[]) (mvT hZ23 w_24)) (mvT hZ23 w_24) (mvT hZ23 w_23) (by decide) (backOf (W := 0) (rm2 l Z a0 hw [] dD tD h23 n0 Z23 Fd_23) hZ23 w_25 w_10 (by decide) (by decide)) q24a q24c (g := (mkF m 68 #[.val (.int p1), .val (.int (0 : Int32)), .val (.ref eD), .val (.ref dD), .val (.ref dD), .val (.ref a23)] [(.ref dD)])) rfl (by rw [hml]; rfl) (Steps.refl _) (argsL := []) (rest := []) (lenOf pd_6 rfl) rfl (by show 2 * 0 + _ ≤ _; exact Nat.le_of_eq rfl) (hb hby at_68) (fun _ _ => ⟨rfl, e23, (by decide : 2 + 0 ≤ _), (by decide : 20 + 0 ≤ _)⟩)
    dsimp only [Pt.U, Pt.locs, Pt.cells, Pt.slots] at X24 l24 y24 z24 st24 hQ24
    subst l24 y24 z24
    obtain ⟨rfl, N24q, e24⟩ := hQ24
    have N24 := Fr.app N21 N24q
    refine Goes.tr st24 ?_
    show Goes p e below KK T24 (mkF m 71 #[.val (.int p1), .val (.int (0 : Int32)), .val (.ref eD), .val (.ref dD), .val (.ref dD), .val (.ref a23)] [(.ref tD)])
    refine Goes.of (fun t => XS.aload X24.here hx rfl (hb hby at_71) rfl rfl) ?_
    show Goes p e below KK T24 (mkF m 73 #[.val (.int p1), .val (.int (0 : Int32)), .val (.ref eD), .val (.ref dD), .val (.ref dD), .val (.ref a23)] [(.ref a23), (.ref tD)])
    obtain ⟨cq25, kq25, q25a, q25b, q25c⟩ := isOf hZ23 e24 Ed_23
    obtain ⟨_, _, ⟨T25, L25, k25, n25⟩, -, X25, ⟨Lc25, hQ25, l25, y25, z25⟩, st25⟩ := X24.virtualBack hx (y := (⟨"java/lang/String", "equals", "(Ljava/lang/Object;)Z"⟩ : MethodName)) (z := (⟨"java/lang/String", "equals", "(Ljava/lang/Object;)Z"⟩ : MethodName)) hown23 (mvT hZ23 w_28) (mvT hZ23 w_29) (notFace_of_selects (args := #[]) (mvT hZ23 w_31)) (mvT hZ23 w_31) (mvT hZ23 w_30) (by decide) (backOf (W := 0) (rm3 l Z a0 hw [] tD a23 bD [68, 101, 110, 121] b23 [68, 101, 110, 121] 4 4 cz h23 n0 Z23 Ed_23 Cd_23 Wdv_23 Vd_23 Ex23 Fc23 Fv23 V23 rfl rfl (by decide) Scs_23 hcz) hZ23 w_32 w_14 (by decide) (by decide)) q25a q25c (g := (mkF m 73 #[.val (.int p1), .val (.int (0 : Int32)), .val (.ref eD), .val (.ref dD), .val (.ref dD), .val (.ref a23)] [(.ref a23), (.ref tD)])) rfl (by rw [hml]; rfl) (Steps.refl _) (argsL := [(.ref a23)]) (rest := []) (lenOf pd_7 rfl) rfl (by show 2 * 0 + _ ≤ _; exact Nat.le_of_eq rfl) (hb hby at_73) (fun _ _ => ⟨rfl, e24, (by decide : 2 + 0 ≤ _), (by decide : 20 + 0 ≤ _)⟩)
    dsimp only [Pt.U, Pt.locs, Pt.cells, Pt.slots] at X25 l25 y25 z25 st25 hQ25
    subst l25 y25 z25
    obtain ⟨rfl, N25q, e25⟩ := hQ25
    have N25 := Fr.app N24 N25q
    refine Goes.tr st25 ?_
    show Goes p e below KK T25 (mkF m 76 #[.val (.int p1), .val (.int (0 : Int32)), .val (.ref eD), .val (.ref dD), .val (.ref dD), .val (.ref a23)] [(.int (if ([68, 101, 110, 121] : List Int32) = [68, 101, 110, 121] then (1 : Int32) else 0))])
    rw [← hKK]
    refine Goes.retNarW X25 HS23 (by rw [e25]; exact HK23) hx hlk (t := .boolean) (by simp) Bd.returns (hb hby at_76) ?_ (by decide) (by decide)
    rw [e25]
    exact ⟨by rw [if_pos rfl]; rfl, N25⟩
set_option maxRecDepth 65536 in
set_option maxHeartbeats 40000000 in
theorem comes_1 {Post : Tables → Env → Array Value → State → Outcome → State → Prop} (hpost : ∀ tb e args s v u, (limb_1_1.after args s (.returned v) u = true ∧ limb_1_2.after args s (.returned v) u = true ∧ True) → ReturnedEndW s (.returned v) u (Jvm.fieldLocs frame_1_writes args s ++ Jvm.arrayLocs frame_1_arrays args s ++ Jvm.staticLocs frame_1_statics s) 8 2112 → Post tb e args s (.returned v) u) :
    ArmFor flags0 classFile x code maxLocals ret World_1 tables_1 room_1 Calls_1 rest_1 Pre_1 Post := by
  intro l hfl _ _ p e ha hc hk s m args below hf hA hF happ hP
  obtain ⟨hcalls, hrest, hpre⟩ := hP
  obtain ⟨-, -, -, hnamed, -, -, -, hat⟩ := (Spec.applies_iff hf).mp happ
  obtain ⟨hg, hn⟩ := and_e (Cond.before_iff.mp (show (Jvm.Cond.and given_1 narrow_1).before args s = true from hpre))
  obtain ⟨hgc, hr0⟩ := and_e hg
  have hg0 := hr0
  obtain ⟨w0, rfl⟩ : ∃ w0 : Value, args = #[w0] := by
    have hs : args.size = 1 := by simpa [Cond.value, given_1] using hgc
    obtain ⟨L⟩ := args
    match L, hs with
    | [w0], _ => exact ⟨w0, rfl⟩
  have hw := fun d (hd : d ∈ tables_1) => atoms_spec (ws := Jvm.Cond.code x code maxLocals ret :: tables_1) hat d (List.mem_cons_of_mem _ hd)
  have hfit : Fit s := fun {y c} hc i hi => by
    obtain ⟨ha, rfl⟩ := Array.getElem?_eq_some_iff.mp hc
    have q := List.all_eq_true.mp ((Array.all_eq_true_iff_forall_mem.mp hF) _ (Array.getElem_mem ha)) i (List.mem_range.mpr hi)
    simpa [Array.getElem?_eq_getElem hi] using q
  obtain ⟨hsets, hown0⟩ := atoms_of _ (rest_1_c_eq ▸ (show rest_1_c.before _ s = true from hrest))
  have hr0 := Cond.before_iff.mp hown0
  obtain ⟨i0, ei0⟩ := is_v hg0
  obtain rfl : w0 = (.int i0) := Option.some.inj ei0
  obtain ⟨c0, r0⟩ := and_e hn
  obtain ⟨c1, r1⟩ := and_e r0
  obtain ⟨c2, r2⟩ := and_e r1
  obtain ⟨c3, r3⟩ := and_e r2
  obtain ⟨c4, r4⟩ := and_e r3
  obtain ⟨c5, r5⟩ := and_e r4
  obtain ⟨c6, r6⟩ := and_e r5
  obtain ⟨c7, r7⟩ := and_e r6
  obtain ⟨c8, r8⟩ := and_e r7
  obtain ⟨c9, r9⟩ := and_e r8
  obtain ⟨c10, r10⟩ := and_e r9
  obtain ⟨c11, r11⟩ := and_e r10
  obtain ⟨c12, r12⟩ := and_e r11
  obtain ⟨c13, r13⟩ := and_e r12
  obtain ⟨c14, r14⟩ := and_e r13
  obtain ⟨c15, r15⟩ := and_e r14
  obtain ⟨c16, r16⟩ := and_e r15
  obtain ⟨c17, r17⟩ := and_e r16
  obtain ⟨c18, r18⟩ := and_e r17
  obtain ⟨c19, r19⟩ := and_e r18
  obtain ⟨c20, r20⟩ := and_e r19
  obtain ⟨c21, r21⟩ := and_e r20
  obtain ⟨c22, r22⟩ := and_e r21
  have c23 := r22
  obtain ⟨eP, v_eP⟩ := exa_v c0
  have E_eP := Exa.start v_eP c0
  have Sa := Sta.start v_eP (Or.inr ⟨(hw _ (List.mem_of_getElem? (i := 1) rfl)), (hw _ (List.mem_of_getElem? (i := 2) rfl))⟩)
  obtain ⟨dP, v_dP⟩ := exa_v c1
  have E_dP := Exa.start v_dP c1
  have Sc := Sta.start v_dP (Or.inr ⟨(hw _ (List.mem_of_getElem? (i := 10) rfl)), (hw _ (List.mem_of_getElem? (i := 11) rfl))⟩)
  obtain ⟨eD, v_eD⟩ := exa_v c6
  have E_eD := Exa.start v_eD c6
  have Sb := Sta.start v_eD (Or.inr ⟨(hw _ (List.mem_of_getElem? (i := 1) rfl)), (hw _ (List.mem_of_getElem? (i := 43) rfl))⟩)
  obtain ⟨dD, v_dD⟩ := exa_v c9
  have E_dD := Exa.start v_dD c9
  have Sd := Sta.start v_dD (Or.inr ⟨(hw _ (List.mem_of_getElem? (i := 10) rfl)), (hw _ (List.mem_of_getElem? (i := 45) rfl))⟩)
  obtain ⟨tP, v_tP⟩ := exa_v c2
  have Ep := Exa.start v_tP c2
  have Fc := Fld.start ((fld_at v_dP).symm.trans v_tP)
  have Cp := Fld.start ((fld_at v_tP).symm.trans (eqv_i (Term.int_eval _) c3))
  obtain ⟨bP, v_bP⟩ := arr_v c4
  have Wpv := Fld.start ((fld_at v_tP).symm.trans v_bP)
  obtain ⟨clp, Ap⟩ := Arr.start v_bP c4
  have lp := eqv_i (Term.int_eval _) c5
  obtain ⟨xp, yp, q1p, q2p, q3p, q4p⟩ := Jvm.Lib.length_spec lp
  cases v_bP.symm.trans q1p
  cases (Arr.fin (Vm.Alike.refl _) Ap).symm.trans q2p
  have mp0 := (elem_in (eqv_i (Term.int_eval _) c18) v_bP (Term.int_eval _) Ap.1).2
  have mp1 := (elem_in (eqv_i (Term.int_eval _) c19) v_bP (Term.int_eval _) Ap.1).2
  have mp2 := (elem_in (eqv_i (Term.int_eval _) c20) v_bP (Term.int_eval _) Ap.1).2
  have mp3 := (elem_in (eqv_i (Term.int_eval _) c21) v_bP (Term.int_eval _) Ap.1).2
  have mp4 := (elem_in (eqv_i (Term.int_eval _) c22) v_bP (Term.int_eval _) Ap.1).2
  have mp5 := (elem_in (eqv_i (Term.int_eval _) c23) v_bP (Term.int_eval _) Ap.1).2
  have Vp : AI s s.heap bP .byte [80, 101, 114, 109, 105, 116] := AI.ofArv (Arv.start (dv := .int 0) (vs := [(.int 80), (.int 101), (.int 114), (.int 109), (.int 105), (.int 116)]) hfit Ap q3p (Value.int.inj q4p).symm (by decide) rfl ⟨mp0, mp1, mp2, mp3, mp4, mp5, trivial⟩) rfl rfl
  obtain ⟨tD, v_tD⟩ := exa_v c10
  have Ed := Exa.start v_tD c10
  have Fd := Fld.start ((fld_at v_dD).symm.trans v_tD)
  have Cd := Fld.start ((fld_at v_tD).symm.trans (eqv_i (Term.int_eval _) c11))
  obtain ⟨bD, v_bD⟩ := arr_v c12
  have Wdv := Fld.start ((fld_at v_tD).symm.trans v_bD)
  obtain ⟨cld, Ad⟩ := Arr.start v_bD c12
  have ld := eqv_i (Term.int_eval _) c13
  obtain ⟨xd, yd, q1d, q2d, q3d, q4d⟩ := Jvm.Lib.length_spec ld
  cases v_bD.symm.trans q1d
  cases (Arr.fin (Vm.Alike.refl _) Ad).symm.trans q2d
  have md0 := (elem_in (eqv_i (Term.int_eval _) c14) v_bD (Term.int_eval _) Ad.1).2
  have md1 := (elem_in (eqv_i (Term.int_eval _) c15) v_bD (Term.int_eval _) Ad.1).2
  have md2 := (elem_in (eqv_i (Term.int_eval _) c16) v_bD (Term.int_eval _) Ad.1).2
  have md3 := (elem_in (eqv_i (Term.int_eval _) c17) v_bD (Term.int_eval _) Ad.1).2
  have Vd : AI s s.heap bD .byte [68, 101, 110, 121] := AI.ofArv (Arv.start (dv := .int 0) (vs := [(.int 68), (.int 101), (.int 110), (.int 121)]) hfit Ad q3d (Value.int.inj q4d).symm (by decide) rfl ⟨md0, md1, md2, md3, trivial⟩) rfl rfl
  have o7 := Fld.start ((fld_at v_eD).symm.trans (eqv_i (Term.int_eval _) c7))
  have o8 := Fld.start ((fld_at v_eP).symm.trans (eqv_i (Term.int_eval _) c8))
  have hne : eD ≠ eP := Fld.ne o7 o8 (fun q => absurd (Value.int.inj q) (by decide))
  obtain ⟨cz, vcz⟩ := is_v (Cond.before_iff.mp (hsets _ (List.mem_of_getElem? (i := 1) rfl)))
  have Scs := Sta.start vcz (Or.inl (hsets _ (List.mem_of_getElem? (i := 0) rfl)))
  have hcw := hsets _ (List.mem_of_getElem? (i := 2) rfl)
  have hcz : ¬ cz = 0 := fun q => by
      have z := not_v (Cond.before_iff.mp hcw)
      rw [eq_i vcz (Term.int_eval _) (by rw [q])] at z
      exact absurd z (by decide)
  have hc27 := hcalls.1 _ (List.mem_of_getElem? (i := 0) rfl)
  have hc29 := hcalls.1 _ (List.mem_of_getElem? (i := 1) rfl)
  obtain ⟨n, o, h1, h2, h3, _, L, rfl, ⟨rfl, N⟩, hq⟩ := rm0 l s _ hw tables_1 i0 eP eD dP dD tP tD bP bD cz s.heap s.heap.size (Nat.le_refl _) rfl rfl Sa Sb Sc Sd Scs E_eP E_eD E_dP E_dD Fc Fd Ep Cp Wpv Vp Ed Cd Wdv Vd hne hcz hcw hc27 hc29 p e ha hc hk s m _ below hf ((Spec.applies_iff_loose hf).mp happ).1 ⟨rfl, rfl⟩ trivial
  refine ⟨n, _, h1, h2, h3, hpost _ _ _ _ _ _ ⟨Cond.after_iff.mpr rfl, Cond.after_iff.mpr (eq_i res_at (Term.int_eval (1)) rfl), trivial⟩ ⟨hq.1, hq.2.1, hq.2.2.1, (hq.2.2.2.sift fun y hy => Or.inr (N y hy)).mono (by decide) (by decide)⟩⟩
theorem main_1_1 : Claimed_1_1 := comes_1 fun _ _ _ _ _ _ h hF => ⟨h.1, hF⟩
theorem main_1_2 : Claimed_1_2 := comes_1 fun _ _ _ _ _ _ h hF => ⟨h.2.1, hF⟩
end Jvm.Pilot.@@N@@
namespace Jvm.Pilot.@@N@@
open Jvm Jvm.ClassFile Sem Op Lib Jvm.Free Jvm.Stand Jvm.Pilot.@@N@@.Jvm.D
/-! MADE BY PROGRAM (witnessworld.py) out of the Statement's table words and the real class files: 19 classes; the members and pool entries that the words name. The judged class is class 1, her method 1. -/
namespace start1
open Jvm.ClassFile
def u (s : String) : CpInfo := .utf8 (stringToUtf16 s)
/-- a pool by its gaps: so many unusable entries, then the entry; so many at the end -/
def gap : Nat → List CpInfo → List CpInfo
  | 0, r => r
  | n + 1, r => .unusable :: gap n r
def poolList (es : List (Nat × CpInfo)) (last : Nat) : List CpInfo := es.foldr (fun e r => gap e.1 (e.2 :: r)) (gap last [])
def pool (es : List (Nat × CpInfo)) (last : Nat) : Array CpInfo := ⟨poolList es last⟩
def fileOf (pool : Array CpInfo) (this : Nat) (attrs : Array Attribute := #[]) (ms : Array MethodInfo := #[]) (fl : Nat := 33) (sup : Nat := 0) (ifs : Array Nat := #[]) (fds : Array FieldInfo := #[]) : ClassFile where
  minorVersion := 0
  majorVersion := 65
  constantPool := pool
  accessFlags := fl
  thisClass := this
  superClass := sup
  interfaces := ifs
  fields := fds
  methods := ms
  attributes := attrs
def plain (name : String) (sup : Option ClassId) : Class where
  name := name
  kind := .ordinary
  loader := none
  accessFlags := 33
  super := sup
  interfaces := #[]
  cf := none
  fields := #[]
  methods := #[]
  instanceTypes := #[]
  staticTypes := #[]
  resolved := #[]
  callSites := []
  init := .initialized
  statics := none
  mirror := none

def pool0 : Array CpInfo := pool [(5, u "<init>"), (0, u "()V"), (1, .class_ 10), (1, u "java/lang/Object")] 113

def k0m0 : Method := { name := "<init>", desc := "()V", sig := { parameters := [], returnType := none }, accessFlags := 1, code := none }
/-- java/lang/Object -/
def k0 : Class := { plain "java/lang/Object" none with
  accessFlags := 33
  interfaces := #[]
  cf := some (fileOf pool0 8 #[] #[{ accessFlags := 1, nameIndex := 5, descriptorIndex := 6, attributes := #[] }] 33 0 #[] #[])
  fields := #[]
  methods := #[k0m0]
  instanceTypes := #[]
  staticTypes := #[]
  resolved := Array.replicate 124 none
  statics := none }

def pool1 : Array CpInfo := pool [(2, .class_ 4), (1, u "java/lang/Object"), (0, u "<init>"), (0, u "()V"), (0, .fieldref 8 9), (0, .class_ 10), (0, .nameAndType 11 12), (0, u "com/example/warrant/warrant/model/Effect"), (0, u "PERMIT"), (0, u "Lcom/example/warrant/warrant/model/Effect;"), (0, .fieldref 8 14), (0, .nameAndType 15 12), (0, u "DENY"), (0, .methodref 8 17), (0, .nameAndType 18 19), (0, u "decision"), (0, u "()Lcom/example/warrant/warrant/model/Decision;"), (0, .fieldref 21 22), (0, .class_ 23), (0, .nameAndType 11 24), (0, u "com/example/warrant/warrant/model/Decision"), (0, u "Lcom/example/warrant/warrant/model/Decision;"), (0, .fieldref 21 26), (0, .nameAndType 15 24), (0, .string 28), (0, u "Permit"), (0, .string 30), (0, u "Deny"), (0, .methodref 21 32), (0, .nameAndType 33 34), (0, u "text"), (0, u "()Ljava/lang/String;"), (0, .methodref 36 37), (0, .class_ 38), (0, .nameAndType 39 40), (0, u "java/lang/String"), (0, u "equals"), (0, u "(Ljava/lang/Object;)Z"), (0, .class_ 42), (0, u "com/example/warrant/warrant/model/EffectDecisionPinLaw"), (2, u "law"), (0, u "(I)Z")] 3

def k1m0 : Method := { name := "<init>", desc := "()V", sig := { parameters := [], returnType := none }, accessFlags := 2, code := none }
def k1c1 : Code := { maxStack := 2, maxLocals := 6, code := code, exceptionTable := #[], attributes := #[] }
def k1m1 : Method := { name := "law", desc := "(I)Z", sig := { parameters := [.int], returnType := some .boolean }, accessFlags := 9, code := some k1c1 }
/-- com/example/warrant/warrant/model/EffectDecisionPinLaw -/
def k1 : Class := { plain "com/example/warrant/warrant/model/EffectDecisionPinLaw" (some 0) with
  accessFlags := 49
  interfaces := #[]
  cf := some (fileOf pool1 41 #[] #[{ accessFlags := 2, nameIndex := 5, descriptorIndex := 6, attributes := #[] }, { accessFlags := 9, nameIndex := 45, descriptorIndex := 46, attributes := #[] }] 49 2 #[] #[])
  fields := #[]
  methods := #[k1m0, k1m1]
  instanceTypes := #[]
  staticTypes := #[]
  resolved := Array.replicate 50 none
  statics := none }

def pool2 : Array CpInfo := pool [(1, .class_ 2), (0, u "java/lang/constant/Constable"), (0, .class_ 4), (0, u "java/lang/Object")] 6

/-- java/lang/constant/Constable -/
def k2 : Class := { plain "java/lang/constant/Constable" (some 0) with
  accessFlags := 1537
  interfaces := #[]
  cf := some (fileOf pool2 1 #[] #[] 1537 3 #[] #[])
  fields := #[]
  methods := #[]
  instanceTypes := #[]
  staticTypes := #[]
  resolved := Array.replicate 11 none
  statics := none }

def pool3 : Array CpInfo := pool [(1, .class_ 2), (0, u "java/lang/Comparable"), (0, .class_ 4), (0, u "java/lang/Object")] 7

/-- java/lang/Comparable -/
def k3 : Class := { plain "java/lang/Comparable" (some 0) with
  accessFlags := 1537
  interfaces := #[]
  cf := some (fileOf pool3 1 #[] #[] 1537 3 #[] #[])
  fields := #[]
  methods := #[]
  instanceTypes := #[]
  staticTypes := #[]
  resolved := Array.replicate 12 none
  statics := none }

def pool4 : Array CpInfo := pool [(1, .class_ 2), (0, u "java/io/Serializable"), (0, .class_ 4), (0, u "java/lang/Object")] 2

/-- java/io/Serializable -/
def k4 : Class := { plain "java/io/Serializable" (some 0) with
  accessFlags := 1537
  interfaces := #[]
  cf := some (fileOf pool4 1 #[] #[] 1537 3 #[] #[])
  fields := #[]
  methods := #[]
  instanceTypes := #[]
  staticTypes := #[]
  resolved := Array.replicate 7 none
  statics := none }

def pool5 : Array CpInfo := pool [(2, .class_ 4), (1, u "java/lang/Enum"), (0, u "name"), (0, u "Ljava/lang/String;"), (2, u "ordinal"), (0, u "I"), (1, .class_ 14), (1, u "java/lang/Object"), (4, u "hash"), (86, .class_ 108), (1, u "java/lang/Enum$EnumDesc"), (2, .class_ 112), (0, u "java/lang/constant/Constable"), (0, .class_ 114), (0, u "java/lang/Comparable"), (0, .class_ 116), (0, u "java/io/Serializable")] 87

/-- java/lang/Enum -/
def k5 : Class := { plain "java/lang/Enum" (some 0) with
  accessFlags := 1057
  interfaces := #[2, 3, 4]
  cf := some (fileOf pool5 2 #[.nestMembers #[106]] #[] 1057 12 #[111, 113, 115] #[{ accessFlags := 18, nameIndex := 5, descriptorIndex := 6, attributes := #[] }, { accessFlags := 18, nameIndex := 9, descriptorIndex := 10, attributes := #[] }, { accessFlags := 2, nameIndex := 19, descriptorIndex := 10, attributes := #[] }])
  fields := #[{ name := "name", type := (.object "java/lang/String"), accessFlags := 18, slot := 0, constantValue := 0 }, { name := "ordinal", type := .int, accessFlags := 18, slot := 1, constantValue := 0 }, { name := "hash", type := .int, accessFlags := 2, slot := 2, constantValue := 0 }]
  methods := #[]
  instanceTypes := #[(.object "java/lang/String"), .int, .int]
  staticTypes := #[]
  resolved := Array.replicate 204 none
  statics := none }

def pool6 : Array CpInfo := pool [(1, .class_ 2), (0, u "com/example/warrant/warrant/model/Effect"), (0, .fieldref 1 4), (0, .nameAndType 5 6), (0, u "PERMIT"), (0, u "Lcom/example/warrant/warrant/model/Effect;"), (2, u "DENY"), (2, u "$VALUES"), (0, u "[Lcom/example/warrant/warrant/model/Effect;"), (6, .class_ 22), (1, u "java/lang/Enum"), (6, .fieldref 30 31), (0, .class_ 32), (0, .nameAndType 5 33), (0, u "com/example/warrant/warrant/model/Decision"), (0, u "Lcom/example/warrant/warrant/model/Decision;"), (0, .fieldref 30 35), (0, .nameAndType 9 33), (14, u "decision"), (0, u "()Lcom/example/warrant/warrant/model/Decision;")] 5

def k6c0 : Code := { maxStack := 2, maxLocals := 1, code := prog_52_method_4_code, exceptionTable := #[], attributes := #[] }
def k6m0 : Method := { name := "decision", desc := "()Lcom/example/warrant/warrant/model/Decision;", sig := { parameters := [], returnType := some (.object "com/example/warrant/warrant/model/Decision") }, accessFlags := 1, code := some k6c0 }
/-- com/example/warrant/warrant/model/Effect -/
def k6 : Class := { plain "com/example/warrant/warrant/model/Effect" (some 5) with
  accessFlags := 16433
  interfaces := #[]
  cf := some (fileOf pool6 1 #[] #[{ accessFlags := 1, nameIndex := 50, descriptorIndex := 51, attributes := #[] }] 16433 20 #[] #[{ accessFlags := 16409, nameIndex := 5, descriptorIndex := 6, attributes := #[] }, { accessFlags := 16409, nameIndex := 9, descriptorIndex := 6, attributes := #[] }, { accessFlags := 4122, nameIndex := 12, descriptorIndex := 13, attributes := #[] }])
  fields := #[{ name := "PERMIT", type := (.object "com/example/warrant/warrant/model/Effect"), accessFlags := 16409, slot := 0, constantValue := 0 }, { name := "DENY", type := (.object "com/example/warrant/warrant/model/Effect"), accessFlags := 16409, slot := 1, constantValue := 0 }, { name := "$VALUES", type := (.array (.object "com/example/warrant/warrant/model/Effect")), accessFlags := 4122, slot := 2, constantValue := 0 }]
  methods := #[k6m0]
  instanceTypes := #[(.object "java/lang/String"), .int, .int]
  staticTypes := #[(.object "com/example/warrant/warrant/model/Effect"), (.object "com/example/warrant/warrant/model/Effect"), (.array (.object "com/example/warrant/warrant/model/Effect"))]
  resolved := Array.replicate 57 none
  statics := some 0 }

def pool7 : Array CpInfo := pool [(1, .class_ 2), (0, u "com/example/warrant/warrant/model/Decision"), (2, u "PERMIT"), (0, u "Lcom/example/warrant/warrant/model/Decision;"), (2, u "DENY"), (2, u "NOT_APPLICABLE"), (2, u "INDETERMINATE"), (2, u "$VALUES"), (0, u "[Lcom/example/warrant/warrant/model/Decision;"), (6, .class_ 28), (1, u "java/lang/Enum"), (6, .fieldref 1 36), (0, .nameAndType 37 38), (0, u "text"), (0, u "Ljava/lang/String;"), (26, u "()Ljava/lang/String;")] 5

def k7c0 : Code := { maxStack := 1, maxLocals := 1, code := prog_48_method_4_code, exceptionTable := #[], attributes := #[] }
def k7m0 : Method := { name := "text", desc := "()Ljava/lang/String;", sig := { parameters := [], returnType := some (.object "java/lang/String") }, accessFlags := 1, code := some k7c0 }
/-- com/example/warrant/warrant/model/Decision -/
def k7 : Class := { plain "com/example/warrant/warrant/model/Decision" (some 5) with
  accessFlags := 16433
  interfaces := #[]
  cf := some (fileOf pool7 1 #[] #[{ accessFlags := 1, nameIndex := 37, descriptorIndex := 65, attributes := #[] }] 16433 26 #[] #[{ accessFlags := 16409, nameIndex := 5, descriptorIndex := 6, attributes := #[] }, { accessFlags := 16409, nameIndex := 9, descriptorIndex := 6, attributes := #[] }, { accessFlags := 16409, nameIndex := 12, descriptorIndex := 6, attributes := #[] }, { accessFlags := 16409, nameIndex := 15, descriptorIndex := 6, attributes := #[] }, { accessFlags := 18, nameIndex := 37, descriptorIndex := 38, attributes := #[] }, { accessFlags := 4122, nameIndex := 18, descriptorIndex := 19, attributes := #[] }])
  fields := #[{ name := "PERMIT", type := (.object "com/example/warrant/warrant/model/Decision"), accessFlags := 16409, slot := 0, constantValue := 0 }, { name := "DENY", type := (.object "com/example/warrant/warrant/model/Decision"), accessFlags := 16409, slot := 1, constantValue := 0 }, { name := "NOT_APPLICABLE", type := (.object "com/example/warrant/warrant/model/Decision"), accessFlags := 16409, slot := 2, constantValue := 0 }, { name := "INDETERMINATE", type := (.object "com/example/warrant/warrant/model/Decision"), accessFlags := 16409, slot := 3, constantValue := 0 }, { name := "text", type := (.object "java/lang/String"), accessFlags := 18, slot := 3, constantValue := 0 }, { name := "$VALUES", type := (.array (.object "com/example/warrant/warrant/model/Decision")), accessFlags := 4122, slot := 4, constantValue := 0 }]
  methods := #[k7m0]
  instanceTypes := #[(.object "java/lang/String"), .int, .int, (.object "java/lang/String")]
  staticTypes := #[(.object "com/example/warrant/warrant/model/Decision"), (.object "com/example/warrant/warrant/model/Decision"), (.object "com/example/warrant/warrant/model/Decision"), (.object "com/example/warrant/warrant/model/Decision"), (.array (.object "com/example/warrant/warrant/model/Decision"))]
  resolved := Array.replicate 71 none
  statics := some 1 }

def pool8 : Array CpInfo := pool [(2, .class_ 4), (1, u "java/lang/CharSequence"), (42, .class_ 48), (0, u "java/lang/CharSequence$1CodePointIterator"), (10, .class_ 60), (0, u "java/lang/CharSequence$1CharIterator"), (5, .class_ 67), (0, u "java/lang/Object")] 63

/-- java/lang/CharSequence -/
def k8 : Class := { plain "java/lang/CharSequence" (some 0) with
  accessFlags := 1537
  interfaces := #[]
  cf := some (fileOf pool8 2 #[.nestMembers #[47, 59]] #[] 1537 66 #[] #[])
  fields := #[]
  methods := #[]
  instanceTypes := #[]
  staticTypes := #[]
  resolved := Array.replicate 131 none
  statics := none }

def pool9 : Array CpInfo := pool [(1, .class_ 2), (0, u "java/lang/constant/ConstantDesc"), (0, .class_ 4), (0, u "java/lang/Object")] 32

/-- java/lang/constant/ConstantDesc -/
def k9 : Class := { plain "java/lang/constant/ConstantDesc" (some 0) with
  accessFlags := 1537
  interfaces := #[]
  cf := some (fileOf pool9 1 #[] #[] 1537 3 #[] #[])
  fields := #[]
  methods := #[]
  instanceTypes := #[]
  staticTypes := #[]
  resolved := Array.replicate 37 none
  statics := none }

def pool10 : Array CpInfo := pool [(2, .class_ 4), (1, u "java/lang/Object"), (0, u "<init>"), (0, u "()V"), (2, .fieldref 10 11), (0, .class_ 12), (0, .nameAndType 13 14), (0, u "java/lang/String"), (0, u "value"), (0, u "[B"), (0, .fieldref 10 16), (0, .nameAndType 17 18), (0, u "coder"), (0, u "B"), (2, u "hash"), (0, u "I"), (2, u "hashIsZero"), (0, u "Z"), (11, .fieldref 10 39), (0, .nameAndType 40 26), (0, u "COMPACT_STRINGS"), (66, .class_ 109), (1, u "java/lang/StringLatin1"), (431, .methodref 107 542), (0, .nameAndType 543 544), (0, u "equals"), (0, u "([B[B)Z"), (28, u "(Ljava/lang/Object;)Z"), (1, .class_ 576), (0, u "java/lang/CharSequence"), (22, u "CASE_INSENSITIVE_ORDER"), (0, u "Ljava/util/Comparator;"), (500, u "serialPersistentFields"), (0, u "[Ljava/io/ObjectStreamField;"), (0, .class_ 1104), (0, u "java/lang/String$CaseInsensitiveComparator"), (1, .class_ 1107), (0, u "java/io/Serializable"), (0, .class_ 1109), (0, u "java/lang/Comparable"), (0, .class_ 1111), (0, u "java/lang/constant/Constable"), (0, .class_ 1113), (0, u "java/lang/constant/ConstantDesc"), (2, u "serialVersionUID"), (0, u "J"), (3, u "REPL"), (0, u "C"), (2, u "LATIN1"), (1, u "UTF16")] 323

def k10m0 : Method := { name := "<init>", desc := "()V", sig := { parameters := [], returnType := none }, accessFlags := 1, code := none }
def k10c1 : Code := { maxStack := 2, maxLocals := 3, code := jdk_42_method_66_code, exceptionTable := #[], attributes := #[] }
def k10m1 : Method := { name := "equals", desc := "(Ljava/lang/Object;)Z", sig := { parameters := [(.object "java/lang/Object")], returnType := some .boolean }, accessFlags := 1, code := some k10c1 }
/-- java/lang/String -/
def k10 : Class := { plain "java/lang/String" (some 0) with
  accessFlags := 49
  interfaces := #[4, 3, 8, 2, 9]
  cf := some (fileOf pool10 10 #[.nestMembers #[1103]] #[{ accessFlags := 1, nameIndex := 5, descriptorIndex := 6, attributes := #[] }, { accessFlags := 1, nameIndex := 543, descriptorIndex := 573, attributes := #[] }] 49 2 #[1106, 1108, 575, 1110, 1112] #[{ accessFlags := 18, nameIndex := 13, descriptorIndex := 14, attributes := #[] }, { accessFlags := 18, nameIndex := 17, descriptorIndex := 18, attributes := #[] }, { accessFlags := 2, nameIndex := 21, descriptorIndex := 22, attributes := #[] }, { accessFlags := 2, nameIndex := 25, descriptorIndex := 26, attributes := #[] }, { accessFlags := 26, nameIndex := 1116, descriptorIndex := 1117, attributes := #[] }, { accessFlags := 24, nameIndex := 40, descriptorIndex := 26, attributes := #[] }, { accessFlags := 26, nameIndex := 1101, descriptorIndex := 1102, attributes := #[] }, { accessFlags := 26, nameIndex := 1121, descriptorIndex := 1122, attributes := #[] }, { accessFlags := 25, nameIndex := 599, descriptorIndex := 600, attributes := #[] }, { accessFlags := 24, nameIndex := 1125, descriptorIndex := 18, attributes := #[] }, { accessFlags := 24, nameIndex := 1127, descriptorIndex := 18, attributes := #[] }])
  fields := #[{ name := "value", type := (.array .byte), accessFlags := 18, slot := 0, constantValue := 0 }, { name := "coder", type := .byte, accessFlags := 18, slot := 1, constantValue := 0 }, { name := "hash", type := .int, accessFlags := 2, slot := 2, constantValue := 0 }, { name := "hashIsZero", type := .boolean, accessFlags := 2, slot := 3, constantValue := 0 }, { name := "serialVersionUID", type := .long, accessFlags := 26, slot := 0, constantValue := 0 }, { name := "COMPACT_STRINGS", type := .boolean, accessFlags := 24, slot := 1, constantValue := 0 }, { name := "serialPersistentFields", type := (.array (.object "java/io/ObjectStreamField")), accessFlags := 26, slot := 2, constantValue := 0 }, { name := "REPL", type := .char, accessFlags := 26, slot := 3, constantValue := 0 }, { name := "CASE_INSENSITIVE_ORDER", type := (.object "java/util/Comparator"), accessFlags := 25, slot := 4, constantValue := 0 }, { name := "LATIN1", type := .byte, accessFlags := 24, slot := 5, constantValue := 0 }, { name := "UTF16", type := .byte, accessFlags := 24, slot := 6, constantValue := 0 }]
  methods := #[k10m0, k10m1]
  instanceTypes := #[(.array .byte), .byte, .int, .boolean]
  staticTypes := #[.long, .boolean, (.array (.object "java/io/ObjectStreamField")), .char, (.object "java/util/Comparator"), .byte, .byte]
  resolved := Array.replicate 1451 none
  statics := some 2 }

def pool11 : Array CpInfo := pool [(4, .class_ 6), (1, u "java/lang/Object"), (0, u "<init>"), (0, u "()V"), (5, .class_ 16), (1, u "java/lang/StringLatin1"), (104, u "$assertionsDisabled"), (0, u "Z"), (98, .class_ 223), (1, u "java/lang/StringLatin1$LinesSpliterator"), (57, u "equals"), (0, u "([B[B)Z"), (107, .class_ 391), (0, u "java/lang/StringLatin1$CharsSpliterator")] 3

def k11m0 : Method := { name := "<init>", desc := "()V", sig := { parameters := [], returnType := none }, accessFlags := 0, code := none }
def k11c1 : Code := { maxStack := 3, maxLocals := 3, code := jdk_43_method_13_code, exceptionTable := #[], attributes := #[] }
def k11m1 : Method := { name := "equals", desc := "([B[B)Z", sig := { parameters := [(.array .byte), (.array .byte)], returnType := some .boolean }, accessFlags := 9, code := some k11c1 }
/-- java/lang/StringLatin1 -/
def k11 : Class := { plain "java/lang/StringLatin1" (some 0) with
  accessFlags := 48
  interfaces := #[]
  cf := some (fileOf pool11 14 #[.nestMembers #[390, 221]] #[{ accessFlags := 0, nameIndex := 7, descriptorIndex := 8, attributes := #[] }, { accessFlags := 9, nameIndex := 281, descriptorIndex := 282, attributes := #[] }] 48 4 #[] #[{ accessFlags := 4120, nameIndex := 121, descriptorIndex := 122, attributes := #[] }])
  fields := #[{ name := "$assertionsDisabled", type := .boolean, accessFlags := 4120, slot := 0, constantValue := 0 }]
  methods := #[k11m0, k11m1]
  instanceTypes := #[]
  staticTypes := #[.boolean]
  resolved := Array.replicate 395 none
  statics := none }

def pool12 : Array CpInfo := pool [(2, .class_ 4), (1, u "java/lang/Object"), (0, u "<init>"), (0, u "()V"), (17, .class_ 26), (1, u "jdk/internal/util/Preconditions"), (28, .class_ 56), (0, u "jdk/internal/util/Preconditions$4"), (57, .class_ 115), (0, u "jdk/internal/util/Preconditions$1"), (7, u "SIOOBE_FORMATTER"), (0, u "Ljava/util/function/BiFunction;"), (0, .class_ 126), (0, u "jdk/internal/util/Preconditions$2"), (3, u "AIOOBE_FORMATTER"), (0, .class_ 132), (0, u "jdk/internal/util/Preconditions$3"), (3, u "IOOBE_FORMATTER")] 57

def k12m0 : Method := { name := "<init>", desc := "()V", sig := { parameters := [], returnType := none }, accessFlags := 1, code := none }
/-- jdk/internal/util/Preconditions -/
def k12 : Class := { plain "jdk/internal/util/Preconditions" (some 0) with
  accessFlags := 33
  interfaces := #[]
  cf := some (fileOf pool12 24 #[.nestMembers #[55, 131, 125, 114]] #[{ accessFlags := 1, nameIndex := 5, descriptorIndex := 6, attributes := #[] }] 33 2 #[] #[{ accessFlags := 25, nameIndex := 123, descriptorIndex := 124, attributes := #[] }, { accessFlags := 25, nameIndex := 130, descriptorIndex := 124, attributes := #[] }, { accessFlags := 25, nameIndex := 136, descriptorIndex := 124, attributes := #[] }])
  fields := #[{ name := "SIOOBE_FORMATTER", type := (.object "java/util/function/BiFunction"), accessFlags := 25, slot := 0, constantValue := 0 }, { name := "AIOOBE_FORMATTER", type := (.object "java/util/function/BiFunction"), accessFlags := 25, slot := 1, constantValue := 0 }, { name := "IOOBE_FORMATTER", type := (.object "java/util/function/BiFunction"), accessFlags := 25, slot := 2, constantValue := 0 }]
  methods := #[k12m0]
  instanceTypes := #[]
  staticTypes := #[(.object "java/util/function/BiFunction"), (.object "java/util/function/BiFunction"), (.object "java/util/function/BiFunction")]
  resolved := Array.replicate 194 none
  statics := some 3 }

def pool13 : Array CpInfo := pool [(9, u "<init>"), (6, .class_ 18), (1, u "java/lang/Object"), (0, u "()V"), (1, .class_ 23), (1, u "jdk/internal/util/ArraysSupport"), (0, u "LOG2_ARRAY_LONG_INDEX_SCALE"), (0, u "I"), (2, u "U"), (0, u "Ljdk/internal/misc/Unsafe;"), (8, u "BIG_ENDIAN"), (0, u "Z"), (8, u "LOG2_BYTE_BIT_SIZE"), (4, u "LOG2_ARRAY_INT_INDEX_SCALE"), (54, u "JLA"), (0, u "Ljdk/internal/access/JavaLangAccess;"), (11, u "LOG2_ARRAY_BOOLEAN_INDEX_SCALE"), (9, u "LOG2_ARRAY_BYTE_INDEX_SCALE"), (5, u "LOG2_ARRAY_CHAR_INDEX_SCALE"), (5, u "LOG2_ARRAY_SHORT_INDEX_SCALE"), (18, u "LOG2_ARRAY_FLOAT_INDEX_SCALE"), (24, u "LOG2_ARRAY_DOUBLE_INDEX_SCALE"), (89, u "T_BOOLEAN"), (2, u "T_CHAR"), (1, u "T_FLOAT"), (1, u "T_DOUBLE"), (1, u "T_BYTE"), (1, u "T_SHORT"), (1, u "T_INT"), (1, u "T_LONG"), (1, u "SOFT_MAX_ARRAY_LENGTH")] 83

def k13m0 : Method := { name := "<init>", desc := "()V", sig := { parameters := [], returnType := none }, accessFlags := 2, code := none }
/-- jdk/internal/util/ArraysSupport -/
def k13 : Class := { plain "jdk/internal/util/ArraysSupport" (some 0) with
  accessFlags := 33
  interfaces := #[]
  cf := some (fileOf pool13 21 #[] #[{ accessFlags := 2, nameIndex := 9, descriptorIndex := 19, attributes := #[] }] 33 16 #[] #[{ accessFlags := 24, nameIndex := 28, descriptorIndex := 29, attributes := #[] }, { accessFlags := 26, nameIndex := 38, descriptorIndex := 39, attributes := #[] }, { accessFlags := 25, nameIndex := 121, descriptorIndex := 25, attributes := #[] }, { accessFlags := 25, nameIndex := 131, descriptorIndex := 25, attributes := #[] }, { accessFlags := 25, nameIndex := 137, descriptorIndex := 25, attributes := #[] }, { accessFlags := 25, nameIndex := 143, descriptorIndex := 25, attributes := #[] }, { accessFlags := 25, nameIndex := 53, descriptorIndex := 25, attributes := #[] }, { accessFlags := 25, nameIndex := 24, descriptorIndex := 25, attributes := #[] }, { accessFlags := 25, nameIndex := 162, descriptorIndex := 25, attributes := #[] }, { accessFlags := 25, nameIndex := 187, descriptorIndex := 25, attributes := #[] }, { accessFlags := 26, nameIndex := 48, descriptorIndex := 25, attributes := #[] }, { accessFlags := 25, nameIndex := 277, descriptorIndex := 25, attributes := #[] }, { accessFlags := 25, nameIndex := 280, descriptorIndex := 25, attributes := #[] }, { accessFlags := 25, nameIndex := 282, descriptorIndex := 25, attributes := #[] }, { accessFlags := 25, nameIndex := 284, descriptorIndex := 25, attributes := #[] }, { accessFlags := 25, nameIndex := 286, descriptorIndex := 25, attributes := #[] }, { accessFlags := 25, nameIndex := 288, descriptorIndex := 25, attributes := #[] }, { accessFlags := 25, nameIndex := 290, descriptorIndex := 25, attributes := #[] }, { accessFlags := 25, nameIndex := 292, descriptorIndex := 25, attributes := #[] }, { accessFlags := 26, nameIndex := 108, descriptorIndex := 109, attributes := #[] }, { accessFlags := 25, nameIndex := 294, descriptorIndex := 25, attributes := #[] }])
  fields := #[{ name := "U", type := (.object "jdk/internal/misc/Unsafe"), accessFlags := 24, slot := 0, constantValue := 0 }, { name := "BIG_ENDIAN", type := .boolean, accessFlags := 26, slot := 1, constantValue := 0 }, { name := "LOG2_ARRAY_BOOLEAN_INDEX_SCALE", type := .int, accessFlags := 25, slot := 2, constantValue := 0 }, { name := "LOG2_ARRAY_BYTE_INDEX_SCALE", type := .int, accessFlags := 25, slot := 3, constantValue := 0 }, { name := "LOG2_ARRAY_CHAR_INDEX_SCALE", type := .int, accessFlags := 25, slot := 4, constantValue := 0 }, { name := "LOG2_ARRAY_SHORT_INDEX_SCALE", type := .int, accessFlags := 25, slot := 5, constantValue := 0 }, { name := "LOG2_ARRAY_INT_INDEX_SCALE", type := .int, accessFlags := 25, slot := 6, constantValue := 0 }, { name := "LOG2_ARRAY_LONG_INDEX_SCALE", type := .int, accessFlags := 25, slot := 7, constantValue := 0 }, { name := "LOG2_ARRAY_FLOAT_INDEX_SCALE", type := .int, accessFlags := 25, slot := 8, constantValue := 0 }, { name := "LOG2_ARRAY_DOUBLE_INDEX_SCALE", type := .int, accessFlags := 25, slot := 9, constantValue := 0 }, { name := "LOG2_BYTE_BIT_SIZE", type := .int, accessFlags := 26, slot := 10, constantValue := 0 }, { name := "T_BOOLEAN", type := .int, accessFlags := 25, slot := 11, constantValue := 0 }, { name := "T_CHAR", type := .int, accessFlags := 25, slot := 12, constantValue := 0 }, { name := "T_FLOAT", type := .int, accessFlags := 25, slot := 13, constantValue := 0 }, { name := "T_DOUBLE", type := .int, accessFlags := 25, slot := 14, constantValue := 0 }, { name := "T_BYTE", type := .int, accessFlags := 25, slot := 15, constantValue := 0 }, { name := "T_SHORT", type := .int, accessFlags := 25, slot := 16, constantValue := 0 }, { name := "T_INT", type := .int, accessFlags := 25, slot := 17, constantValue := 0 }, { name := "T_LONG", type := .int, accessFlags := 25, slot := 18, constantValue := 0 }, { name := "JLA", type := (.object "jdk/internal/access/JavaLangAccess"), accessFlags := 26, slot := 19, constantValue := 0 }, { name := "SOFT_MAX_ARRAY_LENGTH", type := .int, accessFlags := 25, slot := 20, constantValue := 0 }]
  methods := #[k13m0]
  instanceTypes := #[]
  staticTypes := #[(.object "jdk/internal/misc/Unsafe"), .boolean, .int, .int, .int, .int, .int, .int, .int, .int, .int, .int, .int, .int, .int, .int, .int, .int, .int, (.object "jdk/internal/access/JavaLangAccess"), .int]
  resolved := Array.replicate 378 none
  statics := none }

def pool14 : Array CpInfo := pool [(1, u "java/lang/Cloneable"), (0, .class_ 1), (0, u "java/lang/Object"), (0, .class_ 3)] 3

/-- java/lang/Cloneable -/
def k14 : Class := { plain "java/lang/Cloneable" (some 0) with
  accessFlags := 1537
  interfaces := #[]
  cf := some (fileOf pool14 2 #[] #[] 1537 4 #[] #[])
  fields := #[]
  methods := #[]
  instanceTypes := #[]
  staticTypes := #[]
  resolved := Array.replicate 8 none
  statics := none }

/-- the primitive byte -/
def k15 : Class := { plain "byte" none with kind := .primitive 'B', accessFlags := 0x411 }
/-- [B -/
def k16 : Class := { plain "[B" (some 0) with kind := .array 15 .byte, interfaces := #[14, 4], accessFlags := 1041 }

/-- the primitive int -/
def k17 : Class := { plain "int" none with kind := .primitive 'I', accessFlags := 0x411 }
/-- [I -/
def k18 : Class := { plain "[I" (some 0) with kind := .array 17 .int, interfaces := #[14, 4], accessFlags := 1041 }

def heap : Heap := #[{ cls := 6, slots := #[.ref 8, .ref 9, .null], vm := .statics 6 },
  { cls := 7, slots := #[.ref 10, .ref 11, .null, .null, .null], vm := .statics 7 },
  { cls := 10, slots := #[.long 0, .int 1, .null, .int 0, .null, .int 0, .int 0], vm := .statics 10 },
  { cls := 12, slots := #[.null, .null, .null], vm := .statics 12 },
  { cls := 16, slots := #[.int 80, .int 101, .int 114, .int 109, .int 105, .int 116], vm := .none },
  { cls := 16, slots := #[.int 68, .int 101, .int 110, .int 121], vm := .none },
  { cls := 10, slots := #[.ref 4, .int 0, .int 0, .int 0], vm := .none },
  { cls := 10, slots := #[.ref 5, .int 0, .int 0, .int 0], vm := .none },
  { cls := 6, slots := #[.null, .int 0, .int 0], vm := .none },
  { cls := 6, slots := #[.null, .int 1, .int 0], vm := .none },
  { cls := 7, slots := #[.null, .int 0, .int 0, .ref 6], vm := .none },
  { cls := 7, slots := #[.null, .int 1, .int 0, .ref 7], vm := .none }]
def classes : Array Class := #[k0, k1, k2, k3, k4, k5, k6, k7, k8, k9, k10, k11, k12, k13, k14, k15, k16, k17, k18]
def interned : List (Array UInt16 × Addr) := []
def slotsUsed : Nat := 50
def theMethod : MethodId := ⟨1, 1⟩
def args0 : Array Value := #[.int 1]
def aboutOver (below : List Frame) : State where
  vm := { classes := classes, interned := interned.toArray }
  heap := heap
  slotsUsed := slotsUsed
  threads := #[{ frames := .invoking theMethod args0 :: below }]
def below0 : List Frame := [.native { method := ⟨0, 0⟩, args := #[] }]
def about1 : State := aboutOver below0
def p0 : Program := .bare "" "" ""
def e0 : Env := launch0.env 0 0 0
theorem w_frames : about1.frames = Frame.invoking theMethod args0 :: below0 := rfl
set_option maxRecDepth 65536 in
theorem w_args : argsFit about1.vm theMethod args0 = true := by decide +kernel
set_option maxRecDepth 65536 in
theorem w_heap : heapFits about1 = true := by decide +kernel
set_option maxRecDepth 65536 in
theorem w_runnable : about1.curStatus? = some .runnable := by decide +kernel
set_option maxRecDepth 65536 in
theorem w_alone : about1.alone = true := by decide +kernel
set_option maxRecDepth 65536 in
theorem w_named : about1.methodNamed? x = some theMethod := by decide +kernel
set_option maxRecDepth 65536 in
theorem w_hears : about1.hears theMethod below0 = true := by decide +kernel
set_option maxRecDepth 65536 in
theorem w_ripe : about1.ripe theMethod args0 below0 = true := by decide +kernel
theorem w_running : about1.status = .running := rfl
set_option maxRecDepth 65536 in
theorem w_room : about1.hasRoom e0.platform room_1 = true :=
  launch0.hasRoom_least _ room_1 (by decide +kernel) (by decide +kernel) (by decide +kernel) (by decide +kernel) (by decide +kernel) (by decide +kernel)
theorem allAtoms_all (ts : List Jvm.Cond) (a : Array Jvm.Value) (st : Jvm.State) : (allAtoms ts).before a st = ts.all (fun c => c.before a st) := by
  induction ts with
  | nil => rfl
  | cons c t ih =>
    show (Jvm.Cond.and c (allAtoms t)).before a st = _
    rw [Jvm.Cond.before_and, ih, List.all_cons]
def words1 : List Jvm.Cond := Jvm.Cond.code x code maxLocals ret :: tables_1
/-- a 'code' word, met by the world's own term for the bytes: nothing is compared byte by byte -/
theorem code_word {y : MethodName} {bytes : ByteArray} {mx : Nat} {rt : Option FieldType} {a : Array Value} {s : State} {m : MethodId} {meth : Method} {c : Code} (h1 : s.methodNamed? y = some m) (h2 : s.vm.method? m = some meth) (h3 : meth.code = some c) (h4 : c.code = bytes)
    (h5 : (c.maxLocals == mx && c.exceptionTable.isEmpty && decide (c.maxStack ≤ mostOperands) && decide (meth.sig.returnType = rt) && !meth.locks && decide (parseMethodDescriptor y.desc = some meth.sig)) = true) : (Jvm.Cond.code y bytes mx rt).before a s = true := by
  simp only [Bool.and_eq_true, beq_iff_eq, Bool.not_eq_true', decide_eq_true_eq] at h5
  obtain ⟨⟨⟨⟨⟨g1, g2⟩, g3⟩, g4⟩, g5⟩, g6⟩ := h5
  simp [Cond.before, Cond.holds, Cond.value, h1, h2, h3, h4, g1, g2, g3, g4, g5, g6]
def isCode : Jvm.Cond → Bool
  | .code _ _ _ _ => true
  | _ => false
theorem all_split {L : List Jvm.Cond} {P : Jvm.Cond → Bool} (h1 : L.all (fun c => isCode c || P c) = true) (h2 : ∀ c ∈ L.filter isCode, P c = true) : L.all P = true := by
  refine List.all_eq_true.mpr fun c hc => ?_
  have h := List.all_eq_true.mp h1 c hc
  rcases Bool.eq_false_or_eq_true (isCode c) with hi | hi
  · exact h2 c (List.mem_filter.mpr ⟨hc, hi⟩)
  · simpa [hi] using h
set_option maxRecDepth 65536 in
theorem w_c0 : (Jvm.Cond.code x code maxLocals ret).before args0 about1 = true := code_word (m := ⟨1, 1⟩) (meth := k1m1) (c := k1c1) (by decide +kernel) rfl rfl rfl (by decide +kernel)
set_option maxRecDepth 65536 in
theorem w_c1 : (Jvm.Cond.code ({ cls := "com/example/warrant/warrant/model/Effect", name := "decision", desc := "()Lcom/example/warrant/warrant/model/Decision;" } : Jvm.MethodName) prog_52_method_4_code (1 : Nat) (Option.some (Jvm.ClassFile.FieldType.object "com/example/warrant/warrant/model/Decision"))).before args0 about1 = true := code_word (m := ⟨6, 0⟩) (meth := k6m0) (c := k6c0) (by decide +kernel) rfl rfl rfl (by decide +kernel)
set_option maxRecDepth 65536 in
theorem w_c2 : (Jvm.Cond.code ({ cls := "com/example/warrant/warrant/model/Decision", name := "text", desc := "()Ljava/lang/String;" } : Jvm.MethodName) prog_48_method_4_code (1 : Nat) (Option.some (Jvm.ClassFile.FieldType.object "java/lang/String"))).before args0 about1 = true := code_word (m := ⟨7, 0⟩) (meth := k7m0) (c := k7c0) (by decide +kernel) rfl rfl rfl (by decide +kernel)
set_option maxRecDepth 65536 in
theorem w_c3 : (Jvm.Cond.code ({ cls := "java/lang/String", name := "equals", desc := "(Ljava/lang/Object;)Z" } : Jvm.MethodName) jdk_42_method_66_code (3 : Nat) (Option.some Jvm.ClassFile.FieldType.boolean)).before args0 about1 = true := code_word (m := ⟨10, 1⟩) (meth := k10m1) (c := k10c1) (by decide +kernel) rfl rfl rfl (by decide +kernel)
set_option maxRecDepth 65536 in
theorem w_c4 : (Jvm.Cond.code ({ cls := "java/lang/StringLatin1", name := "equals", desc := "([B[B)Z" } : Jvm.MethodName) jdk_43_method_13_code (3 : Nat) (Option.some Jvm.ClassFile.FieldType.boolean)).before args0 about1 = true := code_word (m := ⟨11, 1⟩) (meth := k11m1) (c := k11c1) (by decide +kernel) rfl rfl rfl (by decide +kernel)
def codes1 : List Jvm.Cond := [Jvm.Cond.code x code maxLocals ret, Jvm.Cond.code ({ cls := "com/example/warrant/warrant/model/Effect", name := "decision", desc := "()Lcom/example/warrant/warrant/model/Decision;" } : Jvm.MethodName) prog_52_method_4_code (1 : Nat) (Option.some (Jvm.ClassFile.FieldType.object "com/example/warrant/warrant/model/Decision")), Jvm.Cond.code ({ cls := "com/example/warrant/warrant/model/Decision", name := "text", desc := "()Ljava/lang/String;" } : Jvm.MethodName) prog_48_method_4_code (1 : Nat) (Option.some (Jvm.ClassFile.FieldType.object "java/lang/String")), Jvm.Cond.code ({ cls := "java/lang/String", name := "equals", desc := "(Ljava/lang/Object;)Z" } : Jvm.MethodName) jdk_42_method_66_code (3 : Nat) (Option.some Jvm.ClassFile.FieldType.boolean), Jvm.Cond.code ({ cls := "java/lang/StringLatin1", name := "equals", desc := "([B[B)Z" } : Jvm.MethodName) jdk_43_method_13_code (3 : Nat) (Option.some Jvm.ClassFile.FieldType.boolean)]
set_option maxRecDepth 65536 in
theorem codes_eq : words1.filter isCode = codes1 := rfl
theorem w_codes : ∀ c ∈ words1.filter isCode, c.before args0 about1 = true := by
  rw [codes_eq]
  intro c hc
  simp only [codes1, List.mem_cons, List.not_mem_nil, or_false] at hc
  rcases hc with rfl | rfl | rfl | rfl | rfl
  · exact w_c0
  · exact w_c1
  · exact w_c2
  · exact w_c3
  · exact w_c4
set_option maxRecDepth 65536 in
theorem w_t1 : (words1.take 24).all (fun c => isCode c || c.before args0 about1) = true := by decide +kernel
set_option maxRecDepth 65536 in
theorem w_t2 : ((words1.drop 24).take 24).all (fun c => isCode c || c.before args0 about1) = true := by decide +kernel
set_option maxRecDepth 65536 in
theorem w_t3 : ((words1.drop 24).drop 24).all (fun c => isCode c || c.before args0 about1) = true := by decide +kernel
theorem w_tables : (allAtoms (Jvm.Cond.code x code maxLocals ret :: tables_1)).before args0 about1 = true := by
  rw [allAtoms_all]
  show words1.all (fun c => c.before args0 about1) = true
  refine all_split ?_ w_codes
  rw [← List.take_append_drop 24 words1, List.all_append, w_t1, ← List.take_append_drop 24 (words1.drop 24), List.all_append, w_t2, w_t3]
  rfl
set_option maxRecDepth 65536 in
theorem w_rest : rest_1_c.before args0 about1 = true := by decide +kernel
set_option maxRecDepth 65536 in
theorem w_case : (Jvm.Cond.and given_1 narrow_1).before args0 about1 = true := by decide +kernel
set_option maxRecDepth 65536 in
theorem w_consts : constsHeld consts_1 about1 := Jvm.Lit.constsHeldB_iff.mp (by decide +kernel)
theorem w_applies : (headSpec (Jvm.Cond.code x code maxLocals ret :: tables_1) room_1).applies x e0.platform about1 = true :=
  (Spec.applies_iff w_frames).mpr ⟨w_running, w_runnable, w_alone, w_named, w_hears, w_ripe, w_room, w_tables⟩
theorem atStart : AtStart classFile x code maxLocals ret World_1 tables_1 room_1 Calls_1 rest_1 Pre_1 launch0 p0 e0 about1 theMethod args0 below0 :=
  ⟨lists_1, trivial, launch0.admits_env _ _ _, launch0.least_env, fairChoices_fair.cas, fairChoices_fair.clock, w_frames, w_args, w_heap, w_applies, ⟨w_consts, trivial⟩, w_rest, w_case⟩
end start1
theorem witness_1 : WitnessClaimed_1 := ⟨start1.p0, start1.e0, start1.about1, start1.theMethod, start1.args0, start1.below0, start1.atStart⟩
end Jvm.Pilot.@@N@@
