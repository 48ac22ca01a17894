import JvmDerived
import JvmDerived.Pilot.@@N@@Statement
import JvmDerived.Pilot.@@N@@Code
set_option linter.unusedVariables false
set_option linter.unusedSimpArgs false
@@BLOCK:NumsL.lean.txt@@
namespace Jvm.Pilot.@@N@@
open Jvm Jvm.ClassFile Sem Op Lib Jvm.Free Jvm.Stand Jvm.LawKit Jvm.RoadKit Bundle Jvm.Pilot.@@N@@.Jvm.D
section OwnKit
variable {p : Program} {l : Launch} {e : Env} {R : Room} {s : State} {m : MethodId} {args : Array Value} {below : List Frame} {meth : Method} {c : Code} {T T' : State} {locs : List Loc} {cells slots : Nat} {Z : State} {a0 : Array Value} {h h' : Heap} {g g' : JFrame} {K : Outcome → State → Prop} {a b : Addr}
/-- from the frame g over T the run comes home with K -/
def Goes (p : Program) (e : Env) (below : List Frame) (K : Outcome → State → Prop) (T : State) (g : JFrame) : Prop :=
  ∃ s₂ o, Steps p.tables e below (T.setTop g) s₂ ∧ s₂.status = .running ∧ Ended s₂ below o ∧ K o s₂
theorem Goes.of (f : ∀ t, Steps p.tables e below (T'.setTop g') t → Steps p.tables e below (T.setTop g) t) (h : Goes p e below K T' g') : Goes p e below K T g := by
  obtain ⟨s₂, o, h1, h2⟩ := h; exact ⟨s₂, o, f _ h1, h2⟩
theorem Goes.tr (f : Steps p.tables e below (T.setTop g) (T'.setTop g')) (h : Goes p e below K T' g') : Goes p e below K T g := by
  obtain ⟨s₂, o, h1, h2⟩ := h; exact ⟨s₂, o, f.trans h1, h2⟩
theorem Goes.cast (q : g = g') (h : Goes p e below K T g') : Goes p e below K T g := q ▸ h
def OwnK (s : State) (Q : Option Value → Heap → List Loc → Prop) (C S : Nat) : Outcome → State → Prop := fun o U' => ∃ v L, o = .returned v ∧ Q v U'.heap L ∧ FrameEnd s o U' L C S
section Ret
variable {Q : Option Value → Heap → List Loc → Prop} {C S pc : Nat} {Ls : Array Slot} {rest : List Value}
theorem Goes.retInt (X : Stand p l e R s m args below meth c T locs cells slots) (hx : p.tables.exec = Jvm.exec) (hlk : meth.locks = false) {z : Int32} (hret : meth.sig.returnType = some .int) (hd : decode c.code pc = .ok (.ireturn, 1)) (hQ : Q (some (.int z)) T.heap locs) (hc : cells ≤ C) (hs : slots ≤ S) :
    Goes p e below (OwnK s Q C S) T (mkF m pc Ls (.int z :: rest)) := by
  obtain ⟨fs, hr, hrun, hended, hW, hsame⟩ := X.leave (v := some (.int z)) (fun h => by rw [hret] at h; cases h) hlk
  exact ⟨_, _, retOut X hx hret rfl (Or.inl ⟨rfl, Or.inl rfl, z, rfl⟩) hd hr, hrun, hended, _, _, rfl, hQ, ⟨_, rfl⟩, hW, hsame.mono hc hs⟩
theorem Goes.retNar (X : Stand p l e R s m args below meth c T locs cells slots) (hx : p.tables.exec = Jvm.exec) (hlk : meth.locks = false) {t : FieldType} {z : Int32} (ht : t = .boolean ∨ t = .byte ∨ t = .char ∨ t = .short) (hret : meth.sig.returnType = some t) (hd : decode c.code pc = .ok (.ireturn, 1)) (hQ : Q (some (.int (nar t z))) T.heap locs) (hc : cells ≤ C) (hs : slots ≤ S) :
    Goes p e below (OwnK s Q C S) T (mkF m pc Ls (.int z :: rest)) := by
  obtain ⟨fs, hr, hrun, hended, hW, hsame⟩ := X.leave (v := some (.int (nar t z))) (fun h => by rw [hret] at h; cases h) hlk
  exact ⟨_, _, retN X hx hret ht hd hr, hrun, hended, _, _, rfl, hQ, ⟨_, rfl⟩, hW, hsame.mono hc hs⟩
theorem Goes.retLong (X : Stand p l e R s m args below meth c T locs cells slots) (hx : p.tables.exec = Jvm.exec) (hlk : meth.locks = false) {z : Int64} (hret : meth.sig.returnType = some .long) (hd : decode c.code pc = .ok (.lreturn, 1)) (hQ : Q (some (.long z)) T.heap locs) (hc : cells ≤ C) (hs : slots ≤ S) :
    Goes p e below (OwnK s Q C S) T (mkF m pc Ls (.long z :: rest)) := by
  obtain ⟨fs, hr, hrun, hended, hW, hsame⟩ := X.leave (v := some (.long z)) (fun h => by rw [hret] at h; cases h) hlk
  exact ⟨_, _, retOut X hx hret rfl (Or.inr (Or.inl ⟨rfl, rfl, z, rfl⟩)) hd hr, hrun, hended, _, _, rfl, hQ, ⟨_, rfl⟩, hW, hsame.mono hc hs⟩
theorem Goes.retRef (X : Stand p l e R s m args below meth c T locs cells slots) (hx : p.tables.exec = Jvm.exec) (hlk : meth.locks = false) {t : FieldType} {w : Value} (hw : w.isRef = true) (ht : t.isReference = true) (hret : meth.sig.returnType = some t) (hd : decode c.code pc = .ok (.areturn, 1)) (hQ : Q (some w) T.heap locs) (hc : cells ≤ C) (hs : slots ≤ S) :
    Goes p e below (OwnK s Q C S) T (mkF m pc Ls (w :: rest)) := by
  obtain ⟨fs, hr, hrun, hended, hW, hsame⟩ := X.leave (v := some w) (fun h => by rw [hret] at h; cases h) hlk
  have hn : narrow t w = w := by cases t <;> first | (cases ht; done) | (cases w <;> first | (cases hw; done) | rfl)
  exact ⟨_, _, retOut X hx hret hn (Or.inr (Or.inr (Or.inr (Or.inr ⟨rfl, ht, hw⟩)))) hd hr, hrun, hended, _, _, rfl, hQ, ⟨_, rfl⟩, hW, hsame.mono hc hs⟩
theorem Goes.retVoid (X : Stand p l e R s m args below meth c T locs cells slots) (hx : p.tables.exec = Jvm.exec) (hlk : meth.locks = false) (hret : meth.sig.returnType = none) (hd : decode c.code pc = .ok (.return_, 1)) (hQ : Q none T.heap locs) (hc : cells ≤ C) (hs : slots ≤ S) :
    Goes p e below (OwnK s Q C S) T (mkF m pc Ls []) := by
  obtain ⟨fs, hr, hrun, hended, hW, hsame⟩ := X.leave (v := none) (fun _ => rfl) hlk
  exact ⟨_, _, X.returnOut hx hret hd hr, hrun, hended, _, _, rfl, hQ, ⟨_, rfl⟩, hW, hsame.mono hc hs⟩
end Ret
/-- an array of ints, chars, bytes (not of booleans): all of its elements -/
def AI (Z : State) (h : Heap) (a : Addr) (ty : FieldType) (xs : List Int32) : Prop := ∃ cl : Cell, Arr Z h a cl ty ∧ cl.slots.toList = xs.map Value.int ∧ xs.length < 2 ^ 31 ∧ ∀ x ∈ xs, fits ty (.int x) = true
section Arrs
variable {ty : FieldType} {xs : List Int32} {sl : Nat} {v : Value} {ws : List Addr} {j x : Int32} {i : Nat} {rest : List Value}
theorem AI.lt (F : AI Z h a ty xs) : a < h.size := by obtain ⟨cl, A, -⟩ := F; exact A.lt
theorem AI.ext (F : AI Z h a ty xs) (E : Ext h h') : AI Z h' a ty xs := by obtain ⟨cl, A, r⟩ := F; exact ⟨cl, A.ext E, r⟩
theorem AI.other (F : AI Z h b ty xs) (W : Wr h h' a sl v) (q : b ≠ a) : AI Z h' b ty xs := by obtain ⟨cl, A, r⟩ := F; exact ⟨cl, A.other W q, r⟩
theorem AI.keep (F : AI Z h a ty xs) (K : Keep h h' ws) (q : a ∉ ws) : AI Z h' a ty xs := by obtain ⟨cl, A, r⟩ := F; exact ⟨cl, ⟨K.2.1 a cl A.1 q, A.2⟩, r⟩
theorem own_idx {cl : Cell} (hsz : cl.slots.toList = xs.map Value.int) (hj : j.toInt = (i : Int)) (hi : i < xs.length) : ¬ (j < 0 ∨ cl.slots.size ≤ j.toNatClampNeg) ∧ j.toNatClampNeg = i := by
  have hl : cl.slots.size = xs.length := by rw [← Array.length_toList, hsz, List.length_map]
  have hn : j.toNatClampNeg = i := by simp only [Int32.toNatClampNeg, hj]; rfl
  refine ⟨?_, hn⟩
  rw [hn, hl, Int32.lt_iff_toInt_lt, hj]
  have e0 : (0 : Int32).toInt = 0 := rfl
  omega
theorem own_at {cl : Cell} (hsz : cl.slots.toList = xs.map Value.int) (hi : xs[i]? = some x) : cl.slots[i]? = some (.int x) := by
  rw [← Array.getElem?_toList, hsz, List.getElem?_map, hi]; rfl
theorem AI.iaload (X : Stand p l e R s m args below meth c T locs cells slots) (hx : p.tables.exec = Jvm.exec) (hZ : Z.Warmed39 s.vm) (eT : T.heap = h) (A : AI Z h a .int xs) (hj : j.toInt = (i : Int)) (hi : xs[i]? = some x) (hg : g.method = m) (hs : g.stack = .int j :: .ref a :: rest) (hd : decode c.code g.pc = .ok (.iaload, 1)) :
    ∀ t, Steps p.tables e below (T.setTop { g with pc := g.pc + 1, stack := .int x :: rest }) t → Steps p.tables e below (T.setTop g) t := by
  obtain ⟨cl, A1, h1, h2, h3⟩ := A
  obtain ⟨q1, q2⟩ := own_idx h1 hj (List.getElem?_eq_some_iff.mp hi).1
  exact X.iaload hx (by rw [eT]; exact A1.1) (State.isArrayOf_alike hZ.alike A1.2.1) A1.2.2 q1 (by rw [q2]; exact own_at h1 hi) hg hs hd
theorem AI.caload (X : Stand p l e R s m args below meth c T locs cells slots) (hx : p.tables.exec = Jvm.exec) (hZ : Z.Warmed39 s.vm) (eT : T.heap = h) (A : AI Z h a .char xs) (hj : j.toInt = (i : Int)) (hi : xs[i]? = some x) (hg : g.method = m) (hs : g.stack = .int j :: .ref a :: rest) (hd : decode c.code g.pc = .ok (.caload, 1)) :
    ∀ t, Steps p.tables e below (T.setTop { g with pc := g.pc + 1, stack := .int x :: rest }) t → Steps p.tables e below (T.setTop g) t := by
  obtain ⟨cl, A1, h1, h2, h3⟩ := A
  obtain ⟨q1, q2⟩ := own_idx h1 hj (List.getElem?_eq_some_iff.mp hi).1
  exact X.caload hx (by rw [eT]; exact A1.1) (State.isArrayOf_alike hZ.alike A1.2.1) A1.2.2 q1 (by rw [q2]; exact own_at h1 hi) hg hs hd
theorem AI.baload (X : Stand p l e R s m args below meth c T locs cells slots) (hx : p.tables.exec = Jvm.exec) (hZ : Z.Warmed39 s.vm) (eT : T.heap = h) (A : AI Z h a .byte xs) (hj : j.toInt = (i : Int)) (hi : xs[i]? = some x) (hg : g.method = m) (hs : g.stack = .int j :: .ref a :: rest) (hd : decode c.code g.pc = .ok (.baload, 1)) :
    ∀ t, Steps p.tables e below (T.setTop { g with pc := g.pc + 1, stack := .int x :: rest }) t → Steps p.tables e below (T.setTop g) t := by
  obtain ⟨cl, A1, h1, h2, h3⟩ := A
  obtain ⟨q1, q2⟩ := own_idx h1 hj (List.getElem?_eq_some_iff.mp hi).1
  exact X.baloadBytes hx (by rw [eT]; exact A1.1) (State.isArrayOf_alike hZ.alike A1.2.1) A1.2.2 q1 (by rw [q2]; exact own_at h1 hi) hg hs hd
theorem AI.arraylength (X : Stand p l e R s m args below meth c T locs cells slots) (hx : p.tables.exec = Jvm.exec) (hZ : Z.Warmed39 s.vm) (eT : T.heap = h) (A : AI Z h a ty xs) (hj : j.toInt = (xs.length : Int)) (hg : g.method = m) (hs : g.stack = .ref a :: rest) (hd : decode c.code g.pc = .ok (.arraylength, 1)) :
    ∀ t, Steps p.tables e below (T.setTop { g with pc := g.pc + 1, stack := .int j :: rest }) t → Steps p.tables e below (T.setTop g) t := by
  obtain ⟨cl, A1, h1, h2, h3⟩ := A
  intro t k
  have hl : cl.slots.size = xs.length := by rw [← Array.length_toList, h1, List.length_map]
  have ej : cl.slots.size.toInt32 = j := by
    rw [hl]
    apply Int32.toInt_inj.mp
    rw [hj]; exact len_toInt h2
  refine X.arraylength hx (by rw [eT]; exact A1.1) (State.isArrayOf_alike hZ.alike A1.2.1) hg hs hd t ?_
  rw [ej]; exact k
theorem own_set {cl : Cell} (A : Arr Z h a cl ty) (h1 : cl.slots.toList = xs.map Value.int) (h2 : xs.length < 2 ^ 31) (h3 : ∀ x ∈ xs, fits ty (.int x) = true) (hf : fits ty (.int x) = true) (W : Wr h h' a i (.int x)) : AI Z h' a ty (xs.set i x) :=
  ⟨_, A.same W, by simp [Cell.setSlot, h1, List.map_set], by rw [List.length_set]; exact h2, fun y hy => by
    rcases List.mem_or_eq_of_mem_set hy with q | q
    · exact h3 y q
    · rw [q]; exact hf⟩
theorem AI.iastore (X : Stand p l e R s m args below meth c T locs cells slots) (hx : p.tables.exec = Jvm.exec) (hZ : Z.Warmed39 s.vm) (eT : T.heap = h) (A : AI Z h a .int xs) (hj : j.toInt = (i : Int)) (hi : i < xs.length) (hg : g.method = m) (hs : g.stack = .int x :: .int j :: .ref a :: rest) (hd : decode c.code g.pc = .ok (.iastore, 1)) :
    ∃ T' h', Stand p l e R s m args below meth c T' (locs ++ [⟨a, i⟩]) cells slots ∧ T'.heap = h' ∧ Wr h h' a i (.int x) ∧ AI Z h' a .int (xs.set i x) ∧ ∀ target, Steps p.tables e below (T'.setTop { g with pc := g.pc + 1, stack := rest }) target → Steps p.tables e below (T.setTop g) target := by
  obtain ⟨cl, A1, h1, h2, h3⟩ := A
  obtain ⟨q1, q2⟩ := own_idx h1 hj hi
  obtain ⟨T', h', X', e', W', st⟩ := stI X hx hZ eT A1 q1 hg hs hd
  rw [q2] at X' W'
  exact ⟨T', h', X', e', W', own_set A1 h1 h2 h3 rfl W', st⟩
theorem AI.castore (X : Stand p l e R s m args below meth c T locs cells slots) (hx : p.tables.exec = Jvm.exec) (hZ : Z.Warmed39 s.vm) (eT : T.heap = h) (A : AI Z h a .char xs) (hj : j.toInt = (i : Int)) (hi : i < xs.length) (hg : g.method = m) (hs : g.stack = .int x :: .int j :: .ref a :: rest) (hd : decode c.code g.pc = .ok (.castore, 1)) :
    ∃ T' h', Stand p l e R s m args below meth c T' (locs ++ [⟨a, i⟩]) cells slots ∧ T'.heap = h' ∧ Wr h h' a i (.int (nar .char x)) ∧ AI Z h' a .char (xs.set i (nar .char x)) ∧ ∀ target, Steps p.tables e below (T'.setTop { g with pc := g.pc + 1, stack := rest }) target → Steps p.tables e below (T.setTop g) target := by
  obtain ⟨cl, A1, h1, h2, h3⟩ := A
  obtain ⟨q1, q2⟩ := own_idx h1 hj hi
  obtain ⟨T', h', X', e', W', st⟩ := stC X hx hZ eT A1 q1 hg hs hd
  rw [q2] at X' W'
  exact ⟨T', h', X', e', W', own_set A1 h1 h2 h3 (fits_nar_char _) W', st⟩
theorem AI.bastore (X : Stand p l e R s m args below meth c T locs cells slots) (hx : p.tables.exec = Jvm.exec) (hZ : Z.Warmed39 s.vm) (eT : T.heap = h) (A : AI Z h a .byte xs) (hj : j.toInt = (i : Int)) (hi : i < xs.length) (hg : g.method = m) (hs : g.stack = .int x :: .int j :: .ref a :: rest) (hd : decode c.code g.pc = .ok (.bastore, 1)) :
    ∃ T' h', Stand p l e R s m args below meth c T' (locs ++ [⟨a, i⟩]) cells slots ∧ T'.heap = h' ∧ Wr h h' a i (.int (nar .byte x)) ∧ AI Z h' a .byte (xs.set i (nar .byte x)) ∧ ∀ target, Steps p.tables e below (T'.setTop { g with pc := g.pc + 1, stack := rest }) target → Steps p.tables e below (T.setTop g) target := by
  obtain ⟨cl, A1, h1, h2, h3⟩ := A
  obtain ⟨q1, q2⟩ := own_idx h1 hj hi
  obtain ⟨T', h', X', e', W', st⟩ := stB X hx hZ eT A1 q1 hg hs hd
  rw [q2] at X' W'
  exact ⟨T', h', X', e', W', own_set A1 h1 h2 h3 (fits_nar_byte _) W', st⟩
theorem AI.fresh {cA : ClassId} {n : Int32} {k : Nat} (ht : ty = .int ∨ ty = .char ∨ ty = .byte ∨ ty = .short) (hn : n.toInt = (k : Int)) (A : Arr Z h a (newA cA ty n) ty) : AI Z h a ty (List.replicate k 0) := by
  have e : n.toNatClampNeg = k := by simp only [Int32.toNatClampNeg, hn]; rfl
  have hk := n.toInt_lt
  refine ⟨_, A, ?_, ?_, ?_⟩
  · rcases ht with rfl | rfl | rfl | rfl <;> simp [newA, e, defaultValue]
  · rw [List.length_replicate]; omega
  · intro x hx
    obtain rfl := List.eq_of_mem_replicate hx
    rcases ht with rfl | rfl | rfl | rfl <;> rfl
end Arrs
end OwnKit
section OwnKit2
variable {p : Program} {l : Launch} {e : Env} {R : Room} {s : State} {m : MethodId} {args : Array Value} {below : List Frame} {meth : Method} {c : Code} {T T' : State} {locs : List Loc} {cells slots : Nat} {Z : State} {a0 : Array Value} {h h' : Heap} {g g' : JFrame} {a b : Addr} {ty : FieldType} {xs : List Int32}
theorem AI.arv (F : AI Z h a ty xs) {n : Int32} (hn : n.toInt = (xs.length : Int)) : ∃ k, Arv Z h a k ty n (xs.map Value.int) (.int 0) := by
  obtain ⟨cl, A, h1, h2, h3⟩ := F
  have e : n.toNatClampNeg = xs.length := by simp only [Int32.toNatClampNeg, hn]; rfl
  have hl : cl.slots.size = xs.length := by rw [← Array.length_toList, h1, List.length_map]
  refine ⟨cl.cls, cl, A, rfl, by rw [hl, e], by rw [Int32.lt_iff_toInt_lt, hn]; have z : (0 : Int32).toInt = 0 := rfl; omega, fun i hi => ?_, fun i hi => ?_⟩
  · rw [← Array.getElem?_toList, h1, List.getD_eq_getElem?_getD]
    rw [hl] at hi
    rw [List.getElem?_map, List.getElem?_eq_getElem hi]; rfl
  · rw [hl] at hi
    rw [List.getD_eq_getElem?_getD, List.getElem?_map, List.getElem?_eq_getElem hi]
    exact h3 _ (List.getElem_mem hi)
theorem AI.ofArv {k : ClassId} {n : Int32} {vs : List Value} {d : Value} (F : Arv Z h a k ty n vs d) (hn : n.toInt = (xs.length : Int)) (hv : vs = xs.map Value.int) : AI Z h a ty xs := by
  obtain ⟨cl, A, -, S, q, H, G⟩ := F
  have e : n.toNatClampNeg = xs.length := by simp only [Int32.toNatClampNeg, hn]; rfl
  have hl : cl.slots.size = xs.length := by rw [S, e]
  have hk := n.toInt_lt
  refine ⟨cl, A, ?_, by omega, ?_⟩
  · apply List.ext_getElem?
    intro i
    by_cases hi : i < xs.length
    · rw [Array.getElem?_toList, H i (by rw [hl]; exact hi), hv, List.getD_eq_getElem?_getD, List.getElem?_map, List.getElem?_eq_getElem hi]; rfl
    · rw [List.getElem?_eq_none (by rw [Array.length_toList, hl]; omega), List.getElem?_eq_none (by rw [List.length_map]; omega)]
  · intro x hx
    obtain ⟨i, hi, rfl⟩ := List.getElem_of_mem hx
    have := G i (by rw [hl]; exact hi)
    rw [hv, List.getD_eq_getElem?_getD, List.getElem?_map, List.getElem?_eq_getElem hi] at this
    exact this
theorem AI.clone (X : Stand p l e R s m args below meth c T locs cells slots) (hx : p.tables.exec = Jvm.exec) (hZ : Z.Warmed39 s.vm) {own ad : String} {index : Nat} (hown : s.vm.findClass own = some m.cls)
    (w1 : (Cond.methodLink own index ⟨ad, "clone", "()Ljava/lang/Object;"⟩).before a0 Z = true) (w2 : (Cond.sameMethod ad "java/lang/Object" "clone" "()Ljava/lang/Object;").before a0 Z = true) (w3 : (Cond.native ⟨"java/lang/Object", "clone", "()Ljava/lang/Object;"⟩).before a0 Z = true)
    (w4 : (Cond.instanceMethod ⟨"java/lang/Object", "clone", "()Ljava/lang/Object;"⟩).before a0 Z = true) (w5 : (Cond.selects ad ⟨ad, "clone", "()Ljava/lang/Object;"⟩ ⟨"java/lang/Object", "clone", "()Ljava/lang/Object;"⟩).before a0 Z = true) (w6 : (Cond.castable ad "java/lang/Cloneable").before a0 Z = true)
    (eT : T.heap = h) (F : AI Z h a ty xs) (E : Exa Z h a ad) (hg : g.method = m) (hsize : g.locals.size = c.maxLocals) {rest : List Value} (hst : g.stack = .ref a :: rest) (hd : decode c.code g.pc = .ok (.invokevirtual index, 3))
    (hf : 1 ≤ R.frames) {W cap : Nat} (hW : 2 * g.monitorRoom + (rest.map fun v => v.category).sum ≤ W) (hl : W + 14 ≤ R.locals) (hcap : xs.length ≤ cap) (hc : cells + 1 ≤ R.cells) (hsl : slots + cap ≤ R.slots) :
    ∃ T' h', Stand p l e R s m args below meth c T' locs (cells + 1) (slots + cap) ∧ T'.heap = h' ∧ Ext h h' ∧ AI Z h' h.size ty xs ∧ Exa Z h' h.size ad ∧
      ∀ target, Steps p.tables e below (T'.setTop { g with pc := g.pc + 3, stack := .ref h.size :: rest }) target → Steps p.tables e below (T.setTop g) target := by
  obtain ⟨cl, A, h1, h2, h3⟩ := F
  have hlen : cl.slots.size = xs.length := by rw [← Array.length_toList, h1, List.length_map]
  have FC : FitC Z cl := fitC_of A fun i hi v hv => by
    rw [← Array.getElem?_toList, h1, List.getElem?_map] at hv
    rw [hlen] at hi
    rw [List.getElem?_eq_getElem hi] at hv
    cases hv
    exact h3 _ (List.getElem_mem hi)
  obtain ⟨T', h', X', e', ex, A', E', st⟩ := cloneA X hx hZ hown w1 w2 w3 w4 w5 w6 eT A E FC hg hsize hst hd hf hW hl (by rw [hlen]; exact hcap) hc hsl
  exact ⟨T', h', X', e', ex, ⟨cloneOf cl, A', h1, h2, h3⟩, E', st⟩
theorem AI.copy (X : Stand p l e R s m args below meth c T locs cells slots) (hx : p.tables.exec = Jvm.exec) (hZ : Z.Warmed39 s.vm) {own : String} {index : Nat} (hown : s.vm.findClass own = some m.cls)
    (w1 : (Cond.methodLink own index Jvm.Stand.acN).before a0 Z = true) (w2 : (Cond.native Jvm.Stand.acN).before a0 Z = true) (w3 : (Cond.static Jvm.Stand.acN).before a0 Z = true) (w4 : (Cond.initialized "java/lang/System").before a0 Z = true) (eT : T.heap = h)
    {ys : List Int32} {sp dp nn : Int32} {i j k : Nat} (A : AI Z h a ty xs) (B : AI Z h b ty ys) (hty : refKind ty = false) (hi : sp.toInt = (i : Int)) (hj : dp.toInt = (j : Int)) (hk : nn.toInt = (k : Int)) (h4 : i + k ≤ xs.length) (h5 : j + k ≤ ys.length) {n0 : Nat} (N : Fr n0 locs) (ge : n0 ≤ b)
    (hg : g.method = m) (hsize : g.locals.size = c.maxLocals) {rest : List Value} (hs : g.stack = .int nn :: .int dp :: .ref b :: .int sp :: .ref a :: rest) (hd : decode c.code g.pc = .ok (.invokestatic index, 3))
    (hf : 1 ≤ R.frames) {W : Nat} (hW : 2 * g.monitorRoom + (rest.map fun v => v.category).sum ≤ W) (hlo : W + (nativeFrameWords "java/lang/System" "arraycopy" 5 + 11) ≤ R.locals) :
    ∃ T' h' L, Stand p l e R s m args below meth c T' L cells slots ∧ T'.heap = h' ∧ Fr n0 L ∧ Keep h h' [b] ∧ AI Z h' b ty (ys.take j ++ (xs.drop i).take k ++ ys.drop (j + k)) ∧
      ∀ target, Steps p.tables e below (T'.setTop { g with pc := g.pc + 3, stack := rest }) target → Steps p.tables e below (T.setTop g) target := by
  have lx : xs.length < 2 ^ 31 := by obtain ⟨_, _, _, q, _⟩ := A; exact q
  have ly : ys.length < 2 ^ 31 := by obtain ⟨_, _, _, q, _⟩ := B; exact q
  have ex : (xs.length.toInt32).toInt = (xs.length : Int) := len_toInt lx
  have ey : (ys.length.toInt32).toInt = (ys.length : Int) := len_toInt ly
  obtain ⟨k1, A1⟩ := A.arv ex
  obtain ⟨k2, B1⟩ := B.arv ey
  have cl : ∀ {x : Int32} {q : Nat}, x.toInt = (q : Int) → x.toNatClampNeg = q := fun {x q} r => by simp only [Int32.toNatClampNeg, r]; rfl
  have ng : ∀ {x : Int32} {q : Nat}, x.toInt = (q : Int) → ¬ x < 0 := fun {x q} r => by rw [Int32.lt_iff_toInt_lt, r]; have z : (0 : Int32).toInt = 0 := rfl; omega
  obtain ⟨T', h', L, X', e', N', K', V', st⟩ := cpA X hx hZ hown w1 w2 w3 w4 eT A1 B1 (Or.inl ⟨rfl, hty⟩) (ng hi) (ng hj) (ng hk) (by rw [cl hi, cl hk, cl ex]; exact h4) (by rw [cl hj, cl hk, cl ey]; exact h5) rfl (by rw [cl hj, cl hk, List.length_map]; exact h5) N ge hg hsize hs hd hf hW hlo
  refine ⟨T', h', L, X', e', N', K', AI.ofArv V' ?_ ?_, st⟩
  · rw [ey]
    simp only [List.length_append, List.length_take, List.length_drop]
    omega
  · rw [cl hi, cl hj, cl hk, List.map_append, List.map_append, List.map_take, List.map_drop, List.map_take, List.map_drop]
    congr 2
    apply List.ext_getElem?
    intro q
    by_cases hq : q < k
    · rw [List.getElem?_map, List.getElem?_range hq, List.getElem?_take_of_lt hq, List.getElem?_drop, List.getElem?_map]
      simp only [Option.map_some, List.getD_eq_getElem?_getD, List.getElem?_map]
      rw [List.getElem?_eq_getElem (show i + q < xs.length by omega)]; rfl
    · rw [List.getElem?_eq_none (by simp only [List.length_map, List.length_range]; omega), List.getElem?_eq_none (by simp only [List.length_take, List.length_drop, List.length_map]; omega)]
end OwnKit2
section OwnKitW
variable {p : Program} {l : Launch} {e : Env} {R : Room} {s : State} {m : MethodId} {args : Array Value} {below : List Frame} {meth : Method} {c : Code} {T T' : State} {locs : List Loc} {cells slots : Nat} {Z : State} {a0 : Array Value} {h h' : Heap} {g g' : JFrame} {a b : Addr} {vm0 : Vm} {k0 : Nat}
def OwnKW (s : State) (Q : Option Value → Heap → List Loc → Prop) (C S : Nat) : Outcome → State → Prop := fun o U' => ∃ v L, o = .returned v ∧ Q v U'.heap L ∧ ReturnedEndW s o U' L C S
theorem own_endW {s t : State} {o : Outcome} {L : List Loc} {k n k' n' : Nat} (h : ReturnedEndW s o t L k n) (hk : k ≤ k') (hn : n ≤ n') : ReturnedEndW s o t L k' n' := ⟨h.1, h.2.1, h.2.2.1, h.2.2.2.mono hk hn⟩
variable {Q : Option Value → Heap → List Loc → Prop} {C S pc : Nat} {Ls : Array Slot} {rest : List Value}
theorem Goes.retIntW (X : Stand p l e R (s.setVm vm0) m args below meth c T locs cells slots) (hS : s.Since vm0 k0) (hk : k0 ≤ T.heap.size) (hx : p.tables.exec = Jvm.exec) (hlk : meth.locks = false) {z : Int32} (hret : meth.sig.returnType = some .int) (hd : decode c.code pc = .ok (.ireturn, 1)) (hQ : Q (some (.int z)) T.heap locs) (hc : cells ≤ C) (hs : slots ≤ S) :
    Goes p e below (OwnKW s Q C S) T (mkF m pc Ls (.int z :: rest)) := by
  obtain ⟨fs, hr, hrun, hended, hW⟩ := X.leaveW hS hk (v := some (.int z)) (fun h => by rw [hret] at h; cases h) hlk
  exact ⟨_, _, retOut X hx hret rfl (Or.inl ⟨rfl, Or.inl rfl, z, rfl⟩) hd hr, hrun, hended, _, _, rfl, hQ, own_endW hW hc hs⟩
theorem Goes.retNarW (X : Stand p l e R (s.setVm vm0) m args below meth c T locs cells slots) (hS : s.Since vm0 k0) (hk : k0 ≤ T.heap.size) (hx : p.tables.exec = Jvm.exec) (hlk : meth.locks = false) {t : FieldType} {z : Int32} (ht : t = .boolean ∨ t = .byte ∨ t = .char ∨ t = .short) (hret : meth.sig.returnType = some t) (hd : decode c.code pc = .ok (.ireturn, 1)) (hQ : Q (some (.int (nar t z))) T.heap locs) (hc : cells ≤ C) (hs : slots ≤ S) :
    Goes p e below (OwnKW s Q C S) T (mkF m pc Ls (.int z :: rest)) := by
  obtain ⟨fs, hr, hrun, hended, hW⟩ := X.leaveW hS hk (v := some (.int (nar t z))) (fun h => by rw [hret] at h; cases h) hlk
  exact ⟨_, _, retN X hx hret ht hd hr, hrun, hended, _, _, rfl, hQ, own_endW hW hc hs⟩
theorem Goes.retRefW (X : Stand p l e R (s.setVm vm0) m args below meth c T locs cells slots) (hS : s.Since vm0 k0) (hk : k0 ≤ T.heap.size) (hx : p.tables.exec = Jvm.exec) (hlk : meth.locks = false) {t : FieldType} {w : Value} (hw : w.isRef = true) (ht : t.isReference = true) (hret : meth.sig.returnType = some t) (hd : decode c.code pc = .ok (.areturn, 1)) (hQ : Q (some w) T.heap locs) (hc : cells ≤ C) (hs : slots ≤ S) :
    Goes p e below (OwnKW s Q C S) T (mkF m pc Ls (w :: rest)) := by
  obtain ⟨fs, hr, hrun, hended, hW⟩ := X.leaveW hS hk (v := some w) (fun h => by rw [hret] at h; cases h) hlk
  have hn : narrow t w = w := by cases t <;> first | (cases ht; done) | (cases w <;> first | (cases hw; done) | rfl)
  exact ⟨_, _, retOut X hx hret hn (Or.inr (Or.inr (Or.inr (Or.inr ⟨rfl, ht, hw⟩)))) hd hr, hrun, hended, _, _, rfl, hQ, own_endW hW hc hs⟩
theorem Goes.retVoidW (X : Stand p l e R (s.setVm vm0) m args below meth c T locs cells slots) (hS : s.Since vm0 k0) (hk : k0 ≤ T.heap.size) (hx : p.tables.exec = Jvm.exec) (hlk : meth.locks = false) (hret : meth.sig.returnType = none) (hd : decode c.code pc = .ok (.return_, 1)) (hQ : Q none T.heap locs) (hc : cells ≤ C) (hs : slots ≤ S) :
    Goes p e below (OwnKW s Q C S) T (mkF m pc Ls []) := by
  obtain ⟨fs, hr, hrun, hended, hW⟩ := X.leaveW hS hk (v := none) (fun _ => rfl) hlk
  exact ⟨_, _, X.returnOut hx hret hd hr, hrun, hended, _, _, rfl, hQ, own_endW hW hc hs⟩
end OwnKitW
section OwnKitO
variable {p : Program} {l : Launch} {e : Env} {R : Room} {s : State} {m : MethodId} {args : Array Value} {below : List Frame} {meth : Method} {c : Code} {T T' : State} {locs : List Loc} {cells slots : Nat} {Z : State} {a0 : Array Value} {h h' : Heap} {g g' : JFrame} {a b : Addr} {vs us : List Value} {sl : Nat} {v w : Value} {ws : List Addr} {j : Int32} {i : Nat} {rest : List Value}
abbrev oObj : FieldType := .object "java/lang/Object"
/-- an Object[]: all of its elements -/
def AR (Z : State) (h : Heap) (a : Addr) (vs : List Value) : Prop := ∃ cl : Cell, Arr Z h a cl oObj ∧ Ovr Z cl.cls "java/lang/Object" ∧ cl.slots.toList = vs ∧ vs.length < 2 ^ 31 ∧ (∀ v ∈ vs, fits oObj v = true) ∧ Exa Z h a "[Ljava/lang/Object;"
theorem AR.lt (F : AR Z h a vs) : a < h.size := by obtain ⟨cl, A, -⟩ := F; exact A.lt
theorem AR.exa (F : AR Z h a vs) : Exa Z h a "[Ljava/lang/Object;" := by obtain ⟨cl, -, -, -, -, -, E⟩ := F; exact E
theorem AR.ext (F : AR Z h a vs) (E : Ext h h') : AR Z h' a vs := by obtain ⟨cl, A, O, r1, r2, r3, X⟩ := F; exact ⟨cl, A.ext E, O, r1, r2, r3, X.ext E⟩
theorem AR.other (F : AR Z h b vs) (W : Wr h h' a sl v) (q : b ≠ a) : AR Z h' b vs := by obtain ⟨cl, A, O, r1, r2, r3, X⟩ := F; exact ⟨cl, A.other W q, O, r1, r2, r3, X.wr W⟩
theorem AR.keep (F : AR Z h a vs) (K : Keep h h' ws) (q : a ∉ ws) : AR Z h' a vs := by obtain ⟨cl, A, O, r1, r2, r3, X⟩ := F; exact ⟨cl, ⟨K.2.1 a cl A.1 q, A.2⟩, O, r1, r2, r3, X.keep K⟩
theorem own_idxR {cl : Cell} (hsz : cl.slots.toList = vs) (hj : j.toInt = (i : Int)) (hi : i < vs.length) : ¬ (j < 0 ∨ cl.slots.size ≤ j.toNatClampNeg) ∧ j.toNatClampNeg = i := by
  have hl : cl.slots.size = vs.length := by rw [← Array.length_toList, hsz]
  have hn : j.toNatClampNeg = i := by simp only [Int32.toNatClampNeg, hj]; rfl
  refine ⟨?_, hn⟩
  rw [hn, hl, Int32.lt_iff_toInt_lt, hj]
  have e0 : (0 : Int32).toInt = 0 := rfl
  omega
theorem AR.aaload (X : Stand p l e R s m args below meth c T locs cells slots) (hx : p.tables.exec = Jvm.exec) (hZ : Z.Warmed39 s.vm) (eT : T.heap = h) (A : AR Z h a vs) (hj : j.toInt = (i : Int)) (hi : vs[i]? = some v) (hg : g.method = m) (hs : g.stack = .int j :: .ref a :: rest) (hd : decode c.code g.pc = .ok (.aaload, 1)) :
    ∀ t, Steps p.tables e below (T.setTop { g with pc := g.pc + 1, stack := v :: rest }) t → Steps p.tables e below (T.setTop g) t := by
  obtain ⟨cl, A1, O, h1, h2, h3, E⟩ := A
  obtain ⟨q1, q2⟩ := own_idxR h1 hj (List.getElem?_eq_some_iff.mp hi).1
  exact X.aaload hx (by rw [eT]; exact A1.1) (State.isArrayOf_alike hZ.alike A1.2.1) rfl A1.2.2 q1 (by rw [q2, ← Array.getElem?_toList, h1]; exact hi) hg hs hd
theorem AR.arraylength (X : Stand p l e R s m args below meth c T locs cells slots) (hx : p.tables.exec = Jvm.exec) (hZ : Z.Warmed39 s.vm) (eT : T.heap = h) (A : AR Z h a vs) (hj : j.toInt = (vs.length : Int)) (hg : g.method = m) (hs : g.stack = .ref a :: rest) (hd : decode c.code g.pc = .ok (.arraylength, 1)) :
    ∀ t, Steps p.tables e below (T.setTop { g with pc := g.pc + 1, stack := .int j :: rest }) t → Steps p.tables e below (T.setTop g) t := by
  obtain ⟨cl, A1, O, h1, h2, h3, E⟩ := A
  intro t k
  have hl : cl.slots.size = vs.length := by rw [← Array.length_toList, h1]
  have ej : cl.slots.size.toInt32 = j := by
    rw [hl]
    apply Int32.toInt_inj.mp
    rw [hj]; exact len_toInt h2
  refine X.arraylength hx (by rw [eT]; exact A1.1) (State.isArrayOf_alike hZ.alike A1.2.1) hg hs hd t ?_
  rw [ej]; exact k
theorem AR.sto (A : AR Z h a vs) (hv : v = .null ∨ ∃ y, v = .ref y ∧ Ins Z h y "java/lang/Object" true) : Sto Z h a v := by
  obtain ⟨cl, A1, O, -⟩ := A
  rcases hv with rfl | ⟨y, rfl, I⟩
  · exact Or.inl rfl
  · exact Sto.of A1 O I
theorem AR.aastore (X : Stand p l e R s m args below meth c T locs cells slots) (hx : p.tables.exec = Jvm.exec) (hZ : Z.Warmed39 s.vm) (eT : T.heap = h) (A : AR Z h a vs) (hv : v = .null ∨ ∃ y, v = .ref y ∧ Ins Z h y "java/lang/Object" true) (hj : j.toInt = (i : Int)) (hi : i < vs.length) (hg : g.method = m) (hs : g.stack = v :: .int j :: .ref a :: rest) (hd : decode c.code g.pc = .ok (.aastore, 1)) :
    ∃ T' h', Stand p l e R s m args below meth c T' (locs ++ [⟨a, i⟩]) cells slots ∧ T'.heap = h' ∧ Wr h h' a i v ∧ AR Z h' a (vs.set i v) ∧ ∀ target, Steps p.tables e below (T'.setTop { g with pc := g.pc + 1, stack := rest }) target → Steps p.tables e below (T.setTop g) target := by
  have S := A.sto hv
  obtain ⟨cl, A1, O, h1, h2, h3, E⟩ := A
  obtain ⟨q1, q2⟩ := own_idxR h1 hj hi
  obtain ⟨T', h', X', e', W', st⟩ := stR X hx hZ eT A1 q1 rfl S hg hs hd
  rw [q2] at X' W'
  refine ⟨T', h', X', e', W', ⟨_, A1.same W', O, by simp [Cell.setSlot, h1], by rw [List.length_set]; exact h2, fun y hy => ?_, E.wr W'⟩, st⟩
  rcases List.mem_or_eq_of_mem_set hy with q | q
  · exact h3 y q
  · rw [q]; rcases hv with rfl | ⟨y, rfl, -⟩ <;> rfl
theorem AR.anewarray (X : Stand p l e R s m args below meth c T locs cells slots) (hx : p.tables.exec = Jvm.exec) (hZ : Z.Warmed39 s.vm) {own : String} {index : Nat} (hown : s.vm.findClass own = some m.cls) (w1 : (Cond.classLink own index "java/lang/Object").before a0 Z = true) (w2 : (Cond.arrayOver oObj).before a0 Z = true)
    (eT : T.heap = h) (hg : g.method = m) (hd : decode c.code g.pc = .ok (.anewarray index, 3)) {n : Int32} {k : Nat} (hs : g.stack = .int n :: rest) (hn : n.toInt = (k : Int)) {cap : Nat} (hcap : k ≤ cap) (hb : cap * 8 ≤ 536870912) (hc : cells + 1 ≤ R.cells) (hl : slots + cap ≤ R.slots) :
    ∃ T' h', Stand p l e R s m args below meth c T' locs (cells + 1) (slots + cap) ∧ T'.heap = h' ∧ Ext h h' ∧ AR Z h' h.size (List.replicate k .null) ∧
      ∀ target, Steps p.tables e below (T'.setTop { g with pc := g.pc + 3, stack := .ref h.size :: rest }) target → Steps p.tables e below (T.setTop g) target := by
  have ek : n.toNatClampNeg = k := by simp only [Int32.toNatClampNeg, hn]; rfl
  have ng : ¬ n < 0 := by rw [Int32.lt_iff_toInt_lt, hn]; have z : (0 : Int32).toInt = 0 := rfl; omega
  have kb := n.toInt_lt
  have w2' : (Cond.arrayOver oObj).before args s = true := Cond.arrayOver_alike hZ.alike w2
  obtain ⟨vm₁, cA, kA, comp, -, h1, h2, h3, h4, X', st⟩ := X.anewarrayRefK hx hown (mv hZ w1) w2' hg hd hs ng (by omega) hc (by omega)
  subst eT
  rw [hZ.alike.findClass] at h1
  obtain ⟨kZ, z1, -⟩ := Vm.findClass_spec h1
  obtain ⟨k', z2, z3⟩ := hZ.alike.2.2 _ _ z1
  cases h2.symm.trans z2
  have kk : kZ.kind = .array comp oObj := by rw [← h3, z3]
  have A : Arr Z (((T.setVm vm₁).pushCell { cls := cA, slots := Array.replicate n.toNatClampNeg .null, vm := .none }).heap) T.heap.size { cls := cA, slots := Array.replicate n.toNatClampNeg .null, vm := .none } oObj :=
    ⟨by show (T.heap.push _)[T.heap.size]? = _; simp, ⟨by simp, kZ, z1, comp, kk⟩, by simp⟩
  refine ⟨_, _, X'.more (Nat.le_refl _) (by omega), rfl, ext_of fun a q => Array.getElem?_push_lt q |>.trans (Array.getElem?_eq_getElem q).symm, ⟨_, A, ⟨kZ, comp, z1, kk, by rw [← hZ.alike.findClass]; exact h4⟩, by simp [ek], by rw [List.length_replicate]; omega, fun y hy => by obtain rfl := List.eq_of_mem_replicate hy; rfl, exa_arr A h1 rfl⟩, st⟩
theorem own_stoL (A : AR Z h a vs) : ∀ us : List Value, (∀ u ∈ us, u = .null ∨ ∃ y, u = .ref y ∧ Ins Z h y "java/lang/Object" true) → StoL Z h a us
  | [], _ => trivial
  | u :: r, H => ⟨A.sto (H u (List.mem_cons_self ..)), own_stoL A r fun x hx => H x (List.mem_cons_of_mem _ hx)⟩
theorem AR.arv (F : AR Z h a vs) {n : Int32} (hn : n.toInt = (vs.length : Int)) : ∃ k, Arv Z h a k oObj n vs .null ∧ Ovr Z k "java/lang/Object" := by
  obtain ⟨cl, A, O, h1, h2, h3, E⟩ := F
  have e : n.toNatClampNeg = vs.length := by simp only [Int32.toNatClampNeg, hn]; rfl
  have hl : cl.slots.size = vs.length := by rw [← Array.length_toList, h1]
  refine ⟨cl.cls, ⟨cl, A, rfl, by rw [hl, e], by rw [Int32.lt_iff_toInt_lt, hn]; have z : (0 : Int32).toInt = 0 := rfl; omega, fun i hi => ?_, fun i hi => ?_⟩, O⟩
  · rw [← Array.getElem?_toList, h1, List.getD_eq_getElem?_getD]
    rw [hl] at hi
    rw [List.getElem?_eq_getElem hi]; rfl
  · rw [hl] at hi
    rw [List.getD_eq_getElem?_getD, List.getElem?_eq_getElem hi]
    exact h3 _ (List.getElem_mem hi)
theorem AR.ofArv {k : ClassId} {n : Int32} {d : Value} (F : Arv Z h a k oObj n vs d) (O : Ovr Z k "java/lang/Object") (E : Exa Z h a "[Ljava/lang/Object;") (hn : n.toInt = (vs.length : Int)) : AR Z h a vs := by
  obtain ⟨cl, A, q0, S, q, H, G⟩ := F
  have e : n.toNatClampNeg = vs.length := by simp only [Int32.toNatClampNeg, hn]; rfl
  have hl : cl.slots.size = vs.length := by rw [S, e]
  have hk := n.toInt_lt
  refine ⟨cl, A, by rw [q0]; exact O, ?_, by omega, ?_, E⟩
  · apply List.ext_getElem?
    intro i
    by_cases hi : i < vs.length
    · rw [Array.getElem?_toList, H i (by rw [hl]; exact hi), List.getD_eq_getElem?_getD, List.getElem?_eq_getElem hi]; rfl
    · rw [List.getElem?_eq_none (by rw [Array.length_toList, hl]; omega), List.getElem?_eq_none (by omega)]
  · intro x hx
    obtain ⟨i, hi, rfl⟩ := List.getElem_of_mem hx
    have := G i (by rw [hl]; exact hi)
    rw [List.getD_eq_getElem?_getD, List.getElem?_eq_getElem hi] at this
    exact this
theorem AR.copy (X : Stand p l e R s m args below meth c T locs cells slots) (hx : p.tables.exec = Jvm.exec) (hZ : Z.Warmed39 s.vm) {own : String} {index : Nat} (hown : s.vm.findClass own = some m.cls)
    (w1 : (Cond.methodLink own index Jvm.Stand.acN).before a0 Z = true) (w2 : (Cond.native Jvm.Stand.acN).before a0 Z = true) (w3 : (Cond.static Jvm.Stand.acN).before a0 Z = true) (w4 : (Cond.initialized "java/lang/System").before a0 Z = true) (eT : T.heap = h)
    {us : List Value} {sp dp nn : Int32} {i j k : Nat} (A : AR Z h a vs) (B : AR Z h b us) (hv : ∀ u ∈ vs, u = .null ∨ ∃ y, u = .ref y ∧ Ins Z h y "java/lang/Object" true) (hi : sp.toInt = (i : Int)) (hj : dp.toInt = (j : Int)) (hk : nn.toInt = (k : Int)) (h4 : i + k ≤ vs.length) (h5 : j + k ≤ us.length) {n0 : Nat} (N : Fr n0 locs) (ge : n0 ≤ b)
    (hg : g.method = m) (hsize : g.locals.size = c.maxLocals) {rest : List Value} (hs : g.stack = .int nn :: .int dp :: .ref b :: .int sp :: .ref a :: rest) (hd : decode c.code g.pc = .ok (.invokestatic index, 3))
    (hf : 1 ≤ R.frames) {W : Nat} (hW : 2 * g.monitorRoom + (rest.map fun v => v.category).sum ≤ W) (hlo : W + (nativeFrameWords "java/lang/System" "arraycopy" 5 + 11) ≤ R.locals) :
    ∃ T' h' L, Stand p l e R s m args below meth c T' L cells slots ∧ T'.heap = h' ∧ Fr n0 L ∧ Keep h h' [b] ∧ AR Z h' b (us.take j ++ (vs.drop i).take k ++ us.drop (j + k)) ∧
      ∀ target, Steps p.tables e below (T'.setTop { g with pc := g.pc + 3, stack := rest }) target → Steps p.tables e below (T.setTop g) target := by
  have lx : vs.length < 2 ^ 31 := by obtain ⟨_, _, _, _, q, _⟩ := A; exact q
  have ly : us.length < 2 ^ 31 := by obtain ⟨_, _, _, _, q, _⟩ := B; exact q
  have ex : (vs.length.toInt32).toInt = (vs.length : Int) := len_toInt lx
  have ey : (us.length.toInt32).toInt = (us.length : Int) := len_toInt ly
  obtain ⟨k1, A1, O1⟩ := A.arv ex
  obtain ⟨k2, B1, O2⟩ := B.arv ey
  have cl : ∀ {x : Int32} {q : Nat}, x.toInt = (q : Int) → x.toNatClampNeg = q := fun {x q} r => by simp only [Int32.toNatClampNeg, r]; rfl
  have ng : ∀ {x : Int32} {q : Nat}, x.toInt = (q : Int) → ¬ x < 0 := fun {x q} r => by rw [Int32.lt_iff_toInt_lt, r]; have z : (0 : Int32).toInt = 0 := rfl; omega
  have eq : ((List.range nn.toNatClampNeg).map fun q => vs.getD (sp.toNatClampNeg + q) .null) = (vs.drop i).take k := by
    rw [cl hi, cl hk]
    apply List.ext_getElem?
    intro q
    by_cases hq : q < k
    · rw [List.getElem?_map, List.getElem?_range hq, List.getElem?_take_of_lt hq, List.getElem?_drop]
      simp only [Option.map_some, List.getD_eq_getElem?_getD]
      rw [List.getElem?_eq_getElem (show i + q < vs.length by omega)]; rfl
    · rw [List.getElem?_eq_none (by simp only [List.length_map, List.length_range]; omega), List.getElem?_eq_none (by simp only [List.length_take, List.length_drop]; omega)]
  have hst : StoL Z h b ((vs.drop i).take k) := own_stoL B _ fun u hu => hv u (List.mem_of_mem_drop (List.mem_of_mem_take hu))
  obtain ⟨T', h', L, X', e', N', K', V', st⟩ := cpA X hx hZ hown w1 w2 w3 w4 eT A1 B1 (Or.inr ⟨rfl, rfl, hst⟩) (ng hi) (ng hj) (ng hk) (by rw [cl hi, cl hk, cl ex]; exact h4) (by rw [cl hj, cl hk, cl ey]; exact h5) eq.symm (by rw [cl hj, cl hk]; exact h5) N ge hg hsize hs hd hf hW hlo
  rw [cl hj, cl hk] at V'
  refine ⟨T', h', L, X', e', N', K', AR.ofArv V' O2 (B.exa.keep K') ?_, st⟩
  rw [ey]
  simp only [List.length_append, List.length_take, List.length_drop]
  omega
end OwnKitO
theorem own_selp {Z s : State} {a0 args : Array Value} {y : MethodName} {n : Nat} (hZ : Z.Warmed39 s.vm) (wi : (Cond.instantiable y.cls n).before a0 Z = true) (wp : (Cond.privateMethod y).before a0 Z = true) (wm : (Cond.instanceMethod y).before a0 Z = true)
    (hy : y.cls ≠ "java/lang/invoke/MethodHandle" ∧ y.cls ≠ "java/lang/invoke/VarHandle") : (Cond.selects y.cls y y).before args s = true := by
  have wi' : (Cond.instantiable y.cls n).before args s = true := mvT hZ wi
  obtain ⟨c, k, h1, h2, -, h3, -⟩ := Cond.instantiable_spec wi'
  rw [Bool.or_eq_false_iff] at h3
  exact selects_self_of_private h1 h2 h3.1 (Cond.privateMethod_at (mvP hZ wp (args := #[]))) (mvT hZ wm) hy
theorem d4_0 : decode jdk_22_method_1_code 0 = .ok (.aload_n 0, 1) := by decide +kernel
theorem d4_1 : decode jdk_22_method_1_code 1 = .ok (.invokespecial 1, 3) := by decide +kernel
theorem d4_4 : decode jdk_22_method_1_code 4 = .ok (.return_, 1) := by decide +kernel
theorem pn_4 : plainFor (⟨"java/util/AbstractCollection", "<init>", "()V"⟩ : MethodName) = true := plainFor_of_name (by first | (simp [plainName, overriddenIn]; done) | decide +kernel)
theorem ef_4 (m : MethodId) (x0 : Addr) : entryFrame m #[(.ref x0)] 1 = mkF m 0 #[.val (.ref x0)] [] := by first | (simp [entryFrame, mkF, argsToLocals, Value.category]; done) | rfl
def Q4 (Z : State) (a1 : Addr) (h0 : Heap) (n0 : Nat) (v : Option Value) (h : Heap) (L : List Loc) : Prop := v = none ∧ Fr n0 L ∧ h = h0
set_option maxRecDepth 65536 in
set_option maxHeartbeats 40000000 in
theorem rm4 (l : Launch) (Z : State) (a0 : Array Value) (hw : ∀ d ∈ tables_1, d.before a0 Z = true) (ws : List Jvm.Cond) (a1 : Addr) (h0 : Heap) (n0 : Nat) (Z0 : n0 ≤ h0.size) :
    MetFree l (⟨"java/util/AbstractCollection", "<init>", "()V"⟩ : MethodName) (head1 (Jvm.Cond.code (⟨"java/util/AbstractCollection", "<init>", "()V"⟩ : MethodName) jdk_22_method_1_code 1 none :: ws) ({ frames := 1, cells := 0, slots := 0, locals := 12 } : Room)) (fun a U => a = #[(.ref a1)] ∧ Z.Warmed39 U.vm ∧ U.heap = h0) (fun _ _ _ _ _ => True) (fun _ U o U' => ∃ v L, o = .returned v ∧ Q4 Z a1 h0 n0 v U'.heap L ∧ FrameEnd U o U' L ({ frames := 1, cells := 0, slots := 0, locals := 12 } : Room).cells ({ frames := 1, cells := 0, slots := 0, locals := 12 } : Room).slots) := by
  refine MetFree.of_bodySF pn_4 hisR ?_
  intro p e s m args below meth c s₁ Bd hml0 hP hK
  obtain ⟨rfl, hZ, hh⟩ := hP
  have hx := Bd.exec
  have hby := Bd.bytes
  have hml : c.maxLocals = 1 := hml0
  have hown : s.vm.findClass "java/util/AbstractCollection" = some m.cls := findClass_of_methodNamed Bd.named
  have hnm := (name_of_methodNamed Bd.named Bd.method).1
  have hlk : meth.locks = false := BodyLoose.notSynchronized Bd
  have X0 : Stand p l e ({ frames := 1, cells := 0, slots := 0, locals := 12 } : Room) s m #[(.ref a1)] below meth c s₁ [] 0 0 := Stand.of_body Bd
  have e0 : s₁.heap = h0 := by rw [← hh, Bd.state]; rfl
  have N0 := Fr.nil n0
  show Goes p e below (OwnK s (Q4 Z a1 h0 n0) ({ frames := 1, cells := 0, slots := 0, locals := 12 } : Room).cells ({ frames := 1, cells := 0, slots := 0, locals := 12 } : Room).slots) s₁ (entryFrame m #[(.ref a1)] 1)
  refine Goes.cast (ef_4 m a1) ?_
  generalize hKK : OwnK s (Q4 Z a1 h0 n0) ({ frames := 1, cells := 0, slots := 0, locals := 12 } : Room).cells ({ frames := 1, cells := 0, slots := 0, locals := 12 } : Room).slots = KK
  show Goes p e below KK s₁ (mkF m 0 #[.val (.ref a1)] [])
  have w_22 := hw _ (List.mem_of_getElem? (i := 22) rfl)
  have w_23 := hw _ (List.mem_of_getElem? (i := 23) rfl)
  have w_24 := hw _ (List.mem_of_getElem? (i := 24) rfl)
  refine Goes.of (fun t => XS.aloadN X0.here hx rfl (hb hby d4_0) rfl rfl) ?_
  show Goes p e below KK s₁ (mkF m 1 #[.val (.ref a1)] [(.ref a1)])
  obtain ⟨T1, X1, e1, st1⟩ := initO X0 hx hZ hown w_22 w_23 w_24 e0 (g := (mkF m 1 #[.val (.ref a1)] [(.ref a1)])) rfl (by rw [hml]; rfl) rfl (hb hby d4_1) (by decide) (W := 0) (by show 2 * 0 + _ ≤ _; exact Nat.le_of_eq rfl) (by decide)
  refine Goes.of (st1) ?_
  show Goes p e below KK T1 (mkF m 4 #[.val (.ref a1)] [])
  rw [← hKK]
  refine Goes.retVoid X1 hx hlk Bd.returns (hb hby d4_4) ?_ (by decide) (by decide)
  rw [e1]
  exact ⟨rfl, N0, rfl⟩
theorem d22_0 : decode jdk_18_method_1_code 0 = .ok (.aload_n 0, 1) := by decide +kernel
theorem d22_1 : decode jdk_18_method_1_code 1 = .ok (.invokespecial 1, 3) := by decide +kernel
theorem d22_4 : decode jdk_18_method_1_code 4 = .ok (.return_, 1) := by decide +kernel
theorem pn_22 : plainFor (⟨"java/lang/Number", "<init>", "()V"⟩ : MethodName) = true := plainFor_of_name (by first | (simp [plainName, overriddenIn]; done) | decide +kernel)
theorem ef_22 (m : MethodId) (x0 : Addr) : entryFrame m #[(.ref x0)] 1 = mkF m 0 #[.val (.ref x0)] [] := by first | (simp [entryFrame, mkF, argsToLocals, Value.category]; done) | rfl
def Q22 (Z : State) (a1 : Addr) (h0 : Heap) (n0 : Nat) (v : Option Value) (h : Heap) (L : List Loc) : Prop := v = none ∧ Fr n0 L ∧ h = h0
set_option maxRecDepth 65536 in
set_option maxHeartbeats 40000000 in
theorem rm22 (l : Launch) (Z : State) (a0 : Array Value) (hw : ∀ d ∈ tables_1, d.before a0 Z = true) (ws : List Jvm.Cond) (a1 : Addr) (h0 : Heap) (n0 : Nat) (Z0 : n0 ≤ h0.size) :
    MetFree l (⟨"java/lang/Number", "<init>", "()V"⟩ : MethodName) (head1 (Jvm.Cond.code (⟨"java/lang/Number", "<init>", "()V"⟩ : MethodName) jdk_18_method_1_code 1 none :: ws) ({ frames := 1, cells := 0, slots := 0, locals := 12 } : Room)) (fun a U => a = #[(.ref a1)] ∧ Z.Warmed39 U.vm ∧ U.heap = h0) (fun _ _ _ _ _ => True) (fun _ U o U' => ∃ v L, o = .returned v ∧ Q22 Z a1 h0 n0 v U'.heap L ∧ FrameEnd U o U' L ({ frames := 1, cells := 0, slots := 0, locals := 12 } : Room).cells ({ frames := 1, cells := 0, slots := 0, locals := 12 } : Room).slots) := by
  refine MetFree.of_bodySF pn_22 hisR ?_
  intro p e s m args below meth c s₁ Bd hml0 hP hK
  obtain ⟨rfl, hZ, hh⟩ := hP
  have hx := Bd.exec
  have hby := Bd.bytes
  have hml : c.maxLocals = 1 := hml0
  have hown : s.vm.findClass "java/lang/Number" = some m.cls := findClass_of_methodNamed Bd.named
  have hnm := (name_of_methodNamed Bd.named Bd.method).1
  have hlk : meth.locks = false := BodyLoose.notSynchronized Bd
  have X0 : Stand p l e ({ frames := 1, cells := 0, slots := 0, locals := 12 } : Room) s m #[(.ref a1)] below meth c s₁ [] 0 0 := Stand.of_body Bd
  have e0 : s₁.heap = h0 := by rw [← hh, Bd.state]; rfl
  have N0 := Fr.nil n0
  show Goes p e below (OwnK s (Q22 Z a1 h0 n0) ({ frames := 1, cells := 0, slots := 0, locals := 12 } : Room).cells ({ frames := 1, cells := 0, slots := 0, locals := 12 } : Room).slots) s₁ (entryFrame m #[(.ref a1)] 1)
  refine Goes.cast (ef_22 m a1) ?_
  generalize hKK : OwnK s (Q22 Z a1 h0 n0) ({ frames := 1, cells := 0, slots := 0, locals := 12 } : Room).cells ({ frames := 1, cells := 0, slots := 0, locals := 12 } : Room).slots = KK
  show Goes p e below KK s₁ (mkF m 0 #[.val (.ref a1)] [])
  have w_23 := hw _ (List.mem_of_getElem? (i := 23) rfl)
  have w_24 := hw _ (List.mem_of_getElem? (i := 24) rfl)
  have w_141 := hw _ (List.mem_of_getElem? (i := 141) rfl)
  refine Goes.of (fun t => XS.aloadN X0.here hx rfl (hb hby d22_0) rfl rfl) ?_
  show Goes p e below KK s₁ (mkF m 1 #[.val (.ref a1)] [(.ref a1)])
  obtain ⟨T2, X2, e2, st2⟩ := initO X0 hx hZ hown w_141 w_23 w_24 e0 (g := (mkF m 1 #[.val (.ref a1)] [(.ref a1)])) rfl (by rw [hml]; rfl) rfl (hb hby d22_1) (by decide) (W := 0) (by show 2 * 0 + _ ≤ _; exact Nat.le_of_eq rfl) (by decide)
  refine Goes.of (st2) ?_
  show Goes p e below KK T2 (mkF m 4 #[.val (.ref a1)] [])
  rw [← hKK]
  refine Goes.retVoid X2 hx hlk Bd.returns (hb hby d22_4) ?_ (by decide) (by decide)
  rw [e2]
  exact ⟨rfl, N0, rfl⟩
theorem d3_0 : decode jdk_39_method_1_code 0 = .ok (.aload_n 0, 1) := by decide +kernel
theorem d3_1 : decode jdk_39_method_1_code 1 = .ok (.invokespecial 1, 3) := by decide +kernel
theorem d3_4 : decode jdk_39_method_1_code 4 = .ok (.aload_n 0, 1) := by decide +kernel
theorem d3_5 : decode jdk_39_method_1_code 5 = .ok (.iconst 0, 1) := by decide +kernel
theorem d3_6 : decode jdk_39_method_1_code 6 = .ok (.putfield 7, 3) := by decide +kernel
theorem d3_9 : decode jdk_39_method_1_code 9 = .ok (.return_, 1) := by decide +kernel
theorem pn_3 : plainFor (⟨"java/util/AbstractList", "<init>", "()V"⟩ : MethodName) = true := plainFor_of_name (by first | (simp [plainName, overriddenIn]; done) | decide +kernel)
theorem pd_2 : parseMethodDescriptor "()V" = some ⟨[], none⟩ := by decide +kernel
theorem ef_3 (m : MethodId) (x0 : Addr) : entryFrame m #[(.ref x0)] 1 = mkF m 0 #[.val (.ref x0)] [] := by first | (simp [entryFrame, mkF, argsToLocals, Value.category]; done) | rfl
def Q3 (Z : State) (a1 : Addr) (h0 : Heap) (n0 : Nat) (v : Option Value) (h : Heap) (L : List Loc) : Prop := v = none ∧ Fr n0 L ∧ Keep h0 h [a1] ∧ Exa Z h a1 "corbel/structures/ArrayStack" ∧ Fld Z h a1 "corbel/structures/ArrayStack" "elements" "[Ljava/lang/Object;" .null ∧ Fld Z h a1 "corbel/structures/ArrayStack" "size" "I" (.int (0 : Int32)) ∧ Fld Z h a1 "java/util/AbstractList" "modCount" "I" (.int (0 : Int32))
set_option maxRecDepth 65536 in
set_option maxHeartbeats 40000000 in
theorem rm3 (l : Launch) (Z : State) (a0 : Array Value) (hw : ∀ d ∈ tables_1, d.before a0 Z = true) (ws : List Jvm.Cond) (a1 : Addr) (h0 : Heap) (n0 : Nat) (Z0 : n0 ≤ h0.size) (E : Exa Z h0 a1 "corbel/structures/ArrayStack") (F_elements : Fld Z h0 a1 "corbel/structures/ArrayStack" "elements" "[Ljava/lang/Object;" .null) (F_size : Fld Z h0 a1 "corbel/structures/ArrayStack" "size" "I" (.int (0 : Int32))) (F_modCount : Fld Z h0 a1 "java/util/AbstractList" "modCount" "I" (.int (0 : Int32))) (g_a1 : n0 ≤ a1) :
    MetFree l (⟨"java/util/AbstractList", "<init>", "()V"⟩ : MethodName) (head1 (Jvm.Cond.code (⟨"java/util/AbstractList", "<init>", "()V"⟩ : MethodName) jdk_39_method_1_code 1 none :: ws) ({ frames := 2, cells := 0, slots := 0, locals := 24 } : Room)) (fun a U => a = #[(.ref a1)] ∧ Z.Warmed39 U.vm ∧ U.heap = h0) (fun _ _ _ _ _ => True) (fun _ U o U' => ∃ v L, o = .returned v ∧ Q3 Z a1 h0 n0 v U'.heap L ∧ FrameEnd U o U' L ({ frames := 2, cells := 0, slots := 0, locals := 24 } : Room).cells ({ frames := 2, cells := 0, slots := 0, locals := 24 } : Room).slots) := by
  refine MetFree.of_bodySF pn_3 hisR ?_
  intro p e s m args below meth c s₁ Bd hml0 hP hK
  obtain ⟨rfl, hZ, hh⟩ := hP
  have hx := Bd.exec
  have hby := Bd.bytes
  have hml : c.maxLocals = 1 := hml0
  have hown : s.vm.findClass "java/util/AbstractList" = some m.cls := findClass_of_methodNamed Bd.named
  have hnm := (name_of_methodNamed Bd.named Bd.method).1
  have hlk : meth.locks = false := BodyLoose.notSynchronized Bd
  have X0 : Stand p l e ({ frames := 2, cells := 0, slots := 0, locals := 24 } : Room) s m #[(.ref a1)] below meth c s₁ [] 0 0 := Stand.of_body Bd
  have e0 : s₁.heap = h0 := by rw [← hh, Bd.state]; rfl
  have N0 := Fr.nil n0
  show Goes p e below (OwnK s (Q3 Z a1 h0 n0) ({ frames := 2, cells := 0, slots := 0, locals := 24 } : Room).cells ({ frames := 2, cells := 0, slots := 0, locals := 24 } : Room).slots) s₁ (entryFrame m #[(.ref a1)] 1)
  refine Goes.cast (ef_3 m a1) ?_
  generalize hKK : OwnK s (Q3 Z a1 h0 n0) ({ frames := 2, cells := 0, slots := 0, locals := 24 } : Room).cells ({ frames := 2, cells := 0, slots := 0, locals := 24 } : Room).slots = KK
  show Goes p e below KK s₁ (mkF m 0 #[.val (.ref a1)] [])
  have w_1 := hw _ (List.mem_of_getElem? (i := 1) rfl)
  have w_16 := hw _ (List.mem_of_getElem? (i := 16) rfl)
  have w_17 := hw _ (List.mem_of_getElem? (i := 17) rfl)
  have w_20 := hw _ (List.mem_of_getElem? (i := 20) rfl)
  have w_21 := hw _ (List.mem_of_getElem? (i := 21) rfl)
  have w_25 := hw _ (List.mem_of_getElem? (i := 25) rfl)
  have w_26 := hw _ (List.mem_of_getElem? (i := 26) rfl)
  have w_30 := hw _ (List.mem_of_getElem? (i := 30) rfl)
  have w_60 := hw _ (List.mem_of_getElem? (i := 60) rfl)
  refine Goes.of (fun t => XS.aloadN X0.here hx rfl (hb hby d3_0) rfl rfl) ?_
  show Goes p e below KK s₁ (mkF m 1 #[.val (.ref a1)] [(.ref a1)])
  obtain ⟨_, _, ⟨T3, L3, k3, n3⟩, -, X3, ⟨Lc3, hQ3, l3, y3, z3⟩, st3⟩ := X0.specialBack hx (y := (⟨"java/util/AbstractCollection", "<init>", "()V"⟩ : MethodName)) rfl hown (mvT hZ w_16) (mvT hZ w_17) (mvT hZ w_21) (by decide) (backOf (W := 0) (rm4 l Z a0 hw [] a1  h0 n0 Z0 ) hZ w_21 w_20 (by decide) (by decide)) (g := (mkF m 1 #[.val (.ref a1)] [(.ref a1)])) rfl (by rw [hml]; rfl) (Steps.refl _) (a := a1) (argsL := []) (rest := []) (lenOf pd_2 rfl) rfl (by show 2 * 0 + _ ≤ _; exact Nat.le_of_eq rfl) (hb hby d3_1) (fun _ _ => ⟨rfl, e0, (by decide : 0 + 0 ≤ _), (by decide : 0 + 0 ≤ _)⟩)
  dsimp only [Pt.U, Pt.locs, Pt.cells, Pt.slots] at X3 l3 y3 z3 st3 hQ3
  subst l3 y3 z3
  obtain ⟨rfl, N3q, e3⟩ := hQ3
  have N3 := Fr.app N0 N3q
  refine Goes.tr st3 ?_
  show Goes p e below KK T3 (mkF m 4 #[.val (.ref a1)] [])
  refine Goes.of (fun t => XS.aloadN X3.here hx rfl (hb hby d3_4) rfl rfl) ?_
  show Goes p e below KK T3 (mkF m 5 #[.val (.ref a1)] [(.ref a1)])
  refine Goes.of (fun t => XS.iconst X3.here hx rfl (hb hby d3_5)) ?_
  show Goes p e below KK T3 (mkF m 6 #[.val (.ref a1)] [(.int (0 : Int32)), (.ref a1)])
  obtain ⟨T4, h4, X4, e4, W4, st4⟩ := putF X3 hx hZ hown (host := "") (Or.inl w_25) Via.refl e3 F_modCount E (Or.inl w_26) w_1 (ty := .int) (by decide) rfl rfl (g := (mkF m 6 #[.val (.ref a1)] [(.int (0 : Int32)), (.ref a1)])) rfl rfl (hb hby d3_6)
  refine Goes.of (st4) ?_
  have E_4 : Exa Z h4 a1 "corbel/structures/ArrayStack" := E.wr W4
  have F_elements_4 : Fld Z h4 a1 "corbel/structures/ArrayStack" "elements" "[Ljava/lang/Object;" .null := F_elements.other W4 (Or.inr (slot_ne (Or.inl w_30) (Or.inl w_26) (by decide) (t := (.array (.object "java/lang/Object"))) (t' := .int) (by decide) (by decide)))
  have F_size_4 : Fld Z h4 a1 "corbel/structures/ArrayStack" "size" "I" (.int (0 : Int32)) := F_size.other W4 (Or.inr (slot_ne (Or.inl w_60) (Or.inl w_26) (by decide) (t := .int) (t' := .int) (by decide) (by decide)))
  have K4 : Keep h0 h4 [a1] := (Keep.refl h0 [a1]).wr W4 (Or.inl (List.mem_of_getElem? (i := 0) rfl))
  have Z4 : n0 ≤ h4.size := Nat.le_trans Z0 (Keep.of_wr W4).1
  have N4 := Fr.snoc X4 N3 g_a1
  have F_modCount_a1_4 : Fld Z h4 a1 "java/util/AbstractList" "modCount" "I" (.int (0 : Int32)) := F_modCount.same W4
  show Goes p e below KK T4 (mkF m 9 #[.val (.ref a1)] [])
  rw [← hKK]
  refine Goes.retVoid X4 hx hlk Bd.returns (hb hby d3_9) ?_ (by decide) (by decide)
  rw [e4]
  exact ⟨rfl, N4, K4, E_4, F_elements_4, F_size_4, F_modCount_a1_4⟩
theorem d2_0 : decode prog_15_method_1_code 0 = .ok (.aload_n 0, 1) := by decide +kernel
theorem d2_1 : decode prog_15_method_1_code 1 = .ok (.invokespecial 11, 3) := by decide +kernel
theorem d2_4 : decode prog_15_method_1_code 4 = .ok (.return_, 1) := by decide +kernel
theorem pn_2 : plainFor (⟨"corbel/structures/IndexedList", "<init>", "()V"⟩ : MethodName) = true := plainFor_of_name (by first | (simp [plainName, overriddenIn]; done) | decide +kernel)
theorem ef_2 (m : MethodId) (x0 : Addr) : entryFrame m #[(.ref x0)] 1 = mkF m 0 #[.val (.ref x0)] [] := by first | (simp [entryFrame, mkF, argsToLocals, Value.category]; done) | rfl
def Q2 (Z : State) (a1 : Addr) (h0 : Heap) (n0 : Nat) (v : Option Value) (h : Heap) (L : List Loc) : Prop := v = none ∧ Fr n0 L ∧ Keep h0 h [a1] ∧ Exa Z h a1 "corbel/structures/ArrayStack" ∧ Fld Z h a1 "corbel/structures/ArrayStack" "elements" "[Ljava/lang/Object;" .null ∧ Fld Z h a1 "corbel/structures/ArrayStack" "size" "I" (.int (0 : Int32)) ∧ Fld Z h a1 "java/util/AbstractList" "modCount" "I" (.int (0 : Int32))
set_option maxRecDepth 65536 in
set_option maxHeartbeats 40000000 in
theorem rm2 (l : Launch) (Z : State) (a0 : Array Value) (hw : ∀ d ∈ tables_1, d.before a0 Z = true) (ws : List Jvm.Cond) (a1 : Addr) (h0 : Heap) (n0 : Nat) (Z0 : n0 ≤ h0.size) (E : Exa Z h0 a1 "corbel/structures/ArrayStack") (F_elements : Fld Z h0 a1 "corbel/structures/ArrayStack" "elements" "[Ljava/lang/Object;" .null) (F_size : Fld Z h0 a1 "corbel/structures/ArrayStack" "size" "I" (.int (0 : Int32))) (F_modCount : Fld Z h0 a1 "java/util/AbstractList" "modCount" "I" (.int (0 : Int32))) (g_a1 : n0 ≤ a1) :
    MetFree l (⟨"corbel/structures/IndexedList", "<init>", "()V"⟩ : MethodName) (head1 (Jvm.Cond.code (⟨"corbel/structures/IndexedList", "<init>", "()V"⟩ : MethodName) prog_15_method_1_code 1 none :: ws) ({ frames := 3, cells := 0, slots := 0, locals := 36 } : Room)) (fun a U => a = #[(.ref a1)] ∧ Z.Warmed39 U.vm ∧ U.heap = h0) (fun _ _ _ _ _ => True) (fun _ U o U' => ∃ v L, o = .returned v ∧ Q2 Z a1 h0 n0 v U'.heap L ∧ FrameEnd U o U' L ({ frames := 3, cells := 0, slots := 0, locals := 36 } : Room).cells ({ frames := 3, cells := 0, slots := 0, locals := 36 } : Room).slots) := by
  refine MetFree.of_bodySF pn_2 hisR ?_
  intro p e s m args below meth c s₁ Bd hml0 hP hK
  obtain ⟨rfl, hZ, hh⟩ := hP
  have hx := Bd.exec
  have hby := Bd.bytes
  have hml : c.maxLocals = 1 := hml0
  have hown : s.vm.findClass "corbel/structures/IndexedList" = some m.cls := findClass_of_methodNamed Bd.named
  have hnm := (name_of_methodNamed Bd.named Bd.method).1
  have hlk : meth.locks = false := BodyLoose.notSynchronized Bd
  have X0 : Stand p l e ({ frames := 3, cells := 0, slots := 0, locals := 36 } : Room) s m #[(.ref a1)] below meth c s₁ [] 0 0 := Stand.of_body Bd
  have e0 : s₁.heap = h0 := by rw [← hh, Bd.state]; rfl
  have N0 := Fr.nil n0
  show Goes p e below (OwnK s (Q2 Z a1 h0 n0) ({ frames := 3, cells := 0, slots := 0, locals := 36 } : Room).cells ({ frames := 3, cells := 0, slots := 0, locals := 36 } : Room).slots) s₁ (entryFrame m #[(.ref a1)] 1)
  refine Goes.cast (ef_2 m a1) ?_
  generalize hKK : OwnK s (Q2 Z a1 h0 n0) ({ frames := 3, cells := 0, slots := 0, locals := 36 } : Room).cells ({ frames := 3, cells := 0, slots := 0, locals := 36 } : Room).slots = KK
  show Goes p e below KK s₁ (mkF m 0 #[.val (.ref a1)] [])
  have w_11 := hw _ (List.mem_of_getElem? (i := 11) rfl)
  have w_12 := hw _ (List.mem_of_getElem? (i := 12) rfl)
  have w_14 := hw _ (List.mem_of_getElem? (i := 14) rfl)
  have w_15 := hw _ (List.mem_of_getElem? (i := 15) rfl)
  refine Goes.of (fun t => XS.aloadN X0.here hx rfl (hb hby d2_0) rfl rfl) ?_
  show Goes p e below KK s₁ (mkF m 1 #[.val (.ref a1)] [(.ref a1)])
  obtain ⟨_, _, ⟨T5, L5, k5, n5⟩, -, X5, ⟨Lc5, hQ5, l5, y5, z5⟩, st5⟩ := X0.specialBack hx (y := (⟨"java/util/AbstractList", "<init>", "()V"⟩ : MethodName)) rfl hown (mvT hZ w_11) (mvT hZ w_12) (mvT hZ w_15) (by decide) (backOf (W := 0) (rm3 l Z a0 hw [] a1  h0 n0 Z0 E F_elements F_size F_modCount g_a1) hZ w_15 w_14 (by decide) (by decide)) (g := (mkF m 1 #[.val (.ref a1)] [(.ref a1)])) rfl (by rw [hml]; rfl) (Steps.refl _) (a := a1) (argsL := []) (rest := []) (lenOf pd_2 rfl) rfl (by show 2 * 0 + _ ≤ _; exact Nat.le_of_eq rfl) (hb hby d2_1) (fun _ _ => ⟨rfl, e0, (by decide : 0 + 0 ≤ _), (by decide : 0 + 0 ≤ _)⟩)
  dsimp only [Pt.U, Pt.locs, Pt.cells, Pt.slots] at X5 l5 y5 z5 st5 hQ5
  subst l5 y5 z5
  obtain ⟨rfl, N5q, Kc5, E5, Fe5, Fs5, Fm5⟩ := hQ5
  have N5 := Fr.app N0 N5q
  have E_5 : Exa Z T5.heap a1 "corbel/structures/ArrayStack" := E.keep Kc5
  have K5 : Keep h0 T5.heap [a1] := (Keep.refl h0 [a1]).trans Kc5 (allS (Or.inl (List.mem_of_getElem? (i := 0) rfl)) all0)
  have Z5 : n0 ≤ T5.heap.size := Nat.le_trans Z0 Kc5.1
  have e5 : T5.heap = T5.heap := rfl
  refine Goes.tr st5 ?_
  show Goes p e below KK T5 (mkF m 4 #[.val (.ref a1)] [])
  rw [← hKK]
  refine Goes.retVoid X5 hx hlk Bd.returns (hb hby d2_4) ?_ (by decide) (by decide)
  rw [e5]
  exact ⟨rfl, N5, K5, E5, Fe5, Fs5, Fm5⟩
theorem d1_0 : decode prog_1_method_1_code 0 = .ok (.aload_n 0, 1) := by decide +kernel
theorem d1_1 : decode prog_1_method_1_code 1 = .ok (.invokespecial 3, 3) := by decide +kernel
theorem d1_4 : decode prog_1_method_1_code 4 = .ok (.aload_n 0, 1) := by decide +kernel
theorem d1_5 : decode prog_1_method_1_code 5 = .ok (.iconst 1, 1) := by decide +kernel
theorem d1_6 : decode prog_1_method_1_code 6 = .ok (.anewarray 9, 3) := by decide +kernel
theorem d1_9 : decode prog_1_method_1_code 9 = .ok (.putfield 11, 3) := by decide +kernel
theorem d1_12 : decode prog_1_method_1_code 12 = .ok (.return_, 1) := by decide +kernel
theorem pn_1 : plainFor (⟨"corbel/structures/ArrayStack", "<init>", "()V"⟩ : MethodName) = true := plainFor_of_name (by first | (simp [plainName, overriddenIn]; done) | decide +kernel)
theorem ef_1 (m : MethodId) (x0 : Addr) : entryFrame m #[(.ref x0)] 1 = mkF m 0 #[.val (.ref x0)] [] := by first | (simp [entryFrame, mkF, argsToLocals, Value.category]; done) | rfl
def Q1 (Z : State) (a1 : Addr) (h0 : Heap) (n0 : Nat) (v : Option Value) (h : Heap) (L : List Loc) : Prop := ∃ b, v = none ∧ Fr n0 L ∧ Keep h0 h [a1] ∧ h0.size ≤ b ∧ AR Z h b [.null] ∧ Exa Z h a1 "corbel/structures/ArrayStack" ∧ Fld Z h a1 "corbel/structures/ArrayStack" "elements" "[Ljava/lang/Object;" (.ref b) ∧ Fld Z h a1 "corbel/structures/ArrayStack" "size" "I" (.int (0 : Int32)) ∧ Fld Z h a1 "java/util/AbstractList" "modCount" "I" (.int (0 : Int32))
set_option maxRecDepth 65536 in
set_option maxHeartbeats 40000000 in
theorem rm1 (l : Launch) (Z : State) (a0 : Array Value) (hw : ∀ d ∈ tables_1, d.before a0 Z = true) (ws : List Jvm.Cond) (a1 : Addr) (h0 : Heap) (n0 : Nat) (Z0 : n0 ≤ h0.size) (E : Exa Z h0 a1 "corbel/structures/ArrayStack") (F_elements : Fld Z h0 a1 "corbel/structures/ArrayStack" "elements" "[Ljava/lang/Object;" .null) (F_size : Fld Z h0 a1 "corbel/structures/ArrayStack" "size" "I" (.int (0 : Int32))) (F_modCount : Fld Z h0 a1 "java/util/AbstractList" "modCount" "I" (.int (0 : Int32))) (g_a1 : n0 ≤ a1) :
    MetFree l (⟨"corbel/structures/ArrayStack", "<init>", "()V"⟩ : MethodName) (head1 (Jvm.Cond.code (⟨"corbel/structures/ArrayStack", "<init>", "()V"⟩ : MethodName) prog_1_method_1_code 1 none :: ws) ({ frames := 4, cells := 1, slots := 1, locals := 48 } : Room)) (fun a U => a = #[(.ref a1)] ∧ Z.Warmed39 U.vm ∧ U.heap = h0) (fun _ _ _ _ _ => True) (fun _ U o U' => ∃ v L, o = .returned v ∧ Q1 Z a1 h0 n0 v U'.heap L ∧ FrameEnd U o U' L ({ frames := 4, cells := 1, slots := 1, locals := 48 } : Room).cells ({ frames := 4, cells := 1, slots := 1, locals := 48 } : Room).slots) := by
  refine MetFree.of_bodySF pn_1 hisR ?_
  intro p e s m args below meth c s₁ Bd hml0 hP hK
  obtain ⟨rfl, hZ, hh⟩ := hP
  have hx := Bd.exec
  have hby := Bd.bytes
  have hml : c.maxLocals = 1 := hml0
  have hown : s.vm.findClass "corbel/structures/ArrayStack" = some m.cls := findClass_of_methodNamed Bd.named
  have hnm := (name_of_methodNamed Bd.named Bd.method).1
  have hlk : meth.locks = false := BodyLoose.notSynchronized Bd
  have X0 : Stand p l e ({ frames := 4, cells := 1, slots := 1, locals := 48 } : Room) s m #[(.ref a1)] below meth c s₁ [] 0 0 := Stand.of_body Bd
  have e0 : s₁.heap = h0 := by rw [← hh, Bd.state]; rfl
  have N0 := Fr.nil n0
  show Goes p e below (OwnK s (Q1 Z a1 h0 n0) ({ frames := 4, cells := 1, slots := 1, locals := 48 } : Room).cells ({ frames := 4, cells := 1, slots := 1, locals := 48 } : Room).slots) s₁ (entryFrame m #[(.ref a1)] 1)
  refine Goes.cast (ef_1 m a1) ?_
  generalize hKK : OwnK s (Q1 Z a1 h0 n0) ({ frames := 4, cells := 1, slots := 1, locals := 48 } : Room).cells ({ frames := 4, cells := 1, slots := 1, locals := 48 } : Room).slots = KK
  show Goes p e below KK s₁ (mkF m 0 #[.val (.ref a1)] [])
  have w_1 := hw _ (List.mem_of_getElem? (i := 1) rfl)
  have w_6 := hw _ (List.mem_of_getElem? (i := 6) rfl)
  have w_7 := hw _ (List.mem_of_getElem? (i := 7) rfl)
  have w_9 := hw _ (List.mem_of_getElem? (i := 9) rfl)
  have w_10 := hw _ (List.mem_of_getElem? (i := 10) rfl)
  have w_26 := hw _ (List.mem_of_getElem? (i := 26) rfl)
  have w_27 := hw _ (List.mem_of_getElem? (i := 27) rfl)
  have w_28 := hw _ (List.mem_of_getElem? (i := 28) rfl)
  have w_29 := hw _ (List.mem_of_getElem? (i := 29) rfl)
  have w_30 := hw _ (List.mem_of_getElem? (i := 30) rfl)
  have w_60 := hw _ (List.mem_of_getElem? (i := 60) rfl)
  refine Goes.of (fun t => XS.aloadN X0.here hx rfl (hb hby d1_0) rfl rfl) ?_
  show Goes p e below KK s₁ (mkF m 1 #[.val (.ref a1)] [(.ref a1)])
  obtain ⟨_, _, ⟨T6, L6, k6, n6⟩, -, X6, ⟨Lc6, hQ6, l6, y6, z6⟩, st6⟩ := X0.specialBack hx (y := (⟨"corbel/structures/IndexedList", "<init>", "()V"⟩ : MethodName)) rfl hown (mvT hZ w_6) (mvT hZ w_7) (mvT hZ w_10) (by decide) (backOf (W := 0) (rm2 l Z a0 hw [] a1  h0 n0 Z0 E F_elements F_size F_modCount g_a1) hZ w_10 w_9 (by decide) (by decide)) (g := (mkF m 1 #[.val (.ref a1)] [(.ref a1)])) rfl (by rw [hml]; rfl) (Steps.refl _) (a := a1) (argsL := []) (rest := []) (lenOf pd_2 rfl) rfl (by show 2 * 0 + _ ≤ _; exact Nat.le_of_eq rfl) (hb hby d1_1) (fun _ _ => ⟨rfl, e0, (by decide : 0 + 0 ≤ _), (by decide : 0 + 0 ≤ _)⟩)
  dsimp only [Pt.U, Pt.locs, Pt.cells, Pt.slots] at X6 l6 y6 z6 st6 hQ6
  subst l6 y6 z6
  obtain ⟨rfl, N6q, Kc6, E6, Fe6, Fs6, Fm6⟩ := hQ6
  have N6 := Fr.app N0 N6q
  have E_6 : Exa Z T6.heap a1 "corbel/structures/ArrayStack" := E.keep Kc6
  have K6 : Keep h0 T6.heap [a1] := (Keep.refl h0 [a1]).trans Kc6 (allS (Or.inl (List.mem_of_getElem? (i := 0) rfl)) all0)
  have Z6 : n0 ≤ T6.heap.size := Nat.le_trans Z0 Kc6.1
  have e6 : T6.heap = T6.heap := rfl
  refine Goes.tr st6 ?_
  show Goes p e below KK T6 (mkF m 4 #[.val (.ref a1)] [])
  refine Goes.of (fun t => XS.aloadN X6.here hx rfl (hb hby d1_4) rfl rfl) ?_
  show Goes p e below KK T6 (mkF m 5 #[.val (.ref a1)] [(.ref a1)])
  refine Goes.of (fun t => XS.iconst X6.here hx rfl (hb hby d1_5)) ?_
  show Goes p e below KK T6 (mkF m 6 #[.val (.ref a1)] [(.int (1 : Int32)), (.ref a1)])
  obtain ⟨T7, h7, X7, e7, E7, A7, st7⟩ := AR.anewarray X6 hx hZ hown w_27 w_28 e6 (g := (mkF m 6 #[.val (.ref a1)] [(.int (1 : Int32)), (.ref a1)])) rfl (hb hby d1_6) (k := 1) rfl (rfl) (cap := 1) (by decide) (by decide) (by decide) (by decide)
  obtain ⟨b7, g7⟩ : ∃ z, z = T6.heap.size := ⟨_, rfl⟩
  rw [← g7] at A7 st7
  refine Goes.of (st7) ?_
  have ne_a1_b7 : a1 ≠ b7 := Nat.ne_of_lt (Nat.lt_of_lt_of_le E6.lt (Nat.le_of_eq g7.symm))
  have g_b7 : n0 ≤ b7 := Nat.le_trans Z6 (Nat.le_of_eq g7.symm)
  have sz_b7 : h0.size ≤ b7 := Nat.le_trans K6.1 (Nat.le_of_eq g7.symm)
  have E6_7 : Exa Z h7 a1 "corbel/structures/ArrayStack" := E6.ext E7
  have Fe6_7 : Fld Z h7 a1 "corbel/structures/ArrayStack" "elements" "[Ljava/lang/Object;" .null := Fe6.ext E7
  have Fs6_7 : Fld Z h7 a1 "corbel/structures/ArrayStack" "size" "I" (.int (0 : Int32)) := Fs6.ext E7
  have Fm6_7 : Fld Z h7 a1 "java/util/AbstractList" "modCount" "I" (.int (0 : Int32)) := Fm6.ext E7
  have K7 : Keep h0 h7 [a1] := K6.ext E7
  have Z7 : n0 ≤ h7.size := Nat.le_trans Z6 E7.1
  have A_b7 : AR Z h7 b7 [.null] := A7
  show Goes p e below KK T7 (mkF m 9 #[.val (.ref a1)] [(.ref b7), (.ref a1)])
  obtain ⟨T8, h8, X8, e8, W8, st8⟩ := putF X7 hx hZ hown (host := "") (Or.inl w_29) Via.refl e7 Fe6_7 E6_7 (Or.inl w_30) w_1 (ty := (.array (.object "java/lang/Object"))) (by decide) rfl rfl (g := (mkF m 9 #[.val (.ref a1)] [(.ref b7), (.ref a1)])) rfl rfl (hb hby d1_9)
  refine Goes.of (st8) ?_
  have E6_7_8 : Exa Z h8 a1 "corbel/structures/ArrayStack" := E6_7.wr W8
  have Fs6_7_8 : Fld Z h8 a1 "corbel/structures/ArrayStack" "size" "I" (.int (0 : Int32)) := Fs6_7.other W8 (Or.inr (slot_ne (Or.inl w_60) (Or.inl w_30) (by decide) (t := .int) (t' := (.array (.object "java/lang/Object"))) (by decide) (by decide)))
  have Fm6_7_8 : Fld Z h8 a1 "java/util/AbstractList" "modCount" "I" (.int (0 : Int32)) := Fm6_7.other W8 (Or.inr (slot_ne (Or.inl w_26) (Or.inl w_30) (by decide) (t := .int) (t' := (.array (.object "java/lang/Object"))) (by decide) (by decide)))
  have A_b7_8 : AR Z h8 b7 [.null] := A_b7.other W8 (Ne.symm ne_a1_b7)
  have K8 : Keep h0 h8 [a1] := K7.wr W8 (Or.inl (List.mem_of_getElem? (i := 0) rfl))
  have Z8 : n0 ≤ h8.size := Nat.le_trans Z7 (Keep.of_wr W8).1
  have N8 := Fr.snoc X8 N6 g_a1
  have F_elements_a1_8 : Fld Z h8 a1 "corbel/structures/ArrayStack" "elements" "[Ljava/lang/Object;" (.ref b7) := Fe6_7.same W8
  show Goes p e below KK T8 (mkF m 12 #[.val (.ref a1)] [])
  rw [← hKK]
  refine Goes.retVoid X8 hx hlk Bd.returns (hb hby d1_12) ?_ (by decide) (by decide)
  rw [e8]
  exact ⟨b7, rfl, N8, K8, sz_b7, A_b7_8, E6_7_8, F_elements_a1_8, Fs6_7_8, Fm6_7_8⟩
theorem d21_0 : decode jdk_33_method_23_code 0 = .ok (.aload_n 0, 1) := by decide +kernel
theorem d21_1 : decode jdk_33_method_23_code 1 = .ok (.invokespecial 202, 3) := by decide +kernel
theorem d21_4 : decode jdk_33_method_23_code 4 = .ok (.aload_n 0, 1) := by decide +kernel
theorem d21_5 : decode jdk_33_method_23_code 5 = .ok (.iload_n 1, 1) := by decide +kernel
theorem d21_6 : decode jdk_33_method_23_code 6 = .ok (.putfield 205, 3) := by decide +kernel
theorem d21_9 : decode jdk_33_method_23_code 9 = .ok (.return_, 1) := by decide +kernel
theorem pn_21 : plainFor (⟨"java/lang/Integer", "<init>", "(I)V"⟩ : MethodName) = true := plainFor_of_name (by first | (simp [plainName, overriddenIn]; done) | decide +kernel)
theorem ef_21 (m : MethodId) (x0 : Addr) (x1 : Int32) : entryFrame m #[(.ref x0), (.int x1)] 2 = mkF m 0 #[.val (.ref x0), .val (.int x1)] [] := by first | (simp [entryFrame, mkF, argsToLocals, Value.category]; done) | rfl
def Q21 (Z : State) (a1 : Addr) (p2 : Int32) (h0 : Heap) (n0 : Nat) (v : Option Value) (h : Heap) (L : List Loc) : Prop := v = none ∧ Fr n0 L ∧ Keep h0 h [a1] ∧ Exa Z h a1 "java/lang/Integer" ∧ Fld Z h a1 "java/lang/Integer" "value" "I" (.int p2)
set_option maxRecDepth 65536 in
set_option maxHeartbeats 40000000 in
theorem rm21 (l : Launch) (Z : State) (a0 : Array Value) (hw : ∀ d ∈ tables_1, d.before a0 Z = true) (ws : List Jvm.Cond) (a1 : Addr) (p2 : Int32) (h0 : Heap) (n0 : Nat) (Z0 : n0 ≤ h0.size) (E1 : Exa Z h0 a1 "java/lang/Integer") (F1 : Fld Z h0 a1 "java/lang/Integer" "value" "I" (.int (0 : Int32))) (g_a1 : n0 ≤ a1) :
    MetFree l (⟨"java/lang/Integer", "<init>", "(I)V"⟩ : MethodName) (head1 (Jvm.Cond.code (⟨"java/lang/Integer", "<init>", "(I)V"⟩ : MethodName) jdk_33_method_23_code 2 none :: ws) ({ frames := 2, cells := 0, slots := 0, locals := 24 } : Room)) (fun a U => a = #[(.ref a1), (.int p2)] ∧ Z.Warmed39 U.vm ∧ U.heap = h0) (fun _ _ _ _ _ => True) (fun _ U o U' => ∃ v L, o = .returned v ∧ Q21 Z a1 p2 h0 n0 v U'.heap L ∧ FrameEnd U o U' L ({ frames := 2, cells := 0, slots := 0, locals := 24 } : Room).cells ({ frames := 2, cells := 0, slots := 0, locals := 24 } : Room).slots) := by
  refine MetFree.of_bodySF pn_21 hisR ?_
  intro p e s m args below meth c s₁ Bd hml0 hP hK
  obtain ⟨rfl, hZ, hh⟩ := hP
  have hx := Bd.exec
  have hby := Bd.bytes
  have hml : c.maxLocals = 2 := hml0
  have hown : s.vm.findClass "java/lang/Integer" = some m.cls := findClass_of_methodNamed Bd.named
  have hnm := (name_of_methodNamed Bd.named Bd.method).1
  have hlk : meth.locks = false := BodyLoose.notSynchronized Bd
  have X0 : Stand p l e ({ frames := 2, cells := 0, slots := 0, locals := 24 } : Room) s m #[(.ref a1), (.int p2)] below meth c s₁ [] 0 0 := Stand.of_body Bd
  have e0 : s₁.heap = h0 := by rw [← hh, Bd.state]; rfl
  have N0 := Fr.nil n0
  show Goes p e below (OwnK s (Q21 Z a1 p2 h0 n0) ({ frames := 2, cells := 0, slots := 0, locals := 24 } : Room).cells ({ frames := 2, cells := 0, slots := 0, locals := 24 } : Room).slots) s₁ (entryFrame m #[(.ref a1), (.int p2)] 2)
  refine Goes.cast (ef_21 m a1 p2) ?_
  generalize hKK : OwnK s (Q21 Z a1 p2 h0 n0) ({ frames := 2, cells := 0, slots := 0, locals := 24 } : Room).cells ({ frames := 2, cells := 0, slots := 0, locals := 24 } : Room).slots = KK
  show Goes p e below KK s₁ (mkF m 0 #[.val (.ref a1), .val (.int p2)] [])
  have w_88 := hw _ (List.mem_of_getElem? (i := 88) rfl)
  have w_89 := hw _ (List.mem_of_getElem? (i := 89) rfl)
  have w_131 := hw _ (List.mem_of_getElem? (i := 131) rfl)
  have w_135 := hw _ (List.mem_of_getElem? (i := 135) rfl)
  have w_136 := hw _ (List.mem_of_getElem? (i := 136) rfl)
  have w_139 := hw _ (List.mem_of_getElem? (i := 139) rfl)
  have w_140 := hw _ (List.mem_of_getElem? (i := 140) rfl)
  refine Goes.of (fun t => XS.aloadN X0.here hx rfl (hb hby d21_0) rfl rfl) ?_
  show Goes p e below KK s₁ (mkF m 1 #[.val (.ref a1), .val (.int p2)] [(.ref a1)])
  obtain ⟨_, _, ⟨T9, L9, k9, n9⟩, -, X9, ⟨Lc9, hQ9, l9, y9, z9⟩, st9⟩ := X0.specialBack hx (y := (⟨"java/lang/Number", "<init>", "()V"⟩ : MethodName)) rfl hown (mvT hZ w_135) (mvT hZ w_136) (mvT hZ w_140) (by decide) (backOf (W := 0) (rm22 l Z a0 hw [] a1  h0 n0 Z0 ) hZ w_140 w_139 (by decide) (by decide)) (g := (mkF m 1 #[.val (.ref a1), .val (.int p2)] [(.ref a1)])) rfl (by rw [hml]; rfl) (Steps.refl _) (a := a1) (argsL := []) (rest := []) (lenOf pd_2 rfl) rfl (by show 2 * 0 + _ ≤ _; exact Nat.le_of_eq rfl) (hb hby d21_1) (fun _ _ => ⟨rfl, e0, (by decide : 0 + 0 ≤ _), (by decide : 0 + 0 ≤ _)⟩)
  dsimp only [Pt.U, Pt.locs, Pt.cells, Pt.slots] at X9 l9 y9 z9 st9 hQ9
  subst l9 y9 z9
  obtain ⟨rfl, N9q, e9⟩ := hQ9
  have N9 := Fr.app N0 N9q
  refine Goes.tr st9 ?_
  show Goes p e below KK T9 (mkF m 4 #[.val (.ref a1), .val (.int p2)] [])
  refine Goes.of (fun t => XS.aloadN X9.here hx rfl (hb hby d21_4) rfl rfl) ?_
  show Goes p e below KK T9 (mkF m 5 #[.val (.ref a1), .val (.int p2)] [(.ref a1)])
  refine Goes.of (fun t => XS.iloadN X9.here hx rfl (hb hby d21_5) rfl) ?_
  show Goes p e below KK T9 (mkF m 6 #[.val (.ref a1), .val (.int p2)] [(.int p2), (.ref a1)])
  obtain ⟨T10, h10, X10, e10, W10, st10⟩ := putF X9 hx hZ hown (host := "") (Or.inl w_88) Via.refl e9 F1 E1 (Or.inr ⟨w_89, rfl, hnm⟩) w_131 (ty := .int) (by decide) rfl rfl (g := (mkF m 6 #[.val (.ref a1), .val (.int p2)] [(.int p2), (.ref a1)])) rfl rfl (hb hby d21_6)
  refine Goes.of (st10) ?_
  have E1_10 : Exa Z h10 a1 "java/lang/Integer" := E1.wr W10
  have K10 : Keep h0 h10 [a1] := (Keep.refl h0 [a1]).wr W10 (Or.inl (List.mem_of_getElem? (i := 0) rfl))
  have Z10 : n0 ≤ h10.size := Nat.le_trans Z0 (Keep.of_wr W10).1
  have N10 := Fr.snoc X10 N9 g_a1
  have F_value_a1_10 : Fld Z h10 a1 "java/lang/Integer" "value" "I" (.int p2) := F1.same W10
  show Goes p e below KK T10 (mkF m 9 #[.val (.ref a1), .val (.int p2)] [])
  rw [← hKK]
  refine Goes.retVoid X10 hx hlk Bd.returns (hb hby d21_9) ?_ (by decide) (by decide)
  rw [e10]
  exact ⟨rfl, N10, K10, E1_10, F_value_a1_10⟩
theorem d6_0 : decode jdk_33_method_22_code 0 = .ok (.iload_n 0, 1) := by decide +kernel
theorem d6_1 : decode jdk_33_method_22_code 1 = .ok (.bipush (-128), 2) := by decide +kernel
theorem d6_3 : decode jdk_33_method_22_code 3 = .ok (.if_icmp .lt 20, 3) := by decide +kernel
theorem d6_6 : decode jdk_33_method_22_code 6 = .ok (.iload_n 0, 1) := by decide +kernel
theorem d6_7 : decode jdk_33_method_22_code 7 = .ok (.getstatic 191, 3) := by decide +kernel
theorem d6_10 : decode jdk_33_method_22_code 10 = .ok (.if_icmp .gt 13, 3) := by decide +kernel
theorem d6_13 : decode jdk_33_method_22_code 13 = .ok (.getstatic 195, 3) := by decide +kernel
theorem d6_16 : decode jdk_33_method_22_code 16 = .ok (.iload_n 0, 1) := by decide +kernel
theorem d6_17 : decode jdk_33_method_22_code 17 = .ok (.sipush 128, 3) := by decide +kernel
theorem d6_20 : decode jdk_33_method_22_code 20 = .ok (.iadd, 1) := by decide +kernel
theorem d6_21 : decode jdk_33_method_22_code 21 = .ok (.aaload, 1) := by decide +kernel
theorem d6_22 : decode jdk_33_method_22_code 22 = .ok (.areturn, 1) := by decide +kernel
theorem d6_23 : decode jdk_33_method_22_code 23 = .ok (.new 1, 3) := by decide +kernel
theorem d6_26 : decode jdk_33_method_22_code 26 = .ok (.dup, 1) := by decide +kernel
theorem d6_27 : decode jdk_33_method_22_code 27 = .ok (.iload_n 0, 1) := by decide +kernel
theorem d6_28 : decode jdk_33_method_22_code 28 = .ok (.invokespecial 199, 3) := by decide +kernel
theorem d6_31 : decode jdk_33_method_22_code 31 = .ok (.areturn, 1) := by decide +kernel
theorem pn_6 : plainFor (⟨"java/lang/Integer", "valueOf", "(I)Ljava/lang/Integer;"⟩ : MethodName) = true := plainFor_of_name (by first | (simp [plainName, overriddenIn]; done) | decide +kernel)
theorem pd_7 : parseMethodDescriptor "(I)V" = some ⟨[.int], none⟩ := by decide +kernel
theorem ef_6 (m : MethodId) (x0 : Int32) : entryFrame m #[(.int x0)] 1 = mkF m 0 #[.val (.int x0)] [] := by first | (simp [entryFrame, mkF, argsToLocals, Value.category]; done) | rfl
def Q6 (Z : State) (p1 : Int32) (ca : Addr) (cc : Cell) (h0 : Heap) (n0 : Nat) (v : Option Value) (h : Heap) (L : List Loc) : Prop := ∃ r, v = some (.ref r) ∧ Fr n0 L ∧ Keep h0 h [] ∧ Exa Z h r "java/lang/Integer" ∧ Fld Z h r "java/lang/Integer" "value" "I" (.int p1)
set_option maxRecDepth 65536 in
set_option maxHeartbeats 40000000 in
theorem rm6 (l : Launch) (Z : State) (a0 : Array Value) (hw : ∀ d ∈ tables_1, d.before a0 Z = true) (ws : List Jvm.Cond) (p1 : Int32) (ca : Addr) (cc : Cell) (h0 : Heap) (n0 : Nat) (Z0 : n0 ≤ h0.size) (Sh : Sta Z h0 "java/lang/Integer$IntegerCache" "high" "I" (.int (127 : Int32))) (Sc : Sta Z h0 "java/lang/Integer$IntegerCache" "cache" "[Ljava/lang/Integer;" (.ref ca)) (BX : Bxs Z ca cc "java/lang/Integer" "I" 256 (fun j => .int (j - 128))) (O0 : Old Z n0 h0) :
    MetFree l (⟨"java/lang/Integer", "valueOf", "(I)Ljava/lang/Integer;"⟩ : MethodName) (head1 (Jvm.Cond.code (⟨"java/lang/Integer", "valueOf", "(I)Ljava/lang/Integer;"⟩ : MethodName) jdk_33_method_22_code 1 (some (.object "java/lang/Integer")) :: ws) ({ frames := 3, cells := 1, slots := 1, locals := 38 } : Room)) (fun a U => a = #[(.int p1)] ∧ Z.Warmed39 U.vm ∧ U.heap = h0) (fun _ _ _ _ _ => True) (fun _ U o U' => ∃ v L, o = .returned v ∧ Q6 Z p1 ca cc h0 n0 v U'.heap L ∧ FrameEnd U o U' L ({ frames := 3, cells := 1, slots := 1, locals := 38 } : Room).cells ({ frames := 3, cells := 1, slots := 1, locals := 38 } : Room).slots) := by
  refine MetFree.of_bodySF pn_6 hisR ?_
  intro p e s m args below meth c s₁ Bd hml0 hP hK
  obtain ⟨rfl, hZ, hh⟩ := hP
  have hx := Bd.exec
  have hby := Bd.bytes
  have hml : c.maxLocals = 1 := hml0
  have hown : s.vm.findClass "java/lang/Integer" = some m.cls := findClass_of_methodNamed Bd.named
  have hnm := (name_of_methodNamed Bd.named Bd.method).1
  have hlk : meth.locks = false := BodyLoose.notSynchronized Bd
  have X0 : Stand p l e ({ frames := 3, cells := 1, slots := 1, locals := 38 } : Room) s m #[(.int p1)] below meth c s₁ [] 0 0 := Stand.of_body Bd
  have e0 : s₁.heap = h0 := by rw [← hh, Bd.state]; rfl
  have N0 := Fr.nil n0
  show Goes p e below (OwnK s (Q6 Z p1 ca cc h0 n0) ({ frames := 3, cells := 1, slots := 1, locals := 38 } : Room).cells ({ frames := 3, cells := 1, slots := 1, locals := 38 } : Room).slots) s₁ (entryFrame m #[(.int p1)] 1)
  refine Goes.cast (ef_6 m p1) ?_
  generalize hKK : OwnK s (Q6 Z p1 ca cc h0 n0) ({ frames := 3, cells := 1, slots := 1, locals := 38 } : Room).cells ({ frames := 3, cells := 1, slots := 1, locals := 38 } : Room).slots = KK
  show Goes p e below KK s₁ (mkF m 0 #[.val (.int p1)] [])
  have w_33 := hw _ (List.mem_of_getElem? (i := 33) rfl)
  have w_35 := hw _ (List.mem_of_getElem? (i := 35) rfl)
  have w_37 := hw _ (List.mem_of_getElem? (i := 37) rfl)
  have w_89 := hw _ (List.mem_of_getElem? (i := 89) rfl)
  have w_130 := hw _ (List.mem_of_getElem? (i := 130) rfl)
  have w_131 := hw _ (List.mem_of_getElem? (i := 131) rfl)
  have w_132 := hw _ (List.mem_of_getElem? (i := 132) rfl)
  have w_133 := hw _ (List.mem_of_getElem? (i := 133) rfl)
  have w_134 := hw _ (List.mem_of_getElem? (i := 134) rfl)
  refine Goes.of (fun t => XS.iloadN X0.here hx rfl (hb hby d6_0) rfl) ?_
  show Goes p e below KK s₁ (mkF m 1 #[.val (.int p1)] [(.int p1)])
  refine Goes.of (fun t => XS.bipush X0.here hx rfl (hb hby d6_1)) ?_
  show Goes p e below KK s₁ (mkF m 3 #[.val (.int p1)] [(.int (-128 : Int32)), (.int p1)])
  by_cases hc3 : p1 < (-128 : Int32)
  · refine Goes.of (fun t => XS.icmpYes X0.here hx rfl (pc0 := 3) (pc' := 23) rfl (hb hby d6_3) rfl (tlt hc3).1 (by decide) (by decide)) ?_
    show Goes p e below KK s₁ (mkF m 23 #[.val (.int p1)] [])
    obtain ⟨T11, h11, X11, e11, E11, A11, D11, -, st11⟩ := newO X0 hx hZ hown w_130 w_131 w_33 e0 (g := (mkF m 23 #[.val (.int p1)] [])) rfl (hb hby d6_23) (by decide) (by decide)
    obtain ⟨b11, g11⟩ : ∃ z, z = h0.size := ⟨_, rfl⟩
    rw [← g11] at A11 D11 st11
    refine Goes.of (st11) ?_
    have g_b11 : n0 ≤ b11 := Nat.le_trans Z0 (Nat.le_of_eq g11.symm)
    have sz_b11 : h0.size ≤ b11 := Nat.le_trans (Keep.refl h0 []).1 (Nat.le_of_eq g11.symm)
    have K11 : Keep h0 h11 [] := (Keep.refl h0 []).ext E11
    have Z11 : n0 ≤ h11.size := Nat.le_trans Z0 E11.1
    have F_value_b11 : Fld Z h11 b11 "java/lang/Integer" "value" "I" (.int (0 : Int32)) := D11 (Or.inr w_89) (ty := .int) (by decide)
    show Goes p e below KK T11 (mkF m 26 #[.val (.int p1)] [(.ref b11)])
    refine Goes.of (fun t => XS.dup X11.here hx rfl (hb hby d6_26) rfl rfl) ?_
    show Goes p e below KK T11 (mkF m 27 #[.val (.int p1)] [(.ref b11), (.ref b11)])
    refine Goes.of (fun t => XS.iloadN X11.here hx rfl (hb hby d6_27) rfl) ?_
    show Goes p e below KK T11 (mkF m 28 #[.val (.int p1)] [(.int p1), (.ref b11), (.ref b11)])
    obtain ⟨_, _, ⟨T12, L12, k12, n12⟩, -, X12, ⟨Lc12, hQ12, l12, y12, z12⟩, st12⟩ := X11.specialBack hx (y := (⟨"java/lang/Integer", "<init>", "(I)V"⟩ : MethodName)) rfl hown (mvT hZ w_132) (mvT hZ w_133) (mvT hZ w_134) (by decide) (backOf (W := 1) (rm21 l Z a0 hw [] b11 p1  h11 n0 Z11 A11 F_value_b11 g_b11) hZ w_134 w_33 (by decide) (by decide)) (g := (mkF m 28 #[.val (.int p1)] [(.int p1), (.ref b11), (.ref b11)])) rfl (by rw [hml]; rfl) (Steps.refl _) (a := b11) (argsL := [(.int p1)]) (rest := [(.ref b11)]) (lenOf pd_7 rfl) rfl (by show 2 * 0 + _ ≤ _; exact Nat.le_of_eq rfl) (hb hby d6_28) (fun _ _ => ⟨rfl, e11, (by decide : 1 + 0 ≤ _), (by decide : 1 + 0 ≤ _)⟩)
    dsimp only [Pt.U, Pt.locs, Pt.cells, Pt.slots] at X12 l12 y12 z12 st12 hQ12
    subst l12 y12 z12
    obtain ⟨rfl, N12q, Kc12, E12, F12⟩ := hQ12
    have N12 := Fr.app N0 N12q
    have A11_12 : Exa Z T12.heap b11 "java/lang/Integer" := A11.keep Kc12
    have K12 : Keep h0 T12.heap [] := K11.trans Kc12 (allS (Or.inr sz_b11) all0)
    have Z12 : n0 ≤ T12.heap.size := Nat.le_trans Z11 Kc12.1
    have e12 : T12.heap = T12.heap := rfl
    refine Goes.tr st12 ?_
    show Goes p e below KK T12 (mkF m 31 #[.val (.int p1)] [(.ref b11)])
    rw [← hKK]
    refine Goes.retRef X12 hx hlk rfl rfl Bd.returns (hb hby d6_31) ?_ (by decide) (by decide)
    rw [e12]
    exact ⟨b11, rfl, N12, K12, E12, F12⟩
  · refine Goes.of (fun t => XS.icmpNo X0.here hx rfl (hb hby d6_3) rfl (flt hc3).1) ?_
    show Goes p e below KK s₁ (mkF m 6 #[.val (.int p1)] [])
    refine Goes.of (fun t => XS.iloadN X0.here hx rfl (hb hby d6_6) rfl) ?_
    show Goes p e below KK s₁ (mkF m 7 #[.val (.int p1)] [(.int p1)])
    obtain ⟨T13, X13, e13, st13⟩ := getS2 X0 hx hZ hown (host := "") (Or.inl w_35) Via.refl e0 Sh (g := (mkF m 7 #[.val (.int p1)] [(.int p1)])) rfl (hb hby d6_7)
    refine Goes.of (st13) ?_
    show Goes p e below KK T13 (mkF m 10 #[.val (.int p1)] [(.int (127 : Int32)), (.int p1)])
    by_cases hc10 : (127 : Int32) < p1
    · refine Goes.of (fun t => XS.icmpYes X13.here hx rfl (pc0 := 10) (pc' := 23) rfl (hb hby d6_10) rfl (tlt hc10).2.2.1 (by decide) (by decide)) ?_
      show Goes p e below KK T13 (mkF m 23 #[.val (.int p1)] [])
      obtain ⟨T14, h14, X14, e14, E14, A14, D14, -, st14⟩ := newO X13 hx hZ hown w_130 w_131 w_33 e13 (g := (mkF m 23 #[.val (.int p1)] [])) rfl (hb hby d6_23) (by decide) (by decide)
      obtain ⟨b14, g14⟩ : ∃ z, z = h0.size := ⟨_, rfl⟩
      rw [← g14] at A14 D14 st14
      refine Goes.of (st14) ?_
      have g_b14 : n0 ≤ b14 := Nat.le_trans Z0 (Nat.le_of_eq g14.symm)
      have sz_b14 : h0.size ≤ b14 := Nat.le_trans (Keep.refl h0 []).1 (Nat.le_of_eq g14.symm)
      have K14 : Keep h0 h14 [] := (Keep.refl h0 []).ext E14
      have Z14 : n0 ≤ h14.size := Nat.le_trans Z0 E14.1
      have F_value_b14 : Fld Z h14 b14 "java/lang/Integer" "value" "I" (.int (0 : Int32)) := D14 (Or.inr w_89) (ty := .int) (by decide)
      show Goes p e below KK T14 (mkF m 26 #[.val (.int p1)] [(.ref b14)])
      refine Goes.of (fun t => XS.dup X14.here hx rfl (hb hby d6_26) rfl rfl) ?_
      show Goes p e below KK T14 (mkF m 27 #[.val (.int p1)] [(.ref b14), (.ref b14)])
      refine Goes.of (fun t => XS.iloadN X14.here hx rfl (hb hby d6_27) rfl) ?_
      show Goes p e below KK T14 (mkF m 28 #[.val (.int p1)] [(.int p1), (.ref b14), (.ref b14)])
      obtain ⟨_, _, ⟨T15, L15, k15, n15⟩, -, X15, ⟨Lc15, hQ15, l15, y15, z15⟩, st15⟩ := X14.specialBack hx (y := (⟨"java/lang/Integer", "<init>", "(I)V"⟩ : MethodName)) rfl hown (mvT hZ w_132) (mvT hZ w_133) (mvT hZ w_134) (by decide) (backOf (W := 1) (rm21 l Z a0 hw [] b14 p1  h14 n0 Z14 A14 F_value_b14 g_b14) hZ w_134 w_33 (by decide) (by decide)) (g := (mkF m 28 #[.val (.int p1)] [(.int p1), (.ref b14), (.ref b14)])) rfl (by rw [hml]; rfl) (Steps.refl _) (a := b14) (argsL := [(.int p1)]) (rest := [(.ref b14)]) (lenOf pd_7 rfl) rfl (by show 2 * 0 + _ ≤ _; exact Nat.le_of_eq rfl) (hb hby d6_28) (fun _ _ => ⟨rfl, e14, (by decide : 1 + 0 ≤ _), (by decide : 1 + 0 ≤ _)⟩)
      dsimp only [Pt.U, Pt.locs, Pt.cells, Pt.slots] at X15 l15 y15 z15 st15 hQ15
      subst l15 y15 z15
      obtain ⟨rfl, N15q, Kc15, E15, F15⟩ := hQ15
      have N15 := Fr.app N0 N15q
      have A14_15 : Exa Z T15.heap b14 "java/lang/Integer" := A14.keep Kc15
      have K15 : Keep h0 T15.heap [] := K14.trans Kc15 (allS (Or.inr sz_b14) all0)
      have Z15 : n0 ≤ T15.heap.size := Nat.le_trans Z14 Kc15.1
      have e15 : T15.heap = T15.heap := rfl
      refine Goes.tr st15 ?_
      show Goes p e below KK T15 (mkF m 31 #[.val (.int p1)] [(.ref b14)])
      rw [← hKK]
      refine Goes.retRef X15 hx hlk rfl rfl Bd.returns (hb hby d6_31) ?_ (by decide) (by decide)
      rw [e15]
      exact ⟨b14, rfl, N15, K15, E15, F15⟩
    · refine Goes.of (fun t => XS.icmpNo X13.here hx rfl (hb hby d6_10) rfl (flt hc10).2.2.1) ?_
      show Goes p e below KK T13 (mkF m 13 #[.val (.int p1)] [])
      obtain ⟨T16, X16, e16, st16⟩ := getS2 X13 hx hZ hown (host := "") (Or.inl w_37) Via.refl e13 Sc (g := (mkF m 13 #[.val (.int p1)] [])) rfl (hb hby d6_13)
      refine Goes.of (st16) ?_
      show Goes p e below KK T16 (mkF m 16 #[.val (.int p1)] [(.ref ca)])
      refine Goes.of (fun t => XS.iloadN X16.here hx rfl (hb hby d6_16) rfl) ?_
      show Goes p e below KK T16 (mkF m 17 #[.val (.int p1)] [(.int p1), (.ref ca)])
      refine Goes.of (fun t => XS.sipush X16.here hx rfl (hb hby d6_17)) ?_
      show Goes p e below KK T16 (mkF m 20 #[.val (.int p1)] [(.int (128 : Int32)), (.int p1), (.ref ca)])
      refine Goes.of (fun t => XS.iadd X16.here hx rfl (hb hby d6_20) rfl) ?_
      show Goes p e below KK T16 (mkF m 21 #[.val (.int p1)] [(.int (p1 + (128 : Int32))), (.ref ca)])
      have z1 : (128 : Int32).toInt = 128 := rfl
      have z2 : (-128 : Int32).toInt = -128 := rfl
      have z3 : (127 : Int32).toInt = 127 := rfl
      rw [Int32.lt_iff_toInt_lt] at hc3 hc10
      have hj : (p1 + (128 : Int32)).toInt = p1.toInt + 128 := by rw [Jvm.Kit.i32_add (by omega) (by omega), z1]
      have hin : ¬ ((p1 + (128 : Int32)) < 0 ∨ cc.slots.size ≤ (p1 + (128 : Int32)).toNatClampNeg) := by
        rw [BX.2.1, Int32.lt_iff_toInt_lt, hj]
        have q1 : (p1 + (128 : Int32)).toNatClampNeg = (p1.toInt + 128).toNat := by simp only [Int32.toNatClampNeg, hj]
        have q2 : (256 : Int32).toNatClampNeg = 256 := rfl
        have z0 : (0 : Int32).toInt = 0 := rfl
        omega
      obtain ⟨rb, hb1, hb2, hb3⟩ := BX.2.2.2 _ hin
      dsimp only at hb3
      rw [Int32.add_sub_cancel] at hb3
      refine Goes.of (X16.aaload hx (by rw [e16]; exact (BX.ext O0.2).1.1) (State.isArrayOf_alike hZ.alike BX.1.2.1) rfl BX.1.2.2 hin hb1 (g := (mkF m 21 #[.val (.int p1)] [(.int (p1 + (128 : Int32))), (.ref ca)])) rfl rfl (hb hby d6_21)) ?_
      show Goes p e below KK T16 (mkF m 22 #[.val (.int p1)] [(.ref rb)])
      rw [← hKK]
      refine Goes.retRef X16 hx hlk rfl rfl Bd.returns (hb hby d6_22) ?_ (by decide) (by decide)
      rw [e16]
      exact ⟨rb, rfl, N0, (Keep.refl h0 []), hb2.ext O0.2, hb3.ext O0.2⟩
theorem d14_0 : decode jdk_33_method_27_code 0 = .ok (.aload_n 0, 1) := by decide +kernel
theorem d14_1 : decode jdk_33_method_27_code 1 = .ok (.getfield 205, 3) := by decide +kernel
theorem d14_4 : decode jdk_33_method_27_code 4 = .ok (.ireturn, 1) := by decide +kernel
theorem pn_14 : plainFor (⟨"java/lang/Integer", "intValue", "()I"⟩ : MethodName) = true := plainFor_of_name (by first | (simp [plainName, overriddenIn]; done) | decide +kernel)
theorem ef_14 (m : MethodId) (x0 : Addr) : entryFrame m #[(.ref x0)] 1 = mkF m 0 #[.val (.ref x0)] [] := by first | (simp [entryFrame, mkF, argsToLocals, Value.category]; done) | rfl
def Q14 (Z : State) (a1 : Addr) (vv : Int32) (h0 : Heap) (n0 : Nat) (v : Option Value) (h : Heap) (L : List Loc) : Prop := v = some (.int vv) ∧ Fr n0 L ∧ h = h0
set_option maxRecDepth 65536 in
set_option maxHeartbeats 40000000 in
theorem rm14 (l : Launch) (Z : State) (a0 : Array Value) (hw : ∀ d ∈ tables_1, d.before a0 Z = true) (ws : List Jvm.Cond) (a1 : Addr) (vv : Int32) (h0 : Heap) (n0 : Nat) (Z0 : n0 ≤ h0.size) (F1 : Fld Z h0 a1 "java/lang/Integer" "value" "I" (.int vv)) :
    MetFree l (⟨"java/lang/Integer", "intValue", "()I"⟩ : MethodName) (head1 (Jvm.Cond.code (⟨"java/lang/Integer", "intValue", "()I"⟩ : MethodName) jdk_33_method_27_code 1 (some .int) :: ws) ({ frames := 0, cells := 0, slots := 0, locals := 0 } : Room)) (fun a U => a = #[(.ref a1)] ∧ Z.Warmed39 U.vm ∧ U.heap = h0) (fun _ _ _ _ _ => True) (fun _ U o U' => ∃ v L, o = .returned v ∧ Q14 Z a1 vv h0 n0 v U'.heap L ∧ FrameEnd U o U' L ({ frames := 0, cells := 0, slots := 0, locals := 0 } : Room).cells ({ frames := 0, cells := 0, slots := 0, locals := 0 } : Room).slots) := by
  refine MetFree.of_bodySF pn_14 hisR ?_
  intro p e s m args below meth c s₁ Bd hml0 hP hK
  obtain ⟨rfl, hZ, hh⟩ := hP
  have hx := Bd.exec
  have hby := Bd.bytes
  have hml : c.maxLocals = 1 := hml0
  have hown : s.vm.findClass "java/lang/Integer" = some m.cls := findClass_of_methodNamed Bd.named
  have hnm := (name_of_methodNamed Bd.named Bd.method).1
  have hlk : meth.locks = false := BodyLoose.notSynchronized Bd
  have X0 : Stand p l e ({ frames := 0, cells := 0, slots := 0, locals := 0 } : Room) s m #[(.ref a1)] below meth c s₁ [] 0 0 := Stand.of_body Bd
  have e0 : s₁.heap = h0 := by rw [← hh, Bd.state]; rfl
  have N0 := Fr.nil n0
  show Goes p e below (OwnK s (Q14 Z a1 vv h0 n0) ({ frames := 0, cells := 0, slots := 0, locals := 0 } : Room).cells ({ frames := 0, cells := 0, slots := 0, locals := 0 } : Room).slots) s₁ (entryFrame m #[(.ref a1)] 1)
  refine Goes.cast (ef_14 m a1) ?_
  generalize hKK : OwnK s (Q14 Z a1 vv h0 n0) ({ frames := 0, cells := 0, slots := 0, locals := 0 } : Room).cells ({ frames := 0, cells := 0, slots := 0, locals := 0 } : Room).slots = KK
  show Goes p e below KK s₁ (mkF m 0 #[.val (.ref a1)] [])
  have w_88 := hw _ (List.mem_of_getElem? (i := 88) rfl)
  refine Goes.of (fun t => XS.aloadN X0.here hx rfl (hb hby d14_0) rfl rfl) ?_
  show Goes p e below KK s₁ (mkF m 1 #[.val (.ref a1)] [(.ref a1)])
  obtain ⟨T17, X17, e17, st17⟩ := getF X0 hx hZ hown (host := "") (Or.inl w_88) Via.refl e0 F1 (g := (mkF m 1 #[.val (.ref a1)] [(.ref a1)])) rfl rfl (hb hby d14_1)
  refine Goes.of (st17) ?_
  show Goes p e below KK T17 (mkF m 4 #[.val (.ref a1)] [(.int vv)])
  rw [← hKK]
  refine Goes.retInt X17 hx hlk Bd.returns (hb hby d14_4) ?_ (by decide) (by decide)
  rw [e17]
  exact ⟨rfl, N0, rfl⟩
theorem d8_0 : decode jdk_31_method_11_code 0 = .ok (.aload_n 0, 1) := by decide +kernel
theorem d8_1 : decode jdk_31_method_11_code 1 = .ok (.ifnonnull 12, 3) := by decide +kernel
theorem d8_4 : decode jdk_31_method_11_code 4 = .ok (.new 84, 3) := by decide +kernel
theorem d8_7 : decode jdk_31_method_11_code 7 = .ok (.dup, 1) := by decide +kernel
theorem d8_8 : decode jdk_31_method_11_code 8 = .ok (.aload_n 1, 1) := by decide +kernel
theorem d8_9 : decode jdk_31_method_11_code 9 = .ok (.invokespecial 87, 3) := by decide +kernel
theorem d8_12 : decode jdk_31_method_11_code 12 = .ok (.athrow, 1) := by decide +kernel
theorem d8_13 : decode jdk_31_method_11_code 13 = .ok (.aload_n 0, 1) := by decide +kernel
theorem d8_14 : decode jdk_31_method_11_code 14 = .ok (.areturn, 1) := by decide +kernel
theorem pn_8 : plainFor (⟨"java/util/Objects", "requireNonNull", "(Ljava/lang/Object;Ljava/lang/String;)Ljava/lang/Object;"⟩ : MethodName) = true := plainFor_of_name (by first | (simp [plainName, overriddenIn]; done) | decide +kernel)
theorem ef_8 (m : MethodId) (x0 : Addr) (x1 : Addr) : entryFrame m #[(.ref x0), (.ref x1)] 2 = mkF m 0 #[.val (.ref x0), .val (.ref x1)] [] := by first | (simp [entryFrame, mkF, argsToLocals, Value.category]; done) | rfl
def Q8 (Z : State) (a1 : Addr) (a2 : Addr) (h0 : Heap) (n0 : Nat) (v : Option Value) (h : Heap) (L : List Loc) : Prop := v = some (.ref a1) ∧ Fr n0 L ∧ h = h0
set_option maxRecDepth 65536 in
set_option maxHeartbeats 40000000 in
theorem rm8 (l : Launch) (Z : State) (a0 : Array Value) (hw : ∀ d ∈ tables_1, d.before a0 Z = true) (ws : List Jvm.Cond) (a1 : Addr) (a2 : Addr) (h0 : Heap) (n0 : Nat) (Z0 : n0 ≤ h0.size) :
    MetFree l (⟨"java/util/Objects", "requireNonNull", "(Ljava/lang/Object;Ljava/lang/String;)Ljava/lang/Object;"⟩ : MethodName) (head1 (Jvm.Cond.code (⟨"java/util/Objects", "requireNonNull", "(Ljava/lang/Object;Ljava/lang/String;)Ljava/lang/Object;"⟩ : MethodName) jdk_31_method_11_code 2 (some (.object "java/lang/Object")) :: ws) ({ frames := 0, cells := 0, slots := 0, locals := 0 } : Room)) (fun a U => a = #[(.ref a1), (.ref a2)] ∧ Z.Warmed39 U.vm ∧ U.heap = h0) (fun _ _ _ _ _ => True) (fun _ U o U' => ∃ v L, o = .returned v ∧ Q8 Z a1 a2 h0 n0 v U'.heap L ∧ FrameEnd U o U' L ({ frames := 0, cells := 0, slots := 0, locals := 0 } : Room).cells ({ frames := 0, cells := 0, slots := 0, locals := 0 } : Room).slots) := by
  refine MetFree.of_bodySF pn_8 hisR ?_
  intro p e s m args below meth c s₁ Bd hml0 hP hK
  obtain ⟨rfl, hZ, hh⟩ := hP
  have hx := Bd.exec
  have hby := Bd.bytes
  have hml : c.maxLocals = 2 := hml0
  have hown : s.vm.findClass "java/util/Objects" = some m.cls := findClass_of_methodNamed Bd.named
  have hnm := (name_of_methodNamed Bd.named Bd.method).1
  have hlk : meth.locks = false := BodyLoose.notSynchronized Bd
  have X0 : Stand p l e ({ frames := 0, cells := 0, slots := 0, locals := 0 } : Room) s m #[(.ref a1), (.ref a2)] below meth c s₁ [] 0 0 := Stand.of_body Bd
  have e0 : s₁.heap = h0 := by rw [← hh, Bd.state]; rfl
  have N0 := Fr.nil n0
  show Goes p e below (OwnK s (Q8 Z a1 a2 h0 n0) ({ frames := 0, cells := 0, slots := 0, locals := 0 } : Room).cells ({ frames := 0, cells := 0, slots := 0, locals := 0 } : Room).slots) s₁ (entryFrame m #[(.ref a1), (.ref a2)] 2)
  refine Goes.cast (ef_8 m a1 a2) ?_
  generalize hKK : OwnK s (Q8 Z a1 a2 h0 n0) ({ frames := 0, cells := 0, slots := 0, locals := 0 } : Room).cells ({ frames := 0, cells := 0, slots := 0, locals := 0 } : Room).slots = KK
  show Goes p e below KK s₁ (mkF m 0 #[.val (.ref a1), .val (.ref a2)] [])
  refine Goes.of (fun t => XS.aloadN X0.here hx rfl (hb hby d8_0) rfl rfl) ?_
  show Goes p e below KK s₁ (mkF m 1 #[.val (.ref a1), .val (.ref a2)] [(.ref a1)])
  refine Goes.of (fun t => XS.ifnonnullYes X0.here hx rfl (pc0 := 1) (pc' := 13) rfl (hb hby d8_1) rfl (by decide) (by decide)) ?_
  show Goes p e below KK s₁ (mkF m 13 #[.val (.ref a1), .val (.ref a2)] [])
  refine Goes.of (fun t => XS.aloadN X0.here hx rfl (hb hby d8_13) rfl rfl) ?_
  show Goes p e below KK s₁ (mkF m 14 #[.val (.ref a1), .val (.ref a2)] [(.ref a1)])
  rw [← hKK]
  refine Goes.retRef X0 hx hlk rfl rfl Bd.returns (hb hby d8_14) ?_ (by decide) (by decide)
  rw [e0]
  exact ⟨rfl, N0, rfl⟩
theorem d12_0 : decode jdk_41_method_11_code 0 = .ok (.iload_n 0, 1) := by decide +kernel
theorem d12_1 : decode jdk_41_method_11_code 1 = .ok (.ifCond .lt 8, 3) := by decide +kernel
theorem d12_4 : decode jdk_41_method_11_code 4 = .ok (.iload_n 0, 1) := by decide +kernel
theorem d12_5 : decode jdk_41_method_11_code 5 = .ok (.iload_n 1, 1) := by decide +kernel
theorem d12_6 : decode jdk_41_method_11_code 6 = .ok (.if_icmp .lt 10, 3) := by decide +kernel
theorem d12_9 : decode jdk_41_method_11_code 9 = .ok (.aload_n 2, 1) := by decide +kernel
theorem d12_10 : decode jdk_41_method_11_code 10 = .ok (.iload_n 0, 1) := by decide +kernel
theorem d12_11 : decode jdk_41_method_11_code 11 = .ok (.iload_n 1, 1) := by decide +kernel
theorem d12_12 : decode jdk_41_method_11_code 12 = .ok (.invokestatic 95, 3) := by decide +kernel
theorem d12_15 : decode jdk_41_method_11_code 15 = .ok (.athrow, 1) := by decide +kernel
theorem d12_16 : decode jdk_41_method_11_code 16 = .ok (.iload_n 0, 1) := by decide +kernel
theorem d12_17 : decode jdk_41_method_11_code 17 = .ok (.ireturn, 1) := by decide +kernel
theorem pn_12 : plainFor (⟨"jdk/internal/util/Preconditions", "checkIndex", "(IILjava/util/function/BiFunction;)I"⟩ : MethodName) = true := plainFor_of_name (by first | (simp [plainName, overriddenIn]; done) | decide +kernel)
theorem ef_12 (m : MethodId) (x0 : Int32) (x1 : Int32) : entryFrame m #[(.int x0), (.int x1), .null] 3 = mkF m 0 #[.val (.int x0), .val (.int x1), .val .null] [] := by first | (simp [entryFrame, mkF, argsToLocals, Value.category]; done) | rfl
def Q12 (Z : State) (p1 : Int32) (p2 : Int32) (h0 : Heap) (n0 : Nat) (v : Option Value) (h : Heap) (L : List Loc) : Prop := v = some (.int p1) ∧ Fr n0 L ∧ h = h0
set_option maxRecDepth 65536 in
set_option maxHeartbeats 40000000 in
theorem rm12 (l : Launch) (Z : State) (a0 : Array Value) (hw : ∀ d ∈ tables_1, d.before a0 Z = true) (ws : List Jvm.Cond) (p1 : Int32) (p2 : Int32) (h0 : Heap) (n0 : Nat) (Z0 : n0 ≤ h0.size) (hp1 : ¬ p1 < 0) (hp2 : p1 < p2) :
    MetFree l (⟨"jdk/internal/util/Preconditions", "checkIndex", "(IILjava/util/function/BiFunction;)I"⟩ : MethodName) (head1 (Jvm.Cond.code (⟨"jdk/internal/util/Preconditions", "checkIndex", "(IILjava/util/function/BiFunction;)I"⟩ : MethodName) jdk_41_method_11_code 3 (some .int) :: ws) ({ frames := 0, cells := 0, slots := 0, locals := 0 } : Room)) (fun a U => a = #[(.int p1), (.int p2), .null] ∧ Z.Warmed39 U.vm ∧ U.heap = h0) (fun _ _ _ _ _ => True) (fun _ U o U' => ∃ v L, o = .returned v ∧ Q12 Z p1 p2 h0 n0 v U'.heap L ∧ FrameEnd U o U' L ({ frames := 0, cells := 0, slots := 0, locals := 0 } : Room).cells ({ frames := 0, cells := 0, slots := 0, locals := 0 } : Room).slots) := by
  refine MetFree.of_bodySF pn_12 hisR ?_
  intro p e s m args below meth c s₁ Bd hml0 hP hK
  obtain ⟨rfl, hZ, hh⟩ := hP
  have hx := Bd.exec
  have hby := Bd.bytes
  have hml : c.maxLocals = 3 := hml0
  have hown : s.vm.findClass "jdk/internal/util/Preconditions" = some m.cls := findClass_of_methodNamed Bd.named
  have hnm := (name_of_methodNamed Bd.named Bd.method).1
  have hlk : meth.locks = false := BodyLoose.notSynchronized Bd
  have X0 : Stand p l e ({ frames := 0, cells := 0, slots := 0, locals := 0 } : Room) s m #[(.int p1), (.int p2), .null] below meth c s₁ [] 0 0 := Stand.of_body Bd
  have e0 : s₁.heap = h0 := by rw [← hh, Bd.state]; rfl
  have N0 := Fr.nil n0
  show Goes p e below (OwnK s (Q12 Z p1 p2 h0 n0) ({ frames := 0, cells := 0, slots := 0, locals := 0 } : Room).cells ({ frames := 0, cells := 0, slots := 0, locals := 0 } : Room).slots) s₁ (entryFrame m #[(.int p1), (.int p2), .null] 3)
  refine Goes.cast (ef_12 m p1 p2) ?_
  generalize hKK : OwnK s (Q12 Z p1 p2 h0 n0) ({ frames := 0, cells := 0, slots := 0, locals := 0 } : Room).cells ({ frames := 0, cells := 0, slots := 0, locals := 0 } : Room).slots = KK
  show Goes p e below KK s₁ (mkF m 0 #[.val (.int p1), .val (.int p2), .val .null] [])
  refine Goes.of (fun t => XS.iloadN X0.here hx rfl (hb hby d12_0) rfl) ?_
  show Goes p e below KK s₁ (mkF m 1 #[.val (.int p1), .val (.int p2), .val .null] [(.int p1)])
  refine Goes.of (fun t => XS.ifNo X0.here hx rfl (hb hby d12_1) rfl ((if0 _ _).trans (flt (show ¬ (p1 < (0 : Int32)) from hp1)).1)) ?_
  show Goes p e below KK s₁ (mkF m 4 #[.val (.int p1), .val (.int p2), .val .null] [])
  refine Goes.of (fun t => XS.iloadN X0.here hx rfl (hb hby d12_4) rfl) ?_
  show Goes p e below KK s₁ (mkF m 5 #[.val (.int p1), .val (.int p2), .val .null] [(.int p1)])
  refine Goes.of (fun t => XS.iloadN X0.here hx rfl (hb hby d12_5) rfl) ?_
  show Goes p e below KK s₁ (mkF m 6 #[.val (.int p1), .val (.int p2), .val .null] [(.int p2), (.int p1)])
  refine Goes.of (fun t => XS.icmpYes X0.here hx rfl (pc0 := 6) (pc' := 16) rfl (hb hby d12_6) rfl (tlt (show p1 < p2 from hp2)).1 (by decide) (by decide)) ?_
  show Goes p e below KK s₁ (mkF m 16 #[.val (.int p1), .val (.int p2), .val .null] [])
  refine Goes.of (fun t => XS.iloadN X0.here hx rfl (hb hby d12_16) rfl) ?_
  show Goes p e below KK s₁ (mkF m 17 #[.val (.int p1), .val (.int p2), .val .null] [(.int p1)])
  rw [← hKK]
  refine Goes.retInt X0 hx hlk Bd.returns (hb hby d12_17) ?_ (by decide) (by decide)
  rw [e0]
  exact ⟨rfl, N0, rfl⟩
theorem d11_0 : decode jdk_31_method_17_code 0 = .ok (.iload_n 0, 1) := by decide +kernel
theorem d11_1 : decode jdk_31_method_17_code 1 = .ok (.iload_n 1, 1) := by decide +kernel
theorem d11_2 : decode jdk_31_method_17_code 2 = .ok (.aconst_null, 1) := by decide +kernel
theorem d11_3 : decode jdk_31_method_17_code 3 = .ok (.invokestatic 105, 3) := by decide +kernel
theorem d11_6 : decode jdk_31_method_17_code 6 = .ok (.ireturn, 1) := by decide +kernel
theorem pn_11 : plainFor (⟨"java/util/Objects", "checkIndex", "(II)I"⟩ : MethodName) = true := plainFor_of_name (by first | (simp [plainName, overriddenIn]; done) | decide +kernel)
theorem pd_12 : parseMethodDescriptor "(IILjava/util/function/BiFunction;)I" = some ⟨[.int, .int, (.object "java/util/function/BiFunction")], some .int⟩ := by decide +kernel
theorem ef_11 (m : MethodId) (x0 : Int32) (x1 : Int32) : entryFrame m #[(.int x0), (.int x1)] 2 = mkF m 0 #[.val (.int x0), .val (.int x1)] [] := by first | (simp [entryFrame, mkF, argsToLocals, Value.category]; done) | rfl
def Q11 (Z : State) (p1 : Int32) (p2 : Int32) (h0 : Heap) (n0 : Nat) (v : Option Value) (h : Heap) (L : List Loc) : Prop := v = some (.int p1) ∧ Fr n0 L ∧ h = h0
set_option maxRecDepth 65536 in
set_option maxHeartbeats 40000000 in
theorem rm11 (l : Launch) (Z : State) (a0 : Array Value) (hw : ∀ d ∈ tables_1, d.before a0 Z = true) (ws : List Jvm.Cond) (p1 : Int32) (p2 : Int32) (h0 : Heap) (n0 : Nat) (Z0 : n0 ≤ h0.size) (hp1 : ¬ p1 < 0) (hp2 : p1 < p2) :
    MetFree l (⟨"java/util/Objects", "checkIndex", "(II)I"⟩ : MethodName) (head1 (Jvm.Cond.code (⟨"java/util/Objects", "checkIndex", "(II)I"⟩ : MethodName) jdk_31_method_17_code 2 (some .int) :: ws) ({ frames := 1, cells := 0, slots := 0, locals := 14 } : Room)) (fun a U => a = #[(.int p1), (.int p2)] ∧ Z.Warmed39 U.vm ∧ U.heap = h0) (fun _ _ _ _ _ => True) (fun _ U o U' => ∃ v L, o = .returned v ∧ Q11 Z p1 p2 h0 n0 v U'.heap L ∧ FrameEnd U o U' L ({ frames := 1, cells := 0, slots := 0, locals := 14 } : Room).cells ({ frames := 1, cells := 0, slots := 0, locals := 14 } : Room).slots) := by
  refine MetFree.of_bodySF pn_11 hisR ?_
  intro p e s m args below meth c s₁ Bd hml0 hP hK
  obtain ⟨rfl, hZ, hh⟩ := hP
  have hx := Bd.exec
  have hby := Bd.bytes
  have hml : c.maxLocals = 2 := hml0
  have hown : s.vm.findClass "java/util/Objects" = some m.cls := findClass_of_methodNamed Bd.named
  have hnm := (name_of_methodNamed Bd.named Bd.method).1
  have hlk : meth.locks = false := BodyLoose.notSynchronized Bd
  have X0 : Stand p l e ({ frames := 1, cells := 0, slots := 0, locals := 14 } : Room) s m #[(.int p1), (.int p2)] below meth c s₁ [] 0 0 := Stand.of_body Bd
  have e0 : s₁.heap = h0 := by rw [← hh, Bd.state]; rfl
  have N0 := Fr.nil n0
  show Goes p e below (OwnK s (Q11 Z p1 p2 h0 n0) ({ frames := 1, cells := 0, slots := 0, locals := 14 } : Room).cells ({ frames := 1, cells := 0, slots := 0, locals := 14 } : Room).slots) s₁ (entryFrame m #[(.int p1), (.int p2)] 2)
  refine Goes.cast (ef_11 m p1 p2) ?_
  generalize hKK : OwnK s (Q11 Z p1 p2 h0 n0) ({ frames := 1, cells := 0, slots := 0, locals := 14 } : Room).cells ({ frames := 1, cells := 0, slots := 0, locals := 14 } : Room).slots = KK
  show Goes p e below KK s₁ (mkF m 0 #[.val (.int p1), .val (.int p2)] [])
  have w_73 := hw _ (List.mem_of_getElem? (i := 73) rfl)
  have w_74 := hw _ (List.mem_of_getElem? (i := 74) rfl)
  have w_75 := hw _ (List.mem_of_getElem? (i := 75) rfl)
  have w_76 := hw _ (List.mem_of_getElem? (i := 76) rfl)
  refine Goes.of (fun t => XS.iloadN X0.here hx rfl (hb hby d11_0) rfl) ?_
  show Goes p e below KK s₁ (mkF m 1 #[.val (.int p1), .val (.int p2)] [(.int p1)])
  refine Goes.of (fun t => XS.iloadN X0.here hx rfl (hb hby d11_1) rfl) ?_
  show Goes p e below KK s₁ (mkF m 2 #[.val (.int p1), .val (.int p2)] [(.int p2), (.int p1)])
  refine Goes.of (fun t => XS.aconstNull X0.here hx rfl (hb hby d11_2)) ?_
  show Goes p e below KK s₁ (mkF m 3 #[.val (.int p1), .val (.int p2)] [.null, (.int p2), (.int p1)])
  obtain ⟨_, _, ⟨T18, L18, k18, n18⟩, -, X18, ⟨Lc18, hQ18, l18, y18, z18⟩, st18⟩ := Jvm.LawKit.callS X0 hx (y := (⟨"jdk/internal/util/Preconditions", "checkIndex", "(IILjava/util/function/BiFunction;)I"⟩ : MethodName)) hown (mvT hZ w_73) (mvT hZ w_74) (mvT hZ w_75) (mvT hZ w_76) (by decide) (backOf (W := 0) (rm12 l Z a0 hw [] p1 p2  h0 n0 Z0 hp1 hp2) hZ w_76 w_75 (by decide) (by decide)) (g := (mkF m 3 #[.val (.int p1), .val (.int p2)] [.null, (.int p2), (.int p1)])) rfl (by rw [hml]; rfl) (argsL := [(.int p1), (.int p2), .null]) (rest := []) (lenOf pd_12 rfl) rfl (by show 2 * 0 + _ ≤ _; exact Nat.le_of_eq rfl) (hb hby d11_3) (fun _ _ => ⟨rfl, e0, (by decide : 0 + 0 ≤ _), (by decide : 0 + 0 ≤ _)⟩)
  dsimp only [Pt.U, Pt.locs, Pt.cells, Pt.slots] at X18 l18 y18 z18 st18 hQ18
  subst l18 y18 z18
  obtain ⟨rfl, N18q, e18⟩ := hQ18
  have N18 := Fr.app N0 N18q
  refine Goes.of st18 ?_
  show Goes p e below KK T18 (mkF m 6 #[.val (.int p1), .val (.int p2)] [(.int p1)])
  rw [← hKK]
  refine Goes.retInt X18 hx hlk Bd.returns (hb hby d11_6) ?_ (by decide) (by decide)
  rw [e18]
  exact ⟨rfl, N18, rfl⟩
theorem d13_0 : decode prog_1_method_15_code 0 = .ok (.aload_n 0, 1) := by decide +kernel
theorem d13_1 : decode prog_1_method_15_code 1 = .ok (.getfield 11, 3) := by decide +kernel
theorem d13_4 : decode prog_1_method_15_code 4 = .ok (.iload_n 1, 1) := by decide +kernel
theorem d13_5 : decode prog_1_method_15_code 5 = .ok (.aaload, 1) := by decide +kernel
theorem d13_6 : decode prog_1_method_15_code 6 = .ok (.areturn, 1) := by decide +kernel
theorem pn_13 : plainFor (⟨"corbel/structures/ArrayStack", "elementAt", "(I)Ljava/lang/Object;"⟩ : MethodName) = true := plainFor_of_name (by first | (simp [plainName, overriddenIn]; done) | decide +kernel)
theorem ef_13 (m : MethodId) (x0 : Addr) (x1 : Int32) : entryFrame m #[(.ref x0), (.int x1)] 2 = mkF m 0 #[.val (.ref x0), .val (.int x1)] [] := by first | (simp [entryFrame, mkF, argsToLocals, Value.category]; done) | rfl
def Q13 (Z : State) (a1 : Addr) (p2 : Int32) (ar : Addr) (vs : List Value) (i : Nat) (y : Addr) (h0 : Heap) (n0 : Nat) (v : Option Value) (h : Heap) (L : List Loc) : Prop := v = some (.ref y) ∧ Fr n0 L ∧ h = h0
set_option maxRecDepth 65536 in
set_option maxHeartbeats 40000000 in
theorem rm13 (l : Launch) (Z : State) (a0 : Array Value) (hw : ∀ d ∈ tables_1, d.before a0 Z = true) (ws : List Jvm.Cond) (a1 : Addr) (p2 : Int32) (ar : Addr) (vs : List Value) (i : Nat) (y : Addr) (h0 : Heap) (n0 : Nat) (Z0 : n0 ≤ h0.size) (F1_elements : Fld Z h0 a1 "corbel/structures/ArrayStack" "elements" "[Ljava/lang/Object;" (.ref ar)) (A1 : AR Z h0 ar vs) (hi : p2.toInt = (i : Int)) (hy : vs[i]? = some (.ref y)) :
    MetFree l (⟨"corbel/structures/ArrayStack", "elementAt", "(I)Ljava/lang/Object;"⟩ : MethodName) (head1 (Jvm.Cond.code (⟨"corbel/structures/ArrayStack", "elementAt", "(I)Ljava/lang/Object;"⟩ : MethodName) prog_1_method_15_code 2 (some (.object "java/lang/Object")) :: ws) ({ frames := 0, cells := 0, slots := 0, locals := 0 } : Room)) (fun a U => a = #[(.ref a1), (.int p2)] ∧ Z.Warmed39 U.vm ∧ U.heap = h0) (fun _ _ _ _ _ => True) (fun _ U o U' => ∃ v L, o = .returned v ∧ Q13 Z a1 p2 ar vs i y h0 n0 v U'.heap L ∧ FrameEnd U o U' L ({ frames := 0, cells := 0, slots := 0, locals := 0 } : Room).cells ({ frames := 0, cells := 0, slots := 0, locals := 0 } : Room).slots) := by
  refine MetFree.of_bodySF pn_13 hisR ?_
  intro p e s m args below meth c s₁ Bd hml0 hP hK
  obtain ⟨rfl, hZ, hh⟩ := hP
  have hx := Bd.exec
  have hby := Bd.bytes
  have hml : c.maxLocals = 2 := hml0
  have hown : s.vm.findClass "corbel/structures/ArrayStack" = some m.cls := findClass_of_methodNamed Bd.named
  have hnm := (name_of_methodNamed Bd.named Bd.method).1
  have hlk : meth.locks = false := BodyLoose.notSynchronized Bd
  have X0 : Stand p l e ({ frames := 0, cells := 0, slots := 0, locals := 0 } : Room) s m #[(.ref a1), (.int p2)] below meth c s₁ [] 0 0 := Stand.of_body Bd
  have e0 : s₁.heap = h0 := by rw [← hh, Bd.state]; rfl
  have N0 := Fr.nil n0
  show Goes p e below (OwnK s (Q13 Z a1 p2 ar vs i y h0 n0) ({ frames := 0, cells := 0, slots := 0, locals := 0 } : Room).cells ({ frames := 0, cells := 0, slots := 0, locals := 0 } : Room).slots) s₁ (entryFrame m #[(.ref a1), (.int p2)] 2)
  refine Goes.cast (ef_13 m a1 p2) ?_
  generalize hKK : OwnK s (Q13 Z a1 p2 ar vs i y h0 n0) ({ frames := 0, cells := 0, slots := 0, locals := 0 } : Room).cells ({ frames := 0, cells := 0, slots := 0, locals := 0 } : Room).slots = KK
  show Goes p e below KK s₁ (mkF m 0 #[.val (.ref a1), .val (.int p2)] [])
  have w_29 := hw _ (List.mem_of_getElem? (i := 29) rfl)
  refine Goes.of (fun t => XS.aloadN X0.here hx rfl (hb hby d13_0) rfl rfl) ?_
  show Goes p e below KK s₁ (mkF m 1 #[.val (.ref a1), .val (.int p2)] [(.ref a1)])
  obtain ⟨T19, X19, e19, st19⟩ := getF X0 hx hZ hown (host := "") (Or.inl w_29) Via.refl e0 F1_elements (g := (mkF m 1 #[.val (.ref a1), .val (.int p2)] [(.ref a1)])) rfl rfl (hb hby d13_1)
  refine Goes.of (st19) ?_
  show Goes p e below KK T19 (mkF m 4 #[.val (.ref a1), .val (.int p2)] [(.ref ar)])
  refine Goes.of (fun t => XS.iloadN X19.here hx rfl (hb hby d13_4) rfl) ?_
  show Goes p e below KK T19 (mkF m 5 #[.val (.ref a1), .val (.int p2)] [(.int p2), (.ref ar)])
  refine Goes.of (AR.aaload X19 hx hZ e19 A1 (i := i) (j := p2) (v := (.ref y)) (hi) (hy) (g := (mkF m 5 #[.val (.ref a1), .val (.int p2)] [(.int p2), (.ref ar)])) rfl rfl (hb hby d13_5)) ?_
  show Goes p e below KK T19 (mkF m 6 #[.val (.ref a1), .val (.int p2)] [(.ref y)])
  rw [← hKK]
  refine Goes.retRef X19 hx hlk rfl rfl Bd.returns (hb hby d13_6) ?_ (by decide) (by decide)
  rw [e19]
  exact ⟨rfl, N0, rfl⟩
theorem d10_0 : decode prog_1_method_6_code 0 = .ok (.iload_n 1, 1) := by decide +kernel
theorem d10_1 : decode prog_1_method_6_code 1 = .ok (.aload_n 0, 1) := by decide +kernel
theorem d10_2 : decode prog_1_method_6_code 2 = .ok (.getfield 21, 3) := by decide +kernel
theorem d10_5 : decode prog_1_method_6_code 5 = .ok (.invokestatic 36, 3) := by decide +kernel
theorem d10_8 : decode prog_1_method_6_code 8 = .ok (.pop, 1) := by decide +kernel
theorem d10_9 : decode prog_1_method_6_code 9 = .ok (.aload_n 0, 1) := by decide +kernel
theorem d10_10 : decode prog_1_method_6_code 10 = .ok (.iload_n 1, 1) := by decide +kernel
theorem d10_11 : decode prog_1_method_6_code 11 = .ok (.invokevirtual 42, 3) := by decide +kernel
theorem d10_14 : decode prog_1_method_6_code 14 = .ok (.areturn, 1) := by decide +kernel
theorem pn_10 : plainFor (⟨"corbel/structures/ArrayStack", "get", "(I)Ljava/lang/Object;"⟩ : MethodName) = true := plainFor_of_name (by first | (simp [plainName, overriddenIn]; done) | decide +kernel)
theorem pd_15 : parseMethodDescriptor "(II)I" = some ⟨[.int, .int], some .int⟩ := by decide +kernel
theorem pd_16 : parseMethodDescriptor "(I)Ljava/lang/Object;" = some ⟨[.int], some (.object "java/lang/Object")⟩ := by decide +kernel
theorem ef_10 (m : MethodId) (x0 : Addr) (x1 : Int32) : entryFrame m #[(.ref x0), (.int x1)] 2 = mkF m 0 #[.val (.ref x0), .val (.int x1)] [] := by first | (simp [entryFrame, mkF, argsToLocals, Value.category]; done) | rfl
def Q10 (Z : State) (a1 : Addr) (p2 : Int32) (ar : Addr) (vs : List Value) (i : Nat) (y : Addr) (sz : Int32) (h0 : Heap) (n0 : Nat) (v : Option Value) (h : Heap) (L : List Loc) : Prop := v = some (.ref y) ∧ Fr n0 L ∧ h = h0
set_option maxRecDepth 65536 in
set_option maxHeartbeats 40000000 in
theorem rm10 (l : Launch) (Z : State) (a0 : Array Value) (hw : ∀ d ∈ tables_1, d.before a0 Z = true) (ws : List Jvm.Cond) (a1 : Addr) (p2 : Int32) (ar : Addr) (vs : List Value) (i : Nat) (y : Addr) (sz : Int32) (h0 : Heap) (n0 : Nat) (Z0 : n0 ≤ h0.size) (E1 : Exa Z h0 a1 "corbel/structures/ArrayStack") (F1e : Fld Z h0 a1 "corbel/structures/ArrayStack" "elements" "[Ljava/lang/Object;" (.ref ar)) (F1s : Fld Z h0 a1 "corbel/structures/ArrayStack" "size" "I" (.int sz)) (A1 : AR Z h0 ar vs) (hp1 : ¬ p2 < 0) (hp2 : p2 < sz) (hi : p2.toInt = (i : Int)) (hy : vs[i]? = some (.ref y)) :
    MetFree l (⟨"corbel/structures/ArrayStack", "get", "(I)Ljava/lang/Object;"⟩ : MethodName) (head1 (Jvm.Cond.code (⟨"corbel/structures/ArrayStack", "get", "(I)Ljava/lang/Object;"⟩ : MethodName) prog_1_method_6_code 2 (some (.object "java/lang/Object")) :: ws) ({ frames := 2, cells := 0, slots := 0, locals := 27 } : Room)) (fun a U => a = #[(.ref a1), (.int p2)] ∧ Z.Warmed39 U.vm ∧ U.heap = h0) (fun _ _ _ _ _ => True) (fun _ U o U' => ∃ v L, o = .returned v ∧ Q10 Z a1 p2 ar vs i y sz h0 n0 v U'.heap L ∧ FrameEnd U o U' L ({ frames := 2, cells := 0, slots := 0, locals := 27 } : Room).cells ({ frames := 2, cells := 0, slots := 0, locals := 27 } : Room).slots) := by
  refine MetFree.of_bodySF pn_10 hisR ?_
  intro p e s m args below meth c s₁ Bd hml0 hP hK
  obtain ⟨rfl, hZ, hh⟩ := hP
  have hx := Bd.exec
  have hby := Bd.bytes
  have hml : c.maxLocals = 2 := hml0
  have hown : s.vm.findClass "corbel/structures/ArrayStack" = some m.cls := findClass_of_methodNamed Bd.named
  have hnm := (name_of_methodNamed Bd.named Bd.method).1
  have hlk : meth.locks = false := BodyLoose.notSynchronized Bd
  have X0 : Stand p l e ({ frames := 2, cells := 0, slots := 0, locals := 27 } : Room) s m #[(.ref a1), (.int p2)] below meth c s₁ [] 0 0 := Stand.of_body Bd
  have e0 : s₁.heap = h0 := by rw [← hh, Bd.state]; rfl
  have N0 := Fr.nil n0
  show Goes p e below (OwnK s (Q10 Z a1 p2 ar vs i y sz h0 n0) ({ frames := 2, cells := 0, slots := 0, locals := 27 } : Room).cells ({ frames := 2, cells := 0, slots := 0, locals := 27 } : Room).slots) s₁ (entryFrame m #[(.ref a1), (.int p2)] 2)
  refine Goes.cast (ef_10 m a1 p2) ?_
  generalize hKK : OwnK s (Q10 Z a1 p2 ar vs i y sz h0 n0) ({ frames := 2, cells := 0, slots := 0, locals := 27 } : Room).cells ({ frames := 2, cells := 0, slots := 0, locals := 27 } : Room).slots = KK
  show Goes p e below KK s₁ (mkF m 0 #[.val (.ref a1), .val (.int p2)] [])
  have w_1 := hw _ (List.mem_of_getElem? (i := 1) rfl)
  have w_2 := hw _ (List.mem_of_getElem? (i := 2) rfl)
  have w_53 := hw _ (List.mem_of_getElem? (i := 53) rfl)
  have w_59 := hw _ (List.mem_of_getElem? (i := 59) rfl)
  have w_70 := hw _ (List.mem_of_getElem? (i := 70) rfl)
  have w_71 := hw _ (List.mem_of_getElem? (i := 71) rfl)
  have w_72 := hw _ (List.mem_of_getElem? (i := 72) rfl)
  have w_77 := hw _ (List.mem_of_getElem? (i := 77) rfl)
  have w_78 := hw _ (List.mem_of_getElem? (i := 78) rfl)
  have w_79 := hw _ (List.mem_of_getElem? (i := 79) rfl)
  have w_80 := hw _ (List.mem_of_getElem? (i := 80) rfl)
  refine Goes.of (fun t => XS.iloadN X0.here hx rfl (hb hby d10_0) rfl) ?_
  show Goes p e below KK s₁ (mkF m 1 #[.val (.ref a1), .val (.int p2)] [(.int p2)])
  refine Goes.of (fun t => XS.aloadN X0.here hx rfl (hb hby d10_1) rfl rfl) ?_
  show Goes p e below KK s₁ (mkF m 2 #[.val (.ref a1), .val (.int p2)] [(.ref a1), (.int p2)])
  obtain ⟨T20, X20, e20, st20⟩ := getF X0 hx hZ hown (host := "") (Or.inl w_59) Via.refl e0 F1s (g := (mkF m 2 #[.val (.ref a1), .val (.int p2)] [(.ref a1), (.int p2)])) rfl rfl (hb hby d10_2)
  refine Goes.of (st20) ?_
  show Goes p e below KK T20 (mkF m 5 #[.val (.ref a1), .val (.int p2)] [(.int sz), (.int p2)])
  obtain ⟨_, _, ⟨T21, L21, k21, n21⟩, -, X21, ⟨Lc21, hQ21, l21, y21, z21⟩, st21⟩ := Jvm.LawKit.callS X20 hx (y := (⟨"java/util/Objects", "checkIndex", "(II)I"⟩ : MethodName)) hown (mvT hZ w_70) (mvT hZ w_71) (mvT hZ w_53) (mvT hZ w_72) (by decide) (backOf (W := 0) (rm11 l Z a0 hw [] p2 sz  h0 n0 Z0 hp1 hp2) hZ w_72 w_53 (by decide) (by decide)) (g := (mkF m 5 #[.val (.ref a1), .val (.int p2)] [(.int sz), (.int p2)])) rfl (by rw [hml]; rfl) (argsL := [(.int p2), (.int sz)]) (rest := []) (lenOf pd_15 rfl) rfl (by show 2 * 0 + _ ≤ _; exact Nat.le_of_eq rfl) (hb hby d10_5) (fun _ _ => ⟨rfl, e20, (by decide : 0 + 0 ≤ _), (by decide : 0 + 0 ≤ _)⟩)
  dsimp only [Pt.U, Pt.locs, Pt.cells, Pt.slots] at X21 l21 y21 z21 st21 hQ21
  subst l21 y21 z21
  obtain ⟨rfl, N21q, e21⟩ := hQ21
  have N21 := Fr.app N0 N21q
  refine Goes.of st21 ?_
  show Goes p e below KK T21 (mkF m 8 #[.val (.ref a1), .val (.int p2)] [(.int p2)])
  refine Goes.of (fun t => XT.pop X21.here hx rfl (hb hby d10_8) rfl rfl) ?_
  show Goes p e below KK T21 (mkF m 9 #[.val (.ref a1), .val (.int p2)] [])
  refine Goes.of (fun t => XS.aloadN X21.here hx rfl (hb hby d10_9) rfl rfl) ?_
  show Goes p e below KK T21 (mkF m 10 #[.val (.ref a1), .val (.int p2)] [(.ref a1)])
  refine Goes.of (fun t => XS.iloadN X21.here hx rfl (hb hby d10_10) rfl) ?_
  show Goes p e below KK T21 (mkF m 11 #[.val (.ref a1), .val (.int p2)] [(.int p2), (.ref a1)])
  obtain ⟨cq22, q22, q22'⟩ := E1.cell
  obtain ⟨_, _, ⟨T22, L22, k22, n22⟩, -, X22, ⟨Lc22, hQ22, l22, y22, z22⟩, st22⟩ := X21.privateBack hx (y := (⟨"corbel/structures/ArrayStack", "elementAt", "(I)Ljava/lang/Object;"⟩ : MethodName)) hown (mvT hZ w_77) (mvT hZ w_78) (own_selp hZ w_1 w_79 w_78 (by decide)) (Cond.privateMethod_at (mvP hZ w_79 (args := #[]))) (mvT hZ w_80) (by decide) (backOf (W := 0) (rm13 l Z a0 hw [] a1 p2 ar vs i y h0 n0 Z0 F1e A1 (hi) (hy)) hZ w_80 w_2 (by decide) (by decide)) (g := (mkF m 11 #[.val (.ref a1), .val (.int p2)] [(.int p2), (.ref a1)])) rfl (by rw [hml]; rfl) (Steps.refl _) (a := a1) (by rw [e21]; exact q22) q22' (argsL := [(.int p2)]) (rest := []) (lenOf pd_16 rfl) rfl (by show 2 * 0 + _ ≤ _; exact Nat.le_of_eq rfl) (hb hby d10_11) (fun _ _ => ⟨rfl, e21, (by decide : 0 + 0 ≤ _), (by decide : 0 + 0 ≤ _)⟩)
  dsimp only [Pt.U, Pt.locs, Pt.cells, Pt.slots] at X22 l22 y22 z22 st22 hQ22
  subst l22 y22 z22
  obtain ⟨rfl, N22q, e22⟩ := hQ22
  have N22 := Fr.app N21 N22q
  refine Goes.tr st22 ?_
  show Goes p e below KK T22 (mkF m 14 #[.val (.ref a1), .val (.int p2)] [(.ref y)])
  rw [← hKK]
  refine Goes.retRef X22 hx hlk rfl rfl Bd.returns (hb hby d10_14) ?_ (by decide) (by decide)
  rw [e22]
  exact ⟨rfl, N22, rfl⟩
def f17 (p1 : Int32) (p2 : Int32) : Int32 := if p2 < p1 then p2 else p1
theorem d17_0 : decode jdk_29_method_69_code 0 = .ok (.iload_n 0, 1) := by decide +kernel
theorem d17_1 : decode jdk_29_method_69_code 1 = .ok (.iload_n 1, 1) := by decide +kernel
theorem d17_2 : decode jdk_29_method_69_code 2 = .ok (.if_icmp .gt 7, 3) := by decide +kernel
theorem d17_5 : decode jdk_29_method_69_code 5 = .ok (.iload_n 0, 1) := by decide +kernel
theorem d17_6 : decode jdk_29_method_69_code 6 = .ok (.goto 4, 3) := by decide +kernel
theorem d17_9 : decode jdk_29_method_69_code 9 = .ok (.iload_n 1, 1) := by decide +kernel
theorem d17_10 : decode jdk_29_method_69_code 10 = .ok (.ireturn, 1) := by decide +kernel
theorem pn_17 : plainFor (⟨"java/lang/Math", "min", "(II)I"⟩ : MethodName) = true := Jvm.Free.JP.mathPlain rfl (by decide +kernel)
theorem ef_17 (m : MethodId) (x0 : Int32) (x1 : Int32) : entryFrame m #[(.int x0), (.int x1)] 2 = mkF m 0 #[.val (.int x0), .val (.int x1)] [] := by first | (simp [entryFrame, mkF, argsToLocals, Value.category]; done) | rfl
def Q17 (Z : State) (p1 : Int32) (p2 : Int32) (h0 : Heap) (n0 : Nat) (v : Option Value) (h : Heap) (L : List Loc) : Prop := v = some (.int (f17 p1 p2)) ∧ Fr n0 L ∧ h = h0
set_option maxRecDepth 65536 in
set_option maxHeartbeats 40000000 in
theorem rm17 (l : Launch) (Z : State) (a0 : Array Value) (hw : ∀ d ∈ tables_1, d.before a0 Z = true) (ws : List Jvm.Cond) (p1 : Int32) (p2 : Int32) (h0 : Heap) (n0 : Nat) (Z0 : n0 ≤ h0.size) :
    MetFree l (⟨"java/lang/Math", "min", "(II)I"⟩ : MethodName) (head1 (Jvm.Cond.code (⟨"java/lang/Math", "min", "(II)I"⟩ : MethodName) jdk_29_method_69_code 2 (some .int) :: ws) ({ frames := 0, cells := 0, slots := 0, locals := 0 } : Room)) (fun a U => a = #[(.int p1), (.int p2)] ∧ Z.Warmed39 U.vm ∧ U.heap = h0) (fun _ _ _ _ _ => True) (fun _ U o U' => ∃ v L, o = .returned v ∧ Q17 Z p1 p2 h0 n0 v U'.heap L ∧ FrameEnd U o U' L ({ frames := 0, cells := 0, slots := 0, locals := 0 } : Room).cells ({ frames := 0, cells := 0, slots := 0, locals := 0 } : Room).slots) := by
  refine MetFree.of_bodySF pn_17 hisR ?_
  intro p e s m args below meth c s₁ Bd hml0 hP hK
  obtain ⟨rfl, hZ, hh⟩ := hP
  have hx := Bd.exec
  have hby := Bd.bytes
  have hml : c.maxLocals = 2 := hml0
  have hown : s.vm.findClass "java/lang/Math" = some m.cls := findClass_of_methodNamed Bd.named
  have hnm := (name_of_methodNamed Bd.named Bd.method).1
  have hlk : meth.locks = false := BodyLoose.notSynchronized Bd
  have X0 : Stand p l e ({ frames := 0, cells := 0, slots := 0, locals := 0 } : Room) s m #[(.int p1), (.int p2)] below meth c s₁ [] 0 0 := Stand.of_body Bd
  have e0 : s₁.heap = h0 := by rw [← hh, Bd.state]; rfl
  have N0 := Fr.nil n0
  show Goes p e below (OwnK s (Q17 Z p1 p2 h0 n0) ({ frames := 0, cells := 0, slots := 0, locals := 0 } : Room).cells ({ frames := 0, cells := 0, slots := 0, locals := 0 } : Room).slots) s₁ (entryFrame m #[(.int p1), (.int p2)] 2)
  refine Goes.cast (ef_17 m p1 p2) ?_
  generalize hKK : OwnK s (Q17 Z p1 p2 h0 n0) ({ frames := 0, cells := 0, slots := 0, locals := 0 } : Room).cells ({ frames := 0, cells := 0, slots := 0, locals := 0 } : Room).slots = KK
  show Goes p e below KK s₁ (mkF m 0 #[.val (.int p1), .val (.int p2)] [])
  refine Goes.of (fun t => XS.iloadN X0.here hx rfl (hb hby d17_0) rfl) ?_
  show Goes p e below KK s₁ (mkF m 1 #[.val (.int p1), .val (.int p2)] [(.int p1)])
  refine Goes.of (fun t => XS.iloadN X0.here hx rfl (hb hby d17_1) rfl) ?_
  show Goes p e below KK s₁ (mkF m 2 #[.val (.int p1), .val (.int p2)] [(.int p2), (.int p1)])
  by_cases hc2 : p2 < p1
  · refine Goes.of (fun t => XS.icmpYes X0.here hx rfl (pc0 := 2) (pc' := 9) rfl (hb hby d17_2) rfl (tlt hc2).2.2.1 (by decide) (by decide)) ?_
    show Goes p e below KK s₁ (mkF m 9 #[.val (.int p1), .val (.int p2)] [])
    refine Goes.of (fun t => XS.iloadN X0.here hx rfl (hb hby d17_9) rfl) ?_
    show Goes p e below KK s₁ (mkF m 10 #[.val (.int p1), .val (.int p2)] [(.int p2)])
    rw [← hKK]
    refine Goes.retInt X0 hx hlk Bd.returns (hb hby d17_10) ?_ (by decide) (by decide)
    rw [e0]
    exact ⟨by unfold f17; rw [if_pos hc2] <;> rfl, N0, rfl⟩
  · refine Goes.of (fun t => XS.icmpNo X0.here hx rfl (hb hby d17_2) rfl (flt hc2).2.2.1) ?_
    show Goes p e below KK s₁ (mkF m 5 #[.val (.int p1), .val (.int p2)] [])
    refine Goes.of (fun t => XS.iloadN X0.here hx rfl (hb hby d17_5) rfl) ?_
    show Goes p e below KK s₁ (mkF m 6 #[.val (.int p1), .val (.int p2)] [(.int p1)])
    refine Goes.of (fun t => XS.goto X0.here hx rfl (pc0 := 6) (pc' := 10) rfl (hb hby d17_6) (by decide) (by decide)) ?_
    show Goes p e below KK s₁ (mkF m 10 #[.val (.int p1), .val (.int p2)] [(.int p1)])
    rw [← hKK]
    refine Goes.retInt X0 hx hlk Bd.returns (hb hby d17_10) ?_ (by decide) (by decide)
    rw [e0]
    exact ⟨by unfold f17; rw [if_neg hc2] <;> rfl, N0, rfl⟩
section OwnKitC
variable {p : Program} {l : Launch} {e : Env} {R : Room} {s : State} {m : MethodId} {args : Array Value} {below : List Frame} {meth : Method} {c : Code} {T : State} {locs : List Loc} {cells slots : Nat} {Z : State} {a0 : Array Value} {h : Heap} {a : Addr} {g : JFrame}
theorem own_gcls (X : Stand p l e R s m args below meth c T locs cells slots) (hx : p.tables.exec = Jvm.exec) (hZ : Z.Warmed39 s.vm) {own C : String} {index : Nat} (hown : s.vm.findClass own = some m.cls)
    (w1 : (Cond.methodLink own index ⟨"java/lang/Object", "getClass", "()Ljava/lang/Class;"⟩).before a0 Z = true) (w2 : (Cond.declares ⟨"java/lang/Object", "getClass", "()Ljava/lang/Class;"⟩).before a0 Z = true) (w4 : (Cond.selects C ⟨"java/lang/Object", "getClass", "()Ljava/lang/Class;"⟩ ⟨"java/lang/Object", "getClass", "()Ljava/lang/Class;"⟩).before a0 Z = true)
    (w5 : (Cond.instanceMethod ⟨"java/lang/Object", "getClass", "()Ljava/lang/Class;"⟩).before a0 Z = true) (w6 : (Cond.native ⟨"java/lang/Object", "getClass", "()Ljava/lang/Class;"⟩).before a0 Z = true) (eT : T.heap = h) (E : Exa Z h a C) {mr : Addr} (M : Mir Z C mr)
    (hg : g.method = m) (hsize : g.locals.size = c.maxLocals) {rest : List Value} (hs : g.stack = .ref a :: rest) (hd : decode c.code g.pc = .ok (.invokevirtual index, 3)) (hf : 1 ≤ R.frames) {W : Nat} (hW : 2 * g.monitorRoom + (rest.map fun v => v.category).sum ≤ W) (hl : W + (nativeFrameWords "java/lang/Object" "getClass" 1 + 11) ≤ R.locals) :
    ∃ T', Stand p l e R s m args below meth c T' locs cells slots ∧ T'.heap = h ∧ ∀ target, Steps p.tables e below (T'.setTop { g with pc := g.pc + 3, stack := .ref mr :: rest }) target → Steps p.tables e below (T.setTop g) target := by
  obtain ⟨cB, kB, i1, i2, i3⟩ := isOf hZ eT E
  obtain ⟨cc, kc, m1, m2, m3, -⟩ := M
  rw [hZ.alike.findClass] at i1
  cases i1.symm.trans m1
  obtain ⟨k', q, ek⟩ := hZ.alike.2.2 _ _ m2
  obtain ⟨vm', X', st⟩ := X.getClassOf hx hown (mvT hZ w1) (mvT hZ w2) (notFace_of_selects (args := #[]) (mvT hZ w4)) (mvT hZ w4) (mvT hZ w5) (mvT hZ w6) (by rw [hZ.alike.findClass]; exact m1) i3 q (by rw [ek]; exact m3) hg hsize hs hd hf (by omega)
  exact ⟨_, X', eT, st⟩
theorem own_ldcC (X : Stand p l e R s m args below meth c T locs cells slots) (hx : p.tables.exec = Jvm.exec) (hZ : Z.Warmed39 s.vm) {own C : String} {index : Nat} (hown : s.vm.findClass own = some m.cls) (w1 : (Cond.classLink own index C).before a0 Z = true) (eT : T.heap = h) {mr : Addr} (M : Mir Z C mr)
    (hg : g.method = m) (hd : decode c.code g.pc = .ok (.ldc index, 2)) :
    ∃ T', Stand p l e R s m args below meth c T' locs cells slots ∧ T'.heap = h ∧ ∀ target, Steps p.tables e below (T'.setTop { g with pc := g.pc + 2, stack := .ref mr :: g.stack }) target → Steps p.tables e below (T.setTop g) target := by
  obtain ⟨cc, kc, m1, m2, m3, -⟩ := M
  obtain ⟨k', q, ek⟩ := hZ.alike.2.2 _ _ m2
  have f1 : s.vm.findClass C = some cc := by rw [hZ.alike.findClass]; exact m1
  have f2 : k'.mirror = some mr := by rw [ek]; exact m3
  have hev : (Term.mirror C).eval args s none [] s = some (.ref mr) := by simp [Term.eval, f1, q, f2]
  obtain ⟨vm', X', st⟩ := X.ldcMirror hx hown (mvT hZ w1) hev hg hd
  exact ⟨_, X', eT, st⟩
end OwnKitC
theorem d16_0 : decode jdk_65_method_120_code 0 = .ok (.aload_n 2, 1) := by decide +kernel
theorem d16_1 : decode jdk_65_method_120_code 1 = .ok (.ldc 110, 2) := by decide +kernel
theorem d16_3 : decode jdk_65_method_120_code 3 = .ok (.if_acmp .ne 10, 3) := by decide +kernel
theorem d16_6 : decode jdk_65_method_120_code 6 = .ok (.iload_n 1, 1) := by decide +kernel
theorem d16_7 : decode jdk_65_method_120_code 7 = .ok (.anewarray 2, 3) := by decide +kernel
theorem d16_10 : decode jdk_65_method_120_code 10 = .ok (.goto 14, 3) := by decide +kernel
theorem d16_13 : decode jdk_65_method_120_code 13 = .ok (.aload_n 2, 1) := by decide +kernel
theorem d16_14 : decode jdk_65_method_120_code 14 = .ok (.invokevirtual 90, 3) := by decide +kernel
theorem d16_17 : decode jdk_65_method_120_code 17 = .ok (.iload_n 1, 1) := by decide +kernel
theorem d16_18 : decode jdk_65_method_120_code 18 = .ok (.invokestatic 95, 3) := by decide +kernel
theorem d16_21 : decode jdk_65_method_120_code 21 = .ok (.checkcast 110, 3) := by decide +kernel
theorem d16_24 : decode jdk_65_method_120_code 24 = .ok (.astore_n 3, 1) := by decide +kernel
theorem d16_25 : decode jdk_65_method_120_code 25 = .ok (.aload_n 0, 1) := by decide +kernel
theorem d16_26 : decode jdk_65_method_120_code 26 = .ok (.iconst 0, 1) := by decide +kernel
theorem d16_27 : decode jdk_65_method_120_code 27 = .ok (.aload_n 3, 1) := by decide +kernel
theorem d16_28 : decode jdk_65_method_120_code 28 = .ok (.iconst 0, 1) := by decide +kernel
theorem d16_29 : decode jdk_65_method_120_code 29 = .ok (.aload_n 0, 1) := by decide +kernel
theorem d16_30 : decode jdk_65_method_120_code 30 = .ok (.arraylength, 1) := by decide +kernel
theorem d16_31 : decode jdk_65_method_120_code 31 = .ok (.iload_n 1, 1) := by decide +kernel
theorem d16_32 : decode jdk_65_method_120_code 32 = .ok (.invokestatic 304, 3) := by decide +kernel
theorem d16_35 : decode jdk_65_method_120_code 35 = .ok (.invokestatic 150, 3) := by decide +kernel
theorem d16_38 : decode jdk_65_method_120_code 38 = .ok (.aload_n 3, 1) := by decide +kernel
theorem d16_39 : decode jdk_65_method_120_code 39 = .ok (.areturn, 1) := by decide +kernel
theorem pn_16 : plainFor (⟨"java/util/Arrays", "copyOf", "([Ljava/lang/Object;ILjava/lang/Class;)[Ljava/lang/Object;"⟩ : MethodName) = true := plainFor_of_name (by first | (simp [plainName, overriddenIn]; done) | decide +kernel)
theorem ef_16k1 (m : MethodId) (x0 : Addr) (x1 : Int32) (x2 : Addr) : entryFrame m #[(.ref x0), (.int x1), (.ref x2)] 4 = mkF m 0 #[.val (.ref x0), .val (.int x1), .val (.ref x2), .unset] [] := by first | (simp [entryFrame, mkF, argsToLocals, Value.category]; done) | rfl
def Q16k1 (Z : State) (a1 : Addr) (mr : Addr) (y0 : Addr) (h0 : Heap) (n0 : Nat) (v : Option Value) (h : Heap) (L : List Loc) : Prop := ∃ b, v = some (.ref b) ∧ Fr n0 L ∧ Keep h0 h [] ∧ h0.size ≤ b ∧ AR Z h b [(.ref y0), .null]
set_option maxRecDepth 65536 in
set_option maxHeartbeats 40000000 in
theorem rm16k1 (l : Launch) (Z : State) (a0 : Array Value) (hw : ∀ d ∈ tables_1, d.before a0 Z = true) (ws : List Jvm.Cond) (a1 : Addr) (mr : Addr) (y0 : Addr) (h0 : Heap) (n0 : Nat) (Z0 : n0 ≤ h0.size) (A1 : AR Z h0 a1 [(.ref y0)]) (Ey_y0 : Exa Z h0 y0 "java/lang/Integer") (M0 : Mir Z "[Ljava/lang/Object;" mr) :
    MetFree l (⟨"java/util/Arrays", "copyOf", "([Ljava/lang/Object;ILjava/lang/Class;)[Ljava/lang/Object;"⟩ : MethodName) (head1 (Jvm.Cond.code (⟨"java/util/Arrays", "copyOf", "([Ljava/lang/Object;ILjava/lang/Class;)[Ljava/lang/Object;"⟩ : MethodName) jdk_65_method_120_code 4 (some (.array (.object "java/lang/Object"))) :: ws) ({ frames := 1, cells := 1, slots := 2, locals := 40 } : Room)) (fun a U => a = #[(.ref a1), (.int (2 : Int32)), (.ref mr)] ∧ Z.Warmed39 U.vm ∧ U.heap = h0) (fun _ _ _ _ _ => True) (fun _ U o U' => ∃ v L, o = .returned v ∧ Q16k1 Z a1 mr y0 h0 n0 v U'.heap L ∧ FrameEnd U o U' L ({ frames := 1, cells := 1, slots := 2, locals := 40 } : Room).cells ({ frames := 1, cells := 1, slots := 2, locals := 40 } : Room).slots) := by
  refine MetFree.of_bodySF pn_16 hisR ?_
  intro p e s m args below meth c s₁ Bd hml0 hP hK
  obtain ⟨rfl, hZ, hh⟩ := hP
  have hx := Bd.exec
  have hby := Bd.bytes
  have hml : c.maxLocals = 4 := hml0
  have hown : s.vm.findClass "java/util/Arrays" = some m.cls := findClass_of_methodNamed Bd.named
  have hnm := (name_of_methodNamed Bd.named Bd.method).1
  have hlk : meth.locks = false := BodyLoose.notSynchronized Bd
  have X0 : Stand p l e ({ frames := 1, cells := 1, slots := 2, locals := 40 } : Room) s m #[(.ref a1), (.int (2 : Int32)), (.ref mr)] below meth c s₁ [] 0 0 := Stand.of_body Bd
  have e0 : s₁.heap = h0 := by rw [← hh, Bd.state]; rfl
  have N0 := Fr.nil n0
  show Goes p e below (OwnK s (Q16k1 Z a1 mr y0 h0 n0) ({ frames := 1, cells := 1, slots := 2, locals := 40 } : Room).cells ({ frames := 1, cells := 1, slots := 2, locals := 40 } : Room).slots) s₁ (entryFrame m #[(.ref a1), (.int (2 : Int32)), (.ref mr)] 4)
  refine Goes.cast (ef_16k1 m a1 (2 : Int32) mr) ?_
  generalize hKK : OwnK s (Q16k1 Z a1 mr y0 h0 n0) ({ frames := 1, cells := 1, slots := 2, locals := 40 } : Room).cells ({ frames := 1, cells := 1, slots := 2, locals := 40 } : Room).slots = KK
  show Goes p e below KK s₁ (mkF m 0 #[.val (.ref a1), .val (.int (2 : Int32)), .val (.ref mr), .unset] [])
  have w_28 := hw _ (List.mem_of_getElem? (i := 28) rfl)
  have w_61 := hw _ (List.mem_of_getElem? (i := 61) rfl)
  have w_105 := hw _ (List.mem_of_getElem? (i := 105) rfl)
  have w_106 := hw _ (List.mem_of_getElem? (i := 106) rfl)
  have w_107 := hw _ (List.mem_of_getElem? (i := 107) rfl)
  have w_108 := hw _ (List.mem_of_getElem? (i := 108) rfl)
  have w_109 := hw _ (List.mem_of_getElem? (i := 109) rfl)
  have w_110 := hw _ (List.mem_of_getElem? (i := 110) rfl)
  have w_111 := hw _ (List.mem_of_getElem? (i := 111) rfl)
  have w_112 := hw _ (List.mem_of_getElem? (i := 112) rfl)
  have w_113 := hw _ (List.mem_of_getElem? (i := 113) rfl)
  have w_114 := hw _ (List.mem_of_getElem? (i := 114) rfl)
  refine Goes.of (fun t => XS.aloadN X0.here hx rfl (hb hby d16_0) rfl rfl) ?_
  show Goes p e below KK s₁ (mkF m 1 #[.val (.ref a1), .val (.int (2 : Int32)), .val (.ref mr), .unset] [(.ref mr)])
  obtain ⟨T23, X23, e23, st23⟩ := own_ldcC X0 hx hZ hown w_105 e0 M0 (g := (mkF m 1 #[.val (.ref a1), .val (.int (2 : Int32)), .val (.ref mr), .unset] [(.ref mr)])) rfl (hb hby d16_1)
  refine Goes.of (st23) ?_
  show Goes p e below KK T23 (mkF m 3 #[.val (.ref a1), .val (.int (2 : Int32)), .val (.ref mr), .unset] [(.ref mr), (.ref mr)])
  refine Goes.of (fun t => Jvm.RoadKit.acmp (g := (mkF m 3 #[.val (.ref a1), .val (.int (2 : Int32)), .val (.ref mr), .unset] [(.ref mr), (.ref mr)])) X23 hx rfl rfl rfl (pc0 := 3) (pc' := 6) (same := true) rfl (hb hby d16_3) rfl (decide_eq_true rfl) (by decide) (by decide)) ?_
  show Goes p e below KK T23 (mkF m 6 #[.val (.ref a1), .val (.int (2 : Int32)), .val (.ref mr), .unset] [])
  refine Goes.of (fun t => XS.iloadN X23.here hx rfl (hb hby d16_6) rfl) ?_
  show Goes p e below KK T23 (mkF m 7 #[.val (.ref a1), .val (.int (2 : Int32)), .val (.ref mr), .unset] [(.int (2 : Int32))])
  obtain ⟨T24, h24, X24, e24, E24, A24, st24⟩ := AR.anewarray X23 hx hZ hown w_106 w_28 e23 (g := (mkF m 7 #[.val (.ref a1), .val (.int (2 : Int32)), .val (.ref mr), .unset] [(.int (2 : Int32))])) rfl (hb hby d16_7) (k := 2) rfl (rfl) (cap := 2) (by decide) (by decide) (by decide) (by decide)
  obtain ⟨b24, g24⟩ : ∃ z, z = h0.size := ⟨_, rfl⟩
  rw [← g24] at A24 st24
  refine Goes.of (st24) ?_
  have ne_a1_b24 : a1 ≠ b24 := Nat.ne_of_lt (Nat.lt_of_lt_of_le A1.lt (Nat.le_of_eq g24.symm))
  have g_b24 : n0 ≤ b24 := Nat.le_trans Z0 (Nat.le_of_eq g24.symm)
  have sz_b24 : h0.size ≤ b24 := Nat.le_trans (Keep.refl h0 []).1 (Nat.le_of_eq g24.symm)
  have A1_24 : AR Z h24 a1 [(.ref y0)] := A1.ext E24
  have Ey_y0_24 : Exa Z h24 y0 "java/lang/Integer" := Ey_y0.ext E24
  have K24 : Keep h0 h24 [] := (Keep.refl h0 []).ext E24
  have Z24 : n0 ≤ h24.size := Nat.le_trans Z0 E24.1
  have A_b24 : AR Z h24 b24 [.null, .null] := A24
  show Goes p e below KK T24 (mkF m 10 #[.val (.ref a1), .val (.int (2 : Int32)), .val (.ref mr), .unset] [(.ref b24)])
  refine Goes.of (fun t => XS.goto X24.here hx rfl (pc0 := 10) (pc' := 24) rfl (hb hby d16_10) (by decide) (by decide)) ?_
  show Goes p e below KK T24 (mkF m 24 #[.val (.ref a1), .val (.int (2 : Int32)), .val (.ref mr), .unset] [(.ref b24)])
  refine Goes.of (fun t => XS.astoreN X24.here hx rfl (hb hby d16_24) rfl rfl (l' := #[.val (.ref a1), .val (.int (2 : Int32)), .val (.ref mr), .val (.ref b24)]) rfl) ?_
  show Goes p e below KK T24 (mkF m 25 #[.val (.ref a1), .val (.int (2 : Int32)), .val (.ref mr), .val (.ref b24)] [])
  refine Goes.of (fun t => XS.aloadN X24.here hx rfl (hb hby d16_25) rfl rfl) ?_
  show Goes p e below KK T24 (mkF m 26 #[.val (.ref a1), .val (.int (2 : Int32)), .val (.ref mr), .val (.ref b24)] [(.ref a1)])
  refine Goes.of (fun t => XS.iconst X24.here hx rfl (hb hby d16_26)) ?_
  show Goes p e below KK T24 (mkF m 27 #[.val (.ref a1), .val (.int (2 : Int32)), .val (.ref mr), .val (.ref b24)] [(.int (0 : Int32)), (.ref a1)])
  refine Goes.of (fun t => XS.aloadN X24.here hx rfl (hb hby d16_27) rfl rfl) ?_
  show Goes p e below KK T24 (mkF m 28 #[.val (.ref a1), .val (.int (2 : Int32)), .val (.ref mr), .val (.ref b24)] [(.ref b24), (.int (0 : Int32)), (.ref a1)])
  refine Goes.of (fun t => XS.iconst X24.here hx rfl (hb hby d16_28)) ?_
  show Goes p e below KK T24 (mkF m 29 #[.val (.ref a1), .val (.int (2 : Int32)), .val (.ref mr), .val (.ref b24)] [(.int (0 : Int32)), (.ref b24), (.int (0 : Int32)), (.ref a1)])
  refine Goes.of (fun t => XS.aloadN X24.here hx rfl (hb hby d16_29) rfl rfl) ?_
  show Goes p e below KK T24 (mkF m 30 #[.val (.ref a1), .val (.int (2 : Int32)), .val (.ref mr), .val (.ref b24)] [(.ref a1), (.int (0 : Int32)), (.ref b24), (.int (0 : Int32)), (.ref a1)])
  refine Goes.of (AR.arraylength X24 hx hZ e24 A1_24 (j := (1 : Int32)) (rfl) (g := (mkF m 30 #[.val (.ref a1), .val (.int (2 : Int32)), .val (.ref mr), .val (.ref b24)] [(.ref a1), (.int (0 : Int32)), (.ref b24), (.int (0 : Int32)), (.ref a1)])) rfl rfl (hb hby d16_30)) ?_
  show Goes p e below KK T24 (mkF m 31 #[.val (.ref a1), .val (.int (2 : Int32)), .val (.ref mr), .val (.ref b24)] [(.int (1 : Int32)), (.int (0 : Int32)), (.ref b24), (.int (0 : Int32)), (.ref a1)])
  refine Goes.of (fun t => XS.iloadN X24.here hx rfl (hb hby d16_31) rfl) ?_
  show Goes p e below KK T24 (mkF m 32 #[.val (.ref a1), .val (.int (2 : Int32)), .val (.ref mr), .val (.ref b24)] [(.int (2 : Int32)), (.int (1 : Int32)), (.int (0 : Int32)), (.ref b24), (.int (0 : Int32)), (.ref a1)])
  obtain ⟨_, _, ⟨T25, L25, k25, n25⟩, -, X25, ⟨Lc25, hQ25, l25, y25, z25⟩, st25⟩ := Jvm.LawKit.callS X24 hx (y := (⟨"java/lang/Math", "min", "(II)I"⟩ : MethodName)) hown (mvT hZ w_107) (mvT hZ w_108) (mvT hZ w_109) (mvT hZ w_110) (by decide) (backOf (W := 4) (rm17 l Z a0 hw [] (1 : Int32) (2 : Int32)  h24 n0 Z24 ) hZ w_110 w_109 (by decide) (by decide)) (g := (mkF m 32 #[.val (.ref a1), .val (.int (2 : Int32)), .val (.ref mr), .val (.ref b24)] [(.int (2 : Int32)), (.int (1 : Int32)), (.int (0 : Int32)), (.ref b24), (.int (0 : Int32)), (.ref a1)])) rfl (by rw [hml]; rfl) (argsL := [(.int (1 : Int32)), (.int (2 : Int32))]) (rest := [(.int (0 : Int32)), (.ref b24), (.int (0 : Int32)), (.ref a1)]) (lenOf pd_15 rfl) rfl (by show 2 * 0 + _ ≤ _; exact Nat.le_of_eq rfl) (hb hby d16_32) (fun _ _ => ⟨rfl, e24, (by decide : 1 + 0 ≤ _), (by decide : 2 + 0 ≤ _)⟩)
  dsimp only [Pt.U, Pt.locs, Pt.cells, Pt.slots] at X25 l25 y25 z25 st25 hQ25
  subst l25 y25 z25
  obtain ⟨rfl, N25q, e25⟩ := hQ25
  have N25 := Fr.app N0 N25q
  refine Goes.of st25 ?_
  show Goes p e below KK T25 (mkF m 35 #[.val (.ref a1), .val (.int (2 : Int32)), .val (.ref mr), .val (.ref b24)] [(.int (f17 (1 : Int32) (2 : Int32))), (.int (0 : Int32)), (.ref b24), (.int (0 : Int32)), (.ref a1)])
  obtain ⟨T26, h26, L26, X26, e26, N26, Kw26, Ac26, st26⟩ := AR.copy X25 hx hZ hown w_111 w_114 w_112 w_113 e25 A1_24 A_b24 (fun u hu => by
      simp only [List.mem_cons, List.not_mem_nil, or_false] at hu
      rcases hu with rfl
      · exact Or.inr ⟨_, rfl, Ins.of_exa Ey_y0_24 w_61⟩) (i := 0) (j := 0) (k := 1) rfl rfl (by decide) (by simp) (by simp) N25 g_b24 (g := (mkF m 35 #[.val (.ref a1), .val (.int (2 : Int32)), .val (.ref mr), .val (.ref b24)] [(.int (f17 (1 : Int32) (2 : Int32))), (.int (0 : Int32)), (.ref b24), (.int (0 : Int32)), (.ref a1)])) rfl (by rw [hml]; rfl) rfl (hb hby d16_35) (by decide) (W := 0) (by show 2 * 0 + _ ≤ _; exact Nat.le_of_eq rfl) (by decide)
  refine Goes.of (st26) ?_
  have A1_24_26 : AR Z h26 a1 [(.ref y0)] := A1_24.keep Kw26 (ninS ne_a1_b24 nin0)
  have Ey_y0_24_26 : Exa Z h26 y0 "java/lang/Integer" := Ey_y0_24.keep Kw26
  have K26 : Keep h0 h26 [] := K24.trans Kw26 (allS (Or.inr sz_b24) all0)
  have Z26 : n0 ≤ h26.size := Nat.le_trans Z24 Kw26.1
  have Ad26 : AR Z h26 b24 [(.ref y0), .null] := Ac26
  show Goes p e below KK T26 (mkF m 38 #[.val (.ref a1), .val (.int (2 : Int32)), .val (.ref mr), .val (.ref b24)] [])
  refine Goes.of (fun t => XS.aloadN X26.here hx rfl (hb hby d16_38) rfl rfl) ?_
  show Goes p e below KK T26 (mkF m 39 #[.val (.ref a1), .val (.int (2 : Int32)), .val (.ref mr), .val (.ref b24)] [(.ref b24)])
  rw [← hKK]
  refine Goes.retRef X26 hx hlk rfl rfl Bd.returns (hb hby d16_39) ?_ (by decide) (by decide)
  rw [e26]
  exact ⟨b24, rfl, N26, K26, sz_b24, Ad26⟩
theorem ef_16k2 (m : MethodId) (x0 : Addr) (x1 : Int32) (x2 : Addr) : entryFrame m #[(.ref x0), (.int x1), (.ref x2)] 4 = mkF m 0 #[.val (.ref x0), .val (.int x1), .val (.ref x2), .unset] [] := by first | (simp [entryFrame, mkF, argsToLocals, Value.category]; done) | rfl
def Q16k2 (Z : State) (a1 : Addr) (mr : Addr) (y0 : Addr) (y1 : Addr) (h0 : Heap) (n0 : Nat) (v : Option Value) (h : Heap) (L : List Loc) : Prop := ∃ b, v = some (.ref b) ∧ Fr n0 L ∧ Keep h0 h [] ∧ h0.size ≤ b ∧ AR Z h b [(.ref y0), (.ref y1), .null, .null]
set_option maxRecDepth 65536 in
set_option maxHeartbeats 40000000 in
theorem rm16k2 (l : Launch) (Z : State) (a0 : Array Value) (hw : ∀ d ∈ tables_1, d.before a0 Z = true) (ws : List Jvm.Cond) (a1 : Addr) (mr : Addr) (y0 : Addr) (y1 : Addr) (h0 : Heap) (n0 : Nat) (Z0 : n0 ≤ h0.size) (A1 : AR Z h0 a1 [(.ref y0), (.ref y1)]) (Ey_y0 : Exa Z h0 y0 "java/lang/Integer") (Ey_y1 : Exa Z h0 y1 "java/lang/Integer") (M0 : Mir Z "[Ljava/lang/Object;" mr) :
    MetFree l (⟨"java/util/Arrays", "copyOf", "([Ljava/lang/Object;ILjava/lang/Class;)[Ljava/lang/Object;"⟩ : MethodName) (head1 (Jvm.Cond.code (⟨"java/util/Arrays", "copyOf", "([Ljava/lang/Object;ILjava/lang/Class;)[Ljava/lang/Object;"⟩ : MethodName) jdk_65_method_120_code 4 (some (.array (.object "java/lang/Object"))) :: ws) ({ frames := 1, cells := 1, slots := 4, locals := 40 } : Room)) (fun a U => a = #[(.ref a1), (.int (4 : Int32)), (.ref mr)] ∧ Z.Warmed39 U.vm ∧ U.heap = h0) (fun _ _ _ _ _ => True) (fun _ U o U' => ∃ v L, o = .returned v ∧ Q16k2 Z a1 mr y0 y1 h0 n0 v U'.heap L ∧ FrameEnd U o U' L ({ frames := 1, cells := 1, slots := 4, locals := 40 } : Room).cells ({ frames := 1, cells := 1, slots := 4, locals := 40 } : Room).slots) := by
  refine MetFree.of_bodySF pn_16 hisR ?_
  intro p e s m args below meth c s₁ Bd hml0 hP hK
  obtain ⟨rfl, hZ, hh⟩ := hP
  have hx := Bd.exec
  have hby := Bd.bytes
  have hml : c.maxLocals = 4 := hml0
  have hown : s.vm.findClass "java/util/Arrays" = some m.cls := findClass_of_methodNamed Bd.named
  have hnm := (name_of_methodNamed Bd.named Bd.method).1
  have hlk : meth.locks = false := BodyLoose.notSynchronized Bd
  have X0 : Stand p l e ({ frames := 1, cells := 1, slots := 4, locals := 40 } : Room) s m #[(.ref a1), (.int (4 : Int32)), (.ref mr)] below meth c s₁ [] 0 0 := Stand.of_body Bd
  have e0 : s₁.heap = h0 := by rw [← hh, Bd.state]; rfl
  have N0 := Fr.nil n0
  show Goes p e below (OwnK s (Q16k2 Z a1 mr y0 y1 h0 n0) ({ frames := 1, cells := 1, slots := 4, locals := 40 } : Room).cells ({ frames := 1, cells := 1, slots := 4, locals := 40 } : Room).slots) s₁ (entryFrame m #[(.ref a1), (.int (4 : Int32)), (.ref mr)] 4)
  refine Goes.cast (ef_16k2 m a1 (4 : Int32) mr) ?_
  generalize hKK : OwnK s (Q16k2 Z a1 mr y0 y1 h0 n0) ({ frames := 1, cells := 1, slots := 4, locals := 40 } : Room).cells ({ frames := 1, cells := 1, slots := 4, locals := 40 } : Room).slots = KK
  show Goes p e below KK s₁ (mkF m 0 #[.val (.ref a1), .val (.int (4 : Int32)), .val (.ref mr), .unset] [])
  have w_28 := hw _ (List.mem_of_getElem? (i := 28) rfl)
  have w_61 := hw _ (List.mem_of_getElem? (i := 61) rfl)
  have w_105 := hw _ (List.mem_of_getElem? (i := 105) rfl)
  have w_106 := hw _ (List.mem_of_getElem? (i := 106) rfl)
  have w_107 := hw _ (List.mem_of_getElem? (i := 107) rfl)
  have w_108 := hw _ (List.mem_of_getElem? (i := 108) rfl)
  have w_109 := hw _ (List.mem_of_getElem? (i := 109) rfl)
  have w_110 := hw _ (List.mem_of_getElem? (i := 110) rfl)
  have w_111 := hw _ (List.mem_of_getElem? (i := 111) rfl)
  have w_112 := hw _ (List.mem_of_getElem? (i := 112) rfl)
  have w_113 := hw _ (List.mem_of_getElem? (i := 113) rfl)
  have w_114 := hw _ (List.mem_of_getElem? (i := 114) rfl)
  refine Goes.of (fun t => XS.aloadN X0.here hx rfl (hb hby d16_0) rfl rfl) ?_
  show Goes p e below KK s₁ (mkF m 1 #[.val (.ref a1), .val (.int (4 : Int32)), .val (.ref mr), .unset] [(.ref mr)])
  obtain ⟨T27, X27, e27, st27⟩ := own_ldcC X0 hx hZ hown w_105 e0 M0 (g := (mkF m 1 #[.val (.ref a1), .val (.int (4 : Int32)), .val (.ref mr), .unset] [(.ref mr)])) rfl (hb hby d16_1)
  refine Goes.of (st27) ?_
  show Goes p e below KK T27 (mkF m 3 #[.val (.ref a1), .val (.int (4 : Int32)), .val (.ref mr), .unset] [(.ref mr), (.ref mr)])
  refine Goes.of (fun t => Jvm.RoadKit.acmp (g := (mkF m 3 #[.val (.ref a1), .val (.int (4 : Int32)), .val (.ref mr), .unset] [(.ref mr), (.ref mr)])) X27 hx rfl rfl rfl (pc0 := 3) (pc' := 6) (same := true) rfl (hb hby d16_3) rfl (decide_eq_true rfl) (by decide) (by decide)) ?_
  show Goes p e below KK T27 (mkF m 6 #[.val (.ref a1), .val (.int (4 : Int32)), .val (.ref mr), .unset] [])
  refine Goes.of (fun t => XS.iloadN X27.here hx rfl (hb hby d16_6) rfl) ?_
  show Goes p e below KK T27 (mkF m 7 #[.val (.ref a1), .val (.int (4 : Int32)), .val (.ref mr), .unset] [(.int (4 : Int32))])
  obtain ⟨T28, h28, X28, e28, E28, A28, st28⟩ := AR.anewarray X27 hx hZ hown w_106 w_28 e27 (g := (mkF m 7 #[.val (.ref a1), .val (.int (4 : Int32)), .val (.ref mr), .unset] [(.int (4 : Int32))])) rfl (hb hby d16_7) (k := 4) rfl (rfl) (cap := 4) (by decide) (by decide) (by decide) (by decide)
  obtain ⟨b28, g28⟩ : ∃ z, z = h0.size := ⟨_, rfl⟩
  rw [← g28] at A28 st28
  refine Goes.of (st28) ?_
  have ne_a1_b28 : a1 ≠ b28 := Nat.ne_of_lt (Nat.lt_of_lt_of_le A1.lt (Nat.le_of_eq g28.symm))
  have g_b28 : n0 ≤ b28 := Nat.le_trans Z0 (Nat.le_of_eq g28.symm)
  have sz_b28 : h0.size ≤ b28 := Nat.le_trans (Keep.refl h0 []).1 (Nat.le_of_eq g28.symm)
  have A1_28 : AR Z h28 a1 [(.ref y0), (.ref y1)] := A1.ext E28
  have Ey_y0_28 : Exa Z h28 y0 "java/lang/Integer" := Ey_y0.ext E28
  have Ey_y1_28 : Exa Z h28 y1 "java/lang/Integer" := Ey_y1.ext E28
  have K28 : Keep h0 h28 [] := (Keep.refl h0 []).ext E28
  have Z28 : n0 ≤ h28.size := Nat.le_trans Z0 E28.1
  have A_b28 : AR Z h28 b28 [.null, .null, .null, .null] := A28
  show Goes p e below KK T28 (mkF m 10 #[.val (.ref a1), .val (.int (4 : Int32)), .val (.ref mr), .unset] [(.ref b28)])
  refine Goes.of (fun t => XS.goto X28.here hx rfl (pc0 := 10) (pc' := 24) rfl (hb hby d16_10) (by decide) (by decide)) ?_
  show Goes p e below KK T28 (mkF m 24 #[.val (.ref a1), .val (.int (4 : Int32)), .val (.ref mr), .unset] [(.ref b28)])
  refine Goes.of (fun t => XS.astoreN X28.here hx rfl (hb hby d16_24) rfl rfl (l' := #[.val (.ref a1), .val (.int (4 : Int32)), .val (.ref mr), .val (.ref b28)]) rfl) ?_
  show Goes p e below KK T28 (mkF m 25 #[.val (.ref a1), .val (.int (4 : Int32)), .val (.ref mr), .val (.ref b28)] [])
  refine Goes.of (fun t => XS.aloadN X28.here hx rfl (hb hby d16_25) rfl rfl) ?_
  show Goes p e below KK T28 (mkF m 26 #[.val (.ref a1), .val (.int (4 : Int32)), .val (.ref mr), .val (.ref b28)] [(.ref a1)])
  refine Goes.of (fun t => XS.iconst X28.here hx rfl (hb hby d16_26)) ?_
  show Goes p e below KK T28 (mkF m 27 #[.val (.ref a1), .val (.int (4 : Int32)), .val (.ref mr), .val (.ref b28)] [(.int (0 : Int32)), (.ref a1)])
  refine Goes.of (fun t => XS.aloadN X28.here hx rfl (hb hby d16_27) rfl rfl) ?_
  show Goes p e below KK T28 (mkF m 28 #[.val (.ref a1), .val (.int (4 : Int32)), .val (.ref mr), .val (.ref b28)] [(.ref b28), (.int (0 : Int32)), (.ref a1)])
  refine Goes.of (fun t => XS.iconst X28.here hx rfl (hb hby d16_28)) ?_
  show Goes p e below KK T28 (mkF m 29 #[.val (.ref a1), .val (.int (4 : Int32)), .val (.ref mr), .val (.ref b28)] [(.int (0 : Int32)), (.ref b28), (.int (0 : Int32)), (.ref a1)])
  refine Goes.of (fun t => XS.aloadN X28.here hx rfl (hb hby d16_29) rfl rfl) ?_
  show Goes p e below KK T28 (mkF m 30 #[.val (.ref a1), .val (.int (4 : Int32)), .val (.ref mr), .val (.ref b28)] [(.ref a1), (.int (0 : Int32)), (.ref b28), (.int (0 : Int32)), (.ref a1)])
  refine Goes.of (AR.arraylength X28 hx hZ e28 A1_28 (j := (2 : Int32)) (rfl) (g := (mkF m 30 #[.val (.ref a1), .val (.int (4 : Int32)), .val (.ref mr), .val (.ref b28)] [(.ref a1), (.int (0 : Int32)), (.ref b28), (.int (0 : Int32)), (.ref a1)])) rfl rfl (hb hby d16_30)) ?_
  show Goes p e below KK T28 (mkF m 31 #[.val (.ref a1), .val (.int (4 : Int32)), .val (.ref mr), .val (.ref b28)] [(.int (2 : Int32)), (.int (0 : Int32)), (.ref b28), (.int (0 : Int32)), (.ref a1)])
  refine Goes.of (fun t => XS.iloadN X28.here hx rfl (hb hby d16_31) rfl) ?_
  show Goes p e below KK T28 (mkF m 32 #[.val (.ref a1), .val (.int (4 : Int32)), .val (.ref mr), .val (.ref b28)] [(.int (4 : Int32)), (.int (2 : Int32)), (.int (0 : Int32)), (.ref b28), (.int (0 : Int32)), (.ref a1)])
  obtain ⟨_, _, ⟨T29, L29, k29, n29⟩, -, X29, ⟨Lc29, hQ29, l29, y29, z29⟩, st29⟩ := Jvm.LawKit.callS X28 hx (y := (⟨"java/lang/Math", "min", "(II)I"⟩ : MethodName)) hown (mvT hZ w_107) (mvT hZ w_108) (mvT hZ w_109) (mvT hZ w_110) (by decide) (backOf (W := 4) (rm17 l Z a0 hw [] (2 : Int32) (4 : Int32)  h28 n0 Z28 ) hZ w_110 w_109 (by decide) (by decide)) (g := (mkF m 32 #[.val (.ref a1), .val (.int (4 : Int32)), .val (.ref mr), .val (.ref b28)] [(.int (4 : Int32)), (.int (2 : Int32)), (.int (0 : Int32)), (.ref b28), (.int (0 : Int32)), (.ref a1)])) rfl (by rw [hml]; rfl) (argsL := [(.int (2 : Int32)), (.int (4 : Int32))]) (rest := [(.int (0 : Int32)), (.ref b28), (.int (0 : Int32)), (.ref a1)]) (lenOf pd_15 rfl) rfl (by show 2 * 0 + _ ≤ _; exact Nat.le_of_eq rfl) (hb hby d16_32) (fun _ _ => ⟨rfl, e28, (by decide : 1 + 0 ≤ _), (by decide : 4 + 0 ≤ _)⟩)
  dsimp only [Pt.U, Pt.locs, Pt.cells, Pt.slots] at X29 l29 y29 z29 st29 hQ29
  subst l29 y29 z29
  obtain ⟨rfl, N29q, e29⟩ := hQ29
  have N29 := Fr.app N0 N29q
  refine Goes.of st29 ?_
  show Goes p e below KK T29 (mkF m 35 #[.val (.ref a1), .val (.int (4 : Int32)), .val (.ref mr), .val (.ref b28)] [(.int (f17 (2 : Int32) (4 : Int32))), (.int (0 : Int32)), (.ref b28), (.int (0 : Int32)), (.ref a1)])
  obtain ⟨T30, h30, L30, X30, e30, N30, Kw30, Ac30, st30⟩ := AR.copy X29 hx hZ hown w_111 w_114 w_112 w_113 e29 A1_28 A_b28 (fun u hu => by
      simp only [List.mem_cons, List.not_mem_nil, or_false] at hu
      rcases hu with rfl | rfl
      · exact Or.inr ⟨_, rfl, Ins.of_exa Ey_y0_28 w_61⟩
      · exact Or.inr ⟨_, rfl, Ins.of_exa Ey_y1_28 w_61⟩) (i := 0) (j := 0) (k := 2) rfl rfl (by decide) (by simp) (by simp) N29 g_b28 (g := (mkF m 35 #[.val (.ref a1), .val (.int (4 : Int32)), .val (.ref mr), .val (.ref b28)] [(.int (f17 (2 : Int32) (4 : Int32))), (.int (0 : Int32)), (.ref b28), (.int (0 : Int32)), (.ref a1)])) rfl (by rw [hml]; rfl) rfl (hb hby d16_35) (by decide) (W := 0) (by show 2 * 0 + _ ≤ _; exact Nat.le_of_eq rfl) (by decide)
  refine Goes.of (st30) ?_
  have A1_28_30 : AR Z h30 a1 [(.ref y0), (.ref y1)] := A1_28.keep Kw30 (ninS ne_a1_b28 nin0)
  have Ey_y0_28_30 : Exa Z h30 y0 "java/lang/Integer" := Ey_y0_28.keep Kw30
  have Ey_y1_28_30 : Exa Z h30 y1 "java/lang/Integer" := Ey_y1_28.keep Kw30
  have K30 : Keep h0 h30 [] := K28.trans Kw30 (allS (Or.inr sz_b28) all0)
  have Z30 : n0 ≤ h30.size := Nat.le_trans Z28 Kw30.1
  have Ad30 : AR Z h30 b28 [(.ref y0), (.ref y1), .null, .null] := Ac30
  show Goes p e below KK T30 (mkF m 38 #[.val (.ref a1), .val (.int (4 : Int32)), .val (.ref mr), .val (.ref b28)] [])
  refine Goes.of (fun t => XS.aloadN X30.here hx rfl (hb hby d16_38) rfl rfl) ?_
  show Goes p e below KK T30 (mkF m 39 #[.val (.ref a1), .val (.int (4 : Int32)), .val (.ref mr), .val (.ref b28)] [(.ref b28)])
  rw [← hKK]
  refine Goes.retRef X30 hx hlk rfl rfl Bd.returns (hb hby d16_39) ?_ (by decide) (by decide)
  rw [e30]
  exact ⟨b28, rfl, N30, K30, sz_b28, Ad30⟩
theorem d15_0 : decode jdk_65_method_119_code 0 = .ok (.aload_n 0, 1) := by decide +kernel
theorem d15_1 : decode jdk_65_method_119_code 1 = .ok (.iload_n 1, 1) := by decide +kernel
theorem d15_2 : decode jdk_65_method_119_code 2 = .ok (.aload_n 0, 1) := by decide +kernel
theorem d15_3 : decode jdk_65_method_119_code 3 = .ok (.invokevirtual 86, 3) := by decide +kernel
theorem d15_6 : decode jdk_65_method_119_code 6 = .ok (.invokestatic 300, 3) := by decide +kernel
theorem d15_9 : decode jdk_65_method_119_code 9 = .ok (.areturn, 1) := by decide +kernel
theorem pn_15 : plainFor (⟨"java/util/Arrays", "copyOf", "([Ljava/lang/Object;I)[Ljava/lang/Object;"⟩ : MethodName) = true := plainFor_of_name (by first | (simp [plainName, overriddenIn]; done) | decide +kernel)
theorem pd_23 : parseMethodDescriptor "([Ljava/lang/Object;ILjava/lang/Class;)[Ljava/lang/Object;" = some ⟨[(.array (.object "java/lang/Object")), .int, (.object "java/lang/Class")], some (.array (.object "java/lang/Object"))⟩ := by decide +kernel
theorem ef_15k1 (m : MethodId) (x0 : Addr) (x1 : Int32) : entryFrame m #[(.ref x0), (.int x1)] 2 = mkF m 0 #[.val (.ref x0), .val (.int x1)] [] := by first | (simp [entryFrame, mkF, argsToLocals, Value.category]; done) | rfl
def Q15k1 (Z : State) (a1 : Addr) (mr : Addr) (y0 : Addr) (h0 : Heap) (n0 : Nat) (v : Option Value) (h : Heap) (L : List Loc) : Prop := ∃ b, v = some (.ref b) ∧ Fr n0 L ∧ Keep h0 h [] ∧ h0.size ≤ b ∧ AR Z h b [(.ref y0), .null]
set_option maxRecDepth 65536 in
set_option maxHeartbeats 40000000 in
theorem rm15k1 (l : Launch) (Z : State) (a0 : Array Value) (hw : ∀ d ∈ tables_1, d.before a0 Z = true) (ws : List Jvm.Cond) (a1 : Addr) (mr : Addr) (y0 : Addr) (h0 : Heap) (n0 : Nat) (Z0 : n0 ≤ h0.size) (A1 : AR Z h0 a1 [(.ref y0)]) (Ey_y0 : Exa Z h0 y0 "java/lang/Integer") (M0 : Mir Z "[Ljava/lang/Object;" mr) :
    MetFree l (⟨"java/util/Arrays", "copyOf", "([Ljava/lang/Object;I)[Ljava/lang/Object;"⟩ : MethodName) (head1 (Jvm.Cond.code (⟨"java/util/Arrays", "copyOf", "([Ljava/lang/Object;I)[Ljava/lang/Object;"⟩ : MethodName) jdk_65_method_119_code 2 (some (.array (.object "java/lang/Object"))) :: ws) ({ frames := 2, cells := 1, slots := 2, locals := 55 } : Room)) (fun a U => a = #[(.ref a1), (.int (2 : Int32))] ∧ Z.Warmed39 U.vm ∧ U.heap = h0) (fun _ _ _ _ _ => True) (fun _ U o U' => ∃ v L, o = .returned v ∧ Q15k1 Z a1 mr y0 h0 n0 v U'.heap L ∧ FrameEnd U o U' L ({ frames := 2, cells := 1, slots := 2, locals := 55 } : Room).cells ({ frames := 2, cells := 1, slots := 2, locals := 55 } : Room).slots) := by
  refine MetFree.of_bodySF pn_15 hisR ?_
  intro p e s m args below meth c s₁ Bd hml0 hP hK
  obtain ⟨rfl, hZ, hh⟩ := hP
  have hx := Bd.exec
  have hby := Bd.bytes
  have hml : c.maxLocals = 2 := hml0
  have hown : s.vm.findClass "java/util/Arrays" = some m.cls := findClass_of_methodNamed Bd.named
  have hnm := (name_of_methodNamed Bd.named Bd.method).1
  have hlk : meth.locks = false := BodyLoose.notSynchronized Bd
  have X0 : Stand p l e ({ frames := 2, cells := 1, slots := 2, locals := 55 } : Room) s m #[(.ref a1), (.int (2 : Int32))] below meth c s₁ [] 0 0 := Stand.of_body Bd
  have e0 : s₁.heap = h0 := by rw [← hh, Bd.state]; rfl
  have N0 := Fr.nil n0
  show Goes p e below (OwnK s (Q15k1 Z a1 mr y0 h0 n0) ({ frames := 2, cells := 1, slots := 2, locals := 55 } : Room).cells ({ frames := 2, cells := 1, slots := 2, locals := 55 } : Room).slots) s₁ (entryFrame m #[(.ref a1), (.int (2 : Int32))] 2)
  refine Goes.cast (ef_15k1 m a1 (2 : Int32)) ?_
  generalize hKK : OwnK s (Q15k1 Z a1 mr y0 h0 n0) ({ frames := 2, cells := 1, slots := 2, locals := 55 } : Room).cells ({ frames := 2, cells := 1, slots := 2, locals := 55 } : Room).slots = KK
  show Goes p e below KK s₁ (mkF m 0 #[.val (.ref a1), .val (.int (2 : Int32))] [])
  have w_94 := hw _ (List.mem_of_getElem? (i := 94) rfl)
  have w_96 := hw _ (List.mem_of_getElem? (i := 96) rfl)
  have w_97 := hw _ (List.mem_of_getElem? (i := 97) rfl)
  have w_98 := hw _ (List.mem_of_getElem? (i := 98) rfl)
  have w_99 := hw _ (List.mem_of_getElem? (i := 99) rfl)
  have w_100 := hw _ (List.mem_of_getElem? (i := 100) rfl)
  have w_102 := hw _ (List.mem_of_getElem? (i := 102) rfl)
  have w_103 := hw _ (List.mem_of_getElem? (i := 103) rfl)
  have w_104 := hw _ (List.mem_of_getElem? (i := 104) rfl)
  refine Goes.of (fun t => XS.aloadN X0.here hx rfl (hb hby d15_0) rfl rfl) ?_
  show Goes p e below KK s₁ (mkF m 1 #[.val (.ref a1), .val (.int (2 : Int32))] [(.ref a1)])
  refine Goes.of (fun t => XS.iloadN X0.here hx rfl (hb hby d15_1) rfl) ?_
  show Goes p e below KK s₁ (mkF m 2 #[.val (.ref a1), .val (.int (2 : Int32))] [(.int (2 : Int32)), (.ref a1)])
  refine Goes.of (fun t => XS.aloadN X0.here hx rfl (hb hby d15_2) rfl rfl) ?_
  show Goes p e below KK s₁ (mkF m 3 #[.val (.ref a1), .val (.int (2 : Int32))] [(.ref a1), (.int (2 : Int32)), (.ref a1)])
  obtain ⟨T31, X31, e31, st31⟩ := own_gcls X0 hx hZ hown w_96 w_97 w_99 w_98 w_100 e0 A1.exa M0 (g := (mkF m 3 #[.val (.ref a1), .val (.int (2 : Int32))] [(.ref a1), (.int (2 : Int32)), (.ref a1)])) rfl (by rw [hml]; rfl) rfl (hb hby d15_3) (by decide) (W := 2) (by show 2 * 0 + _ ≤ _; exact Nat.le_of_eq rfl) (by decide)
  refine Goes.of (st31) ?_
  show Goes p e below KK T31 (mkF m 6 #[.val (.ref a1), .val (.int (2 : Int32))] [(.ref mr), (.int (2 : Int32)), (.ref a1)])
  obtain ⟨_, _, ⟨T32, L32, k32, n32⟩, -, X32, ⟨Lc32, hQ32, l32, y32, z32⟩, st32⟩ := Jvm.LawKit.callS X31 hx (y := (⟨"java/util/Arrays", "copyOf", "([Ljava/lang/Object;ILjava/lang/Class;)[Ljava/lang/Object;"⟩ : MethodName)) hown (mvT hZ w_102) (mvT hZ w_103) (mvT hZ w_94) (mvT hZ w_104) (by decide) (backOf (W := 0) (rm16k1 l Z a0 hw [] a1 mr y0 h0 n0 Z0 A1 Ey_y0 M0) hZ w_104 w_94 (by decide) (by decide)) (g := (mkF m 6 #[.val (.ref a1), .val (.int (2 : Int32))] [(.ref mr), (.int (2 : Int32)), (.ref a1)])) rfl (by rw [hml]; rfl) (argsL := [(.ref a1), (.int (2 : Int32)), (.ref mr)]) (rest := []) (lenOf pd_23 rfl) rfl (by show 2 * 0 + _ ≤ _; exact Nat.le_of_eq rfl) (hb hby d15_6) (fun _ _ => ⟨rfl, e31, (by decide : 0 + 1 ≤ _), (by decide : 0 + 2 ≤ _)⟩)
  dsimp only [Pt.U, Pt.locs, Pt.cells, Pt.slots] at X32 l32 y32 z32 st32 hQ32
  subst l32 y32 z32
  obtain ⟨r32, rfl, N32q, Kc32, hb32, A32⟩ := hQ32
  have N32 := Fr.app N0 N32q
  have ne_a1_r32 : a1 ≠ r32 := Nat.ne_of_lt (Nat.lt_of_lt_of_le A1.lt hb32)
  have g_r32 : n0 ≤ r32 := Nat.le_trans Z0 hb32
  have sz_r32 : h0.size ≤ r32 := Nat.le_trans (Keep.refl h0 []).1 hb32
  have A1_32 : AR Z T32.heap a1 [(.ref y0)] := A1.keep Kc32 nin0
  have Ey_y0_32 : Exa Z T32.heap y0 "java/lang/Integer" := Ey_y0.keep Kc32
  have K32 : Keep h0 T32.heap [] := (Keep.refl h0 []).trans Kc32 all0
  have Z32 : n0 ≤ T32.heap.size := Nat.le_trans Z0 Kc32.1
  have e32 : T32.heap = T32.heap := rfl
  refine Goes.of st32 ?_
  show Goes p e below KK T32 (mkF m 9 #[.val (.ref a1), .val (.int (2 : Int32))] [(.ref r32)])
  rw [← hKK]
  refine Goes.retRef X32 hx hlk rfl rfl Bd.returns (hb hby d15_9) ?_ (by decide) (by decide)
  rw [e32]
  exact ⟨r32, rfl, N32, K32, sz_r32, A32⟩
theorem ef_15k2 (m : MethodId) (x0 : Addr) (x1 : Int32) : entryFrame m #[(.ref x0), (.int x1)] 2 = mkF m 0 #[.val (.ref x0), .val (.int x1)] [] := by first | (simp [entryFrame, mkF, argsToLocals, Value.category]; done) | rfl
def Q15k2 (Z : State) (a1 : Addr) (mr : Addr) (y0 : Addr) (y1 : Addr) (h0 : Heap) (n0 : Nat) (v : Option Value) (h : Heap) (L : List Loc) : Prop := ∃ b, v = some (.ref b) ∧ Fr n0 L ∧ Keep h0 h [] ∧ h0.size ≤ b ∧ AR Z h b [(.ref y0), (.ref y1), .null, .null]
set_option maxRecDepth 65536 in
set_option maxHeartbeats 40000000 in
theorem rm15k2 (l : Launch) (Z : State) (a0 : Array Value) (hw : ∀ d ∈ tables_1, d.before a0 Z = true) (ws : List Jvm.Cond) (a1 : Addr) (mr : Addr) (y0 : Addr) (y1 : Addr) (h0 : Heap) (n0 : Nat) (Z0 : n0 ≤ h0.size) (A1 : AR Z h0 a1 [(.ref y0), (.ref y1)]) (Ey_y0 : Exa Z h0 y0 "java/lang/Integer") (Ey_y1 : Exa Z h0 y1 "java/lang/Integer") (M0 : Mir Z "[Ljava/lang/Object;" mr) :
    MetFree l (⟨"java/util/Arrays", "copyOf", "([Ljava/lang/Object;I)[Ljava/lang/Object;"⟩ : MethodName) (head1 (Jvm.Cond.code (⟨"java/util/Arrays", "copyOf", "([Ljava/lang/Object;I)[Ljava/lang/Object;"⟩ : MethodName) jdk_65_method_119_code 2 (some (.array (.object "java/lang/Object"))) :: ws) ({ frames := 2, cells := 1, slots := 4, locals := 55 } : Room)) (fun a U => a = #[(.ref a1), (.int (4 : Int32))] ∧ Z.Warmed39 U.vm ∧ U.heap = h0) (fun _ _ _ _ _ => True) (fun _ U o U' => ∃ v L, o = .returned v ∧ Q15k2 Z a1 mr y0 y1 h0 n0 v U'.heap L ∧ FrameEnd U o U' L ({ frames := 2, cells := 1, slots := 4, locals := 55 } : Room).cells ({ frames := 2, cells := 1, slots := 4, locals := 55 } : Room).slots) := by
  refine MetFree.of_bodySF pn_15 hisR ?_
  intro p e s m args below meth c s₁ Bd hml0 hP hK
  obtain ⟨rfl, hZ, hh⟩ := hP
  have hx := Bd.exec
  have hby := Bd.bytes
  have hml : c.maxLocals = 2 := hml0
  have hown : s.vm.findClass "java/util/Arrays" = some m.cls := findClass_of_methodNamed Bd.named
  have hnm := (name_of_methodNamed Bd.named Bd.method).1
  have hlk : meth.locks = false := BodyLoose.notSynchronized Bd
  have X0 : Stand p l e ({ frames := 2, cells := 1, slots := 4, locals := 55 } : Room) s m #[(.ref a1), (.int (4 : Int32))] below meth c s₁ [] 0 0 := Stand.of_body Bd
  have e0 : s₁.heap = h0 := by rw [← hh, Bd.state]; rfl
  have N0 := Fr.nil n0
  show Goes p e below (OwnK s (Q15k2 Z a1 mr y0 y1 h0 n0) ({ frames := 2, cells := 1, slots := 4, locals := 55 } : Room).cells ({ frames := 2, cells := 1, slots := 4, locals := 55 } : Room).slots) s₁ (entryFrame m #[(.ref a1), (.int (4 : Int32))] 2)
  refine Goes.cast (ef_15k2 m a1 (4 : Int32)) ?_
  generalize hKK : OwnK s (Q15k2 Z a1 mr y0 y1 h0 n0) ({ frames := 2, cells := 1, slots := 4, locals := 55 } : Room).cells ({ frames := 2, cells := 1, slots := 4, locals := 55 } : Room).slots = KK
  show Goes p e below KK s₁ (mkF m 0 #[.val (.ref a1), .val (.int (4 : Int32))] [])
  have w_94 := hw _ (List.mem_of_getElem? (i := 94) rfl)
  have w_96 := hw _ (List.mem_of_getElem? (i := 96) rfl)
  have w_97 := hw _ (List.mem_of_getElem? (i := 97) rfl)
  have w_98 := hw _ (List.mem_of_getElem? (i := 98) rfl)
  have w_99 := hw _ (List.mem_of_getElem? (i := 99) rfl)
  have w_100 := hw _ (List.mem_of_getElem? (i := 100) rfl)
  have w_102 := hw _ (List.mem_of_getElem? (i := 102) rfl)
  have w_103 := hw _ (List.mem_of_getElem? (i := 103) rfl)
  have w_104 := hw _ (List.mem_of_getElem? (i := 104) rfl)
  refine Goes.of (fun t => XS.aloadN X0.here hx rfl (hb hby d15_0) rfl rfl) ?_
  show Goes p e below KK s₁ (mkF m 1 #[.val (.ref a1), .val (.int (4 : Int32))] [(.ref a1)])
  refine Goes.of (fun t => XS.iloadN X0.here hx rfl (hb hby d15_1) rfl) ?_
  show Goes p e below KK s₁ (mkF m 2 #[.val (.ref a1), .val (.int (4 : Int32))] [(.int (4 : Int32)), (.ref a1)])
  refine Goes.of (fun t => XS.aloadN X0.here hx rfl (hb hby d15_2) rfl rfl) ?_
  show Goes p e below KK s₁ (mkF m 3 #[.val (.ref a1), .val (.int (4 : Int32))] [(.ref a1), (.int (4 : Int32)), (.ref a1)])
  obtain ⟨T33, X33, e33, st33⟩ := own_gcls X0 hx hZ hown w_96 w_97 w_99 w_98 w_100 e0 A1.exa M0 (g := (mkF m 3 #[.val (.ref a1), .val (.int (4 : Int32))] [(.ref a1), (.int (4 : Int32)), (.ref a1)])) rfl (by rw [hml]; rfl) rfl (hb hby d15_3) (by decide) (W := 2) (by show 2 * 0 + _ ≤ _; exact Nat.le_of_eq rfl) (by decide)
  refine Goes.of (st33) ?_
  show Goes p e below KK T33 (mkF m 6 #[.val (.ref a1), .val (.int (4 : Int32))] [(.ref mr), (.int (4 : Int32)), (.ref a1)])
  obtain ⟨_, _, ⟨T34, L34, k34, n34⟩, -, X34, ⟨Lc34, hQ34, l34, y34, z34⟩, st34⟩ := Jvm.LawKit.callS X33 hx (y := (⟨"java/util/Arrays", "copyOf", "([Ljava/lang/Object;ILjava/lang/Class;)[Ljava/lang/Object;"⟩ : MethodName)) hown (mvT hZ w_102) (mvT hZ w_103) (mvT hZ w_94) (mvT hZ w_104) (by decide) (backOf (W := 0) (rm16k2 l Z a0 hw [] a1 mr y0 y1 h0 n0 Z0 A1 Ey_y0 Ey_y1 M0) hZ w_104 w_94 (by decide) (by decide)) (g := (mkF m 6 #[.val (.ref a1), .val (.int (4 : Int32))] [(.ref mr), (.int (4 : Int32)), (.ref a1)])) rfl (by rw [hml]; rfl) (argsL := [(.ref a1), (.int (4 : Int32)), (.ref mr)]) (rest := []) (lenOf pd_23 rfl) rfl (by show 2 * 0 + _ ≤ _; exact Nat.le_of_eq rfl) (hb hby d15_6) (fun _ _ => ⟨rfl, e33, (by decide : 0 + 1 ≤ _), (by decide : 0 + 4 ≤ _)⟩)
  dsimp only [Pt.U, Pt.locs, Pt.cells, Pt.slots] at X34 l34 y34 z34 st34 hQ34
  subst l34 y34 z34
  obtain ⟨r34, rfl, N34q, Kc34, hb34, A34⟩ := hQ34
  have N34 := Fr.app N0 N34q
  have ne_a1_r34 : a1 ≠ r34 := Nat.ne_of_lt (Nat.lt_of_lt_of_le A1.lt hb34)
  have g_r34 : n0 ≤ r34 := Nat.le_trans Z0 hb34
  have sz_r34 : h0.size ≤ r34 := Nat.le_trans (Keep.refl h0 []).1 hb34
  have A1_34 : AR Z T34.heap a1 [(.ref y0), (.ref y1)] := A1.keep Kc34 nin0
  have Ey_y0_34 : Exa Z T34.heap y0 "java/lang/Integer" := Ey_y0.keep Kc34
  have Ey_y1_34 : Exa Z T34.heap y1 "java/lang/Integer" := Ey_y1.keep Kc34
  have K34 : Keep h0 T34.heap [] := (Keep.refl h0 []).trans Kc34 all0
  have Z34 : n0 ≤ T34.heap.size := Nat.le_trans Z0 Kc34.1
  have e34 : T34.heap = T34.heap := rfl
  refine Goes.of st34 ?_
  show Goes p e below KK T34 (mkF m 9 #[.val (.ref a1), .val (.int (4 : Int32))] [(.ref r34)])
  rw [← hKK]
  refine Goes.retRef X34 hx hlk rfl rfl Bd.returns (hb hby d15_9) ?_ (by decide) (by decide)
  rw [e34]
  exact ⟨r34, rfl, N34, K34, sz_r34, A34⟩
theorem d9_0 : decode prog_1_method_18_code 0 = .ok (.aload_n 0, 1) := by decide +kernel
theorem d9_1 : decode prog_1_method_18_code 1 = .ok (.getfield 21, 3) := by decide +kernel
theorem d9_4 : decode prog_1_method_18_code 4 = .ok (.i2l, 1) := by decide +kernel
theorem d9_5 : decode prog_1_method_18_code 5 = .ok (.iload_n 1, 1) := by decide +kernel
theorem d9_6 : decode prog_1_method_18_code 6 = .ok (.i2l, 1) := by decide +kernel
theorem d9_7 : decode prog_1_method_18_code 7 = .ok (.ladd, 1) := by decide +kernel
theorem d9_8 : decode prog_1_method_18_code 8 = .ok (.lstore_n 2, 1) := by decide +kernel
theorem d9_9 : decode prog_1_method_18_code 9 = .ok (.lload_n 2, 1) := by decide +kernel
theorem d9_10 : decode prog_1_method_18_code 10 = .ok (.aload_n 0, 1) := by decide +kernel
theorem d9_11 : decode prog_1_method_18_code 11 = .ok (.getfield 11, 3) := by decide +kernel
theorem d9_14 : decode prog_1_method_18_code 14 = .ok (.arraylength, 1) := by decide +kernel
theorem d9_15 : decode prog_1_method_18_code 15 = .ok (.i2l, 1) := by decide +kernel
theorem d9_16 : decode prog_1_method_18_code 16 = .ok (.lcmp, 1) := by decide +kernel
theorem d9_17 : decode prog_1_method_18_code 17 = .ok (.ifCond .gt 4, 3) := by decide +kernel
theorem d9_20 : decode prog_1_method_18_code 20 = .ok (.return_, 1) := by decide +kernel
theorem d9_21 : decode prog_1_method_18_code 21 = .ok (.aload_n 0, 1) := by decide +kernel
theorem d9_22 : decode prog_1_method_18_code 22 = .ok (.getfield 11, 3) := by decide +kernel
theorem d9_25 : decode prog_1_method_18_code 25 = .ok (.arraylength, 1) := by decide +kernel
theorem d9_26 : decode prog_1_method_18_code 26 = .ok (.i2l, 1) := by decide +kernel
theorem d9_27 : decode prog_1_method_18_code 27 = .ok (.lstore 4, 2) := by decide +kernel
theorem d9_29 : decode prog_1_method_18_code 29 = .ok (.lload 4, 2) := by decide +kernel
theorem d9_31 : decode prog_1_method_18_code 31 = .ok (.lload_n 2, 1) := by decide +kernel
theorem d9_32 : decode prog_1_method_18_code 32 = .ok (.lcmp, 1) := by decide +kernel
theorem d9_33 : decode prog_1_method_18_code 33 = .ok (.ifCond .ge 14, 3) := by decide +kernel
theorem d9_36 : decode prog_1_method_18_code 36 = .ok (.lload 4, 2) := by decide +kernel
theorem d9_38 : decode prog_1_method_18_code 38 = .ok (.ldc2_w 98, 3) := by decide +kernel
theorem d9_41 : decode prog_1_method_18_code 41 = .ok (.lmul, 1) := by decide +kernel
theorem d9_42 : decode prog_1_method_18_code 42 = .ok (.lstore 4, 2) := by decide +kernel
theorem d9_44 : decode prog_1_method_18_code 44 = .ok (.goto (-15), 3) := by decide +kernel
theorem d9_47 : decode prog_1_method_18_code 47 = .ok (.lload 4, 2) := by decide +kernel
theorem d9_49 : decode prog_1_method_18_code 49 = .ok (.ldc2_w 100, 3) := by decide +kernel
theorem d9_52 : decode prog_1_method_18_code 52 = .ok (.lcmp, 1) := by decide +kernel
theorem d9_53 : decode prog_1_method_18_code 53 = .ok (.ifCond .le 30, 3) := by decide +kernel
theorem d9_56 : decode prog_1_method_18_code 56 = .ok (.lload_n 2, 1) := by decide +kernel
theorem d9_57 : decode prog_1_method_18_code 57 = .ok (.ldc2_w 100, 3) := by decide +kernel
theorem d9_60 : decode prog_1_method_18_code 60 = .ok (.lcmp, 1) := by decide +kernel
theorem d9_61 : decode prog_1_method_18_code 61 = .ok (.ifCond .le 17, 3) := by decide +kernel
theorem d9_64 : decode prog_1_method_18_code 64 = .ok (.new 102, 3) := by decide +kernel
theorem d9_67 : decode prog_1_method_18_code 67 = .ok (.dup, 1) := by decide +kernel
theorem d9_68 : decode prog_1_method_18_code 68 = .ok (.lload_n 2, 1) := by decide +kernel
theorem d9_69 : decode prog_1_method_18_code 69 = .ok (.invokedynamic 104, 5) := by decide +kernel
theorem d9_74 : decode prog_1_method_18_code 74 = .ok (.invokespecial 108, 3) := by decide +kernel
theorem d9_77 : decode prog_1_method_18_code 77 = .ok (.athrow, 1) := by decide +kernel
theorem d9_78 : decode prog_1_method_18_code 78 = .ok (.ldc2_w 100, 3) := by decide +kernel
theorem d9_81 : decode prog_1_method_18_code 81 = .ok (.lstore 4, 2) := by decide +kernel
theorem d9_83 : decode prog_1_method_18_code 83 = .ok (.aload_n 0, 1) := by decide +kernel
theorem d9_84 : decode prog_1_method_18_code 84 = .ok (.aload_n 0, 1) := by decide +kernel
theorem d9_85 : decode prog_1_method_18_code 85 = .ok (.getfield 11, 3) := by decide +kernel
theorem d9_88 : decode prog_1_method_18_code 88 = .ok (.lload 4, 2) := by decide +kernel
theorem d9_90 : decode prog_1_method_18_code 90 = .ok (.l2i, 1) := by decide +kernel
theorem d9_91 : decode prog_1_method_18_code 91 = .ok (.invokestatic 109, 3) := by decide +kernel
theorem d9_94 : decode prog_1_method_18_code 94 = .ok (.putfield 11, 3) := by decide +kernel
theorem d9_97 : decode prog_1_method_18_code 97 = .ok (.return_, 1) := by decide +kernel
theorem pn_9 : plainFor (⟨"corbel/structures/ArrayStack", "growFor", "(I)V"⟩ : MethodName) = true := plainFor_of_name (by first | (simp [plainName, overriddenIn]; done) | decide +kernel)
theorem ef_9s0 (m : MethodId) (x0 : Addr) (x1 : Int32) : entryFrame m #[(.ref x0), (.int x1)] 6 = mkF m 0 #[.val (.ref x0), .val (.int x1), .unset, .unset, .unset, .unset] [] := by first | (simp [entryFrame, mkF, argsToLocals, Value.category]; done) | rfl
def Q9s0 (Z : State) (a1 : Addr) (ar : Addr) (mr : Addr) (md : Int32) (h0 : Heap) (n0 : Nat) (v : Option Value) (h : Heap) (L : List Loc) : Prop := v = none ∧ Fr n0 L ∧ h = h0
set_option maxRecDepth 65536 in
set_option maxHeartbeats 40000000 in
theorem rm9s0 (l : Launch) (Z : State) (a0 : Array Value) (hw : ∀ d ∈ tables_1, d.before a0 Z = true) (ws : List Jvm.Cond) (a1 : Addr) (ar : Addr) (mr : Addr) (md : Int32) (h0 : Heap) (n0 : Nat) (Z0 : n0 ≤ h0.size) (E1 : Exa Z h0 a1 "corbel/structures/ArrayStack") (F1e : Fld Z h0 a1 "corbel/structures/ArrayStack" "elements" "[Ljava/lang/Object;" (.ref ar)) (F1s : Fld Z h0 a1 "corbel/structures/ArrayStack" "size" "I" (.int (0 : Int32))) (F1m : Fld Z h0 a1 "java/util/AbstractList" "modCount" "I" (.int md)) (A1 : AR Z h0 ar [.null]) (g_a1 : n0 ≤ a1) (g_ar : n0 ≤ ar) (M0 : Mir Z "[Ljava/lang/Object;" mr) :
    MetFree l (⟨"corbel/structures/ArrayStack", "growFor", "(I)V"⟩ : MethodName) (head1 (Jvm.Cond.code (⟨"corbel/structures/ArrayStack", "growFor", "(I)V"⟩ : MethodName) prog_1_method_18_code 6 none :: ws) ({ frames := 0, cells := 0, slots := 0, locals := 0 } : Room)) (fun a U => a = #[(.ref a1), (.int (1 : Int32))] ∧ Z.Warmed39 U.vm ∧ U.heap = h0) (fun _ _ _ _ _ => True) (fun _ U o U' => ∃ v L, o = .returned v ∧ Q9s0 Z a1 ar mr md h0 n0 v U'.heap L ∧ FrameEnd U o U' L ({ frames := 0, cells := 0, slots := 0, locals := 0 } : Room).cells ({ frames := 0, cells := 0, slots := 0, locals := 0 } : Room).slots) := by
  refine MetFree.of_bodySF pn_9 hisR ?_
  intro p e s m args below meth c s₁ Bd hml0 hP hK
  obtain ⟨rfl, hZ, hh⟩ := hP
  have hx := Bd.exec
  have hby := Bd.bytes
  have hml : c.maxLocals = 6 := hml0
  have hown : s.vm.findClass "corbel/structures/ArrayStack" = some m.cls := findClass_of_methodNamed Bd.named
  have hnm := (name_of_methodNamed Bd.named Bd.method).1
  have hlk : meth.locks = false := BodyLoose.notSynchronized Bd
  have X0 : Stand p l e ({ frames := 0, cells := 0, slots := 0, locals := 0 } : Room) s m #[(.ref a1), (.int (1 : Int32))] below meth c s₁ [] 0 0 := Stand.of_body Bd
  have e0 : s₁.heap = h0 := by rw [← hh, Bd.state]; rfl
  have N0 := Fr.nil n0
  show Goes p e below (OwnK s (Q9s0 Z a1 ar mr md h0 n0) ({ frames := 0, cells := 0, slots := 0, locals := 0 } : Room).cells ({ frames := 0, cells := 0, slots := 0, locals := 0 } : Room).slots) s₁ (entryFrame m #[(.ref a1), (.int (1 : Int32))] 6)
  refine Goes.cast (ef_9s0 m a1 (1 : Int32)) ?_
  generalize hKK : OwnK s (Q9s0 Z a1 ar mr md h0 n0) ({ frames := 0, cells := 0, slots := 0, locals := 0 } : Room).cells ({ frames := 0, cells := 0, slots := 0, locals := 0 } : Room).slots = KK
  show Goes p e below KK s₁ (mkF m 0 #[.val (.ref a1), .val (.int (1 : Int32)), .unset, .unset, .unset, .unset] [])
  have w_29 := hw _ (List.mem_of_getElem? (i := 29) rfl)
  have w_59 := hw _ (List.mem_of_getElem? (i := 59) rfl)
  refine Goes.of (fun t => XS.aloadN X0.here hx rfl (hb hby d9_0) rfl rfl) ?_
  show Goes p e below KK s₁ (mkF m 1 #[.val (.ref a1), .val (.int (1 : Int32)), .unset, .unset, .unset, .unset] [(.ref a1)])
  obtain ⟨T35, X35, e35, st35⟩ := getF X0 hx hZ hown (host := "") (Or.inl w_59) Via.refl e0 F1s (g := (mkF m 1 #[.val (.ref a1), .val (.int (1 : Int32)), .unset, .unset, .unset, .unset] [(.ref a1)])) rfl rfl (hb hby d9_1)
  refine Goes.of (st35) ?_
  show Goes p e below KK T35 (mkF m 4 #[.val (.ref a1), .val (.int (1 : Int32)), .unset, .unset, .unset, .unset] [(.int (0 : Int32))])
  refine Goes.of (fun t => XT.i2l X35.here hx rfl (hb hby d9_4) rfl) ?_
  show Goes p e below KK T35 (mkF m 5 #[.val (.ref a1), .val (.int (1 : Int32)), .unset, .unset, .unset, .unset] [(.long (0 : Int64))])
  refine Goes.of (fun t => XS.iloadN X35.here hx rfl (hb hby d9_5) rfl) ?_
  show Goes p e below KK T35 (mkF m 6 #[.val (.ref a1), .val (.int (1 : Int32)), .unset, .unset, .unset, .unset] [(.int (1 : Int32)), (.long (0 : Int64))])
  refine Goes.of (fun t => XT.i2l X35.here hx rfl (hb hby d9_6) rfl) ?_
  show Goes p e below KK T35 (mkF m 7 #[.val (.ref a1), .val (.int (1 : Int32)), .unset, .unset, .unset, .unset] [(.long (1 : Int64)), (.long (0 : Int64))])
  refine Goes.of (fun t => XT.ladd X35.here hx rfl (hb hby d9_7) rfl) ?_
  show Goes p e below KK T35 (mkF m 8 #[.val (.ref a1), .val (.int (1 : Int32)), .unset, .unset, .unset, .unset] [(.long (1 : Int64))])
  refine Goes.of (fun t => XT.lstoreN X35.here hx rfl (hb hby d9_8) rfl (l' := #[.val (.ref a1), .val (.int (1 : Int32)), .val (.long (1 : Int64)), .second, .unset, .unset]) rfl) ?_
  show Goes p e below KK T35 (mkF m 9 #[.val (.ref a1), .val (.int (1 : Int32)), .val (.long (1 : Int64)), .second, .unset, .unset] [])
  refine Goes.of (fun t => XT.lloadN X35.here hx rfl (hb hby d9_9) rfl) ?_
  show Goes p e below KK T35 (mkF m 10 #[.val (.ref a1), .val (.int (1 : Int32)), .val (.long (1 : Int64)), .second, .unset, .unset] [(.long (1 : Int64))])
  refine Goes.of (fun t => XS.aloadN X35.here hx rfl (hb hby d9_10) rfl rfl) ?_
  show Goes p e below KK T35 (mkF m 11 #[.val (.ref a1), .val (.int (1 : Int32)), .val (.long (1 : Int64)), .second, .unset, .unset] [(.ref a1), (.long (1 : Int64))])
  obtain ⟨T36, X36, e36, st36⟩ := getF X35 hx hZ hown (host := "") (Or.inl w_29) Via.refl e35 F1e (g := (mkF m 11 #[.val (.ref a1), .val (.int (1 : Int32)), .val (.long (1 : Int64)), .second, .unset, .unset] [(.ref a1), (.long (1 : Int64))])) rfl rfl (hb hby d9_11)
  refine Goes.of (st36) ?_
  show Goes p e below KK T36 (mkF m 14 #[.val (.ref a1), .val (.int (1 : Int32)), .val (.long (1 : Int64)), .second, .unset, .unset] [(.ref ar), (.long (1 : Int64))])
  refine Goes.of (AR.arraylength X36 hx hZ e36 A1 (j := (1 : Int32)) (rfl) (g := (mkF m 14 #[.val (.ref a1), .val (.int (1 : Int32)), .val (.long (1 : Int64)), .second, .unset, .unset] [(.ref ar), (.long (1 : Int64))])) rfl rfl (hb hby d9_14)) ?_
  show Goes p e below KK T36 (mkF m 15 #[.val (.ref a1), .val (.int (1 : Int32)), .val (.long (1 : Int64)), .second, .unset, .unset] [(.int (1 : Int32)), (.long (1 : Int64))])
  refine Goes.of (fun t => XT.i2l X36.here hx rfl (hb hby d9_15) rfl) ?_
  show Goes p e below KK T36 (mkF m 16 #[.val (.ref a1), .val (.int (1 : Int32)), .val (.long (1 : Int64)), .second, .unset, .unset] [(.long (1 : Int64)), (.long (1 : Int64))])
  refine Goes.of (fun t => XT.lcmp X36.here hx rfl (hb hby d9_16) rfl) ?_
  show Goes p e below KK T36 (mkF m 17 #[.val (.ref a1), .val (.int (1 : Int32)), .val (.long (1 : Int64)), .second, .unset, .unset] [(.int (XT.cmpL (1 : Int64) (1 : Int64)))])
  refine Goes.of (fun t => XS.ifNo X36.here hx rfl (hb hby d9_17) rfl ((if0 _ _).trans (flt (show ¬ ((0 : Int32) < (XT.cmpL (1 : Int64) (1 : Int64))) from by decide)).2.2.1)) ?_
  show Goes p e below KK T36 (mkF m 20 #[.val (.ref a1), .val (.int (1 : Int32)), .val (.long (1 : Int64)), .second, .unset, .unset] [])
  rw [← hKK]
  refine Goes.retVoid X36 hx hlk Bd.returns (hb hby d9_20) ?_ (by decide) (by decide)
  rw [e36]
  exact ⟨rfl, N0, rfl⟩
theorem pd_29 : parseMethodDescriptor "([Ljava/lang/Object;I)[Ljava/lang/Object;" = some ⟨[(.array (.object "java/lang/Object")), .int], some (.array (.object "java/lang/Object"))⟩ := by decide +kernel
theorem ef_9s1 (m : MethodId) (x0 : Addr) (x1 : Int32) : entryFrame m #[(.ref x0), (.int x1)] 6 = mkF m 0 #[.val (.ref x0), .val (.int x1), .unset, .unset, .unset, .unset] [] := by first | (simp [entryFrame, mkF, argsToLocals, Value.category]; done) | rfl
def Q9s1 (Z : State) (a1 : Addr) (ar : Addr) (mr : Addr) (md : Int32) (y0 : Addr) (h0 : Heap) (n0 : Nat) (v : Option Value) (h : Heap) (L : List Loc) : Prop := ∃ b, v = none ∧ Fr n0 L ∧ Keep h0 h [a1] ∧ h0.size ≤ b ∧ Exa Z h a1 "corbel/structures/ArrayStack" ∧ Fld Z h a1 "corbel/structures/ArrayStack" "elements" "[Ljava/lang/Object;" (.ref b) ∧ Fld Z h a1 "corbel/structures/ArrayStack" "size" "I" (.int (1 : Int32)) ∧ Fld Z h a1 "java/util/AbstractList" "modCount" "I" (.int md) ∧ AR Z h b [(.ref y0), .null]
set_option maxRecDepth 65536 in
set_option maxHeartbeats 40000000 in
theorem rm9s1 (l : Launch) (Z : State) (a0 : Array Value) (hw : ∀ d ∈ tables_1, d.before a0 Z = true) (ws : List Jvm.Cond) (a1 : Addr) (ar : Addr) (mr : Addr) (md : Int32) (y0 : Addr) (h0 : Heap) (n0 : Nat) (Z0 : n0 ≤ h0.size) (E1 : Exa Z h0 a1 "corbel/structures/ArrayStack") (F1e : Fld Z h0 a1 "corbel/structures/ArrayStack" "elements" "[Ljava/lang/Object;" (.ref ar)) (F1s : Fld Z h0 a1 "corbel/structures/ArrayStack" "size" "I" (.int (1 : Int32))) (F1m : Fld Z h0 a1 "java/util/AbstractList" "modCount" "I" (.int md)) (A1 : AR Z h0 ar [(.ref y0)]) (Ey_y0 : Exa Z h0 y0 "java/lang/Integer") (g_a1 : n0 ≤ a1) (g_ar : n0 ≤ ar) (M0 : Mir Z "[Ljava/lang/Object;" mr) :
    MetFree l (⟨"corbel/structures/ArrayStack", "growFor", "(I)V"⟩ : MethodName) (head1 (Jvm.Cond.code (⟨"corbel/structures/ArrayStack", "growFor", "(I)V"⟩ : MethodName) prog_1_method_18_code 6 none :: ws) ({ frames := 3, cells := 1, slots := 2, locals := 69 } : Room)) (fun a U => a = #[(.ref a1), (.int (1 : Int32))] ∧ Z.Warmed39 U.vm ∧ U.heap = h0) (fun _ _ _ _ _ => True) (fun _ U o U' => ∃ v L, o = .returned v ∧ Q9s1 Z a1 ar mr md y0 h0 n0 v U'.heap L ∧ FrameEnd U o U' L ({ frames := 3, cells := 1, slots := 2, locals := 69 } : Room).cells ({ frames := 3, cells := 1, slots := 2, locals := 69 } : Room).slots) := by
  refine MetFree.of_bodySF pn_9 hisR ?_
  intro p e s m args below meth c s₁ Bd hml0 hP hK
  obtain ⟨rfl, hZ, hh⟩ := hP
  have hx := Bd.exec
  have hby := Bd.bytes
  have hml : c.maxLocals = 6 := hml0
  have hown : s.vm.findClass "corbel/structures/ArrayStack" = some m.cls := findClass_of_methodNamed Bd.named
  have hnm := (name_of_methodNamed Bd.named Bd.method).1
  have hlk : meth.locks = false := BodyLoose.notSynchronized Bd
  have X0 : Stand p l e ({ frames := 3, cells := 1, slots := 2, locals := 69 } : Room) s m #[(.ref a1), (.int (1 : Int32))] below meth c s₁ [] 0 0 := Stand.of_body Bd
  have e0 : s₁.heap = h0 := by rw [← hh, Bd.state]; rfl
  have N0 := Fr.nil n0
  show Goes p e below (OwnK s (Q9s1 Z a1 ar mr md y0 h0 n0) ({ frames := 3, cells := 1, slots := 2, locals := 69 } : Room).cells ({ frames := 3, cells := 1, slots := 2, locals := 69 } : Room).slots) s₁ (entryFrame m #[(.ref a1), (.int (1 : Int32))] 6)
  refine Goes.cast (ef_9s1 m a1 (1 : Int32)) ?_
  generalize hKK : OwnK s (Q9s1 Z a1 ar mr md y0 h0 n0) ({ frames := 3, cells := 1, slots := 2, locals := 69 } : Room).cells ({ frames := 3, cells := 1, slots := 2, locals := 69 } : Room).slots = KK
  show Goes p e below KK s₁ (mkF m 0 #[.val (.ref a1), .val (.int (1 : Int32)), .unset, .unset, .unset, .unset] [])
  have w_1 := hw _ (List.mem_of_getElem? (i := 1) rfl)
  have w_26 := hw _ (List.mem_of_getElem? (i := 26) rfl)
  have w_29 := hw _ (List.mem_of_getElem? (i := 29) rfl)
  have w_30 := hw _ (List.mem_of_getElem? (i := 30) rfl)
  have w_59 := hw _ (List.mem_of_getElem? (i := 59) rfl)
  have w_60 := hw _ (List.mem_of_getElem? (i := 60) rfl)
  have w_90 := hw _ (List.mem_of_getElem? (i := 90) rfl)
  have w_91 := hw _ (List.mem_of_getElem? (i := 91) rfl)
  have w_92 := hw _ (List.mem_of_getElem? (i := 92) rfl)
  have w_93 := hw _ (List.mem_of_getElem? (i := 93) rfl)
  have w_94 := hw _ (List.mem_of_getElem? (i := 94) rfl)
  have w_95 := hw _ (List.mem_of_getElem? (i := 95) rfl)
  refine Goes.of (fun t => XS.aloadN X0.here hx rfl (hb hby d9_0) rfl rfl) ?_
  show Goes p e below KK s₁ (mkF m 1 #[.val (.ref a1), .val (.int (1 : Int32)), .unset, .unset, .unset, .unset] [(.ref a1)])
  obtain ⟨T37, X37, e37, st37⟩ := getF X0 hx hZ hown (host := "") (Or.inl w_59) Via.refl e0 F1s (g := (mkF m 1 #[.val (.ref a1), .val (.int (1 : Int32)), .unset, .unset, .unset, .unset] [(.ref a1)])) rfl rfl (hb hby d9_1)
  refine Goes.of (st37) ?_
  show Goes p e below KK T37 (mkF m 4 #[.val (.ref a1), .val (.int (1 : Int32)), .unset, .unset, .unset, .unset] [(.int (1 : Int32))])
  refine Goes.of (fun t => XT.i2l X37.here hx rfl (hb hby d9_4) rfl) ?_
  show Goes p e below KK T37 (mkF m 5 #[.val (.ref a1), .val (.int (1 : Int32)), .unset, .unset, .unset, .unset] [(.long (1 : Int64))])
  refine Goes.of (fun t => XS.iloadN X37.here hx rfl (hb hby d9_5) rfl) ?_
  show Goes p e below KK T37 (mkF m 6 #[.val (.ref a1), .val (.int (1 : Int32)), .unset, .unset, .unset, .unset] [(.int (1 : Int32)), (.long (1 : Int64))])
  refine Goes.of (fun t => XT.i2l X37.here hx rfl (hb hby d9_6) rfl) ?_
  show Goes p e below KK T37 (mkF m 7 #[.val (.ref a1), .val (.int (1 : Int32)), .unset, .unset, .unset, .unset] [(.long (1 : Int64)), (.long (1 : Int64))])
  refine Goes.of (fun t => XT.ladd X37.here hx rfl (hb hby d9_7) rfl) ?_
  show Goes p e below KK T37 (mkF m 8 #[.val (.ref a1), .val (.int (1 : Int32)), .unset, .unset, .unset, .unset] [(.long (2 : Int64))])
  refine Goes.of (fun t => XT.lstoreN X37.here hx rfl (hb hby d9_8) rfl (l' := #[.val (.ref a1), .val (.int (1 : Int32)), .val (.long (2 : Int64)), .second, .unset, .unset]) rfl) ?_
  show Goes p e below KK T37 (mkF m 9 #[.val (.ref a1), .val (.int (1 : Int32)), .val (.long (2 : Int64)), .second, .unset, .unset] [])
  refine Goes.of (fun t => XT.lloadN X37.here hx rfl (hb hby d9_9) rfl) ?_
  show Goes p e below KK T37 (mkF m 10 #[.val (.ref a1), .val (.int (1 : Int32)), .val (.long (2 : Int64)), .second, .unset, .unset] [(.long (2 : Int64))])
  refine Goes.of (fun t => XS.aloadN X37.here hx rfl (hb hby d9_10) rfl rfl) ?_
  show Goes p e below KK T37 (mkF m 11 #[.val (.ref a1), .val (.int (1 : Int32)), .val (.long (2 : Int64)), .second, .unset, .unset] [(.ref a1), (.long (2 : Int64))])
  obtain ⟨T38, X38, e38, st38⟩ := getF X37 hx hZ hown (host := "") (Or.inl w_29) Via.refl e37 F1e (g := (mkF m 11 #[.val (.ref a1), .val (.int (1 : Int32)), .val (.long (2 : Int64)), .second, .unset, .unset] [(.ref a1), (.long (2 : Int64))])) rfl rfl (hb hby d9_11)
  refine Goes.of (st38) ?_
  show Goes p e below KK T38 (mkF m 14 #[.val (.ref a1), .val (.int (1 : Int32)), .val (.long (2 : Int64)), .second, .unset, .unset] [(.ref ar), (.long (2 : Int64))])
  refine Goes.of (AR.arraylength X38 hx hZ e38 A1 (j := (1 : Int32)) (rfl) (g := (mkF m 14 #[.val (.ref a1), .val (.int (1 : Int32)), .val (.long (2 : Int64)), .second, .unset, .unset] [(.ref ar), (.long (2 : Int64))])) rfl rfl (hb hby d9_14)) ?_
  show Goes p e below KK T38 (mkF m 15 #[.val (.ref a1), .val (.int (1 : Int32)), .val (.long (2 : Int64)), .second, .unset, .unset] [(.int (1 : Int32)), (.long (2 : Int64))])
  refine Goes.of (fun t => XT.i2l X38.here hx rfl (hb hby d9_15) rfl) ?_
  show Goes p e below KK T38 (mkF m 16 #[.val (.ref a1), .val (.int (1 : Int32)), .val (.long (2 : Int64)), .second, .unset, .unset] [(.long (1 : Int64)), (.long (2 : Int64))])
  refine Goes.of (fun t => XT.lcmp X38.here hx rfl (hb hby d9_16) rfl) ?_
  show Goes p e below KK T38 (mkF m 17 #[.val (.ref a1), .val (.int (1 : Int32)), .val (.long (2 : Int64)), .second, .unset, .unset] [(.int (XT.cmpL (2 : Int64) (1 : Int64)))])
  refine Goes.of (fun t => XS.ifYes X38.here hx rfl (pc0 := 17) (pc' := 21) rfl (hb hby d9_17) rfl ((if0 _ _).trans (tlt (show (0 : Int32) < (XT.cmpL (2 : Int64) (1 : Int64)) from by decide)).2.2.1) (by decide) (by decide)) ?_
  show Goes p e below KK T38 (mkF m 21 #[.val (.ref a1), .val (.int (1 : Int32)), .val (.long (2 : Int64)), .second, .unset, .unset] [])
  refine Goes.of (fun t => XS.aloadN X38.here hx rfl (hb hby d9_21) rfl rfl) ?_
  show Goes p e below KK T38 (mkF m 22 #[.val (.ref a1), .val (.int (1 : Int32)), .val (.long (2 : Int64)), .second, .unset, .unset] [(.ref a1)])
  obtain ⟨T39, X39, e39, st39⟩ := getF X38 hx hZ hown (host := "") (Or.inl w_29) Via.refl e38 F1e (g := (mkF m 22 #[.val (.ref a1), .val (.int (1 : Int32)), .val (.long (2 : Int64)), .second, .unset, .unset] [(.ref a1)])) rfl rfl (hb hby d9_22)
  refine Goes.of (st39) ?_
  show Goes p e below KK T39 (mkF m 25 #[.val (.ref a1), .val (.int (1 : Int32)), .val (.long (2 : Int64)), .second, .unset, .unset] [(.ref ar)])
  refine Goes.of (AR.arraylength X39 hx hZ e39 A1 (j := (1 : Int32)) (rfl) (g := (mkF m 25 #[.val (.ref a1), .val (.int (1 : Int32)), .val (.long (2 : Int64)), .second, .unset, .unset] [(.ref ar)])) rfl rfl (hb hby d9_25)) ?_
  show Goes p e below KK T39 (mkF m 26 #[.val (.ref a1), .val (.int (1 : Int32)), .val (.long (2 : Int64)), .second, .unset, .unset] [(.int (1 : Int32))])
  refine Goes.of (fun t => XT.i2l X39.here hx rfl (hb hby d9_26) rfl) ?_
  show Goes p e below KK T39 (mkF m 27 #[.val (.ref a1), .val (.int (1 : Int32)), .val (.long (2 : Int64)), .second, .unset, .unset] [(.long (1 : Int64))])
  refine Goes.of (fun t => XT.lstore X39.here hx rfl (hb hby d9_27) rfl (l' := #[.val (.ref a1), .val (.int (1 : Int32)), .val (.long (2 : Int64)), .second, .val (.long (1 : Int64)), .second]) rfl) ?_
  show Goes p e below KK T39 (mkF m 29 #[.val (.ref a1), .val (.int (1 : Int32)), .val (.long (2 : Int64)), .second, .val (.long (1 : Int64)), .second] [])
  refine Goes.of (fun t => XT.lload X39.here hx rfl (hb hby d9_29) rfl) ?_
  show Goes p e below KK T39 (mkF m 31 #[.val (.ref a1), .val (.int (1 : Int32)), .val (.long (2 : Int64)), .second, .val (.long (1 : Int64)), .second] [(.long (1 : Int64))])
  refine Goes.of (fun t => XT.lloadN X39.here hx rfl (hb hby d9_31) rfl) ?_
  show Goes p e below KK T39 (mkF m 32 #[.val (.ref a1), .val (.int (1 : Int32)), .val (.long (2 : Int64)), .second, .val (.long (1 : Int64)), .second] [(.long (2 : Int64)), (.long (1 : Int64))])
  refine Goes.of (fun t => XT.lcmp X39.here hx rfl (hb hby d9_32) rfl) ?_
  show Goes p e below KK T39 (mkF m 33 #[.val (.ref a1), .val (.int (1 : Int32)), .val (.long (2 : Int64)), .second, .val (.long (1 : Int64)), .second] [(.int (XT.cmpL (1 : Int64) (2 : Int64)))])
  refine Goes.of (fun t => XS.ifNo X39.here hx rfl (hb hby d9_33) rfl ((if0 _ _).trans (tlt (show (XT.cmpL (1 : Int64) (2 : Int64)) < (0 : Int32) from by decide)).2.1)) ?_
  show Goes p e below KK T39 (mkF m 36 #[.val (.ref a1), .val (.int (1 : Int32)), .val (.long (2 : Int64)), .second, .val (.long (1 : Int64)), .second] [])
  refine Goes.of (fun t => XT.lload X39.here hx rfl (hb hby d9_36) rfl) ?_
  show Goes p e below KK T39 (mkF m 38 #[.val (.ref a1), .val (.int (1 : Int32)), .val (.long (2 : Int64)), .second, .val (.long (1 : Int64)), .second] [(.long (1 : Int64))])
  refine Goes.of (X39.ldc2Long hx hown (mvT hZ w_90) (g := (mkF m 38 #[.val (.ref a1), .val (.int (1 : Int32)), .val (.long (2 : Int64)), .second, .val (.long (1 : Int64)), .second] [(.long (1 : Int64))])) rfl (hb hby d9_38)) ?_
  show Goes p e below KK T39 (mkF m 41 #[.val (.ref a1), .val (.int (1 : Int32)), .val (.long (2 : Int64)), .second, .val (.long (1 : Int64)), .second] [(.long (2 : Int64)), (.long (1 : Int64))])
  refine Goes.of (fun t => XT.lmul X39.here hx rfl (hb hby d9_41) rfl) ?_
  show Goes p e below KK T39 (mkF m 42 #[.val (.ref a1), .val (.int (1 : Int32)), .val (.long (2 : Int64)), .second, .val (.long (1 : Int64)), .second] [(.long (2 : Int64))])
  refine Goes.of (fun t => XT.lstore X39.here hx rfl (hb hby d9_42) rfl (l' := #[.val (.ref a1), .val (.int (1 : Int32)), .val (.long (2 : Int64)), .second, .val (.long (2 : Int64)), .second]) rfl) ?_
  show Goes p e below KK T39 (mkF m 44 #[.val (.ref a1), .val (.int (1 : Int32)), .val (.long (2 : Int64)), .second, .val (.long (2 : Int64)), .second] [])
  refine Goes.of (fun t => XS.goto X39.here hx rfl (pc0 := 44) (pc' := 29) rfl (hb hby d9_44) (by decide) (by decide)) ?_
  show Goes p e below KK T39 (mkF m 29 #[.val (.ref a1), .val (.int (1 : Int32)), .val (.long (2 : Int64)), .second, .val (.long (2 : Int64)), .second] [])
  refine Goes.of (fun t => XT.lload X39.here hx rfl (hb hby d9_29) rfl) ?_
  show Goes p e below KK T39 (mkF m 31 #[.val (.ref a1), .val (.int (1 : Int32)), .val (.long (2 : Int64)), .second, .val (.long (2 : Int64)), .second] [(.long (2 : Int64))])
  refine Goes.of (fun t => XT.lloadN X39.here hx rfl (hb hby d9_31) rfl) ?_
  show Goes p e below KK T39 (mkF m 32 #[.val (.ref a1), .val (.int (1 : Int32)), .val (.long (2 : Int64)), .second, .val (.long (2 : Int64)), .second] [(.long (2 : Int64)), (.long (2 : Int64))])
  refine Goes.of (fun t => XT.lcmp X39.here hx rfl (hb hby d9_32) rfl) ?_
  show Goes p e below KK T39 (mkF m 33 #[.val (.ref a1), .val (.int (1 : Int32)), .val (.long (2 : Int64)), .second, .val (.long (2 : Int64)), .second] [(.int (XT.cmpL (2 : Int64) (2 : Int64)))])
  refine Goes.of (fun t => XS.ifYes X39.here hx rfl (pc0 := 33) (pc' := 47) rfl (hb hby d9_33) rfl ((if0 _ _).trans (flt (show ¬ ((XT.cmpL (2 : Int64) (2 : Int64)) < (0 : Int32)) from by decide)).2.1) (by decide) (by decide)) ?_
  show Goes p e below KK T39 (mkF m 47 #[.val (.ref a1), .val (.int (1 : Int32)), .val (.long (2 : Int64)), .second, .val (.long (2 : Int64)), .second] [])
  refine Goes.of (fun t => XT.lload X39.here hx rfl (hb hby d9_47) rfl) ?_
  show Goes p e below KK T39 (mkF m 49 #[.val (.ref a1), .val (.int (1 : Int32)), .val (.long (2 : Int64)), .second, .val (.long (2 : Int64)), .second] [(.long (2 : Int64))])
  refine Goes.of (X39.ldc2Long hx hown (mvT hZ w_91) (g := (mkF m 49 #[.val (.ref a1), .val (.int (1 : Int32)), .val (.long (2 : Int64)), .second, .val (.long (2 : Int64)), .second] [(.long (2 : Int64))])) rfl (hb hby d9_49)) ?_
  show Goes p e below KK T39 (mkF m 52 #[.val (.ref a1), .val (.int (1 : Int32)), .val (.long (2 : Int64)), .second, .val (.long (2 : Int64)), .second] [(.long (2147483639 : Int64)), (.long (2 : Int64))])
  refine Goes.of (fun t => XT.lcmp X39.here hx rfl (hb hby d9_52) rfl) ?_
  show Goes p e below KK T39 (mkF m 53 #[.val (.ref a1), .val (.int (1 : Int32)), .val (.long (2 : Int64)), .second, .val (.long (2 : Int64)), .second] [(.int (XT.cmpL (2 : Int64) (2147483639 : Int64)))])
  refine Goes.of (fun t => XS.ifYes X39.here hx rfl (pc0 := 53) (pc' := 83) rfl (hb hby d9_53) rfl ((if0 _ _).trans (flt (show ¬ ((0 : Int32) < (XT.cmpL (2 : Int64) (2147483639 : Int64))) from by decide)).2.2.2) (by decide) (by decide)) ?_
  show Goes p e below KK T39 (mkF m 83 #[.val (.ref a1), .val (.int (1 : Int32)), .val (.long (2 : Int64)), .second, .val (.long (2 : Int64)), .second] [])
  refine Goes.of (fun t => XS.aloadN X39.here hx rfl (hb hby d9_83) rfl rfl) ?_
  show Goes p e below KK T39 (mkF m 84 #[.val (.ref a1), .val (.int (1 : Int32)), .val (.long (2 : Int64)), .second, .val (.long (2 : Int64)), .second] [(.ref a1)])
  refine Goes.of (fun t => XS.aloadN X39.here hx rfl (hb hby d9_84) rfl rfl) ?_
  show Goes p e below KK T39 (mkF m 85 #[.val (.ref a1), .val (.int (1 : Int32)), .val (.long (2 : Int64)), .second, .val (.long (2 : Int64)), .second] [(.ref a1), (.ref a1)])
  obtain ⟨T40, X40, e40, st40⟩ := getF X39 hx hZ hown (host := "") (Or.inl w_29) Via.refl e39 F1e (g := (mkF m 85 #[.val (.ref a1), .val (.int (1 : Int32)), .val (.long (2 : Int64)), .second, .val (.long (2 : Int64)), .second] [(.ref a1), (.ref a1)])) rfl rfl (hb hby d9_85)
  refine Goes.of (st40) ?_
  show Goes p e below KK T40 (mkF m 88 #[.val (.ref a1), .val (.int (1 : Int32)), .val (.long (2 : Int64)), .second, .val (.long (2 : Int64)), .second] [(.ref ar), (.ref a1)])
  refine Goes.of (fun t => XT.lload X40.here hx rfl (hb hby d9_88) rfl) ?_
  show Goes p e below KK T40 (mkF m 90 #[.val (.ref a1), .val (.int (1 : Int32)), .val (.long (2 : Int64)), .second, .val (.long (2 : Int64)), .second] [(.long (2 : Int64)), (.ref ar), (.ref a1)])
  refine Goes.of (fun t => XT.l2i X40.here hx rfl (hb hby d9_90) rfl) ?_
  show Goes p e below KK T40 (mkF m 91 #[.val (.ref a1), .val (.int (1 : Int32)), .val (.long (2 : Int64)), .second, .val (.long (2 : Int64)), .second] [(.int (2 : Int32)), (.ref ar), (.ref a1)])
  obtain ⟨_, _, ⟨T41, L41, k41, n41⟩, -, X41, ⟨Lc41, hQ41, l41, y41, z41⟩, st41⟩ := Jvm.LawKit.callS X40 hx (y := (⟨"java/util/Arrays", "copyOf", "([Ljava/lang/Object;I)[Ljava/lang/Object;"⟩ : MethodName)) hown (mvT hZ w_92) (mvT hZ w_93) (mvT hZ w_94) (mvT hZ w_95) (by decide) (backOf (W := 1) (rm15k1 l Z a0 hw [] ar mr y0 h0 n0 Z0 A1 Ey_y0 M0) hZ w_95 w_94 (by decide) (by decide)) (g := (mkF m 91 #[.val (.ref a1), .val (.int (1 : Int32)), .val (.long (2 : Int64)), .second, .val (.long (2 : Int64)), .second] [(.int (2 : Int32)), (.ref ar), (.ref a1)])) rfl (by rw [hml]; rfl) (argsL := [(.ref ar), (.int (2 : Int32))]) (rest := [(.ref a1)]) (lenOf pd_29 rfl) rfl (by show 2 * 0 + _ ≤ _; exact Nat.le_of_eq rfl) (hb hby d9_91) (fun _ _ => ⟨rfl, e40, (by decide : 0 + 1 ≤ _), (by decide : 0 + 2 ≤ _)⟩)
  dsimp only [Pt.U, Pt.locs, Pt.cells, Pt.slots] at X41 l41 y41 z41 st41 hQ41
  subst l41 y41 z41
  obtain ⟨r41, rfl, N41q, Kc41, hb41, A41⟩ := hQ41
  have N41 := Fr.app N0 N41q
  have ne_a1_r41 : a1 ≠ r41 := Nat.ne_of_lt (Nat.lt_of_lt_of_le E1.lt hb41)
  have ne_ar_r41 : ar ≠ r41 := Nat.ne_of_lt (Nat.lt_of_lt_of_le A1.lt hb41)
  have g_r41 : n0 ≤ r41 := Nat.le_trans Z0 hb41
  have sz_r41 : h0.size ≤ r41 := Nat.le_trans (Keep.refl h0 [a1]).1 hb41
  have E1_41 : Exa Z T41.heap a1 "corbel/structures/ArrayStack" := E1.keep Kc41
  have F1e_41 : Fld Z T41.heap a1 "corbel/structures/ArrayStack" "elements" "[Ljava/lang/Object;" (.ref ar) := F1e.keep Kc41 nin0
  have F1s_41 : Fld Z T41.heap a1 "corbel/structures/ArrayStack" "size" "I" (.int (1 : Int32)) := F1s.keep Kc41 nin0
  have F1m_41 : Fld Z T41.heap a1 "java/util/AbstractList" "modCount" "I" (.int md) := F1m.keep Kc41 nin0
  have A1_41 : AR Z T41.heap ar [(.ref y0)] := A1.keep Kc41 nin0
  have Ey_y0_41 : Exa Z T41.heap y0 "java/lang/Integer" := Ey_y0.keep Kc41
  have K41 : Keep h0 T41.heap [a1] := (Keep.refl h0 [a1]).trans Kc41 all0
  have Z41 : n0 ≤ T41.heap.size := Nat.le_trans Z0 Kc41.1
  have e41 : T41.heap = T41.heap := rfl
  refine Goes.of st41 ?_
  show Goes p e below KK T41 (mkF m 94 #[.val (.ref a1), .val (.int (1 : Int32)), .val (.long (2 : Int64)), .second, .val (.long (2 : Int64)), .second] [(.ref r41), (.ref a1)])
  obtain ⟨T42, h42, X42, e42, W42, st42⟩ := putF X41 hx hZ hown (host := "") (Or.inl w_29) Via.refl e41 F1e_41 E1_41 (Or.inl w_30) w_1 (ty := (.array (.object "java/lang/Object"))) (by decide) rfl rfl (g := (mkF m 94 #[.val (.ref a1), .val (.int (1 : Int32)), .val (.long (2 : Int64)), .second, .val (.long (2 : Int64)), .second] [(.ref r41), (.ref a1)])) rfl rfl (hb hby d9_94)
  refine Goes.of (st42) ?_
  have E1_41_42 : Exa Z h42 a1 "corbel/structures/ArrayStack" := E1_41.wr W42
  have F1s_41_42 : Fld Z h42 a1 "corbel/structures/ArrayStack" "size" "I" (.int (1 : Int32)) := F1s_41.other W42 (Or.inr (slot_ne (Or.inl w_60) (Or.inl w_30) (by decide) (t := .int) (t' := (.array (.object "java/lang/Object"))) (by decide) (by decide)))
  have F1m_41_42 : Fld Z h42 a1 "java/util/AbstractList" "modCount" "I" (.int md) := F1m_41.other W42 (Or.inr (slot_ne (Or.inl w_26) (Or.inl w_30) (by decide) (t := .int) (t' := (.array (.object "java/lang/Object"))) (by decide) (by decide)))
  have A1_41_42 : AR Z h42 ar [(.ref y0)] := A1_41.other W42 (Exa.ne A1_41.exa E1_41 (by decide))
  have Ey_y0_41_42 : Exa Z h42 y0 "java/lang/Integer" := Ey_y0_41.wr W42
  have A41_42 : AR Z h42 r41 [(.ref y0), .null] := A41.other W42 (Ne.symm ne_a1_r41)
  have K42 : Keep h0 h42 [a1] := K41.wr W42 (Or.inl (List.mem_of_getElem? (i := 0) rfl))
  have Z42 : n0 ≤ h42.size := Nat.le_trans Z41 (Keep.of_wr W42).1
  have N42 := Fr.snoc X42 N41 g_a1
  have F_elements_a1_42 : Fld Z h42 a1 "corbel/structures/ArrayStack" "elements" "[Ljava/lang/Object;" (.ref r41) := F1e_41.same W42
  show Goes p e below KK T42 (mkF m 97 #[.val (.ref a1), .val (.int (1 : Int32)), .val (.long (2 : Int64)), .second, .val (.long (2 : Int64)), .second] [])
  rw [← hKK]
  refine Goes.retVoid X42 hx hlk Bd.returns (hb hby d9_97) ?_ (by decide) (by decide)
  rw [e42]
  exact ⟨r41, rfl, N42, K42, sz_r41, E1_41_42, F_elements_a1_42, F1s_41_42, F1m_41_42, A41_42⟩
theorem ef_9s2 (m : MethodId) (x0 : Addr) (x1 : Int32) : entryFrame m #[(.ref x0), (.int x1)] 6 = mkF m 0 #[.val (.ref x0), .val (.int x1), .unset, .unset, .unset, .unset] [] := by first | (simp [entryFrame, mkF, argsToLocals, Value.category]; done) | rfl
def Q9s2 (Z : State) (a1 : Addr) (ar : Addr) (mr : Addr) (md : Int32) (y0 : Addr) (y1 : Addr) (h0 : Heap) (n0 : Nat) (v : Option Value) (h : Heap) (L : List Loc) : Prop := ∃ b, v = none ∧ Fr n0 L ∧ Keep h0 h [a1] ∧ h0.size ≤ b ∧ Exa Z h a1 "corbel/structures/ArrayStack" ∧ Fld Z h a1 "corbel/structures/ArrayStack" "elements" "[Ljava/lang/Object;" (.ref b) ∧ Fld Z h a1 "corbel/structures/ArrayStack" "size" "I" (.int (2 : Int32)) ∧ Fld Z h a1 "java/util/AbstractList" "modCount" "I" (.int md) ∧ AR Z h b [(.ref y0), (.ref y1), .null, .null]
set_option maxRecDepth 65536 in
set_option maxHeartbeats 40000000 in
theorem rm9s2 (l : Launch) (Z : State) (a0 : Array Value) (hw : ∀ d ∈ tables_1, d.before a0 Z = true) (ws : List Jvm.Cond) (a1 : Addr) (ar : Addr) (mr : Addr) (md : Int32) (y0 : Addr) (y1 : Addr) (h0 : Heap) (n0 : Nat) (Z0 : n0 ≤ h0.size) (E1 : Exa Z h0 a1 "corbel/structures/ArrayStack") (F1e : Fld Z h0 a1 "corbel/structures/ArrayStack" "elements" "[Ljava/lang/Object;" (.ref ar)) (F1s : Fld Z h0 a1 "corbel/structures/ArrayStack" "size" "I" (.int (2 : Int32))) (F1m : Fld Z h0 a1 "java/util/AbstractList" "modCount" "I" (.int md)) (A1 : AR Z h0 ar [(.ref y0), (.ref y1)]) (Ey_y0 : Exa Z h0 y0 "java/lang/Integer") (Ey_y1 : Exa Z h0 y1 "java/lang/Integer") (g_a1 : n0 ≤ a1) (g_ar : n0 ≤ ar) (M0 : Mir Z "[Ljava/lang/Object;" mr) :
    MetFree l (⟨"corbel/structures/ArrayStack", "growFor", "(I)V"⟩ : MethodName) (head1 (Jvm.Cond.code (⟨"corbel/structures/ArrayStack", "growFor", "(I)V"⟩ : MethodName) prog_1_method_18_code 6 none :: ws) ({ frames := 3, cells := 1, slots := 4, locals := 69 } : Room)) (fun a U => a = #[(.ref a1), (.int (1 : Int32))] ∧ Z.Warmed39 U.vm ∧ U.heap = h0) (fun _ _ _ _ _ => True) (fun _ U o U' => ∃ v L, o = .returned v ∧ Q9s2 Z a1 ar mr md y0 y1 h0 n0 v U'.heap L ∧ FrameEnd U o U' L ({ frames := 3, cells := 1, slots := 4, locals := 69 } : Room).cells ({ frames := 3, cells := 1, slots := 4, locals := 69 } : Room).slots) := by
  refine MetFree.of_bodySF pn_9 hisR ?_
  intro p e s m args below meth c s₁ Bd hml0 hP hK
  obtain ⟨rfl, hZ, hh⟩ := hP
  have hx := Bd.exec
  have hby := Bd.bytes
  have hml : c.maxLocals = 6 := hml0
  have hown : s.vm.findClass "corbel/structures/ArrayStack" = some m.cls := findClass_of_methodNamed Bd.named
  have hnm := (name_of_methodNamed Bd.named Bd.method).1
  have hlk : meth.locks = false := BodyLoose.notSynchronized Bd
  have X0 : Stand p l e ({ frames := 3, cells := 1, slots := 4, locals := 69 } : Room) s m #[(.ref a1), (.int (1 : Int32))] below meth c s₁ [] 0 0 := Stand.of_body Bd
  have e0 : s₁.heap = h0 := by rw [← hh, Bd.state]; rfl
  have N0 := Fr.nil n0
  show Goes p e below (OwnK s (Q9s2 Z a1 ar mr md y0 y1 h0 n0) ({ frames := 3, cells := 1, slots := 4, locals := 69 } : Room).cells ({ frames := 3, cells := 1, slots := 4, locals := 69 } : Room).slots) s₁ (entryFrame m #[(.ref a1), (.int (1 : Int32))] 6)
  refine Goes.cast (ef_9s2 m a1 (1 : Int32)) ?_
  generalize hKK : OwnK s (Q9s2 Z a1 ar mr md y0 y1 h0 n0) ({ frames := 3, cells := 1, slots := 4, locals := 69 } : Room).cells ({ frames := 3, cells := 1, slots := 4, locals := 69 } : Room).slots = KK
  show Goes p e below KK s₁ (mkF m 0 #[.val (.ref a1), .val (.int (1 : Int32)), .unset, .unset, .unset, .unset] [])
  have w_1 := hw _ (List.mem_of_getElem? (i := 1) rfl)
  have w_26 := hw _ (List.mem_of_getElem? (i := 26) rfl)
  have w_29 := hw _ (List.mem_of_getElem? (i := 29) rfl)
  have w_30 := hw _ (List.mem_of_getElem? (i := 30) rfl)
  have w_59 := hw _ (List.mem_of_getElem? (i := 59) rfl)
  have w_60 := hw _ (List.mem_of_getElem? (i := 60) rfl)
  have w_90 := hw _ (List.mem_of_getElem? (i := 90) rfl)
  have w_91 := hw _ (List.mem_of_getElem? (i := 91) rfl)
  have w_92 := hw _ (List.mem_of_getElem? (i := 92) rfl)
  have w_93 := hw _ (List.mem_of_getElem? (i := 93) rfl)
  have w_94 := hw _ (List.mem_of_getElem? (i := 94) rfl)
  have w_95 := hw _ (List.mem_of_getElem? (i := 95) rfl)
  refine Goes.of (fun t => XS.aloadN X0.here hx rfl (hb hby d9_0) rfl rfl) ?_
  show Goes p e below KK s₁ (mkF m 1 #[.val (.ref a1), .val (.int (1 : Int32)), .unset, .unset, .unset, .unset] [(.ref a1)])
  obtain ⟨T43, X43, e43, st43⟩ := getF X0 hx hZ hown (host := "") (Or.inl w_59) Via.refl e0 F1s (g := (mkF m 1 #[.val (.ref a1), .val (.int (1 : Int32)), .unset, .unset, .unset, .unset] [(.ref a1)])) rfl rfl (hb hby d9_1)
  refine Goes.of (st43) ?_
  show Goes p e below KK T43 (mkF m 4 #[.val (.ref a1), .val (.int (1 : Int32)), .unset, .unset, .unset, .unset] [(.int (2 : Int32))])
  refine Goes.of (fun t => XT.i2l X43.here hx rfl (hb hby d9_4) rfl) ?_
  show Goes p e below KK T43 (mkF m 5 #[.val (.ref a1), .val (.int (1 : Int32)), .unset, .unset, .unset, .unset] [(.long (2 : Int64))])
  refine Goes.of (fun t => XS.iloadN X43.here hx rfl (hb hby d9_5) rfl) ?_
  show Goes p e below KK T43 (mkF m 6 #[.val (.ref a1), .val (.int (1 : Int32)), .unset, .unset, .unset, .unset] [(.int (1 : Int32)), (.long (2 : Int64))])
  refine Goes.of (fun t => XT.i2l X43.here hx rfl (hb hby d9_6) rfl) ?_
  show Goes p e below KK T43 (mkF m 7 #[.val (.ref a1), .val (.int (1 : Int32)), .unset, .unset, .unset, .unset] [(.long (1 : Int64)), (.long (2 : Int64))])
  refine Goes.of (fun t => XT.ladd X43.here hx rfl (hb hby d9_7) rfl) ?_
  show Goes p e below KK T43 (mkF m 8 #[.val (.ref a1), .val (.int (1 : Int32)), .unset, .unset, .unset, .unset] [(.long (3 : Int64))])
  refine Goes.of (fun t => XT.lstoreN X43.here hx rfl (hb hby d9_8) rfl (l' := #[.val (.ref a1), .val (.int (1 : Int32)), .val (.long (3 : Int64)), .second, .unset, .unset]) rfl) ?_
  show Goes p e below KK T43 (mkF m 9 #[.val (.ref a1), .val (.int (1 : Int32)), .val (.long (3 : Int64)), .second, .unset, .unset] [])
  refine Goes.of (fun t => XT.lloadN X43.here hx rfl (hb hby d9_9) rfl) ?_
  show Goes p e below KK T43 (mkF m 10 #[.val (.ref a1), .val (.int (1 : Int32)), .val (.long (3 : Int64)), .second, .unset, .unset] [(.long (3 : Int64))])
  refine Goes.of (fun t => XS.aloadN X43.here hx rfl (hb hby d9_10) rfl rfl) ?_
  show Goes p e below KK T43 (mkF m 11 #[.val (.ref a1), .val (.int (1 : Int32)), .val (.long (3 : Int64)), .second, .unset, .unset] [(.ref a1), (.long (3 : Int64))])
  obtain ⟨T44, X44, e44, st44⟩ := getF X43 hx hZ hown (host := "") (Or.inl w_29) Via.refl e43 F1e (g := (mkF m 11 #[.val (.ref a1), .val (.int (1 : Int32)), .val (.long (3 : Int64)), .second, .unset, .unset] [(.ref a1), (.long (3 : Int64))])) rfl rfl (hb hby d9_11)
  refine Goes.of (st44) ?_
  show Goes p e below KK T44 (mkF m 14 #[.val (.ref a1), .val (.int (1 : Int32)), .val (.long (3 : Int64)), .second, .unset, .unset] [(.ref ar), (.long (3 : Int64))])
  refine Goes.of (AR.arraylength X44 hx hZ e44 A1 (j := (2 : Int32)) (rfl) (g := (mkF m 14 #[.val (.ref a1), .val (.int (1 : Int32)), .val (.long (3 : Int64)), .second, .unset, .unset] [(.ref ar), (.long (3 : Int64))])) rfl rfl (hb hby d9_14)) ?_
  show Goes p e below KK T44 (mkF m 15 #[.val (.ref a1), .val (.int (1 : Int32)), .val (.long (3 : Int64)), .second, .unset, .unset] [(.int (2 : Int32)), (.long (3 : Int64))])
  refine Goes.of (fun t => XT.i2l X44.here hx rfl (hb hby d9_15) rfl) ?_
  show Goes p e below KK T44 (mkF m 16 #[.val (.ref a1), .val (.int (1 : Int32)), .val (.long (3 : Int64)), .second, .unset, .unset] [(.long (2 : Int64)), (.long (3 : Int64))])
  refine Goes.of (fun t => XT.lcmp X44.here hx rfl (hb hby d9_16) rfl) ?_
  show Goes p e below KK T44 (mkF m 17 #[.val (.ref a1), .val (.int (1 : Int32)), .val (.long (3 : Int64)), .second, .unset, .unset] [(.int (XT.cmpL (3 : Int64) (2 : Int64)))])
  refine Goes.of (fun t => XS.ifYes X44.here hx rfl (pc0 := 17) (pc' := 21) rfl (hb hby d9_17) rfl ((if0 _ _).trans (tlt (show (0 : Int32) < (XT.cmpL (3 : Int64) (2 : Int64)) from by decide)).2.2.1) (by decide) (by decide)) ?_
  show Goes p e below KK T44 (mkF m 21 #[.val (.ref a1), .val (.int (1 : Int32)), .val (.long (3 : Int64)), .second, .unset, .unset] [])
  refine Goes.of (fun t => XS.aloadN X44.here hx rfl (hb hby d9_21) rfl rfl) ?_
  show Goes p e below KK T44 (mkF m 22 #[.val (.ref a1), .val (.int (1 : Int32)), .val (.long (3 : Int64)), .second, .unset, .unset] [(.ref a1)])
  obtain ⟨T45, X45, e45, st45⟩ := getF X44 hx hZ hown (host := "") (Or.inl w_29) Via.refl e44 F1e (g := (mkF m 22 #[.val (.ref a1), .val (.int (1 : Int32)), .val (.long (3 : Int64)), .second, .unset, .unset] [(.ref a1)])) rfl rfl (hb hby d9_22)
  refine Goes.of (st45) ?_
  show Goes p e below KK T45 (mkF m 25 #[.val (.ref a1), .val (.int (1 : Int32)), .val (.long (3 : Int64)), .second, .unset, .unset] [(.ref ar)])
  refine Goes.of (AR.arraylength X45 hx hZ e45 A1 (j := (2 : Int32)) (rfl) (g := (mkF m 25 #[.val (.ref a1), .val (.int (1 : Int32)), .val (.long (3 : Int64)), .second, .unset, .unset] [(.ref ar)])) rfl rfl (hb hby d9_25)) ?_
  show Goes p e below KK T45 (mkF m 26 #[.val (.ref a1), .val (.int (1 : Int32)), .val (.long (3 : Int64)), .second, .unset, .unset] [(.int (2 : Int32))])
  refine Goes.of (fun t => XT.i2l X45.here hx rfl (hb hby d9_26) rfl) ?_
  show Goes p e below KK T45 (mkF m 27 #[.val (.ref a1), .val (.int (1 : Int32)), .val (.long (3 : Int64)), .second, .unset, .unset] [(.long (2 : Int64))])
  refine Goes.of (fun t => XT.lstore X45.here hx rfl (hb hby d9_27) rfl (l' := #[.val (.ref a1), .val (.int (1 : Int32)), .val (.long (3 : Int64)), .second, .val (.long (2 : Int64)), .second]) rfl) ?_
  show Goes p e below KK T45 (mkF m 29 #[.val (.ref a1), .val (.int (1 : Int32)), .val (.long (3 : Int64)), .second, .val (.long (2 : Int64)), .second] [])
  refine Goes.of (fun t => XT.lload X45.here hx rfl (hb hby d9_29) rfl) ?_
  show Goes p e below KK T45 (mkF m 31 #[.val (.ref a1), .val (.int (1 : Int32)), .val (.long (3 : Int64)), .second, .val (.long (2 : Int64)), .second] [(.long (2 : Int64))])
  refine Goes.of (fun t => XT.lloadN X45.here hx rfl (hb hby d9_31) rfl) ?_
  show Goes p e below KK T45 (mkF m 32 #[.val (.ref a1), .val (.int (1 : Int32)), .val (.long (3 : Int64)), .second, .val (.long (2 : Int64)), .second] [(.long (3 : Int64)), (.long (2 : Int64))])
  refine Goes.of (fun t => XT.lcmp X45.here hx rfl (hb hby d9_32) rfl) ?_
  show Goes p e below KK T45 (mkF m 33 #[.val (.ref a1), .val (.int (1 : Int32)), .val (.long (3 : Int64)), .second, .val (.long (2 : Int64)), .second] [(.int (XT.cmpL (2 : Int64) (3 : Int64)))])
  refine Goes.of (fun t => XS.ifNo X45.here hx rfl (hb hby d9_33) rfl ((if0 _ _).trans (tlt (show (XT.cmpL (2 : Int64) (3 : Int64)) < (0 : Int32) from by decide)).2.1)) ?_
  show Goes p e below KK T45 (mkF m 36 #[.val (.ref a1), .val (.int (1 : Int32)), .val (.long (3 : Int64)), .second, .val (.long (2 : Int64)), .second] [])
  refine Goes.of (fun t => XT.lload X45.here hx rfl (hb hby d9_36) rfl) ?_
  show Goes p e below KK T45 (mkF m 38 #[.val (.ref a1), .val (.int (1 : Int32)), .val (.long (3 : Int64)), .second, .val (.long (2 : Int64)), .second] [(.long (2 : Int64))])
  refine Goes.of (X45.ldc2Long hx hown (mvT hZ w_90) (g := (mkF m 38 #[.val (.ref a1), .val (.int (1 : Int32)), .val (.long (3 : Int64)), .second, .val (.long (2 : Int64)), .second] [(.long (2 : Int64))])) rfl (hb hby d9_38)) ?_
  show Goes p e below KK T45 (mkF m 41 #[.val (.ref a1), .val (.int (1 : Int32)), .val (.long (3 : Int64)), .second, .val (.long (2 : Int64)), .second] [(.long (2 : Int64)), (.long (2 : Int64))])
  refine Goes.of (fun t => XT.lmul X45.here hx rfl (hb hby d9_41) rfl) ?_
  show Goes p e below KK T45 (mkF m 42 #[.val (.ref a1), .val (.int (1 : Int32)), .val (.long (3 : Int64)), .second, .val (.long (2 : Int64)), .second] [(.long (4 : Int64))])
  refine Goes.of (fun t => XT.lstore X45.here hx rfl (hb hby d9_42) rfl (l' := #[.val (.ref a1), .val (.int (1 : Int32)), .val (.long (3 : Int64)), .second, .val (.long (4 : Int64)), .second]) rfl) ?_
  show Goes p e below KK T45 (mkF m 44 #[.val (.ref a1), .val (.int (1 : Int32)), .val (.long (3 : Int64)), .second, .val (.long (4 : Int64)), .second] [])
  refine Goes.of (fun t => XS.goto X45.here hx rfl (pc0 := 44) (pc' := 29) rfl (hb hby d9_44) (by decide) (by decide)) ?_
  show Goes p e below KK T45 (mkF m 29 #[.val (.ref a1), .val (.int (1 : Int32)), .val (.long (3 : Int64)), .second, .val (.long (4 : Int64)), .second] [])
  refine Goes.of (fun t => XT.lload X45.here hx rfl (hb hby d9_29) rfl) ?_
  show Goes p e below KK T45 (mkF m 31 #[.val (.ref a1), .val (.int (1 : Int32)), .val (.long (3 : Int64)), .second, .val (.long (4 : Int64)), .second] [(.long (4 : Int64))])
  refine Goes.of (fun t => XT.lloadN X45.here hx rfl (hb hby d9_31) rfl) ?_
  show Goes p e below KK T45 (mkF m 32 #[.val (.ref a1), .val (.int (1 : Int32)), .val (.long (3 : Int64)), .second, .val (.long (4 : Int64)), .second] [(.long (3 : Int64)), (.long (4 : Int64))])
  refine Goes.of (fun t => XT.lcmp X45.here hx rfl (hb hby d9_32) rfl) ?_
  show Goes p e below KK T45 (mkF m 33 #[.val (.ref a1), .val (.int (1 : Int32)), .val (.long (3 : Int64)), .second, .val (.long (4 : Int64)), .second] [(.int (XT.cmpL (4 : Int64) (3 : Int64)))])
  refine Goes.of (fun t => XS.ifYes X45.here hx rfl (pc0 := 33) (pc' := 47) rfl (hb hby d9_33) rfl ((if0 _ _).trans (flt (show ¬ ((XT.cmpL (4 : Int64) (3 : Int64)) < (0 : Int32)) from by decide)).2.1) (by decide) (by decide)) ?_
  show Goes p e below KK T45 (mkF m 47 #[.val (.ref a1), .val (.int (1 : Int32)), .val (.long (3 : Int64)), .second, .val (.long (4 : Int64)), .second] [])
  refine Goes.of (fun t => XT.lload X45.here hx rfl (hb hby d9_47) rfl) ?_
  show Goes p e below KK T45 (mkF m 49 #[.val (.ref a1), .val (.int (1 : Int32)), .val (.long (3 : Int64)), .second, .val (.long (4 : Int64)), .second] [(.long (4 : Int64))])
  refine Goes.of (X45.ldc2Long hx hown (mvT hZ w_91) (g := (mkF m 49 #[.val (.ref a1), .val (.int (1 : Int32)), .val (.long (3 : Int64)), .second, .val (.long (4 : Int64)), .second] [(.long (4 : Int64))])) rfl (hb hby d9_49)) ?_
  show Goes p e below KK T45 (mkF m 52 #[.val (.ref a1), .val (.int (1 : Int32)), .val (.long (3 : Int64)), .second, .val (.long (4 : Int64)), .second] [(.long (2147483639 : Int64)), (.long (4 : Int64))])
  refine Goes.of (fun t => XT.lcmp X45.here hx rfl (hb hby d9_52) rfl) ?_
  show Goes p e below KK T45 (mkF m 53 #[.val (.ref a1), .val (.int (1 : Int32)), .val (.long (3 : Int64)), .second, .val (.long (4 : Int64)), .second] [(.int (XT.cmpL (4 : Int64) (2147483639 : Int64)))])
  refine Goes.of (fun t => XS.ifYes X45.here hx rfl (pc0 := 53) (pc' := 83) rfl (hb hby d9_53) rfl ((if0 _ _).trans (flt (show ¬ ((0 : Int32) < (XT.cmpL (4 : Int64) (2147483639 : Int64))) from by decide)).2.2.2) (by decide) (by decide)) ?_
  show Goes p e below KK T45 (mkF m 83 #[.val (.ref a1), .val (.int (1 : Int32)), .val (.long (3 : Int64)), .second, .val (.long (4 : Int64)), .second] [])
  refine Goes.of (fun t => XS.aloadN X45.here hx rfl (hb hby d9_83) rfl rfl) ?_
  show Goes p e below KK T45 (mkF m 84 #[.val (.ref a1), .val (.int (1 : Int32)), .val (.long (3 : Int64)), .second, .val (.long (4 : Int64)), .second] [(.ref a1)])
  refine Goes.of (fun t => XS.aloadN X45.here hx rfl (hb hby d9_84) rfl rfl) ?_
  show Goes p e below KK T45 (mkF m 85 #[.val (.ref a1), .val (.int (1 : Int32)), .val (.long (3 : Int64)), .second, .val (.long (4 : Int64)), .second] [(.ref a1), (.ref a1)])
  obtain ⟨T46, X46, e46, st46⟩ := getF X45 hx hZ hown (host := "") (Or.inl w_29) Via.refl e45 F1e (g := (mkF m 85 #[.val (.ref a1), .val (.int (1 : Int32)), .val (.long (3 : Int64)), .second, .val (.long (4 : Int64)), .second] [(.ref a1), (.ref a1)])) rfl rfl (hb hby d9_85)
  refine Goes.of (st46) ?_
  show Goes p e below KK T46 (mkF m 88 #[.val (.ref a1), .val (.int (1 : Int32)), .val (.long (3 : Int64)), .second, .val (.long (4 : Int64)), .second] [(.ref ar), (.ref a1)])
  refine Goes.of (fun t => XT.lload X46.here hx rfl (hb hby d9_88) rfl) ?_
  show Goes p e below KK T46 (mkF m 90 #[.val (.ref a1), .val (.int (1 : Int32)), .val (.long (3 : Int64)), .second, .val (.long (4 : Int64)), .second] [(.long (4 : Int64)), (.ref ar), (.ref a1)])
  refine Goes.of (fun t => XT.l2i X46.here hx rfl (hb hby d9_90) rfl) ?_
  show Goes p e below KK T46 (mkF m 91 #[.val (.ref a1), .val (.int (1 : Int32)), .val (.long (3 : Int64)), .second, .val (.long (4 : Int64)), .second] [(.int (4 : Int32)), (.ref ar), (.ref a1)])
  obtain ⟨_, _, ⟨T47, L47, k47, n47⟩, -, X47, ⟨Lc47, hQ47, l47, y47, z47⟩, st47⟩ := Jvm.LawKit.callS X46 hx (y := (⟨"java/util/Arrays", "copyOf", "([Ljava/lang/Object;I)[Ljava/lang/Object;"⟩ : MethodName)) hown (mvT hZ w_92) (mvT hZ w_93) (mvT hZ w_94) (mvT hZ w_95) (by decide) (backOf (W := 1) (rm15k2 l Z a0 hw [] ar mr y0 y1 h0 n0 Z0 A1 Ey_y0 Ey_y1 M0) hZ w_95 w_94 (by decide) (by decide)) (g := (mkF m 91 #[.val (.ref a1), .val (.int (1 : Int32)), .val (.long (3 : Int64)), .second, .val (.long (4 : Int64)), .second] [(.int (4 : Int32)), (.ref ar), (.ref a1)])) rfl (by rw [hml]; rfl) (argsL := [(.ref ar), (.int (4 : Int32))]) (rest := [(.ref a1)]) (lenOf pd_29 rfl) rfl (by show 2 * 0 + _ ≤ _; exact Nat.le_of_eq rfl) (hb hby d9_91) (fun _ _ => ⟨rfl, e46, (by decide : 0 + 1 ≤ _), (by decide : 0 + 4 ≤ _)⟩)
  dsimp only [Pt.U, Pt.locs, Pt.cells, Pt.slots] at X47 l47 y47 z47 st47 hQ47
  subst l47 y47 z47
  obtain ⟨r47, rfl, N47q, Kc47, hb47, A47⟩ := hQ47
  have N47 := Fr.app N0 N47q
  have ne_a1_r47 : a1 ≠ r47 := Nat.ne_of_lt (Nat.lt_of_lt_of_le E1.lt hb47)
  have ne_ar_r47 : ar ≠ r47 := Nat.ne_of_lt (Nat.lt_of_lt_of_le A1.lt hb47)
  have g_r47 : n0 ≤ r47 := Nat.le_trans Z0 hb47
  have sz_r47 : h0.size ≤ r47 := Nat.le_trans (Keep.refl h0 [a1]).1 hb47
  have E1_47 : Exa Z T47.heap a1 "corbel/structures/ArrayStack" := E1.keep Kc47
  have F1e_47 : Fld Z T47.heap a1 "corbel/structures/ArrayStack" "elements" "[Ljava/lang/Object;" (.ref ar) := F1e.keep Kc47 nin0
  have F1s_47 : Fld Z T47.heap a1 "corbel/structures/ArrayStack" "size" "I" (.int (2 : Int32)) := F1s.keep Kc47 nin0
  have F1m_47 : Fld Z T47.heap a1 "java/util/AbstractList" "modCount" "I" (.int md) := F1m.keep Kc47 nin0
  have A1_47 : AR Z T47.heap ar [(.ref y0), (.ref y1)] := A1.keep Kc47 nin0
  have Ey_y0_47 : Exa Z T47.heap y0 "java/lang/Integer" := Ey_y0.keep Kc47
  have Ey_y1_47 : Exa Z T47.heap y1 "java/lang/Integer" := Ey_y1.keep Kc47
  have K47 : Keep h0 T47.heap [a1] := (Keep.refl h0 [a1]).trans Kc47 all0
  have Z47 : n0 ≤ T47.heap.size := Nat.le_trans Z0 Kc47.1
  have e47 : T47.heap = T47.heap := rfl
  refine Goes.of st47 ?_
  show Goes p e below KK T47 (mkF m 94 #[.val (.ref a1), .val (.int (1 : Int32)), .val (.long (3 : Int64)), .second, .val (.long (4 : Int64)), .second] [(.ref r47), (.ref a1)])
  obtain ⟨T48, h48, X48, e48, W48, st48⟩ := putF X47 hx hZ hown (host := "") (Or.inl w_29) Via.refl e47 F1e_47 E1_47 (Or.inl w_30) w_1 (ty := (.array (.object "java/lang/Object"))) (by decide) rfl rfl (g := (mkF m 94 #[.val (.ref a1), .val (.int (1 : Int32)), .val (.long (3 : Int64)), .second, .val (.long (4 : Int64)), .second] [(.ref r47), (.ref a1)])) rfl rfl (hb hby d9_94)
  refine Goes.of (st48) ?_
  have E1_47_48 : Exa Z h48 a1 "corbel/structures/ArrayStack" := E1_47.wr W48
  have F1s_47_48 : Fld Z h48 a1 "corbel/structures/ArrayStack" "size" "I" (.int (2 : Int32)) := F1s_47.other W48 (Or.inr (slot_ne (Or.inl w_60) (Or.inl w_30) (by decide) (t := .int) (t' := (.array (.object "java/lang/Object"))) (by decide) (by decide)))
  have F1m_47_48 : Fld Z h48 a1 "java/util/AbstractList" "modCount" "I" (.int md) := F1m_47.other W48 (Or.inr (slot_ne (Or.inl w_26) (Or.inl w_30) (by decide) (t := .int) (t' := (.array (.object "java/lang/Object"))) (by decide) (by decide)))
  have A1_47_48 : AR Z h48 ar [(.ref y0), (.ref y1)] := A1_47.other W48 (Exa.ne A1_47.exa E1_47 (by decide))
  have Ey_y0_47_48 : Exa Z h48 y0 "java/lang/Integer" := Ey_y0_47.wr W48
  have Ey_y1_47_48 : Exa Z h48 y1 "java/lang/Integer" := Ey_y1_47.wr W48
  have A47_48 : AR Z h48 r47 [(.ref y0), (.ref y1), .null, .null] := A47.other W48 (Ne.symm ne_a1_r47)
  have K48 : Keep h0 h48 [a1] := K47.wr W48 (Or.inl (List.mem_of_getElem? (i := 0) rfl))
  have Z48 : n0 ≤ h48.size := Nat.le_trans Z47 (Keep.of_wr W48).1
  have N48 := Fr.snoc X48 N47 g_a1
  have F_elements_a1_48 : Fld Z h48 a1 "corbel/structures/ArrayStack" "elements" "[Ljava/lang/Object;" (.ref r47) := F1e_47.same W48
  show Goes p e below KK T48 (mkF m 97 #[.val (.ref a1), .val (.int (1 : Int32)), .val (.long (3 : Int64)), .second, .val (.long (4 : Int64)), .second] [])
  rw [← hKK]
  refine Goes.retVoid X48 hx hlk Bd.returns (hb hby d9_97) ?_ (by decide) (by decide)
  rw [e48]
  exact ⟨r47, rfl, N48, K48, sz_r47, E1_47_48, F_elements_a1_48, F1s_47_48, F1m_47_48, A47_48⟩
theorem ef_9s3 (m : MethodId) (x0 : Addr) (x1 : Int32) : entryFrame m #[(.ref x0), (.int x1)] 6 = mkF m 0 #[.val (.ref x0), .val (.int x1), .unset, .unset, .unset, .unset] [] := by first | (simp [entryFrame, mkF, argsToLocals, Value.category]; done) | rfl
def Q9s3 (Z : State) (a1 : Addr) (ar : Addr) (mr : Addr) (md : Int32) (y0 : Addr) (y1 : Addr) (y2 : Addr) (h0 : Heap) (n0 : Nat) (v : Option Value) (h : Heap) (L : List Loc) : Prop := v = none ∧ Fr n0 L ∧ h = h0
set_option maxRecDepth 65536 in
set_option maxHeartbeats 40000000 in
theorem rm9s3 (l : Launch) (Z : State) (a0 : Array Value) (hw : ∀ d ∈ tables_1, d.before a0 Z = true) (ws : List Jvm.Cond) (a1 : Addr) (ar : Addr) (mr : Addr) (md : Int32) (y0 : Addr) (y1 : Addr) (y2 : Addr) (h0 : Heap) (n0 : Nat) (Z0 : n0 ≤ h0.size) (E1 : Exa Z h0 a1 "corbel/structures/ArrayStack") (F1e : Fld Z h0 a1 "corbel/structures/ArrayStack" "elements" "[Ljava/lang/Object;" (.ref ar)) (F1s : Fld Z h0 a1 "corbel/structures/ArrayStack" "size" "I" (.int (3 : Int32))) (F1m : Fld Z h0 a1 "java/util/AbstractList" "modCount" "I" (.int md)) (A1 : AR Z h0 ar [(.ref y0), (.ref y1), (.ref y2), .null]) (Ey_y0 : Exa Z h0 y0 "java/lang/Integer") (Ey_y1 : Exa Z h0 y1 "java/lang/Integer") (Ey_y2 : Exa Z h0 y2 "java/lang/Integer") (g_a1 : n0 ≤ a1) (g_ar : n0 ≤ ar) (M0 : Mir Z "[Ljava/lang/Object;" mr) :
    MetFree l (⟨"corbel/structures/ArrayStack", "growFor", "(I)V"⟩ : MethodName) (head1 (Jvm.Cond.code (⟨"corbel/structures/ArrayStack", "growFor", "(I)V"⟩ : MethodName) prog_1_method_18_code 6 none :: ws) ({ frames := 0, cells := 0, slots := 0, locals := 0 } : Room)) (fun a U => a = #[(.ref a1), (.int (1 : Int32))] ∧ Z.Warmed39 U.vm ∧ U.heap = h0) (fun _ _ _ _ _ => True) (fun _ U o U' => ∃ v L, o = .returned v ∧ Q9s3 Z a1 ar mr md y0 y1 y2 h0 n0 v U'.heap L ∧ FrameEnd U o U' L ({ frames := 0, cells := 0, slots := 0, locals := 0 } : Room).cells ({ frames := 0, cells := 0, slots := 0, locals := 0 } : Room).slots) := by
  refine MetFree.of_bodySF pn_9 hisR ?_
  intro p e s m args below meth c s₁ Bd hml0 hP hK
  obtain ⟨rfl, hZ, hh⟩ := hP
  have hx := Bd.exec
  have hby := Bd.bytes
  have hml : c.maxLocals = 6 := hml0
  have hown : s.vm.findClass "corbel/structures/ArrayStack" = some m.cls := findClass_of_methodNamed Bd.named
  have hnm := (name_of_methodNamed Bd.named Bd.method).1
  have hlk : meth.locks = false := BodyLoose.notSynchronized Bd
  have X0 : Stand p l e ({ frames := 0, cells := 0, slots := 0, locals := 0 } : Room) s m #[(.ref a1), (.int (1 : Int32))] below meth c s₁ [] 0 0 := Stand.of_body Bd
  have e0 : s₁.heap = h0 := by rw [← hh, Bd.state]; rfl
  have N0 := Fr.nil n0
  show Goes p e below (OwnK s (Q9s3 Z a1 ar mr md y0 y1 y2 h0 n0) ({ frames := 0, cells := 0, slots := 0, locals := 0 } : Room).cells ({ frames := 0, cells := 0, slots := 0, locals := 0 } : Room).slots) s₁ (entryFrame m #[(.ref a1), (.int (1 : Int32))] 6)
  refine Goes.cast (ef_9s3 m a1 (1 : Int32)) ?_
  generalize hKK : OwnK s (Q9s3 Z a1 ar mr md y0 y1 y2 h0 n0) ({ frames := 0, cells := 0, slots := 0, locals := 0 } : Room).cells ({ frames := 0, cells := 0, slots := 0, locals := 0 } : Room).slots = KK
  show Goes p e below KK s₁ (mkF m 0 #[.val (.ref a1), .val (.int (1 : Int32)), .unset, .unset, .unset, .unset] [])
  have w_29 := hw _ (List.mem_of_getElem? (i := 29) rfl)
  have w_59 := hw _ (List.mem_of_getElem? (i := 59) rfl)
  refine Goes.of (fun t => XS.aloadN X0.here hx rfl (hb hby d9_0) rfl rfl) ?_
  show Goes p e below KK s₁ (mkF m 1 #[.val (.ref a1), .val (.int (1 : Int32)), .unset, .unset, .unset, .unset] [(.ref a1)])
  obtain ⟨T49, X49, e49, st49⟩ := getF X0 hx hZ hown (host := "") (Or.inl w_59) Via.refl e0 F1s (g := (mkF m 1 #[.val (.ref a1), .val (.int (1 : Int32)), .unset, .unset, .unset, .unset] [(.ref a1)])) rfl rfl (hb hby d9_1)
  refine Goes.of (st49) ?_
  show Goes p e below KK T49 (mkF m 4 #[.val (.ref a1), .val (.int (1 : Int32)), .unset, .unset, .unset, .unset] [(.int (3 : Int32))])
  refine Goes.of (fun t => XT.i2l X49.here hx rfl (hb hby d9_4) rfl) ?_
  show Goes p e below KK T49 (mkF m 5 #[.val (.ref a1), .val (.int (1 : Int32)), .unset, .unset, .unset, .unset] [(.long (3 : Int64))])
  refine Goes.of (fun t => XS.iloadN X49.here hx rfl (hb hby d9_5) rfl) ?_
  show Goes p e below KK T49 (mkF m 6 #[.val (.ref a1), .val (.int (1 : Int32)), .unset, .unset, .unset, .unset] [(.int (1 : Int32)), (.long (3 : Int64))])
  refine Goes.of (fun t => XT.i2l X49.here hx rfl (hb hby d9_6) rfl) ?_
  show Goes p e below KK T49 (mkF m 7 #[.val (.ref a1), .val (.int (1 : Int32)), .unset, .unset, .unset, .unset] [(.long (1 : Int64)), (.long (3 : Int64))])
  refine Goes.of (fun t => XT.ladd X49.here hx rfl (hb hby d9_7) rfl) ?_
  show Goes p e below KK T49 (mkF m 8 #[.val (.ref a1), .val (.int (1 : Int32)), .unset, .unset, .unset, .unset] [(.long (4 : Int64))])
  refine Goes.of (fun t => XT.lstoreN X49.here hx rfl (hb hby d9_8) rfl (l' := #[.val (.ref a1), .val (.int (1 : Int32)), .val (.long (4 : Int64)), .second, .unset, .unset]) rfl) ?_
  show Goes p e below KK T49 (mkF m 9 #[.val (.ref a1), .val (.int (1 : Int32)), .val (.long (4 : Int64)), .second, .unset, .unset] [])
  refine Goes.of (fun t => XT.lloadN X49.here hx rfl (hb hby d9_9) rfl) ?_
  show Goes p e below KK T49 (mkF m 10 #[.val (.ref a1), .val (.int (1 : Int32)), .val (.long (4 : Int64)), .second, .unset, .unset] [(.long (4 : Int64))])
  refine Goes.of (fun t => XS.aloadN X49.here hx rfl (hb hby d9_10) rfl rfl) ?_
  show Goes p e below KK T49 (mkF m 11 #[.val (.ref a1), .val (.int (1 : Int32)), .val (.long (4 : Int64)), .second, .unset, .unset] [(.ref a1), (.long (4 : Int64))])
  obtain ⟨T50, X50, e50, st50⟩ := getF X49 hx hZ hown (host := "") (Or.inl w_29) Via.refl e49 F1e (g := (mkF m 11 #[.val (.ref a1), .val (.int (1 : Int32)), .val (.long (4 : Int64)), .second, .unset, .unset] [(.ref a1), (.long (4 : Int64))])) rfl rfl (hb hby d9_11)
  refine Goes.of (st50) ?_
  show Goes p e below KK T50 (mkF m 14 #[.val (.ref a1), .val (.int (1 : Int32)), .val (.long (4 : Int64)), .second, .unset, .unset] [(.ref ar), (.long (4 : Int64))])
  refine Goes.of (AR.arraylength X50 hx hZ e50 A1 (j := (4 : Int32)) (rfl) (g := (mkF m 14 #[.val (.ref a1), .val (.int (1 : Int32)), .val (.long (4 : Int64)), .second, .unset, .unset] [(.ref ar), (.long (4 : Int64))])) rfl rfl (hb hby d9_14)) ?_
  show Goes p e below KK T50 (mkF m 15 #[.val (.ref a1), .val (.int (1 : Int32)), .val (.long (4 : Int64)), .second, .unset, .unset] [(.int (4 : Int32)), (.long (4 : Int64))])
  refine Goes.of (fun t => XT.i2l X50.here hx rfl (hb hby d9_15) rfl) ?_
  show Goes p e below KK T50 (mkF m 16 #[.val (.ref a1), .val (.int (1 : Int32)), .val (.long (4 : Int64)), .second, .unset, .unset] [(.long (4 : Int64)), (.long (4 : Int64))])
  refine Goes.of (fun t => XT.lcmp X50.here hx rfl (hb hby d9_16) rfl) ?_
  show Goes p e below KK T50 (mkF m 17 #[.val (.ref a1), .val (.int (1 : Int32)), .val (.long (4 : Int64)), .second, .unset, .unset] [(.int (XT.cmpL (4 : Int64) (4 : Int64)))])
  refine Goes.of (fun t => XS.ifNo X50.here hx rfl (hb hby d9_17) rfl ((if0 _ _).trans (flt (show ¬ ((0 : Int32) < (XT.cmpL (4 : Int64) (4 : Int64))) from by decide)).2.2.1)) ?_
  show Goes p e below KK T50 (mkF m 20 #[.val (.ref a1), .val (.int (1 : Int32)), .val (.long (4 : Int64)), .second, .unset, .unset] [])
  rw [← hKK]
  refine Goes.retVoid X50 hx hlk Bd.returns (hb hby d9_20) ?_ (by decide) (by decide)
  rw [e50]
  exact ⟨rfl, N0, rfl⟩
theorem d7_0 : decode prog_1_method_8_code 0 = .ok (.aload_n 1, 1) := by decide +kernel
theorem d7_1 : decode prog_1_method_8_code 1 = .ok (.ldc 45, 2) := by decide +kernel
theorem d7_3 : decode prog_1_method_8_code 3 = .ok (.invokestatic 47, 3) := by decide +kernel
theorem d7_6 : decode prog_1_method_8_code 6 = .ok (.pop, 1) := by decide +kernel
theorem d7_7 : decode prog_1_method_8_code 7 = .ok (.aload_n 0, 1) := by decide +kernel
theorem d7_8 : decode prog_1_method_8_code 8 = .ok (.iconst 1, 1) := by decide +kernel
theorem d7_9 : decode prog_1_method_8_code 9 = .ok (.invokevirtual 51, 3) := by decide +kernel
theorem d7_12 : decode prog_1_method_8_code 12 = .ok (.aload_n 0, 1) := by decide +kernel
theorem d7_13 : decode prog_1_method_8_code 13 = .ok (.getfield 11, 3) := by decide +kernel
theorem d7_16 : decode prog_1_method_8_code 16 = .ok (.aload_n 0, 1) := by decide +kernel
theorem d7_17 : decode prog_1_method_8_code 17 = .ok (.dup, 1) := by decide +kernel
theorem d7_18 : decode prog_1_method_8_code 18 = .ok (.getfield 21, 3) := by decide +kernel
theorem d7_21 : decode prog_1_method_8_code 21 = .ok (.dup_x1, 1) := by decide +kernel
theorem d7_22 : decode prog_1_method_8_code 22 = .ok (.iconst 1, 1) := by decide +kernel
theorem d7_23 : decode prog_1_method_8_code 23 = .ok (.iadd, 1) := by decide +kernel
theorem d7_24 : decode prog_1_method_8_code 24 = .ok (.putfield 21, 3) := by decide +kernel
theorem d7_27 : decode prog_1_method_8_code 27 = .ok (.aload_n 1, 1) := by decide +kernel
theorem d7_28 : decode prog_1_method_8_code 28 = .ok (.aastore, 1) := by decide +kernel
theorem d7_29 : decode prog_1_method_8_code 29 = .ok (.aload_n 0, 1) := by decide +kernel
theorem d7_30 : decode prog_1_method_8_code 30 = .ok (.dup, 1) := by decide +kernel
theorem d7_31 : decode prog_1_method_8_code 31 = .ok (.getfield 55, 3) := by decide +kernel
theorem d7_34 : decode prog_1_method_8_code 34 = .ok (.iconst 1, 1) := by decide +kernel
theorem d7_35 : decode prog_1_method_8_code 35 = .ok (.iadd, 1) := by decide +kernel
theorem d7_36 : decode prog_1_method_8_code 36 = .ok (.putfield 55, 3) := by decide +kernel
theorem d7_39 : decode prog_1_method_8_code 39 = .ok (.iconst 1, 1) := by decide +kernel
theorem d7_40 : decode prog_1_method_8_code 40 = .ok (.ireturn, 1) := by decide +kernel
theorem pn_7 : plainFor (⟨"corbel/structures/ArrayStack", "add", "(Ljava/lang/Object;)Z"⟩ : MethodName) = true := plainFor_of_name (by first | (simp [plainName, overriddenIn]; done) | decide +kernel)
theorem pd_33 : parseMethodDescriptor "(Ljava/lang/Object;Ljava/lang/String;)Ljava/lang/Object;" = some ⟨[(.object "java/lang/Object"), (.object "java/lang/String")], some (.object "java/lang/Object")⟩ := by decide +kernel
theorem ef_7s0 (m : MethodId) (x0 : Addr) (x1 : Addr) : entryFrame m #[(.ref x0), (.ref x1)] 2 = mkF m 0 #[.val (.ref x0), .val (.ref x1)] [] := by first | (simp [entryFrame, mkF, argsToLocals, Value.category]; done) | rfl
def Q7s0 (Z : State) (a1 : Addr) (a2 : Addr) (ar : Addr) (mr : Addr) (md : Int32) (h0 : Heap) (n0 : Nat) (v : Option Value) (h : Heap) (L : List Loc) : Prop := ∃ b, v = some (.int 1) ∧ Fr n0 L ∧ Keep h0 h [a1, ar] ∧ (b = ar ∨ h0.size ≤ b) ∧ Exa Z h a1 "corbel/structures/ArrayStack" ∧ Fld Z h a1 "corbel/structures/ArrayStack" "elements" "[Ljava/lang/Object;" (.ref b) ∧ Fld Z h a1 "corbel/structures/ArrayStack" "size" "I" (.int (1 : Int32)) ∧ Fld Z h a1 "java/util/AbstractList" "modCount" "I" (.int (md + 1)) ∧ AR Z h b [(.ref a2)]
set_option maxRecDepth 65536 in
set_option maxHeartbeats 40000000 in
theorem rm7s0 (l : Launch) (Z : State) (a0 : Array Value) (hw : ∀ d ∈ tables_1, d.before a0 Z = true) (ws : List Jvm.Cond) (a1 : Addr) (a2 : Addr) (ar : Addr) (mr : Addr) (md : Int32) (h0 : Heap) (n0 : Nat) (Z0 : n0 ≤ h0.size) (E1 : Exa Z h0 a1 "corbel/structures/ArrayStack") (F1e : Fld Z h0 a1 "corbel/structures/ArrayStack" "elements" "[Ljava/lang/Object;" (.ref ar)) (F1s : Fld Z h0 a1 "corbel/structures/ArrayStack" "size" "I" (.int (0 : Int32))) (F1m : Fld Z h0 a1 "java/util/AbstractList" "modCount" "I" (.int md)) (A1 : AR Z h0 ar [.null]) (Ey_a2 : Exa Z h0 a2 "java/lang/Integer") (g_a1 : n0 ≤ a1) (g_ar : n0 ≤ ar) (M0 : Mir Z "[Ljava/lang/Object;" mr) :
    MetFree l (⟨"corbel/structures/ArrayStack", "add", "(Ljava/lang/Object;)Z"⟩ : MethodName) (head1 (Jvm.Cond.code (⟨"corbel/structures/ArrayStack", "add", "(Ljava/lang/Object;)Z"⟩ : MethodName) prog_1_method_8_code 2 (some .boolean) :: ws) ({ frames := 1, cells := 2, slots := 32, locals := 17 } : Room)) (fun a U => a = #[(.ref a1), (.ref a2)] ∧ Z.Warmed39 U.vm ∧ U.heap = h0) (fun _ _ _ _ _ => True) (fun _ U o U' => ∃ v L, o = .returned v ∧ Q7s0 Z a1 a2 ar mr md h0 n0 v U'.heap L ∧ ReturnedEndW U o U' L ({ frames := 1, cells := 2, slots := 32, locals := 17 } : Room).cells ({ frames := 1, cells := 2, slots := 32, locals := 17 } : Room).slots) := by
  refine MetFree.of_bodySF pn_7 hisR ?_
  intro p e s m args below meth c s₁ Bd hml0 hP hK
  obtain ⟨rfl, hZ, hh⟩ := hP
  have hx := Bd.exec
  have hby := Bd.bytes
  have hml : c.maxLocals = 2 := hml0
  have hown : s.vm.findClass "corbel/structures/ArrayStack" = some m.cls := findClass_of_methodNamed Bd.named
  have hnm := (name_of_methodNamed Bd.named Bd.method).1
  have hlk : meth.locks = false := BodyLoose.notSynchronized Bd
  have X0 : Stand p l e ({ frames := 1, cells := 2, slots := 32, locals := 17 } : Room) s m #[(.ref a1), (.ref a2)] below meth c s₁ [] 0 0 := Stand.of_body Bd
  have e0 : s₁.heap = h0 := by rw [← hh, Bd.state]; rfl
  have N0 := Fr.nil n0
  have hZw : Z.Warmed39 (s.setVm s.vm).vm := hZ
  have hownw : (s.setVm s.vm).vm.findClass "corbel/structures/ArrayStack" = some m.cls := hown
  have X0w : Stand p l e ({ frames := 1, cells := 2, slots := 32, locals := 17 } : Room) (s.setVm s.vm) m #[(.ref a1), (.ref a2)] below meth c s₁ [] 0 0 := X0
  have HS0 : s.Since s.vm h0.size := (State.WarmedH.refl s).since _
  have HK0 : h0.size ≤ h0.size := Nat.le_refl _
  show Goes p e below (OwnKW s (Q7s0 Z a1 a2 ar mr md h0 n0) ({ frames := 1, cells := 2, slots := 32, locals := 17 } : Room).cells ({ frames := 1, cells := 2, slots := 32, locals := 17 } : Room).slots) s₁ (entryFrame m #[(.ref a1), (.ref a2)] 2)
  refine Goes.cast (ef_7s0 m a1 a2) ?_
  generalize hKK : OwnKW s (Q7s0 Z a1 a2 ar mr md h0 n0) ({ frames := 1, cells := 2, slots := 32, locals := 17 } : Room).cells ({ frames := 1, cells := 2, slots := 32, locals := 17 } : Room).slots = KK
  show Goes p e below KK s₁ (mkF m 0 #[.val (.ref a1), .val (.ref a2)] [])
  have w_1 := hw _ (List.mem_of_getElem? (i := 1) rfl)
  have w_2 := hw _ (List.mem_of_getElem? (i := 2) rfl)
  have w_26 := hw _ (List.mem_of_getElem? (i := 26) rfl)
  have w_29 := hw _ (List.mem_of_getElem? (i := 29) rfl)
  have w_30 := hw _ (List.mem_of_getElem? (i := 30) rfl)
  have w_43 := hw _ (List.mem_of_getElem? (i := 43) rfl)
  have w_44 := hw _ (List.mem_of_getElem? (i := 44) rfl)
  have w_45 := hw _ (List.mem_of_getElem? (i := 45) rfl)
  have w_46 := hw _ (List.mem_of_getElem? (i := 46) rfl)
  have w_47 := hw _ (List.mem_of_getElem? (i := 47) rfl)
  have w_48 := hw _ (List.mem_of_getElem? (i := 48) rfl)
  have w_49 := hw _ (List.mem_of_getElem? (i := 49) rfl)
  have w_50 := hw _ (List.mem_of_getElem? (i := 50) rfl)
  have w_51 := hw _ (List.mem_of_getElem? (i := 51) rfl)
  have w_52 := hw _ (List.mem_of_getElem? (i := 52) rfl)
  have w_53 := hw _ (List.mem_of_getElem? (i := 53) rfl)
  have w_54 := hw _ (List.mem_of_getElem? (i := 54) rfl)
  have w_55 := hw _ (List.mem_of_getElem? (i := 55) rfl)
  have w_56 := hw _ (List.mem_of_getElem? (i := 56) rfl)
  have w_57 := hw _ (List.mem_of_getElem? (i := 57) rfl)
  have w_58 := hw _ (List.mem_of_getElem? (i := 58) rfl)
  have w_59 := hw _ (List.mem_of_getElem? (i := 59) rfl)
  have w_60 := hw _ (List.mem_of_getElem? (i := 60) rfl)
  have w_61 := hw _ (List.mem_of_getElem? (i := 61) rfl)
  have w_62 := hw _ (List.mem_of_getElem? (i := 62) rfl)
  have w_63 := hw _ (List.mem_of_getElem? (i := 63) rfl)
  refine Goes.of (fun t => XS.aloadN X0w.here hx rfl (hb hby d7_0) rfl rfl) ?_
  show Goes p e below KK s₁ (mkF m 1 #[.val (.ref a1), .val (.ref a2)] [(.ref a2)])
  have wS51 : ∀ a ∈ Bundle.stringAtoms, a.before a0 Z = true := fun a ha => by
    simp only [Bundle.stringAtoms, List.mem_cons, List.not_mem_nil, or_false] at ha
    rcases ha with rfl | rfl | rfl | rfl | rfl | rfl | rfl
    · exact w_44
    · exact w_45
    · exact w_46
    · exact w_47
    · exact w_48
    · exact w_49
    · exact w_50
  obtain ⟨a51, T51, h51, k51, X51, e51, E51, HS51, HK51, hZ51, hown51, st51⟩ := ldcS X0w hx hZw hownw w_43 wS51 e0 HS0 HK0 (g := (mkF m 1 #[.val (.ref a1), .val (.ref a2)] [(.ref a2)])) rfl (hb hby d7_1) (n := 28) (by decide +kernel) (by decide) (by decide) (by decide)
  refine Goes.of (st51) ?_
  have E1_51 : Exa Z h51 a1 "corbel/structures/ArrayStack" := E1.ext E51
  have F1e_51 : Fld Z h51 a1 "corbel/structures/ArrayStack" "elements" "[Ljava/lang/Object;" (.ref ar) := F1e.ext E51
  have F1s_51 : Fld Z h51 a1 "corbel/structures/ArrayStack" "size" "I" (.int (0 : Int32)) := F1s.ext E51
  have F1m_51 : Fld Z h51 a1 "java/util/AbstractList" "modCount" "I" (.int md) := F1m.ext E51
  have A1_51 : AR Z h51 ar [.null] := A1.ext E51
  have Ey_a2_51 : Exa Z h51 a2 "java/lang/Integer" := Ey_a2.ext E51
  have K51 : Keep h0 h51 [a1, ar] := (Keep.refl h0 [a1, ar]).ext E51
  have Z51 : n0 ≤ h51.size := Nat.le_trans Z0 E51.1
  show Goes p e below KK T51 (mkF m 3 #[.val (.ref a1), .val (.ref a2)] [(.ref a51), (.ref a2)])
  obtain ⟨_, _, ⟨T52, L52, k52, n52⟩, -, X52, ⟨Lc52, hQ52, l52, y52, z52⟩, st52⟩ := Jvm.LawKit.callS X51 hx (y := (⟨"java/util/Objects", "requireNonNull", "(Ljava/lang/Object;Ljava/lang/String;)Ljava/lang/Object;"⟩ : MethodName)) hown51 (mvT hZ51 w_51) (mvT hZ51 w_52) (mvT hZ51 w_53) (mvT hZ51 w_54) (by decide) (backOf (W := 0) (rm8 l Z a0 hw [] a2 a51  h51 n0 Z51 ) hZ51 w_54 w_53 (by decide) (by decide)) (g := (mkF m 3 #[.val (.ref a1), .val (.ref a2)] [(.ref a51), (.ref a2)])) rfl (by rw [hml]; rfl) (argsL := [(.ref a2), (.ref a51)]) (rest := []) (lenOf pd_33 rfl) rfl (by show 2 * 0 + _ ≤ _; exact Nat.le_of_eq rfl) (hb hby d7_3) (fun _ _ => ⟨rfl, e51, (by decide : 2 + 0 ≤ _), (by decide : 32 + 0 ≤ _)⟩)
  dsimp only [Pt.U, Pt.locs, Pt.cells, Pt.slots] at X52 l52 y52 z52 st52 hQ52
  subst l52 y52 z52
  obtain ⟨rfl, N52q, e52⟩ := hQ52
  have N52 := Fr.app N0 N52q
  refine Goes.of st52 ?_
  show Goes p e below KK T52 (mkF m 6 #[.val (.ref a1), .val (.ref a2)] [(.ref a2)])
  refine Goes.of (fun t => XT.pop X52.here hx rfl (hb hby d7_6) rfl rfl) ?_
  show Goes p e below KK T52 (mkF m 7 #[.val (.ref a1), .val (.ref a2)] [])
  refine Goes.of (fun t => XS.aloadN X52.here hx rfl (hb hby d7_7) rfl rfl) ?_
  show Goes p e below KK T52 (mkF m 8 #[.val (.ref a1), .val (.ref a2)] [(.ref a1)])
  refine Goes.of (fun t => XS.iconst X52.here hx rfl (hb hby d7_8)) ?_
  show Goes p e below KK T52 (mkF m 9 #[.val (.ref a1), .val (.ref a2)] [(.int (1 : Int32)), (.ref a1)])
  obtain ⟨cq53, q53, q53'⟩ := E1_51.cell
  obtain ⟨_, _, ⟨T53, L53, k53, n53⟩, -, X53, ⟨Lc53, hQ53, l53, y53, z53⟩, st53⟩ := X52.privateBack hx (y := (⟨"corbel/structures/ArrayStack", "growFor", "(I)V"⟩ : MethodName)) hown51 (mvT hZ51 w_55) (mvT hZ51 w_56) (own_selp hZ51 w_1 w_57 w_56 (by decide)) (Cond.privateMethod_at (mvP hZ51 w_57 (args := #[]))) (mvT hZ51 w_58) (by decide) (backOf (W := 0) (rm9s0 l Z a0 hw [] a1 ar mr md  h51 n0 Z51 E1_51 F1e_51 F1s_51 F1m_51 A1_51  g_a1 g_ar M0) hZ51 w_58 w_2 (by decide) (by decide)) (g := (mkF m 9 #[.val (.ref a1), .val (.ref a2)] [(.int (1 : Int32)), (.ref a1)])) rfl (by rw [hml]; rfl) (Steps.refl _) (a := a1) (by rw [e52]; exact q53) q53' (argsL := [(.int (1 : Int32))]) (rest := []) (lenOf pd_7 rfl) rfl (by show 2 * 0 + _ ≤ _; exact Nat.le_of_eq rfl) (hb hby d7_9) (fun _ _ => ⟨rfl, e52, (by decide : 2 + 0 ≤ _), (by decide : 32 + 0 ≤ _)⟩)
  dsimp only [Pt.U, Pt.locs, Pt.cells, Pt.slots] at X53 l53 y53 z53 st53 hQ53
  subst l53 y53 z53
  obtain ⟨rfl, N53q, e53⟩ := hQ53
  have N53 := Fr.app N52 N53q
  refine Goes.tr st53 ?_
  show Goes p e below KK T53 (mkF m 12 #[.val (.ref a1), .val (.ref a2)] [])
  refine Goes.of (fun t => XS.aloadN X53.here hx rfl (hb hby d7_12) rfl rfl) ?_
  show Goes p e below KK T53 (mkF m 13 #[.val (.ref a1), .val (.ref a2)] [(.ref a1)])
  obtain ⟨T54, X54, e54, st54⟩ := getF X53 hx hZ51 hown51 (host := "") (Or.inl w_29) Via.refl e53 F1e_51 (g := (mkF m 13 #[.val (.ref a1), .val (.ref a2)] [(.ref a1)])) rfl rfl (hb hby d7_13)
  refine Goes.of (st54) ?_
  show Goes p e below KK T54 (mkF m 16 #[.val (.ref a1), .val (.ref a2)] [(.ref ar)])
  refine Goes.of (fun t => XS.aloadN X54.here hx rfl (hb hby d7_16) rfl rfl) ?_
  show Goes p e below KK T54 (mkF m 17 #[.val (.ref a1), .val (.ref a2)] [(.ref a1), (.ref ar)])
  refine Goes.of (fun t => XS.dup X54.here hx rfl (hb hby d7_17) rfl rfl) ?_
  show Goes p e below KK T54 (mkF m 18 #[.val (.ref a1), .val (.ref a2)] [(.ref a1), (.ref a1), (.ref ar)])
  obtain ⟨T55, X55, e55, st55⟩ := getF X54 hx hZ51 hown51 (host := "") (Or.inl w_59) Via.refl e54 F1s_51 (g := (mkF m 18 #[.val (.ref a1), .val (.ref a2)] [(.ref a1), (.ref a1), (.ref ar)])) rfl rfl (hb hby d7_18)
  refine Goes.of (st55) ?_
  show Goes p e below KK T55 (mkF m 21 #[.val (.ref a1), .val (.ref a2)] [(.int (0 : Int32)), (.ref a1), (.ref ar)])
  refine Goes.of (fun t => XT.dupX1 X55.here hx rfl (hb hby d7_21) rfl rfl rfl) ?_
  show Goes p e below KK T55 (mkF m 22 #[.val (.ref a1), .val (.ref a2)] [(.int (0 : Int32)), (.ref a1), (.int (0 : Int32)), (.ref ar)])
  refine Goes.of (fun t => XS.iconst X55.here hx rfl (hb hby d7_22)) ?_
  show Goes p e below KK T55 (mkF m 23 #[.val (.ref a1), .val (.ref a2)] [(.int (1 : Int32)), (.int (0 : Int32)), (.ref a1), (.int (0 : Int32)), (.ref ar)])
  refine Goes.of (fun t => XS.iadd X55.here hx rfl (hb hby d7_23) rfl) ?_
  show Goes p e below KK T55 (mkF m 24 #[.val (.ref a1), .val (.ref a2)] [(.int (1 : Int32)), (.ref a1), (.int (0 : Int32)), (.ref ar)])
  obtain ⟨T56, h56, X56, e56, W56, st56⟩ := putF X55 hx hZ51 hown51 (host := "") (Or.inl w_59) Via.refl e55 F1s_51 E1_51 (Or.inl w_60) w_1 (ty := .int) (by decide) rfl rfl (g := (mkF m 24 #[.val (.ref a1), .val (.ref a2)] [(.int (1 : Int32)), (.ref a1), (.int (0 : Int32)), (.ref ar)])) rfl rfl (hb hby d7_24)
  refine Goes.of (st56) ?_
  have E1_51_56 : Exa Z h56 a1 "corbel/structures/ArrayStack" := E1_51.wr W56
  have F1e_51_56 : Fld Z h56 a1 "corbel/structures/ArrayStack" "elements" "[Ljava/lang/Object;" (.ref ar) := F1e_51.other W56 (Or.inr (slot_ne (Or.inl w_30) (Or.inl w_60) (by decide) (t := (.array (.object "java/lang/Object"))) (t' := .int) (by decide) (by decide)))
  have F1m_51_56 : Fld Z h56 a1 "java/util/AbstractList" "modCount" "I" (.int md) := F1m_51.other W56 (Or.inr (slot_ne (Or.inl w_26) (Or.inl w_60) (by decide) (t := .int) (t' := .int) (by decide) (by decide)))
  have A1_51_56 : AR Z h56 ar [.null] := A1_51.other W56 (Exa.ne A1_51.exa E1_51 (by decide))
  have Ey_a2_51_56 : Exa Z h56 a2 "java/lang/Integer" := Ey_a2_51.wr W56
  have K56 : Keep h0 h56 [a1, ar] := K51.wr W56 (Or.inl (List.mem_of_getElem? (i := 0) rfl))
  have Z56 : n0 ≤ h56.size := Nat.le_trans Z51 (Keep.of_wr W56).1
  have HK56 := Nat.le_trans HK51 (Keep.of_wr W56).1
  have N56 := Fr.snoc X56 N53 g_a1
  have F_size_a1_56 : Fld Z h56 a1 "corbel/structures/ArrayStack" "size" "I" (.int (1 : Int32)) := F1s_51.same W56
  show Goes p e below KK T56 (mkF m 27 #[.val (.ref a1), .val (.ref a2)] [(.int (0 : Int32)), (.ref ar)])
  refine Goes.of (fun t => XS.aloadN X56.here hx rfl (hb hby d7_27) rfl rfl) ?_
  show Goes p e below KK T56 (mkF m 28 #[.val (.ref a1), .val (.ref a2)] [(.ref a2), (.int (0 : Int32)), (.ref ar)])
  obtain ⟨T57, h57, X57, e57, W57, A57, st57⟩ := AR.aastore X56 hx hZ51 e56 A1_51_56 (Or.inr ⟨_, rfl, Ins.of_exa Ey_a2_51_56 w_61⟩) (i := 0) (j := (0 : Int32)) (rfl) (by simp) (g := (mkF m 28 #[.val (.ref a1), .val (.ref a2)] [(.ref a2), (.int (0 : Int32)), (.ref ar)])) rfl rfl (hb hby d7_28)
  refine Goes.of (st57) ?_
  have E1_51_56_57 : Exa Z h57 a1 "corbel/structures/ArrayStack" := E1_51_56.wr W57
  have F1e_51_56_57 : Fld Z h57 a1 "corbel/structures/ArrayStack" "elements" "[Ljava/lang/Object;" (.ref ar) := F1e_51_56.other W57 (Or.inl (Exa.ne E1_51_56 A1_51_56.exa (by decide)))
  have F_size_a1_56_57 : Fld Z h57 a1 "corbel/structures/ArrayStack" "size" "I" (.int (1 : Int32)) := F_size_a1_56.other W57 (Or.inl (Exa.ne E1_51_56 A1_51_56.exa (by decide)))
  have F1m_51_56_57 : Fld Z h57 a1 "java/util/AbstractList" "modCount" "I" (.int md) := F1m_51_56.other W57 (Or.inl (Exa.ne E1_51_56 A1_51_56.exa (by decide)))
  have Ey_a2_51_56_57 : Exa Z h57 a2 "java/lang/Integer" := Ey_a2_51_56.wr W57
  have K57 : Keep h0 h57 [a1, ar] := K56.wr W57 (Or.inl (List.mem_of_getElem? (i := 1) rfl))
  have Z57 : n0 ≤ h57.size := Nat.le_trans Z56 (Keep.of_wr W57).1
  have HK57 := Nat.le_trans HK56 (Keep.of_wr W57).1
  have N57 := Fr.snoc X57 N56 g_ar
  have A_ar_57 : AR Z h57 ar [(.ref a2)] := A57
  show Goes p e below KK T57 (mkF m 29 #[.val (.ref a1), .val (.ref a2)] [])
  refine Goes.of (fun t => XS.aloadN X57.here hx rfl (hb hby d7_29) rfl rfl) ?_
  show Goes p e below KK T57 (mkF m 30 #[.val (.ref a1), .val (.ref a2)] [(.ref a1)])
  refine Goes.of (fun t => XS.dup X57.here hx rfl (hb hby d7_30) rfl rfl) ?_
  show Goes p e below KK T57 (mkF m 31 #[.val (.ref a1), .val (.ref a2)] [(.ref a1), (.ref a1)])
  obtain ⟨T58, X58, e58, st58⟩ := getF X57 hx hZ51 hown51 (host := "") (Or.inl w_62) (Via.of w_63) e57 F1m_51_56_57 (g := (mkF m 31 #[.val (.ref a1), .val (.ref a2)] [(.ref a1), (.ref a1)])) rfl rfl (hb hby d7_31)
  refine Goes.of (st58) ?_
  show Goes p e below KK T58 (mkF m 34 #[.val (.ref a1), .val (.ref a2)] [(.int md), (.ref a1)])
  refine Goes.of (fun t => XS.iconst X58.here hx rfl (hb hby d7_34)) ?_
  show Goes p e below KK T58 (mkF m 35 #[.val (.ref a1), .val (.ref a2)] [(.int (1 : Int32)), (.int md), (.ref a1)])
  refine Goes.of (fun t => XS.iadd X58.here hx rfl (hb hby d7_35) rfl) ?_
  show Goes p e below KK T58 (mkF m 36 #[.val (.ref a1), .val (.ref a2)] [(.int (md + (1 : Int32))), (.ref a1)])
  obtain ⟨T59, h59, X59, e59, W59, st59⟩ := putF X58 hx hZ51 hown51 (host := "") (Or.inl w_62) (Via.of w_63) e58 F1m_51_56_57 E1_51_56_57 (Or.inl w_26) w_1 (ty := .int) (by decide) rfl rfl (g := (mkF m 36 #[.val (.ref a1), .val (.ref a2)] [(.int (md + (1 : Int32))), (.ref a1)])) rfl rfl (hb hby d7_36)
  refine Goes.of (st59) ?_
  have E1_51_56_57_59 : Exa Z h59 a1 "corbel/structures/ArrayStack" := E1_51_56_57.wr W59
  have F1e_51_56_57_59 : Fld Z h59 a1 "corbel/structures/ArrayStack" "elements" "[Ljava/lang/Object;" (.ref ar) := F1e_51_56_57.other W59 (Or.inr (slot_ne (Or.inl w_30) (Or.inl w_26) (by decide) (t := (.array (.object "java/lang/Object"))) (t' := .int) (by decide) (by decide)))
  have F_size_a1_56_57_59 : Fld Z h59 a1 "corbel/structures/ArrayStack" "size" "I" (.int (1 : Int32)) := F_size_a1_56_57.other W59 (Or.inr (slot_ne (Or.inl w_60) (Or.inl w_26) (by decide) (t := .int) (t' := .int) (by decide) (by decide)))
  have A_ar_57_59 : AR Z h59 ar [(.ref a2)] := A_ar_57.other W59 (Exa.ne A_ar_57.exa E1_51_56_57 (by decide))
  have Ey_a2_51_56_57_59 : Exa Z h59 a2 "java/lang/Integer" := Ey_a2_51_56_57.wr W59
  have K59 : Keep h0 h59 [a1, ar] := K57.wr W59 (Or.inl (List.mem_of_getElem? (i := 0) rfl))
  have Z59 : n0 ≤ h59.size := Nat.le_trans Z57 (Keep.of_wr W59).1
  have HK59 := Nat.le_trans HK57 (Keep.of_wr W59).1
  have N59 := Fr.snoc X59 N57 g_a1
  have F_modCount_a1_59 : Fld Z h59 a1 "java/util/AbstractList" "modCount" "I" (.int (md + (1 : Int32))) := F1m_51_56_57.same W59
  show Goes p e below KK T59 (mkF m 39 #[.val (.ref a1), .val (.ref a2)] [])
  refine Goes.of (fun t => XS.iconst X59.here hx rfl (hb hby d7_39)) ?_
  show Goes p e below KK T59 (mkF m 40 #[.val (.ref a1), .val (.ref a2)] [(.int (1 : Int32))])
  rw [← hKK]
  refine Goes.retNarW X59 HS51 (by rw [e59]; exact HK59) hx hlk (t := .boolean) (by simp) Bd.returns (hb hby d7_40) ?_ (by decide) (by decide)
  rw [e59]
  exact ⟨ar, rfl, N59, K59, Or.inl rfl, E1_51_56_57_59, F1e_51_56_57_59, F_size_a1_56_57_59, F_modCount_a1_59, A_ar_57_59⟩
theorem ef_7s1 (m : MethodId) (x0 : Addr) (x1 : Addr) : entryFrame m #[(.ref x0), (.ref x1)] 2 = mkF m 0 #[.val (.ref x0), .val (.ref x1)] [] := by first | (simp [entryFrame, mkF, argsToLocals, Value.category]; done) | rfl
def Q7s1 (Z : State) (a1 : Addr) (a2 : Addr) (ar : Addr) (mr : Addr) (md : Int32) (y0 : Addr) (h0 : Heap) (n0 : Nat) (v : Option Value) (h : Heap) (L : List Loc) : Prop := ∃ b, v = some (.int 1) ∧ Fr n0 L ∧ Keep h0 h [a1, ar] ∧ (b = ar ∨ h0.size ≤ b) ∧ Exa Z h a1 "corbel/structures/ArrayStack" ∧ Fld Z h a1 "corbel/structures/ArrayStack" "elements" "[Ljava/lang/Object;" (.ref b) ∧ Fld Z h a1 "corbel/structures/ArrayStack" "size" "I" (.int (2 : Int32)) ∧ Fld Z h a1 "java/util/AbstractList" "modCount" "I" (.int (md + 1)) ∧ AR Z h b [(.ref y0), (.ref a2)]
set_option maxRecDepth 65536 in
set_option maxHeartbeats 40000000 in
theorem rm7s1 (l : Launch) (Z : State) (a0 : Array Value) (hw : ∀ d ∈ tables_1, d.before a0 Z = true) (ws : List Jvm.Cond) (a1 : Addr) (a2 : Addr) (ar : Addr) (mr : Addr) (md : Int32) (y0 : Addr) (h0 : Heap) (n0 : Nat) (Z0 : n0 ≤ h0.size) (E1 : Exa Z h0 a1 "corbel/structures/ArrayStack") (F1e : Fld Z h0 a1 "corbel/structures/ArrayStack" "elements" "[Ljava/lang/Object;" (.ref ar)) (F1s : Fld Z h0 a1 "corbel/structures/ArrayStack" "size" "I" (.int (1 : Int32))) (F1m : Fld Z h0 a1 "java/util/AbstractList" "modCount" "I" (.int md)) (A1 : AR Z h0 ar [(.ref y0)]) (Ey_y0 : Exa Z h0 y0 "java/lang/Integer") (Ey_a2 : Exa Z h0 a2 "java/lang/Integer") (g_a1 : n0 ≤ a1) (g_ar : n0 ≤ ar) (M0 : Mir Z "[Ljava/lang/Object;" mr) :
    MetFree l (⟨"corbel/structures/ArrayStack", "add", "(Ljava/lang/Object;)Z"⟩ : MethodName) (head1 (Jvm.Cond.code (⟨"corbel/structures/ArrayStack", "add", "(Ljava/lang/Object;)Z"⟩ : MethodName) prog_1_method_8_code 2 (some .boolean) :: ws) ({ frames := 4, cells := 3, slots := 34, locals := 86 } : Room)) (fun a U => a = #[(.ref a1), (.ref a2)] ∧ Z.Warmed39 U.vm ∧ U.heap = h0) (fun _ _ _ _ _ => True) (fun _ U o U' => ∃ v L, o = .returned v ∧ Q7s1 Z a1 a2 ar mr md y0 h0 n0 v U'.heap L ∧ ReturnedEndW U o U' L ({ frames := 4, cells := 3, slots := 34, locals := 86 } : Room).cells ({ frames := 4, cells := 3, slots := 34, locals := 86 } : Room).slots) := by
  refine MetFree.of_bodySF pn_7 hisR ?_
  intro p e s m args below meth c s₁ Bd hml0 hP hK
  obtain ⟨rfl, hZ, hh⟩ := hP
  have hx := Bd.exec
  have hby := Bd.bytes
  have hml : c.maxLocals = 2 := hml0
  have hown : s.vm.findClass "corbel/structures/ArrayStack" = some m.cls := findClass_of_methodNamed Bd.named
  have hnm := (name_of_methodNamed Bd.named Bd.method).1
  have hlk : meth.locks = false := BodyLoose.notSynchronized Bd
  have X0 : Stand p l e ({ frames := 4, cells := 3, slots := 34, locals := 86 } : Room) s m #[(.ref a1), (.ref a2)] below meth c s₁ [] 0 0 := Stand.of_body Bd
  have e0 : s₁.heap = h0 := by rw [← hh, Bd.state]; rfl
  have N0 := Fr.nil n0
  have hZw : Z.Warmed39 (s.setVm s.vm).vm := hZ
  have hownw : (s.setVm s.vm).vm.findClass "corbel/structures/ArrayStack" = some m.cls := hown
  have X0w : Stand p l e ({ frames := 4, cells := 3, slots := 34, locals := 86 } : Room) (s.setVm s.vm) m #[(.ref a1), (.ref a2)] below meth c s₁ [] 0 0 := X0
  have HS0 : s.Since s.vm h0.size := (State.WarmedH.refl s).since _
  have HK0 : h0.size ≤ h0.size := Nat.le_refl _
  show Goes p e below (OwnKW s (Q7s1 Z a1 a2 ar mr md y0 h0 n0) ({ frames := 4, cells := 3, slots := 34, locals := 86 } : Room).cells ({ frames := 4, cells := 3, slots := 34, locals := 86 } : Room).slots) s₁ (entryFrame m #[(.ref a1), (.ref a2)] 2)
  refine Goes.cast (ef_7s1 m a1 a2) ?_
  generalize hKK : OwnKW s (Q7s1 Z a1 a2 ar mr md y0 h0 n0) ({ frames := 4, cells := 3, slots := 34, locals := 86 } : Room).cells ({ frames := 4, cells := 3, slots := 34, locals := 86 } : Room).slots = KK
  show Goes p e below KK s₁ (mkF m 0 #[.val (.ref a1), .val (.ref a2)] [])
  have w_1 := hw _ (List.mem_of_getElem? (i := 1) rfl)
  have w_2 := hw _ (List.mem_of_getElem? (i := 2) rfl)
  have w_26 := hw _ (List.mem_of_getElem? (i := 26) rfl)
  have w_29 := hw _ (List.mem_of_getElem? (i := 29) rfl)
  have w_30 := hw _ (List.mem_of_getElem? (i := 30) rfl)
  have w_43 := hw _ (List.mem_of_getElem? (i := 43) rfl)
  have w_44 := hw _ (List.mem_of_getElem? (i := 44) rfl)
  have w_45 := hw _ (List.mem_of_getElem? (i := 45) rfl)
  have w_46 := hw _ (List.mem_of_getElem? (i := 46) rfl)
  have w_47 := hw _ (List.mem_of_getElem? (i := 47) rfl)
  have w_48 := hw _ (List.mem_of_getElem? (i := 48) rfl)
  have w_49 := hw _ (List.mem_of_getElem? (i := 49) rfl)
  have w_50 := hw _ (List.mem_of_getElem? (i := 50) rfl)
  have w_51 := hw _ (List.mem_of_getElem? (i := 51) rfl)
  have w_52 := hw _ (List.mem_of_getElem? (i := 52) rfl)
  have w_53 := hw _ (List.mem_of_getElem? (i := 53) rfl)
  have w_54 := hw _ (List.mem_of_getElem? (i := 54) rfl)
  have w_55 := hw _ (List.mem_of_getElem? (i := 55) rfl)
  have w_56 := hw _ (List.mem_of_getElem? (i := 56) rfl)
  have w_57 := hw _ (List.mem_of_getElem? (i := 57) rfl)
  have w_58 := hw _ (List.mem_of_getElem? (i := 58) rfl)
  have w_59 := hw _ (List.mem_of_getElem? (i := 59) rfl)
  have w_60 := hw _ (List.mem_of_getElem? (i := 60) rfl)
  have w_61 := hw _ (List.mem_of_getElem? (i := 61) rfl)
  have w_62 := hw _ (List.mem_of_getElem? (i := 62) rfl)
  have w_63 := hw _ (List.mem_of_getElem? (i := 63) rfl)
  refine Goes.of (fun t => XS.aloadN X0w.here hx rfl (hb hby d7_0) rfl rfl) ?_
  show Goes p e below KK s₁ (mkF m 1 #[.val (.ref a1), .val (.ref a2)] [(.ref a2)])
  have wS60 : ∀ a ∈ Bundle.stringAtoms, a.before a0 Z = true := fun a ha => by
    simp only [Bundle.stringAtoms, List.mem_cons, List.not_mem_nil, or_false] at ha
    rcases ha with rfl | rfl | rfl | rfl | rfl | rfl | rfl
    · exact w_44
    · exact w_45
    · exact w_46
    · exact w_47
    · exact w_48
    · exact w_49
    · exact w_50
  obtain ⟨a60, T60, h60, k60, X60, e60, E60, HS60, HK60, hZ60, hown60, st60⟩ := ldcS X0w hx hZw hownw w_43 wS60 e0 HS0 HK0 (g := (mkF m 1 #[.val (.ref a1), .val (.ref a2)] [(.ref a2)])) rfl (hb hby d7_1) (n := 28) (by decide +kernel) (by decide) (by decide) (by decide)
  refine Goes.of (st60) ?_
  have E1_60 : Exa Z h60 a1 "corbel/structures/ArrayStack" := E1.ext E60
  have F1e_60 : Fld Z h60 a1 "corbel/structures/ArrayStack" "elements" "[Ljava/lang/Object;" (.ref ar) := F1e.ext E60
  have F1s_60 : Fld Z h60 a1 "corbel/structures/ArrayStack" "size" "I" (.int (1 : Int32)) := F1s.ext E60
  have F1m_60 : Fld Z h60 a1 "java/util/AbstractList" "modCount" "I" (.int md) := F1m.ext E60
  have A1_60 : AR Z h60 ar [(.ref y0)] := A1.ext E60
  have Ey_y0_60 : Exa Z h60 y0 "java/lang/Integer" := Ey_y0.ext E60
  have Ey_a2_60 : Exa Z h60 a2 "java/lang/Integer" := Ey_a2.ext E60
  have K60 : Keep h0 h60 [a1, ar] := (Keep.refl h0 [a1, ar]).ext E60
  have Z60 : n0 ≤ h60.size := Nat.le_trans Z0 E60.1
  show Goes p e below KK T60 (mkF m 3 #[.val (.ref a1), .val (.ref a2)] [(.ref a60), (.ref a2)])
  obtain ⟨_, _, ⟨T61, L61, k61, n61⟩, -, X61, ⟨Lc61, hQ61, l61, y61, z61⟩, st61⟩ := Jvm.LawKit.callS X60 hx (y := (⟨"java/util/Objects", "requireNonNull", "(Ljava/lang/Object;Ljava/lang/String;)Ljava/lang/Object;"⟩ : MethodName)) hown60 (mvT hZ60 w_51) (mvT hZ60 w_52) (mvT hZ60 w_53) (mvT hZ60 w_54) (by decide) (backOf (W := 0) (rm8 l Z a0 hw [] a2 a60  h60 n0 Z60 ) hZ60 w_54 w_53 (by decide) (by decide)) (g := (mkF m 3 #[.val (.ref a1), .val (.ref a2)] [(.ref a60), (.ref a2)])) rfl (by rw [hml]; rfl) (argsL := [(.ref a2), (.ref a60)]) (rest := []) (lenOf pd_33 rfl) rfl (by show 2 * 0 + _ ≤ _; exact Nat.le_of_eq rfl) (hb hby d7_3) (fun _ _ => ⟨rfl, e60, (by decide : 2 + 0 ≤ _), (by decide : 32 + 0 ≤ _)⟩)
  dsimp only [Pt.U, Pt.locs, Pt.cells, Pt.slots] at X61 l61 y61 z61 st61 hQ61
  subst l61 y61 z61
  obtain ⟨rfl, N61q, e61⟩ := hQ61
  have N61 := Fr.app N0 N61q
  refine Goes.of st61 ?_
  show Goes p e below KK T61 (mkF m 6 #[.val (.ref a1), .val (.ref a2)] [(.ref a2)])
  refine Goes.of (fun t => XT.pop X61.here hx rfl (hb hby d7_6) rfl rfl) ?_
  show Goes p e below KK T61 (mkF m 7 #[.val (.ref a1), .val (.ref a2)] [])
  refine Goes.of (fun t => XS.aloadN X61.here hx rfl (hb hby d7_7) rfl rfl) ?_
  show Goes p e below KK T61 (mkF m 8 #[.val (.ref a1), .val (.ref a2)] [(.ref a1)])
  refine Goes.of (fun t => XS.iconst X61.here hx rfl (hb hby d7_8)) ?_
  show Goes p e below KK T61 (mkF m 9 #[.val (.ref a1), .val (.ref a2)] [(.int (1 : Int32)), (.ref a1)])
  obtain ⟨cq62, q62, q62'⟩ := E1_60.cell
  obtain ⟨_, _, ⟨T62, L62, k62, n62⟩, -, X62, ⟨Lc62, hQ62, l62, y62, z62⟩, st62⟩ := X61.privateBack hx (y := (⟨"corbel/structures/ArrayStack", "growFor", "(I)V"⟩ : MethodName)) hown60 (mvT hZ60 w_55) (mvT hZ60 w_56) (own_selp hZ60 w_1 w_57 w_56 (by decide)) (Cond.privateMethod_at (mvP hZ60 w_57 (args := #[]))) (mvT hZ60 w_58) (by decide) (backOf (W := 0) (rm9s1 l Z a0 hw [] a1 ar mr md y0 h60 n0 Z60 E1_60 F1e_60 F1s_60 F1m_60 A1_60 Ey_y0_60 g_a1 g_ar M0) hZ60 w_58 w_2 (by decide) (by decide)) (g := (mkF m 9 #[.val (.ref a1), .val (.ref a2)] [(.int (1 : Int32)), (.ref a1)])) rfl (by rw [hml]; rfl) (Steps.refl _) (a := a1) (by rw [e61]; exact q62) q62' (argsL := [(.int (1 : Int32))]) (rest := []) (lenOf pd_7 rfl) rfl (by show 2 * 0 + _ ≤ _; exact Nat.le_of_eq rfl) (hb hby d7_9) (fun _ _ => ⟨rfl, e61, (by decide : 2 + 1 ≤ _), (by decide : 32 + 2 ≤ _)⟩)
  dsimp only [Pt.U, Pt.locs, Pt.cells, Pt.slots] at X62 l62 y62 z62 st62 hQ62
  subst l62 y62 z62
  obtain ⟨r62, rfl, N62q, Kc62, hb62, E62, Fe62, Fs62, Fm62, A62⟩ := hQ62
  have N62 := Fr.app N61 N62q
  have ne_a1_r62 : a1 ≠ r62 := Nat.ne_of_lt (Nat.lt_of_lt_of_le E1_60.lt hb62)
  have ne_ar_r62 : ar ≠ r62 := Nat.ne_of_lt (Nat.lt_of_lt_of_le A1_60.lt hb62)
  have g_r62 : n0 ≤ r62 := Nat.le_trans Z60 hb62
  have sz_r62 : h0.size ≤ r62 := Nat.le_trans K60.1 hb62
  have E1_60_62 : Exa Z T62.heap a1 "corbel/structures/ArrayStack" := E1_60.keep Kc62
  have A1_60_62 : AR Z T62.heap ar [(.ref y0)] := A1_60.keep Kc62 (ninS (Exa.ne A1_60.exa E1_60 (by decide)) nin0)
  have Ey_y0_60_62 : Exa Z T62.heap y0 "java/lang/Integer" := Ey_y0_60.keep Kc62
  have Ey_a2_60_62 : Exa Z T62.heap a2 "java/lang/Integer" := Ey_a2_60.keep Kc62
  have K62 : Keep h0 T62.heap [a1, ar] := K60.trans Kc62 (allS (Or.inl (List.mem_of_getElem? (i := 0) rfl)) all0)
  have Z62 : n0 ≤ T62.heap.size := Nat.le_trans Z60 Kc62.1
  have HK62 := Nat.le_trans HK60 Kc62.1
  have e62 : T62.heap = T62.heap := rfl
  refine Goes.tr st62 ?_
  show Goes p e below KK T62 (mkF m 12 #[.val (.ref a1), .val (.ref a2)] [])
  refine Goes.of (fun t => XS.aloadN X62.here hx rfl (hb hby d7_12) rfl rfl) ?_
  show Goes p e below KK T62 (mkF m 13 #[.val (.ref a1), .val (.ref a2)] [(.ref a1)])
  obtain ⟨T63, X63, e63, st63⟩ := getF X62 hx hZ60 hown60 (host := "") (Or.inl w_29) Via.refl e62 Fe62 (g := (mkF m 13 #[.val (.ref a1), .val (.ref a2)] [(.ref a1)])) rfl rfl (hb hby d7_13)
  refine Goes.of (st63) ?_
  show Goes p e below KK T63 (mkF m 16 #[.val (.ref a1), .val (.ref a2)] [(.ref r62)])
  refine Goes.of (fun t => XS.aloadN X63.here hx rfl (hb hby d7_16) rfl rfl) ?_
  show Goes p e below KK T63 (mkF m 17 #[.val (.ref a1), .val (.ref a2)] [(.ref a1), (.ref r62)])
  refine Goes.of (fun t => XS.dup X63.here hx rfl (hb hby d7_17) rfl rfl) ?_
  show Goes p e below KK T63 (mkF m 18 #[.val (.ref a1), .val (.ref a2)] [(.ref a1), (.ref a1), (.ref r62)])
  obtain ⟨T64, X64, e64, st64⟩ := getF X63 hx hZ60 hown60 (host := "") (Or.inl w_59) Via.refl e63 Fs62 (g := (mkF m 18 #[.val (.ref a1), .val (.ref a2)] [(.ref a1), (.ref a1), (.ref r62)])) rfl rfl (hb hby d7_18)
  refine Goes.of (st64) ?_
  show Goes p e below KK T64 (mkF m 21 #[.val (.ref a1), .val (.ref a2)] [(.int (1 : Int32)), (.ref a1), (.ref r62)])
  refine Goes.of (fun t => XT.dupX1 X64.here hx rfl (hb hby d7_21) rfl rfl rfl) ?_
  show Goes p e below KK T64 (mkF m 22 #[.val (.ref a1), .val (.ref a2)] [(.int (1 : Int32)), (.ref a1), (.int (1 : Int32)), (.ref r62)])
  refine Goes.of (fun t => XS.iconst X64.here hx rfl (hb hby d7_22)) ?_
  show Goes p e below KK T64 (mkF m 23 #[.val (.ref a1), .val (.ref a2)] [(.int (1 : Int32)), (.int (1 : Int32)), (.ref a1), (.int (1 : Int32)), (.ref r62)])
  refine Goes.of (fun t => XS.iadd X64.here hx rfl (hb hby d7_23) rfl) ?_
  show Goes p e below KK T64 (mkF m 24 #[.val (.ref a1), .val (.ref a2)] [(.int (2 : Int32)), (.ref a1), (.int (1 : Int32)), (.ref r62)])
  obtain ⟨T65, h65, X65, e65, W65, st65⟩ := putF X64 hx hZ60 hown60 (host := "") (Or.inl w_59) Via.refl e64 Fs62 E62 (Or.inl w_60) w_1 (ty := .int) (by decide) rfl rfl (g := (mkF m 24 #[.val (.ref a1), .val (.ref a2)] [(.int (2 : Int32)), (.ref a1), (.int (1 : Int32)), (.ref r62)])) rfl rfl (hb hby d7_24)
  refine Goes.of (st65) ?_
  have E62_65 : Exa Z h65 a1 "corbel/structures/ArrayStack" := E62.wr W65
  have A1_60_62_65 : AR Z h65 ar [(.ref y0)] := A1_60_62.other W65 (Exa.ne A1_60_62.exa E62 (by decide))
  have Ey_y0_60_62_65 : Exa Z h65 y0 "java/lang/Integer" := Ey_y0_60_62.wr W65
  have Ey_a2_60_62_65 : Exa Z h65 a2 "java/lang/Integer" := Ey_a2_60_62.wr W65
  have Fe62_65 : Fld Z h65 a1 "corbel/structures/ArrayStack" "elements" "[Ljava/lang/Object;" (.ref r62) := Fe62.other W65 (Or.inr (slot_ne (Or.inl w_30) (Or.inl w_60) (by decide) (t := (.array (.object "java/lang/Object"))) (t' := .int) (by decide) (by decide)))
  have Fm62_65 : Fld Z h65 a1 "java/util/AbstractList" "modCount" "I" (.int md) := Fm62.other W65 (Or.inr (slot_ne (Or.inl w_26) (Or.inl w_60) (by decide) (t := .int) (t' := .int) (by decide) (by decide)))
  have A62_65 : AR Z h65 r62 [(.ref y0), .null] := A62.other W65 (Ne.symm ne_a1_r62)
  have K65 : Keep h0 h65 [a1, ar] := K62.wr W65 (Or.inl (List.mem_of_getElem? (i := 0) rfl))
  have Z65 : n0 ≤ h65.size := Nat.le_trans Z62 (Keep.of_wr W65).1
  have HK65 := Nat.le_trans HK62 (Keep.of_wr W65).1
  have N65 := Fr.snoc X65 N62 g_a1
  have F_size_a1_65 : Fld Z h65 a1 "corbel/structures/ArrayStack" "size" "I" (.int (2 : Int32)) := Fs62.same W65
  show Goes p e below KK T65 (mkF m 27 #[.val (.ref a1), .val (.ref a2)] [(.int (1 : Int32)), (.ref r62)])
  refine Goes.of (fun t => XS.aloadN X65.here hx rfl (hb hby d7_27) rfl rfl) ?_
  show Goes p e below KK T65 (mkF m 28 #[.val (.ref a1), .val (.ref a2)] [(.ref a2), (.int (1 : Int32)), (.ref r62)])
  obtain ⟨T66, h66, X66, e66, W66, A66, st66⟩ := AR.aastore X65 hx hZ60 e65 A62_65 (Or.inr ⟨_, rfl, Ins.of_exa Ey_a2_60_62_65 w_61⟩) (i := 1) (j := (1 : Int32)) (rfl) (by simp) (g := (mkF m 28 #[.val (.ref a1), .val (.ref a2)] [(.ref a2), (.int (1 : Int32)), (.ref r62)])) rfl rfl (hb hby d7_28)
  refine Goes.of (st66) ?_
  have E62_65_66 : Exa Z h66 a1 "corbel/structures/ArrayStack" := E62_65.wr W66
  have A1_60_62_65_66 : AR Z h66 ar [(.ref y0)] := A1_60_62_65.other W66 ne_ar_r62
  have Ey_y0_60_62_65_66 : Exa Z h66 y0 "java/lang/Integer" := Ey_y0_60_62_65.wr W66
  have Ey_a2_60_62_65_66 : Exa Z h66 a2 "java/lang/Integer" := Ey_a2_60_62_65.wr W66
  have Fe62_65_66 : Fld Z h66 a1 "corbel/structures/ArrayStack" "elements" "[Ljava/lang/Object;" (.ref r62) := Fe62_65.other W66 (Or.inl ne_a1_r62)
  have F_size_a1_65_66 : Fld Z h66 a1 "corbel/structures/ArrayStack" "size" "I" (.int (2 : Int32)) := F_size_a1_65.other W66 (Or.inl ne_a1_r62)
  have Fm62_65_66 : Fld Z h66 a1 "java/util/AbstractList" "modCount" "I" (.int md) := Fm62_65.other W66 (Or.inl ne_a1_r62)
  have K66 : Keep h0 h66 [a1, ar] := K65.wr W66 (Or.inr sz_r62)
  have Z66 : n0 ≤ h66.size := Nat.le_trans Z65 (Keep.of_wr W66).1
  have HK66 := Nat.le_trans HK65 (Keep.of_wr W66).1
  have N66 := Fr.snoc X66 N65 g_r62
  have A_r62_66 : AR Z h66 r62 [(.ref y0), (.ref a2)] := A66
  show Goes p e below KK T66 (mkF m 29 #[.val (.ref a1), .val (.ref a2)] [])
  refine Goes.of (fun t => XS.aloadN X66.here hx rfl (hb hby d7_29) rfl rfl) ?_
  show Goes p e below KK T66 (mkF m 30 #[.val (.ref a1), .val (.ref a2)] [(.ref a1)])
  refine Goes.of (fun t => XS.dup X66.here hx rfl (hb hby d7_30) rfl rfl) ?_
  show Goes p e below KK T66 (mkF m 31 #[.val (.ref a1), .val (.ref a2)] [(.ref a1), (.ref a1)])
  obtain ⟨T67, X67, e67, st67⟩ := getF X66 hx hZ60 hown60 (host := "") (Or.inl w_62) (Via.of w_63) e66 Fm62_65_66 (g := (mkF m 31 #[.val (.ref a1), .val (.ref a2)] [(.ref a1), (.ref a1)])) rfl rfl (hb hby d7_31)
  refine Goes.of (st67) ?_
  show Goes p e below KK T67 (mkF m 34 #[.val (.ref a1), .val (.ref a2)] [(.int md), (.ref a1)])
  refine Goes.of (fun t => XS.iconst X67.here hx rfl (hb hby d7_34)) ?_
  show Goes p e below KK T67 (mkF m 35 #[.val (.ref a1), .val (.ref a2)] [(.int (1 : Int32)), (.int md), (.ref a1)])
  refine Goes.of (fun t => XS.iadd X67.here hx rfl (hb hby d7_35) rfl) ?_
  show Goes p e below KK T67 (mkF m 36 #[.val (.ref a1), .val (.ref a2)] [(.int (md + (1 : Int32))), (.ref a1)])
  obtain ⟨T68, h68, X68, e68, W68, st68⟩ := putF X67 hx hZ60 hown60 (host := "") (Or.inl w_62) (Via.of w_63) e67 Fm62_65_66 E62_65_66 (Or.inl w_26) w_1 (ty := .int) (by decide) rfl rfl (g := (mkF m 36 #[.val (.ref a1), .val (.ref a2)] [(.int (md + (1 : Int32))), (.ref a1)])) rfl rfl (hb hby d7_36)
  refine Goes.of (st68) ?_
  have E62_65_66_68 : Exa Z h68 a1 "corbel/structures/ArrayStack" := E62_65_66.wr W68
  have A1_60_62_65_66_68 : AR Z h68 ar [(.ref y0)] := A1_60_62_65_66.other W68 (Exa.ne A1_60_62_65_66.exa E62_65_66 (by decide))
  have Ey_y0_60_62_65_66_68 : Exa Z h68 y0 "java/lang/Integer" := Ey_y0_60_62_65_66.wr W68
  have Ey_a2_60_62_65_66_68 : Exa Z h68 a2 "java/lang/Integer" := Ey_a2_60_62_65_66.wr W68
  have Fe62_65_66_68 : Fld Z h68 a1 "corbel/structures/ArrayStack" "elements" "[Ljava/lang/Object;" (.ref r62) := Fe62_65_66.other W68 (Or.inr (slot_ne (Or.inl w_30) (Or.inl w_26) (by decide) (t := (.array (.object "java/lang/Object"))) (t' := .int) (by decide) (by decide)))
  have F_size_a1_65_66_68 : Fld Z h68 a1 "corbel/structures/ArrayStack" "size" "I" (.int (2 : Int32)) := F_size_a1_65_66.other W68 (Or.inr (slot_ne (Or.inl w_60) (Or.inl w_26) (by decide) (t := .int) (t' := .int) (by decide) (by decide)))
  have A_r62_66_68 : AR Z h68 r62 [(.ref y0), (.ref a2)] := A_r62_66.other W68 (Ne.symm ne_a1_r62)
  have K68 : Keep h0 h68 [a1, ar] := K66.wr W68 (Or.inl (List.mem_of_getElem? (i := 0) rfl))
  have Z68 : n0 ≤ h68.size := Nat.le_trans Z66 (Keep.of_wr W68).1
  have HK68 := Nat.le_trans HK66 (Keep.of_wr W68).1
  have N68 := Fr.snoc X68 N66 g_a1
  have F_modCount_a1_68 : Fld Z h68 a1 "java/util/AbstractList" "modCount" "I" (.int (md + (1 : Int32))) := Fm62_65_66.same W68
  show Goes p e below KK T68 (mkF m 39 #[.val (.ref a1), .val (.ref a2)] [])
  refine Goes.of (fun t => XS.iconst X68.here hx rfl (hb hby d7_39)) ?_
  show Goes p e below KK T68 (mkF m 40 #[.val (.ref a1), .val (.ref a2)] [(.int (1 : Int32))])
  rw [← hKK]
  refine Goes.retNarW X68 HS60 (by rw [e68]; exact HK68) hx hlk (t := .boolean) (by simp) Bd.returns (hb hby d7_40) ?_ (by decide) (by decide)
  rw [e68]
  exact ⟨r62, rfl, N68, K68, Or.inr sz_r62, E62_65_66_68, Fe62_65_66_68, F_size_a1_65_66_68, F_modCount_a1_68, A_r62_66_68⟩
theorem ef_7s2 (m : MethodId) (x0 : Addr) (x1 : Addr) : entryFrame m #[(.ref x0), (.ref x1)] 2 = mkF m 0 #[.val (.ref x0), .val (.ref x1)] [] := by first | (simp [entryFrame, mkF, argsToLocals, Value.category]; done) | rfl
def Q7s2 (Z : State) (a1 : Addr) (a2 : Addr) (ar : Addr) (mr : Addr) (md : Int32) (y0 : Addr) (y1 : Addr) (h0 : Heap) (n0 : Nat) (v : Option Value) (h : Heap) (L : List Loc) : Prop := ∃ b, v = some (.int 1) ∧ Fr n0 L ∧ Keep h0 h [a1, ar] ∧ (b = ar ∨ h0.size ≤ b) ∧ Exa Z h a1 "corbel/structures/ArrayStack" ∧ Fld Z h a1 "corbel/structures/ArrayStack" "elements" "[Ljava/lang/Object;" (.ref b) ∧ Fld Z h a1 "corbel/structures/ArrayStack" "size" "I" (.int (3 : Int32)) ∧ Fld Z h a1 "java/util/AbstractList" "modCount" "I" (.int (md + 1)) ∧ AR Z h b [(.ref y0), (.ref y1), (.ref a2), .null]
set_option maxRecDepth 65536 in
set_option maxHeartbeats 40000000 in
theorem rm7s2 (l : Launch) (Z : State) (a0 : Array Value) (hw : ∀ d ∈ tables_1, d.before a0 Z = true) (ws : List Jvm.Cond) (a1 : Addr) (a2 : Addr) (ar : Addr) (mr : Addr) (md : Int32) (y0 : Addr) (y1 : Addr) (h0 : Heap) (n0 : Nat) (Z0 : n0 ≤ h0.size) (E1 : Exa Z h0 a1 "corbel/structures/ArrayStack") (F1e : Fld Z h0 a1 "corbel/structures/ArrayStack" "elements" "[Ljava/lang/Object;" (.ref ar)) (F1s : Fld Z h0 a1 "corbel/structures/ArrayStack" "size" "I" (.int (2 : Int32))) (F1m : Fld Z h0 a1 "java/util/AbstractList" "modCount" "I" (.int md)) (A1 : AR Z h0 ar [(.ref y0), (.ref y1)]) (Ey_y0 : Exa Z h0 y0 "java/lang/Integer") (Ey_y1 : Exa Z h0 y1 "java/lang/Integer") (Ey_a2 : Exa Z h0 a2 "java/lang/Integer") (g_a1 : n0 ≤ a1) (g_ar : n0 ≤ ar) (M0 : Mir Z "[Ljava/lang/Object;" mr) :
    MetFree l (⟨"corbel/structures/ArrayStack", "add", "(Ljava/lang/Object;)Z"⟩ : MethodName) (head1 (Jvm.Cond.code (⟨"corbel/structures/ArrayStack", "add", "(Ljava/lang/Object;)Z"⟩ : MethodName) prog_1_method_8_code 2 (some .boolean) :: ws) ({ frames := 4, cells := 3, slots := 36, locals := 86 } : Room)) (fun a U => a = #[(.ref a1), (.ref a2)] ∧ Z.Warmed39 U.vm ∧ U.heap = h0) (fun _ _ _ _ _ => True) (fun _ U o U' => ∃ v L, o = .returned v ∧ Q7s2 Z a1 a2 ar mr md y0 y1 h0 n0 v U'.heap L ∧ ReturnedEndW U o U' L ({ frames := 4, cells := 3, slots := 36, locals := 86 } : Room).cells ({ frames := 4, cells := 3, slots := 36, locals := 86 } : Room).slots) := by
  refine MetFree.of_bodySF pn_7 hisR ?_
  intro p e s m args below meth c s₁ Bd hml0 hP hK
  obtain ⟨rfl, hZ, hh⟩ := hP
  have hx := Bd.exec
  have hby := Bd.bytes
  have hml : c.maxLocals = 2 := hml0
  have hown : s.vm.findClass "corbel/structures/ArrayStack" = some m.cls := findClass_of_methodNamed Bd.named
  have hnm := (name_of_methodNamed Bd.named Bd.method).1
  have hlk : meth.locks = false := BodyLoose.notSynchronized Bd
  have X0 : Stand p l e ({ frames := 4, cells := 3, slots := 36, locals := 86 } : Room) s m #[(.ref a1), (.ref a2)] below meth c s₁ [] 0 0 := Stand.of_body Bd
  have e0 : s₁.heap = h0 := by rw [← hh, Bd.state]; rfl
  have N0 := Fr.nil n0
  have hZw : Z.Warmed39 (s.setVm s.vm).vm := hZ
  have hownw : (s.setVm s.vm).vm.findClass "corbel/structures/ArrayStack" = some m.cls := hown
  have X0w : Stand p l e ({ frames := 4, cells := 3, slots := 36, locals := 86 } : Room) (s.setVm s.vm) m #[(.ref a1), (.ref a2)] below meth c s₁ [] 0 0 := X0
  have HS0 : s.Since s.vm h0.size := (State.WarmedH.refl s).since _
  have HK0 : h0.size ≤ h0.size := Nat.le_refl _
  show Goes p e below (OwnKW s (Q7s2 Z a1 a2 ar mr md y0 y1 h0 n0) ({ frames := 4, cells := 3, slots := 36, locals := 86 } : Room).cells ({ frames := 4, cells := 3, slots := 36, locals := 86 } : Room).slots) s₁ (entryFrame m #[(.ref a1), (.ref a2)] 2)
  refine Goes.cast (ef_7s2 m a1 a2) ?_
  generalize hKK : OwnKW s (Q7s2 Z a1 a2 ar mr md y0 y1 h0 n0) ({ frames := 4, cells := 3, slots := 36, locals := 86 } : Room).cells ({ frames := 4, cells := 3, slots := 36, locals := 86 } : Room).slots = KK
  show Goes p e below KK s₁ (mkF m 0 #[.val (.ref a1), .val (.ref a2)] [])
  have w_1 := hw _ (List.mem_of_getElem? (i := 1) rfl)
  have w_2 := hw _ (List.mem_of_getElem? (i := 2) rfl)
  have w_26 := hw _ (List.mem_of_getElem? (i := 26) rfl)
  have w_29 := hw _ (List.mem_of_getElem? (i := 29) rfl)
  have w_30 := hw _ (List.mem_of_getElem? (i := 30) rfl)
  have w_43 := hw _ (List.mem_of_getElem? (i := 43) rfl)
  have w_44 := hw _ (List.mem_of_getElem? (i := 44) rfl)
  have w_45 := hw _ (List.mem_of_getElem? (i := 45) rfl)
  have w_46 := hw _ (List.mem_of_getElem? (i := 46) rfl)
  have w_47 := hw _ (List.mem_of_getElem? (i := 47) rfl)
  have w_48 := hw _ (List.mem_of_getElem? (i := 48) rfl)
  have w_49 := hw _ (List.mem_of_getElem? (i := 49) rfl)
  have w_50 := hw _ (List.mem_of_getElem? (i := 50) rfl)
  have w_51 := hw _ (List.mem_of_getElem? (i := 51) rfl)
  have w_52 := hw _ (List.mem_of_getElem? (i := 52) rfl)
  have w_53 := hw _ (List.mem_of_getElem? (i := 53) rfl)
  have w_54 := hw _ (List.mem_of_getElem? (i := 54) rfl)
  have w_55 := hw _ (List.mem_of_getElem? (i := 55) rfl)
  have w_56 := hw _ (List.mem_of_getElem? (i := 56) rfl)
  have w_57 := hw _ (List.mem_of_getElem? (i := 57) rfl)
  have w_58 := hw _ (List.mem_of_getElem? (i := 58) rfl)
  have w_59 := hw _ (List.mem_of_getElem? (i := 59) rfl)
  have w_60 := hw _ (List.mem_of_getElem? (i := 60) rfl)
  have w_61 := hw _ (List.mem_of_getElem? (i := 61) rfl)
  have w_62 := hw _ (List.mem_of_getElem? (i := 62) rfl)
  have w_63 := hw _ (List.mem_of_getElem? (i := 63) rfl)
  refine Goes.of (fun t => XS.aloadN X0w.here hx rfl (hb hby d7_0) rfl rfl) ?_
  show Goes p e below KK s₁ (mkF m 1 #[.val (.ref a1), .val (.ref a2)] [(.ref a2)])
  have wS69 : ∀ a ∈ Bundle.stringAtoms, a.before a0 Z = true := fun a ha => by
    simp only [Bundle.stringAtoms, List.mem_cons, List.not_mem_nil, or_false] at ha
    rcases ha with rfl | rfl | rfl | rfl | rfl | rfl | rfl
    · exact w_44
    · exact w_45
    · exact w_46
    · exact w_47
    · exact w_48
    · exact w_49
    · exact w_50
  obtain ⟨a69, T69, h69, k69, X69, e69, E69, HS69, HK69, hZ69, hown69, st69⟩ := ldcS X0w hx hZw hownw w_43 wS69 e0 HS0 HK0 (g := (mkF m 1 #[.val (.ref a1), .val (.ref a2)] [(.ref a2)])) rfl (hb hby d7_1) (n := 28) (by decide +kernel) (by decide) (by decide) (by decide)
  refine Goes.of (st69) ?_
  have E1_69 : Exa Z h69 a1 "corbel/structures/ArrayStack" := E1.ext E69
  have F1e_69 : Fld Z h69 a1 "corbel/structures/ArrayStack" "elements" "[Ljava/lang/Object;" (.ref ar) := F1e.ext E69
  have F1s_69 : Fld Z h69 a1 "corbel/structures/ArrayStack" "size" "I" (.int (2 : Int32)) := F1s.ext E69
  have F1m_69 : Fld Z h69 a1 "java/util/AbstractList" "modCount" "I" (.int md) := F1m.ext E69
  have A1_69 : AR Z h69 ar [(.ref y0), (.ref y1)] := A1.ext E69
  have Ey_y0_69 : Exa Z h69 y0 "java/lang/Integer" := Ey_y0.ext E69
  have Ey_y1_69 : Exa Z h69 y1 "java/lang/Integer" := Ey_y1.ext E69
  have Ey_a2_69 : Exa Z h69 a2 "java/lang/Integer" := Ey_a2.ext E69
  have K69 : Keep h0 h69 [a1, ar] := (Keep.refl h0 [a1, ar]).ext E69
  have Z69 : n0 ≤ h69.size := Nat.le_trans Z0 E69.1
  show Goes p e below KK T69 (mkF m 3 #[.val (.ref a1), .val (.ref a2)] [(.ref a69), (.ref a2)])
  obtain ⟨_, _, ⟨T70, L70, k70, n70⟩, -, X70, ⟨Lc70, hQ70, l70, y70, z70⟩, st70⟩ := Jvm.LawKit.callS X69 hx (y := (⟨"java/util/Objects", "requireNonNull", "(Ljava/lang/Object;Ljava/lang/String;)Ljava/lang/Object;"⟩ : MethodName)) hown69 (mvT hZ69 w_51) (mvT hZ69 w_52) (mvT hZ69 w_53) (mvT hZ69 w_54) (by decide) (backOf (W := 0) (rm8 l Z a0 hw [] a2 a69  h69 n0 Z69 ) hZ69 w_54 w_53 (by decide) (by decide)) (g := (mkF m 3 #[.val (.ref a1), .val (.ref a2)] [(.ref a69), (.ref a2)])) rfl (by rw [hml]; rfl) (argsL := [(.ref a2), (.ref a69)]) (rest := []) (lenOf pd_33 rfl) rfl (by show 2 * 0 + _ ≤ _; exact Nat.le_of_eq rfl) (hb hby d7_3) (fun _ _ => ⟨rfl, e69, (by decide : 2 + 0 ≤ _), (by decide : 32 + 0 ≤ _)⟩)
  dsimp only [Pt.U, Pt.locs, Pt.cells, Pt.slots] at X70 l70 y70 z70 st70 hQ70
  subst l70 y70 z70
  obtain ⟨rfl, N70q, e70⟩ := hQ70
  have N70 := Fr.app N0 N70q
  refine Goes.of st70 ?_
  show Goes p e below KK T70 (mkF m 6 #[.val (.ref a1), .val (.ref a2)] [(.ref a2)])
  refine Goes.of (fun t => XT.pop X70.here hx rfl (hb hby d7_6) rfl rfl) ?_
  show Goes p e below KK T70 (mkF m 7 #[.val (.ref a1), .val (.ref a2)] [])
  refine Goes.of (fun t => XS.aloadN X70.here hx rfl (hb hby d7_7) rfl rfl) ?_
  show Goes p e below KK T70 (mkF m 8 #[.val (.ref a1), .val (.ref a2)] [(.ref a1)])
  refine Goes.of (fun t => XS.iconst X70.here hx rfl (hb hby d7_8)) ?_
  show Goes p e below KK T70 (mkF m 9 #[.val (.ref a1), .val (.ref a2)] [(.int (1 : Int32)), (.ref a1)])
  obtain ⟨cq71, q71, q71'⟩ := E1_69.cell
  obtain ⟨_, _, ⟨T71, L71, k71, n71⟩, -, X71, ⟨Lc71, hQ71, l71, y71, z71⟩, st71⟩ := X70.privateBack hx (y := (⟨"corbel/structures/ArrayStack", "growFor", "(I)V"⟩ : MethodName)) hown69 (mvT hZ69 w_55) (mvT hZ69 w_56) (own_selp hZ69 w_1 w_57 w_56 (by decide)) (Cond.privateMethod_at (mvP hZ69 w_57 (args := #[]))) (mvT hZ69 w_58) (by decide) (backOf (W := 0) (rm9s2 l Z a0 hw [] a1 ar mr md y0 y1 h69 n0 Z69 E1_69 F1e_69 F1s_69 F1m_69 A1_69 Ey_y0_69 Ey_y1_69 g_a1 g_ar M0) hZ69 w_58 w_2 (by decide) (by decide)) (g := (mkF m 9 #[.val (.ref a1), .val (.ref a2)] [(.int (1 : Int32)), (.ref a1)])) rfl (by rw [hml]; rfl) (Steps.refl _) (a := a1) (by rw [e70]; exact q71) q71' (argsL := [(.int (1 : Int32))]) (rest := []) (lenOf pd_7 rfl) rfl (by show 2 * 0 + _ ≤ _; exact Nat.le_of_eq rfl) (hb hby d7_9) (fun _ _ => ⟨rfl, e70, (by decide : 2 + 1 ≤ _), (by decide : 32 + 4 ≤ _)⟩)
  dsimp only [Pt.U, Pt.locs, Pt.cells, Pt.slots] at X71 l71 y71 z71 st71 hQ71
  subst l71 y71 z71
  obtain ⟨r71, rfl, N71q, Kc71, hb71, E71, Fe71, Fs71, Fm71, A71⟩ := hQ71
  have N71 := Fr.app N70 N71q
  have ne_a1_r71 : a1 ≠ r71 := Nat.ne_of_lt (Nat.lt_of_lt_of_le E1_69.lt hb71)
  have ne_ar_r71 : ar ≠ r71 := Nat.ne_of_lt (Nat.lt_of_lt_of_le A1_69.lt hb71)
  have g_r71 : n0 ≤ r71 := Nat.le_trans Z69 hb71
  have sz_r71 : h0.size ≤ r71 := Nat.le_trans K69.1 hb71
  have E1_69_71 : Exa Z T71.heap a1 "corbel/structures/ArrayStack" := E1_69.keep Kc71
  have A1_69_71 : AR Z T71.heap ar [(.ref y0), (.ref y1)] := A1_69.keep Kc71 (ninS (Exa.ne A1_69.exa E1_69 (by decide)) nin0)
  have Ey_y0_69_71 : Exa Z T71.heap y0 "java/lang/Integer" := Ey_y0_69.keep Kc71
  have Ey_y1_69_71 : Exa Z T71.heap y1 "java/lang/Integer" := Ey_y1_69.keep Kc71
  have Ey_a2_69_71 : Exa Z T71.heap a2 "java/lang/Integer" := Ey_a2_69.keep Kc71
  have K71 : Keep h0 T71.heap [a1, ar] := K69.trans Kc71 (allS (Or.inl (List.mem_of_getElem? (i := 0) rfl)) all0)
  have Z71 : n0 ≤ T71.heap.size := Nat.le_trans Z69 Kc71.1
  have HK71 := Nat.le_trans HK69 Kc71.1
  have e71 : T71.heap = T71.heap := rfl
  refine Goes.tr st71 ?_
  show Goes p e below KK T71 (mkF m 12 #[.val (.ref a1), .val (.ref a2)] [])
  refine Goes.of (fun t => XS.aloadN X71.here hx rfl (hb hby d7_12) rfl rfl) ?_
  show Goes p e below KK T71 (mkF m 13 #[.val (.ref a1), .val (.ref a2)] [(.ref a1)])
  obtain ⟨T72, X72, e72, st72⟩ := getF X71 hx hZ69 hown69 (host := "") (Or.inl w_29) Via.refl e71 Fe71 (g := (mkF m 13 #[.val (.ref a1), .val (.ref a2)] [(.ref a1)])) rfl rfl (hb hby d7_13)
  refine Goes.of (st72) ?_
  show Goes p e below KK T72 (mkF m 16 #[.val (.ref a1), .val (.ref a2)] [(.ref r71)])
  refine Goes.of (fun t => XS.aloadN X72.here hx rfl (hb hby d7_16) rfl rfl) ?_
  show Goes p e below KK T72 (mkF m 17 #[.val (.ref a1), .val (.ref a2)] [(.ref a1), (.ref r71)])
  refine Goes.of (fun t => XS.dup X72.here hx rfl (hb hby d7_17) rfl rfl) ?_
  show Goes p e below KK T72 (mkF m 18 #[.val (.ref a1), .val (.ref a2)] [(.ref a1), (.ref a1), (.ref r71)])
  obtain ⟨T73, X73, e73, st73⟩ := getF X72 hx hZ69 hown69 (host := "") (Or.inl w_59) Via.refl e72 Fs71 (g := (mkF m 18 #[.val (.ref a1), .val (.ref a2)] [(.ref a1), (.ref a1), (.ref r71)])) rfl rfl (hb hby d7_18)
  refine Goes.of (st73) ?_
  show Goes p e below KK T73 (mkF m 21 #[.val (.ref a1), .val (.ref a2)] [(.int (2 : Int32)), (.ref a1), (.ref r71)])
  refine Goes.of (fun t => XT.dupX1 X73.here hx rfl (hb hby d7_21) rfl rfl rfl) ?_
  show Goes p e below KK T73 (mkF m 22 #[.val (.ref a1), .val (.ref a2)] [(.int (2 : Int32)), (.ref a1), (.int (2 : Int32)), (.ref r71)])
  refine Goes.of (fun t => XS.iconst X73.here hx rfl (hb hby d7_22)) ?_
  show Goes p e below KK T73 (mkF m 23 #[.val (.ref a1), .val (.ref a2)] [(.int (1 : Int32)), (.int (2 : Int32)), (.ref a1), (.int (2 : Int32)), (.ref r71)])
  refine Goes.of (fun t => XS.iadd X73.here hx rfl (hb hby d7_23) rfl) ?_
  show Goes p e below KK T73 (mkF m 24 #[.val (.ref a1), .val (.ref a2)] [(.int (3 : Int32)), (.ref a1), (.int (2 : Int32)), (.ref r71)])
  obtain ⟨T74, h74, X74, e74, W74, st74⟩ := putF X73 hx hZ69 hown69 (host := "") (Or.inl w_59) Via.refl e73 Fs71 E71 (Or.inl w_60) w_1 (ty := .int) (by decide) rfl rfl (g := (mkF m 24 #[.val (.ref a1), .val (.ref a2)] [(.int (3 : Int32)), (.ref a1), (.int (2 : Int32)), (.ref r71)])) rfl rfl (hb hby d7_24)
  refine Goes.of (st74) ?_
  have E71_74 : Exa Z h74 a1 "corbel/structures/ArrayStack" := E71.wr W74
  have A1_69_71_74 : AR Z h74 ar [(.ref y0), (.ref y1)] := A1_69_71.other W74 (Exa.ne A1_69_71.exa E71 (by decide))
  have Ey_y0_69_71_74 : Exa Z h74 y0 "java/lang/Integer" := Ey_y0_69_71.wr W74
  have Ey_y1_69_71_74 : Exa Z h74 y1 "java/lang/Integer" := Ey_y1_69_71.wr W74
  have Ey_a2_69_71_74 : Exa Z h74 a2 "java/lang/Integer" := Ey_a2_69_71.wr W74
  have Fe71_74 : Fld Z h74 a1 "corbel/structures/ArrayStack" "elements" "[Ljava/lang/Object;" (.ref r71) := Fe71.other W74 (Or.inr (slot_ne (Or.inl w_30) (Or.inl w_60) (by decide) (t := (.array (.object "java/lang/Object"))) (t' := .int) (by decide) (by decide)))
  have Fm71_74 : Fld Z h74 a1 "java/util/AbstractList" "modCount" "I" (.int md) := Fm71.other W74 (Or.inr (slot_ne (Or.inl w_26) (Or.inl w_60) (by decide) (t := .int) (t' := .int) (by decide) (by decide)))
  have A71_74 : AR Z h74 r71 [(.ref y0), (.ref y1), .null, .null] := A71.other W74 (Ne.symm ne_a1_r71)
  have K74 : Keep h0 h74 [a1, ar] := K71.wr W74 (Or.inl (List.mem_of_getElem? (i := 0) rfl))
  have Z74 : n0 ≤ h74.size := Nat.le_trans Z71 (Keep.of_wr W74).1
  have HK74 := Nat.le_trans HK71 (Keep.of_wr W74).1
  have N74 := Fr.snoc X74 N71 g_a1
  have F_size_a1_74 : Fld Z h74 a1 "corbel/structures/ArrayStack" "size" "I" (.int (3 : Int32)) := Fs71.same W74
  show Goes p e below KK T74 (mkF m 27 #[.val (.ref a1), .val (.ref a2)] [(.int (2 : Int32)), (.ref r71)])
  refine Goes.of (fun t => XS.aloadN X74.here hx rfl (hb hby d7_27) rfl rfl) ?_
  show Goes p e below KK T74 (mkF m 28 #[.val (.ref a1), .val (.ref a2)] [(.ref a2), (.int (2 : Int32)), (.ref r71)])
  obtain ⟨T75, h75, X75, e75, W75, A75, st75⟩ := AR.aastore X74 hx hZ69 e74 A71_74 (Or.inr ⟨_, rfl, Ins.of_exa Ey_a2_69_71_74 w_61⟩) (i := 2) (j := (2 : Int32)) (rfl) (by simp) (g := (mkF m 28 #[.val (.ref a1), .val (.ref a2)] [(.ref a2), (.int (2 : Int32)), (.ref r71)])) rfl rfl (hb hby d7_28)
  refine Goes.of (st75) ?_
  have E71_74_75 : Exa Z h75 a1 "corbel/structures/ArrayStack" := E71_74.wr W75
  have A1_69_71_74_75 : AR Z h75 ar [(.ref y0), (.ref y1)] := A1_69_71_74.other W75 ne_ar_r71
  have Ey_y0_69_71_74_75 : Exa Z h75 y0 "java/lang/Integer" := Ey_y0_69_71_74.wr W75
  have Ey_y1_69_71_74_75 : Exa Z h75 y1 "java/lang/Integer" := Ey_y1_69_71_74.wr W75
  have Ey_a2_69_71_74_75 : Exa Z h75 a2 "java/lang/Integer" := Ey_a2_69_71_74.wr W75
  have Fe71_74_75 : Fld Z h75 a1 "corbel/structures/ArrayStack" "elements" "[Ljava/lang/Object;" (.ref r71) := Fe71_74.other W75 (Or.inl ne_a1_r71)
  have F_size_a1_74_75 : Fld Z h75 a1 "corbel/structures/ArrayStack" "size" "I" (.int (3 : Int32)) := F_size_a1_74.other W75 (Or.inl ne_a1_r71)
  have Fm71_74_75 : Fld Z h75 a1 "java/util/AbstractList" "modCount" "I" (.int md) := Fm71_74.other W75 (Or.inl ne_a1_r71)
  have K75 : Keep h0 h75 [a1, ar] := K74.wr W75 (Or.inr sz_r71)
  have Z75 : n0 ≤ h75.size := Nat.le_trans Z74 (Keep.of_wr W75).1
  have HK75 := Nat.le_trans HK74 (Keep.of_wr W75).1
  have N75 := Fr.snoc X75 N74 g_r71
  have A_r71_75 : AR Z h75 r71 [(.ref y0), (.ref y1), (.ref a2), .null] := A75
  show Goes p e below KK T75 (mkF m 29 #[.val (.ref a1), .val (.ref a2)] [])
  refine Goes.of (fun t => XS.aloadN X75.here hx rfl (hb hby d7_29) rfl rfl) ?_
  show Goes p e below KK T75 (mkF m 30 #[.val (.ref a1), .val (.ref a2)] [(.ref a1)])
  refine Goes.of (fun t => XS.dup X75.here hx rfl (hb hby d7_30) rfl rfl) ?_
  show Goes p e below KK T75 (mkF m 31 #[.val (.ref a1), .val (.ref a2)] [(.ref a1), (.ref a1)])
  obtain ⟨T76, X76, e76, st76⟩ := getF X75 hx hZ69 hown69 (host := "") (Or.inl w_62) (Via.of w_63) e75 Fm71_74_75 (g := (mkF m 31 #[.val (.ref a1), .val (.ref a2)] [(.ref a1), (.ref a1)])) rfl rfl (hb hby d7_31)
  refine Goes.of (st76) ?_
  show Goes p e below KK T76 (mkF m 34 #[.val (.ref a1), .val (.ref a2)] [(.int md), (.ref a1)])
  refine Goes.of (fun t => XS.iconst X76.here hx rfl (hb hby d7_34)) ?_
  show Goes p e below KK T76 (mkF m 35 #[.val (.ref a1), .val (.ref a2)] [(.int (1 : Int32)), (.int md), (.ref a1)])
  refine Goes.of (fun t => XS.iadd X76.here hx rfl (hb hby d7_35) rfl) ?_
  show Goes p e below KK T76 (mkF m 36 #[.val (.ref a1), .val (.ref a2)] [(.int (md + (1 : Int32))), (.ref a1)])
  obtain ⟨T77, h77, X77, e77, W77, st77⟩ := putF X76 hx hZ69 hown69 (host := "") (Or.inl w_62) (Via.of w_63) e76 Fm71_74_75 E71_74_75 (Or.inl w_26) w_1 (ty := .int) (by decide) rfl rfl (g := (mkF m 36 #[.val (.ref a1), .val (.ref a2)] [(.int (md + (1 : Int32))), (.ref a1)])) rfl rfl (hb hby d7_36)
  refine Goes.of (st77) ?_
  have E71_74_75_77 : Exa Z h77 a1 "corbel/structures/ArrayStack" := E71_74_75.wr W77
  have A1_69_71_74_75_77 : AR Z h77 ar [(.ref y0), (.ref y1)] := A1_69_71_74_75.other W77 (Exa.ne A1_69_71_74_75.exa E71_74_75 (by decide))
  have Ey_y0_69_71_74_75_77 : Exa Z h77 y0 "java/lang/Integer" := Ey_y0_69_71_74_75.wr W77
  have Ey_y1_69_71_74_75_77 : Exa Z h77 y1 "java/lang/Integer" := Ey_y1_69_71_74_75.wr W77
  have Ey_a2_69_71_74_75_77 : Exa Z h77 a2 "java/lang/Integer" := Ey_a2_69_71_74_75.wr W77
  have Fe71_74_75_77 : Fld Z h77 a1 "corbel/structures/ArrayStack" "elements" "[Ljava/lang/Object;" (.ref r71) := Fe71_74_75.other W77 (Or.inr (slot_ne (Or.inl w_30) (Or.inl w_26) (by decide) (t := (.array (.object "java/lang/Object"))) (t' := .int) (by decide) (by decide)))
  have F_size_a1_74_75_77 : Fld Z h77 a1 "corbel/structures/ArrayStack" "size" "I" (.int (3 : Int32)) := F_size_a1_74_75.other W77 (Or.inr (slot_ne (Or.inl w_60) (Or.inl w_26) (by decide) (t := .int) (t' := .int) (by decide) (by decide)))
  have A_r71_75_77 : AR Z h77 r71 [(.ref y0), (.ref y1), (.ref a2), .null] := A_r71_75.other W77 (Ne.symm ne_a1_r71)
  have K77 : Keep h0 h77 [a1, ar] := K75.wr W77 (Or.inl (List.mem_of_getElem? (i := 0) rfl))
  have Z77 : n0 ≤ h77.size := Nat.le_trans Z75 (Keep.of_wr W77).1
  have HK77 := Nat.le_trans HK75 (Keep.of_wr W77).1
  have N77 := Fr.snoc X77 N75 g_a1
  have F_modCount_a1_77 : Fld Z h77 a1 "java/util/AbstractList" "modCount" "I" (.int (md + (1 : Int32))) := Fm71_74_75.same W77
  show Goes p e below KK T77 (mkF m 39 #[.val (.ref a1), .val (.ref a2)] [])
  refine Goes.of (fun t => XS.iconst X77.here hx rfl (hb hby d7_39)) ?_
  show Goes p e below KK T77 (mkF m 40 #[.val (.ref a1), .val (.ref a2)] [(.int (1 : Int32))])
  rw [← hKK]
  refine Goes.retNarW X77 HS69 (by rw [e77]; exact HK77) hx hlk (t := .boolean) (by simp) Bd.returns (hb hby d7_40) ?_ (by decide) (by decide)
  rw [e77]
  exact ⟨r71, rfl, N77, K77, Or.inr sz_r71, E71_74_75_77, Fe71_74_75_77, F_size_a1_74_75_77, F_modCount_a1_77, A_r71_75_77⟩
theorem ef_7s3 (m : MethodId) (x0 : Addr) (x1 : Addr) : entryFrame m #[(.ref x0), (.ref x1)] 2 = mkF m 0 #[.val (.ref x0), .val (.ref x1)] [] := by first | (simp [entryFrame, mkF, argsToLocals, Value.category]; done) | rfl
def Q7s3 (Z : State) (a1 : Addr) (a2 : Addr) (ar : Addr) (mr : Addr) (md : Int32) (y0 : Addr) (y1 : Addr) (y2 : Addr) (h0 : Heap) (n0 : Nat) (v : Option Value) (h : Heap) (L : List Loc) : Prop := ∃ b, v = some (.int 1) ∧ Fr n0 L ∧ Keep h0 h [a1, ar] ∧ (b = ar ∨ h0.size ≤ b) ∧ Exa Z h a1 "corbel/structures/ArrayStack" ∧ Fld Z h a1 "corbel/structures/ArrayStack" "elements" "[Ljava/lang/Object;" (.ref b) ∧ Fld Z h a1 "corbel/structures/ArrayStack" "size" "I" (.int (4 : Int32)) ∧ Fld Z h a1 "java/util/AbstractList" "modCount" "I" (.int (md + 1)) ∧ AR Z h b [(.ref y0), (.ref y1), (.ref y2), (.ref a2)]
set_option maxRecDepth 65536 in
set_option maxHeartbeats 40000000 in
theorem rm7s3 (l : Launch) (Z : State) (a0 : Array Value) (hw : ∀ d ∈ tables_1, d.before a0 Z = true) (ws : List Jvm.Cond) (a1 : Addr) (a2 : Addr) (ar : Addr) (mr : Addr) (md : Int32) (y0 : Addr) (y1 : Addr) (y2 : Addr) (h0 : Heap) (n0 : Nat) (Z0 : n0 ≤ h0.size) (E1 : Exa Z h0 a1 "corbel/structures/ArrayStack") (F1e : Fld Z h0 a1 "corbel/structures/ArrayStack" "elements" "[Ljava/lang/Object;" (.ref ar)) (F1s : Fld Z h0 a1 "corbel/structures/ArrayStack" "size" "I" (.int (3 : Int32))) (F1m : Fld Z h0 a1 "java/util/AbstractList" "modCount" "I" (.int md)) (A1 : AR Z h0 ar [(.ref y0), (.ref y1), (.ref y2), .null]) (Ey_y0 : Exa Z h0 y0 "java/lang/Integer") (Ey_y1 : Exa Z h0 y1 "java/lang/Integer") (Ey_y2 : Exa Z h0 y2 "java/lang/Integer") (Ey_a2 : Exa Z h0 a2 "java/lang/Integer") (g_a1 : n0 ≤ a1) (g_ar : n0 ≤ ar) (M0 : Mir Z "[Ljava/lang/Object;" mr) :
    MetFree l (⟨"corbel/structures/ArrayStack", "add", "(Ljava/lang/Object;)Z"⟩ : MethodName) (head1 (Jvm.Cond.code (⟨"corbel/structures/ArrayStack", "add", "(Ljava/lang/Object;)Z"⟩ : MethodName) prog_1_method_8_code 2 (some .boolean) :: ws) ({ frames := 1, cells := 2, slots := 32, locals := 17 } : Room)) (fun a U => a = #[(.ref a1), (.ref a2)] ∧ Z.Warmed39 U.vm ∧ U.heap = h0) (fun _ _ _ _ _ => True) (fun _ U o U' => ∃ v L, o = .returned v ∧ Q7s3 Z a1 a2 ar mr md y0 y1 y2 h0 n0 v U'.heap L ∧ ReturnedEndW U o U' L ({ frames := 1, cells := 2, slots := 32, locals := 17 } : Room).cells ({ frames := 1, cells := 2, slots := 32, locals := 17 } : Room).slots) := by
  refine MetFree.of_bodySF pn_7 hisR ?_
  intro p e s m args below meth c s₁ Bd hml0 hP hK
  obtain ⟨rfl, hZ, hh⟩ := hP
  have hx := Bd.exec
  have hby := Bd.bytes
  have hml : c.maxLocals = 2 := hml0
  have hown : s.vm.findClass "corbel/structures/ArrayStack" = some m.cls := findClass_of_methodNamed Bd.named
  have hnm := (name_of_methodNamed Bd.named Bd.method).1
  have hlk : meth.locks = false := BodyLoose.notSynchronized Bd
  have X0 : Stand p l e ({ frames := 1, cells := 2, slots := 32, locals := 17 } : Room) s m #[(.ref a1), (.ref a2)] below meth c s₁ [] 0 0 := Stand.of_body Bd
  have e0 : s₁.heap = h0 := by rw [← hh, Bd.state]; rfl
  have N0 := Fr.nil n0
  have hZw : Z.Warmed39 (s.setVm s.vm).vm := hZ
  have hownw : (s.setVm s.vm).vm.findClass "corbel/structures/ArrayStack" = some m.cls := hown
  have X0w : Stand p l e ({ frames := 1, cells := 2, slots := 32, locals := 17 } : Room) (s.setVm s.vm) m #[(.ref a1), (.ref a2)] below meth c s₁ [] 0 0 := X0
  have HS0 : s.Since s.vm h0.size := (State.WarmedH.refl s).since _
  have HK0 : h0.size ≤ h0.size := Nat.le_refl _
  show Goes p e below (OwnKW s (Q7s3 Z a1 a2 ar mr md y0 y1 y2 h0 n0) ({ frames := 1, cells := 2, slots := 32, locals := 17 } : Room).cells ({ frames := 1, cells := 2, slots := 32, locals := 17 } : Room).slots) s₁ (entryFrame m #[(.ref a1), (.ref a2)] 2)
  refine Goes.cast (ef_7s3 m a1 a2) ?_
  generalize hKK : OwnKW s (Q7s3 Z a1 a2 ar mr md y0 y1 y2 h0 n0) ({ frames := 1, cells := 2, slots := 32, locals := 17 } : Room).cells ({ frames := 1, cells := 2, slots := 32, locals := 17 } : Room).slots = KK
  show Goes p e below KK s₁ (mkF m 0 #[.val (.ref a1), .val (.ref a2)] [])
  have w_1 := hw _ (List.mem_of_getElem? (i := 1) rfl)
  have w_2 := hw _ (List.mem_of_getElem? (i := 2) rfl)
  have w_26 := hw _ (List.mem_of_getElem? (i := 26) rfl)
  have w_29 := hw _ (List.mem_of_getElem? (i := 29) rfl)
  have w_30 := hw _ (List.mem_of_getElem? (i := 30) rfl)
  have w_43 := hw _ (List.mem_of_getElem? (i := 43) rfl)
  have w_44 := hw _ (List.mem_of_getElem? (i := 44) rfl)
  have w_45 := hw _ (List.mem_of_getElem? (i := 45) rfl)
  have w_46 := hw _ (List.mem_of_getElem? (i := 46) rfl)
  have w_47 := hw _ (List.mem_of_getElem? (i := 47) rfl)
  have w_48 := hw _ (List.mem_of_getElem? (i := 48) rfl)
  have w_49 := hw _ (List.mem_of_getElem? (i := 49) rfl)
  have w_50 := hw _ (List.mem_of_getElem? (i := 50) rfl)
  have w_51 := hw _ (List.mem_of_getElem? (i := 51) rfl)
  have w_52 := hw _ (List.mem_of_getElem? (i := 52) rfl)
  have w_53 := hw _ (List.mem_of_getElem? (i := 53) rfl)
  have w_54 := hw _ (List.mem_of_getElem? (i := 54) rfl)
  have w_55 := hw _ (List.mem_of_getElem? (i := 55) rfl)
  have w_56 := hw _ (List.mem_of_getElem? (i := 56) rfl)
  have w_57 := hw _ (List.mem_of_getElem? (i := 57) rfl)
  have w_58 := hw _ (List.mem_of_getElem? (i := 58) rfl)
  have w_59 := hw _ (List.mem_of_getElem? (i := 59) rfl)
  have w_60 := hw _ (List.mem_of_getElem? (i := 60) rfl)
  have w_61 := hw _ (List.mem_of_getElem? (i := 61) rfl)
  have w_62 := hw _ (List.mem_of_getElem? (i := 62) rfl)
  have w_63 := hw _ (List.mem_of_getElem? (i := 63) rfl)
  refine Goes.of (fun t => XS.aloadN X0w.here hx rfl (hb hby d7_0) rfl rfl) ?_
  show Goes p e below KK s₁ (mkF m 1 #[.val (.ref a1), .val (.ref a2)] [(.ref a2)])
  have wS78 : ∀ a ∈ Bundle.stringAtoms, a.before a0 Z = true := fun a ha => by
    simp only [Bundle.stringAtoms, List.mem_cons, List.not_mem_nil, or_false] at ha
    rcases ha with rfl | rfl | rfl | rfl | rfl | rfl | rfl
    · exact w_44
    · exact w_45
    · exact w_46
    · exact w_47
    · exact w_48
    · exact w_49
    · exact w_50
  obtain ⟨a78, T78, h78, k78, X78, e78, E78, HS78, HK78, hZ78, hown78, st78⟩ := ldcS X0w hx hZw hownw w_43 wS78 e0 HS0 HK0 (g := (mkF m 1 #[.val (.ref a1), .val (.ref a2)] [(.ref a2)])) rfl (hb hby d7_1) (n := 28) (by decide +kernel) (by decide) (by decide) (by decide)
  refine Goes.of (st78) ?_
  have E1_78 : Exa Z h78 a1 "corbel/structures/ArrayStack" := E1.ext E78
  have F1e_78 : Fld Z h78 a1 "corbel/structures/ArrayStack" "elements" "[Ljava/lang/Object;" (.ref ar) := F1e.ext E78
  have F1s_78 : Fld Z h78 a1 "corbel/structures/ArrayStack" "size" "I" (.int (3 : Int32)) := F1s.ext E78
  have F1m_78 : Fld Z h78 a1 "java/util/AbstractList" "modCount" "I" (.int md) := F1m.ext E78
  have A1_78 : AR Z h78 ar [(.ref y0), (.ref y1), (.ref y2), .null] := A1.ext E78
  have Ey_y0_78 : Exa Z h78 y0 "java/lang/Integer" := Ey_y0.ext E78
  have Ey_y1_78 : Exa Z h78 y1 "java/lang/Integer" := Ey_y1.ext E78
  have Ey_y2_78 : Exa Z h78 y2 "java/lang/Integer" := Ey_y2.ext E78
  have Ey_a2_78 : Exa Z h78 a2 "java/lang/Integer" := Ey_a2.ext E78
  have K78 : Keep h0 h78 [a1, ar] := (Keep.refl h0 [a1, ar]).ext E78
  have Z78 : n0 ≤ h78.size := Nat.le_trans Z0 E78.1
  show Goes p e below KK T78 (mkF m 3 #[.val (.ref a1), .val (.ref a2)] [(.ref a78), (.ref a2)])
  obtain ⟨_, _, ⟨T79, L79, k79, n79⟩, -, X79, ⟨Lc79, hQ79, l79, y79, z79⟩, st79⟩ := Jvm.LawKit.callS X78 hx (y := (⟨"java/util/Objects", "requireNonNull", "(Ljava/lang/Object;Ljava/lang/String;)Ljava/lang/Object;"⟩ : MethodName)) hown78 (mvT hZ78 w_51) (mvT hZ78 w_52) (mvT hZ78 w_53) (mvT hZ78 w_54) (by decide) (backOf (W := 0) (rm8 l Z a0 hw [] a2 a78  h78 n0 Z78 ) hZ78 w_54 w_53 (by decide) (by decide)) (g := (mkF m 3 #[.val (.ref a1), .val (.ref a2)] [(.ref a78), (.ref a2)])) rfl (by rw [hml]; rfl) (argsL := [(.ref a2), (.ref a78)]) (rest := []) (lenOf pd_33 rfl) rfl (by show 2 * 0 + _ ≤ _; exact Nat.le_of_eq rfl) (hb hby d7_3) (fun _ _ => ⟨rfl, e78, (by decide : 2 + 0 ≤ _), (by decide : 32 + 0 ≤ _)⟩)
  dsimp only [Pt.U, Pt.locs, Pt.cells, Pt.slots] at X79 l79 y79 z79 st79 hQ79
  subst l79 y79 z79
  obtain ⟨rfl, N79q, e79⟩ := hQ79
  have N79 := Fr.app N0 N79q
  refine Goes.of st79 ?_
  show Goes p e below KK T79 (mkF m 6 #[.val (.ref a1), .val (.ref a2)] [(.ref a2)])
  refine Goes.of (fun t => XT.pop X79.here hx rfl (hb hby d7_6) rfl rfl) ?_
  show Goes p e below KK T79 (mkF m 7 #[.val (.ref a1), .val (.ref a2)] [])
  refine Goes.of (fun t => XS.aloadN X79.here hx rfl (hb hby d7_7) rfl rfl) ?_
  show Goes p e below KK T79 (mkF m 8 #[.val (.ref a1), .val (.ref a2)] [(.ref a1)])
  refine Goes.of (fun t => XS.iconst X79.here hx rfl (hb hby d7_8)) ?_
  show Goes p e below KK T79 (mkF m 9 #[.val (.ref a1), .val (.ref a2)] [(.int (1 : Int32)), (.ref a1)])
  obtain ⟨cq80, q80, q80'⟩ := E1_78.cell
  obtain ⟨_, _, ⟨T80, L80, k80, n80⟩, -, X80, ⟨Lc80, hQ80, l80, y80, z80⟩, st80⟩ := X79.privateBack hx (y := (⟨"corbel/structures/ArrayStack", "growFor", "(I)V"⟩ : MethodName)) hown78 (mvT hZ78 w_55) (mvT hZ78 w_56) (own_selp hZ78 w_1 w_57 w_56 (by decide)) (Cond.privateMethod_at (mvP hZ78 w_57 (args := #[]))) (mvT hZ78 w_58) (by decide) (backOf (W := 0) (rm9s3 l Z a0 hw [] a1 ar mr md y0 y1 y2 h78 n0 Z78 E1_78 F1e_78 F1s_78 F1m_78 A1_78 Ey_y0_78 Ey_y1_78 Ey_y2_78 g_a1 g_ar M0) hZ78 w_58 w_2 (by decide) (by decide)) (g := (mkF m 9 #[.val (.ref a1), .val (.ref a2)] [(.int (1 : Int32)), (.ref a1)])) rfl (by rw [hml]; rfl) (Steps.refl _) (a := a1) (by rw [e79]; exact q80) q80' (argsL := [(.int (1 : Int32))]) (rest := []) (lenOf pd_7 rfl) rfl (by show 2 * 0 + _ ≤ _; exact Nat.le_of_eq rfl) (hb hby d7_9) (fun _ _ => ⟨rfl, e79, (by decide : 2 + 0 ≤ _), (by decide : 32 + 0 ≤ _)⟩)
  dsimp only [Pt.U, Pt.locs, Pt.cells, Pt.slots] at X80 l80 y80 z80 st80 hQ80
  subst l80 y80 z80
  obtain ⟨rfl, N80q, e80⟩ := hQ80
  have N80 := Fr.app N79 N80q
  refine Goes.tr st80 ?_
  show Goes p e below KK T80 (mkF m 12 #[.val (.ref a1), .val (.ref a2)] [])
  refine Goes.of (fun t => XS.aloadN X80.here hx rfl (hb hby d7_12) rfl rfl) ?_
  show Goes p e below KK T80 (mkF m 13 #[.val (.ref a1), .val (.ref a2)] [(.ref a1)])
  obtain ⟨T81, X81, e81, st81⟩ := getF X80 hx hZ78 hown78 (host := "") (Or.inl w_29) Via.refl e80 F1e_78 (g := (mkF m 13 #[.val (.ref a1), .val (.ref a2)] [(.ref a1)])) rfl rfl (hb hby d7_13)
  refine Goes.of (st81) ?_
  show Goes p e below KK T81 (mkF m 16 #[.val (.ref a1), .val (.ref a2)] [(.ref ar)])
  refine Goes.of (fun t => XS.aloadN X81.here hx rfl (hb hby d7_16) rfl rfl) ?_
  show Goes p e below KK T81 (mkF m 17 #[.val (.ref a1), .val (.ref a2)] [(.ref a1), (.ref ar)])
  refine Goes.of (fun t => XS.dup X81.here hx rfl (hb hby d7_17) rfl rfl) ?_
  show Goes p e below KK T81 (mkF m 18 #[.val (.ref a1), .val (.ref a2)] [(.ref a1), (.ref a1), (.ref ar)])
  obtain ⟨T82, X82, e82, st82⟩ := getF X81 hx hZ78 hown78 (host := "") (Or.inl w_59) Via.refl e81 F1s_78 (g := (mkF m 18 #[.val (.ref a1), .val (.ref a2)] [(.ref a1), (.ref a1), (.ref ar)])) rfl rfl (hb hby d7_18)
  refine Goes.of (st82) ?_
  show Goes p e below KK T82 (mkF m 21 #[.val (.ref a1), .val (.ref a2)] [(.int (3 : Int32)), (.ref a1), (.ref ar)])
  refine Goes.of (fun t => XT.dupX1 X82.here hx rfl (hb hby d7_21) rfl rfl rfl) ?_
  show Goes p e below KK T82 (mkF m 22 #[.val (.ref a1), .val (.ref a2)] [(.int (3 : Int32)), (.ref a1), (.int (3 : Int32)), (.ref ar)])
  refine Goes.of (fun t => XS.iconst X82.here hx rfl (hb hby d7_22)) ?_
  show Goes p e below KK T82 (mkF m 23 #[.val (.ref a1), .val (.ref a2)] [(.int (1 : Int32)), (.int (3 : Int32)), (.ref a1), (.int (3 : Int32)), (.ref ar)])
  refine Goes.of (fun t => XS.iadd X82.here hx rfl (hb hby d7_23) rfl) ?_
  show Goes p e below KK T82 (mkF m 24 #[.val (.ref a1), .val (.ref a2)] [(.int (4 : Int32)), (.ref a1), (.int (3 : Int32)), (.ref ar)])
  obtain ⟨T83, h83, X83, e83, W83, st83⟩ := putF X82 hx hZ78 hown78 (host := "") (Or.inl w_59) Via.refl e82 F1s_78 E1_78 (Or.inl w_60) w_1 (ty := .int) (by decide) rfl rfl (g := (mkF m 24 #[.val (.ref a1), .val (.ref a2)] [(.int (4 : Int32)), (.ref a1), (.int (3 : Int32)), (.ref ar)])) rfl rfl (hb hby d7_24)
  refine Goes.of (st83) ?_
  have E1_78_83 : Exa Z h83 a1 "corbel/structures/ArrayStack" := E1_78.wr W83
  have F1e_78_83 : Fld Z h83 a1 "corbel/structures/ArrayStack" "elements" "[Ljava/lang/Object;" (.ref ar) := F1e_78.other W83 (Or.inr (slot_ne (Or.inl w_30) (Or.inl w_60) (by decide) (t := (.array (.object "java/lang/Object"))) (t' := .int) (by decide) (by decide)))
  have F1m_78_83 : Fld Z h83 a1 "java/util/AbstractList" "modCount" "I" (.int md) := F1m_78.other W83 (Or.inr (slot_ne (Or.inl w_26) (Or.inl w_60) (by decide) (t := .int) (t' := .int) (by decide) (by decide)))
  have A1_78_83 : AR Z h83 ar [(.ref y0), (.ref y1), (.ref y2), .null] := A1_78.other W83 (Exa.ne A1_78.exa E1_78 (by decide))
  have Ey_y0_78_83 : Exa Z h83 y0 "java/lang/Integer" := Ey_y0_78.wr W83
  have Ey_y1_78_83 : Exa Z h83 y1 "java/lang/Integer" := Ey_y1_78.wr W83
  have Ey_y2_78_83 : Exa Z h83 y2 "java/lang/Integer" := Ey_y2_78.wr W83
  have Ey_a2_78_83 : Exa Z h83 a2 "java/lang/Integer" := Ey_a2_78.wr W83
  have K83 : Keep h0 h83 [a1, ar] := K78.wr W83 (Or.inl (List.mem_of_getElem? (i := 0) rfl))
  have Z83 : n0 ≤ h83.size := Nat.le_trans Z78 (Keep.of_wr W83).1
  have HK83 := Nat.le_trans HK78 (Keep.of_wr W83).1
  have N83 := Fr.snoc X83 N80 g_a1
  have F_size_a1_83 : Fld Z h83 a1 "corbel/structures/ArrayStack" "size" "I" (.int (4 : Int32)) := F1s_78.same W83
  show Goes p e below KK T83 (mkF m 27 #[.val (.ref a1), .val (.ref a2)] [(.int (3 : Int32)), (.ref ar)])
  refine Goes.of (fun t => XS.aloadN X83.here hx rfl (hb hby d7_27) rfl rfl) ?_
  show Goes p e below KK T83 (mkF m 28 #[.val (.ref a1), .val (.ref a2)] [(.ref a2), (.int (3 : Int32)), (.ref ar)])
  obtain ⟨T84, h84, X84, e84, W84, A84, st84⟩ := AR.aastore X83 hx hZ78 e83 A1_78_83 (Or.inr ⟨_, rfl, Ins.of_exa Ey_a2_78_83 w_61⟩) (i := 3) (j := (3 : Int32)) (rfl) (by simp) (g := (mkF m 28 #[.val (.ref a1), .val (.ref a2)] [(.ref a2), (.int (3 : Int32)), (.ref ar)])) rfl rfl (hb hby d7_28)
  refine Goes.of (st84) ?_
  have E1_78_83_84 : Exa Z h84 a1 "corbel/structures/ArrayStack" := E1_78_83.wr W84
  have F1e_78_83_84 : Fld Z h84 a1 "corbel/structures/ArrayStack" "elements" "[Ljava/lang/Object;" (.ref ar) := F1e_78_83.other W84 (Or.inl (Exa.ne E1_78_83 A1_78_83.exa (by decide)))
  have F_size_a1_83_84 : Fld Z h84 a1 "corbel/structures/ArrayStack" "size" "I" (.int (4 : Int32)) := F_size_a1_83.other W84 (Or.inl (Exa.ne E1_78_83 A1_78_83.exa (by decide)))
  have F1m_78_83_84 : Fld Z h84 a1 "java/util/AbstractList" "modCount" "I" (.int md) := F1m_78_83.other W84 (Or.inl (Exa.ne E1_78_83 A1_78_83.exa (by decide)))
  have Ey_y0_78_83_84 : Exa Z h84 y0 "java/lang/Integer" := Ey_y0_78_83.wr W84
  have Ey_y1_78_83_84 : Exa Z h84 y1 "java/lang/Integer" := Ey_y1_78_83.wr W84
  have Ey_y2_78_83_84 : Exa Z h84 y2 "java/lang/Integer" := Ey_y2_78_83.wr W84
  have Ey_a2_78_83_84 : Exa Z h84 a2 "java/lang/Integer" := Ey_a2_78_83.wr W84
  have K84 : Keep h0 h84 [a1, ar] := K83.wr W84 (Or.inl (List.mem_of_getElem? (i := 1) rfl))
  have Z84 : n0 ≤ h84.size := Nat.le_trans Z83 (Keep.of_wr W84).1
  have HK84 := Nat.le_trans HK83 (Keep.of_wr W84).1
  have N84 := Fr.snoc X84 N83 g_ar
  have A_ar_84 : AR Z h84 ar [(.ref y0), (.ref y1), (.ref y2), (.ref a2)] := A84
  show Goes p e below KK T84 (mkF m 29 #[.val (.ref a1), .val (.ref a2)] [])
  refine Goes.of (fun t => XS.aloadN X84.here hx rfl (hb hby d7_29) rfl rfl) ?_
  show Goes p e below KK T84 (mkF m 30 #[.val (.ref a1), .val (.ref a2)] [(.ref a1)])
  refine Goes.of (fun t => XS.dup X84.here hx rfl (hb hby d7_30) rfl rfl) ?_
  show Goes p e below KK T84 (mkF m 31 #[.val (.ref a1), .val (.ref a2)] [(.ref a1), (.ref a1)])
  obtain ⟨T85, X85, e85, st85⟩ := getF X84 hx hZ78 hown78 (host := "") (Or.inl w_62) (Via.of w_63) e84 F1m_78_83_84 (g := (mkF m 31 #[.val (.ref a1), .val (.ref a2)] [(.ref a1), (.ref a1)])) rfl rfl (hb hby d7_31)
  refine Goes.of (st85) ?_
  show Goes p e below KK T85 (mkF m 34 #[.val (.ref a1), .val (.ref a2)] [(.int md), (.ref a1)])
  refine Goes.of (fun t => XS.iconst X85.here hx rfl (hb hby d7_34)) ?_
  show Goes p e below KK T85 (mkF m 35 #[.val (.ref a1), .val (.ref a2)] [(.int (1 : Int32)), (.int md), (.ref a1)])
  refine Goes.of (fun t => XS.iadd X85.here hx rfl (hb hby d7_35) rfl) ?_
  show Goes p e below KK T85 (mkF m 36 #[.val (.ref a1), .val (.ref a2)] [(.int (md + (1 : Int32))), (.ref a1)])
  obtain ⟨T86, h86, X86, e86, W86, st86⟩ := putF X85 hx hZ78 hown78 (host := "") (Or.inl w_62) (Via.of w_63) e85 F1m_78_83_84 E1_78_83_84 (Or.inl w_26) w_1 (ty := .int) (by decide) rfl rfl (g := (mkF m 36 #[.val (.ref a1), .val (.ref a2)] [(.int (md + (1 : Int32))), (.ref a1)])) rfl rfl (hb hby d7_36)
  refine Goes.of (st86) ?_
  have E1_78_83_84_86 : Exa Z h86 a1 "corbel/structures/ArrayStack" := E1_78_83_84.wr W86
  have F1e_78_83_84_86 : Fld Z h86 a1 "corbel/structures/ArrayStack" "elements" "[Ljava/lang/Object;" (.ref ar) := F1e_78_83_84.other W86 (Or.inr (slot_ne (Or.inl w_30) (Or.inl w_26) (by decide) (t := (.array (.object "java/lang/Object"))) (t' := .int) (by decide) (by decide)))
  have F_size_a1_83_84_86 : Fld Z h86 a1 "corbel/structures/ArrayStack" "size" "I" (.int (4 : Int32)) := F_size_a1_83_84.other W86 (Or.inr (slot_ne (Or.inl w_60) (Or.inl w_26) (by decide) (t := .int) (t' := .int) (by decide) (by decide)))
  have A_ar_84_86 : AR Z h86 ar [(.ref y0), (.ref y1), (.ref y2), (.ref a2)] := A_ar_84.other W86 (Exa.ne A_ar_84.exa E1_78_83_84 (by decide))
  have Ey_y0_78_83_84_86 : Exa Z h86 y0 "java/lang/Integer" := Ey_y0_78_83_84.wr W86
  have Ey_y1_78_83_84_86 : Exa Z h86 y1 "java/lang/Integer" := Ey_y1_78_83_84.wr W86
  have Ey_y2_78_83_84_86 : Exa Z h86 y2 "java/lang/Integer" := Ey_y2_78_83_84.wr W86
  have Ey_a2_78_83_84_86 : Exa Z h86 a2 "java/lang/Integer" := Ey_a2_78_83_84.wr W86
  have K86 : Keep h0 h86 [a1, ar] := K84.wr W86 (Or.inl (List.mem_of_getElem? (i := 0) rfl))
  have Z86 : n0 ≤ h86.size := Nat.le_trans Z84 (Keep.of_wr W86).1
  have HK86 := Nat.le_trans HK84 (Keep.of_wr W86).1
  have N86 := Fr.snoc X86 N84 g_a1
  have F_modCount_a1_86 : Fld Z h86 a1 "java/util/AbstractList" "modCount" "I" (.int (md + (1 : Int32))) := F1m_78_83_84.same W86
  show Goes p e below KK T86 (mkF m 39 #[.val (.ref a1), .val (.ref a2)] [])
  refine Goes.of (fun t => XS.iconst X86.here hx rfl (hb hby d7_39)) ?_
  show Goes p e below KK T86 (mkF m 40 #[.val (.ref a1), .val (.ref a2)] [(.int (1 : Int32))])
  rw [← hKK]
  refine Goes.retNarW X86 HS78 (by rw [e86]; exact HK86) hx hlk (t := .boolean) (by simp) Bd.returns (hb hby d7_40) ?_ (by decide) (by decide)
  rw [e86]
  exact ⟨ar, rfl, N86, K86, Or.inl rfl, E1_78_83_84_86, F1e_78_83_84_86, F_size_a1_83_84_86, F_modCount_a1_86, A_ar_84_86⟩
theorem d20_0 : decode prog_1_method_19_code 0 = .ok (.aload_n 0, 1) := by decide +kernel
theorem d20_1 : decode prog_1_method_19_code 1 = .ok (.getfield 11, 3) := by decide +kernel
theorem d20_4 : decode prog_1_method_19_code 4 = .ok (.arraylength, 1) := by decide +kernel
theorem d20_5 : decode prog_1_method_19_code 5 = .ok (.i2l, 1) := by decide +kernel
theorem d20_6 : decode prog_1_method_19_code 6 = .ok (.ldc2_w 113, 3) := by decide +kernel
theorem d20_9 : decode prog_1_method_19_code 9 = .ok (.aload_n 0, 1) := by decide +kernel
theorem d20_10 : decode prog_1_method_19_code 10 = .ok (.getfield 21, 3) := by decide +kernel
theorem d20_13 : decode prog_1_method_19_code 13 = .ok (.i2l, 1) := by decide +kernel
theorem d20_14 : decode prog_1_method_19_code 14 = .ok (.lmul, 1) := by decide +kernel
theorem d20_15 : decode prog_1_method_19_code 15 = .ok (.lcmp, 1) := by decide +kernel
theorem d20_16 : decode prog_1_method_19_code 16 = .ok (.ifCond .lt 33, 3) := by decide +kernel
theorem d20_19 : decode prog_1_method_19_code 19 = .ok (.aload_n 0, 1) := by decide +kernel
theorem d20_20 : decode prog_1_method_19_code 20 = .ok (.getfield 11, 3) := by decide +kernel
theorem d20_23 : decode prog_1_method_19_code 23 = .ok (.arraylength, 1) := by decide +kernel
theorem d20_24 : decode prog_1_method_19_code 24 = .ok (.iconst 1, 1) := by decide +kernel
theorem d20_25 : decode prog_1_method_19_code 25 = .ok (.if_icmp .le 24, 3) := by decide +kernel
theorem d20_28 : decode prog_1_method_19_code 28 = .ok (.aload_n 0, 1) := by decide +kernel
theorem d20_29 : decode prog_1_method_19_code 29 = .ok (.aload_n 0, 1) := by decide +kernel
theorem d20_30 : decode prog_1_method_19_code 30 = .ok (.getfield 11, 3) := by decide +kernel
theorem d20_33 : decode prog_1_method_19_code 33 = .ok (.iconst 2, 1) := by decide +kernel
theorem d20_34 : decode prog_1_method_19_code 34 = .ok (.aload_n 0, 1) := by decide +kernel
theorem d20_35 : decode prog_1_method_19_code 35 = .ok (.getfield 21, 3) := by decide +kernel
theorem d20_38 : decode prog_1_method_19_code 38 = .ok (.imul, 1) := by decide +kernel
theorem d20_39 : decode prog_1_method_19_code 39 = .ok (.iconst 1, 1) := by decide +kernel
theorem d20_40 : decode prog_1_method_19_code 40 = .ok (.invokestatic 115, 3) := by decide +kernel
theorem d20_43 : decode prog_1_method_19_code 43 = .ok (.invokestatic 109, 3) := by decide +kernel
theorem d20_46 : decode prog_1_method_19_code 46 = .ok (.putfield 11, 3) := by decide +kernel
theorem d20_49 : decode prog_1_method_19_code 49 = .ok (.return_, 1) := by decide +kernel
theorem pn_20 : plainFor (⟨"corbel/structures/ArrayStack", "shrinkIfSparse", "()V"⟩ : MethodName) = true := plainFor_of_name (by first | (simp [plainName, overriddenIn]; done) | decide +kernel)
theorem ef_20s1 (m : MethodId) (x0 : Addr) : entryFrame m #[(.ref x0)] 1 = mkF m 0 #[.val (.ref x0)] [] := by first | (simp [entryFrame, mkF, argsToLocals, Value.category]; done) | rfl
def Q20s1 (Z : State) (a1 : Addr) (ar : Addr) (vs : List Value) (h0 : Heap) (n0 : Nat) (v : Option Value) (h : Heap) (L : List Loc) : Prop := v = none ∧ Fr n0 L ∧ h = h0
set_option maxRecDepth 65536 in
set_option maxHeartbeats 40000000 in
theorem rm20s1 (l : Launch) (Z : State) (a0 : Array Value) (hw : ∀ d ∈ tables_1, d.before a0 Z = true) (ws : List Jvm.Cond) (a1 : Addr) (ar : Addr) (vs : List Value) (h0 : Heap) (n0 : Nat) (Z0 : n0 ≤ h0.size) (F1e : Fld Z h0 a1 "corbel/structures/ArrayStack" "elements" "[Ljava/lang/Object;" (.ref ar)) (F1s : Fld Z h0 a1 "corbel/structures/ArrayStack" "size" "I" (.int (1 : Int32))) (A1 : AR Z h0 ar vs) (hl : vs.length = 2) :
    MetFree l (⟨"corbel/structures/ArrayStack", "shrinkIfSparse", "()V"⟩ : MethodName) (head1 (Jvm.Cond.code (⟨"corbel/structures/ArrayStack", "shrinkIfSparse", "()V"⟩ : MethodName) prog_1_method_19_code 1 none :: ws) ({ frames := 0, cells := 0, slots := 0, locals := 0 } : Room)) (fun a U => a = #[(.ref a1)] ∧ Z.Warmed39 U.vm ∧ U.heap = h0) (fun _ _ _ _ _ => True) (fun _ U o U' => ∃ v L, o = .returned v ∧ Q20s1 Z a1 ar vs h0 n0 v U'.heap L ∧ FrameEnd U o U' L ({ frames := 0, cells := 0, slots := 0, locals := 0 } : Room).cells ({ frames := 0, cells := 0, slots := 0, locals := 0 } : Room).slots) := by
  refine MetFree.of_bodySF pn_20 hisR ?_
  intro p e s m args below meth c s₁ Bd hml0 hP hK
  obtain ⟨rfl, hZ, hh⟩ := hP
  have hx := Bd.exec
  have hby := Bd.bytes
  have hml : c.maxLocals = 1 := hml0
  have hown : s.vm.findClass "corbel/structures/ArrayStack" = some m.cls := findClass_of_methodNamed Bd.named
  have hnm := (name_of_methodNamed Bd.named Bd.method).1
  have hlk : meth.locks = false := BodyLoose.notSynchronized Bd
  have X0 : Stand p l e ({ frames := 0, cells := 0, slots := 0, locals := 0 } : Room) s m #[(.ref a1)] below meth c s₁ [] 0 0 := Stand.of_body Bd
  have e0 : s₁.heap = h0 := by rw [← hh, Bd.state]; rfl
  have N0 := Fr.nil n0
  show Goes p e below (OwnK s (Q20s1 Z a1 ar vs h0 n0) ({ frames := 0, cells := 0, slots := 0, locals := 0 } : Room).cells ({ frames := 0, cells := 0, slots := 0, locals := 0 } : Room).slots) s₁ (entryFrame m #[(.ref a1)] 1)
  refine Goes.cast (ef_20s1 m a1) ?_
  generalize hKK : OwnK s (Q20s1 Z a1 ar vs h0 n0) ({ frames := 0, cells := 0, slots := 0, locals := 0 } : Room).cells ({ frames := 0, cells := 0, slots := 0, locals := 0 } : Room).slots = KK
  show Goes p e below KK s₁ (mkF m 0 #[.val (.ref a1)] [])
  have w_29 := hw _ (List.mem_of_getElem? (i := 29) rfl)
  have w_59 := hw _ (List.mem_of_getElem? (i := 59) rfl)
  have w_129 := hw _ (List.mem_of_getElem? (i := 129) rfl)
  refine Goes.of (fun t => XS.aloadN X0.here hx rfl (hb hby d20_0) rfl rfl) ?_
  show Goes p e below KK s₁ (mkF m 1 #[.val (.ref a1)] [(.ref a1)])
  obtain ⟨T87, X87, e87, st87⟩ := getF X0 hx hZ hown (host := "") (Or.inl w_29) Via.refl e0 F1e (g := (mkF m 1 #[.val (.ref a1)] [(.ref a1)])) rfl rfl (hb hby d20_1)
  refine Goes.of (st87) ?_
  show Goes p e below KK T87 (mkF m 4 #[.val (.ref a1)] [(.ref ar)])
  refine Goes.of (AR.arraylength X87 hx hZ e87 A1 (j := (2 : Int32)) (by rw [hl]; rfl) (g := (mkF m 4 #[.val (.ref a1)] [(.ref ar)])) rfl rfl (hb hby d20_4)) ?_
  show Goes p e below KK T87 (mkF m 5 #[.val (.ref a1)] [(.int (2 : Int32))])
  refine Goes.of (fun t => XT.i2l X87.here hx rfl (hb hby d20_5) rfl) ?_
  show Goes p e below KK T87 (mkF m 6 #[.val (.ref a1)] [(.long (2 : Int64))])
  refine Goes.of (X87.ldc2Long hx hown (mvT hZ w_129) (g := (mkF m 6 #[.val (.ref a1)] [(.long (2 : Int64))])) rfl (hb hby d20_6)) ?_
  show Goes p e below KK T87 (mkF m 9 #[.val (.ref a1)] [(.long (3 : Int64)), (.long (2 : Int64))])
  refine Goes.of (fun t => XS.aloadN X87.here hx rfl (hb hby d20_9) rfl rfl) ?_
  show Goes p e below KK T87 (mkF m 10 #[.val (.ref a1)] [(.ref a1), (.long (3 : Int64)), (.long (2 : Int64))])
  obtain ⟨T88, X88, e88, st88⟩ := getF X87 hx hZ hown (host := "") (Or.inl w_59) Via.refl e87 F1s (g := (mkF m 10 #[.val (.ref a1)] [(.ref a1), (.long (3 : Int64)), (.long (2 : Int64))])) rfl rfl (hb hby d20_10)
  refine Goes.of (st88) ?_
  show Goes p e below KK T88 (mkF m 13 #[.val (.ref a1)] [(.int (1 : Int32)), (.long (3 : Int64)), (.long (2 : Int64))])
  refine Goes.of (fun t => XT.i2l X88.here hx rfl (hb hby d20_13) rfl) ?_
  show Goes p e below KK T88 (mkF m 14 #[.val (.ref a1)] [(.long (1 : Int64)), (.long (3 : Int64)), (.long (2 : Int64))])
  refine Goes.of (fun t => XT.lmul X88.here hx rfl (hb hby d20_14) rfl) ?_
  show Goes p e below KK T88 (mkF m 15 #[.val (.ref a1)] [(.long (3 : Int64)), (.long (2 : Int64))])
  refine Goes.of (fun t => XT.lcmp X88.here hx rfl (hb hby d20_15) rfl) ?_
  show Goes p e below KK T88 (mkF m 16 #[.val (.ref a1)] [(.int (XT.cmpL (2 : Int64) (3 : Int64)))])
  refine Goes.of (fun t => XS.ifYes X88.here hx rfl (pc0 := 16) (pc' := 49) rfl (hb hby d20_16) rfl ((if0 _ _).trans (tlt (show (XT.cmpL (2 : Int64) (3 : Int64)) < (0 : Int32) from by decide)).1) (by decide) (by decide)) ?_
  show Goes p e below KK T88 (mkF m 49 #[.val (.ref a1)] [])
  rw [← hKK]
  refine Goes.retVoid X88 hx hlk Bd.returns (hb hby d20_49) ?_ (by decide) (by decide)
  rw [e88]
  exact ⟨rfl, N0, rfl⟩
theorem ef_20s2 (m : MethodId) (x0 : Addr) : entryFrame m #[(.ref x0)] 1 = mkF m 0 #[.val (.ref x0)] [] := by first | (simp [entryFrame, mkF, argsToLocals, Value.category]; done) | rfl
def Q20s2 (Z : State) (a1 : Addr) (ar : Addr) (vs : List Value) (h0 : Heap) (n0 : Nat) (v : Option Value) (h : Heap) (L : List Loc) : Prop := v = none ∧ Fr n0 L ∧ h = h0
set_option maxRecDepth 65536 in
set_option maxHeartbeats 40000000 in
theorem rm20s2 (l : Launch) (Z : State) (a0 : Array Value) (hw : ∀ d ∈ tables_1, d.before a0 Z = true) (ws : List Jvm.Cond) (a1 : Addr) (ar : Addr) (vs : List Value) (h0 : Heap) (n0 : Nat) (Z0 : n0 ≤ h0.size) (F1e : Fld Z h0 a1 "corbel/structures/ArrayStack" "elements" "[Ljava/lang/Object;" (.ref ar)) (F1s : Fld Z h0 a1 "corbel/structures/ArrayStack" "size" "I" (.int (2 : Int32))) (A1 : AR Z h0 ar vs) (hl : vs.length = 4) :
    MetFree l (⟨"corbel/structures/ArrayStack", "shrinkIfSparse", "()V"⟩ : MethodName) (head1 (Jvm.Cond.code (⟨"corbel/structures/ArrayStack", "shrinkIfSparse", "()V"⟩ : MethodName) prog_1_method_19_code 1 none :: ws) ({ frames := 0, cells := 0, slots := 0, locals := 0 } : Room)) (fun a U => a = #[(.ref a1)] ∧ Z.Warmed39 U.vm ∧ U.heap = h0) (fun _ _ _ _ _ => True) (fun _ U o U' => ∃ v L, o = .returned v ∧ Q20s2 Z a1 ar vs h0 n0 v U'.heap L ∧ FrameEnd U o U' L ({ frames := 0, cells := 0, slots := 0, locals := 0 } : Room).cells ({ frames := 0, cells := 0, slots := 0, locals := 0 } : Room).slots) := by
  refine MetFree.of_bodySF pn_20 hisR ?_
  intro p e s m args below meth c s₁ Bd hml0 hP hK
  obtain ⟨rfl, hZ, hh⟩ := hP
  have hx := Bd.exec
  have hby := Bd.bytes
  have hml : c.maxLocals = 1 := hml0
  have hown : s.vm.findClass "corbel/structures/ArrayStack" = some m.cls := findClass_of_methodNamed Bd.named
  have hnm := (name_of_methodNamed Bd.named Bd.method).1
  have hlk : meth.locks = false := BodyLoose.notSynchronized Bd
  have X0 : Stand p l e ({ frames := 0, cells := 0, slots := 0, locals := 0 } : Room) s m #[(.ref a1)] below meth c s₁ [] 0 0 := Stand.of_body Bd
  have e0 : s₁.heap = h0 := by rw [← hh, Bd.state]; rfl
  have N0 := Fr.nil n0
  show Goes p e below (OwnK s (Q20s2 Z a1 ar vs h0 n0) ({ frames := 0, cells := 0, slots := 0, locals := 0 } : Room).cells ({ frames := 0, cells := 0, slots := 0, locals := 0 } : Room).slots) s₁ (entryFrame m #[(.ref a1)] 1)
  refine Goes.cast (ef_20s2 m a1) ?_
  generalize hKK : OwnK s (Q20s2 Z a1 ar vs h0 n0) ({ frames := 0, cells := 0, slots := 0, locals := 0 } : Room).cells ({ frames := 0, cells := 0, slots := 0, locals := 0 } : Room).slots = KK
  show Goes p e below KK s₁ (mkF m 0 #[.val (.ref a1)] [])
  have w_29 := hw _ (List.mem_of_getElem? (i := 29) rfl)
  have w_59 := hw _ (List.mem_of_getElem? (i := 59) rfl)
  have w_129 := hw _ (List.mem_of_getElem? (i := 129) rfl)
  refine Goes.of (fun t => XS.aloadN X0.here hx rfl (hb hby d20_0) rfl rfl) ?_
  show Goes p e below KK s₁ (mkF m 1 #[.val (.ref a1)] [(.ref a1)])
  obtain ⟨T89, X89, e89, st89⟩ := getF X0 hx hZ hown (host := "") (Or.inl w_29) Via.refl e0 F1e (g := (mkF m 1 #[.val (.ref a1)] [(.ref a1)])) rfl rfl (hb hby d20_1)
  refine Goes.of (st89) ?_
  show Goes p e below KK T89 (mkF m 4 #[.val (.ref a1)] [(.ref ar)])
  refine Goes.of (AR.arraylength X89 hx hZ e89 A1 (j := (4 : Int32)) (by rw [hl]; rfl) (g := (mkF m 4 #[.val (.ref a1)] [(.ref ar)])) rfl rfl (hb hby d20_4)) ?_
  show Goes p e below KK T89 (mkF m 5 #[.val (.ref a1)] [(.int (4 : Int32))])
  refine Goes.of (fun t => XT.i2l X89.here hx rfl (hb hby d20_5) rfl) ?_
  show Goes p e below KK T89 (mkF m 6 #[.val (.ref a1)] [(.long (4 : Int64))])
  refine Goes.of (X89.ldc2Long hx hown (mvT hZ w_129) (g := (mkF m 6 #[.val (.ref a1)] [(.long (4 : Int64))])) rfl (hb hby d20_6)) ?_
  show Goes p e below KK T89 (mkF m 9 #[.val (.ref a1)] [(.long (3 : Int64)), (.long (4 : Int64))])
  refine Goes.of (fun t => XS.aloadN X89.here hx rfl (hb hby d20_9) rfl rfl) ?_
  show Goes p e below KK T89 (mkF m 10 #[.val (.ref a1)] [(.ref a1), (.long (3 : Int64)), (.long (4 : Int64))])
  obtain ⟨T90, X90, e90, st90⟩ := getF X89 hx hZ hown (host := "") (Or.inl w_59) Via.refl e89 F1s (g := (mkF m 10 #[.val (.ref a1)] [(.ref a1), (.long (3 : Int64)), (.long (4 : Int64))])) rfl rfl (hb hby d20_10)
  refine Goes.of (st90) ?_
  show Goes p e below KK T90 (mkF m 13 #[.val (.ref a1)] [(.int (2 : Int32)), (.long (3 : Int64)), (.long (4 : Int64))])
  refine Goes.of (fun t => XT.i2l X90.here hx rfl (hb hby d20_13) rfl) ?_
  show Goes p e below KK T90 (mkF m 14 #[.val (.ref a1)] [(.long (2 : Int64)), (.long (3 : Int64)), (.long (4 : Int64))])
  refine Goes.of (fun t => XT.lmul X90.here hx rfl (hb hby d20_14) rfl) ?_
  show Goes p e below KK T90 (mkF m 15 #[.val (.ref a1)] [(.long (6 : Int64)), (.long (4 : Int64))])
  refine Goes.of (fun t => XT.lcmp X90.here hx rfl (hb hby d20_15) rfl) ?_
  show Goes p e below KK T90 (mkF m 16 #[.val (.ref a1)] [(.int (XT.cmpL (4 : Int64) (6 : Int64)))])
  refine Goes.of (fun t => XS.ifYes X90.here hx rfl (pc0 := 16) (pc' := 49) rfl (hb hby d20_16) rfl ((if0 _ _).trans (tlt (show (XT.cmpL (4 : Int64) (6 : Int64)) < (0 : Int32) from by decide)).1) (by decide) (by decide)) ?_
  show Goes p e below KK T90 (mkF m 49 #[.val (.ref a1)] [])
  rw [← hKK]
  refine Goes.retVoid X90 hx hlk Bd.returns (hb hby d20_49) ?_ (by decide) (by decide)
  rw [e90]
  exact ⟨rfl, N0, rfl⟩
theorem ef_20s3 (m : MethodId) (x0 : Addr) : entryFrame m #[(.ref x0)] 1 = mkF m 0 #[.val (.ref x0)] [] := by first | (simp [entryFrame, mkF, argsToLocals, Value.category]; done) | rfl
def Q20s3 (Z : State) (a1 : Addr) (ar : Addr) (vs : List Value) (h0 : Heap) (n0 : Nat) (v : Option Value) (h : Heap) (L : List Loc) : Prop := v = none ∧ Fr n0 L ∧ h = h0
set_option maxRecDepth 65536 in
set_option maxHeartbeats 40000000 in
theorem rm20s3 (l : Launch) (Z : State) (a0 : Array Value) (hw : ∀ d ∈ tables_1, d.before a0 Z = true) (ws : List Jvm.Cond) (a1 : Addr) (ar : Addr) (vs : List Value) (h0 : Heap) (n0 : Nat) (Z0 : n0 ≤ h0.size) (F1e : Fld Z h0 a1 "corbel/structures/ArrayStack" "elements" "[Ljava/lang/Object;" (.ref ar)) (F1s : Fld Z h0 a1 "corbel/structures/ArrayStack" "size" "I" (.int (3 : Int32))) (A1 : AR Z h0 ar vs) (hl : vs.length = 4) :
    MetFree l (⟨"corbel/structures/ArrayStack", "shrinkIfSparse", "()V"⟩ : MethodName) (head1 (Jvm.Cond.code (⟨"corbel/structures/ArrayStack", "shrinkIfSparse", "()V"⟩ : MethodName) prog_1_method_19_code 1 none :: ws) ({ frames := 0, cells := 0, slots := 0, locals := 0 } : Room)) (fun a U => a = #[(.ref a1)] ∧ Z.Warmed39 U.vm ∧ U.heap = h0) (fun _ _ _ _ _ => True) (fun _ U o U' => ∃ v L, o = .returned v ∧ Q20s3 Z a1 ar vs h0 n0 v U'.heap L ∧ FrameEnd U o U' L ({ frames := 0, cells := 0, slots := 0, locals := 0 } : Room).cells ({ frames := 0, cells := 0, slots := 0, locals := 0 } : Room).slots) := by
  refine MetFree.of_bodySF pn_20 hisR ?_
  intro p e s m args below meth c s₁ Bd hml0 hP hK
  obtain ⟨rfl, hZ, hh⟩ := hP
  have hx := Bd.exec
  have hby := Bd.bytes
  have hml : c.maxLocals = 1 := hml0
  have hown : s.vm.findClass "corbel/structures/ArrayStack" = some m.cls := findClass_of_methodNamed Bd.named
  have hnm := (name_of_methodNamed Bd.named Bd.method).1
  have hlk : meth.locks = false := BodyLoose.notSynchronized Bd
  have X0 : Stand p l e ({ frames := 0, cells := 0, slots := 0, locals := 0 } : Room) s m #[(.ref a1)] below meth c s₁ [] 0 0 := Stand.of_body Bd
  have e0 : s₁.heap = h0 := by rw [← hh, Bd.state]; rfl
  have N0 := Fr.nil n0
  show Goes p e below (OwnK s (Q20s3 Z a1 ar vs h0 n0) ({ frames := 0, cells := 0, slots := 0, locals := 0 } : Room).cells ({ frames := 0, cells := 0, slots := 0, locals := 0 } : Room).slots) s₁ (entryFrame m #[(.ref a1)] 1)
  refine Goes.cast (ef_20s3 m a1) ?_
  generalize hKK : OwnK s (Q20s3 Z a1 ar vs h0 n0) ({ frames := 0, cells := 0, slots := 0, locals := 0 } : Room).cells ({ frames := 0, cells := 0, slots := 0, locals := 0 } : Room).slots = KK
  show Goes p e below KK s₁ (mkF m 0 #[.val (.ref a1)] [])
  have w_29 := hw _ (List.mem_of_getElem? (i := 29) rfl)
  have w_59 := hw _ (List.mem_of_getElem? (i := 59) rfl)
  have w_129 := hw _ (List.mem_of_getElem? (i := 129) rfl)
  refine Goes.of (fun t => XS.aloadN X0.here hx rfl (hb hby d20_0) rfl rfl) ?_
  show Goes p e below KK s₁ (mkF m 1 #[.val (.ref a1)] [(.ref a1)])
  obtain ⟨T91, X91, e91, st91⟩ := getF X0 hx hZ hown (host := "") (Or.inl w_29) Via.refl e0 F1e (g := (mkF m 1 #[.val (.ref a1)] [(.ref a1)])) rfl rfl (hb hby d20_1)
  refine Goes.of (st91) ?_
  show Goes p e below KK T91 (mkF m 4 #[.val (.ref a1)] [(.ref ar)])
  refine Goes.of (AR.arraylength X91 hx hZ e91 A1 (j := (4 : Int32)) (by rw [hl]; rfl) (g := (mkF m 4 #[.val (.ref a1)] [(.ref ar)])) rfl rfl (hb hby d20_4)) ?_
  show Goes p e below KK T91 (mkF m 5 #[.val (.ref a1)] [(.int (4 : Int32))])
  refine Goes.of (fun t => XT.i2l X91.here hx rfl (hb hby d20_5) rfl) ?_
  show Goes p e below KK T91 (mkF m 6 #[.val (.ref a1)] [(.long (4 : Int64))])
  refine Goes.of (X91.ldc2Long hx hown (mvT hZ w_129) (g := (mkF m 6 #[.val (.ref a1)] [(.long (4 : Int64))])) rfl (hb hby d20_6)) ?_
  show Goes p e below KK T91 (mkF m 9 #[.val (.ref a1)] [(.long (3 : Int64)), (.long (4 : Int64))])
  refine Goes.of (fun t => XS.aloadN X91.here hx rfl (hb hby d20_9) rfl rfl) ?_
  show Goes p e below KK T91 (mkF m 10 #[.val (.ref a1)] [(.ref a1), (.long (3 : Int64)), (.long (4 : Int64))])
  obtain ⟨T92, X92, e92, st92⟩ := getF X91 hx hZ hown (host := "") (Or.inl w_59) Via.refl e91 F1s (g := (mkF m 10 #[.val (.ref a1)] [(.ref a1), (.long (3 : Int64)), (.long (4 : Int64))])) rfl rfl (hb hby d20_10)
  refine Goes.of (st92) ?_
  show Goes p e below KK T92 (mkF m 13 #[.val (.ref a1)] [(.int (3 : Int32)), (.long (3 : Int64)), (.long (4 : Int64))])
  refine Goes.of (fun t => XT.i2l X92.here hx rfl (hb hby d20_13) rfl) ?_
  show Goes p e below KK T92 (mkF m 14 #[.val (.ref a1)] [(.long (3 : Int64)), (.long (3 : Int64)), (.long (4 : Int64))])
  refine Goes.of (fun t => XT.lmul X92.here hx rfl (hb hby d20_14) rfl) ?_
  show Goes p e below KK T92 (mkF m 15 #[.val (.ref a1)] [(.long (9 : Int64)), (.long (4 : Int64))])
  refine Goes.of (fun t => XT.lcmp X92.here hx rfl (hb hby d20_15) rfl) ?_
  show Goes p e below KK T92 (mkF m 16 #[.val (.ref a1)] [(.int (XT.cmpL (4 : Int64) (9 : Int64)))])
  refine Goes.of (fun t => XS.ifYes X92.here hx rfl (pc0 := 16) (pc' := 49) rfl (hb hby d20_16) rfl ((if0 _ _).trans (tlt (show (XT.cmpL (4 : Int64) (9 : Int64)) < (0 : Int32) from by decide)).1) (by decide) (by decide)) ?_
  show Goes p e below KK T92 (mkF m 49 #[.val (.ref a1)] [])
  rw [← hKK]
  refine Goes.retVoid X92 hx hlk Bd.returns (hb hby d20_49) ?_ (by decide) (by decide)
  rw [e92]
  exact ⟨rfl, N0, rfl⟩
theorem d19_0 : decode prog_1_method_11_code 0 = .ok (.iload_n 1, 1) := by decide +kernel
theorem d19_1 : decode prog_1_method_11_code 1 = .ok (.aload_n 0, 1) := by decide +kernel
theorem d19_2 : decode prog_1_method_11_code 2 = .ok (.getfield 21, 3) := by decide +kernel
theorem d19_5 : decode prog_1_method_11_code 5 = .ok (.invokestatic 36, 3) := by decide +kernel
theorem d19_8 : decode prog_1_method_11_code 8 = .ok (.pop, 1) := by decide +kernel
theorem d19_9 : decode prog_1_method_11_code 9 = .ok (.aload_n 0, 1) := by decide +kernel
theorem d19_10 : decode prog_1_method_11_code 10 = .ok (.iload_n 1, 1) := by decide +kernel
theorem d19_11 : decode prog_1_method_11_code 11 = .ok (.invokevirtual 42, 3) := by decide +kernel
theorem d19_14 : decode prog_1_method_11_code 14 = .ok (.astore_n 2, 1) := by decide +kernel
theorem d19_15 : decode prog_1_method_11_code 15 = .ok (.iload_n 1, 1) := by decide +kernel
theorem d19_16 : decode prog_1_method_11_code 16 = .ok (.aload_n 0, 1) := by decide +kernel
theorem d19_17 : decode prog_1_method_11_code 17 = .ok (.getfield 21, 3) := by decide +kernel
theorem d19_20 : decode prog_1_method_11_code 20 = .ok (.iconst 1, 1) := by decide +kernel
theorem d19_21 : decode prog_1_method_11_code 21 = .ok (.isub, 1) := by decide +kernel
theorem d19_22 : decode prog_1_method_11_code 22 = .ok (.if_icmp .ge 26, 3) := by decide +kernel
theorem d19_25 : decode prog_1_method_11_code 25 = .ok (.aload_n 0, 1) := by decide +kernel
theorem d19_26 : decode prog_1_method_11_code 26 = .ok (.getfield 11, 3) := by decide +kernel
theorem d19_29 : decode prog_1_method_11_code 29 = .ok (.iload_n 1, 1) := by decide +kernel
theorem d19_30 : decode prog_1_method_11_code 30 = .ok (.iconst 1, 1) := by decide +kernel
theorem d19_31 : decode prog_1_method_11_code 31 = .ok (.iadd, 1) := by decide +kernel
theorem d19_32 : decode prog_1_method_11_code 32 = .ok (.aload_n 0, 1) := by decide +kernel
theorem d19_33 : decode prog_1_method_11_code 33 = .ok (.getfield 11, 3) := by decide +kernel
theorem d19_36 : decode prog_1_method_11_code 36 = .ok (.iload_n 1, 1) := by decide +kernel
theorem d19_37 : decode prog_1_method_11_code 37 = .ok (.aload_n 0, 1) := by decide +kernel
theorem d19_38 : decode prog_1_method_11_code 38 = .ok (.getfield 21, 3) := by decide +kernel
theorem d19_41 : decode prog_1_method_11_code 41 = .ok (.iload_n 1, 1) := by decide +kernel
theorem d19_42 : decode prog_1_method_11_code 42 = .ok (.isub, 1) := by decide +kernel
theorem d19_43 : decode prog_1_method_11_code 43 = .ok (.iconst 1, 1) := by decide +kernel
theorem d19_44 : decode prog_1_method_11_code 44 = .ok (.isub, 1) := by decide +kernel
theorem d19_45 : decode prog_1_method_11_code 45 = .ok (.invokestatic 58, 3) := by decide +kernel
theorem d19_48 : decode prog_1_method_11_code 48 = .ok (.aload_n 0, 1) := by decide +kernel
theorem d19_49 : decode prog_1_method_11_code 49 = .ok (.getfield 11, 3) := by decide +kernel
theorem d19_52 : decode prog_1_method_11_code 52 = .ok (.aload_n 0, 1) := by decide +kernel
theorem d19_53 : decode prog_1_method_11_code 53 = .ok (.dup, 1) := by decide +kernel
theorem d19_54 : decode prog_1_method_11_code 54 = .ok (.getfield 21, 3) := by decide +kernel
theorem d19_57 : decode prog_1_method_11_code 57 = .ok (.iconst 1, 1) := by decide +kernel
theorem d19_58 : decode prog_1_method_11_code 58 = .ok (.isub, 1) := by decide +kernel
theorem d19_59 : decode prog_1_method_11_code 59 = .ok (.dup_x1, 1) := by decide +kernel
theorem d19_60 : decode prog_1_method_11_code 60 = .ok (.putfield 21, 3) := by decide +kernel
theorem d19_63 : decode prog_1_method_11_code 63 = .ok (.aconst_null, 1) := by decide +kernel
theorem d19_64 : decode prog_1_method_11_code 64 = .ok (.aastore, 1) := by decide +kernel
theorem d19_65 : decode prog_1_method_11_code 65 = .ok (.aload_n 0, 1) := by decide +kernel
theorem d19_66 : decode prog_1_method_11_code 66 = .ok (.dup, 1) := by decide +kernel
theorem d19_67 : decode prog_1_method_11_code 67 = .ok (.getfield 55, 3) := by decide +kernel
theorem d19_70 : decode prog_1_method_11_code 70 = .ok (.iconst 1, 1) := by decide +kernel
theorem d19_71 : decode prog_1_method_11_code 71 = .ok (.iadd, 1) := by decide +kernel
theorem d19_72 : decode prog_1_method_11_code 72 = .ok (.putfield 55, 3) := by decide +kernel
theorem d19_75 : decode prog_1_method_11_code 75 = .ok (.aload_n 0, 1) := by decide +kernel
theorem d19_76 : decode prog_1_method_11_code 76 = .ok (.invokevirtual 68, 3) := by decide +kernel
theorem d19_79 : decode prog_1_method_11_code 79 = .ok (.aload_n 2, 1) := by decide +kernel
theorem d19_80 : decode prog_1_method_11_code 80 = .ok (.areturn, 1) := by decide +kernel
theorem pn_19 : plainFor (⟨"corbel/structures/ArrayStack", "remove", "(I)Ljava/lang/Object;"⟩ : MethodName) = true := plainFor_of_name (by first | (simp [plainName, overriddenIn]; done) | decide +kernel)
theorem ef_19s2 (m : MethodId) (x0 : Addr) (x1 : Int32) : entryFrame m #[(.ref x0), (.int x1)] 3 = mkF m 0 #[.val (.ref x0), .val (.int x1), .unset] [] := by first | (simp [entryFrame, mkF, argsToLocals, Value.category]; done) | rfl
def Q19s2 (Z : State) (a1 : Addr) (ar : Addr) (md : Int32) (y0 : Addr) (y1 : Addr) (h0 : Heap) (n0 : Nat) (v : Option Value) (h : Heap) (L : List Loc) : Prop := v = some (.ref y1) ∧ Fr n0 L ∧ Keep h0 h [a1, ar] ∧ Exa Z h a1 "corbel/structures/ArrayStack" ∧ Fld Z h a1 "corbel/structures/ArrayStack" "elements" "[Ljava/lang/Object;" (.ref ar) ∧ Fld Z h a1 "corbel/structures/ArrayStack" "size" "I" (.int (1 : Int32)) ∧ Fld Z h a1 "java/util/AbstractList" "modCount" "I" (.int (md + 1)) ∧ AR Z h ar [(.ref y0), .null]
set_option maxRecDepth 65536 in
set_option maxHeartbeats 40000000 in
theorem rm19s2 (l : Launch) (Z : State) (a0 : Array Value) (hw : ∀ d ∈ tables_1, d.before a0 Z = true) (ws : List Jvm.Cond) (a1 : Addr) (ar : Addr) (md : Int32) (y0 : Addr) (y1 : Addr) (h0 : Heap) (n0 : Nat) (Z0 : n0 ≤ h0.size) (E1 : Exa Z h0 a1 "corbel/structures/ArrayStack") (F1e : Fld Z h0 a1 "corbel/structures/ArrayStack" "elements" "[Ljava/lang/Object;" (.ref ar)) (F1s : Fld Z h0 a1 "corbel/structures/ArrayStack" "size" "I" (.int (2 : Int32))) (F1m : Fld Z h0 a1 "java/util/AbstractList" "modCount" "I" (.int md)) (A1 : AR Z h0 ar [(.ref y0), (.ref y1)]) (Ey_y0 : Exa Z h0 y0 "java/lang/Integer") (Ey_y1 : Exa Z h0 y1 "java/lang/Integer") (g_a1 : n0 ≤ a1) (g_ar : n0 ≤ ar) :
    MetFree l (⟨"corbel/structures/ArrayStack", "remove", "(I)Ljava/lang/Object;"⟩ : MethodName) (head1 (Jvm.Cond.code (⟨"corbel/structures/ArrayStack", "remove", "(I)Ljava/lang/Object;"⟩ : MethodName) prog_1_method_11_code 3 (some (.object "java/lang/Object")) :: ws) ({ frames := 2, cells := 0, slots := 0, locals := 27 } : Room)) (fun a U => a = #[(.ref a1), (.int (1 : Int32))] ∧ Z.Warmed39 U.vm ∧ U.heap = h0) (fun _ _ _ _ _ => True) (fun _ U o U' => ∃ v L, o = .returned v ∧ Q19s2 Z a1 ar md y0 y1 h0 n0 v U'.heap L ∧ FrameEnd U o U' L ({ frames := 2, cells := 0, slots := 0, locals := 27 } : Room).cells ({ frames := 2, cells := 0, slots := 0, locals := 27 } : Room).slots) := by
  refine MetFree.of_bodySF pn_19 hisR ?_
  intro p e s m args below meth c s₁ Bd hml0 hP hK
  obtain ⟨rfl, hZ, hh⟩ := hP
  have hx := Bd.exec
  have hby := Bd.bytes
  have hml : c.maxLocals = 3 := hml0
  have hown : s.vm.findClass "corbel/structures/ArrayStack" = some m.cls := findClass_of_methodNamed Bd.named
  have hnm := (name_of_methodNamed Bd.named Bd.method).1
  have hlk : meth.locks = false := BodyLoose.notSynchronized Bd
  have X0 : Stand p l e ({ frames := 2, cells := 0, slots := 0, locals := 27 } : Room) s m #[(.ref a1), (.int (1 : Int32))] below meth c s₁ [] 0 0 := Stand.of_body Bd
  have e0 : s₁.heap = h0 := by rw [← hh, Bd.state]; rfl
  have N0 := Fr.nil n0
  show Goes p e below (OwnK s (Q19s2 Z a1 ar md y0 y1 h0 n0) ({ frames := 2, cells := 0, slots := 0, locals := 27 } : Room).cells ({ frames := 2, cells := 0, slots := 0, locals := 27 } : Room).slots) s₁ (entryFrame m #[(.ref a1), (.int (1 : Int32))] 3)
  refine Goes.cast (ef_19s2 m a1 (1 : Int32)) ?_
  generalize hKK : OwnK s (Q19s2 Z a1 ar md y0 y1 h0 n0) ({ frames := 2, cells := 0, slots := 0, locals := 27 } : Room).cells ({ frames := 2, cells := 0, slots := 0, locals := 27 } : Room).slots = KK
  show Goes p e below KK s₁ (mkF m 0 #[.val (.ref a1), .val (.int (1 : Int32)), .unset] [])
  have w_1 := hw _ (List.mem_of_getElem? (i := 1) rfl)
  have w_2 := hw _ (List.mem_of_getElem? (i := 2) rfl)
  have w_26 := hw _ (List.mem_of_getElem? (i := 26) rfl)
  have w_29 := hw _ (List.mem_of_getElem? (i := 29) rfl)
  have w_30 := hw _ (List.mem_of_getElem? (i := 30) rfl)
  have w_53 := hw _ (List.mem_of_getElem? (i := 53) rfl)
  have w_59 := hw _ (List.mem_of_getElem? (i := 59) rfl)
  have w_60 := hw _ (List.mem_of_getElem? (i := 60) rfl)
  have w_62 := hw _ (List.mem_of_getElem? (i := 62) rfl)
  have w_63 := hw _ (List.mem_of_getElem? (i := 63) rfl)
  have w_70 := hw _ (List.mem_of_getElem? (i := 70) rfl)
  have w_71 := hw _ (List.mem_of_getElem? (i := 71) rfl)
  have w_72 := hw _ (List.mem_of_getElem? (i := 72) rfl)
  have w_77 := hw _ (List.mem_of_getElem? (i := 77) rfl)
  have w_78 := hw _ (List.mem_of_getElem? (i := 78) rfl)
  have w_79 := hw _ (List.mem_of_getElem? (i := 79) rfl)
  have w_80 := hw _ (List.mem_of_getElem? (i := 80) rfl)
  have w_125 := hw _ (List.mem_of_getElem? (i := 125) rfl)
  have w_126 := hw _ (List.mem_of_getElem? (i := 126) rfl)
  have w_127 := hw _ (List.mem_of_getElem? (i := 127) rfl)
  have w_128 := hw _ (List.mem_of_getElem? (i := 128) rfl)
  refine Goes.of (fun t => XS.iloadN X0.here hx rfl (hb hby d19_0) rfl) ?_
  show Goes p e below KK s₁ (mkF m 1 #[.val (.ref a1), .val (.int (1 : Int32)), .unset] [(.int (1 : Int32))])
  refine Goes.of (fun t => XS.aloadN X0.here hx rfl (hb hby d19_1) rfl rfl) ?_
  show Goes p e below KK s₁ (mkF m 2 #[.val (.ref a1), .val (.int (1 : Int32)), .unset] [(.ref a1), (.int (1 : Int32))])
  obtain ⟨T93, X93, e93, st93⟩ := getF X0 hx hZ hown (host := "") (Or.inl w_59) Via.refl e0 F1s (g := (mkF m 2 #[.val (.ref a1), .val (.int (1 : Int32)), .unset] [(.ref a1), (.int (1 : Int32))])) rfl rfl (hb hby d19_2)
  refine Goes.of (st93) ?_
  show Goes p e below KK T93 (mkF m 5 #[.val (.ref a1), .val (.int (1 : Int32)), .unset] [(.int (2 : Int32)), (.int (1 : Int32))])
  have hp1 : ¬ (1 : Int32) < 0 := by decide
  have hp2 : (1 : Int32) < 2 := by decide
  obtain ⟨_, _, ⟨T94, L94, k94, n94⟩, -, X94, ⟨Lc94, hQ94, l94, y94, z94⟩, st94⟩ := Jvm.LawKit.callS X93 hx (y := (⟨"java/util/Objects", "checkIndex", "(II)I"⟩ : MethodName)) hown (mvT hZ w_70) (mvT hZ w_71) (mvT hZ w_53) (mvT hZ w_72) (by decide) (backOf (W := 0) (rm11 l Z a0 hw [] (1 : Int32) (2 : Int32)  h0 n0 Z0 hp1 hp2) hZ w_72 w_53 (by decide) (by decide)) (g := (mkF m 5 #[.val (.ref a1), .val (.int (1 : Int32)), .unset] [(.int (2 : Int32)), (.int (1 : Int32))])) rfl (by rw [hml]; rfl) (argsL := [(.int (1 : Int32)), (.int (2 : Int32))]) (rest := []) (lenOf pd_15 rfl) rfl (by show 2 * 0 + _ ≤ _; exact Nat.le_of_eq rfl) (hb hby d19_5) (fun _ _ => ⟨rfl, e93, (by decide : 0 + 0 ≤ _), (by decide : 0 + 0 ≤ _)⟩)
  dsimp only [Pt.U, Pt.locs, Pt.cells, Pt.slots] at X94 l94 y94 z94 st94 hQ94
  subst l94 y94 z94
  obtain ⟨rfl, N94q, e94⟩ := hQ94
  have N94 := Fr.app N0 N94q
  refine Goes.of st94 ?_
  show Goes p e below KK T94 (mkF m 8 #[.val (.ref a1), .val (.int (1 : Int32)), .unset] [(.int (1 : Int32))])
  refine Goes.of (fun t => XT.pop X94.here hx rfl (hb hby d19_8) rfl rfl) ?_
  show Goes p e below KK T94 (mkF m 9 #[.val (.ref a1), .val (.int (1 : Int32)), .unset] [])
  refine Goes.of (fun t => XS.aloadN X94.here hx rfl (hb hby d19_9) rfl rfl) ?_
  show Goes p e below KK T94 (mkF m 10 #[.val (.ref a1), .val (.int (1 : Int32)), .unset] [(.ref a1)])
  refine Goes.of (fun t => XS.iloadN X94.here hx rfl (hb hby d19_10) rfl) ?_
  show Goes p e below KK T94 (mkF m 11 #[.val (.ref a1), .val (.int (1 : Int32)), .unset] [(.int (1 : Int32)), (.ref a1)])
  obtain ⟨cq95, q95, q95'⟩ := E1.cell
  obtain ⟨_, _, ⟨T95, L95, k95, n95⟩, -, X95, ⟨Lc95, hQ95, l95, y95, z95⟩, st95⟩ := X94.privateBack hx (y := (⟨"corbel/structures/ArrayStack", "elementAt", "(I)Ljava/lang/Object;"⟩ : MethodName)) hown (mvT hZ w_77) (mvT hZ w_78) (own_selp hZ w_1 w_79 w_78 (by decide)) (Cond.privateMethod_at (mvP hZ w_79 (args := #[]))) (mvT hZ w_80) (by decide) (backOf (W := 0) (rm13 l Z a0 hw [] a1 (1 : Int32) ar [(.ref y0), (.ref y1)] 1 y1 h0 n0 Z0 F1e A1 (rfl) (rfl)) hZ w_80 w_2 (by decide) (by decide)) (g := (mkF m 11 #[.val (.ref a1), .val (.int (1 : Int32)), .unset] [(.int (1 : Int32)), (.ref a1)])) rfl (by rw [hml]; rfl) (Steps.refl _) (a := a1) (by rw [e94]; exact q95) q95' (argsL := [(.int (1 : Int32))]) (rest := []) (lenOf pd_16 rfl) rfl (by show 2 * 0 + _ ≤ _; exact Nat.le_of_eq rfl) (hb hby d19_11) (fun _ _ => ⟨rfl, e94, (by decide : 0 + 0 ≤ _), (by decide : 0 + 0 ≤ _)⟩)
  dsimp only [Pt.U, Pt.locs, Pt.cells, Pt.slots] at X95 l95 y95 z95 st95 hQ95
  subst l95 y95 z95
  obtain ⟨rfl, N95q, e95⟩ := hQ95
  have N95 := Fr.app N94 N95q
  refine Goes.tr st95 ?_
  show Goes p e below KK T95 (mkF m 14 #[.val (.ref a1), .val (.int (1 : Int32)), .unset] [(.ref y1)])
  refine Goes.of (fun t => XS.astoreN X95.here hx rfl (hb hby d19_14) rfl rfl (l' := #[.val (.ref a1), .val (.int (1 : Int32)), .val (.ref y1)]) rfl) ?_
  show Goes p e below KK T95 (mkF m 15 #[.val (.ref a1), .val (.int (1 : Int32)), .val (.ref y1)] [])
  refine Goes.of (fun t => XS.iloadN X95.here hx rfl (hb hby d19_15) rfl) ?_
  show Goes p e below KK T95 (mkF m 16 #[.val (.ref a1), .val (.int (1 : Int32)), .val (.ref y1)] [(.int (1 : Int32))])
  refine Goes.of (fun t => XS.aloadN X95.here hx rfl (hb hby d19_16) rfl rfl) ?_
  show Goes p e below KK T95 (mkF m 17 #[.val (.ref a1), .val (.int (1 : Int32)), .val (.ref y1)] [(.ref a1), (.int (1 : Int32))])
  obtain ⟨T96, X96, e96, st96⟩ := getF X95 hx hZ hown (host := "") (Or.inl w_59) Via.refl e95 F1s (g := (mkF m 17 #[.val (.ref a1), .val (.int (1 : Int32)), .val (.ref y1)] [(.ref a1), (.int (1 : Int32))])) rfl rfl (hb hby d19_17)
  refine Goes.of (st96) ?_
  show Goes p e below KK T96 (mkF m 20 #[.val (.ref a1), .val (.int (1 : Int32)), .val (.ref y1)] [(.int (2 : Int32)), (.int (1 : Int32))])
  refine Goes.of (fun t => XS.iconst X96.here hx rfl (hb hby d19_20)) ?_
  show Goes p e below KK T96 (mkF m 21 #[.val (.ref a1), .val (.int (1 : Int32)), .val (.ref y1)] [(.int (1 : Int32)), (.int (2 : Int32)), (.int (1 : Int32))])
  refine Goes.of (fun t => XS.isub X96.here hx rfl (hb hby d19_21) rfl) ?_
  show Goes p e below KK T96 (mkF m 22 #[.val (.ref a1), .val (.int (1 : Int32)), .val (.ref y1)] [(.int (1 : Int32)), (.int (1 : Int32))])
  refine Goes.of (fun t => XS.icmpYes X96.here hx rfl (pc0 := 22) (pc' := 48) rfl (hb hby d19_22) rfl (flt (show ¬ ((1 : Int32) < (1 : Int32)) from by decide)).2.1 (by decide) (by decide)) ?_
  show Goes p e below KK T96 (mkF m 48 #[.val (.ref a1), .val (.int (1 : Int32)), .val (.ref y1)] [])
  refine Goes.of (fun t => XS.aloadN X96.here hx rfl (hb hby d19_48) rfl rfl) ?_
  show Goes p e below KK T96 (mkF m 49 #[.val (.ref a1), .val (.int (1 : Int32)), .val (.ref y1)] [(.ref a1)])
  obtain ⟨T97, X97, e97, st97⟩ := getF X96 hx hZ hown (host := "") (Or.inl w_29) Via.refl e96 F1e (g := (mkF m 49 #[.val (.ref a1), .val (.int (1 : Int32)), .val (.ref y1)] [(.ref a1)])) rfl rfl (hb hby d19_49)
  refine Goes.of (st97) ?_
  show Goes p e below KK T97 (mkF m 52 #[.val (.ref a1), .val (.int (1 : Int32)), .val (.ref y1)] [(.ref ar)])
  refine Goes.of (fun t => XS.aloadN X97.here hx rfl (hb hby d19_52) rfl rfl) ?_
  show Goes p e below KK T97 (mkF m 53 #[.val (.ref a1), .val (.int (1 : Int32)), .val (.ref y1)] [(.ref a1), (.ref ar)])
  refine Goes.of (fun t => XS.dup X97.here hx rfl (hb hby d19_53) rfl rfl) ?_
  show Goes p e below KK T97 (mkF m 54 #[.val (.ref a1), .val (.int (1 : Int32)), .val (.ref y1)] [(.ref a1), (.ref a1), (.ref ar)])
  obtain ⟨T98, X98, e98, st98⟩ := getF X97 hx hZ hown (host := "") (Or.inl w_59) Via.refl e97 F1s (g := (mkF m 54 #[.val (.ref a1), .val (.int (1 : Int32)), .val (.ref y1)] [(.ref a1), (.ref a1), (.ref ar)])) rfl rfl (hb hby d19_54)
  refine Goes.of (st98) ?_
  show Goes p e below KK T98 (mkF m 57 #[.val (.ref a1), .val (.int (1 : Int32)), .val (.ref y1)] [(.int (2 : Int32)), (.ref a1), (.ref ar)])
  refine Goes.of (fun t => XS.iconst X98.here hx rfl (hb hby d19_57)) ?_
  show Goes p e below KK T98 (mkF m 58 #[.val (.ref a1), .val (.int (1 : Int32)), .val (.ref y1)] [(.int (1 : Int32)), (.int (2 : Int32)), (.ref a1), (.ref ar)])
  refine Goes.of (fun t => XS.isub X98.here hx rfl (hb hby d19_58) rfl) ?_
  show Goes p e below KK T98 (mkF m 59 #[.val (.ref a1), .val (.int (1 : Int32)), .val (.ref y1)] [(.int (1 : Int32)), (.ref a1), (.ref ar)])
  refine Goes.of (fun t => XT.dupX1 X98.here hx rfl (hb hby d19_59) rfl rfl rfl) ?_
  show Goes p e below KK T98 (mkF m 60 #[.val (.ref a1), .val (.int (1 : Int32)), .val (.ref y1)] [(.int (1 : Int32)), (.ref a1), (.int (1 : Int32)), (.ref ar)])
  obtain ⟨T99, h99, X99, e99, W99, st99⟩ := putF X98 hx hZ hown (host := "") (Or.inl w_59) Via.refl e98 F1s E1 (Or.inl w_60) w_1 (ty := .int) (by decide) rfl rfl (g := (mkF m 60 #[.val (.ref a1), .val (.int (1 : Int32)), .val (.ref y1)] [(.int (1 : Int32)), (.ref a1), (.int (1 : Int32)), (.ref ar)])) rfl rfl (hb hby d19_60)
  refine Goes.of (st99) ?_
  have E1_99 : Exa Z h99 a1 "corbel/structures/ArrayStack" := E1.wr W99
  have F1e_99 : Fld Z h99 a1 "corbel/structures/ArrayStack" "elements" "[Ljava/lang/Object;" (.ref ar) := F1e.other W99 (Or.inr (slot_ne (Or.inl w_30) (Or.inl w_60) (by decide) (t := (.array (.object "java/lang/Object"))) (t' := .int) (by decide) (by decide)))
  have F1m_99 : Fld Z h99 a1 "java/util/AbstractList" "modCount" "I" (.int md) := F1m.other W99 (Or.inr (slot_ne (Or.inl w_26) (Or.inl w_60) (by decide) (t := .int) (t' := .int) (by decide) (by decide)))
  have A1_99 : AR Z h99 ar [(.ref y0), (.ref y1)] := A1.other W99 (Exa.ne A1.exa E1 (by decide))
  have Ey_y0_99 : Exa Z h99 y0 "java/lang/Integer" := Ey_y0.wr W99
  have Ey_y1_99 : Exa Z h99 y1 "java/lang/Integer" := Ey_y1.wr W99
  have K99 : Keep h0 h99 [a1, ar] := (Keep.refl h0 [a1, ar]).wr W99 (Or.inl (List.mem_of_getElem? (i := 0) rfl))
  have Z99 : n0 ≤ h99.size := Nat.le_trans Z0 (Keep.of_wr W99).1
  have N99 := Fr.snoc X99 N95 g_a1
  have F_size_a1_99 : Fld Z h99 a1 "corbel/structures/ArrayStack" "size" "I" (.int (1 : Int32)) := F1s.same W99
  show Goes p e below KK T99 (mkF m 63 #[.val (.ref a1), .val (.int (1 : Int32)), .val (.ref y1)] [(.int (1 : Int32)), (.ref ar)])
  refine Goes.of (fun t => XS.aconstNull X99.here hx rfl (hb hby d19_63)) ?_
  show Goes p e below KK T99 (mkF m 64 #[.val (.ref a1), .val (.int (1 : Int32)), .val (.ref y1)] [.null, (.int (1 : Int32)), (.ref ar)])
  obtain ⟨T100, h100, X100, e100, W100, A100, st100⟩ := AR.aastore X99 hx hZ e99 A1_99 (Or.inl rfl) (i := 1) (j := (1 : Int32)) (rfl) (by simp) (g := (mkF m 64 #[.val (.ref a1), .val (.int (1 : Int32)), .val (.ref y1)] [.null, (.int (1 : Int32)), (.ref ar)])) rfl rfl (hb hby d19_64)
  refine Goes.of (st100) ?_
  have E1_99_100 : Exa Z h100 a1 "corbel/structures/ArrayStack" := E1_99.wr W100
  have F1e_99_100 : Fld Z h100 a1 "corbel/structures/ArrayStack" "elements" "[Ljava/lang/Object;" (.ref ar) := F1e_99.other W100 (Or.inl (Exa.ne E1_99 A1_99.exa (by decide)))
  have F_size_a1_99_100 : Fld Z h100 a1 "corbel/structures/ArrayStack" "size" "I" (.int (1 : Int32)) := F_size_a1_99.other W100 (Or.inl (Exa.ne E1_99 A1_99.exa (by decide)))
  have F1m_99_100 : Fld Z h100 a1 "java/util/AbstractList" "modCount" "I" (.int md) := F1m_99.other W100 (Or.inl (Exa.ne E1_99 A1_99.exa (by decide)))
  have Ey_y0_99_100 : Exa Z h100 y0 "java/lang/Integer" := Ey_y0_99.wr W100
  have Ey_y1_99_100 : Exa Z h100 y1 "java/lang/Integer" := Ey_y1_99.wr W100
  have K100 : Keep h0 h100 [a1, ar] := K99.wr W100 (Or.inl (List.mem_of_getElem? (i := 1) rfl))
  have Z100 : n0 ≤ h100.size := Nat.le_trans Z99 (Keep.of_wr W100).1
  have N100 := Fr.snoc X100 N99 g_ar
  have A_ar_100 : AR Z h100 ar [(.ref y0), .null] := A100
  show Goes p e below KK T100 (mkF m 65 #[.val (.ref a1), .val (.int (1 : Int32)), .val (.ref y1)] [])
  refine Goes.of (fun t => XS.aloadN X100.here hx rfl (hb hby d19_65) rfl rfl) ?_
  show Goes p e below KK T100 (mkF m 66 #[.val (.ref a1), .val (.int (1 : Int32)), .val (.ref y1)] [(.ref a1)])
  refine Goes.of (fun t => XS.dup X100.here hx rfl (hb hby d19_66) rfl rfl) ?_
  show Goes p e below KK T100 (mkF m 67 #[.val (.ref a1), .val (.int (1 : Int32)), .val (.ref y1)] [(.ref a1), (.ref a1)])
  obtain ⟨T101, X101, e101, st101⟩ := getF X100 hx hZ hown (host := "") (Or.inl w_62) (Via.of w_63) e100 F1m_99_100 (g := (mkF m 67 #[.val (.ref a1), .val (.int (1 : Int32)), .val (.ref y1)] [(.ref a1), (.ref a1)])) rfl rfl (hb hby d19_67)
  refine Goes.of (st101) ?_
  show Goes p e below KK T101 (mkF m 70 #[.val (.ref a1), .val (.int (1 : Int32)), .val (.ref y1)] [(.int md), (.ref a1)])
  refine Goes.of (fun t => XS.iconst X101.here hx rfl (hb hby d19_70)) ?_
  show Goes p e below KK T101 (mkF m 71 #[.val (.ref a1), .val (.int (1 : Int32)), .val (.ref y1)] [(.int (1 : Int32)), (.int md), (.ref a1)])
  refine Goes.of (fun t => XS.iadd X101.here hx rfl (hb hby d19_71) rfl) ?_
  show Goes p e below KK T101 (mkF m 72 #[.val (.ref a1), .val (.int (1 : Int32)), .val (.ref y1)] [(.int (md + (1 : Int32))), (.ref a1)])
  obtain ⟨T102, h102, X102, e102, W102, st102⟩ := putF X101 hx hZ hown (host := "") (Or.inl w_62) (Via.of w_63) e101 F1m_99_100 E1_99_100 (Or.inl w_26) w_1 (ty := .int) (by decide) rfl rfl (g := (mkF m 72 #[.val (.ref a1), .val (.int (1 : Int32)), .val (.ref y1)] [(.int (md + (1 : Int32))), (.ref a1)])) rfl rfl (hb hby d19_72)
  refine Goes.of (st102) ?_
  have E1_99_100_102 : Exa Z h102 a1 "corbel/structures/ArrayStack" := E1_99_100.wr W102
  have F1e_99_100_102 : Fld Z h102 a1 "corbel/structures/ArrayStack" "elements" "[Ljava/lang/Object;" (.ref ar) := F1e_99_100.other W102 (Or.inr (slot_ne (Or.inl w_30) (Or.inl w_26) (by decide) (t := (.array (.object "java/lang/Object"))) (t' := .int) (by decide) (by decide)))
  have F_size_a1_99_100_102 : Fld Z h102 a1 "corbel/structures/ArrayStack" "size" "I" (.int (1 : Int32)) := F_size_a1_99_100.other W102 (Or.inr (slot_ne (Or.inl w_60) (Or.inl w_26) (by decide) (t := .int) (t' := .int) (by decide) (by decide)))
  have A_ar_100_102 : AR Z h102 ar [(.ref y0), .null] := A_ar_100.other W102 (Exa.ne A_ar_100.exa E1_99_100 (by decide))
  have Ey_y0_99_100_102 : Exa Z h102 y0 "java/lang/Integer" := Ey_y0_99_100.wr W102
  have Ey_y1_99_100_102 : Exa Z h102 y1 "java/lang/Integer" := Ey_y1_99_100.wr W102
  have K102 : Keep h0 h102 [a1, ar] := K100.wr W102 (Or.inl (List.mem_of_getElem? (i := 0) rfl))
  have Z102 : n0 ≤ h102.size := Nat.le_trans Z100 (Keep.of_wr W102).1
  have N102 := Fr.snoc X102 N100 g_a1
  have F_modCount_a1_102 : Fld Z h102 a1 "java/util/AbstractList" "modCount" "I" (.int (md + (1 : Int32))) := F1m_99_100.same W102
  show Goes p e below KK T102 (mkF m 75 #[.val (.ref a1), .val (.int (1 : Int32)), .val (.ref y1)] [])
  refine Goes.of (fun t => XS.aloadN X102.here hx rfl (hb hby d19_75) rfl rfl) ?_
  show Goes p e below KK T102 (mkF m 76 #[.val (.ref a1), .val (.int (1 : Int32)), .val (.ref y1)] [(.ref a1)])
  obtain ⟨cq103, q103, q103'⟩ := E1_99_100_102.cell
  obtain ⟨_, _, ⟨T103, L103, k103, n103⟩, -, X103, ⟨Lc103, hQ103, l103, y103, z103⟩, st103⟩ := X102.privateBack hx (y := (⟨"corbel/structures/ArrayStack", "shrinkIfSparse", "()V"⟩ : MethodName)) hown (mvT hZ w_125) (mvT hZ w_126) (own_selp hZ w_1 w_127 w_126 (by decide)) (Cond.privateMethod_at (mvP hZ w_127 (args := #[]))) (mvT hZ w_128) (by decide) (backOf (W := 0) (rm20s1 l Z a0 hw [] a1 ar [(.ref y0), .null] h102 n0 Z102 F1e_99_100_102 F_size_a1_99_100_102 A_ar_100_102 rfl) hZ w_128 w_2 (by decide) (by decide)) (g := (mkF m 76 #[.val (.ref a1), .val (.int (1 : Int32)), .val (.ref y1)] [(.ref a1)])) rfl (by rw [hml]; rfl) (Steps.refl _) (a := a1) (by rw [e102]; exact q103) q103' (argsL := []) (rest := []) (lenOf pd_2 rfl) rfl (by show 2 * 0 + _ ≤ _; exact Nat.le_of_eq rfl) (hb hby d19_76) (fun _ _ => ⟨rfl, e102, (by decide : 0 + 0 ≤ _), (by decide : 0 + 0 ≤ _)⟩)
  dsimp only [Pt.U, Pt.locs, Pt.cells, Pt.slots] at X103 l103 y103 z103 st103 hQ103
  subst l103 y103 z103
  obtain ⟨rfl, N103q, e103⟩ := hQ103
  have N103 := Fr.app N102 N103q
  refine Goes.tr st103 ?_
  show Goes p e below KK T103 (mkF m 79 #[.val (.ref a1), .val (.int (1 : Int32)), .val (.ref y1)] [])
  refine Goes.of (fun t => XS.aloadN X103.here hx rfl (hb hby d19_79) rfl rfl) ?_
  show Goes p e below KK T103 (mkF m 80 #[.val (.ref a1), .val (.int (1 : Int32)), .val (.ref y1)] [(.ref y1)])
  rw [← hKK]
  refine Goes.retRef X103 hx hlk rfl rfl Bd.returns (hb hby d19_80) ?_ (by decide) (by decide)
  rw [e103]
  exact ⟨rfl, N103, K102, E1_99_100_102, F1e_99_100_102, F_size_a1_99_100_102, F_modCount_a1_102, A_ar_100_102⟩
theorem ef_19s3 (m : MethodId) (x0 : Addr) (x1 : Int32) : entryFrame m #[(.ref x0), (.int x1)] 3 = mkF m 0 #[.val (.ref x0), .val (.int x1), .unset] [] := by first | (simp [entryFrame, mkF, argsToLocals, Value.category]; done) | rfl
def Q19s3 (Z : State) (a1 : Addr) (ar : Addr) (md : Int32) (y0 : Addr) (y1 : Addr) (y2 : Addr) (h0 : Heap) (n0 : Nat) (v : Option Value) (h : Heap) (L : List Loc) : Prop := v = some (.ref y2) ∧ Fr n0 L ∧ Keep h0 h [a1, ar] ∧ Exa Z h a1 "corbel/structures/ArrayStack" ∧ Fld Z h a1 "corbel/structures/ArrayStack" "elements" "[Ljava/lang/Object;" (.ref ar) ∧ Fld Z h a1 "corbel/structures/ArrayStack" "size" "I" (.int (2 : Int32)) ∧ Fld Z h a1 "java/util/AbstractList" "modCount" "I" (.int (md + 1)) ∧ AR Z h ar [(.ref y0), (.ref y1), .null, .null]
set_option maxRecDepth 65536 in
set_option maxHeartbeats 40000000 in
theorem rm19s3 (l : Launch) (Z : State) (a0 : Array Value) (hw : ∀ d ∈ tables_1, d.before a0 Z = true) (ws : List Jvm.Cond) (a1 : Addr) (ar : Addr) (md : Int32) (y0 : Addr) (y1 : Addr) (y2 : Addr) (h0 : Heap) (n0 : Nat) (Z0 : n0 ≤ h0.size) (E1 : Exa Z h0 a1 "corbel/structures/ArrayStack") (F1e : Fld Z h0 a1 "corbel/structures/ArrayStack" "elements" "[Ljava/lang/Object;" (.ref ar)) (F1s : Fld Z h0 a1 "corbel/structures/ArrayStack" "size" "I" (.int (3 : Int32))) (F1m : Fld Z h0 a1 "java/util/AbstractList" "modCount" "I" (.int md)) (A1 : AR Z h0 ar [(.ref y0), (.ref y1), (.ref y2), .null]) (Ey_y0 : Exa Z h0 y0 "java/lang/Integer") (Ey_y1 : Exa Z h0 y1 "java/lang/Integer") (Ey_y2 : Exa Z h0 y2 "java/lang/Integer") (g_a1 : n0 ≤ a1) (g_ar : n0 ≤ ar) :
    MetFree l (⟨"corbel/structures/ArrayStack", "remove", "(I)Ljava/lang/Object;"⟩ : MethodName) (head1 (Jvm.Cond.code (⟨"corbel/structures/ArrayStack", "remove", "(I)Ljava/lang/Object;"⟩ : MethodName) prog_1_method_11_code 3 (some (.object "java/lang/Object")) :: ws) ({ frames := 2, cells := 0, slots := 0, locals := 27 } : Room)) (fun a U => a = #[(.ref a1), (.int (2 : Int32))] ∧ Z.Warmed39 U.vm ∧ U.heap = h0) (fun _ _ _ _ _ => True) (fun _ U o U' => ∃ v L, o = .returned v ∧ Q19s3 Z a1 ar md y0 y1 y2 h0 n0 v U'.heap L ∧ FrameEnd U o U' L ({ frames := 2, cells := 0, slots := 0, locals := 27 } : Room).cells ({ frames := 2, cells := 0, slots := 0, locals := 27 } : Room).slots) := by
  refine MetFree.of_bodySF pn_19 hisR ?_
  intro p e s m args below meth c s₁ Bd hml0 hP hK
  obtain ⟨rfl, hZ, hh⟩ := hP
  have hx := Bd.exec
  have hby := Bd.bytes
  have hml : c.maxLocals = 3 := hml0
  have hown : s.vm.findClass "corbel/structures/ArrayStack" = some m.cls := findClass_of_methodNamed Bd.named
  have hnm := (name_of_methodNamed Bd.named Bd.method).1
  have hlk : meth.locks = false := BodyLoose.notSynchronized Bd
  have X0 : Stand p l e ({ frames := 2, cells := 0, slots := 0, locals := 27 } : Room) s m #[(.ref a1), (.int (2 : Int32))] below meth c s₁ [] 0 0 := Stand.of_body Bd
  have e0 : s₁.heap = h0 := by rw [← hh, Bd.state]; rfl
  have N0 := Fr.nil n0
  show Goes p e below (OwnK s (Q19s3 Z a1 ar md y0 y1 y2 h0 n0) ({ frames := 2, cells := 0, slots := 0, locals := 27 } : Room).cells ({ frames := 2, cells := 0, slots := 0, locals := 27 } : Room).slots) s₁ (entryFrame m #[(.ref a1), (.int (2 : Int32))] 3)
  refine Goes.cast (ef_19s3 m a1 (2 : Int32)) ?_
  generalize hKK : OwnK s (Q19s3 Z a1 ar md y0 y1 y2 h0 n0) ({ frames := 2, cells := 0, slots := 0, locals := 27 } : Room).cells ({ frames := 2, cells := 0, slots := 0, locals := 27 } : Room).slots = KK
  show Goes p e below KK s₁ (mkF m 0 #[.val (.ref a1), .val (.int (2 : Int32)), .unset] [])
  have w_1 := hw _ (List.mem_of_getElem? (i := 1) rfl)
  have w_2 := hw _ (List.mem_of_getElem? (i := 2) rfl)
  have w_26 := hw _ (List.mem_of_getElem? (i := 26) rfl)
  have w_29 := hw _ (List.mem_of_getElem? (i := 29) rfl)
  have w_30 := hw _ (List.mem_of_getElem? (i := 30) rfl)
  have w_53 := hw _ (List.mem_of_getElem? (i := 53) rfl)
  have w_59 := hw _ (List.mem_of_getElem? (i := 59) rfl)
  have w_60 := hw _ (List.mem_of_getElem? (i := 60) rfl)
  have w_62 := hw _ (List.mem_of_getElem? (i := 62) rfl)
  have w_63 := hw _ (List.mem_of_getElem? (i := 63) rfl)
  have w_70 := hw _ (List.mem_of_getElem? (i := 70) rfl)
  have w_71 := hw _ (List.mem_of_getElem? (i := 71) rfl)
  have w_72 := hw _ (List.mem_of_getElem? (i := 72) rfl)
  have w_77 := hw _ (List.mem_of_getElem? (i := 77) rfl)
  have w_78 := hw _ (List.mem_of_getElem? (i := 78) rfl)
  have w_79 := hw _ (List.mem_of_getElem? (i := 79) rfl)
  have w_80 := hw _ (List.mem_of_getElem? (i := 80) rfl)
  have w_125 := hw _ (List.mem_of_getElem? (i := 125) rfl)
  have w_126 := hw _ (List.mem_of_getElem? (i := 126) rfl)
  have w_127 := hw _ (List.mem_of_getElem? (i := 127) rfl)
  have w_128 := hw _ (List.mem_of_getElem? (i := 128) rfl)
  refine Goes.of (fun t => XS.iloadN X0.here hx rfl (hb hby d19_0) rfl) ?_
  show Goes p e below KK s₁ (mkF m 1 #[.val (.ref a1), .val (.int (2 : Int32)), .unset] [(.int (2 : Int32))])
  refine Goes.of (fun t => XS.aloadN X0.here hx rfl (hb hby d19_1) rfl rfl) ?_
  show Goes p e below KK s₁ (mkF m 2 #[.val (.ref a1), .val (.int (2 : Int32)), .unset] [(.ref a1), (.int (2 : Int32))])
  obtain ⟨T104, X104, e104, st104⟩ := getF X0 hx hZ hown (host := "") (Or.inl w_59) Via.refl e0 F1s (g := (mkF m 2 #[.val (.ref a1), .val (.int (2 : Int32)), .unset] [(.ref a1), (.int (2 : Int32))])) rfl rfl (hb hby d19_2)
  refine Goes.of (st104) ?_
  show Goes p e below KK T104 (mkF m 5 #[.val (.ref a1), .val (.int (2 : Int32)), .unset] [(.int (3 : Int32)), (.int (2 : Int32))])
  have hp1 : ¬ (2 : Int32) < 0 := by decide
  have hp2 : (2 : Int32) < 3 := by decide
  obtain ⟨_, _, ⟨T105, L105, k105, n105⟩, -, X105, ⟨Lc105, hQ105, l105, y105, z105⟩, st105⟩ := Jvm.LawKit.callS X104 hx (y := (⟨"java/util/Objects", "checkIndex", "(II)I"⟩ : MethodName)) hown (mvT hZ w_70) (mvT hZ w_71) (mvT hZ w_53) (mvT hZ w_72) (by decide) (backOf (W := 0) (rm11 l Z a0 hw [] (2 : Int32) (3 : Int32)  h0 n0 Z0 hp1 hp2) hZ w_72 w_53 (by decide) (by decide)) (g := (mkF m 5 #[.val (.ref a1), .val (.int (2 : Int32)), .unset] [(.int (3 : Int32)), (.int (2 : Int32))])) rfl (by rw [hml]; rfl) (argsL := [(.int (2 : Int32)), (.int (3 : Int32))]) (rest := []) (lenOf pd_15 rfl) rfl (by show 2 * 0 + _ ≤ _; exact Nat.le_of_eq rfl) (hb hby d19_5) (fun _ _ => ⟨rfl, e104, (by decide : 0 + 0 ≤ _), (by decide : 0 + 0 ≤ _)⟩)
  dsimp only [Pt.U, Pt.locs, Pt.cells, Pt.slots] at X105 l105 y105 z105 st105 hQ105
  subst l105 y105 z105
  obtain ⟨rfl, N105q, e105⟩ := hQ105
  have N105 := Fr.app N0 N105q
  refine Goes.of st105 ?_
  show Goes p e below KK T105 (mkF m 8 #[.val (.ref a1), .val (.int (2 : Int32)), .unset] [(.int (2 : Int32))])
  refine Goes.of (fun t => XT.pop X105.here hx rfl (hb hby d19_8) rfl rfl) ?_
  show Goes p e below KK T105 (mkF m 9 #[.val (.ref a1), .val (.int (2 : Int32)), .unset] [])
  refine Goes.of (fun t => XS.aloadN X105.here hx rfl (hb hby d19_9) rfl rfl) ?_
  show Goes p e below KK T105 (mkF m 10 #[.val (.ref a1), .val (.int (2 : Int32)), .unset] [(.ref a1)])
  refine Goes.of (fun t => XS.iloadN X105.here hx rfl (hb hby d19_10) rfl) ?_
  show Goes p e below KK T105 (mkF m 11 #[.val (.ref a1), .val (.int (2 : Int32)), .unset] [(.int (2 : Int32)), (.ref a1)])
  obtain ⟨cq106, q106, q106'⟩ := E1.cell
  obtain ⟨_, _, ⟨T106, L106, k106, n106⟩, -, X106, ⟨Lc106, hQ106, l106, y106, z106⟩, st106⟩ := X105.privateBack hx (y := (⟨"corbel/structures/ArrayStack", "elementAt", "(I)Ljava/lang/Object;"⟩ : MethodName)) hown (mvT hZ w_77) (mvT hZ w_78) (own_selp hZ w_1 w_79 w_78 (by decide)) (Cond.privateMethod_at (mvP hZ w_79 (args := #[]))) (mvT hZ w_80) (by decide) (backOf (W := 0) (rm13 l Z a0 hw [] a1 (2 : Int32) ar [(.ref y0), (.ref y1), (.ref y2), .null] 2 y2 h0 n0 Z0 F1e A1 (rfl) (rfl)) hZ w_80 w_2 (by decide) (by decide)) (g := (mkF m 11 #[.val (.ref a1), .val (.int (2 : Int32)), .unset] [(.int (2 : Int32)), (.ref a1)])) rfl (by rw [hml]; rfl) (Steps.refl _) (a := a1) (by rw [e105]; exact q106) q106' (argsL := [(.int (2 : Int32))]) (rest := []) (lenOf pd_16 rfl) rfl (by show 2 * 0 + _ ≤ _; exact Nat.le_of_eq rfl) (hb hby d19_11) (fun _ _ => ⟨rfl, e105, (by decide : 0 + 0 ≤ _), (by decide : 0 + 0 ≤ _)⟩)
  dsimp only [Pt.U, Pt.locs, Pt.cells, Pt.slots] at X106 l106 y106 z106 st106 hQ106
  subst l106 y106 z106
  obtain ⟨rfl, N106q, e106⟩ := hQ106
  have N106 := Fr.app N105 N106q
  refine Goes.tr st106 ?_
  show Goes p e below KK T106 (mkF m 14 #[.val (.ref a1), .val (.int (2 : Int32)), .unset] [(.ref y2)])
  refine Goes.of (fun t => XS.astoreN X106.here hx rfl (hb hby d19_14) rfl rfl (l' := #[.val (.ref a1), .val (.int (2 : Int32)), .val (.ref y2)]) rfl) ?_
  show Goes p e below KK T106 (mkF m 15 #[.val (.ref a1), .val (.int (2 : Int32)), .val (.ref y2)] [])
  refine Goes.of (fun t => XS.iloadN X106.here hx rfl (hb hby d19_15) rfl) ?_
  show Goes p e below KK T106 (mkF m 16 #[.val (.ref a1), .val (.int (2 : Int32)), .val (.ref y2)] [(.int (2 : Int32))])
  refine Goes.of (fun t => XS.aloadN X106.here hx rfl (hb hby d19_16) rfl rfl) ?_
  show Goes p e below KK T106 (mkF m 17 #[.val (.ref a1), .val (.int (2 : Int32)), .val (.ref y2)] [(.ref a1), (.int (2 : Int32))])
  obtain ⟨T107, X107, e107, st107⟩ := getF X106 hx hZ hown (host := "") (Or.inl w_59) Via.refl e106 F1s (g := (mkF m 17 #[.val (.ref a1), .val (.int (2 : Int32)), .val (.ref y2)] [(.ref a1), (.int (2 : Int32))])) rfl rfl (hb hby d19_17)
  refine Goes.of (st107) ?_
  show Goes p e below KK T107 (mkF m 20 #[.val (.ref a1), .val (.int (2 : Int32)), .val (.ref y2)] [(.int (3 : Int32)), (.int (2 : Int32))])
  refine Goes.of (fun t => XS.iconst X107.here hx rfl (hb hby d19_20)) ?_
  show Goes p e below KK T107 (mkF m 21 #[.val (.ref a1), .val (.int (2 : Int32)), .val (.ref y2)] [(.int (1 : Int32)), (.int (3 : Int32)), (.int (2 : Int32))])
  refine Goes.of (fun t => XS.isub X107.here hx rfl (hb hby d19_21) rfl) ?_
  show Goes p e below KK T107 (mkF m 22 #[.val (.ref a1), .val (.int (2 : Int32)), .val (.ref y2)] [(.int (2 : Int32)), (.int (2 : Int32))])
  refine Goes.of (fun t => XS.icmpYes X107.here hx rfl (pc0 := 22) (pc' := 48) rfl (hb hby d19_22) rfl (flt (show ¬ ((2 : Int32) < (2 : Int32)) from by decide)).2.1 (by decide) (by decide)) ?_
  show Goes p e below KK T107 (mkF m 48 #[.val (.ref a1), .val (.int (2 : Int32)), .val (.ref y2)] [])
  refine Goes.of (fun t => XS.aloadN X107.here hx rfl (hb hby d19_48) rfl rfl) ?_
  show Goes p e below KK T107 (mkF m 49 #[.val (.ref a1), .val (.int (2 : Int32)), .val (.ref y2)] [(.ref a1)])
  obtain ⟨T108, X108, e108, st108⟩ := getF X107 hx hZ hown (host := "") (Or.inl w_29) Via.refl e107 F1e (g := (mkF m 49 #[.val (.ref a1), .val (.int (2 : Int32)), .val (.ref y2)] [(.ref a1)])) rfl rfl (hb hby d19_49)
  refine Goes.of (st108) ?_
  show Goes p e below KK T108 (mkF m 52 #[.val (.ref a1), .val (.int (2 : Int32)), .val (.ref y2)] [(.ref ar)])
  refine Goes.of (fun t => XS.aloadN X108.here hx rfl (hb hby d19_52) rfl rfl) ?_
  show Goes p e below KK T108 (mkF m 53 #[.val (.ref a1), .val (.int (2 : Int32)), .val (.ref y2)] [(.ref a1), (.ref ar)])
  refine Goes.of (fun t => XS.dup X108.here hx rfl (hb hby d19_53) rfl rfl) ?_
  show Goes p e below KK T108 (mkF m 54 #[.val (.ref a1), .val (.int (2 : Int32)), .val (.ref y2)] [(.ref a1), (.ref a1), (.ref ar)])
  obtain ⟨T109, X109, e109, st109⟩ := getF X108 hx hZ hown (host := "") (Or.inl w_59) Via.refl e108 F1s (g := (mkF m 54 #[.val (.ref a1), .val (.int (2 : Int32)), .val (.ref y2)] [(.ref a1), (.ref a1), (.ref ar)])) rfl rfl (hb hby d19_54)
  refine Goes.of (st109) ?_
  show Goes p e below KK T109 (mkF m 57 #[.val (.ref a1), .val (.int (2 : Int32)), .val (.ref y2)] [(.int (3 : Int32)), (.ref a1), (.ref ar)])
  refine Goes.of (fun t => XS.iconst X109.here hx rfl (hb hby d19_57)) ?_
  show Goes p e below KK T109 (mkF m 58 #[.val (.ref a1), .val (.int (2 : Int32)), .val (.ref y2)] [(.int (1 : Int32)), (.int (3 : Int32)), (.ref a1), (.ref ar)])
  refine Goes.of (fun t => XS.isub X109.here hx rfl (hb hby d19_58) rfl) ?_
  show Goes p e below KK T109 (mkF m 59 #[.val (.ref a1), .val (.int (2 : Int32)), .val (.ref y2)] [(.int (2 : Int32)), (.ref a1), (.ref ar)])
  refine Goes.of (fun t => XT.dupX1 X109.here hx rfl (hb hby d19_59) rfl rfl rfl) ?_
  show Goes p e below KK T109 (mkF m 60 #[.val (.ref a1), .val (.int (2 : Int32)), .val (.ref y2)] [(.int (2 : Int32)), (.ref a1), (.int (2 : Int32)), (.ref ar)])
  obtain ⟨T110, h110, X110, e110, W110, st110⟩ := putF X109 hx hZ hown (host := "") (Or.inl w_59) Via.refl e109 F1s E1 (Or.inl w_60) w_1 (ty := .int) (by decide) rfl rfl (g := (mkF m 60 #[.val (.ref a1), .val (.int (2 : Int32)), .val (.ref y2)] [(.int (2 : Int32)), (.ref a1), (.int (2 : Int32)), (.ref ar)])) rfl rfl (hb hby d19_60)
  refine Goes.of (st110) ?_
  have E1_110 : Exa Z h110 a1 "corbel/structures/ArrayStack" := E1.wr W110
  have F1e_110 : Fld Z h110 a1 "corbel/structures/ArrayStack" "elements" "[Ljava/lang/Object;" (.ref ar) := F1e.other W110 (Or.inr (slot_ne (Or.inl w_30) (Or.inl w_60) (by decide) (t := (.array (.object "java/lang/Object"))) (t' := .int) (by decide) (by decide)))
  have F1m_110 : Fld Z h110 a1 "java/util/AbstractList" "modCount" "I" (.int md) := F1m.other W110 (Or.inr (slot_ne (Or.inl w_26) (Or.inl w_60) (by decide) (t := .int) (t' := .int) (by decide) (by decide)))
  have A1_110 : AR Z h110 ar [(.ref y0), (.ref y1), (.ref y2), .null] := A1.other W110 (Exa.ne A1.exa E1 (by decide))
  have Ey_y0_110 : Exa Z h110 y0 "java/lang/Integer" := Ey_y0.wr W110
  have Ey_y1_110 : Exa Z h110 y1 "java/lang/Integer" := Ey_y1.wr W110
  have Ey_y2_110 : Exa Z h110 y2 "java/lang/Integer" := Ey_y2.wr W110
  have K110 : Keep h0 h110 [a1, ar] := (Keep.refl h0 [a1, ar]).wr W110 (Or.inl (List.mem_of_getElem? (i := 0) rfl))
  have Z110 : n0 ≤ h110.size := Nat.le_trans Z0 (Keep.of_wr W110).1
  have N110 := Fr.snoc X110 N106 g_a1
  have F_size_a1_110 : Fld Z h110 a1 "corbel/structures/ArrayStack" "size" "I" (.int (2 : Int32)) := F1s.same W110
  show Goes p e below KK T110 (mkF m 63 #[.val (.ref a1), .val (.int (2 : Int32)), .val (.ref y2)] [(.int (2 : Int32)), (.ref ar)])
  refine Goes.of (fun t => XS.aconstNull X110.here hx rfl (hb hby d19_63)) ?_
  show Goes p e below KK T110 (mkF m 64 #[.val (.ref a1), .val (.int (2 : Int32)), .val (.ref y2)] [.null, (.int (2 : Int32)), (.ref ar)])
  obtain ⟨T111, h111, X111, e111, W111, A111, st111⟩ := AR.aastore X110 hx hZ e110 A1_110 (Or.inl rfl) (i := 2) (j := (2 : Int32)) (rfl) (by simp) (g := (mkF m 64 #[.val (.ref a1), .val (.int (2 : Int32)), .val (.ref y2)] [.null, (.int (2 : Int32)), (.ref ar)])) rfl rfl (hb hby d19_64)
  refine Goes.of (st111) ?_
  have E1_110_111 : Exa Z h111 a1 "corbel/structures/ArrayStack" := E1_110.wr W111
  have F1e_110_111 : Fld Z h111 a1 "corbel/structures/ArrayStack" "elements" "[Ljava/lang/Object;" (.ref ar) := F1e_110.other W111 (Or.inl (Exa.ne E1_110 A1_110.exa (by decide)))
  have F_size_a1_110_111 : Fld Z h111 a1 "corbel/structures/ArrayStack" "size" "I" (.int (2 : Int32)) := F_size_a1_110.other W111 (Or.inl (Exa.ne E1_110 A1_110.exa (by decide)))
  have F1m_110_111 : Fld Z h111 a1 "java/util/AbstractList" "modCount" "I" (.int md) := F1m_110.other W111 (Or.inl (Exa.ne E1_110 A1_110.exa (by decide)))
  have Ey_y0_110_111 : Exa Z h111 y0 "java/lang/Integer" := Ey_y0_110.wr W111
  have Ey_y1_110_111 : Exa Z h111 y1 "java/lang/Integer" := Ey_y1_110.wr W111
  have Ey_y2_110_111 : Exa Z h111 y2 "java/lang/Integer" := Ey_y2_110.wr W111
  have K111 : Keep h0 h111 [a1, ar] := K110.wr W111 (Or.inl (List.mem_of_getElem? (i := 1) rfl))
  have Z111 : n0 ≤ h111.size := Nat.le_trans Z110 (Keep.of_wr W111).1
  have N111 := Fr.snoc X111 N110 g_ar
  have A_ar_111 : AR Z h111 ar [(.ref y0), (.ref y1), .null, .null] := A111
  show Goes p e below KK T111 (mkF m 65 #[.val (.ref a1), .val (.int (2 : Int32)), .val (.ref y2)] [])
  refine Goes.of (fun t => XS.aloadN X111.here hx rfl (hb hby d19_65) rfl rfl) ?_
  show Goes p e below KK T111 (mkF m 66 #[.val (.ref a1), .val (.int (2 : Int32)), .val (.ref y2)] [(.ref a1)])
  refine Goes.of (fun t => XS.dup X111.here hx rfl (hb hby d19_66) rfl rfl) ?_
  show Goes p e below KK T111 (mkF m 67 #[.val (.ref a1), .val (.int (2 : Int32)), .val (.ref y2)] [(.ref a1), (.ref a1)])
  obtain ⟨T112, X112, e112, st112⟩ := getF X111 hx hZ hown (host := "") (Or.inl w_62) (Via.of w_63) e111 F1m_110_111 (g := (mkF m 67 #[.val (.ref a1), .val (.int (2 : Int32)), .val (.ref y2)] [(.ref a1), (.ref a1)])) rfl rfl (hb hby d19_67)
  refine Goes.of (st112) ?_
  show Goes p e below KK T112 (mkF m 70 #[.val (.ref a1), .val (.int (2 : Int32)), .val (.ref y2)] [(.int md), (.ref a1)])
  refine Goes.of (fun t => XS.iconst X112.here hx rfl (hb hby d19_70)) ?_
  show Goes p e below KK T112 (mkF m 71 #[.val (.ref a1), .val (.int (2 : Int32)), .val (.ref y2)] [(.int (1 : Int32)), (.int md), (.ref a1)])
  refine Goes.of (fun t => XS.iadd X112.here hx rfl (hb hby d19_71) rfl) ?_
  show Goes p e below KK T112 (mkF m 72 #[.val (.ref a1), .val (.int (2 : Int32)), .val (.ref y2)] [(.int (md + (1 : Int32))), (.ref a1)])
  obtain ⟨T113, h113, X113, e113, W113, st113⟩ := putF X112 hx hZ hown (host := "") (Or.inl w_62) (Via.of w_63) e112 F1m_110_111 E1_110_111 (Or.inl w_26) w_1 (ty := .int) (by decide) rfl rfl (g := (mkF m 72 #[.val (.ref a1), .val (.int (2 : Int32)), .val (.ref y2)] [(.int (md + (1 : Int32))), (.ref a1)])) rfl rfl (hb hby d19_72)
  refine Goes.of (st113) ?_
  have E1_110_111_113 : Exa Z h113 a1 "corbel/structures/ArrayStack" := E1_110_111.wr W113
  have F1e_110_111_113 : Fld Z h113 a1 "corbel/structures/ArrayStack" "elements" "[Ljava/lang/Object;" (.ref ar) := F1e_110_111.other W113 (Or.inr (slot_ne (Or.inl w_30) (Or.inl w_26) (by decide) (t := (.array (.object "java/lang/Object"))) (t' := .int) (by decide) (by decide)))
  have F_size_a1_110_111_113 : Fld Z h113 a1 "corbel/structures/ArrayStack" "size" "I" (.int (2 : Int32)) := F_size_a1_110_111.other W113 (Or.inr (slot_ne (Or.inl w_60) (Or.inl w_26) (by decide) (t := .int) (t' := .int) (by decide) (by decide)))
  have A_ar_111_113 : AR Z h113 ar [(.ref y0), (.ref y1), .null, .null] := A_ar_111.other W113 (Exa.ne A_ar_111.exa E1_110_111 (by decide))
  have Ey_y0_110_111_113 : Exa Z h113 y0 "java/lang/Integer" := Ey_y0_110_111.wr W113
  have Ey_y1_110_111_113 : Exa Z h113 y1 "java/lang/Integer" := Ey_y1_110_111.wr W113
  have Ey_y2_110_111_113 : Exa Z h113 y2 "java/lang/Integer" := Ey_y2_110_111.wr W113
  have K113 : Keep h0 h113 [a1, ar] := K111.wr W113 (Or.inl (List.mem_of_getElem? (i := 0) rfl))
  have Z113 : n0 ≤ h113.size := Nat.le_trans Z111 (Keep.of_wr W113).1
  have N113 := Fr.snoc X113 N111 g_a1
  have F_modCount_a1_113 : Fld Z h113 a1 "java/util/AbstractList" "modCount" "I" (.int (md + (1 : Int32))) := F1m_110_111.same W113
  show Goes p e below KK T113 (mkF m 75 #[.val (.ref a1), .val (.int (2 : Int32)), .val (.ref y2)] [])
  refine Goes.of (fun t => XS.aloadN X113.here hx rfl (hb hby d19_75) rfl rfl) ?_
  show Goes p e below KK T113 (mkF m 76 #[.val (.ref a1), .val (.int (2 : Int32)), .val (.ref y2)] [(.ref a1)])
  obtain ⟨cq114, q114, q114'⟩ := E1_110_111_113.cell
  obtain ⟨_, _, ⟨T114, L114, k114, n114⟩, -, X114, ⟨Lc114, hQ114, l114, y114, z114⟩, st114⟩ := X113.privateBack hx (y := (⟨"corbel/structures/ArrayStack", "shrinkIfSparse", "()V"⟩ : MethodName)) hown (mvT hZ w_125) (mvT hZ w_126) (own_selp hZ w_1 w_127 w_126 (by decide)) (Cond.privateMethod_at (mvP hZ w_127 (args := #[]))) (mvT hZ w_128) (by decide) (backOf (W := 0) (rm20s2 l Z a0 hw [] a1 ar [(.ref y0), (.ref y1), .null, .null] h113 n0 Z113 F1e_110_111_113 F_size_a1_110_111_113 A_ar_111_113 rfl) hZ w_128 w_2 (by decide) (by decide)) (g := (mkF m 76 #[.val (.ref a1), .val (.int (2 : Int32)), .val (.ref y2)] [(.ref a1)])) rfl (by rw [hml]; rfl) (Steps.refl _) (a := a1) (by rw [e113]; exact q114) q114' (argsL := []) (rest := []) (lenOf pd_2 rfl) rfl (by show 2 * 0 + _ ≤ _; exact Nat.le_of_eq rfl) (hb hby d19_76) (fun _ _ => ⟨rfl, e113, (by decide : 0 + 0 ≤ _), (by decide : 0 + 0 ≤ _)⟩)
  dsimp only [Pt.U, Pt.locs, Pt.cells, Pt.slots] at X114 l114 y114 z114 st114 hQ114
  subst l114 y114 z114
  obtain ⟨rfl, N114q, e114⟩ := hQ114
  have N114 := Fr.app N113 N114q
  refine Goes.tr st114 ?_
  show Goes p e below KK T114 (mkF m 79 #[.val (.ref a1), .val (.int (2 : Int32)), .val (.ref y2)] [])
  refine Goes.of (fun t => XS.aloadN X114.here hx rfl (hb hby d19_79) rfl rfl) ?_
  show Goes p e below KK T114 (mkF m 80 #[.val (.ref a1), .val (.int (2 : Int32)), .val (.ref y2)] [(.ref y2)])
  rw [← hKK]
  refine Goes.retRef X114 hx hlk rfl rfl Bd.returns (hb hby d19_80) ?_ (by decide) (by decide)
  rw [e114]
  exact ⟨rfl, N114, K113, E1_110_111_113, F1e_110_111_113, F_size_a1_110_111_113, F_modCount_a1_113, A_ar_111_113⟩
theorem ef_19s4 (m : MethodId) (x0 : Addr) (x1 : Int32) : entryFrame m #[(.ref x0), (.int x1)] 3 = mkF m 0 #[.val (.ref x0), .val (.int x1), .unset] [] := by first | (simp [entryFrame, mkF, argsToLocals, Value.category]; done) | rfl
def Q19s4 (Z : State) (a1 : Addr) (ar : Addr) (md : Int32) (y0 : Addr) (y1 : Addr) (y2 : Addr) (y3 : Addr) (h0 : Heap) (n0 : Nat) (v : Option Value) (h : Heap) (L : List Loc) : Prop := v = some (.ref y3) ∧ Fr n0 L ∧ Keep h0 h [a1, ar] ∧ Exa Z h a1 "corbel/structures/ArrayStack" ∧ Fld Z h a1 "corbel/structures/ArrayStack" "elements" "[Ljava/lang/Object;" (.ref ar) ∧ Fld Z h a1 "corbel/structures/ArrayStack" "size" "I" (.int (3 : Int32)) ∧ Fld Z h a1 "java/util/AbstractList" "modCount" "I" (.int (md + 1)) ∧ AR Z h ar [(.ref y0), (.ref y1), (.ref y2), .null]
set_option maxRecDepth 65536 in
set_option maxHeartbeats 40000000 in
theorem rm19s4 (l : Launch) (Z : State) (a0 : Array Value) (hw : ∀ d ∈ tables_1, d.before a0 Z = true) (ws : List Jvm.Cond) (a1 : Addr) (ar : Addr) (md : Int32) (y0 : Addr) (y1 : Addr) (y2 : Addr) (y3 : Addr) (h0 : Heap) (n0 : Nat) (Z0 : n0 ≤ h0.size) (E1 : Exa Z h0 a1 "corbel/structures/ArrayStack") (F1e : Fld Z h0 a1 "corbel/structures/ArrayStack" "elements" "[Ljava/lang/Object;" (.ref ar)) (F1s : Fld Z h0 a1 "corbel/structures/ArrayStack" "size" "I" (.int (4 : Int32))) (F1m : Fld Z h0 a1 "java/util/AbstractList" "modCount" "I" (.int md)) (A1 : AR Z h0 ar [(.ref y0), (.ref y1), (.ref y2), (.ref y3)]) (Ey_y0 : Exa Z h0 y0 "java/lang/Integer") (Ey_y1 : Exa Z h0 y1 "java/lang/Integer") (Ey_y2 : Exa Z h0 y2 "java/lang/Integer") (Ey_y3 : Exa Z h0 y3 "java/lang/Integer") (g_a1 : n0 ≤ a1) (g_ar : n0 ≤ ar) :
    MetFree l (⟨"corbel/structures/ArrayStack", "remove", "(I)Ljava/lang/Object;"⟩ : MethodName) (head1 (Jvm.Cond.code (⟨"corbel/structures/ArrayStack", "remove", "(I)Ljava/lang/Object;"⟩ : MethodName) prog_1_method_11_code 3 (some (.object "java/lang/Object")) :: ws) ({ frames := 2, cells := 0, slots := 0, locals := 27 } : Room)) (fun a U => a = #[(.ref a1), (.int (3 : Int32))] ∧ Z.Warmed39 U.vm ∧ U.heap = h0) (fun _ _ _ _ _ => True) (fun _ U o U' => ∃ v L, o = .returned v ∧ Q19s4 Z a1 ar md y0 y1 y2 y3 h0 n0 v U'.heap L ∧ FrameEnd U o U' L ({ frames := 2, cells := 0, slots := 0, locals := 27 } : Room).cells ({ frames := 2, cells := 0, slots := 0, locals := 27 } : Room).slots) := by
  refine MetFree.of_bodySF pn_19 hisR ?_
  intro p e s m args below meth c s₁ Bd hml0 hP hK
  obtain ⟨rfl, hZ, hh⟩ := hP
  have hx := Bd.exec
  have hby := Bd.bytes
  have hml : c.maxLocals = 3 := hml0
  have hown : s.vm.findClass "corbel/structures/ArrayStack" = some m.cls := findClass_of_methodNamed Bd.named
  have hnm := (name_of_methodNamed Bd.named Bd.method).1
  have hlk : meth.locks = false := BodyLoose.notSynchronized Bd
  have X0 : Stand p l e ({ frames := 2, cells := 0, slots := 0, locals := 27 } : Room) s m #[(.ref a1), (.int (3 : Int32))] below meth c s₁ [] 0 0 := Stand.of_body Bd
  have e0 : s₁.heap = h0 := by rw [← hh, Bd.state]; rfl
  have N0 := Fr.nil n0
  show Goes p e below (OwnK s (Q19s4 Z a1 ar md y0 y1 y2 y3 h0 n0) ({ frames := 2, cells := 0, slots := 0, locals := 27 } : Room).cells ({ frames := 2, cells := 0, slots := 0, locals := 27 } : Room).slots) s₁ (entryFrame m #[(.ref a1), (.int (3 : Int32))] 3)
  refine Goes.cast (ef_19s4 m a1 (3 : Int32)) ?_
  generalize hKK : OwnK s (Q19s4 Z a1 ar md y0 y1 y2 y3 h0 n0) ({ frames := 2, cells := 0, slots := 0, locals := 27 } : Room).cells ({ frames := 2, cells := 0, slots := 0, locals := 27 } : Room).slots = KK
  show Goes p e below KK s₁ (mkF m 0 #[.val (.ref a1), .val (.int (3 : Int32)), .unset] [])
  have w_1 := hw _ (List.mem_of_getElem? (i := 1) rfl)
  have w_2 := hw _ (List.mem_of_getElem? (i := 2) rfl)
  have w_26 := hw _ (List.mem_of_getElem? (i := 26) rfl)
  have w_29 := hw _ (List.mem_of_getElem? (i := 29) rfl)
  have w_30 := hw _ (List.mem_of_getElem? (i := 30) rfl)
  have w_53 := hw _ (List.mem_of_getElem? (i := 53) rfl)
  have w_59 := hw _ (List.mem_of_getElem? (i := 59) rfl)
  have w_60 := hw _ (List.mem_of_getElem? (i := 60) rfl)
  have w_62 := hw _ (List.mem_of_getElem? (i := 62) rfl)
  have w_63 := hw _ (List.mem_of_getElem? (i := 63) rfl)
  have w_70 := hw _ (List.mem_of_getElem? (i := 70) rfl)
  have w_71 := hw _ (List.mem_of_getElem? (i := 71) rfl)
  have w_72 := hw _ (List.mem_of_getElem? (i := 72) rfl)
  have w_77 := hw _ (List.mem_of_getElem? (i := 77) rfl)
  have w_78 := hw _ (List.mem_of_getElem? (i := 78) rfl)
  have w_79 := hw _ (List.mem_of_getElem? (i := 79) rfl)
  have w_80 := hw _ (List.mem_of_getElem? (i := 80) rfl)
  have w_125 := hw _ (List.mem_of_getElem? (i := 125) rfl)
  have w_126 := hw _ (List.mem_of_getElem? (i := 126) rfl)
  have w_127 := hw _ (List.mem_of_getElem? (i := 127) rfl)
  have w_128 := hw _ (List.mem_of_getElem? (i := 128) rfl)
  refine Goes.of (fun t => XS.iloadN X0.here hx rfl (hb hby d19_0) rfl) ?_
  show Goes p e below KK s₁ (mkF m 1 #[.val (.ref a1), .val (.int (3 : Int32)), .unset] [(.int (3 : Int32))])
  refine Goes.of (fun t => XS.aloadN X0.here hx rfl (hb hby d19_1) rfl rfl) ?_
  show Goes p e below KK s₁ (mkF m 2 #[.val (.ref a1), .val (.int (3 : Int32)), .unset] [(.ref a1), (.int (3 : Int32))])
  obtain ⟨T115, X115, e115, st115⟩ := getF X0 hx hZ hown (host := "") (Or.inl w_59) Via.refl e0 F1s (g := (mkF m 2 #[.val (.ref a1), .val (.int (3 : Int32)), .unset] [(.ref a1), (.int (3 : Int32))])) rfl rfl (hb hby d19_2)
  refine Goes.of (st115) ?_
  show Goes p e below KK T115 (mkF m 5 #[.val (.ref a1), .val (.int (3 : Int32)), .unset] [(.int (4 : Int32)), (.int (3 : Int32))])
  have hp1 : ¬ (3 : Int32) < 0 := by decide
  have hp2 : (3 : Int32) < 4 := by decide
  obtain ⟨_, _, ⟨T116, L116, k116, n116⟩, -, X116, ⟨Lc116, hQ116, l116, y116, z116⟩, st116⟩ := Jvm.LawKit.callS X115 hx (y := (⟨"java/util/Objects", "checkIndex", "(II)I"⟩ : MethodName)) hown (mvT hZ w_70) (mvT hZ w_71) (mvT hZ w_53) (mvT hZ w_72) (by decide) (backOf (W := 0) (rm11 l Z a0 hw [] (3 : Int32) (4 : Int32)  h0 n0 Z0 hp1 hp2) hZ w_72 w_53 (by decide) (by decide)) (g := (mkF m 5 #[.val (.ref a1), .val (.int (3 : Int32)), .unset] [(.int (4 : Int32)), (.int (3 : Int32))])) rfl (by rw [hml]; rfl) (argsL := [(.int (3 : Int32)), (.int (4 : Int32))]) (rest := []) (lenOf pd_15 rfl) rfl (by show 2 * 0 + _ ≤ _; exact Nat.le_of_eq rfl) (hb hby d19_5) (fun _ _ => ⟨rfl, e115, (by decide : 0 + 0 ≤ _), (by decide : 0 + 0 ≤ _)⟩)
  dsimp only [Pt.U, Pt.locs, Pt.cells, Pt.slots] at X116 l116 y116 z116 st116 hQ116
  subst l116 y116 z116
  obtain ⟨rfl, N116q, e116⟩ := hQ116
  have N116 := Fr.app N0 N116q
  refine Goes.of st116 ?_
  show Goes p e below KK T116 (mkF m 8 #[.val (.ref a1), .val (.int (3 : Int32)), .unset] [(.int (3 : Int32))])
  refine Goes.of (fun t => XT.pop X116.here hx rfl (hb hby d19_8) rfl rfl) ?_
  show Goes p e below KK T116 (mkF m 9 #[.val (.ref a1), .val (.int (3 : Int32)), .unset] [])
  refine Goes.of (fun t => XS.aloadN X116.here hx rfl (hb hby d19_9) rfl rfl) ?_
  show Goes p e below KK T116 (mkF m 10 #[.val (.ref a1), .val (.int (3 : Int32)), .unset] [(.ref a1)])
  refine Goes.of (fun t => XS.iloadN X116.here hx rfl (hb hby d19_10) rfl) ?_
  show Goes p e below KK T116 (mkF m 11 #[.val (.ref a1), .val (.int (3 : Int32)), .unset] [(.int (3 : Int32)), (.ref a1)])
  obtain ⟨cq117, q117, q117'⟩ := E1.cell
  obtain ⟨_, _, ⟨T117, L117, k117, n117⟩, -, X117, ⟨Lc117, hQ117, l117, y117, z117⟩, st117⟩ := X116.privateBack hx (y := (⟨"corbel/structures/ArrayStack", "elementAt", "(I)Ljava/lang/Object;"⟩ : MethodName)) hown (mvT hZ w_77) (mvT hZ w_78) (own_selp hZ w_1 w_79 w_78 (by decide)) (Cond.privateMethod_at (mvP hZ w_79 (args := #[]))) (mvT hZ w_80) (by decide) (backOf (W := 0) (rm13 l Z a0 hw [] a1 (3 : Int32) ar [(.ref y0), (.ref y1), (.ref y2), (.ref y3)] 3 y3 h0 n0 Z0 F1e A1 (rfl) (rfl)) hZ w_80 w_2 (by decide) (by decide)) (g := (mkF m 11 #[.val (.ref a1), .val (.int (3 : Int32)), .unset] [(.int (3 : Int32)), (.ref a1)])) rfl (by rw [hml]; rfl) (Steps.refl _) (a := a1) (by rw [e116]; exact q117) q117' (argsL := [(.int (3 : Int32))]) (rest := []) (lenOf pd_16 rfl) rfl (by show 2 * 0 + _ ≤ _; exact Nat.le_of_eq rfl) (hb hby d19_11) (fun _ _ => ⟨rfl, e116, (by decide : 0 + 0 ≤ _), (by decide : 0 + 0 ≤ _)⟩)
  dsimp only [Pt.U, Pt.locs, Pt.cells, Pt.slots] at X117 l117 y117 z117 st117 hQ117
  subst l117 y117 z117
  obtain ⟨rfl, N117q, e117⟩ := hQ117
  have N117 := Fr.app N116 N117q
  refine Goes.tr st117 ?_
  show Goes p e below KK T117 (mkF m 14 #[.val (.ref a1), .val (.int (3 : Int32)), .unset] [(.ref y3)])
  refine Goes.of (fun t => XS.astoreN X117.here hx rfl (hb hby d19_14) rfl rfl (l' := #[.val (.ref a1), .val (.int (3 : Int32)), .val (.ref y3)]) rfl) ?_
  show Goes p e below KK T117 (mkF m 15 #[.val (.ref a1), .val (.int (3 : Int32)), .val (.ref y3)] [])
  refine Goes.of (fun t => XS.iloadN X117.here hx rfl (hb hby d19_15) rfl) ?_
  show Goes p e below KK T117 (mkF m 16 #[.val (.ref a1), .val (.int (3 : Int32)), .val (.ref y3)] [(.int (3 : Int32))])
  refine Goes.of (fun t => XS.aloadN X117.here hx rfl (hb hby d19_16) rfl rfl) ?_
  show Goes p e below KK T117 (mkF m 17 #[.val (.ref a1), .val (.int (3 : Int32)), .val (.ref y3)] [(.ref a1), (.int (3 : Int32))])
  obtain ⟨T118, X118, e118, st118⟩ := getF X117 hx hZ hown (host := "") (Or.inl w_59) Via.refl e117 F1s (g := (mkF m 17 #[.val (.ref a1), .val (.int (3 : Int32)), .val (.ref y3)] [(.ref a1), (.int (3 : Int32))])) rfl rfl (hb hby d19_17)
  refine Goes.of (st118) ?_
  show Goes p e below KK T118 (mkF m 20 #[.val (.ref a1), .val (.int (3 : Int32)), .val (.ref y3)] [(.int (4 : Int32)), (.int (3 : Int32))])
  refine Goes.of (fun t => XS.iconst X118.here hx rfl (hb hby d19_20)) ?_
  show Goes p e below KK T118 (mkF m 21 #[.val (.ref a1), .val (.int (3 : Int32)), .val (.ref y3)] [(.int (1 : Int32)), (.int (4 : Int32)), (.int (3 : Int32))])
  refine Goes.of (fun t => XS.isub X118.here hx rfl (hb hby d19_21) rfl) ?_
  show Goes p e below KK T118 (mkF m 22 #[.val (.ref a1), .val (.int (3 : Int32)), .val (.ref y3)] [(.int (3 : Int32)), (.int (3 : Int32))])
  refine Goes.of (fun t => XS.icmpYes X118.here hx rfl (pc0 := 22) (pc' := 48) rfl (hb hby d19_22) rfl (flt (show ¬ ((3 : Int32) < (3 : Int32)) from by decide)).2.1 (by decide) (by decide)) ?_
  show Goes p e below KK T118 (mkF m 48 #[.val (.ref a1), .val (.int (3 : Int32)), .val (.ref y3)] [])
  refine Goes.of (fun t => XS.aloadN X118.here hx rfl (hb hby d19_48) rfl rfl) ?_
  show Goes p e below KK T118 (mkF m 49 #[.val (.ref a1), .val (.int (3 : Int32)), .val (.ref y3)] [(.ref a1)])
  obtain ⟨T119, X119, e119, st119⟩ := getF X118 hx hZ hown (host := "") (Or.inl w_29) Via.refl e118 F1e (g := (mkF m 49 #[.val (.ref a1), .val (.int (3 : Int32)), .val (.ref y3)] [(.ref a1)])) rfl rfl (hb hby d19_49)
  refine Goes.of (st119) ?_
  show Goes p e below KK T119 (mkF m 52 #[.val (.ref a1), .val (.int (3 : Int32)), .val (.ref y3)] [(.ref ar)])
  refine Goes.of (fun t => XS.aloadN X119.here hx rfl (hb hby d19_52) rfl rfl) ?_
  show Goes p e below KK T119 (mkF m 53 #[.val (.ref a1), .val (.int (3 : Int32)), .val (.ref y3)] [(.ref a1), (.ref ar)])
  refine Goes.of (fun t => XS.dup X119.here hx rfl (hb hby d19_53) rfl rfl) ?_
  show Goes p e below KK T119 (mkF m 54 #[.val (.ref a1), .val (.int (3 : Int32)), .val (.ref y3)] [(.ref a1), (.ref a1), (.ref ar)])
  obtain ⟨T120, X120, e120, st120⟩ := getF X119 hx hZ hown (host := "") (Or.inl w_59) Via.refl e119 F1s (g := (mkF m 54 #[.val (.ref a1), .val (.int (3 : Int32)), .val (.ref y3)] [(.ref a1), (.ref a1), (.ref ar)])) rfl rfl (hb hby d19_54)
  refine Goes.of (st120) ?_
  show Goes p e below KK T120 (mkF m 57 #[.val (.ref a1), .val (.int (3 : Int32)), .val (.ref y3)] [(.int (4 : Int32)), (.ref a1), (.ref ar)])
  refine Goes.of (fun t => XS.iconst X120.here hx rfl (hb hby d19_57)) ?_
  show Goes p e below KK T120 (mkF m 58 #[.val (.ref a1), .val (.int (3 : Int32)), .val (.ref y3)] [(.int (1 : Int32)), (.int (4 : Int32)), (.ref a1), (.ref ar)])
  refine Goes.of (fun t => XS.isub X120.here hx rfl (hb hby d19_58) rfl) ?_
  show Goes p e below KK T120 (mkF m 59 #[.val (.ref a1), .val (.int (3 : Int32)), .val (.ref y3)] [(.int (3 : Int32)), (.ref a1), (.ref ar)])
  refine Goes.of (fun t => XT.dupX1 X120.here hx rfl (hb hby d19_59) rfl rfl rfl) ?_
  show Goes p e below KK T120 (mkF m 60 #[.val (.ref a1), .val (.int (3 : Int32)), .val (.ref y3)] [(.int (3 : Int32)), (.ref a1), (.int (3 : Int32)), (.ref ar)])
  obtain ⟨T121, h121, X121, e121, W121, st121⟩ := putF X120 hx hZ hown (host := "") (Or.inl w_59) Via.refl e120 F1s E1 (Or.inl w_60) w_1 (ty := .int) (by decide) rfl rfl (g := (mkF m 60 #[.val (.ref a1), .val (.int (3 : Int32)), .val (.ref y3)] [(.int (3 : Int32)), (.ref a1), (.int (3 : Int32)), (.ref ar)])) rfl rfl (hb hby d19_60)
  refine Goes.of (st121) ?_
  have E1_121 : Exa Z h121 a1 "corbel/structures/ArrayStack" := E1.wr W121
  have F1e_121 : Fld Z h121 a1 "corbel/structures/ArrayStack" "elements" "[Ljava/lang/Object;" (.ref ar) := F1e.other W121 (Or.inr (slot_ne (Or.inl w_30) (Or.inl w_60) (by decide) (t := (.array (.object "java/lang/Object"))) (t' := .int) (by decide) (by decide)))
  have F1m_121 : Fld Z h121 a1 "java/util/AbstractList" "modCount" "I" (.int md) := F1m.other W121 (Or.inr (slot_ne (Or.inl w_26) (Or.inl w_60) (by decide) (t := .int) (t' := .int) (by decide) (by decide)))
  have A1_121 : AR Z h121 ar [(.ref y0), (.ref y1), (.ref y2), (.ref y3)] := A1.other W121 (Exa.ne A1.exa E1 (by decide))
  have Ey_y0_121 : Exa Z h121 y0 "java/lang/Integer" := Ey_y0.wr W121
  have Ey_y1_121 : Exa Z h121 y1 "java/lang/Integer" := Ey_y1.wr W121
  have Ey_y2_121 : Exa Z h121 y2 "java/lang/Integer" := Ey_y2.wr W121
  have Ey_y3_121 : Exa Z h121 y3 "java/lang/Integer" := Ey_y3.wr W121
  have K121 : Keep h0 h121 [a1, ar] := (Keep.refl h0 [a1, ar]).wr W121 (Or.inl (List.mem_of_getElem? (i := 0) rfl))
  have Z121 : n0 ≤ h121.size := Nat.le_trans Z0 (Keep.of_wr W121).1
  have N121 := Fr.snoc X121 N117 g_a1
  have F_size_a1_121 : Fld Z h121 a1 "corbel/structures/ArrayStack" "size" "I" (.int (3 : Int32)) := F1s.same W121
  show Goes p e below KK T121 (mkF m 63 #[.val (.ref a1), .val (.int (3 : Int32)), .val (.ref y3)] [(.int (3 : Int32)), (.ref ar)])
  refine Goes.of (fun t => XS.aconstNull X121.here hx rfl (hb hby d19_63)) ?_
  show Goes p e below KK T121 (mkF m 64 #[.val (.ref a1), .val (.int (3 : Int32)), .val (.ref y3)] [.null, (.int (3 : Int32)), (.ref ar)])
  obtain ⟨T122, h122, X122, e122, W122, A122, st122⟩ := AR.aastore X121 hx hZ e121 A1_121 (Or.inl rfl) (i := 3) (j := (3 : Int32)) (rfl) (by simp) (g := (mkF m 64 #[.val (.ref a1), .val (.int (3 : Int32)), .val (.ref y3)] [.null, (.int (3 : Int32)), (.ref ar)])) rfl rfl (hb hby d19_64)
  refine Goes.of (st122) ?_
  have E1_121_122 : Exa Z h122 a1 "corbel/structures/ArrayStack" := E1_121.wr W122
  have F1e_121_122 : Fld Z h122 a1 "corbel/structures/ArrayStack" "elements" "[Ljava/lang/Object;" (.ref ar) := F1e_121.other W122 (Or.inl (Exa.ne E1_121 A1_121.exa (by decide)))
  have F_size_a1_121_122 : Fld Z h122 a1 "corbel/structures/ArrayStack" "size" "I" (.int (3 : Int32)) := F_size_a1_121.other W122 (Or.inl (Exa.ne E1_121 A1_121.exa (by decide)))
  have F1m_121_122 : Fld Z h122 a1 "java/util/AbstractList" "modCount" "I" (.int md) := F1m_121.other W122 (Or.inl (Exa.ne E1_121 A1_121.exa (by decide)))
  have Ey_y0_121_122 : Exa Z h122 y0 "java/lang/Integer" := Ey_y0_121.wr W122
  have Ey_y1_121_122 : Exa Z h122 y1 "java/lang/Integer" := Ey_y1_121.wr W122
  have Ey_y2_121_122 : Exa Z h122 y2 "java/lang/Integer" := Ey_y2_121.wr W122
  have Ey_y3_121_122 : Exa Z h122 y3 "java/lang/Integer" := Ey_y3_121.wr W122
  have K122 : Keep h0 h122 [a1, ar] := K121.wr W122 (Or.inl (List.mem_of_getElem? (i := 1) rfl))
  have Z122 : n0 ≤ h122.size := Nat.le_trans Z121 (Keep.of_wr W122).1
  have N122 := Fr.snoc X122 N121 g_ar
  have A_ar_122 : AR Z h122 ar [(.ref y0), (.ref y1), (.ref y2), .null] := A122
  show Goes p e below KK T122 (mkF m 65 #[.val (.ref a1), .val (.int (3 : Int32)), .val (.ref y3)] [])
  refine Goes.of (fun t => XS.aloadN X122.here hx rfl (hb hby d19_65) rfl rfl) ?_
  show Goes p e below KK T122 (mkF m 66 #[.val (.ref a1), .val (.int (3 : Int32)), .val (.ref y3)] [(.ref a1)])
  refine Goes.of (fun t => XS.dup X122.here hx rfl (hb hby d19_66) rfl rfl) ?_
  show Goes p e below KK T122 (mkF m 67 #[.val (.ref a1), .val (.int (3 : Int32)), .val (.ref y3)] [(.ref a1), (.ref a1)])
  obtain ⟨T123, X123, e123, st123⟩ := getF X122 hx hZ hown (host := "") (Or.inl w_62) (Via.of w_63) e122 F1m_121_122 (g := (mkF m 67 #[.val (.ref a1), .val (.int (3 : Int32)), .val (.ref y3)] [(.ref a1), (.ref a1)])) rfl rfl (hb hby d19_67)
  refine Goes.of (st123) ?_
  show Goes p e below KK T123 (mkF m 70 #[.val (.ref a1), .val (.int (3 : Int32)), .val (.ref y3)] [(.int md), (.ref a1)])
  refine Goes.of (fun t => XS.iconst X123.here hx rfl (hb hby d19_70)) ?_
  show Goes p e below KK T123 (mkF m 71 #[.val (.ref a1), .val (.int (3 : Int32)), .val (.ref y3)] [(.int (1 : Int32)), (.int md), (.ref a1)])
  refine Goes.of (fun t => XS.iadd X123.here hx rfl (hb hby d19_71) rfl) ?_
  show Goes p e below KK T123 (mkF m 72 #[.val (.ref a1), .val (.int (3 : Int32)), .val (.ref y3)] [(.int (md + (1 : Int32))), (.ref a1)])
  obtain ⟨T124, h124, X124, e124, W124, st124⟩ := putF X123 hx hZ hown (host := "") (Or.inl w_62) (Via.of w_63) e123 F1m_121_122 E1_121_122 (Or.inl w_26) w_1 (ty := .int) (by decide) rfl rfl (g := (mkF m 72 #[.val (.ref a1), .val (.int (3 : Int32)), .val (.ref y3)] [(.int (md + (1 : Int32))), (.ref a1)])) rfl rfl (hb hby d19_72)
  refine Goes.of (st124) ?_
  have E1_121_122_124 : Exa Z h124 a1 "corbel/structures/ArrayStack" := E1_121_122.wr W124
  have F1e_121_122_124 : Fld Z h124 a1 "corbel/structures/ArrayStack" "elements" "[Ljava/lang/Object;" (.ref ar) := F1e_121_122.other W124 (Or.inr (slot_ne (Or.inl w_30) (Or.inl w_26) (by decide) (t := (.array (.object "java/lang/Object"))) (t' := .int) (by decide) (by decide)))
  have F_size_a1_121_122_124 : Fld Z h124 a1 "corbel/structures/ArrayStack" "size" "I" (.int (3 : Int32)) := F_size_a1_121_122.other W124 (Or.inr (slot_ne (Or.inl w_60) (Or.inl w_26) (by decide) (t := .int) (t' := .int) (by decide) (by decide)))
  have A_ar_122_124 : AR Z h124 ar [(.ref y0), (.ref y1), (.ref y2), .null] := A_ar_122.other W124 (Exa.ne A_ar_122.exa E1_121_122 (by decide))
  have Ey_y0_121_122_124 : Exa Z h124 y0 "java/lang/Integer" := Ey_y0_121_122.wr W124
  have Ey_y1_121_122_124 : Exa Z h124 y1 "java/lang/Integer" := Ey_y1_121_122.wr W124
  have Ey_y2_121_122_124 : Exa Z h124 y2 "java/lang/Integer" := Ey_y2_121_122.wr W124
  have Ey_y3_121_122_124 : Exa Z h124 y3 "java/lang/Integer" := Ey_y3_121_122.wr W124
  have K124 : Keep h0 h124 [a1, ar] := K122.wr W124 (Or.inl (List.mem_of_getElem? (i := 0) rfl))
  have Z124 : n0 ≤ h124.size := Nat.le_trans Z122 (Keep.of_wr W124).1
  have N124 := Fr.snoc X124 N122 g_a1
  have F_modCount_a1_124 : Fld Z h124 a1 "java/util/AbstractList" "modCount" "I" (.int (md + (1 : Int32))) := F1m_121_122.same W124
  show Goes p e below KK T124 (mkF m 75 #[.val (.ref a1), .val (.int (3 : Int32)), .val (.ref y3)] [])
  refine Goes.of (fun t => XS.aloadN X124.here hx rfl (hb hby d19_75) rfl rfl) ?_
  show Goes p e below KK T124 (mkF m 76 #[.val (.ref a1), .val (.int (3 : Int32)), .val (.ref y3)] [(.ref a1)])
  obtain ⟨cq125, q125, q125'⟩ := E1_121_122_124.cell
  obtain ⟨_, _, ⟨T125, L125, k125, n125⟩, -, X125, ⟨Lc125, hQ125, l125, y125, z125⟩, st125⟩ := X124.privateBack hx (y := (⟨"corbel/structures/ArrayStack", "shrinkIfSparse", "()V"⟩ : MethodName)) hown (mvT hZ w_125) (mvT hZ w_126) (own_selp hZ w_1 w_127 w_126 (by decide)) (Cond.privateMethod_at (mvP hZ w_127 (args := #[]))) (mvT hZ w_128) (by decide) (backOf (W := 0) (rm20s3 l Z a0 hw [] a1 ar [(.ref y0), (.ref y1), (.ref y2), .null] h124 n0 Z124 F1e_121_122_124 F_size_a1_121_122_124 A_ar_122_124 rfl) hZ w_128 w_2 (by decide) (by decide)) (g := (mkF m 76 #[.val (.ref a1), .val (.int (3 : Int32)), .val (.ref y3)] [(.ref a1)])) rfl (by rw [hml]; rfl) (Steps.refl _) (a := a1) (by rw [e124]; exact q125) q125' (argsL := []) (rest := []) (lenOf pd_2 rfl) rfl (by show 2 * 0 + _ ≤ _; exact Nat.le_of_eq rfl) (hb hby d19_76) (fun _ _ => ⟨rfl, e124, (by decide : 0 + 0 ≤ _), (by decide : 0 + 0 ≤ _)⟩)
  dsimp only [Pt.U, Pt.locs, Pt.cells, Pt.slots] at X125 l125 y125 z125 st125 hQ125
  subst l125 y125 z125
  obtain ⟨rfl, N125q, e125⟩ := hQ125
  have N125 := Fr.app N124 N125q
  refine Goes.tr st125 ?_
  show Goes p e below KK T125 (mkF m 79 #[.val (.ref a1), .val (.int (3 : Int32)), .val (.ref y3)] [])
  refine Goes.of (fun t => XS.aloadN X125.here hx rfl (hb hby d19_79) rfl rfl) ?_
  show Goes p e below KK T125 (mkF m 80 #[.val (.ref a1), .val (.int (3 : Int32)), .val (.ref y3)] [(.ref y3)])
  rw [← hKK]
  refine Goes.retRef X125 hx hlk rfl rfl Bd.returns (hb hby d19_80) ?_ (by decide) (by decide)
  rw [e125]
  exact ⟨rfl, N125, K124, E1_121_122_124, F1e_121_122_124, F_size_a1_121_122_124, F_modCount_a1_124, A_ar_122_124⟩
theorem d18_0 : decode prog_1_method_4_code 0 = .ok (.aload_n 0, 1) := by decide +kernel
theorem d18_1 : decode prog_1_method_4_code 1 = .ok (.getfield 21, 3) := by decide +kernel
theorem d18_4 : decode prog_1_method_4_code 4 = .ok (.ifCond .ne 13, 3) := by decide +kernel
theorem d18_7 : decode prog_1_method_4_code 7 = .ok (.new 25, 3) := by decide +kernel
theorem d18_10 : decode prog_1_method_4_code 10 = .ok (.dup, 1) := by decide +kernel
theorem d18_11 : decode prog_1_method_4_code 11 = .ok (.ldc 27, 2) := by decide +kernel
theorem d18_13 : decode prog_1_method_4_code 13 = .ok (.invokespecial 29, 3) := by decide +kernel
theorem d18_16 : decode prog_1_method_4_code 16 = .ok (.athrow, 1) := by decide +kernel
theorem d18_17 : decode prog_1_method_4_code 17 = .ok (.aload_n 0, 1) := by decide +kernel
theorem d18_18 : decode prog_1_method_4_code 18 = .ok (.aload_n 0, 1) := by decide +kernel
theorem d18_19 : decode prog_1_method_4_code 19 = .ok (.getfield 21, 3) := by decide +kernel
theorem d18_22 : decode prog_1_method_4_code 22 = .ok (.iconst 1, 1) := by decide +kernel
theorem d18_23 : decode prog_1_method_4_code 23 = .ok (.isub, 1) := by decide +kernel
theorem d18_24 : decode prog_1_method_4_code 24 = .ok (.invokevirtual 32, 3) := by decide +kernel
theorem d18_27 : decode prog_1_method_4_code 27 = .ok (.areturn, 1) := by decide +kernel
theorem pn_18 : plainFor (⟨"corbel/structures/ArrayStack", "pop", "()Ljava/lang/Object;"⟩ : MethodName) = true := plainFor_of_name (by first | (simp [plainName, overriddenIn]; done) | decide +kernel)
theorem ef_18s2 (m : MethodId) (x0 : Addr) : entryFrame m #[(.ref x0)] 1 = mkF m 0 #[.val (.ref x0)] [] := by first | (simp [entryFrame, mkF, argsToLocals, Value.category]; done) | rfl
def Q18s2 (Z : State) (a1 : Addr) (ar : Addr) (md : Int32) (y0 : Addr) (y1 : Addr) (h0 : Heap) (n0 : Nat) (v : Option Value) (h : Heap) (L : List Loc) : Prop := v = some (.ref y1) ∧ Fr n0 L ∧ Keep h0 h [a1, ar] ∧ Exa Z h a1 "corbel/structures/ArrayStack" ∧ Fld Z h a1 "corbel/structures/ArrayStack" "elements" "[Ljava/lang/Object;" (.ref ar) ∧ Fld Z h a1 "corbel/structures/ArrayStack" "size" "I" (.int (1 : Int32)) ∧ Fld Z h a1 "java/util/AbstractList" "modCount" "I" (.int (md + 1)) ∧ AR Z h ar [(.ref y0), .null]
set_option maxRecDepth 65536 in
set_option maxHeartbeats 40000000 in
theorem rm18s2 (l : Launch) (Z : State) (a0 : Array Value) (hw : ∀ d ∈ tables_1, d.before a0 Z = true) (ws : List Jvm.Cond) (a1 : Addr) (ar : Addr) (md : Int32) (y0 : Addr) (y1 : Addr) (h0 : Heap) (n0 : Nat) (Z0 : n0 ≤ h0.size) (E1 : Exa Z h0 a1 "corbel/structures/ArrayStack") (F1e : Fld Z h0 a1 "corbel/structures/ArrayStack" "elements" "[Ljava/lang/Object;" (.ref ar)) (F1s : Fld Z h0 a1 "corbel/structures/ArrayStack" "size" "I" (.int (2 : Int32))) (F1m : Fld Z h0 a1 "java/util/AbstractList" "modCount" "I" (.int md)) (A1 : AR Z h0 ar [(.ref y0), (.ref y1)]) (Ey_y0 : Exa Z h0 y0 "java/lang/Integer") (Ey_y1 : Exa Z h0 y1 "java/lang/Integer") (g_a1 : n0 ≤ a1) (g_ar : n0 ≤ ar) :
    MetFree l (⟨"corbel/structures/ArrayStack", "pop", "()Ljava/lang/Object;"⟩ : MethodName) (head1 (Jvm.Cond.code (⟨"corbel/structures/ArrayStack", "pop", "()Ljava/lang/Object;"⟩ : MethodName) prog_1_method_4_code 1 (some (.object "java/lang/Object")) :: ws) ({ frames := 3, cells := 0, slots := 0, locals := 41 } : Room)) (fun a U => a = #[(.ref a1)] ∧ Z.Warmed39 U.vm ∧ U.heap = h0) (fun _ _ _ _ _ => True) (fun _ U o U' => ∃ v L, o = .returned v ∧ Q18s2 Z a1 ar md y0 y1 h0 n0 v U'.heap L ∧ FrameEnd U o U' L ({ frames := 3, cells := 0, slots := 0, locals := 41 } : Room).cells ({ frames := 3, cells := 0, slots := 0, locals := 41 } : Room).slots) := by
  refine MetFree.of_bodySF pn_18 hisR ?_
  intro p e s m args below meth c s₁ Bd hml0 hP hK
  obtain ⟨rfl, hZ, hh⟩ := hP
  have hx := Bd.exec
  have hby := Bd.bytes
  have hml : c.maxLocals = 1 := hml0
  have hown : s.vm.findClass "corbel/structures/ArrayStack" = some m.cls := findClass_of_methodNamed Bd.named
  have hnm := (name_of_methodNamed Bd.named Bd.method).1
  have hlk : meth.locks = false := BodyLoose.notSynchronized Bd
  have X0 : Stand p l e ({ frames := 3, cells := 0, slots := 0, locals := 41 } : Room) s m #[(.ref a1)] below meth c s₁ [] 0 0 := Stand.of_body Bd
  have e0 : s₁.heap = h0 := by rw [← hh, Bd.state]; rfl
  have N0 := Fr.nil n0
  show Goes p e below (OwnK s (Q18s2 Z a1 ar md y0 y1 h0 n0) ({ frames := 3, cells := 0, slots := 0, locals := 41 } : Room).cells ({ frames := 3, cells := 0, slots := 0, locals := 41 } : Room).slots) s₁ (entryFrame m #[(.ref a1)] 1)
  refine Goes.cast (ef_18s2 m a1) ?_
  generalize hKK : OwnK s (Q18s2 Z a1 ar md y0 y1 h0 n0) ({ frames := 3, cells := 0, slots := 0, locals := 41 } : Room).cells ({ frames := 3, cells := 0, slots := 0, locals := 41 } : Room).slots = KK
  show Goes p e below KK s₁ (mkF m 0 #[.val (.ref a1)] [])
  have w_2 := hw _ (List.mem_of_getElem? (i := 2) rfl)
  have w_59 := hw _ (List.mem_of_getElem? (i := 59) rfl)
  have w_120 := hw _ (List.mem_of_getElem? (i := 120) rfl)
  have w_121 := hw _ (List.mem_of_getElem? (i := 121) rfl)
  have w_122 := hw _ (List.mem_of_getElem? (i := 122) rfl)
  have w_123 := hw _ (List.mem_of_getElem? (i := 123) rfl)
  have w_124 := hw _ (List.mem_of_getElem? (i := 124) rfl)
  refine Goes.of (fun t => XS.aloadN X0.here hx rfl (hb hby d18_0) rfl rfl) ?_
  show Goes p e below KK s₁ (mkF m 1 #[.val (.ref a1)] [(.ref a1)])
  obtain ⟨T126, X126, e126, st126⟩ := getF X0 hx hZ hown (host := "") (Or.inl w_59) Via.refl e0 F1s (g := (mkF m 1 #[.val (.ref a1)] [(.ref a1)])) rfl rfl (hb hby d18_1)
  refine Goes.of (st126) ?_
  show Goes p e below KK T126 (mkF m 4 #[.val (.ref a1)] [(.int (2 : Int32))])
  refine Goes.of (fun t => XS.ifYes X126.here hx rfl (pc0 := 4) (pc' := 17) rfl (hb hby d18_4) rfl ((if0 _ _).trans (feq (show ¬ ((2 : Int32) = (0 : Int32)) from by decide)).2) (by decide) (by decide)) ?_
  show Goes p e below KK T126 (mkF m 17 #[.val (.ref a1)] [])
  refine Goes.of (fun t => XS.aloadN X126.here hx rfl (hb hby d18_17) rfl rfl) ?_
  show Goes p e below KK T126 (mkF m 18 #[.val (.ref a1)] [(.ref a1)])
  refine Goes.of (fun t => XS.aloadN X126.here hx rfl (hb hby d18_18) rfl rfl) ?_
  show Goes p e below KK T126 (mkF m 19 #[.val (.ref a1)] [(.ref a1), (.ref a1)])
  obtain ⟨T127, X127, e127, st127⟩ := getF X126 hx hZ hown (host := "") (Or.inl w_59) Via.refl e126 F1s (g := (mkF m 19 #[.val (.ref a1)] [(.ref a1), (.ref a1)])) rfl rfl (hb hby d18_19)
  refine Goes.of (st127) ?_
  show Goes p e below KK T127 (mkF m 22 #[.val (.ref a1)] [(.int (2 : Int32)), (.ref a1)])
  refine Goes.of (fun t => XS.iconst X127.here hx rfl (hb hby d18_22)) ?_
  show Goes p e below KK T127 (mkF m 23 #[.val (.ref a1)] [(.int (1 : Int32)), (.int (2 : Int32)), (.ref a1)])
  refine Goes.of (fun t => XS.isub X127.here hx rfl (hb hby d18_23) rfl) ?_
  show Goes p e below KK T127 (mkF m 24 #[.val (.ref a1)] [(.int (1 : Int32)), (.ref a1)])
  obtain ⟨cq128, kq128, q128a, q128b, q128c⟩ := isOf hZ e127 E1
  obtain ⟨_, _, ⟨T128, L128, k128, n128⟩, -, X128, ⟨Lc128, hQ128, l128, y128, z128⟩, st128⟩ := X127.virtualBack hx (y := (⟨"corbel/structures/ArrayStack", "remove", "(I)Ljava/lang/Object;"⟩ : MethodName)) (z := (⟨"corbel/structures/ArrayStack", "remove", "(I)Ljava/lang/Object;"⟩ : MethodName)) hown (mvT hZ w_120) (mvT hZ w_121) (notFace_of_selects (args := #[]) (mvT hZ w_123)) (mvT hZ w_123) (mvT hZ w_122) (by decide) (backOf (W := 0) (rm19s2 l Z a0 hw [] a1 ar md y0 y1 h0 n0 Z0 E1 F1e F1s F1m A1 Ey_y0 Ey_y1 g_a1 g_ar) hZ w_124 w_2 (by decide) (by decide)) q128a q128c (g := (mkF m 24 #[.val (.ref a1)] [(.int (1 : Int32)), (.ref a1)])) rfl (by rw [hml]; rfl) (Steps.refl _) (argsL := [(.int (1 : Int32))]) (rest := []) (lenOf pd_16 rfl) rfl (by show 2 * 0 + _ ≤ _; exact Nat.le_of_eq rfl) (hb hby d18_24) (fun _ _ => ⟨rfl, e127, (by decide : 0 + 0 ≤ _), (by decide : 0 + 0 ≤ _)⟩)
  dsimp only [Pt.U, Pt.locs, Pt.cells, Pt.slots] at X128 l128 y128 z128 st128 hQ128
  subst l128 y128 z128
  obtain ⟨rfl, N128q, Kc128, E128, Fe128, Fs128, Fm128, A128⟩ := hQ128
  have N128 := Fr.app N0 N128q
  have E1_128 : Exa Z T128.heap a1 "corbel/structures/ArrayStack" := E1.keep Kc128
  have Ey_y0_128 : Exa Z T128.heap y0 "java/lang/Integer" := Ey_y0.keep Kc128
  have Ey_y1_128 : Exa Z T128.heap y1 "java/lang/Integer" := Ey_y1.keep Kc128
  have K128 : Keep h0 T128.heap [a1, ar] := (Keep.refl h0 [a1, ar]).trans Kc128 (allS (Or.inl (List.mem_of_getElem? (i := 0) rfl)) (allS (Or.inl (List.mem_of_getElem? (i := 1) rfl)) all0))
  have Z128 : n0 ≤ T128.heap.size := Nat.le_trans Z0 Kc128.1
  have e128 : T128.heap = T128.heap := rfl
  refine Goes.tr st128 ?_
  show Goes p e below KK T128 (mkF m 27 #[.val (.ref a1)] [(.ref y1)])
  rw [← hKK]
  refine Goes.retRef X128 hx hlk rfl rfl Bd.returns (hb hby d18_27) ?_ (by decide) (by decide)
  rw [e128]
  exact ⟨rfl, N128, K128, E128, Fe128, Fs128, Fm128, A128⟩
theorem ef_18s3 (m : MethodId) (x0 : Addr) : entryFrame m #[(.ref x0)] 1 = mkF m 0 #[.val (.ref x0)] [] := by first | (simp [entryFrame, mkF, argsToLocals, Value.category]; done) | rfl
def Q18s3 (Z : State) (a1 : Addr) (ar : Addr) (md : Int32) (y0 : Addr) (y1 : Addr) (y2 : Addr) (h0 : Heap) (n0 : Nat) (v : Option Value) (h : Heap) (L : List Loc) : Prop := v = some (.ref y2) ∧ Fr n0 L ∧ Keep h0 h [a1, ar] ∧ Exa Z h a1 "corbel/structures/ArrayStack" ∧ Fld Z h a1 "corbel/structures/ArrayStack" "elements" "[Ljava/lang/Object;" (.ref ar) ∧ Fld Z h a1 "corbel/structures/ArrayStack" "size" "I" (.int (2 : Int32)) ∧ Fld Z h a1 "java/util/AbstractList" "modCount" "I" (.int (md + 1)) ∧ AR Z h ar [(.ref y0), (.ref y1), .null, .null]
set_option maxRecDepth 65536 in
set_option maxHeartbeats 40000000 in
theorem rm18s3 (l : Launch) (Z : State) (a0 : Array Value) (hw : ∀ d ∈ tables_1, d.before a0 Z = true) (ws : List Jvm.Cond) (a1 : Addr) (ar : Addr) (md : Int32) (y0 : Addr) (y1 : Addr) (y2 : Addr) (h0 : Heap) (n0 : Nat) (Z0 : n0 ≤ h0.size) (E1 : Exa Z h0 a1 "corbel/structures/ArrayStack") (F1e : Fld Z h0 a1 "corbel/structures/ArrayStack" "elements" "[Ljava/lang/Object;" (.ref ar)) (F1s : Fld Z h0 a1 "corbel/structures/ArrayStack" "size" "I" (.int (3 : Int32))) (F1m : Fld Z h0 a1 "java/util/AbstractList" "modCount" "I" (.int md)) (A1 : AR Z h0 ar [(.ref y0), (.ref y1), (.ref y2), .null]) (Ey_y0 : Exa Z h0 y0 "java/lang/Integer") (Ey_y1 : Exa Z h0 y1 "java/lang/Integer") (Ey_y2 : Exa Z h0 y2 "java/lang/Integer") (g_a1 : n0 ≤ a1) (g_ar : n0 ≤ ar) :
    MetFree l (⟨"corbel/structures/ArrayStack", "pop", "()Ljava/lang/Object;"⟩ : MethodName) (head1 (Jvm.Cond.code (⟨"corbel/structures/ArrayStack", "pop", "()Ljava/lang/Object;"⟩ : MethodName) prog_1_method_4_code 1 (some (.object "java/lang/Object")) :: ws) ({ frames := 3, cells := 0, slots := 0, locals := 41 } : Room)) (fun a U => a = #[(.ref a1)] ∧ Z.Warmed39 U.vm ∧ U.heap = h0) (fun _ _ _ _ _ => True) (fun _ U o U' => ∃ v L, o = .returned v ∧ Q18s3 Z a1 ar md y0 y1 y2 h0 n0 v U'.heap L ∧ FrameEnd U o U' L ({ frames := 3, cells := 0, slots := 0, locals := 41 } : Room).cells ({ frames := 3, cells := 0, slots := 0, locals := 41 } : Room).slots) := by
  refine MetFree.of_bodySF pn_18 hisR ?_
  intro p e s m args below meth c s₁ Bd hml0 hP hK
  obtain ⟨rfl, hZ, hh⟩ := hP
  have hx := Bd.exec
  have hby := Bd.bytes
  have hml : c.maxLocals = 1 := hml0
  have hown : s.vm.findClass "corbel/structures/ArrayStack" = some m.cls := findClass_of_methodNamed Bd.named
  have hnm := (name_of_methodNamed Bd.named Bd.method).1
  have hlk : meth.locks = false := BodyLoose.notSynchronized Bd
  have X0 : Stand p l e ({ frames := 3, cells := 0, slots := 0, locals := 41 } : Room) s m #[(.ref a1)] below meth c s₁ [] 0 0 := Stand.of_body Bd
  have e0 : s₁.heap = h0 := by rw [← hh, Bd.state]; rfl
  have N0 := Fr.nil n0
  show Goes p e below (OwnK s (Q18s3 Z a1 ar md y0 y1 y2 h0 n0) ({ frames := 3, cells := 0, slots := 0, locals := 41 } : Room).cells ({ frames := 3, cells := 0, slots := 0, locals := 41 } : Room).slots) s₁ (entryFrame m #[(.ref a1)] 1)
  refine Goes.cast (ef_18s3 m a1) ?_
  generalize hKK : OwnK s (Q18s3 Z a1 ar md y0 y1 y2 h0 n0) ({ frames := 3, cells := 0, slots := 0, locals := 41 } : Room).cells ({ frames := 3, cells := 0, slots := 0, locals := 41 } : Room).slots = KK
  show Goes p e below KK s₁ (mkF m 0 #[.val (.ref a1)] [])
  have w_2 := hw _ (List.mem_of_getElem? (i := 2) rfl)
  have w_59 := hw _ (List.mem_of_getElem? (i := 59) rfl)
  have w_120 := hw _ (List.mem_of_getElem? (i := 120) rfl)
  have w_121 := hw _ (List.mem_of_getElem? (i := 121) rfl)
  have w_122 := hw _ (List.mem_of_getElem? (i := 122) rfl)
  have w_123 := hw _ (List.mem_of_getElem? (i := 123) rfl)
  have w_124 := hw _ (List.mem_of_getElem? (i := 124) rfl)
  refine Goes.of (fun t => XS.aloadN X0.here hx rfl (hb hby d18_0) rfl rfl) ?_
  show Goes p e below KK s₁ (mkF m 1 #[.val (.ref a1)] [(.ref a1)])
  obtain ⟨T129, X129, e129, st129⟩ := getF X0 hx hZ hown (host := "") (Or.inl w_59) Via.refl e0 F1s (g := (mkF m 1 #[.val (.ref a1)] [(.ref a1)])) rfl rfl (hb hby d18_1)
  refine Goes.of (st129) ?_
  show Goes p e below KK T129 (mkF m 4 #[.val (.ref a1)] [(.int (3 : Int32))])
  refine Goes.of (fun t => XS.ifYes X129.here hx rfl (pc0 := 4) (pc' := 17) rfl (hb hby d18_4) rfl ((if0 _ _).trans (feq (show ¬ ((3 : Int32) = (0 : Int32)) from by decide)).2) (by decide) (by decide)) ?_
  show Goes p e below KK T129 (mkF m 17 #[.val (.ref a1)] [])
  refine Goes.of (fun t => XS.aloadN X129.here hx rfl (hb hby d18_17) rfl rfl) ?_
  show Goes p e below KK T129 (mkF m 18 #[.val (.ref a1)] [(.ref a1)])
  refine Goes.of (fun t => XS.aloadN X129.here hx rfl (hb hby d18_18) rfl rfl) ?_
  show Goes p e below KK T129 (mkF m 19 #[.val (.ref a1)] [(.ref a1), (.ref a1)])
  obtain ⟨T130, X130, e130, st130⟩ := getF X129 hx hZ hown (host := "") (Or.inl w_59) Via.refl e129 F1s (g := (mkF m 19 #[.val (.ref a1)] [(.ref a1), (.ref a1)])) rfl rfl (hb hby d18_19)
  refine Goes.of (st130) ?_
  show Goes p e below KK T130 (mkF m 22 #[.val (.ref a1)] [(.int (3 : Int32)), (.ref a1)])
  refine Goes.of (fun t => XS.iconst X130.here hx rfl (hb hby d18_22)) ?_
  show Goes p e below KK T130 (mkF m 23 #[.val (.ref a1)] [(.int (1 : Int32)), (.int (3 : Int32)), (.ref a1)])
  refine Goes.of (fun t => XS.isub X130.here hx rfl (hb hby d18_23) rfl) ?_
  show Goes p e below KK T130 (mkF m 24 #[.val (.ref a1)] [(.int (2 : Int32)), (.ref a1)])
  obtain ⟨cq131, kq131, q131a, q131b, q131c⟩ := isOf hZ e130 E1
  obtain ⟨_, _, ⟨T131, L131, k131, n131⟩, -, X131, ⟨Lc131, hQ131, l131, y131, z131⟩, st131⟩ := X130.virtualBack hx (y := (⟨"corbel/structures/ArrayStack", "remove", "(I)Ljava/lang/Object;"⟩ : MethodName)) (z := (⟨"corbel/structures/ArrayStack", "remove", "(I)Ljava/lang/Object;"⟩ : MethodName)) hown (mvT hZ w_120) (mvT hZ w_121) (notFace_of_selects (args := #[]) (mvT hZ w_123)) (mvT hZ w_123) (mvT hZ w_122) (by decide) (backOf (W := 0) (rm19s3 l Z a0 hw [] a1 ar md y0 y1 y2 h0 n0 Z0 E1 F1e F1s F1m A1 Ey_y0 Ey_y1 Ey_y2 g_a1 g_ar) hZ w_124 w_2 (by decide) (by decide)) q131a q131c (g := (mkF m 24 #[.val (.ref a1)] [(.int (2 : Int32)), (.ref a1)])) rfl (by rw [hml]; rfl) (Steps.refl _) (argsL := [(.int (2 : Int32))]) (rest := []) (lenOf pd_16 rfl) rfl (by show 2 * 0 + _ ≤ _; exact Nat.le_of_eq rfl) (hb hby d18_24) (fun _ _ => ⟨rfl, e130, (by decide : 0 + 0 ≤ _), (by decide : 0 + 0 ≤ _)⟩)
  dsimp only [Pt.U, Pt.locs, Pt.cells, Pt.slots] at X131 l131 y131 z131 st131 hQ131
  subst l131 y131 z131
  obtain ⟨rfl, N131q, Kc131, E131, Fe131, Fs131, Fm131, A131⟩ := hQ131
  have N131 := Fr.app N0 N131q
  have E1_131 : Exa Z T131.heap a1 "corbel/structures/ArrayStack" := E1.keep Kc131
  have Ey_y0_131 : Exa Z T131.heap y0 "java/lang/Integer" := Ey_y0.keep Kc131
  have Ey_y1_131 : Exa Z T131.heap y1 "java/lang/Integer" := Ey_y1.keep Kc131
  have Ey_y2_131 : Exa Z T131.heap y2 "java/lang/Integer" := Ey_y2.keep Kc131
  have K131 : Keep h0 T131.heap [a1, ar] := (Keep.refl h0 [a1, ar]).trans Kc131 (allS (Or.inl (List.mem_of_getElem? (i := 0) rfl)) (allS (Or.inl (List.mem_of_getElem? (i := 1) rfl)) all0))
  have Z131 : n0 ≤ T131.heap.size := Nat.le_trans Z0 Kc131.1
  have e131 : T131.heap = T131.heap := rfl
  refine Goes.tr st131 ?_
  show Goes p e below KK T131 (mkF m 27 #[.val (.ref a1)] [(.ref y2)])
  rw [← hKK]
  refine Goes.retRef X131 hx hlk rfl rfl Bd.returns (hb hby d18_27) ?_ (by decide) (by decide)
  rw [e131]
  exact ⟨rfl, N131, K131, E131, Fe131, Fs131, Fm131, A131⟩
theorem ef_18s4 (m : MethodId) (x0 : Addr) : entryFrame m #[(.ref x0)] 1 = mkF m 0 #[.val (.ref x0)] [] := by first | (simp [entryFrame, mkF, argsToLocals, Value.category]; done) | rfl
def Q18s4 (Z : State) (a1 : Addr) (ar : Addr) (md : Int32) (y0 : Addr) (y1 : Addr) (y2 : Addr) (y3 : Addr) (h0 : Heap) (n0 : Nat) (v : Option Value) (h : Heap) (L : List Loc) : Prop := v = some (.ref y3) ∧ Fr n0 L ∧ Keep h0 h [a1, ar] ∧ Exa Z h a1 "corbel/structures/ArrayStack" ∧ Fld Z h a1 "corbel/structures/ArrayStack" "elements" "[Ljava/lang/Object;" (.ref ar) ∧ Fld Z h a1 "corbel/structures/ArrayStack" "size" "I" (.int (3 : Int32)) ∧ Fld Z h a1 "java/util/AbstractList" "modCount" "I" (.int (md + 1)) ∧ AR Z h ar [(.ref y0), (.ref y1), (.ref y2), .null]
set_option maxRecDepth 65536 in
set_option maxHeartbeats 40000000 in
theorem rm18s4 (l : Launch) (Z : State) (a0 : Array Value) (hw : ∀ d ∈ tables_1, d.before a0 Z = true) (ws : List Jvm.Cond) (a1 : Addr) (ar : Addr) (md : Int32) (y0 : Addr) (y1 : Addr) (y2 : Addr) (y3 : Addr) (h0 : Heap) (n0 : Nat) (Z0 : n0 ≤ h0.size) (E1 : Exa Z h0 a1 "corbel/structures/ArrayStack") (F1e : Fld Z h0 a1 "corbel/structures/ArrayStack" "elements" "[Ljava/lang/Object;" (.ref ar)) (F1s : Fld Z h0 a1 "corbel/structures/ArrayStack" "size" "I" (.int (4 : Int32))) (F1m : Fld Z h0 a1 "java/util/AbstractList" "modCount" "I" (.int md)) (A1 : AR Z h0 ar [(.ref y0), (.ref y1), (.ref y2), (.ref y3)]) (Ey_y0 : Exa Z h0 y0 "java/lang/Integer") (Ey_y1 : Exa Z h0 y1 "java/lang/Integer") (Ey_y2 : Exa Z h0 y2 "java/lang/Integer") (Ey_y3 : Exa Z h0 y3 "java/lang/Integer") (g_a1 : n0 ≤ a1) (g_ar : n0 ≤ ar) :
    MetFree l (⟨"corbel/structures/ArrayStack", "pop", "()Ljava/lang/Object;"⟩ : MethodName) (head1 (Jvm.Cond.code (⟨"corbel/structures/ArrayStack", "pop", "()Ljava/lang/Object;"⟩ : MethodName) prog_1_method_4_code 1 (some (.object "java/lang/Object")) :: ws) ({ frames := 3, cells := 0, slots := 0, locals := 41 } : Room)) (fun a U => a = #[(.ref a1)] ∧ Z.Warmed39 U.vm ∧ U.heap = h0) (fun _ _ _ _ _ => True) (fun _ U o U' => ∃ v L, o = .returned v ∧ Q18s4 Z a1 ar md y0 y1 y2 y3 h0 n0 v U'.heap L ∧ FrameEnd U o U' L ({ frames := 3, cells := 0, slots := 0, locals := 41 } : Room).cells ({ frames := 3, cells := 0, slots := 0, locals := 41 } : Room).slots) := by
  refine MetFree.of_bodySF pn_18 hisR ?_
  intro p e s m args below meth c s₁ Bd hml0 hP hK
  obtain ⟨rfl, hZ, hh⟩ := hP
  have hx := Bd.exec
  have hby := Bd.bytes
  have hml : c.maxLocals = 1 := hml0
  have hown : s.vm.findClass "corbel/structures/ArrayStack" = some m.cls := findClass_of_methodNamed Bd.named
  have hnm := (name_of_methodNamed Bd.named Bd.method).1
  have hlk : meth.locks = false := BodyLoose.notSynchronized Bd
  have X0 : Stand p l e ({ frames := 3, cells := 0, slots := 0, locals := 41 } : Room) s m #[(.ref a1)] below meth c s₁ [] 0 0 := Stand.of_body Bd
  have e0 : s₁.heap = h0 := by rw [← hh, Bd.state]; rfl
  have N0 := Fr.nil n0
  show Goes p e below (OwnK s (Q18s4 Z a1 ar md y0 y1 y2 y3 h0 n0) ({ frames := 3, cells := 0, slots := 0, locals := 41 } : Room).cells ({ frames := 3, cells := 0, slots := 0, locals := 41 } : Room).slots) s₁ (entryFrame m #[(.ref a1)] 1)
  refine Goes.cast (ef_18s4 m a1) ?_
  generalize hKK : OwnK s (Q18s4 Z a1 ar md y0 y1 y2 y3 h0 n0) ({ frames := 3, cells := 0, slots := 0, locals := 41 } : Room).cells ({ frames := 3, cells := 0, slots := 0, locals := 41 } : Room).slots = KK
  show Goes p e below KK s₁ (mkF m 0 #[.val (.ref a1)] [])
  have w_2 := hw _ (List.mem_of_getElem? (i := 2) rfl)
  have w_59 := hw _ (List.mem_of_getElem? (i := 59) rfl)
  have w_120 := hw _ (List.mem_of_getElem? (i := 120) rfl)
  have w_121 := hw _ (List.mem_of_getElem? (i := 121) rfl)
  have w_122 := hw _ (List.mem_of_getElem? (i := 122) rfl)
  have w_123 := hw _ (List.mem_of_getElem? (i := 123) rfl)
  have w_124 := hw _ (List.mem_of_getElem? (i := 124) rfl)
  refine Goes.of (fun t => XS.aloadN X0.here hx rfl (hb hby d18_0) rfl rfl) ?_
  show Goes p e below KK s₁ (mkF m 1 #[.val (.ref a1)] [(.ref a1)])
  obtain ⟨T132, X132, e132, st132⟩ := getF X0 hx hZ hown (host := "") (Or.inl w_59) Via.refl e0 F1s (g := (mkF m 1 #[.val (.ref a1)] [(.ref a1)])) rfl rfl (hb hby d18_1)
  refine Goes.of (st132) ?_
  show Goes p e below KK T132 (mkF m 4 #[.val (.ref a1)] [(.int (4 : Int32))])
  refine Goes.of (fun t => XS.ifYes X132.here hx rfl (pc0 := 4) (pc' := 17) rfl (hb hby d18_4) rfl ((if0 _ _).trans (feq (show ¬ ((4 : Int32) = (0 : Int32)) from by decide)).2) (by decide) (by decide)) ?_
  show Goes p e below KK T132 (mkF m 17 #[.val (.ref a1)] [])
  refine Goes.of (fun t => XS.aloadN X132.here hx rfl (hb hby d18_17) rfl rfl) ?_
  show Goes p e below KK T132 (mkF m 18 #[.val (.ref a1)] [(.ref a1)])
  refine Goes.of (fun t => XS.aloadN X132.here hx rfl (hb hby d18_18) rfl rfl) ?_
  show Goes p e below KK T132 (mkF m 19 #[.val (.ref a1)] [(.ref a1), (.ref a1)])
  obtain ⟨T133, X133, e133, st133⟩ := getF X132 hx hZ hown (host := "") (Or.inl w_59) Via.refl e132 F1s (g := (mkF m 19 #[.val (.ref a1)] [(.ref a1), (.ref a1)])) rfl rfl (hb hby d18_19)
  refine Goes.of (st133) ?_
  show Goes p e below KK T133 (mkF m 22 #[.val (.ref a1)] [(.int (4 : Int32)), (.ref a1)])
  refine Goes.of (fun t => XS.iconst X133.here hx rfl (hb hby d18_22)) ?_
  show Goes p e below KK T133 (mkF m 23 #[.val (.ref a1)] [(.int (1 : Int32)), (.int (4 : Int32)), (.ref a1)])
  refine Goes.of (fun t => XS.isub X133.here hx rfl (hb hby d18_23) rfl) ?_
  show Goes p e below KK T133 (mkF m 24 #[.val (.ref a1)] [(.int (3 : Int32)), (.ref a1)])
  obtain ⟨cq134, kq134, q134a, q134b, q134c⟩ := isOf hZ e133 E1
  obtain ⟨_, _, ⟨T134, L134, k134, n134⟩, -, X134, ⟨Lc134, hQ134, l134, y134, z134⟩, st134⟩ := X133.virtualBack hx (y := (⟨"corbel/structures/ArrayStack", "remove", "(I)Ljava/lang/Object;"⟩ : MethodName)) (z := (⟨"corbel/structures/ArrayStack", "remove", "(I)Ljava/lang/Object;"⟩ : MethodName)) hown (mvT hZ w_120) (mvT hZ w_121) (notFace_of_selects (args := #[]) (mvT hZ w_123)) (mvT hZ w_123) (mvT hZ w_122) (by decide) (backOf (W := 0) (rm19s4 l Z a0 hw [] a1 ar md y0 y1 y2 y3 h0 n0 Z0 E1 F1e F1s F1m A1 Ey_y0 Ey_y1 Ey_y2 Ey_y3 g_a1 g_ar) hZ w_124 w_2 (by decide) (by decide)) q134a q134c (g := (mkF m 24 #[.val (.ref a1)] [(.int (3 : Int32)), (.ref a1)])) rfl (by rw [hml]; rfl) (Steps.refl _) (argsL := [(.int (3 : Int32))]) (rest := []) (lenOf pd_16 rfl) rfl (by show 2 * 0 + _ ≤ _; exact Nat.le_of_eq rfl) (hb hby d18_24) (fun _ _ => ⟨rfl, e133, (by decide : 0 + 0 ≤ _), (by decide : 0 + 0 ≤ _)⟩)
  dsimp only [Pt.U, Pt.locs, Pt.cells, Pt.slots] at X134 l134 y134 z134 st134 hQ134
  subst l134 y134 z134
  obtain ⟨rfl, N134q, Kc134, E134, Fe134, Fs134, Fm134, A134⟩ := hQ134
  have N134 := Fr.app N0 N134q
  have E1_134 : Exa Z T134.heap a1 "corbel/structures/ArrayStack" := E1.keep Kc134
  have Ey_y0_134 : Exa Z T134.heap y0 "java/lang/Integer" := Ey_y0.keep Kc134
  have Ey_y1_134 : Exa Z T134.heap y1 "java/lang/Integer" := Ey_y1.keep Kc134
  have Ey_y2_134 : Exa Z T134.heap y2 "java/lang/Integer" := Ey_y2.keep Kc134
  have Ey_y3_134 : Exa Z T134.heap y3 "java/lang/Integer" := Ey_y3.keep Kc134
  have K134 : Keep h0 T134.heap [a1, ar] := (Keep.refl h0 [a1, ar]).trans Kc134 (allS (Or.inl (List.mem_of_getElem? (i := 0) rfl)) (allS (Or.inl (List.mem_of_getElem? (i := 1) rfl)) all0))
  have Z134 : n0 ≤ T134.heap.size := Nat.le_trans Z0 Kc134.1
  have e134 : T134.heap = T134.heap := rfl
  refine Goes.tr st134 ?_
  show Goes p e below KK T134 (mkF m 27 #[.val (.ref a1)] [(.ref y3)])
  rw [← hKK]
  refine Goes.retRef X134 hx hlk rfl rfl Bd.returns (hb hby d18_27) ?_ (by decide) (by decide)
  rw [e134]
  exact ⟨rfl, N134, K134, E134, Fe134, Fs134, Fm134, A134⟩
theorem pn_0 : plainFor (⟨"corbel/structures/ArrayStackGetPinLaw", "law", "(IIIIII)Z"⟩ : MethodName) = true := plainFor_of_name (by first | (simp [plainName, overriddenIn]; done) | decide +kernel)
theorem pd_48 : parseMethodDescriptor "(I)Ljava/lang/Integer;" = some ⟨[.int], some (.object "java/lang/Integer")⟩ := by decide +kernel
theorem pd_49 : parseMethodDescriptor "(Ljava/lang/Object;)Z" = some ⟨[(.object "java/lang/Object")], some .boolean⟩ := by decide +kernel
theorem pd_50 : parseMethodDescriptor "()I" = some ⟨[], some .int⟩ := by decide +kernel
theorem pd_51 : parseMethodDescriptor "()Ljava/lang/Object;" = some ⟨[], some (.object "java/lang/Object")⟩ := by decide +kernel
theorem ef_0 (m : MethodId) (x0 : Int32) (x1 : Int32) (x2 : Int32) (x3 : Int32) (x4 : Int32) (x5 : Int32) : entryFrame m #[(.int x0), (.int x1), (.int x2), (.int x3), (.int x4), (.int x5)] maxLocals = mkF m 0 #[.val (.int x0), .val (.int x1), .val (.int x2), .val (.int x3), .val (.int x4), .val (.int x5), .unset, .unset, .unset, .unset, .unset, .unset, .unset] [] := by first | (simp [entryFrame, mkF, argsToLocals, Value.category, maxLocals]; done) | rfl
def Q0 (Z : State) (p1 : Int32) (p2 : Int32) (p3 : Int32) (p4 : Int32) (p5 : Int32) (p6 : Int32) (ca : Addr) (cc : Cell) (mr : Addr) (h0 : Heap) (n0 : Nat) (v : Option Value) (h : Heap) (L : List Loc) : Prop := v = some (.int 1) ∧ Fr n0 L
set_option maxRecDepth 65536 in
set_option maxHeartbeats 40000000 in
theorem rm0 (l : Launch) (Z : State) (a0 : Array Value) (hw : ∀ d ∈ tables_1, d.before a0 Z = true) (ws : List Jvm.Cond) (p1 : Int32) (p2 : Int32) (p3 : Int32) (p4 : Int32) (p5 : Int32) (p6 : Int32) (ca : Addr) (cc : Cell) (mr : Addr) (h0 : Heap) (n0 : Nat) (Z0 : n0 ≤ h0.size) (hh0 : Z.heap = h0) (hn0 : n0 = h0.size) (Sh : Sta Z Z.heap "java/lang/Integer$IntegerCache" "high" "I" (.int (127 : Int32))) (Sc : Sta Z Z.heap "java/lang/Integer$IntegerCache" "cache" "[Ljava/lang/Integer;" (.ref ca)) (BX : Bxs Z ca cc "java/lang/Integer" "I" 256 (fun j => .int (j - 128))) (O0 : Old Z n0 h0) (M0 : Mir Z "[Ljava/lang/Object;" mr) :
    MetFree l x (head1 (Jvm.Cond.code x code maxLocals ret :: ws) room_1) (fun a U => a = #[(.int p1), (.int p2), (.int p3), (.int p4), (.int p5), (.int p6)] ∧ Z = U) (fun _ _ _ _ _ => True) (fun _ U o U' => ∃ v L, o = .returned v ∧ Q0 Z p1 p2 p3 p4 p5 p6 ca cc mr h0 n0 v U'.heap L ∧ ReturnedEndW U o U' L room_1.cells room_1.slots) := by
  refine MetFree.of_bodySF pn_0 hisR ?_
  intro p e s m args below meth c s₁ Bd hml0 hP hK
  obtain ⟨rfl, hs⟩ := hP
  have hZ : Z.Warmed39 s.vm := hs ▸ State.Warmed39.refl Z
  have hh : s.heap = h0 := by rw [← hs]; exact hh0
  have hx := Bd.exec
  have hby := Bd.bytes
  have hml : c.maxLocals = 13 := hml0
  have hown : s.vm.findClass "corbel/structures/ArrayStackGetPinLaw" = some m.cls := findClass_of_methodNamed Bd.named
  have hnm := (name_of_methodNamed Bd.named Bd.method).1
  have hlk : meth.locks = false := BodyLoose.notSynchronized Bd
  have X0 : Stand p l e room_1 s m #[(.int p1), (.int p2), (.int p3), (.int p4), (.int p5), (.int p6)] below meth c s₁ [] 0 0 := Stand.of_body Bd
  have e0 : s₁.heap = h0 := by rw [← hh, Bd.state]; rfl
  have N0 := Fr.nil n0
  have hZw : Z.Warmed39 (s.setVm s.vm).vm := hZ
  have hownw : (s.setVm s.vm).vm.findClass "corbel/structures/ArrayStackGetPinLaw" = some m.cls := hown
  have X0w : Stand p l e room_1 (s.setVm s.vm) m #[(.int p1), (.int p2), (.int p3), (.int p4), (.int p5), (.int p6)] below meth c s₁ [] 0 0 := X0
  have HS0 : s.Since s.vm h0.size := (State.WarmedH.refl s).since _
  have HK0 : h0.size ≤ h0.size := Nat.le_refl _
  show Goes p e below (OwnKW s (Q0 Z p1 p2 p3 p4 p5 p6 ca cc mr h0 n0) room_1.cells room_1.slots) s₁ (entryFrame m #[(.int p1), (.int p2), (.int p3), (.int p4), (.int p5), (.int p6)] maxLocals)
  refine Goes.cast (ef_0 m p1 p2 p3 p4 p5 p6) ?_
  generalize hKK : OwnKW s (Q0 Z p1 p2 p3 p4 p5 p6 ca cc mr h0 n0) room_1.cells room_1.slots = KK
  show Goes p e below KK s₁ (mkF m 0 #[.val (.int p1), .val (.int p2), .val (.int p3), .val (.int p4), .val (.int p5), .val (.int p6), .unset, .unset, .unset, .unset, .unset, .unset, .unset] [])
  have w_0 := hw _ (List.mem_of_getElem? (i := 0) rfl)
  have w_1 := hw _ (List.mem_of_getElem? (i := 1) rfl)
  have w_2 := hw _ (List.mem_of_getElem? (i := 2) rfl)
  have w_3 := hw _ (List.mem_of_getElem? (i := 3) rfl)
  have w_4 := hw _ (List.mem_of_getElem? (i := 4) rfl)
  have w_5 := hw _ (List.mem_of_getElem? (i := 5) rfl)
  have w_26 := hw _ (List.mem_of_getElem? (i := 26) rfl)
  have w_30 := hw _ (List.mem_of_getElem? (i := 30) rfl)
  have w_31 := hw _ (List.mem_of_getElem? (i := 31) rfl)
  have w_32 := hw _ (List.mem_of_getElem? (i := 32) rfl)
  have w_33 := hw _ (List.mem_of_getElem? (i := 33) rfl)
  have w_34 := hw _ (List.mem_of_getElem? (i := 34) rfl)
  have w_38 := hw _ (List.mem_of_getElem? (i := 38) rfl)
  have w_39 := hw _ (List.mem_of_getElem? (i := 39) rfl)
  have w_40 := hw _ (List.mem_of_getElem? (i := 40) rfl)
  have w_41 := hw _ (List.mem_of_getElem? (i := 41) rfl)
  have w_42 := hw _ (List.mem_of_getElem? (i := 42) rfl)
  have w_60 := hw _ (List.mem_of_getElem? (i := 60) rfl)
  have w_64 := hw _ (List.mem_of_getElem? (i := 64) rfl)
  have w_65 := hw _ (List.mem_of_getElem? (i := 65) rfl)
  have w_66 := hw _ (List.mem_of_getElem? (i := 66) rfl)
  have w_67 := hw _ (List.mem_of_getElem? (i := 67) rfl)
  have w_68 := hw _ (List.mem_of_getElem? (i := 68) rfl)
  have w_69 := hw _ (List.mem_of_getElem? (i := 69) rfl)
  have w_81 := hw _ (List.mem_of_getElem? (i := 81) rfl)
  have w_83 := hw _ (List.mem_of_getElem? (i := 83) rfl)
  have w_84 := hw _ (List.mem_of_getElem? (i := 84) rfl)
  have w_85 := hw _ (List.mem_of_getElem? (i := 85) rfl)
  have w_86 := hw _ (List.mem_of_getElem? (i := 86) rfl)
  have w_87 := hw _ (List.mem_of_getElem? (i := 87) rfl)
  have w_115 := hw _ (List.mem_of_getElem? (i := 115) rfl)
  have w_116 := hw _ (List.mem_of_getElem? (i := 116) rfl)
  have w_117 := hw _ (List.mem_of_getElem? (i := 117) rfl)
  have w_118 := hw _ (List.mem_of_getElem? (i := 118) rfl)
  have w_119 := hw _ (List.mem_of_getElem? (i := 119) rfl)
  refine Goes.of (fun t => XS.iconst X0w.here hx rfl (hb hby at_0)) ?_
  show Goes p e below KK s₁ (mkF m 1 #[.val (.int p1), .val (.int p2), .val (.int p3), .val (.int p4), .val (.int p5), .val (.int p6), .unset, .unset, .unset, .unset, .unset, .unset, .unset] [(.int (1 : Int32))])
  refine Goes.of (fun t => XS.iload X0w.here hx rfl (hb hby at_1) rfl) ?_
  show Goes p e below KK s₁ (mkF m 3 #[.val (.int p1), .val (.int p2), .val (.int p3), .val (.int p4), .val (.int p5), .val (.int p6), .unset, .unset, .unset, .unset, .unset, .unset, .unset] [(.int p5), (.int (1 : Int32))])
  refine Goes.of (fun t => XS.iconst X0w.here hx rfl (hb hby at_3)) ?_
  show Goes p e below KK s₁ (mkF m 4 #[.val (.int p1), .val (.int p2), .val (.int p3), .val (.int p4), .val (.int p5), .val (.int p6), .unset, .unset, .unset, .unset, .unset, .unset, .unset] [(.int (3 : Int32)), (.int p5), (.int (1 : Int32))])
  refine Goes.of (fun t => XS.iand X0w.here hx rfl (hb hby at_4) rfl) ?_
  show Goes p e below KK s₁ (mkF m 5 #[.val (.int p1), .val (.int p2), .val (.int p3), .val (.int p4), .val (.int p5), .val (.int p6), .unset, .unset, .unset, .unset, .unset, .unset, .unset] [(.int (p5 &&& (3 : Int32))), (.int (1 : Int32))])
  refine Goes.of (fun t => XS.iadd X0w.here hx rfl (hb hby at_5) rfl) ?_
  show Goes p e below KK s₁ (mkF m 6 #[.val (.int p1), .val (.int p2), .val (.int p3), .val (.int p4), .val (.int p5), .val (.int p6), .unset, .unset, .unset, .unset, .unset, .unset, .unset] [(.int ((1 : Int32) + (p5 &&& (3 : Int32))))])
  generalize e_kk : ((1 : Int32) + (p5 &&& (3 : Int32))) = kk
  show Goes p e below KK s₁ (mkF m 6 #[.val (.int p1), .val (.int p2), .val (.int p3), .val (.int p4), .val (.int p5), .val (.int p6), .unset, .unset, .unset, .unset, .unset, .unset, .unset] [(.int kk)])
  have hk1 : (p5 &&& 3).toInt = p5.toInt % 2 ^ 2 := Jvm.Kit.i32_mask p5 3 (k := 2) (by decide) (by decide)
  have z1 : (1 : Int32).toInt = 1 := rfl
  have hk2 : kk.toInt = 1 + (p5 &&& 3).toInt := by rw [← e_kk, Jvm.Kit.i32_add (by omega) (by omega), z1]
  have hk3 : kk = 1 ∨ kk = 2 ∨ kk = 3 ∨ kk = 4 := by
    have a1 : kk.toInt = 1 ∨ kk.toInt = 2 ∨ kk.toInt = 3 ∨ kk.toInt = 4 := by omega
    rcases a1 with q | q | q | q
    · exact Or.inl (Int32.toInt_inj.mp q)
    · exact Or.inr (Or.inl (Int32.toInt_inj.mp q))
    · exact Or.inr (Or.inr (Or.inl (Int32.toInt_inj.mp q)))
    · exact Or.inr (Or.inr (Or.inr (Int32.toInt_inj.mp q)))
  rcases hk3 with hk | hk | hk | hk
  · subst hk
    show Goes p e below KK s₁ (mkF m 6 #[.val (.int p1), .val (.int p2), .val (.int p3), .val (.int p4), .val (.int p5), .val (.int p6), .unset, .unset, .unset, .unset, .unset, .unset, .unset] [(.int (1 : Int32))])
    refine Goes.of (fun t => XS.istore X0w.here hx rfl (hb hby at_6) rfl (l' := #[.val (.int p1), .val (.int p2), .val (.int p3), .val (.int p4), .val (.int p5), .val (.int p6), .val (.int (1 : Int32)), .unset, .unset, .unset, .unset, .unset, .unset]) rfl) ?_
    show Goes p e below KK s₁ (mkF m 8 #[.val (.int p1), .val (.int p2), .val (.int p3), .val (.int p4), .val (.int p5), .val (.int p6), .val (.int (1 : Int32)), .unset, .unset, .unset, .unset, .unset, .unset] [])
    refine Goes.of (fun t => XS.iload X0w.here hx rfl (hb hby at_8) rfl) ?_
    show Goes p e below KK s₁ (mkF m 10 #[.val (.int p1), .val (.int p2), .val (.int p3), .val (.int p4), .val (.int p5), .val (.int p6), .val (.int (1 : Int32)), .unset, .unset, .unset, .unset, .unset, .unset] [(.int p5)])
    refine Goes.of (fun t => XS.iconst X0w.here hx rfl (hb hby at_10)) ?_
    show Goes p e below KK s₁ (mkF m 11 #[.val (.int p1), .val (.int p2), .val (.int p3), .val (.int p4), .val (.int p5), .val (.int p6), .val (.int (1 : Int32)), .unset, .unset, .unset, .unset, .unset, .unset] [(.int (2 : Int32)), (.int p5)])
    refine Goes.of (fun t => XT.iushr X0w.here hx rfl (hb hby at_11) rfl) ?_
    show Goes p e below KK s₁ (mkF m 12 #[.val (.int p1), .val (.int p2), .val (.int p3), .val (.int p4), .val (.int p5), .val (.int p6), .val (.int (1 : Int32)), .unset, .unset, .unset, .unset, .unset, .unset] [(.int (XT.ushr p5 (2 : Int32)))])
    refine Goes.of (fun t => XS.iconst X0w.here hx rfl (hb hby at_12)) ?_
    show Goes p e below KK s₁ (mkF m 13 #[.val (.int p1), .val (.int p2), .val (.int p3), .val (.int p4), .val (.int p5), .val (.int p6), .val (.int (1 : Int32)), .unset, .unset, .unset, .unset, .unset, .unset] [(.int (1 : Int32)), (.int (XT.ushr p5 (2 : Int32)))])
    refine Goes.of (fun t => XS.iand X0w.here hx rfl (hb hby at_13) rfl) ?_
    show Goes p e below KK s₁ (mkF m 14 #[.val (.int p1), .val (.int p2), .val (.int p3), .val (.int p4), .val (.int p5), .val (.int p6), .val (.int (1 : Int32)), .unset, .unset, .unset, .unset, .unset, .unset] [(.int ((XT.ushr p5 (2 : Int32)) &&& (1 : Int32)))])
    have j135 : ∀ t, Steps p.tables e below (s₁.setTop (mkF m 28 #[.val (.int p1), .val (.int p2), .val (.int p3), .val (.int p4), .val (.int p5), .val (.int p6), .val (.int (1 : Int32)), .unset, .unset, .unset, .unset, .unset, .unset] [(.int (0 : Int32))])) t → Steps p.tables e below (s₁.setTop (mkF m 14 #[.val (.int p1), .val (.int p2), .val (.int p3), .val (.int p4), .val (.int p5), .val (.int p6), .val (.int (1 : Int32)), .unset, .unset, .unset, .unset, .unset, .unset] [(.int ((XT.ushr p5 (2 : Int32)) &&& (1 : Int32)))])) t := by
      intro t k
      by_cases hc14 : ((XT.ushr p5 (2 : Int32)) &&& (1 : Int32)) = (0 : Int32)
      · refine XS.ifYes X0w.here hx rfl (pc0 := 14) (pc' := 27) rfl (hb hby at_14) rfl ((if0 _ _).trans (teq hc14).1) (by decide) (by decide) ?_
        show Steps p.tables e below (s₁.setTop (mkF m 27 #[.val (.int p1), .val (.int p2), .val (.int p3), .val (.int p4), .val (.int p5), .val (.int p6), .val (.int (1 : Int32)), .unset, .unset, .unset, .unset, .unset, .unset] [])) _
        refine XS.iconst X0w.here hx rfl (hb hby at_27) ?_
        show Steps p.tables e below (s₁.setTop (mkF m 28 #[.val (.int p1), .val (.int p2), .val (.int p3), .val (.int p4), .val (.int p5), .val (.int p6), .val (.int (1 : Int32)), .unset, .unset, .unset, .unset, .unset, .unset] [(.int (0 : Int32))])) _
        try rw [if_pos hc14] at k
        exact k
      · refine XS.ifNo X0w.here hx rfl (hb hby at_14) rfl ((if0 _ _).trans (feq hc14).1) ?_
        show Steps p.tables e below (s₁.setTop (mkF m 17 #[.val (.int p1), .val (.int p2), .val (.int p3), .val (.int p4), .val (.int p5), .val (.int p6), .val (.int (1 : Int32)), .unset, .unset, .unset, .unset, .unset, .unset] [])) _
        refine XS.iload X0w.here hx rfl (hb hby at_17) rfl ?_
        show Steps p.tables e below (s₁.setTop (mkF m 19 #[.val (.int p1), .val (.int p2), .val (.int p3), .val (.int p4), .val (.int p5), .val (.int p6), .val (.int (1 : Int32)), .unset, .unset, .unset, .unset, .unset, .unset] [(.int (1 : Int32))])) _
        refine XS.iconst X0w.here hx rfl (hb hby at_19) ?_
        show Steps p.tables e below (s₁.setTop (mkF m 20 #[.val (.int p1), .val (.int p2), .val (.int p3), .val (.int p4), .val (.int p5), .val (.int p6), .val (.int (1 : Int32)), .unset, .unset, .unset, .unset, .unset, .unset] [(.int (2 : Int32)), (.int (1 : Int32))])) _
        refine XS.icmpYes X0w.here hx rfl (pc0 := 20) (pc' := 27) rfl (hb hby at_20) rfl (tlt (show (1 : Int32) < (2 : Int32) from by decide)).1 (by decide) (by decide) ?_
        show Steps p.tables e below (s₁.setTop (mkF m 27 #[.val (.int p1), .val (.int p2), .val (.int p3), .val (.int p4), .val (.int p5), .val (.int p6), .val (.int (1 : Int32)), .unset, .unset, .unset, .unset, .unset, .unset] [])) _
        refine XS.iconst X0w.here hx rfl (hb hby at_27) ?_
        show Steps p.tables e below (s₁.setTop (mkF m 28 #[.val (.int p1), .val (.int p2), .val (.int p3), .val (.int p4), .val (.int p5), .val (.int p6), .val (.int (1 : Int32)), .unset, .unset, .unset, .unset, .unset, .unset] [(.int (0 : Int32))])) _
        try rw [if_neg hc14] at k
        exact k
    refine Goes.of j135 ?_
    show Goes p e below KK s₁ (mkF m 28 #[.val (.int p1), .val (.int p2), .val (.int p3), .val (.int p4), .val (.int p5), .val (.int p6), .val (.int (1 : Int32)), .unset, .unset, .unset, .unset, .unset, .unset] [(.int (0 : Int32))])
    refine Goes.of (fun t => XS.istore X0w.here hx rfl (hb hby at_28) rfl (l' := #[.val (.int p1), .val (.int p2), .val (.int p3), .val (.int p4), .val (.int p5), .val (.int p6), .val (.int (1 : Int32)), .val (.int (0 : Int32)), .unset, .unset, .unset, .unset, .unset]) rfl) ?_
    show Goes p e below KK s₁ (mkF m 30 #[.val (.int p1), .val (.int p2), .val (.int p3), .val (.int p4), .val (.int p5), .val (.int p6), .val (.int (1 : Int32)), .val (.int (0 : Int32)), .unset, .unset, .unset, .unset, .unset] [])
    obtain ⟨T136, h136, X136, e136, E136, A136, D136, -, st136⟩ := newO X0w hx hZw hownw w_0 w_1 w_2 e0 (g := (mkF m 30 #[.val (.int p1), .val (.int p2), .val (.int p3), .val (.int p4), .val (.int p5), .val (.int p6), .val (.int (1 : Int32)), .val (.int (0 : Int32)), .unset, .unset, .unset, .unset, .unset] [])) rfl (hb hby at_30) (by decide) (by decide)
    obtain ⟨b136, g136⟩ : ∃ z, z = h0.size := ⟨_, rfl⟩
    rw [← g136] at A136 D136 st136
    refine Goes.of (st136) ?_
    have g_b136 : n0 ≤ b136 := Nat.le_trans Z0 (Nat.le_of_eq g136.symm)
    have sz_b136 : h0.size ≤ b136 := Nat.le_trans (Keep.refl h0 []).1 (Nat.le_of_eq g136.symm)
    have O_136 : Old Z n0 h136 := O0.ext E136
    have K136 : Keep h0 h136 [] := (Keep.refl h0 []).ext E136
    have Z136 : n0 ≤ h136.size := Nat.le_trans Z0 E136.1
    have HK136 := Nat.le_trans HK0 E136.1
    have F_modCount_b136 : Fld Z h136 b136 "java/util/AbstractList" "modCount" "I" (.int (0 : Int32)) := D136 (Or.inl w_26) (ty := .int) (by decide)
    have F_elements_b136 : Fld Z h136 b136 "corbel/structures/ArrayStack" "elements" "[Ljava/lang/Object;" .null := D136 (Or.inl w_30) (ty := (.array (.object "java/lang/Object"))) (by decide)
    have F_size_b136 : Fld Z h136 b136 "corbel/structures/ArrayStack" "size" "I" (.int (0 : Int32)) := D136 (Or.inl w_60) (ty := .int) (by decide)
    show Goes p e below KK T136 (mkF m 33 #[.val (.int p1), .val (.int p2), .val (.int p3), .val (.int p4), .val (.int p5), .val (.int p6), .val (.int (1 : Int32)), .val (.int (0 : Int32)), .unset, .unset, .unset, .unset, .unset] [(.ref b136)])
    refine Goes.of (fun t => XS.dup X136.here hx rfl (hb hby at_33) rfl rfl) ?_
    show Goes p e below KK T136 (mkF m 34 #[.val (.int p1), .val (.int p2), .val (.int p3), .val (.int p4), .val (.int p5), .val (.int p6), .val (.int (1 : Int32)), .val (.int (0 : Int32)), .unset, .unset, .unset, .unset, .unset] [(.ref b136), (.ref b136)])
    obtain ⟨_, _, ⟨T137, L137, k137, n137⟩, -, X137, ⟨Lc137, hQ137, l137, y137, z137⟩, st137⟩ := X136.specialBack hx (y := (⟨"corbel/structures/ArrayStack", "<init>", "()V"⟩ : MethodName)) rfl hownw (mvT hZw w_3) (mvT hZw w_4) (mvT hZw w_5) (by decide) (backOf (W := 1) (rm1 l Z a0 hw [] b136  h136 n0 Z136 A136 F_elements_b136 F_size_b136 F_modCount_b136 g_b136) hZw w_5 w_2 (by decide) (by decide)) (g := (mkF m 34 #[.val (.int p1), .val (.int p2), .val (.int p3), .val (.int p4), .val (.int p5), .val (.int p6), .val (.int (1 : Int32)), .val (.int (0 : Int32)), .unset, .unset, .unset, .unset, .unset] [(.ref b136), (.ref b136)])) rfl (by rw [hml]; rfl) (Steps.refl _) (a := b136) (argsL := []) (rest := [(.ref b136)]) (lenOf pd_2 rfl) rfl (by show 2 * 0 + _ ≤ _; exact Nat.le_of_eq rfl) (hb hby at_34) (fun _ _ => ⟨rfl, e136, (by decide : 1 + 1 ≤ _), (by decide : 3 + 1 ≤ _)⟩)
    dsimp only [Pt.U, Pt.locs, Pt.cells, Pt.slots] at X137 l137 y137 z137 st137 hQ137
    subst l137 y137 z137
    obtain ⟨r137, rfl, N137q, Kc137, hb137, A137, E137, Fe137, Fs137, Fm137⟩ := hQ137
    have N137 := Fr.app N0 N137q
    have ne_b136_r137 : b136 ≠ r137 := Nat.ne_of_lt (Nat.lt_of_lt_of_le A136.lt hb137)
    have g_r137 : n0 ≤ r137 := Nat.le_trans Z136 hb137
    have sz_r137 : h0.size ≤ r137 := Nat.le_trans K136.1 hb137
    have O_137 : Old Z n0 T137.heap := O_136.keep Kc137 (allS g_b136 all0)
    have A136_137 : Exa Z T137.heap b136 "corbel/structures/ArrayStack" := A136.keep Kc137
    have K137 : Keep h0 T137.heap [] := K136.trans Kc137 (allS (Or.inr sz_b136) all0)
    have Z137 : n0 ≤ T137.heap.size := Nat.le_trans Z136 Kc137.1
    have HK137 := Nat.le_trans HK136 Kc137.1
    have e137 : T137.heap = T137.heap := rfl
    refine Goes.tr st137 ?_
    show Goes p e below KK T137 (mkF m 37 #[.val (.int p1), .val (.int p2), .val (.int p3), .val (.int p4), .val (.int p5), .val (.int p6), .val (.int (1 : Int32)), .val (.int (0 : Int32)), .unset, .unset, .unset, .unset, .unset] [(.ref b136)])
    refine Goes.of (fun t => XS.astore X137.here hx rfl (hb hby at_37) rfl rfl (l' := #[.val (.int p1), .val (.int p2), .val (.int p3), .val (.int p4), .val (.int p5), .val (.int p6), .val (.int (1 : Int32)), .val (.int (0 : Int32)), .val (.ref b136), .unset, .unset, .unset, .unset]) rfl) ?_
    show Goes p e below KK T137 (mkF m 39 #[.val (.int p1), .val (.int p2), .val (.int p3), .val (.int p4), .val (.int p5), .val (.int p6), .val (.int (1 : Int32)), .val (.int (0 : Int32)), .val (.ref b136), .unset, .unset, .unset, .unset] [])
    refine Goes.of (fun t => XS.aload X137.here hx rfl (hb hby at_39) rfl rfl) ?_
    show Goes p e below KK T137 (mkF m 41 #[.val (.int p1), .val (.int p2), .val (.int p3), .val (.int p4), .val (.int p5), .val (.int p6), .val (.int (1 : Int32)), .val (.int (0 : Int32)), .val (.ref b136), .unset, .unset, .unset, .unset] [(.ref b136)])
    refine Goes.of (fun t => XS.iloadN X137.here hx rfl (hb hby at_41) rfl) ?_
    show Goes p e below KK T137 (mkF m 42 #[.val (.int p1), .val (.int p2), .val (.int p3), .val (.int p4), .val (.int p5), .val (.int p6), .val (.int (1 : Int32)), .val (.int (0 : Int32)), .val (.ref b136), .unset, .unset, .unset, .unset] [(.int p1), (.ref b136)])
    obtain ⟨_, _, ⟨T138, L138, k138, n138⟩, -, X138, ⟨Lc138, hQ138, l138, y138, z138⟩, st138⟩ := Jvm.LawKit.callS X137 hx (y := (⟨"java/lang/Integer", "valueOf", "(I)Ljava/lang/Integer;"⟩ : MethodName)) hownw (mvT hZw w_31) (mvT hZw w_32) (mvT hZw w_33) (mvT hZw w_34) (by decide) (backOf (W := 1) (rm6 l Z a0 hw [] p1 ca cc T137.heap n0 Z137 (Sh.ext O_137.2) (Sc.ext O_137.2) BX O_137) hZw w_34 w_33 (by decide) (by decide)) (g := (mkF m 42 #[.val (.int p1), .val (.int p2), .val (.int p3), .val (.int p4), .val (.int p5), .val (.int p6), .val (.int (1 : Int32)), .val (.int (0 : Int32)), .val (.ref b136), .unset, .unset, .unset, .unset] [(.int p1), (.ref b136)])) rfl (by rw [hml]; rfl) (argsL := [(.int p1)]) (rest := [(.ref b136)]) (lenOf pd_48 rfl) rfl (by show 2 * 0 + _ ≤ _; exact Nat.le_of_eq rfl) (hb hby at_42) (fun _ _ => ⟨rfl, e137, (by decide : 2 + 1 ≤ _), (by decide : 4 + 1 ≤ _)⟩)
    dsimp only [Pt.U, Pt.locs, Pt.cells, Pt.slots] at X138 l138 y138 z138 st138 hQ138
    subst l138 y138 z138
    obtain ⟨r138, rfl, N138q, Kc138, E138, F138⟩ := hQ138
    have N138 := Fr.app N137 N138q
    have O_138 : Old Z n0 T138.heap := O_137.keep Kc138 all0
    have E137_138 : Exa Z T138.heap b136 "corbel/structures/ArrayStack" := E137.keep Kc138
    have Fe137_138 : Fld Z T138.heap b136 "corbel/structures/ArrayStack" "elements" "[Ljava/lang/Object;" (.ref r137) := Fe137.keep Kc138 nin0
    have Fs137_138 : Fld Z T138.heap b136 "corbel/structures/ArrayStack" "size" "I" (.int (0 : Int32)) := Fs137.keep Kc138 nin0
    have Fm137_138 : Fld Z T138.heap b136 "java/util/AbstractList" "modCount" "I" (.int (0 : Int32)) := Fm137.keep Kc138 nin0
    have A137_138 : AR Z T138.heap r137 [.null] := A137.keep Kc138 nin0
    have K138 : Keep h0 T138.heap [] := K137.trans Kc138 all0
    have Z138 : n0 ≤ T138.heap.size := Nat.le_trans Z137 Kc138.1
    have HK138 := Nat.le_trans HK137 Kc138.1
    have e138 : T138.heap = T138.heap := rfl
    refine Goes.of st138 ?_
    show Goes p e below KK T138 (mkF m 45 #[.val (.int p1), .val (.int p2), .val (.int p3), .val (.int p4), .val (.int p5), .val (.int p6), .val (.int (1 : Int32)), .val (.int (0 : Int32)), .val (.ref b136), .unset, .unset, .unset, .unset] [(.ref r138), (.ref b136)])
    obtain ⟨cq139, kq139, q139a, q139b, q139c⟩ := isOf hZw e138 E137_138
    obtain ⟨_, _, ⟨T139, L139, k139, n139⟩, -, X139, hSi139, hge139, ⟨Lc139, hQ139, l139, y139, z139⟩, st139⟩ := X138.virtualBackS hx (y := (⟨"corbel/structures/ArrayStack", "add", "(Ljava/lang/Object;)Z"⟩ : MethodName)) (z := (⟨"corbel/structures/ArrayStack", "add", "(Ljava/lang/Object;)Z"⟩ : MethodName)) hownw (mvT hZw w_38) (mvT hZw w_39) (notFace_of_selects (args := #[]) (mvT hZw w_41)) (mvT hZw w_41) (mvT hZw w_40) (by decide) (backOfS (W := 0) (rm7s0 l Z a0 hw [] b136 r138 r137 mr (0 : Int32)  T138.heap n0 Z138 E137_138 Fe137_138 Fs137_138 Fm137_138 A137_138 E138 g_b136 g_r137 M0) hZw w_42 w_2 (by decide) (by decide)) q139a q139c (g := (mkF m 45 #[.val (.int p1), .val (.int p2), .val (.int p3), .val (.int p4), .val (.int p5), .val (.int p6), .val (.int (1 : Int32)), .val (.int (0 : Int32)), .val (.ref b136), .unset, .unset, .unset, .unset] [(.ref r138), (.ref b136)])) rfl (by rw [hml]; rfl) (Steps.refl _) (argsL := [(.ref r138)]) (rest := []) (lenOf pd_49 rfl) rfl (by show 2 * 0 + _ ≤ _; exact Nat.le_of_eq rfl) (hb hby at_45) (fun _ _ => ⟨rfl, e138, (by decide : 3 + 2 ≤ _), (by decide : 5 + 32 ≤ _)⟩)
    dsimp only [Pt.U, Pt.locs, Pt.cells, Pt.slots] at X139 l139 y139 z139 st139 hQ139 hSi139 hge139
    subst l139 y139 z139
    obtain ⟨Y139, HS139, hZ139, hown139⟩ := rebS HS0 (by rw [e138]; exact HK138) X139 hSi139 hge139 hZw hownw
    have HK139 := Nat.le_refl T139.heap.size
    obtain ⟨r139, rfl, N139q, Kc139, hb139, E139, Fe139, Fs139, Fm139, A139⟩ := hQ139
    have N139 := Fr.app N138 N139q
    have g_r139 : n0 ≤ r139 := hb139.elim (fun q => q ▸ g_r137) (fun q => Nat.le_trans Z138 q)
    have sz_r139 : h0.size ≤ r139 := hb139.elim (fun q => q ▸ sz_r137) (fun q => Nat.le_trans K138.1 q)
    have O_139 : Old Z n0 T139.heap := O_138.keep Kc139 (allS g_b136 (allS g_r137 all0))
    have E137_138_139 : Exa Z T139.heap b136 "corbel/structures/ArrayStack" := E137_138.keep Kc139
    have E138_139 : Exa Z T139.heap r138 "java/lang/Integer" := E138.keep Kc139
    have F138_139 : Fld Z T139.heap r138 "java/lang/Integer" "value" "I" (.int p1) := F138.keep Kc139 (ninS (Exa.ne E138 E137_138 (by decide)) (ninS (Exa.ne E138 A137_138.exa (by decide)) nin0))
    have K139 : Keep h0 T139.heap [] := K138.trans Kc139 (allS (Or.inr sz_b136) (allS (Or.inr sz_r137) all0))
    have Z139 : n0 ≤ T139.heap.size := Nat.le_trans Z138 Kc139.1
    have e139 : T139.heap = T139.heap := rfl
    refine Goes.tr st139 ?_
    show Goes p e below KK T139 (mkF m 48 #[.val (.int p1), .val (.int p2), .val (.int p3), .val (.int p4), .val (.int p5), .val (.int p6), .val (.int (1 : Int32)), .val (.int (0 : Int32)), .val (.ref b136), .unset, .unset, .unset, .unset] [(.int (1 : Int32))])
    refine Goes.of (fun t => XT.pop Y139.here hx rfl (hb hby at_48) rfl rfl) ?_
    show Goes p e below KK T139 (mkF m 49 #[.val (.int p1), .val (.int p2), .val (.int p3), .val (.int p4), .val (.int p5), .val (.int p6), .val (.int (1 : Int32)), .val (.int (0 : Int32)), .val (.ref b136), .unset, .unset, .unset, .unset] [])
    refine Goes.of (fun t => XS.iload Y139.here hx rfl (hb hby at_49) rfl) ?_
    show Goes p e below KK T139 (mkF m 51 #[.val (.int p1), .val (.int p2), .val (.int p3), .val (.int p4), .val (.int p5), .val (.int p6), .val (.int (1 : Int32)), .val (.int (0 : Int32)), .val (.ref b136), .unset, .unset, .unset, .unset] [(.int (1 : Int32))])
    refine Goes.of (fun t => XS.iconst Y139.here hx rfl (hb hby at_51)) ?_
    show Goes p e below KK T139 (mkF m 52 #[.val (.int p1), .val (.int p2), .val (.int p3), .val (.int p4), .val (.int p5), .val (.int p6), .val (.int (1 : Int32)), .val (.int (0 : Int32)), .val (.ref b136), .unset, .unset, .unset, .unset] [(.int (2 : Int32)), (.int (1 : Int32))])
    refine Goes.of (fun t => XS.icmpYes Y139.here hx rfl (pc0 := 52) (pc' := 65) rfl (hb hby at_52) rfl (tlt (show (1 : Int32) < (2 : Int32) from by decide)).1 (by decide) (by decide)) ?_
    show Goes p e below KK T139 (mkF m 65 #[.val (.int p1), .val (.int p2), .val (.int p3), .val (.int p4), .val (.int p5), .val (.int p6), .val (.int (1 : Int32)), .val (.int (0 : Int32)), .val (.ref b136), .unset, .unset, .unset, .unset] [])
    refine Goes.of (fun t => XS.iload Y139.here hx rfl (hb hby at_65) rfl) ?_
    show Goes p e below KK T139 (mkF m 67 #[.val (.int p1), .val (.int p2), .val (.int p3), .val (.int p4), .val (.int p5), .val (.int p6), .val (.int (1 : Int32)), .val (.int (0 : Int32)), .val (.ref b136), .unset, .unset, .unset, .unset] [(.int (1 : Int32))])
    refine Goes.of (fun t => XS.iconst Y139.here hx rfl (hb hby at_67)) ?_
    show Goes p e below KK T139 (mkF m 68 #[.val (.int p1), .val (.int p2), .val (.int p3), .val (.int p4), .val (.int p5), .val (.int p6), .val (.int (1 : Int32)), .val (.int (0 : Int32)), .val (.ref b136), .unset, .unset, .unset, .unset] [(.int (3 : Int32)), (.int (1 : Int32))])
    refine Goes.of (fun t => XS.icmpYes Y139.here hx rfl (pc0 := 68) (pc' := 81) rfl (hb hby at_68) rfl (tlt (show (1 : Int32) < (3 : Int32) from by decide)).1 (by decide) (by decide)) ?_
    show Goes p e below KK T139 (mkF m 81 #[.val (.int p1), .val (.int p2), .val (.int p3), .val (.int p4), .val (.int p5), .val (.int p6), .val (.int (1 : Int32)), .val (.int (0 : Int32)), .val (.ref b136), .unset, .unset, .unset, .unset] [])
    refine Goes.of (fun t => XS.iload Y139.here hx rfl (hb hby at_81) rfl) ?_
    show Goes p e below KK T139 (mkF m 83 #[.val (.int p1), .val (.int p2), .val (.int p3), .val (.int p4), .val (.int p5), .val (.int p6), .val (.int (1 : Int32)), .val (.int (0 : Int32)), .val (.ref b136), .unset, .unset, .unset, .unset] [(.int (1 : Int32))])
    refine Goes.of (fun t => XS.iconst Y139.here hx rfl (hb hby at_83)) ?_
    show Goes p e below KK T139 (mkF m 84 #[.val (.int p1), .val (.int p2), .val (.int p3), .val (.int p4), .val (.int p5), .val (.int p6), .val (.int (1 : Int32)), .val (.int (0 : Int32)), .val (.ref b136), .unset, .unset, .unset, .unset] [(.int (4 : Int32)), (.int (1 : Int32))])
    refine Goes.of (fun t => XS.icmpYes Y139.here hx rfl (pc0 := 84) (pc' := 97) rfl (hb hby at_84) rfl (tlt (show (1 : Int32) < (4 : Int32) from by decide)).1 (by decide) (by decide)) ?_
    show Goes p e below KK T139 (mkF m 97 #[.val (.int p1), .val (.int p2), .val (.int p3), .val (.int p4), .val (.int p5), .val (.int p6), .val (.int (1 : Int32)), .val (.int (0 : Int32)), .val (.ref b136), .unset, .unset, .unset, .unset] [])
    refine Goes.of (fun t => XS.iload Y139.here hx rfl (hb hby at_97) rfl) ?_
    show Goes p e below KK T139 (mkF m 99 #[.val (.int p1), .val (.int p2), .val (.int p3), .val (.int p4), .val (.int p5), .val (.int p6), .val (.int (1 : Int32)), .val (.int (0 : Int32)), .val (.ref b136), .unset, .unset, .unset, .unset] [(.int (1 : Int32))])
    refine Goes.of (fun t => XS.istore Y139.here hx rfl (hb hby at_99) rfl (l' := #[.val (.int p1), .val (.int p2), .val (.int p3), .val (.int p4), .val (.int p5), .val (.int p6), .val (.int (1 : Int32)), .val (.int (0 : Int32)), .val (.ref b136), .val (.int (1 : Int32)), .unset, .unset, .unset]) rfl) ?_
    show Goes p e below KK T139 (mkF m 101 #[.val (.int p1), .val (.int p2), .val (.int p3), .val (.int p4), .val (.int p5), .val (.int p6), .val (.int (1 : Int32)), .val (.int (0 : Int32)), .val (.ref b136), .val (.int (1 : Int32)), .unset, .unset, .unset] [])
    refine Goes.of (fun t => XS.iload Y139.here hx rfl (hb hby at_101) rfl) ?_
    show Goes p e below KK T139 (mkF m 103 #[.val (.int p1), .val (.int p2), .val (.int p3), .val (.int p4), .val (.int p5), .val (.int p6), .val (.int (1 : Int32)), .val (.int (0 : Int32)), .val (.ref b136), .val (.int (1 : Int32)), .unset, .unset, .unset] [(.int (0 : Int32))])
    refine Goes.of (fun t => XS.ifYes Y139.here hx rfl (pc0 := 103) (pc' := 118) rfl (hb hby at_103) rfl ((if0 _ _).trans (teq (show (0 : Int32) = (0 : Int32) from by decide)).1) (by decide) (by decide)) ?_
    show Goes p e below KK T139 (mkF m 118 #[.val (.int p1), .val (.int p2), .val (.int p3), .val (.int p4), .val (.int p5), .val (.int p6), .val (.int (1 : Int32)), .val (.int (0 : Int32)), .val (.ref b136), .val (.int (1 : Int32)), .unset, .unset, .unset] [])
    refine Goes.of (fun t => XS.iload Y139.here hx rfl (hb hby at_118) rfl) ?_
    show Goes p e below KK T139 (mkF m 120 #[.val (.int p1), .val (.int p2), .val (.int p3), .val (.int p4), .val (.int p5), .val (.int p6), .val (.int (1 : Int32)), .val (.int (0 : Int32)), .val (.ref b136), .val (.int (1 : Int32)), .unset, .unset, .unset] [(.int p6)])
    refine Goes.of (Y139.ldcInt hx hown139 (mvT hZ139 w_64) (g := (mkF m 120 #[.val (.int p1), .val (.int p2), .val (.int p3), .val (.int p4), .val (.int p5), .val (.int p6), .val (.int (1 : Int32)), .val (.int (0 : Int32)), .val (.ref b136), .val (.int (1 : Int32)), .unset, .unset, .unset] [(.int p6)])) rfl (hb hby at_120)) ?_
    show Goes p e below KK T139 (mkF m 122 #[.val (.int p1), .val (.int p2), .val (.int p3), .val (.int p4), .val (.int p5), .val (.int p6), .val (.int (1 : Int32)), .val (.int (0 : Int32)), .val (.ref b136), .val (.int (1 : Int32)), .unset, .unset, .unset] [(.int (2147483647 : Int32)), (.int p6)])
    refine Goes.of (fun t => XS.iand Y139.here hx rfl (hb hby at_122) rfl) ?_
    show Goes p e below KK T139 (mkF m 123 #[.val (.int p1), .val (.int p2), .val (.int p3), .val (.int p4), .val (.int p5), .val (.int p6), .val (.int (1 : Int32)), .val (.int (0 : Int32)), .val (.ref b136), .val (.int (1 : Int32)), .unset, .unset, .unset] [(.int (p6 &&& (2147483647 : Int32)))])
    refine Goes.of (fun t => XS.iload Y139.here hx rfl (hb hby at_123) rfl) ?_
    show Goes p e below KK T139 (mkF m 125 #[.val (.int p1), .val (.int p2), .val (.int p3), .val (.int p4), .val (.int p5), .val (.int p6), .val (.int (1 : Int32)), .val (.int (0 : Int32)), .val (.ref b136), .val (.int (1 : Int32)), .unset, .unset, .unset] [(.int (1 : Int32)), (.int (p6 &&& (2147483647 : Int32)))])
    refine Goes.of (fun t => iremM Y139 hx rfl (hb hby at_125) rfl (by decide)) ?_
    show Goes p e below KK T139 (mkF m 126 #[.val (.int p1), .val (.int p2), .val (.int p3), .val (.int p4), .val (.int p5), .val (.int p6), .val (.int (1 : Int32)), .val (.int (0 : Int32)), .val (.ref b136), .val (.int (1 : Int32)), .unset, .unset, .unset] [(.int ((p6 &&& (2147483647 : Int32)) % (1 : Int32)))])
    generalize e_ix : ((p6 &&& (2147483647 : Int32)) % (1 : Int32)) = ix
    show Goes p e below KK T139 (mkF m 126 #[.val (.int p1), .val (.int p2), .val (.int p3), .val (.int p4), .val (.int p5), .val (.int p6), .val (.int (1 : Int32)), .val (.int (0 : Int32)), .val (.ref b136), .val (.int (1 : Int32)), .unset, .unset, .unset] [(.int ix)])
    have hi1_140 : (p6 &&& 2147483647).toInt = p6.toInt % 2 ^ 31 := Jvm.Kit.i32_mask p6 2147483647 (k := 31) (by decide) (by decide)
    have hi2_140 : ix.toInt = (p6 &&& 2147483647).toInt % 1 := by rw [← e_ix]; exact Jvm.Kit.i32_rem_nonneg (by omega)
    have hi3_140 : ix = 0 := by
      have a1 : ix.toInt = 0 := by omega
      exact Int32.toInt_inj.mp a1
    have hi := hi3_140
    subst hi
    show Goes p e below KK T139 (mkF m 126 #[.val (.int p1), .val (.int p2), .val (.int p3), .val (.int p4), .val (.int p5), .val (.int p6), .val (.int (1 : Int32)), .val (.int (0 : Int32)), .val (.ref b136), .val (.int (1 : Int32)), .unset, .unset, .unset] [(.int (0 : Int32))])
    refine Goes.of (fun t => XS.istore Y139.here hx rfl (hb hby at_126) rfl (l' := #[.val (.int p1), .val (.int p2), .val (.int p3), .val (.int p4), .val (.int p5), .val (.int p6), .val (.int (1 : Int32)), .val (.int (0 : Int32)), .val (.ref b136), .val (.int (1 : Int32)), .val (.int (0 : Int32)), .unset, .unset]) rfl) ?_
    show Goes p e below KK T139 (mkF m 128 #[.val (.int p1), .val (.int p2), .val (.int p3), .val (.int p4), .val (.int p5), .val (.int p6), .val (.int (1 : Int32)), .val (.int (0 : Int32)), .val (.ref b136), .val (.int (1 : Int32)), .val (.int (0 : Int32)), .unset, .unset] [])
    refine Goes.of (fun t => XS.iload Y139.here hx rfl (hb hby at_128) rfl) ?_
    show Goes p e below KK T139 (mkF m 130 #[.val (.int p1), .val (.int p2), .val (.int p3), .val (.int p4), .val (.int p5), .val (.int p6), .val (.int (1 : Int32)), .val (.int (0 : Int32)), .val (.ref b136), .val (.int (1 : Int32)), .val (.int (0 : Int32)), .unset, .unset] [(.int (0 : Int32))])
    refine Goes.of (fun t => XS.ifNo Y139.here hx rfl (hb hby at_130) rfl ((if0 _ _).trans (teq (show (0 : Int32) = (0 : Int32) from by decide)).2)) ?_
    show Goes p e below KK T139 (mkF m 133 #[.val (.int p1), .val (.int p2), .val (.int p3), .val (.int p4), .val (.int p5), .val (.int p6), .val (.int (1 : Int32)), .val (.int (0 : Int32)), .val (.ref b136), .val (.int (1 : Int32)), .val (.int (0 : Int32)), .unset, .unset] [])
    refine Goes.of (fun t => XS.iloadN Y139.here hx rfl (hb hby at_133) rfl) ?_
    show Goes p e below KK T139 (mkF m 134 #[.val (.int p1), .val (.int p2), .val (.int p3), .val (.int p4), .val (.int p5), .val (.int p6), .val (.int (1 : Int32)), .val (.int (0 : Int32)), .val (.ref b136), .val (.int (1 : Int32)), .val (.int (0 : Int32)), .unset, .unset] [(.int p1)])
    refine Goes.of (fun t => XS.istore Y139.here hx rfl (hb hby at_134) rfl (l' := #[.val (.int p1), .val (.int p2), .val (.int p3), .val (.int p4), .val (.int p5), .val (.int p6), .val (.int (1 : Int32)), .val (.int (0 : Int32)), .val (.ref b136), .val (.int (1 : Int32)), .val (.int (0 : Int32)), .val (.int p1), .unset]) rfl) ?_
    show Goes p e below KK T139 (mkF m 136 #[.val (.int p1), .val (.int p2), .val (.int p3), .val (.int p4), .val (.int p5), .val (.int p6), .val (.int (1 : Int32)), .val (.int (0 : Int32)), .val (.ref b136), .val (.int (1 : Int32)), .val (.int (0 : Int32)), .val (.int p1), .unset] [])
    refine Goes.of (fun t => XS.goto Y139.here hx rfl (pc0 := 136) (pc' := 166) rfl (hb hby at_136) (by decide) (by decide)) ?_
    show Goes p e below KK T139 (mkF m 166 #[.val (.int p1), .val (.int p2), .val (.int p3), .val (.int p4), .val (.int p5), .val (.int p6), .val (.int (1 : Int32)), .val (.int (0 : Int32)), .val (.ref b136), .val (.int (1 : Int32)), .val (.int (0 : Int32)), .val (.int p1), .unset] [])
    refine Goes.of (fun t => XS.aload Y139.here hx rfl (hb hby at_166) rfl rfl) ?_
    show Goes p e below KK T139 (mkF m 168 #[.val (.int p1), .val (.int p2), .val (.int p3), .val (.int p4), .val (.int p5), .val (.int p6), .val (.int (1 : Int32)), .val (.int (0 : Int32)), .val (.ref b136), .val (.int (1 : Int32)), .val (.int (0 : Int32)), .val (.int p1), .unset] [(.ref b136)])
    refine Goes.of (fun t => XS.iload Y139.here hx rfl (hb hby at_168) rfl) ?_
    show Goes p e below KK T139 (mkF m 170 #[.val (.int p1), .val (.int p2), .val (.int p3), .val (.int p4), .val (.int p5), .val (.int p6), .val (.int (1 : Int32)), .val (.int (0 : Int32)), .val (.ref b136), .val (.int (1 : Int32)), .val (.int (0 : Int32)), .val (.int p1), .unset] [(.int (0 : Int32)), (.ref b136)])
    obtain ⟨cq141, kq141, q141a, q141b, q141c⟩ := isOf hZ139 e139 E139
    obtain ⟨_, _, ⟨T141, L141, k141, n141⟩, -, X141, ⟨Lc141, hQ141, l141, y141, z141⟩, st141⟩ := Y139.virtualBack hx (y := (⟨"corbel/structures/ArrayStack", "get", "(I)Ljava/lang/Object;"⟩ : MethodName)) (z := (⟨"corbel/structures/ArrayStack", "get", "(I)Ljava/lang/Object;"⟩ : MethodName)) hown139 (mvT hZ139 w_65) (mvT hZ139 w_66) (notFace_of_selects (args := #[]) (mvT hZ139 w_68)) (mvT hZ139 w_68) (mvT hZ139 w_67) (by decide) (backOf (W := 0) (rm10 l Z a0 hw [] b136 (0 : Int32) r139 [(.ref r138)] 0 r138 (1 : Int32) T139.heap n0 Z139 E139 Fe139 Fs139 A139 (by decide) (by decide) rfl rfl) hZ139 w_69 w_2 (by decide) (by decide)) q141a q141c (g := (mkF m 170 #[.val (.int p1), .val (.int p2), .val (.int p3), .val (.int p4), .val (.int p5), .val (.int p6), .val (.int (1 : Int32)), .val (.int (0 : Int32)), .val (.ref b136), .val (.int (1 : Int32)), .val (.int (0 : Int32)), .val (.int p1), .unset] [(.int (0 : Int32)), (.ref b136)])) rfl (by rw [hml]; rfl) (Steps.refl _) (argsL := [(.int (0 : Int32))]) (rest := []) (lenOf pd_16 rfl) rfl (by show 2 * 0 + _ ≤ _; exact Nat.le_of_eq rfl) (hb hby at_170) (fun _ _ => ⟨rfl, e139, (by decide : 5 + 0 ≤ _), (by decide : 37 + 0 ≤ _)⟩)
    dsimp only [Pt.U, Pt.locs, Pt.cells, Pt.slots] at X141 l141 y141 z141 st141 hQ141
    subst l141 y141 z141
    obtain ⟨rfl, N141q, e141⟩ := hQ141
    have N141 := Fr.app N139 N141q
    refine Goes.tr st141 ?_
    show Goes p e below KK T141 (mkF m 173 #[.val (.int p1), .val (.int p2), .val (.int p3), .val (.int p4), .val (.int p5), .val (.int p6), .val (.int (1 : Int32)), .val (.int (0 : Int32)), .val (.ref b136), .val (.int (1 : Int32)), .val (.int (0 : Int32)), .val (.int p1), .unset] [(.ref r138)])
    obtain ⟨T142, X142, e142, st142⟩ := castY X141 hx hZ139 hown139 w_81 e141 (Ins.self E138_139) (g := (mkF m 173 #[.val (.int p1), .val (.int p2), .val (.int p3), .val (.int p4), .val (.int p5), .val (.int p6), .val (.int (1 : Int32)), .val (.int (0 : Int32)), .val (.ref b136), .val (.int (1 : Int32)), .val (.int (0 : Int32)), .val (.int p1), .unset] [(.ref r138)])) rfl rfl (hb hby at_173)
    refine Goes.of (st142) ?_
    show Goes p e below KK T142 (mkF m 176 #[.val (.int p1), .val (.int p2), .val (.int p3), .val (.int p4), .val (.int p5), .val (.int p6), .val (.int (1 : Int32)), .val (.int (0 : Int32)), .val (.ref b136), .val (.int (1 : Int32)), .val (.int (0 : Int32)), .val (.int p1), .unset] [(.ref r138)])
    refine Goes.of (fun t => XS.astore X142.here hx rfl (hb hby at_176) rfl rfl (l' := #[.val (.int p1), .val (.int p2), .val (.int p3), .val (.int p4), .val (.int p5), .val (.int p6), .val (.int (1 : Int32)), .val (.int (0 : Int32)), .val (.ref b136), .val (.int (1 : Int32)), .val (.int (0 : Int32)), .val (.int p1), .val (.ref r138)]) rfl) ?_
    show Goes p e below KK T142 (mkF m 178 #[.val (.int p1), .val (.int p2), .val (.int p3), .val (.int p4), .val (.int p5), .val (.int p6), .val (.int (1 : Int32)), .val (.int (0 : Int32)), .val (.ref b136), .val (.int (1 : Int32)), .val (.int (0 : Int32)), .val (.int p1), .val (.ref r138)] [])
    refine Goes.of (fun t => XS.aload X142.here hx rfl (hb hby at_178) rfl rfl) ?_
    show Goes p e below KK T142 (mkF m 180 #[.val (.int p1), .val (.int p2), .val (.int p3), .val (.int p4), .val (.int p5), .val (.int p6), .val (.int (1 : Int32)), .val (.int (0 : Int32)), .val (.ref b136), .val (.int (1 : Int32)), .val (.int (0 : Int32)), .val (.int p1), .val (.ref r138)] [(.ref r138)])
    refine Goes.of (fun t => XS.ifnullNo X142.here hx rfl (hb hby at_180) rfl) ?_
    show Goes p e below KK T142 (mkF m 183 #[.val (.int p1), .val (.int p2), .val (.int p3), .val (.int p4), .val (.int p5), .val (.int p6), .val (.int (1 : Int32)), .val (.int (0 : Int32)), .val (.ref b136), .val (.int (1 : Int32)), .val (.int (0 : Int32)), .val (.int p1), .val (.ref r138)] [])
    refine Goes.of (fun t => XS.aload X142.here hx rfl (hb hby at_183) rfl rfl) ?_
    show Goes p e below KK T142 (mkF m 185 #[.val (.int p1), .val (.int p2), .val (.int p3), .val (.int p4), .val (.int p5), .val (.int p6), .val (.int (1 : Int32)), .val (.int (0 : Int32)), .val (.ref b136), .val (.int (1 : Int32)), .val (.int (0 : Int32)), .val (.int p1), .val (.ref r138)] [(.ref r138)])
    obtain ⟨cq143, kq143, q143a, q143b, q143c⟩ := isOf hZ139 e142 E138_139
    obtain ⟨_, _, ⟨T143, L143, k143, n143⟩, -, X143, ⟨Lc143, hQ143, l143, y143, z143⟩, st143⟩ := X142.virtualBack hx (y := (⟨"java/lang/Integer", "intValue", "()I"⟩ : MethodName)) (z := (⟨"java/lang/Integer", "intValue", "()I"⟩ : MethodName)) hown139 (mvT hZ139 w_83) (mvT hZ139 w_84) (notFace_of_selects (args := #[]) (mvT hZ139 w_86)) (mvT hZ139 w_86) (mvT hZ139 w_85) (by decide) (backOf (W := 0) (rm14 l Z a0 hw [] r138 p1 T139.heap n0 Z139 F138_139) hZ139 w_87 w_33 (by decide) (by decide)) q143a q143c (g := (mkF m 185 #[.val (.int p1), .val (.int p2), .val (.int p3), .val (.int p4), .val (.int p5), .val (.int p6), .val (.int (1 : Int32)), .val (.int (0 : Int32)), .val (.ref b136), .val (.int (1 : Int32)), .val (.int (0 : Int32)), .val (.int p1), .val (.ref r138)] [(.ref r138)])) rfl (by rw [hml]; rfl) (Steps.refl _) (argsL := []) (rest := []) (lenOf pd_50 rfl) rfl (by show 2 * 0 + _ ≤ _; exact Nat.le_of_eq rfl) (hb hby at_185) (fun _ _ => ⟨rfl, e142, (by decide : 5 + 0 ≤ _), (by decide : 37 + 0 ≤ _)⟩)
    dsimp only [Pt.U, Pt.locs, Pt.cells, Pt.slots] at X143 l143 y143 z143 st143 hQ143
    subst l143 y143 z143
    obtain ⟨rfl, N143q, e143⟩ := hQ143
    have N143 := Fr.app N141 N143q
    refine Goes.tr st143 ?_
    show Goes p e below KK T143 (mkF m 188 #[.val (.int p1), .val (.int p2), .val (.int p3), .val (.int p4), .val (.int p5), .val (.int p6), .val (.int (1 : Int32)), .val (.int (0 : Int32)), .val (.ref b136), .val (.int (1 : Int32)), .val (.int (0 : Int32)), .val (.int p1), .val (.ref r138)] [(.int p1)])
    refine Goes.of (fun t => XS.iload X143.here hx rfl (hb hby at_188) rfl) ?_
    show Goes p e below KK T143 (mkF m 190 #[.val (.int p1), .val (.int p2), .val (.int p3), .val (.int p4), .val (.int p5), .val (.int p6), .val (.int (1 : Int32)), .val (.int (0 : Int32)), .val (.ref b136), .val (.int (1 : Int32)), .val (.int (0 : Int32)), .val (.int p1), .val (.ref r138)] [(.int p1), (.int p1)])
    refine Goes.of (fun t => XS.icmpNo X143.here hx rfl (hb hby at_190) rfl (teq (show p1 = p1 from rfl)).2) ?_
    show Goes p e below KK T143 (mkF m 193 #[.val (.int p1), .val (.int p2), .val (.int p3), .val (.int p4), .val (.int p5), .val (.int p6), .val (.int (1 : Int32)), .val (.int (0 : Int32)), .val (.ref b136), .val (.int (1 : Int32)), .val (.int (0 : Int32)), .val (.int p1), .val (.ref r138)] [])
    refine Goes.of (fun t => XS.iconst X143.here hx rfl (hb hby at_193)) ?_
    show Goes p e below KK T143 (mkF m 194 #[.val (.int p1), .val (.int p2), .val (.int p3), .val (.int p4), .val (.int p5), .val (.int p6), .val (.int (1 : Int32)), .val (.int (0 : Int32)), .val (.ref b136), .val (.int (1 : Int32)), .val (.int (0 : Int32)), .val (.int p1), .val (.ref r138)] [(.int (1 : Int32))])
    refine Goes.of (fun t => XS.goto X143.here hx rfl (pc0 := 194) (pc' := 198) rfl (hb hby at_194) (by decide) (by decide)) ?_
    show Goes p e below KK T143 (mkF m 198 #[.val (.int p1), .val (.int p2), .val (.int p3), .val (.int p4), .val (.int p5), .val (.int p6), .val (.int (1 : Int32)), .val (.int (0 : Int32)), .val (.ref b136), .val (.int (1 : Int32)), .val (.int (0 : Int32)), .val (.int p1), .val (.ref r138)] [(.int (1 : Int32))])
    rw [← hKK]
    refine Goes.retNarW X143 HS139 (by rw [e143]; exact HK139) hx hlk (t := .boolean) (by simp) Bd.returns (hb hby at_198) ?_ (by decide) (by decide)
    rw [e143]
    exact ⟨rfl, N143⟩
  · subst hk
    show Goes p e below KK s₁ (mkF m 6 #[.val (.int p1), .val (.int p2), .val (.int p3), .val (.int p4), .val (.int p5), .val (.int p6), .unset, .unset, .unset, .unset, .unset, .unset, .unset] [(.int (2 : Int32))])
    refine Goes.of (fun t => XS.istore X0w.here hx rfl (hb hby at_6) rfl (l' := #[.val (.int p1), .val (.int p2), .val (.int p3), .val (.int p4), .val (.int p5), .val (.int p6), .val (.int (2 : Int32)), .unset, .unset, .unset, .unset, .unset, .unset]) rfl) ?_
    show Goes p e below KK s₁ (mkF m 8 #[.val (.int p1), .val (.int p2), .val (.int p3), .val (.int p4), .val (.int p5), .val (.int p6), .val (.int (2 : Int32)), .unset, .unset, .unset, .unset, .unset, .unset] [])
    refine Goes.of (fun t => XS.iload X0w.here hx rfl (hb hby at_8) rfl) ?_
    show Goes p e below KK s₁ (mkF m 10 #[.val (.int p1), .val (.int p2), .val (.int p3), .val (.int p4), .val (.int p5), .val (.int p6), .val (.int (2 : Int32)), .unset, .unset, .unset, .unset, .unset, .unset] [(.int p5)])
    refine Goes.of (fun t => XS.iconst X0w.here hx rfl (hb hby at_10)) ?_
    show Goes p e below KK s₁ (mkF m 11 #[.val (.int p1), .val (.int p2), .val (.int p3), .val (.int p4), .val (.int p5), .val (.int p6), .val (.int (2 : Int32)), .unset, .unset, .unset, .unset, .unset, .unset] [(.int (2 : Int32)), (.int p5)])
    refine Goes.of (fun t => XT.iushr X0w.here hx rfl (hb hby at_11) rfl) ?_
    show Goes p e below KK s₁ (mkF m 12 #[.val (.int p1), .val (.int p2), .val (.int p3), .val (.int p4), .val (.int p5), .val (.int p6), .val (.int (2 : Int32)), .unset, .unset, .unset, .unset, .unset, .unset] [(.int (XT.ushr p5 (2 : Int32)))])
    refine Goes.of (fun t => XS.iconst X0w.here hx rfl (hb hby at_12)) ?_
    show Goes p e below KK s₁ (mkF m 13 #[.val (.int p1), .val (.int p2), .val (.int p3), .val (.int p4), .val (.int p5), .val (.int p6), .val (.int (2 : Int32)), .unset, .unset, .unset, .unset, .unset, .unset] [(.int (1 : Int32)), (.int (XT.ushr p5 (2 : Int32)))])
    refine Goes.of (fun t => XS.iand X0w.here hx rfl (hb hby at_13) rfl) ?_
    show Goes p e below KK s₁ (mkF m 14 #[.val (.int p1), .val (.int p2), .val (.int p3), .val (.int p4), .val (.int p5), .val (.int p6), .val (.int (2 : Int32)), .unset, .unset, .unset, .unset, .unset, .unset] [(.int ((XT.ushr p5 (2 : Int32)) &&& (1 : Int32)))])
    have j144 : ∀ t, Steps p.tables e below (s₁.setTop (mkF m 28 #[.val (.int p1), .val (.int p2), .val (.int p3), .val (.int p4), .val (.int p5), .val (.int p6), .val (.int (2 : Int32)), .unset, .unset, .unset, .unset, .unset, .unset] [(.int (if ((XT.ushr p5 (2 : Int32)) &&& (1 : Int32)) = (0 : Int32) then (0 : Int32) else (1 : Int32)))])) t → Steps p.tables e below (s₁.setTop (mkF m 14 #[.val (.int p1), .val (.int p2), .val (.int p3), .val (.int p4), .val (.int p5), .val (.int p6), .val (.int (2 : Int32)), .unset, .unset, .unset, .unset, .unset, .unset] [(.int ((XT.ushr p5 (2 : Int32)) &&& (1 : Int32)))])) t := by
      intro t k
      by_cases hc14_2 : ((XT.ushr p5 (2 : Int32)) &&& (1 : Int32)) = (0 : Int32)
      · refine XS.ifYes X0w.here hx rfl (pc0 := 14) (pc' := 27) rfl (hb hby at_14) rfl ((if0 _ _).trans (teq hc14_2).1) (by decide) (by decide) ?_
        show Steps p.tables e below (s₁.setTop (mkF m 27 #[.val (.int p1), .val (.int p2), .val (.int p3), .val (.int p4), .val (.int p5), .val (.int p6), .val (.int (2 : Int32)), .unset, .unset, .unset, .unset, .unset, .unset] [])) _
        refine XS.iconst X0w.here hx rfl (hb hby at_27) ?_
        show Steps p.tables e below (s₁.setTop (mkF m 28 #[.val (.int p1), .val (.int p2), .val (.int p3), .val (.int p4), .val (.int p5), .val (.int p6), .val (.int (2 : Int32)), .unset, .unset, .unset, .unset, .unset, .unset] [(.int (0 : Int32))])) _
        try rw [if_pos hc14_2] at k
        exact k
      · refine XS.ifNo X0w.here hx rfl (hb hby at_14) rfl ((if0 _ _).trans (feq hc14_2).1) ?_
        show Steps p.tables e below (s₁.setTop (mkF m 17 #[.val (.int p1), .val (.int p2), .val (.int p3), .val (.int p4), .val (.int p5), .val (.int p6), .val (.int (2 : Int32)), .unset, .unset, .unset, .unset, .unset, .unset] [])) _
        refine XS.iload X0w.here hx rfl (hb hby at_17) rfl ?_
        show Steps p.tables e below (s₁.setTop (mkF m 19 #[.val (.int p1), .val (.int p2), .val (.int p3), .val (.int p4), .val (.int p5), .val (.int p6), .val (.int (2 : Int32)), .unset, .unset, .unset, .unset, .unset, .unset] [(.int (2 : Int32))])) _
        refine XS.iconst X0w.here hx rfl (hb hby at_19) ?_
        show Steps p.tables e below (s₁.setTop (mkF m 20 #[.val (.int p1), .val (.int p2), .val (.int p3), .val (.int p4), .val (.int p5), .val (.int p6), .val (.int (2 : Int32)), .unset, .unset, .unset, .unset, .unset, .unset] [(.int (2 : Int32)), (.int (2 : Int32))])) _
        refine XS.icmpNo X0w.here hx rfl (hb hby at_20) rfl (flt (show ¬ ((2 : Int32) < (2 : Int32)) from by decide)).1 ?_
        show Steps p.tables e below (s₁.setTop (mkF m 23 #[.val (.int p1), .val (.int p2), .val (.int p3), .val (.int p4), .val (.int p5), .val (.int p6), .val (.int (2 : Int32)), .unset, .unset, .unset, .unset, .unset, .unset] [])) _
        refine XS.iconst X0w.here hx rfl (hb hby at_23) ?_
        show Steps p.tables e below (s₁.setTop (mkF m 24 #[.val (.int p1), .val (.int p2), .val (.int p3), .val (.int p4), .val (.int p5), .val (.int p6), .val (.int (2 : Int32)), .unset, .unset, .unset, .unset, .unset, .unset] [(.int (1 : Int32))])) _
        refine XS.goto X0w.here hx rfl (pc0 := 24) (pc' := 28) rfl (hb hby at_24) (by decide) (by decide) ?_
        show Steps p.tables e below (s₁.setTop (mkF m 28 #[.val (.int p1), .val (.int p2), .val (.int p3), .val (.int p4), .val (.int p5), .val (.int p6), .val (.int (2 : Int32)), .unset, .unset, .unset, .unset, .unset, .unset] [(.int (1 : Int32))])) _
        try rw [if_neg hc14_2] at k
        exact k
    refine Goes.of j144 ?_
    show Goes p e below KK s₁ (mkF m 28 #[.val (.int p1), .val (.int p2), .val (.int p3), .val (.int p4), .val (.int p5), .val (.int p6), .val (.int (2 : Int32)), .unset, .unset, .unset, .unset, .unset, .unset] [(.int (if ((XT.ushr p5 (2 : Int32)) &&& (1 : Int32)) = (0 : Int32) then (0 : Int32) else (1 : Int32)))])
    refine Goes.of (fun t => XS.istore X0w.here hx rfl (hb hby at_28) rfl (l' := #[.val (.int p1), .val (.int p2), .val (.int p3), .val (.int p4), .val (.int p5), .val (.int p6), .val (.int (2 : Int32)), .val (.int (if ((XT.ushr p5 (2 : Int32)) &&& (1 : Int32)) = (0 : Int32) then (0 : Int32) else (1 : Int32))), .unset, .unset, .unset, .unset, .unset]) rfl) ?_
    show Goes p e below KK s₁ (mkF m 30 #[.val (.int p1), .val (.int p2), .val (.int p3), .val (.int p4), .val (.int p5), .val (.int p6), .val (.int (2 : Int32)), .val (.int (if ((XT.ushr p5 (2 : Int32)) &&& (1 : Int32)) = (0 : Int32) then (0 : Int32) else (1 : Int32))), .unset, .unset, .unset, .unset, .unset] [])
    obtain ⟨T145, h145, X145, e145, E145, A145, D145, -, st145⟩ := newO X0w hx hZw hownw w_0 w_1 w_2 e0 (g := (mkF m 30 #[.val (.int p1), .val (.int p2), .val (.int p3), .val (.int p4), .val (.int p5), .val (.int p6), .val (.int (2 : Int32)), .val (.int (if ((XT.ushr p5 (2 : Int32)) &&& (1 : Int32)) = (0 : Int32) then (0 : Int32) else (1 : Int32))), .unset, .unset, .unset, .unset, .unset] [])) rfl (hb hby at_30) (by decide) (by decide)
    obtain ⟨b145, g145⟩ : ∃ z, z = h0.size := ⟨_, rfl⟩
    rw [← g145] at A145 D145 st145
    refine Goes.of (st145) ?_
    have g_b145 : n0 ≤ b145 := Nat.le_trans Z0 (Nat.le_of_eq g145.symm)
    have sz_b145 : h0.size ≤ b145 := Nat.le_trans (Keep.refl h0 []).1 (Nat.le_of_eq g145.symm)
    have O_145 : Old Z n0 h145 := O0.ext E145
    have K145 : Keep h0 h145 [] := (Keep.refl h0 []).ext E145
    have Z145 : n0 ≤ h145.size := Nat.le_trans Z0 E145.1
    have HK145 := Nat.le_trans HK0 E145.1
    have F_modCount_b145 : Fld Z h145 b145 "java/util/AbstractList" "modCount" "I" (.int (0 : Int32)) := D145 (Or.inl w_26) (ty := .int) (by decide)
    have F_elements_b145 : Fld Z h145 b145 "corbel/structures/ArrayStack" "elements" "[Ljava/lang/Object;" .null := D145 (Or.inl w_30) (ty := (.array (.object "java/lang/Object"))) (by decide)
    have F_size_b145 : Fld Z h145 b145 "corbel/structures/ArrayStack" "size" "I" (.int (0 : Int32)) := D145 (Or.inl w_60) (ty := .int) (by decide)
    show Goes p e below KK T145 (mkF m 33 #[.val (.int p1), .val (.int p2), .val (.int p3), .val (.int p4), .val (.int p5), .val (.int p6), .val (.int (2 : Int32)), .val (.int (if ((XT.ushr p5 (2 : Int32)) &&& (1 : Int32)) = (0 : Int32) then (0 : Int32) else (1 : Int32))), .unset, .unset, .unset, .unset, .unset] [(.ref b145)])
    refine Goes.of (fun t => XS.dup X145.here hx rfl (hb hby at_33) rfl rfl) ?_
    show Goes p e below KK T145 (mkF m 34 #[.val (.int p1), .val (.int p2), .val (.int p3), .val (.int p4), .val (.int p5), .val (.int p6), .val (.int (2 : Int32)), .val (.int (if ((XT.ushr p5 (2 : Int32)) &&& (1 : Int32)) = (0 : Int32) then (0 : Int32) else (1 : Int32))), .unset, .unset, .unset, .unset, .unset] [(.ref b145), (.ref b145)])
    obtain ⟨_, _, ⟨T146, L146, k146, n146⟩, -, X146, ⟨Lc146, hQ146, l146, y146, z146⟩, st146⟩ := X145.specialBack hx (y := (⟨"corbel/structures/ArrayStack", "<init>", "()V"⟩ : MethodName)) rfl hownw (mvT hZw w_3) (mvT hZw w_4) (mvT hZw w_5) (by decide) (backOf (W := 1) (rm1 l Z a0 hw [] b145  h145 n0 Z145 A145 F_elements_b145 F_size_b145 F_modCount_b145 g_b145) hZw w_5 w_2 (by decide) (by decide)) (g := (mkF m 34 #[.val (.int p1), .val (.int p2), .val (.int p3), .val (.int p4), .val (.int p5), .val (.int p6), .val (.int (2 : Int32)), .val (.int (if ((XT.ushr p5 (2 : Int32)) &&& (1 : Int32)) = (0 : Int32) then (0 : Int32) else (1 : Int32))), .unset, .unset, .unset, .unset, .unset] [(.ref b145), (.ref b145)])) rfl (by rw [hml]; rfl) (Steps.refl _) (a := b145) (argsL := []) (rest := [(.ref b145)]) (lenOf pd_2 rfl) rfl (by show 2 * 0 + _ ≤ _; exact Nat.le_of_eq rfl) (hb hby at_34) (fun _ _ => ⟨rfl, e145, (by decide : 1 + 1 ≤ _), (by decide : 3 + 1 ≤ _)⟩)
    dsimp only [Pt.U, Pt.locs, Pt.cells, Pt.slots] at X146 l146 y146 z146 st146 hQ146
    subst l146 y146 z146
    obtain ⟨r146, rfl, N146q, Kc146, hb146, A146, E146, Fe146, Fs146, Fm146⟩ := hQ146
    have N146 := Fr.app N0 N146q
    have ne_b145_r146 : b145 ≠ r146 := Nat.ne_of_lt (Nat.lt_of_lt_of_le A145.lt hb146)
    have g_r146 : n0 ≤ r146 := Nat.le_trans Z145 hb146
    have sz_r146 : h0.size ≤ r146 := Nat.le_trans K145.1 hb146
    have O_146 : Old Z n0 T146.heap := O_145.keep Kc146 (allS g_b145 all0)
    have A145_146 : Exa Z T146.heap b145 "corbel/structures/ArrayStack" := A145.keep Kc146
    have K146 : Keep h0 T146.heap [] := K145.trans Kc146 (allS (Or.inr sz_b145) all0)
    have Z146 : n0 ≤ T146.heap.size := Nat.le_trans Z145 Kc146.1
    have HK146 := Nat.le_trans HK145 Kc146.1
    have e146 : T146.heap = T146.heap := rfl
    refine Goes.tr st146 ?_
    show Goes p e below KK T146 (mkF m 37 #[.val (.int p1), .val (.int p2), .val (.int p3), .val (.int p4), .val (.int p5), .val (.int p6), .val (.int (2 : Int32)), .val (.int (if ((XT.ushr p5 (2 : Int32)) &&& (1 : Int32)) = (0 : Int32) then (0 : Int32) else (1 : Int32))), .unset, .unset, .unset, .unset, .unset] [(.ref b145)])
    refine Goes.of (fun t => XS.astore X146.here hx rfl (hb hby at_37) rfl rfl (l' := #[.val (.int p1), .val (.int p2), .val (.int p3), .val (.int p4), .val (.int p5), .val (.int p6), .val (.int (2 : Int32)), .val (.int (if ((XT.ushr p5 (2 : Int32)) &&& (1 : Int32)) = (0 : Int32) then (0 : Int32) else (1 : Int32))), .val (.ref b145), .unset, .unset, .unset, .unset]) rfl) ?_
    show Goes p e below KK T146 (mkF m 39 #[.val (.int p1), .val (.int p2), .val (.int p3), .val (.int p4), .val (.int p5), .val (.int p6), .val (.int (2 : Int32)), .val (.int (if ((XT.ushr p5 (2 : Int32)) &&& (1 : Int32)) = (0 : Int32) then (0 : Int32) else (1 : Int32))), .val (.ref b145), .unset, .unset, .unset, .unset] [])
    refine Goes.of (fun t => XS.aload X146.here hx rfl (hb hby at_39) rfl rfl) ?_
    show Goes p e below KK T146 (mkF m 41 #[.val (.int p1), .val (.int p2), .val (.int p3), .val (.int p4), .val (.int p5), .val (.int p6), .val (.int (2 : Int32)), .val (.int (if ((XT.ushr p5 (2 : Int32)) &&& (1 : Int32)) = (0 : Int32) then (0 : Int32) else (1 : Int32))), .val (.ref b145), .unset, .unset, .unset, .unset] [(.ref b145)])
    refine Goes.of (fun t => XS.iloadN X146.here hx rfl (hb hby at_41) rfl) ?_
    show Goes p e below KK T146 (mkF m 42 #[.val (.int p1), .val (.int p2), .val (.int p3), .val (.int p4), .val (.int p5), .val (.int p6), .val (.int (2 : Int32)), .val (.int (if ((XT.ushr p5 (2 : Int32)) &&& (1 : Int32)) = (0 : Int32) then (0 : Int32) else (1 : Int32))), .val (.ref b145), .unset, .unset, .unset, .unset] [(.int p1), (.ref b145)])
    obtain ⟨_, _, ⟨T147, L147, k147, n147⟩, -, X147, ⟨Lc147, hQ147, l147, y147, z147⟩, st147⟩ := Jvm.LawKit.callS X146 hx (y := (⟨"java/lang/Integer", "valueOf", "(I)Ljava/lang/Integer;"⟩ : MethodName)) hownw (mvT hZw w_31) (mvT hZw w_32) (mvT hZw w_33) (mvT hZw w_34) (by decide) (backOf (W := 1) (rm6 l Z a0 hw [] p1 ca cc T146.heap n0 Z146 (Sh.ext O_146.2) (Sc.ext O_146.2) BX O_146) hZw w_34 w_33 (by decide) (by decide)) (g := (mkF m 42 #[.val (.int p1), .val (.int p2), .val (.int p3), .val (.int p4), .val (.int p5), .val (.int p6), .val (.int (2 : Int32)), .val (.int (if ((XT.ushr p5 (2 : Int32)) &&& (1 : Int32)) = (0 : Int32) then (0 : Int32) else (1 : Int32))), .val (.ref b145), .unset, .unset, .unset, .unset] [(.int p1), (.ref b145)])) rfl (by rw [hml]; rfl) (argsL := [(.int p1)]) (rest := [(.ref b145)]) (lenOf pd_48 rfl) rfl (by show 2 * 0 + _ ≤ _; exact Nat.le_of_eq rfl) (hb hby at_42) (fun _ _ => ⟨rfl, e146, (by decide : 2 + 1 ≤ _), (by decide : 4 + 1 ≤ _)⟩)
    dsimp only [Pt.U, Pt.locs, Pt.cells, Pt.slots] at X147 l147 y147 z147 st147 hQ147
    subst l147 y147 z147
    obtain ⟨r147, rfl, N147q, Kc147, E147, F147⟩ := hQ147
    have N147 := Fr.app N146 N147q
    have O_147 : Old Z n0 T147.heap := O_146.keep Kc147 all0
    have E146_147 : Exa Z T147.heap b145 "corbel/structures/ArrayStack" := E146.keep Kc147
    have Fe146_147 : Fld Z T147.heap b145 "corbel/structures/ArrayStack" "elements" "[Ljava/lang/Object;" (.ref r146) := Fe146.keep Kc147 nin0
    have Fs146_147 : Fld Z T147.heap b145 "corbel/structures/ArrayStack" "size" "I" (.int (0 : Int32)) := Fs146.keep Kc147 nin0
    have Fm146_147 : Fld Z T147.heap b145 "java/util/AbstractList" "modCount" "I" (.int (0 : Int32)) := Fm146.keep Kc147 nin0
    have A146_147 : AR Z T147.heap r146 [.null] := A146.keep Kc147 nin0
    have K147 : Keep h0 T147.heap [] := K146.trans Kc147 all0
    have Z147 : n0 ≤ T147.heap.size := Nat.le_trans Z146 Kc147.1
    have HK147 := Nat.le_trans HK146 Kc147.1
    have e147 : T147.heap = T147.heap := rfl
    refine Goes.of st147 ?_
    show Goes p e below KK T147 (mkF m 45 #[.val (.int p1), .val (.int p2), .val (.int p3), .val (.int p4), .val (.int p5), .val (.int p6), .val (.int (2 : Int32)), .val (.int (if ((XT.ushr p5 (2 : Int32)) &&& (1 : Int32)) = (0 : Int32) then (0 : Int32) else (1 : Int32))), .val (.ref b145), .unset, .unset, .unset, .unset] [(.ref r147), (.ref b145)])
    obtain ⟨cq148, kq148, q148a, q148b, q148c⟩ := isOf hZw e147 E146_147
    obtain ⟨_, _, ⟨T148, L148, k148, n148⟩, -, X148, hSi148, hge148, ⟨Lc148, hQ148, l148, y148, z148⟩, st148⟩ := X147.virtualBackS hx (y := (⟨"corbel/structures/ArrayStack", "add", "(Ljava/lang/Object;)Z"⟩ : MethodName)) (z := (⟨"corbel/structures/ArrayStack", "add", "(Ljava/lang/Object;)Z"⟩ : MethodName)) hownw (mvT hZw w_38) (mvT hZw w_39) (notFace_of_selects (args := #[]) (mvT hZw w_41)) (mvT hZw w_41) (mvT hZw w_40) (by decide) (backOfS (W := 0) (rm7s0 l Z a0 hw [] b145 r147 r146 mr (0 : Int32)  T147.heap n0 Z147 E146_147 Fe146_147 Fs146_147 Fm146_147 A146_147 E147 g_b145 g_r146 M0) hZw w_42 w_2 (by decide) (by decide)) q148a q148c (g := (mkF m 45 #[.val (.int p1), .val (.int p2), .val (.int p3), .val (.int p4), .val (.int p5), .val (.int p6), .val (.int (2 : Int32)), .val (.int (if ((XT.ushr p5 (2 : Int32)) &&& (1 : Int32)) = (0 : Int32) then (0 : Int32) else (1 : Int32))), .val (.ref b145), .unset, .unset, .unset, .unset] [(.ref r147), (.ref b145)])) rfl (by rw [hml]; rfl) (Steps.refl _) (argsL := [(.ref r147)]) (rest := []) (lenOf pd_49 rfl) rfl (by show 2 * 0 + _ ≤ _; exact Nat.le_of_eq rfl) (hb hby at_45) (fun _ _ => ⟨rfl, e147, (by decide : 3 + 2 ≤ _), (by decide : 5 + 32 ≤ _)⟩)
    dsimp only [Pt.U, Pt.locs, Pt.cells, Pt.slots] at X148 l148 y148 z148 st148 hQ148 hSi148 hge148
    subst l148 y148 z148
    obtain ⟨Y148, HS148, hZ148, hown148⟩ := rebS HS0 (by rw [e147]; exact HK147) X148 hSi148 hge148 hZw hownw
    have HK148 := Nat.le_refl T148.heap.size
    obtain ⟨r148, rfl, N148q, Kc148, hb148, E148, Fe148, Fs148, Fm148, A148⟩ := hQ148
    have N148 := Fr.app N147 N148q
    have g_r148 : n0 ≤ r148 := hb148.elim (fun q => q ▸ g_r146) (fun q => Nat.le_trans Z147 q)
    have sz_r148 : h0.size ≤ r148 := hb148.elim (fun q => q ▸ sz_r146) (fun q => Nat.le_trans K147.1 q)
    have O_148 : Old Z n0 T148.heap := O_147.keep Kc148 (allS g_b145 (allS g_r146 all0))
    have E146_147_148 : Exa Z T148.heap b145 "corbel/structures/ArrayStack" := E146_147.keep Kc148
    have E147_148 : Exa Z T148.heap r147 "java/lang/Integer" := E147.keep Kc148
    have F147_148 : Fld Z T148.heap r147 "java/lang/Integer" "value" "I" (.int p1) := F147.keep Kc148 (ninS (Exa.ne E147 E146_147 (by decide)) (ninS (Exa.ne E147 A146_147.exa (by decide)) nin0))
    have K148 : Keep h0 T148.heap [] := K147.trans Kc148 (allS (Or.inr sz_b145) (allS (Or.inr sz_r146) all0))
    have Z148 : n0 ≤ T148.heap.size := Nat.le_trans Z147 Kc148.1
    have e148 : T148.heap = T148.heap := rfl
    refine Goes.tr st148 ?_
    show Goes p e below KK T148 (mkF m 48 #[.val (.int p1), .val (.int p2), .val (.int p3), .val (.int p4), .val (.int p5), .val (.int p6), .val (.int (2 : Int32)), .val (.int (if ((XT.ushr p5 (2 : Int32)) &&& (1 : Int32)) = (0 : Int32) then (0 : Int32) else (1 : Int32))), .val (.ref b145), .unset, .unset, .unset, .unset] [(.int (1 : Int32))])
    refine Goes.of (fun t => XT.pop Y148.here hx rfl (hb hby at_48) rfl rfl) ?_
    show Goes p e below KK T148 (mkF m 49 #[.val (.int p1), .val (.int p2), .val (.int p3), .val (.int p4), .val (.int p5), .val (.int p6), .val (.int (2 : Int32)), .val (.int (if ((XT.ushr p5 (2 : Int32)) &&& (1 : Int32)) = (0 : Int32) then (0 : Int32) else (1 : Int32))), .val (.ref b145), .unset, .unset, .unset, .unset] [])
    refine Goes.of (fun t => XS.iload Y148.here hx rfl (hb hby at_49) rfl) ?_
    show Goes p e below KK T148 (mkF m 51 #[.val (.int p1), .val (.int p2), .val (.int p3), .val (.int p4), .val (.int p5), .val (.int p6), .val (.int (2 : Int32)), .val (.int (if ((XT.ushr p5 (2 : Int32)) &&& (1 : Int32)) = (0 : Int32) then (0 : Int32) else (1 : Int32))), .val (.ref b145), .unset, .unset, .unset, .unset] [(.int (2 : Int32))])
    refine Goes.of (fun t => XS.iconst Y148.here hx rfl (hb hby at_51)) ?_
    show Goes p e below KK T148 (mkF m 52 #[.val (.int p1), .val (.int p2), .val (.int p3), .val (.int p4), .val (.int p5), .val (.int p6), .val (.int (2 : Int32)), .val (.int (if ((XT.ushr p5 (2 : Int32)) &&& (1 : Int32)) = (0 : Int32) then (0 : Int32) else (1 : Int32))), .val (.ref b145), .unset, .unset, .unset, .unset] [(.int (2 : Int32)), (.int (2 : Int32))])
    refine Goes.of (fun t => XS.icmpNo Y148.here hx rfl (hb hby at_52) rfl (flt (show ¬ ((2 : Int32) < (2 : Int32)) from by decide)).1) ?_
    show Goes p e below KK T148 (mkF m 55 #[.val (.int p1), .val (.int p2), .val (.int p3), .val (.int p4), .val (.int p5), .val (.int p6), .val (.int (2 : Int32)), .val (.int (if ((XT.ushr p5 (2 : Int32)) &&& (1 : Int32)) = (0 : Int32) then (0 : Int32) else (1 : Int32))), .val (.ref b145), .unset, .unset, .unset, .unset] [])
    refine Goes.of (fun t => XS.aload Y148.here hx rfl (hb hby at_55) rfl rfl) ?_
    show Goes p e below KK T148 (mkF m 57 #[.val (.int p1), .val (.int p2), .val (.int p3), .val (.int p4), .val (.int p5), .val (.int p6), .val (.int (2 : Int32)), .val (.int (if ((XT.ushr p5 (2 : Int32)) &&& (1 : Int32)) = (0 : Int32) then (0 : Int32) else (1 : Int32))), .val (.ref b145), .unset, .unset, .unset, .unset] [(.ref b145)])
    refine Goes.of (fun t => XS.iloadN Y148.here hx rfl (hb hby at_57) rfl) ?_
    show Goes p e below KK T148 (mkF m 58 #[.val (.int p1), .val (.int p2), .val (.int p3), .val (.int p4), .val (.int p5), .val (.int p6), .val (.int (2 : Int32)), .val (.int (if ((XT.ushr p5 (2 : Int32)) &&& (1 : Int32)) = (0 : Int32) then (0 : Int32) else (1 : Int32))), .val (.ref b145), .unset, .unset, .unset, .unset] [(.int p2), (.ref b145)])
    obtain ⟨_, _, ⟨T149, L149, k149, n149⟩, -, X149, ⟨Lc149, hQ149, l149, y149, z149⟩, st149⟩ := Jvm.LawKit.callS Y148 hx (y := (⟨"java/lang/Integer", "valueOf", "(I)Ljava/lang/Integer;"⟩ : MethodName)) hown148 (mvT hZ148 w_31) (mvT hZ148 w_32) (mvT hZ148 w_33) (mvT hZ148 w_34) (by decide) (backOf (W := 1) (rm6 l Z a0 hw [] p2 ca cc T148.heap n0 Z148 (Sh.ext O_148.2) (Sc.ext O_148.2) BX O_148) hZ148 w_34 w_33 (by decide) (by decide)) (g := (mkF m 58 #[.val (.int p1), .val (.int p2), .val (.int p3), .val (.int p4), .val (.int p5), .val (.int p6), .val (.int (2 : Int32)), .val (.int (if ((XT.ushr p5 (2 : Int32)) &&& (1 : Int32)) = (0 : Int32) then (0 : Int32) else (1 : Int32))), .val (.ref b145), .unset, .unset, .unset, .unset] [(.int p2), (.ref b145)])) rfl (by rw [hml]; rfl) (argsL := [(.int p2)]) (rest := [(.ref b145)]) (lenOf pd_48 rfl) rfl (by show 2 * 0 + _ ≤ _; exact Nat.le_of_eq rfl) (hb hby at_58) (fun _ _ => ⟨rfl, e148, (by decide : 5 + 1 ≤ _), (by decide : 37 + 1 ≤ _)⟩)
    dsimp only [Pt.U, Pt.locs, Pt.cells, Pt.slots] at X149 l149 y149 z149 st149 hQ149
    subst l149 y149 z149
    obtain ⟨r149, rfl, N149q, Kc149, E149, F149⟩ := hQ149
    have N149 := Fr.app N148 N149q
    have O_149 : Old Z n0 T149.heap := O_148.keep Kc149 all0
    have E148_149 : Exa Z T149.heap b145 "corbel/structures/ArrayStack" := E148.keep Kc149
    have E147_148_149 : Exa Z T149.heap r147 "java/lang/Integer" := E147_148.keep Kc149
    have F147_148_149 : Fld Z T149.heap r147 "java/lang/Integer" "value" "I" (.int p1) := F147_148.keep Kc149 nin0
    have Fe148_149 : Fld Z T149.heap b145 "corbel/structures/ArrayStack" "elements" "[Ljava/lang/Object;" (.ref r148) := Fe148.keep Kc149 nin0
    have Fs148_149 : Fld Z T149.heap b145 "corbel/structures/ArrayStack" "size" "I" (.int (1 : Int32)) := Fs148.keep Kc149 nin0
    have Fm148_149 : Fld Z T149.heap b145 "java/util/AbstractList" "modCount" "I" (.int ((0 : Int32) + 1)) := Fm148.keep Kc149 nin0
    have A148_149 : AR Z T149.heap r148 [(.ref r147)] := A148.keep Kc149 nin0
    have K149 : Keep h0 T149.heap [] := K148.trans Kc149 all0
    have Z149 : n0 ≤ T149.heap.size := Nat.le_trans Z148 Kc149.1
    have HK149 := Nat.le_trans HK148 Kc149.1
    have e149 : T149.heap = T149.heap := rfl
    refine Goes.of st149 ?_
    show Goes p e below KK T149 (mkF m 61 #[.val (.int p1), .val (.int p2), .val (.int p3), .val (.int p4), .val (.int p5), .val (.int p6), .val (.int (2 : Int32)), .val (.int (if ((XT.ushr p5 (2 : Int32)) &&& (1 : Int32)) = (0 : Int32) then (0 : Int32) else (1 : Int32))), .val (.ref b145), .unset, .unset, .unset, .unset] [(.ref r149), (.ref b145)])
    obtain ⟨cq150, kq150, q150a, q150b, q150c⟩ := isOf hZ148 e149 E148_149
    obtain ⟨_, _, ⟨T150, L150, k150, n150⟩, -, X150, hSi150, hge150, ⟨Lc150, hQ150, l150, y150, z150⟩, st150⟩ := X149.virtualBackS hx (y := (⟨"corbel/structures/ArrayStack", "add", "(Ljava/lang/Object;)Z"⟩ : MethodName)) (z := (⟨"corbel/structures/ArrayStack", "add", "(Ljava/lang/Object;)Z"⟩ : MethodName)) hown148 (mvT hZ148 w_38) (mvT hZ148 w_39) (notFace_of_selects (args := #[]) (mvT hZ148 w_41)) (mvT hZ148 w_41) (mvT hZ148 w_40) (by decide) (backOfS (W := 0) (rm7s1 l Z a0 hw [] b145 r149 r148 mr ((0 : Int32) + 1) r147 T149.heap n0 Z149 E148_149 Fe148_149 Fs148_149 Fm148_149 A148_149 E147_148_149 E149 g_b145 g_r148 M0) hZ148 w_42 w_2 (by decide) (by decide)) q150a q150c (g := (mkF m 61 #[.val (.int p1), .val (.int p2), .val (.int p3), .val (.int p4), .val (.int p5), .val (.int p6), .val (.int (2 : Int32)), .val (.int (if ((XT.ushr p5 (2 : Int32)) &&& (1 : Int32)) = (0 : Int32) then (0 : Int32) else (1 : Int32))), .val (.ref b145), .unset, .unset, .unset, .unset] [(.ref r149), (.ref b145)])) rfl (by rw [hml]; rfl) (Steps.refl _) (argsL := [(.ref r149)]) (rest := []) (lenOf pd_49 rfl) rfl (by show 2 * 0 + _ ≤ _; exact Nat.le_of_eq rfl) (hb hby at_61) (fun _ _ => ⟨rfl, e149, (by decide : 6 + 3 ≤ _), (by decide : 38 + 34 ≤ _)⟩)
    dsimp only [Pt.U, Pt.locs, Pt.cells, Pt.slots] at X150 l150 y150 z150 st150 hQ150 hSi150 hge150
    subst l150 y150 z150
    obtain ⟨Y150, HS150, hZ150, hown150⟩ := rebS HS148 (by rw [e149]; exact HK149) X150 hSi150 hge150 hZ148 hown148
    have HK150 := Nat.le_refl T150.heap.size
    obtain ⟨r150, rfl, N150q, Kc150, hb150, E150, Fe150, Fs150, Fm150, A150⟩ := hQ150
    have N150 := Fr.app N149 N150q
    have g_r150 : n0 ≤ r150 := hb150.elim (fun q => q ▸ g_r148) (fun q => Nat.le_trans Z149 q)
    have sz_r150 : h0.size ≤ r150 := hb150.elim (fun q => q ▸ sz_r148) (fun q => Nat.le_trans K149.1 q)
    have O_150 : Old Z n0 T150.heap := O_149.keep Kc150 (allS g_b145 (allS g_r148 all0))
    have E148_149_150 : Exa Z T150.heap b145 "corbel/structures/ArrayStack" := E148_149.keep Kc150
    have E147_148_149_150 : Exa Z T150.heap r147 "java/lang/Integer" := E147_148_149.keep Kc150
    have F147_148_149_150 : Fld Z T150.heap r147 "java/lang/Integer" "value" "I" (.int p1) := F147_148_149.keep Kc150 (ninS (Exa.ne E147_148_149 E148_149 (by decide)) (ninS (Exa.ne E147_148_149 A148_149.exa (by decide)) nin0))
    have E149_150 : Exa Z T150.heap r149 "java/lang/Integer" := E149.keep Kc150
    have F149_150 : Fld Z T150.heap r149 "java/lang/Integer" "value" "I" (.int p2) := F149.keep Kc150 (ninS (Exa.ne E149 E148_149 (by decide)) (ninS (Exa.ne E149 A148_149.exa (by decide)) nin0))
    have K150 : Keep h0 T150.heap [] := K149.trans Kc150 (allS (Or.inr sz_b145) (allS (Or.inr sz_r148) all0))
    have Z150 : n0 ≤ T150.heap.size := Nat.le_trans Z149 Kc150.1
    have e150 : T150.heap = T150.heap := rfl
    refine Goes.tr st150 ?_
    show Goes p e below KK T150 (mkF m 64 #[.val (.int p1), .val (.int p2), .val (.int p3), .val (.int p4), .val (.int p5), .val (.int p6), .val (.int (2 : Int32)), .val (.int (if ((XT.ushr p5 (2 : Int32)) &&& (1 : Int32)) = (0 : Int32) then (0 : Int32) else (1 : Int32))), .val (.ref b145), .unset, .unset, .unset, .unset] [(.int (1 : Int32))])
    refine Goes.of (fun t => XT.pop Y150.here hx rfl (hb hby at_64) rfl rfl) ?_
    show Goes p e below KK T150 (mkF m 65 #[.val (.int p1), .val (.int p2), .val (.int p3), .val (.int p4), .val (.int p5), .val (.int p6), .val (.int (2 : Int32)), .val (.int (if ((XT.ushr p5 (2 : Int32)) &&& (1 : Int32)) = (0 : Int32) then (0 : Int32) else (1 : Int32))), .val (.ref b145), .unset, .unset, .unset, .unset] [])
    refine Goes.of (fun t => XS.iload Y150.here hx rfl (hb hby at_65) rfl) ?_
    show Goes p e below KK T150 (mkF m 67 #[.val (.int p1), .val (.int p2), .val (.int p3), .val (.int p4), .val (.int p5), .val (.int p6), .val (.int (2 : Int32)), .val (.int (if ((XT.ushr p5 (2 : Int32)) &&& (1 : Int32)) = (0 : Int32) then (0 : Int32) else (1 : Int32))), .val (.ref b145), .unset, .unset, .unset, .unset] [(.int (2 : Int32))])
    refine Goes.of (fun t => XS.iconst Y150.here hx rfl (hb hby at_67)) ?_
    show Goes p e below KK T150 (mkF m 68 #[.val (.int p1), .val (.int p2), .val (.int p3), .val (.int p4), .val (.int p5), .val (.int p6), .val (.int (2 : Int32)), .val (.int (if ((XT.ushr p5 (2 : Int32)) &&& (1 : Int32)) = (0 : Int32) then (0 : Int32) else (1 : Int32))), .val (.ref b145), .unset, .unset, .unset, .unset] [(.int (3 : Int32)), (.int (2 : Int32))])
    refine Goes.of (fun t => XS.icmpYes Y150.here hx rfl (pc0 := 68) (pc' := 81) rfl (hb hby at_68) rfl (tlt (show (2 : Int32) < (3 : Int32) from by decide)).1 (by decide) (by decide)) ?_
    show Goes p e below KK T150 (mkF m 81 #[.val (.int p1), .val (.int p2), .val (.int p3), .val (.int p4), .val (.int p5), .val (.int p6), .val (.int (2 : Int32)), .val (.int (if ((XT.ushr p5 (2 : Int32)) &&& (1 : Int32)) = (0 : Int32) then (0 : Int32) else (1 : Int32))), .val (.ref b145), .unset, .unset, .unset, .unset] [])
    refine Goes.of (fun t => XS.iload Y150.here hx rfl (hb hby at_81) rfl) ?_
    show Goes p e below KK T150 (mkF m 83 #[.val (.int p1), .val (.int p2), .val (.int p3), .val (.int p4), .val (.int p5), .val (.int p6), .val (.int (2 : Int32)), .val (.int (if ((XT.ushr p5 (2 : Int32)) &&& (1 : Int32)) = (0 : Int32) then (0 : Int32) else (1 : Int32))), .val (.ref b145), .unset, .unset, .unset, .unset] [(.int (2 : Int32))])
    refine Goes.of (fun t => XS.iconst Y150.here hx rfl (hb hby at_83)) ?_
    show Goes p e below KK T150 (mkF m 84 #[.val (.int p1), .val (.int p2), .val (.int p3), .val (.int p4), .val (.int p5), .val (.int p6), .val (.int (2 : Int32)), .val (.int (if ((XT.ushr p5 (2 : Int32)) &&& (1 : Int32)) = (0 : Int32) then (0 : Int32) else (1 : Int32))), .val (.ref b145), .unset, .unset, .unset, .unset] [(.int (4 : Int32)), (.int (2 : Int32))])
    refine Goes.of (fun t => XS.icmpYes Y150.here hx rfl (pc0 := 84) (pc' := 97) rfl (hb hby at_84) rfl (tlt (show (2 : Int32) < (4 : Int32) from by decide)).1 (by decide) (by decide)) ?_
    show Goes p e below KK T150 (mkF m 97 #[.val (.int p1), .val (.int p2), .val (.int p3), .val (.int p4), .val (.int p5), .val (.int p6), .val (.int (2 : Int32)), .val (.int (if ((XT.ushr p5 (2 : Int32)) &&& (1 : Int32)) = (0 : Int32) then (0 : Int32) else (1 : Int32))), .val (.ref b145), .unset, .unset, .unset, .unset] [])
    refine Goes.of (fun t => XS.iload Y150.here hx rfl (hb hby at_97) rfl) ?_
    show Goes p e below KK T150 (mkF m 99 #[.val (.int p1), .val (.int p2), .val (.int p3), .val (.int p4), .val (.int p5), .val (.int p6), .val (.int (2 : Int32)), .val (.int (if ((XT.ushr p5 (2 : Int32)) &&& (1 : Int32)) = (0 : Int32) then (0 : Int32) else (1 : Int32))), .val (.ref b145), .unset, .unset, .unset, .unset] [(.int (2 : Int32))])
    refine Goes.of (fun t => XS.istore Y150.here hx rfl (hb hby at_99) rfl (l' := #[.val (.int p1), .val (.int p2), .val (.int p3), .val (.int p4), .val (.int p5), .val (.int p6), .val (.int (2 : Int32)), .val (.int (if ((XT.ushr p5 (2 : Int32)) &&& (1 : Int32)) = (0 : Int32) then (0 : Int32) else (1 : Int32))), .val (.ref b145), .val (.int (2 : Int32)), .unset, .unset, .unset]) rfl) ?_
    show Goes p e below KK T150 (mkF m 101 #[.val (.int p1), .val (.int p2), .val (.int p3), .val (.int p4), .val (.int p5), .val (.int p6), .val (.int (2 : Int32)), .val (.int (if ((XT.ushr p5 (2 : Int32)) &&& (1 : Int32)) = (0 : Int32) then (0 : Int32) else (1 : Int32))), .val (.ref b145), .val (.int (2 : Int32)), .unset, .unset, .unset] [])
    refine Goes.of (fun t => XS.iload Y150.here hx rfl (hb hby at_101) rfl) ?_
    show Goes p e below KK T150 (mkF m 103 #[.val (.int p1), .val (.int p2), .val (.int p3), .val (.int p4), .val (.int p5), .val (.int p6), .val (.int (2 : Int32)), .val (.int (if ((XT.ushr p5 (2 : Int32)) &&& (1 : Int32)) = (0 : Int32) then (0 : Int32) else (1 : Int32))), .val (.ref b145), .val (.int (2 : Int32)), .unset, .unset, .unset] [(.int (if ((XT.ushr p5 (2 : Int32)) &&& (1 : Int32)) = (0 : Int32) then (0 : Int32) else (1 : Int32)))])
    by_cases hc103_2 : (if ((XT.ushr p5 (2 : Int32)) &&& (1 : Int32)) = (0 : Int32) then (0 : Int32) else (1 : Int32)) = (0 : Int32)
    · refine Goes.of (fun t => XS.ifYes Y150.here hx rfl (pc0 := 103) (pc' := 118) rfl (hb hby at_103) rfl ((if0 _ _).trans (teq hc103_2).1) (by decide) (by decide)) ?_
      show Goes p e below KK T150 (mkF m 118 #[.val (.int p1), .val (.int p2), .val (.int p3), .val (.int p4), .val (.int p5), .val (.int p6), .val (.int (2 : Int32)), .val (.int (if ((XT.ushr p5 (2 : Int32)) &&& (1 : Int32)) = (0 : Int32) then (0 : Int32) else (1 : Int32))), .val (.ref b145), .val (.int (2 : Int32)), .unset, .unset, .unset] [])
      refine Goes.of (fun t => XS.iload Y150.here hx rfl (hb hby at_118) rfl) ?_
      show Goes p e below KK T150 (mkF m 120 #[.val (.int p1), .val (.int p2), .val (.int p3), .val (.int p4), .val (.int p5), .val (.int p6), .val (.int (2 : Int32)), .val (.int (if ((XT.ushr p5 (2 : Int32)) &&& (1 : Int32)) = (0 : Int32) then (0 : Int32) else (1 : Int32))), .val (.ref b145), .val (.int (2 : Int32)), .unset, .unset, .unset] [(.int p6)])
      refine Goes.of (Y150.ldcInt hx hown150 (mvT hZ150 w_64) (g := (mkF m 120 #[.val (.int p1), .val (.int p2), .val (.int p3), .val (.int p4), .val (.int p5), .val (.int p6), .val (.int (2 : Int32)), .val (.int (if ((XT.ushr p5 (2 : Int32)) &&& (1 : Int32)) = (0 : Int32) then (0 : Int32) else (1 : Int32))), .val (.ref b145), .val (.int (2 : Int32)), .unset, .unset, .unset] [(.int p6)])) rfl (hb hby at_120)) ?_
      show Goes p e below KK T150 (mkF m 122 #[.val (.int p1), .val (.int p2), .val (.int p3), .val (.int p4), .val (.int p5), .val (.int p6), .val (.int (2 : Int32)), .val (.int (if ((XT.ushr p5 (2 : Int32)) &&& (1 : Int32)) = (0 : Int32) then (0 : Int32) else (1 : Int32))), .val (.ref b145), .val (.int (2 : Int32)), .unset, .unset, .unset] [(.int (2147483647 : Int32)), (.int p6)])
      refine Goes.of (fun t => XS.iand Y150.here hx rfl (hb hby at_122) rfl) ?_
      show Goes p e below KK T150 (mkF m 123 #[.val (.int p1), .val (.int p2), .val (.int p3), .val (.int p4), .val (.int p5), .val (.int p6), .val (.int (2 : Int32)), .val (.int (if ((XT.ushr p5 (2 : Int32)) &&& (1 : Int32)) = (0 : Int32) then (0 : Int32) else (1 : Int32))), .val (.ref b145), .val (.int (2 : Int32)), .unset, .unset, .unset] [(.int (p6 &&& (2147483647 : Int32)))])
      refine Goes.of (fun t => XS.iload Y150.here hx rfl (hb hby at_123) rfl) ?_
      show Goes p e below KK T150 (mkF m 125 #[.val (.int p1), .val (.int p2), .val (.int p3), .val (.int p4), .val (.int p5), .val (.int p6), .val (.int (2 : Int32)), .val (.int (if ((XT.ushr p5 (2 : Int32)) &&& (1 : Int32)) = (0 : Int32) then (0 : Int32) else (1 : Int32))), .val (.ref b145), .val (.int (2 : Int32)), .unset, .unset, .unset] [(.int (2 : Int32)), (.int (p6 &&& (2147483647 : Int32)))])
      refine Goes.of (fun t => iremM Y150 hx rfl (hb hby at_125) rfl (by decide)) ?_
      show Goes p e below KK T150 (mkF m 126 #[.val (.int p1), .val (.int p2), .val (.int p3), .val (.int p4), .val (.int p5), .val (.int p6), .val (.int (2 : Int32)), .val (.int (if ((XT.ushr p5 (2 : Int32)) &&& (1 : Int32)) = (0 : Int32) then (0 : Int32) else (1 : Int32))), .val (.ref b145), .val (.int (2 : Int32)), .unset, .unset, .unset] [(.int ((p6 &&& (2147483647 : Int32)) % (2 : Int32)))])
      generalize e_ix : ((p6 &&& (2147483647 : Int32)) % (2 : Int32)) = ix
      show Goes p e below KK T150 (mkF m 126 #[.val (.int p1), .val (.int p2), .val (.int p3), .val (.int p4), .val (.int p5), .val (.int p6), .val (.int (2 : Int32)), .val (.int (if ((XT.ushr p5 (2 : Int32)) &&& (1 : Int32)) = (0 : Int32) then (0 : Int32) else (1 : Int32))), .val (.ref b145), .val (.int (2 : Int32)), .unset, .unset, .unset] [(.int ix)])
      have hi1_151 : (p6 &&& 2147483647).toInt = p6.toInt % 2 ^ 31 := Jvm.Kit.i32_mask p6 2147483647 (k := 31) (by decide) (by decide)
      have hi2_151 : ix.toInt = (p6 &&& 2147483647).toInt % 2 := by rw [← e_ix]; exact Jvm.Kit.i32_rem_nonneg (by omega)
      have hi3_151 : ix = 0 ∨ ix = 1 := by
        have a1 : ix.toInt = 0 ∨ ix.toInt = 1 := by omega
        exact a1.imp Int32.toInt_inj.mp Int32.toInt_inj.mp
      rcases hi3_151 with hi | hi
      · subst hi
        show Goes p e below KK T150 (mkF m 126 #[.val (.int p1), .val (.int p2), .val (.int p3), .val (.int p4), .val (.int p5), .val (.int p6), .val (.int (2 : Int32)), .val (.int (if ((XT.ushr p5 (2 : Int32)) &&& (1 : Int32)) = (0 : Int32) then (0 : Int32) else (1 : Int32))), .val (.ref b145), .val (.int (2 : Int32)), .unset, .unset, .unset] [(.int (0 : Int32))])
        refine Goes.of (fun t => XS.istore Y150.here hx rfl (hb hby at_126) rfl (l' := #[.val (.int p1), .val (.int p2), .val (.int p3), .val (.int p4), .val (.int p5), .val (.int p6), .val (.int (2 : Int32)), .val (.int (if ((XT.ushr p5 (2 : Int32)) &&& (1 : Int32)) = (0 : Int32) then (0 : Int32) else (1 : Int32))), .val (.ref b145), .val (.int (2 : Int32)), .val (.int (0 : Int32)), .unset, .unset]) rfl) ?_
        show Goes p e below KK T150 (mkF m 128 #[.val (.int p1), .val (.int p2), .val (.int p3), .val (.int p4), .val (.int p5), .val (.int p6), .val (.int (2 : Int32)), .val (.int (if ((XT.ushr p5 (2 : Int32)) &&& (1 : Int32)) = (0 : Int32) then (0 : Int32) else (1 : Int32))), .val (.ref b145), .val (.int (2 : Int32)), .val (.int (0 : Int32)), .unset, .unset] [])
        refine Goes.of (fun t => XS.iload Y150.here hx rfl (hb hby at_128) rfl) ?_
        show Goes p e below KK T150 (mkF m 130 #[.val (.int p1), .val (.int p2), .val (.int p3), .val (.int p4), .val (.int p5), .val (.int p6), .val (.int (2 : Int32)), .val (.int (if ((XT.ushr p5 (2 : Int32)) &&& (1 : Int32)) = (0 : Int32) then (0 : Int32) else (1 : Int32))), .val (.ref b145), .val (.int (2 : Int32)), .val (.int (0 : Int32)), .unset, .unset] [(.int (0 : Int32))])
        refine Goes.of (fun t => XS.ifNo Y150.here hx rfl (hb hby at_130) rfl ((if0 _ _).trans (teq (show (0 : Int32) = (0 : Int32) from by decide)).2)) ?_
        show Goes p e below KK T150 (mkF m 133 #[.val (.int p1), .val (.int p2), .val (.int p3), .val (.int p4), .val (.int p5), .val (.int p6), .val (.int (2 : Int32)), .val (.int (if ((XT.ushr p5 (2 : Int32)) &&& (1 : Int32)) = (0 : Int32) then (0 : Int32) else (1 : Int32))), .val (.ref b145), .val (.int (2 : Int32)), .val (.int (0 : Int32)), .unset, .unset] [])
        refine Goes.of (fun t => XS.iloadN Y150.here hx rfl (hb hby at_133) rfl) ?_
        show Goes p e below KK T150 (mkF m 134 #[.val (.int p1), .val (.int p2), .val (.int p3), .val (.int p4), .val (.int p5), .val (.int p6), .val (.int (2 : Int32)), .val (.int (if ((XT.ushr p5 (2 : Int32)) &&& (1 : Int32)) = (0 : Int32) then (0 : Int32) else (1 : Int32))), .val (.ref b145), .val (.int (2 : Int32)), .val (.int (0 : Int32)), .unset, .unset] [(.int p1)])
        refine Goes.of (fun t => XS.istore Y150.here hx rfl (hb hby at_134) rfl (l' := #[.val (.int p1), .val (.int p2), .val (.int p3), .val (.int p4), .val (.int p5), .val (.int p6), .val (.int (2 : Int32)), .val (.int (if ((XT.ushr p5 (2 : Int32)) &&& (1 : Int32)) = (0 : Int32) then (0 : Int32) else (1 : Int32))), .val (.ref b145), .val (.int (2 : Int32)), .val (.int (0 : Int32)), .val (.int p1), .unset]) rfl) ?_
        show Goes p e below KK T150 (mkF m 136 #[.val (.int p1), .val (.int p2), .val (.int p3), .val (.int p4), .val (.int p5), .val (.int p6), .val (.int (2 : Int32)), .val (.int (if ((XT.ushr p5 (2 : Int32)) &&& (1 : Int32)) = (0 : Int32) then (0 : Int32) else (1 : Int32))), .val (.ref b145), .val (.int (2 : Int32)), .val (.int (0 : Int32)), .val (.int p1), .unset] [])
        refine Goes.of (fun t => XS.goto Y150.here hx rfl (pc0 := 136) (pc' := 166) rfl (hb hby at_136) (by decide) (by decide)) ?_
        show Goes p e below KK T150 (mkF m 166 #[.val (.int p1), .val (.int p2), .val (.int p3), .val (.int p4), .val (.int p5), .val (.int p6), .val (.int (2 : Int32)), .val (.int (if ((XT.ushr p5 (2 : Int32)) &&& (1 : Int32)) = (0 : Int32) then (0 : Int32) else (1 : Int32))), .val (.ref b145), .val (.int (2 : Int32)), .val (.int (0 : Int32)), .val (.int p1), .unset] [])
        refine Goes.of (fun t => XS.aload Y150.here hx rfl (hb hby at_166) rfl rfl) ?_
        show Goes p e below KK T150 (mkF m 168 #[.val (.int p1), .val (.int p2), .val (.int p3), .val (.int p4), .val (.int p5), .val (.int p6), .val (.int (2 : Int32)), .val (.int (if ((XT.ushr p5 (2 : Int32)) &&& (1 : Int32)) = (0 : Int32) then (0 : Int32) else (1 : Int32))), .val (.ref b145), .val (.int (2 : Int32)), .val (.int (0 : Int32)), .val (.int p1), .unset] [(.ref b145)])
        refine Goes.of (fun t => XS.iload Y150.here hx rfl (hb hby at_168) rfl) ?_
        show Goes p e below KK T150 (mkF m 170 #[.val (.int p1), .val (.int p2), .val (.int p3), .val (.int p4), .val (.int p5), .val (.int p6), .val (.int (2 : Int32)), .val (.int (if ((XT.ushr p5 (2 : Int32)) &&& (1 : Int32)) = (0 : Int32) then (0 : Int32) else (1 : Int32))), .val (.ref b145), .val (.int (2 : Int32)), .val (.int (0 : Int32)), .val (.int p1), .unset] [(.int (0 : Int32)), (.ref b145)])
        obtain ⟨cq152, kq152, q152a, q152b, q152c⟩ := isOf hZ150 e150 E150
        obtain ⟨_, _, ⟨T152, L152, k152, n152⟩, -, X152, ⟨Lc152, hQ152, l152, y152, z152⟩, st152⟩ := Y150.virtualBack hx (y := (⟨"corbel/structures/ArrayStack", "get", "(I)Ljava/lang/Object;"⟩ : MethodName)) (z := (⟨"corbel/structures/ArrayStack", "get", "(I)Ljava/lang/Object;"⟩ : MethodName)) hown150 (mvT hZ150 w_65) (mvT hZ150 w_66) (notFace_of_selects (args := #[]) (mvT hZ150 w_68)) (mvT hZ150 w_68) (mvT hZ150 w_67) (by decide) (backOf (W := 0) (rm10 l Z a0 hw [] b145 (0 : Int32) r150 [(.ref r147), (.ref r149)] 0 r147 (2 : Int32) T150.heap n0 Z150 E150 Fe150 Fs150 A150 (by decide) (by decide) rfl rfl) hZ150 w_69 w_2 (by decide) (by decide)) q152a q152c (g := (mkF m 170 #[.val (.int p1), .val (.int p2), .val (.int p3), .val (.int p4), .val (.int p5), .val (.int p6), .val (.int (2 : Int32)), .val (.int (if ((XT.ushr p5 (2 : Int32)) &&& (1 : Int32)) = (0 : Int32) then (0 : Int32) else (1 : Int32))), .val (.ref b145), .val (.int (2 : Int32)), .val (.int (0 : Int32)), .val (.int p1), .unset] [(.int (0 : Int32)), (.ref b145)])) rfl (by rw [hml]; rfl) (Steps.refl _) (argsL := [(.int (0 : Int32))]) (rest := []) (lenOf pd_16 rfl) rfl (by show 2 * 0 + _ ≤ _; exact Nat.le_of_eq rfl) (hb hby at_170) (fun _ _ => ⟨rfl, e150, (by decide : 9 + 0 ≤ _), (by decide : 72 + 0 ≤ _)⟩)
        dsimp only [Pt.U, Pt.locs, Pt.cells, Pt.slots] at X152 l152 y152 z152 st152 hQ152
        subst l152 y152 z152
        obtain ⟨rfl, N152q, e152⟩ := hQ152
        have N152 := Fr.app N150 N152q
        refine Goes.tr st152 ?_
        show Goes p e below KK T152 (mkF m 173 #[.val (.int p1), .val (.int p2), .val (.int p3), .val (.int p4), .val (.int p5), .val (.int p6), .val (.int (2 : Int32)), .val (.int (if ((XT.ushr p5 (2 : Int32)) &&& (1 : Int32)) = (0 : Int32) then (0 : Int32) else (1 : Int32))), .val (.ref b145), .val (.int (2 : Int32)), .val (.int (0 : Int32)), .val (.int p1), .unset] [(.ref r147)])
        obtain ⟨T153, X153, e153, st153⟩ := castY X152 hx hZ150 hown150 w_81 e152 (Ins.self E147_148_149_150) (g := (mkF m 173 #[.val (.int p1), .val (.int p2), .val (.int p3), .val (.int p4), .val (.int p5), .val (.int p6), .val (.int (2 : Int32)), .val (.int (if ((XT.ushr p5 (2 : Int32)) &&& (1 : Int32)) = (0 : Int32) then (0 : Int32) else (1 : Int32))), .val (.ref b145), .val (.int (2 : Int32)), .val (.int (0 : Int32)), .val (.int p1), .unset] [(.ref r147)])) rfl rfl (hb hby at_173)
        refine Goes.of (st153) ?_
        show Goes p e below KK T153 (mkF m 176 #[.val (.int p1), .val (.int p2), .val (.int p3), .val (.int p4), .val (.int p5), .val (.int p6), .val (.int (2 : Int32)), .val (.int (if ((XT.ushr p5 (2 : Int32)) &&& (1 : Int32)) = (0 : Int32) then (0 : Int32) else (1 : Int32))), .val (.ref b145), .val (.int (2 : Int32)), .val (.int (0 : Int32)), .val (.int p1), .unset] [(.ref r147)])
        refine Goes.of (fun t => XS.astore X153.here hx rfl (hb hby at_176) rfl rfl (l' := #[.val (.int p1), .val (.int p2), .val (.int p3), .val (.int p4), .val (.int p5), .val (.int p6), .val (.int (2 : Int32)), .val (.int (if ((XT.ushr p5 (2 : Int32)) &&& (1 : Int32)) = (0 : Int32) then (0 : Int32) else (1 : Int32))), .val (.ref b145), .val (.int (2 : Int32)), .val (.int (0 : Int32)), .val (.int p1), .val (.ref r147)]) rfl) ?_
        show Goes p e below KK T153 (mkF m 178 #[.val (.int p1), .val (.int p2), .val (.int p3), .val (.int p4), .val (.int p5), .val (.int p6), .val (.int (2 : Int32)), .val (.int (if ((XT.ushr p5 (2 : Int32)) &&& (1 : Int32)) = (0 : Int32) then (0 : Int32) else (1 : Int32))), .val (.ref b145), .val (.int (2 : Int32)), .val (.int (0 : Int32)), .val (.int p1), .val (.ref r147)] [])
        refine Goes.of (fun t => XS.aload X153.here hx rfl (hb hby at_178) rfl rfl) ?_
        show Goes p e below KK T153 (mkF m 180 #[.val (.int p1), .val (.int p2), .val (.int p3), .val (.int p4), .val (.int p5), .val (.int p6), .val (.int (2 : Int32)), .val (.int (if ((XT.ushr p5 (2 : Int32)) &&& (1 : Int32)) = (0 : Int32) then (0 : Int32) else (1 : Int32))), .val (.ref b145), .val (.int (2 : Int32)), .val (.int (0 : Int32)), .val (.int p1), .val (.ref r147)] [(.ref r147)])
        refine Goes.of (fun t => XS.ifnullNo X153.here hx rfl (hb hby at_180) rfl) ?_
        show Goes p e below KK T153 (mkF m 183 #[.val (.int p1), .val (.int p2), .val (.int p3), .val (.int p4), .val (.int p5), .val (.int p6), .val (.int (2 : Int32)), .val (.int (if ((XT.ushr p5 (2 : Int32)) &&& (1 : Int32)) = (0 : Int32) then (0 : Int32) else (1 : Int32))), .val (.ref b145), .val (.int (2 : Int32)), .val (.int (0 : Int32)), .val (.int p1), .val (.ref r147)] [])
        refine Goes.of (fun t => XS.aload X153.here hx rfl (hb hby at_183) rfl rfl) ?_
        show Goes p e below KK T153 (mkF m 185 #[.val (.int p1), .val (.int p2), .val (.int p3), .val (.int p4), .val (.int p5), .val (.int p6), .val (.int (2 : Int32)), .val (.int (if ((XT.ushr p5 (2 : Int32)) &&& (1 : Int32)) = (0 : Int32) then (0 : Int32) else (1 : Int32))), .val (.ref b145), .val (.int (2 : Int32)), .val (.int (0 : Int32)), .val (.int p1), .val (.ref r147)] [(.ref r147)])
        obtain ⟨cq154, kq154, q154a, q154b, q154c⟩ := isOf hZ150 e153 E147_148_149_150
        obtain ⟨_, _, ⟨T154, L154, k154, n154⟩, -, X154, ⟨Lc154, hQ154, l154, y154, z154⟩, st154⟩ := X153.virtualBack hx (y := (⟨"java/lang/Integer", "intValue", "()I"⟩ : MethodName)) (z := (⟨"java/lang/Integer", "intValue", "()I"⟩ : MethodName)) hown150 (mvT hZ150 w_83) (mvT hZ150 w_84) (notFace_of_selects (args := #[]) (mvT hZ150 w_86)) (mvT hZ150 w_86) (mvT hZ150 w_85) (by decide) (backOf (W := 0) (rm14 l Z a0 hw [] r147 p1 T150.heap n0 Z150 F147_148_149_150) hZ150 w_87 w_33 (by decide) (by decide)) q154a q154c (g := (mkF m 185 #[.val (.int p1), .val (.int p2), .val (.int p3), .val (.int p4), .val (.int p5), .val (.int p6), .val (.int (2 : Int32)), .val (.int (if ((XT.ushr p5 (2 : Int32)) &&& (1 : Int32)) = (0 : Int32) then (0 : Int32) else (1 : Int32))), .val (.ref b145), .val (.int (2 : Int32)), .val (.int (0 : Int32)), .val (.int p1), .val (.ref r147)] [(.ref r147)])) rfl (by rw [hml]; rfl) (Steps.refl _) (argsL := []) (rest := []) (lenOf pd_50 rfl) rfl (by show 2 * 0 + _ ≤ _; exact Nat.le_of_eq rfl) (hb hby at_185) (fun _ _ => ⟨rfl, e153, (by decide : 9 + 0 ≤ _), (by decide : 72 + 0 ≤ _)⟩)
        dsimp only [Pt.U, Pt.locs, Pt.cells, Pt.slots] at X154 l154 y154 z154 st154 hQ154
        subst l154 y154 z154
        obtain ⟨rfl, N154q, e154⟩ := hQ154
        have N154 := Fr.app N152 N154q
        refine Goes.tr st154 ?_
        show Goes p e below KK T154 (mkF m 188 #[.val (.int p1), .val (.int p2), .val (.int p3), .val (.int p4), .val (.int p5), .val (.int p6), .val (.int (2 : Int32)), .val (.int (if ((XT.ushr p5 (2 : Int32)) &&& (1 : Int32)) = (0 : Int32) then (0 : Int32) else (1 : Int32))), .val (.ref b145), .val (.int (2 : Int32)), .val (.int (0 : Int32)), .val (.int p1), .val (.ref r147)] [(.int p1)])
        refine Goes.of (fun t => XS.iload X154.here hx rfl (hb hby at_188) rfl) ?_
        show Goes p e below KK T154 (mkF m 190 #[.val (.int p1), .val (.int p2), .val (.int p3), .val (.int p4), .val (.int p5), .val (.int p6), .val (.int (2 : Int32)), .val (.int (if ((XT.ushr p5 (2 : Int32)) &&& (1 : Int32)) = (0 : Int32) then (0 : Int32) else (1 : Int32))), .val (.ref b145), .val (.int (2 : Int32)), .val (.int (0 : Int32)), .val (.int p1), .val (.ref r147)] [(.int p1), (.int p1)])
        refine Goes.of (fun t => XS.icmpNo X154.here hx rfl (hb hby at_190) rfl (teq (show p1 = p1 from rfl)).2) ?_
        show Goes p e below KK T154 (mkF m 193 #[.val (.int p1), .val (.int p2), .val (.int p3), .val (.int p4), .val (.int p5), .val (.int p6), .val (.int (2 : Int32)), .val (.int (if ((XT.ushr p5 (2 : Int32)) &&& (1 : Int32)) = (0 : Int32) then (0 : Int32) else (1 : Int32))), .val (.ref b145), .val (.int (2 : Int32)), .val (.int (0 : Int32)), .val (.int p1), .val (.ref r147)] [])
        refine Goes.of (fun t => XS.iconst X154.here hx rfl (hb hby at_193)) ?_
        show Goes p e below KK T154 (mkF m 194 #[.val (.int p1), .val (.int p2), .val (.int p3), .val (.int p4), .val (.int p5), .val (.int p6), .val (.int (2 : Int32)), .val (.int (if ((XT.ushr p5 (2 : Int32)) &&& (1 : Int32)) = (0 : Int32) then (0 : Int32) else (1 : Int32))), .val (.ref b145), .val (.int (2 : Int32)), .val (.int (0 : Int32)), .val (.int p1), .val (.ref r147)] [(.int (1 : Int32))])
        refine Goes.of (fun t => XS.goto X154.here hx rfl (pc0 := 194) (pc' := 198) rfl (hb hby at_194) (by decide) (by decide)) ?_
        show Goes p e below KK T154 (mkF m 198 #[.val (.int p1), .val (.int p2), .val (.int p3), .val (.int p4), .val (.int p5), .val (.int p6), .val (.int (2 : Int32)), .val (.int (if ((XT.ushr p5 (2 : Int32)) &&& (1 : Int32)) = (0 : Int32) then (0 : Int32) else (1 : Int32))), .val (.ref b145), .val (.int (2 : Int32)), .val (.int (0 : Int32)), .val (.int p1), .val (.ref r147)] [(.int (1 : Int32))])
        rw [← hKK]
        refine Goes.retNarW X154 HS150 (by rw [e154]; exact HK150) hx hlk (t := .boolean) (by simp) Bd.returns (hb hby at_198) ?_ (by decide) (by decide)
        rw [e154]
        exact ⟨rfl, N154⟩
      · subst hi
        show Goes p e below KK T150 (mkF m 126 #[.val (.int p1), .val (.int p2), .val (.int p3), .val (.int p4), .val (.int p5), .val (.int p6), .val (.int (2 : Int32)), .val (.int (if ((XT.ushr p5 (2 : Int32)) &&& (1 : Int32)) = (0 : Int32) then (0 : Int32) else (1 : Int32))), .val (.ref b145), .val (.int (2 : Int32)), .unset, .unset, .unset] [(.int (1 : Int32))])
        refine Goes.of (fun t => XS.istore Y150.here hx rfl (hb hby at_126) rfl (l' := #[.val (.int p1), .val (.int p2), .val (.int p3), .val (.int p4), .val (.int p5), .val (.int p6), .val (.int (2 : Int32)), .val (.int (if ((XT.ushr p5 (2 : Int32)) &&& (1 : Int32)) = (0 : Int32) then (0 : Int32) else (1 : Int32))), .val (.ref b145), .val (.int (2 : Int32)), .val (.int (1 : Int32)), .unset, .unset]) rfl) ?_
        show Goes p e below KK T150 (mkF m 128 #[.val (.int p1), .val (.int p2), .val (.int p3), .val (.int p4), .val (.int p5), .val (.int p6), .val (.int (2 : Int32)), .val (.int (if ((XT.ushr p5 (2 : Int32)) &&& (1 : Int32)) = (0 : Int32) then (0 : Int32) else (1 : Int32))), .val (.ref b145), .val (.int (2 : Int32)), .val (.int (1 : Int32)), .unset, .unset] [])
        refine Goes.of (fun t => XS.iload Y150.here hx rfl (hb hby at_128) rfl) ?_
        show Goes p e below KK T150 (mkF m 130 #[.val (.int p1), .val (.int p2), .val (.int p3), .val (.int p4), .val (.int p5), .val (.int p6), .val (.int (2 : Int32)), .val (.int (if ((XT.ushr p5 (2 : Int32)) &&& (1 : Int32)) = (0 : Int32) then (0 : Int32) else (1 : Int32))), .val (.ref b145), .val (.int (2 : Int32)), .val (.int (1 : Int32)), .unset, .unset] [(.int (1 : Int32))])
        refine Goes.of (fun t => XS.ifYes Y150.here hx rfl (pc0 := 130) (pc' := 139) rfl (hb hby at_130) rfl ((if0 _ _).trans (feq (show ¬ ((1 : Int32) = (0 : Int32)) from by decide)).2) (by decide) (by decide)) ?_
        show Goes p e below KK T150 (mkF m 139 #[.val (.int p1), .val (.int p2), .val (.int p3), .val (.int p4), .val (.int p5), .val (.int p6), .val (.int (2 : Int32)), .val (.int (if ((XT.ushr p5 (2 : Int32)) &&& (1 : Int32)) = (0 : Int32) then (0 : Int32) else (1 : Int32))), .val (.ref b145), .val (.int (2 : Int32)), .val (.int (1 : Int32)), .unset, .unset] [])
        refine Goes.of (fun t => XS.iload Y150.here hx rfl (hb hby at_139) rfl) ?_
        show Goes p e below KK T150 (mkF m 141 #[.val (.int p1), .val (.int p2), .val (.int p3), .val (.int p4), .val (.int p5), .val (.int p6), .val (.int (2 : Int32)), .val (.int (if ((XT.ushr p5 (2 : Int32)) &&& (1 : Int32)) = (0 : Int32) then (0 : Int32) else (1 : Int32))), .val (.ref b145), .val (.int (2 : Int32)), .val (.int (1 : Int32)), .unset, .unset] [(.int (1 : Int32))])
        refine Goes.of (fun t => XS.iconst Y150.here hx rfl (hb hby at_141)) ?_
        show Goes p e below KK T150 (mkF m 142 #[.val (.int p1), .val (.int p2), .val (.int p3), .val (.int p4), .val (.int p5), .val (.int p6), .val (.int (2 : Int32)), .val (.int (if ((XT.ushr p5 (2 : Int32)) &&& (1 : Int32)) = (0 : Int32) then (0 : Int32) else (1 : Int32))), .val (.ref b145), .val (.int (2 : Int32)), .val (.int (1 : Int32)), .unset, .unset] [(.int (1 : Int32)), (.int (1 : Int32))])
        refine Goes.of (fun t => XS.icmpNo Y150.here hx rfl (hb hby at_142) rfl (teq (show (1 : Int32) = (1 : Int32) from by decide)).2) ?_
        show Goes p e below KK T150 (mkF m 145 #[.val (.int p1), .val (.int p2), .val (.int p3), .val (.int p4), .val (.int p5), .val (.int p6), .val (.int (2 : Int32)), .val (.int (if ((XT.ushr p5 (2 : Int32)) &&& (1 : Int32)) = (0 : Int32) then (0 : Int32) else (1 : Int32))), .val (.ref b145), .val (.int (2 : Int32)), .val (.int (1 : Int32)), .unset, .unset] [])
        refine Goes.of (fun t => XS.iloadN Y150.here hx rfl (hb hby at_145) rfl) ?_
        show Goes p e below KK T150 (mkF m 146 #[.val (.int p1), .val (.int p2), .val (.int p3), .val (.int p4), .val (.int p5), .val (.int p6), .val (.int (2 : Int32)), .val (.int (if ((XT.ushr p5 (2 : Int32)) &&& (1 : Int32)) = (0 : Int32) then (0 : Int32) else (1 : Int32))), .val (.ref b145), .val (.int (2 : Int32)), .val (.int (1 : Int32)), .unset, .unset] [(.int p2)])
        refine Goes.of (fun t => XS.istore Y150.here hx rfl (hb hby at_146) rfl (l' := #[.val (.int p1), .val (.int p2), .val (.int p3), .val (.int p4), .val (.int p5), .val (.int p6), .val (.int (2 : Int32)), .val (.int (if ((XT.ushr p5 (2 : Int32)) &&& (1 : Int32)) = (0 : Int32) then (0 : Int32) else (1 : Int32))), .val (.ref b145), .val (.int (2 : Int32)), .val (.int (1 : Int32)), .val (.int p2), .unset]) rfl) ?_
        show Goes p e below KK T150 (mkF m 148 #[.val (.int p1), .val (.int p2), .val (.int p3), .val (.int p4), .val (.int p5), .val (.int p6), .val (.int (2 : Int32)), .val (.int (if ((XT.ushr p5 (2 : Int32)) &&& (1 : Int32)) = (0 : Int32) then (0 : Int32) else (1 : Int32))), .val (.ref b145), .val (.int (2 : Int32)), .val (.int (1 : Int32)), .val (.int p2), .unset] [])
        refine Goes.of (fun t => XS.goto Y150.here hx rfl (pc0 := 148) (pc' := 166) rfl (hb hby at_148) (by decide) (by decide)) ?_
        show Goes p e below KK T150 (mkF m 166 #[.val (.int p1), .val (.int p2), .val (.int p3), .val (.int p4), .val (.int p5), .val (.int p6), .val (.int (2 : Int32)), .val (.int (if ((XT.ushr p5 (2 : Int32)) &&& (1 : Int32)) = (0 : Int32) then (0 : Int32) else (1 : Int32))), .val (.ref b145), .val (.int (2 : Int32)), .val (.int (1 : Int32)), .val (.int p2), .unset] [])
        refine Goes.of (fun t => XS.aload Y150.here hx rfl (hb hby at_166) rfl rfl) ?_
        show Goes p e below KK T150 (mkF m 168 #[.val (.int p1), .val (.int p2), .val (.int p3), .val (.int p4), .val (.int p5), .val (.int p6), .val (.int (2 : Int32)), .val (.int (if ((XT.ushr p5 (2 : Int32)) &&& (1 : Int32)) = (0 : Int32) then (0 : Int32) else (1 : Int32))), .val (.ref b145), .val (.int (2 : Int32)), .val (.int (1 : Int32)), .val (.int p2), .unset] [(.ref b145)])
        refine Goes.of (fun t => XS.iload Y150.here hx rfl (hb hby at_168) rfl) ?_
        show Goes p e below KK T150 (mkF m 170 #[.val (.int p1), .val (.int p2), .val (.int p3), .val (.int p4), .val (.int p5), .val (.int p6), .val (.int (2 : Int32)), .val (.int (if ((XT.ushr p5 (2 : Int32)) &&& (1 : Int32)) = (0 : Int32) then (0 : Int32) else (1 : Int32))), .val (.ref b145), .val (.int (2 : Int32)), .val (.int (1 : Int32)), .val (.int p2), .unset] [(.int (1 : Int32)), (.ref b145)])
        obtain ⟨cq155, kq155, q155a, q155b, q155c⟩ := isOf hZ150 e150 E150
        obtain ⟨_, _, ⟨T155, L155, k155, n155⟩, -, X155, ⟨Lc155, hQ155, l155, y155, z155⟩, st155⟩ := Y150.virtualBack hx (y := (⟨"corbel/structures/ArrayStack", "get", "(I)Ljava/lang/Object;"⟩ : MethodName)) (z := (⟨"corbel/structures/ArrayStack", "get", "(I)Ljava/lang/Object;"⟩ : MethodName)) hown150 (mvT hZ150 w_65) (mvT hZ150 w_66) (notFace_of_selects (args := #[]) (mvT hZ150 w_68)) (mvT hZ150 w_68) (mvT hZ150 w_67) (by decide) (backOf (W := 0) (rm10 l Z a0 hw [] b145 (1 : Int32) r150 [(.ref r147), (.ref r149)] 1 r149 (2 : Int32) T150.heap n0 Z150 E150 Fe150 Fs150 A150 (by decide) (by decide) rfl rfl) hZ150 w_69 w_2 (by decide) (by decide)) q155a q155c (g := (mkF m 170 #[.val (.int p1), .val (.int p2), .val (.int p3), .val (.int p4), .val (.int p5), .val (.int p6), .val (.int (2 : Int32)), .val (.int (if ((XT.ushr p5 (2 : Int32)) &&& (1 : Int32)) = (0 : Int32) then (0 : Int32) else (1 : Int32))), .val (.ref b145), .val (.int (2 : Int32)), .val (.int (1 : Int32)), .val (.int p2), .unset] [(.int (1 : Int32)), (.ref b145)])) rfl (by rw [hml]; rfl) (Steps.refl _) (argsL := [(.int (1 : Int32))]) (rest := []) (lenOf pd_16 rfl) rfl (by show 2 * 0 + _ ≤ _; exact Nat.le_of_eq rfl) (hb hby at_170) (fun _ _ => ⟨rfl, e150, (by decide : 9 + 0 ≤ _), (by decide : 72 + 0 ≤ _)⟩)
        dsimp only [Pt.U, Pt.locs, Pt.cells, Pt.slots] at X155 l155 y155 z155 st155 hQ155
        subst l155 y155 z155
        obtain ⟨rfl, N155q, e155⟩ := hQ155
        have N155 := Fr.app N150 N155q
        refine Goes.tr st155 ?_
        show Goes p e below KK T155 (mkF m 173 #[.val (.int p1), .val (.int p2), .val (.int p3), .val (.int p4), .val (.int p5), .val (.int p6), .val (.int (2 : Int32)), .val (.int (if ((XT.ushr p5 (2 : Int32)) &&& (1 : Int32)) = (0 : Int32) then (0 : Int32) else (1 : Int32))), .val (.ref b145), .val (.int (2 : Int32)), .val (.int (1 : Int32)), .val (.int p2), .unset] [(.ref r149)])
        obtain ⟨T156, X156, e156, st156⟩ := castY X155 hx hZ150 hown150 w_81 e155 (Ins.self E149_150) (g := (mkF m 173 #[.val (.int p1), .val (.int p2), .val (.int p3), .val (.int p4), .val (.int p5), .val (.int p6), .val (.int (2 : Int32)), .val (.int (if ((XT.ushr p5 (2 : Int32)) &&& (1 : Int32)) = (0 : Int32) then (0 : Int32) else (1 : Int32))), .val (.ref b145), .val (.int (2 : Int32)), .val (.int (1 : Int32)), .val (.int p2), .unset] [(.ref r149)])) rfl rfl (hb hby at_173)
        refine Goes.of (st156) ?_
        show Goes p e below KK T156 (mkF m 176 #[.val (.int p1), .val (.int p2), .val (.int p3), .val (.int p4), .val (.int p5), .val (.int p6), .val (.int (2 : Int32)), .val (.int (if ((XT.ushr p5 (2 : Int32)) &&& (1 : Int32)) = (0 : Int32) then (0 : Int32) else (1 : Int32))), .val (.ref b145), .val (.int (2 : Int32)), .val (.int (1 : Int32)), .val (.int p2), .unset] [(.ref r149)])
        refine Goes.of (fun t => XS.astore X156.here hx rfl (hb hby at_176) rfl rfl (l' := #[.val (.int p1), .val (.int p2), .val (.int p3), .val (.int p4), .val (.int p5), .val (.int p6), .val (.int (2 : Int32)), .val (.int (if ((XT.ushr p5 (2 : Int32)) &&& (1 : Int32)) = (0 : Int32) then (0 : Int32) else (1 : Int32))), .val (.ref b145), .val (.int (2 : Int32)), .val (.int (1 : Int32)), .val (.int p2), .val (.ref r149)]) rfl) ?_
        show Goes p e below KK T156 (mkF m 178 #[.val (.int p1), .val (.int p2), .val (.int p3), .val (.int p4), .val (.int p5), .val (.int p6), .val (.int (2 : Int32)), .val (.int (if ((XT.ushr p5 (2 : Int32)) &&& (1 : Int32)) = (0 : Int32) then (0 : Int32) else (1 : Int32))), .val (.ref b145), .val (.int (2 : Int32)), .val (.int (1 : Int32)), .val (.int p2), .val (.ref r149)] [])
        refine Goes.of (fun t => XS.aload X156.here hx rfl (hb hby at_178) rfl rfl) ?_
        show Goes p e below KK T156 (mkF m 180 #[.val (.int p1), .val (.int p2), .val (.int p3), .val (.int p4), .val (.int p5), .val (.int p6), .val (.int (2 : Int32)), .val (.int (if ((XT.ushr p5 (2 : Int32)) &&& (1 : Int32)) = (0 : Int32) then (0 : Int32) else (1 : Int32))), .val (.ref b145), .val (.int (2 : Int32)), .val (.int (1 : Int32)), .val (.int p2), .val (.ref r149)] [(.ref r149)])
        refine Goes.of (fun t => XS.ifnullNo X156.here hx rfl (hb hby at_180) rfl) ?_
        show Goes p e below KK T156 (mkF m 183 #[.val (.int p1), .val (.int p2), .val (.int p3), .val (.int p4), .val (.int p5), .val (.int p6), .val (.int (2 : Int32)), .val (.int (if ((XT.ushr p5 (2 : Int32)) &&& (1 : Int32)) = (0 : Int32) then (0 : Int32) else (1 : Int32))), .val (.ref b145), .val (.int (2 : Int32)), .val (.int (1 : Int32)), .val (.int p2), .val (.ref r149)] [])
        refine Goes.of (fun t => XS.aload X156.here hx rfl (hb hby at_183) rfl rfl) ?_
        show Goes p e below KK T156 (mkF m 185 #[.val (.int p1), .val (.int p2), .val (.int p3), .val (.int p4), .val (.int p5), .val (.int p6), .val (.int (2 : Int32)), .val (.int (if ((XT.ushr p5 (2 : Int32)) &&& (1 : Int32)) = (0 : Int32) then (0 : Int32) else (1 : Int32))), .val (.ref b145), .val (.int (2 : Int32)), .val (.int (1 : Int32)), .val (.int p2), .val (.ref r149)] [(.ref r149)])
        obtain ⟨cq157, kq157, q157a, q157b, q157c⟩ := isOf hZ150 e156 E149_150
        obtain ⟨_, _, ⟨T157, L157, k157, n157⟩, -, X157, ⟨Lc157, hQ157, l157, y157, z157⟩, st157⟩ := X156.virtualBack hx (y := (⟨"java/lang/Integer", "intValue", "()I"⟩ : MethodName)) (z := (⟨"java/lang/Integer", "intValue", "()I"⟩ : MethodName)) hown150 (mvT hZ150 w_83) (mvT hZ150 w_84) (notFace_of_selects (args := #[]) (mvT hZ150 w_86)) (mvT hZ150 w_86) (mvT hZ150 w_85) (by decide) (backOf (W := 0) (rm14 l Z a0 hw [] r149 p2 T150.heap n0 Z150 F149_150) hZ150 w_87 w_33 (by decide) (by decide)) q157a q157c (g := (mkF m 185 #[.val (.int p1), .val (.int p2), .val (.int p3), .val (.int p4), .val (.int p5), .val (.int p6), .val (.int (2 : Int32)), .val (.int (if ((XT.ushr p5 (2 : Int32)) &&& (1 : Int32)) = (0 : Int32) then (0 : Int32) else (1 : Int32))), .val (.ref b145), .val (.int (2 : Int32)), .val (.int (1 : Int32)), .val (.int p2), .val (.ref r149)] [(.ref r149)])) rfl (by rw [hml]; rfl) (Steps.refl _) (argsL := []) (rest := []) (lenOf pd_50 rfl) rfl (by show 2 * 0 + _ ≤ _; exact Nat.le_of_eq rfl) (hb hby at_185) (fun _ _ => ⟨rfl, e156, (by decide : 9 + 0 ≤ _), (by decide : 72 + 0 ≤ _)⟩)
        dsimp only [Pt.U, Pt.locs, Pt.cells, Pt.slots] at X157 l157 y157 z157 st157 hQ157
        subst l157 y157 z157
        obtain ⟨rfl, N157q, e157⟩ := hQ157
        have N157 := Fr.app N155 N157q
        refine Goes.tr st157 ?_
        show Goes p e below KK T157 (mkF m 188 #[.val (.int p1), .val (.int p2), .val (.int p3), .val (.int p4), .val (.int p5), .val (.int p6), .val (.int (2 : Int32)), .val (.int (if ((XT.ushr p5 (2 : Int32)) &&& (1 : Int32)) = (0 : Int32) then (0 : Int32) else (1 : Int32))), .val (.ref b145), .val (.int (2 : Int32)), .val (.int (1 : Int32)), .val (.int p2), .val (.ref r149)] [(.int p2)])
        refine Goes.of (fun t => XS.iload X157.here hx rfl (hb hby at_188) rfl) ?_
        show Goes p e below KK T157 (mkF m 190 #[.val (.int p1), .val (.int p2), .val (.int p3), .val (.int p4), .val (.int p5), .val (.int p6), .val (.int (2 : Int32)), .val (.int (if ((XT.ushr p5 (2 : Int32)) &&& (1 : Int32)) = (0 : Int32) then (0 : Int32) else (1 : Int32))), .val (.ref b145), .val (.int (2 : Int32)), .val (.int (1 : Int32)), .val (.int p2), .val (.ref r149)] [(.int p2), (.int p2)])
        refine Goes.of (fun t => XS.icmpNo X157.here hx rfl (hb hby at_190) rfl (teq (show p2 = p2 from rfl)).2) ?_
        show Goes p e below KK T157 (mkF m 193 #[.val (.int p1), .val (.int p2), .val (.int p3), .val (.int p4), .val (.int p5), .val (.int p6), .val (.int (2 : Int32)), .val (.int (if ((XT.ushr p5 (2 : Int32)) &&& (1 : Int32)) = (0 : Int32) then (0 : Int32) else (1 : Int32))), .val (.ref b145), .val (.int (2 : Int32)), .val (.int (1 : Int32)), .val (.int p2), .val (.ref r149)] [])
        refine Goes.of (fun t => XS.iconst X157.here hx rfl (hb hby at_193)) ?_
        show Goes p e below KK T157 (mkF m 194 #[.val (.int p1), .val (.int p2), .val (.int p3), .val (.int p4), .val (.int p5), .val (.int p6), .val (.int (2 : Int32)), .val (.int (if ((XT.ushr p5 (2 : Int32)) &&& (1 : Int32)) = (0 : Int32) then (0 : Int32) else (1 : Int32))), .val (.ref b145), .val (.int (2 : Int32)), .val (.int (1 : Int32)), .val (.int p2), .val (.ref r149)] [(.int (1 : Int32))])
        refine Goes.of (fun t => XS.goto X157.here hx rfl (pc0 := 194) (pc' := 198) rfl (hb hby at_194) (by decide) (by decide)) ?_
        show Goes p e below KK T157 (mkF m 198 #[.val (.int p1), .val (.int p2), .val (.int p3), .val (.int p4), .val (.int p5), .val (.int p6), .val (.int (2 : Int32)), .val (.int (if ((XT.ushr p5 (2 : Int32)) &&& (1 : Int32)) = (0 : Int32) then (0 : Int32) else (1 : Int32))), .val (.ref b145), .val (.int (2 : Int32)), .val (.int (1 : Int32)), .val (.int p2), .val (.ref r149)] [(.int (1 : Int32))])
        rw [← hKK]
        refine Goes.retNarW X157 HS150 (by rw [e157]; exact HK150) hx hlk (t := .boolean) (by simp) Bd.returns (hb hby at_198) ?_ (by decide) (by decide)
        rw [e157]
        exact ⟨rfl, N157⟩
    · refine Goes.of (fun t => XS.ifNo Y150.here hx rfl (hb hby at_103) rfl ((if0 _ _).trans (feq hc103_2).1)) ?_
      show Goes p e below KK T150 (mkF m 106 #[.val (.int p1), .val (.int p2), .val (.int p3), .val (.int p4), .val (.int p5), .val (.int p6), .val (.int (2 : Int32)), .val (.int (if ((XT.ushr p5 (2 : Int32)) &&& (1 : Int32)) = (0 : Int32) then (0 : Int32) else (1 : Int32))), .val (.ref b145), .val (.int (2 : Int32)), .unset, .unset, .unset] [])
      refine Goes.of (fun t => XS.aload Y150.here hx rfl (hb hby at_106) rfl rfl) ?_
      show Goes p e below KK T150 (mkF m 108 #[.val (.int p1), .val (.int p2), .val (.int p3), .val (.int p4), .val (.int p5), .val (.int p6), .val (.int (2 : Int32)), .val (.int (if ((XT.ushr p5 (2 : Int32)) &&& (1 : Int32)) = (0 : Int32) then (0 : Int32) else (1 : Int32))), .val (.ref b145), .val (.int (2 : Int32)), .unset, .unset, .unset] [(.ref b145)])
      obtain ⟨cq158, kq158, q158a, q158b, q158c⟩ := isOf hZ150 e150 E150
      obtain ⟨_, _, ⟨T158, L158, k158, n158⟩, -, X158, ⟨Lc158, hQ158, l158, y158, z158⟩, st158⟩ := Y150.virtualBack hx (y := (⟨"corbel/structures/ArrayStack", "pop", "()Ljava/lang/Object;"⟩ : MethodName)) (z := (⟨"corbel/structures/ArrayStack", "pop", "()Ljava/lang/Object;"⟩ : MethodName)) hown150 (mvT hZ150 w_115) (mvT hZ150 w_116) (notFace_of_selects (args := #[]) (mvT hZ150 w_118)) (mvT hZ150 w_118) (mvT hZ150 w_117) (by decide) (backOf (W := 0) (rm18s2 l Z a0 hw [] b145 r150 (((0 : Int32) + 1) + 1) r147 r149 T150.heap n0 Z150 E150 Fe150 Fs150 Fm150 A150 E147_148_149_150 E149_150 g_b145 g_r150) hZ150 w_119 w_2 (by decide) (by decide)) q158a q158c (g := (mkF m 108 #[.val (.int p1), .val (.int p2), .val (.int p3), .val (.int p4), .val (.int p5), .val (.int p6), .val (.int (2 : Int32)), .val (.int (if ((XT.ushr p5 (2 : Int32)) &&& (1 : Int32)) = (0 : Int32) then (0 : Int32) else (1 : Int32))), .val (.ref b145), .val (.int (2 : Int32)), .unset, .unset, .unset] [(.ref b145)])) rfl (by rw [hml]; rfl) (Steps.refl _) (argsL := []) (rest := []) (lenOf pd_51 rfl) rfl (by show 2 * 0 + _ ≤ _; exact Nat.le_of_eq rfl) (hb hby at_108) (fun _ _ => ⟨rfl, e150, (by decide : 9 + 0 ≤ _), (by decide : 72 + 0 ≤ _)⟩)
      dsimp only [Pt.U, Pt.locs, Pt.cells, Pt.slots] at X158 l158 y158 z158 st158 hQ158
      subst l158 y158 z158
      obtain ⟨rfl, N158q, Kc158, E158, Fe158, Fs158, Fm158, A158⟩ := hQ158
      have N158 := Fr.app N150 N158q
      have O_158 : Old Z n0 T158.heap := O_150.keep Kc158 (allS g_b145 (allS g_r150 all0))
      have E150_158 : Exa Z T158.heap b145 "corbel/structures/ArrayStack" := E150.keep Kc158
      have E147_148_149_150_158 : Exa Z T158.heap r147 "java/lang/Integer" := E147_148_149_150.keep Kc158
      have F147_148_149_150_158 : Fld Z T158.heap r147 "java/lang/Integer" "value" "I" (.int p1) := F147_148_149_150.keep Kc158 (ninS (Exa.ne E147_148_149_150 E150 (by decide)) (ninS (Exa.ne E147_148_149_150 A150.exa (by decide)) nin0))
      have E149_150_158 : Exa Z T158.heap r149 "java/lang/Integer" := E149_150.keep Kc158
      have F149_150_158 : Fld Z T158.heap r149 "java/lang/Integer" "value" "I" (.int p2) := F149_150.keep Kc158 (ninS (Exa.ne E149_150 E150 (by decide)) (ninS (Exa.ne E149_150 A150.exa (by decide)) nin0))
      have K158 : Keep h0 T158.heap [] := K150.trans Kc158 (allS (Or.inr sz_b145) (allS (Or.inr sz_r150) all0))
      have Z158 : n0 ≤ T158.heap.size := Nat.le_trans Z150 Kc158.1
      have HK158 := Nat.le_trans HK150 Kc158.1
      have e158 : T158.heap = T158.heap := rfl
      refine Goes.tr st158 ?_
      show Goes p e below KK T158 (mkF m 111 #[.val (.int p1), .val (.int p2), .val (.int p3), .val (.int p4), .val (.int p5), .val (.int p6), .val (.int (2 : Int32)), .val (.int (if ((XT.ushr p5 (2 : Int32)) &&& (1 : Int32)) = (0 : Int32) then (0 : Int32) else (1 : Int32))), .val (.ref b145), .val (.int (2 : Int32)), .unset, .unset, .unset] [(.ref r149)])
      refine Goes.of (fun t => XT.pop X158.here hx rfl (hb hby at_111) rfl rfl) ?_
      show Goes p e below KK T158 (mkF m 112 #[.val (.int p1), .val (.int p2), .val (.int p3), .val (.int p4), .val (.int p5), .val (.int p6), .val (.int (2 : Int32)), .val (.int (if ((XT.ushr p5 (2 : Int32)) &&& (1 : Int32)) = (0 : Int32) then (0 : Int32) else (1 : Int32))), .val (.ref b145), .val (.int (2 : Int32)), .unset, .unset, .unset] [])
      refine Goes.of (fun t => XS.iload X158.here hx rfl (hb hby at_112) rfl) ?_
      show Goes p e below KK T158 (mkF m 114 #[.val (.int p1), .val (.int p2), .val (.int p3), .val (.int p4), .val (.int p5), .val (.int p6), .val (.int (2 : Int32)), .val (.int (if ((XT.ushr p5 (2 : Int32)) &&& (1 : Int32)) = (0 : Int32) then (0 : Int32) else (1 : Int32))), .val (.ref b145), .val (.int (2 : Int32)), .unset, .unset, .unset] [(.int (2 : Int32))])
      refine Goes.of (fun t => XS.iconst X158.here hx rfl (hb hby at_114)) ?_
      show Goes p e below KK T158 (mkF m 115 #[.val (.int p1), .val (.int p2), .val (.int p3), .val (.int p4), .val (.int p5), .val (.int p6), .val (.int (2 : Int32)), .val (.int (if ((XT.ushr p5 (2 : Int32)) &&& (1 : Int32)) = (0 : Int32) then (0 : Int32) else (1 : Int32))), .val (.ref b145), .val (.int (2 : Int32)), .unset, .unset, .unset] [(.int (1 : Int32)), (.int (2 : Int32))])
      refine Goes.of (fun t => XS.isub X158.here hx rfl (hb hby at_115) rfl) ?_
      show Goes p e below KK T158 (mkF m 116 #[.val (.int p1), .val (.int p2), .val (.int p3), .val (.int p4), .val (.int p5), .val (.int p6), .val (.int (2 : Int32)), .val (.int (if ((XT.ushr p5 (2 : Int32)) &&& (1 : Int32)) = (0 : Int32) then (0 : Int32) else (1 : Int32))), .val (.ref b145), .val (.int (2 : Int32)), .unset, .unset, .unset] [(.int (1 : Int32))])
      refine Goes.of (fun t => XS.istore X158.here hx rfl (hb hby at_116) rfl (l' := #[.val (.int p1), .val (.int p2), .val (.int p3), .val (.int p4), .val (.int p5), .val (.int p6), .val (.int (2 : Int32)), .val (.int (if ((XT.ushr p5 (2 : Int32)) &&& (1 : Int32)) = (0 : Int32) then (0 : Int32) else (1 : Int32))), .val (.ref b145), .val (.int (1 : Int32)), .unset, .unset, .unset]) rfl) ?_
      show Goes p e below KK T158 (mkF m 118 #[.val (.int p1), .val (.int p2), .val (.int p3), .val (.int p4), .val (.int p5), .val (.int p6), .val (.int (2 : Int32)), .val (.int (if ((XT.ushr p5 (2 : Int32)) &&& (1 : Int32)) = (0 : Int32) then (0 : Int32) else (1 : Int32))), .val (.ref b145), .val (.int (1 : Int32)), .unset, .unset, .unset] [])
      refine Goes.of (fun t => XS.iload X158.here hx rfl (hb hby at_118) rfl) ?_
      show Goes p e below KK T158 (mkF m 120 #[.val (.int p1), .val (.int p2), .val (.int p3), .val (.int p4), .val (.int p5), .val (.int p6), .val (.int (2 : Int32)), .val (.int (if ((XT.ushr p5 (2 : Int32)) &&& (1 : Int32)) = (0 : Int32) then (0 : Int32) else (1 : Int32))), .val (.ref b145), .val (.int (1 : Int32)), .unset, .unset, .unset] [(.int p6)])
      refine Goes.of (X158.ldcInt hx hown150 (mvT hZ150 w_64) (g := (mkF m 120 #[.val (.int p1), .val (.int p2), .val (.int p3), .val (.int p4), .val (.int p5), .val (.int p6), .val (.int (2 : Int32)), .val (.int (if ((XT.ushr p5 (2 : Int32)) &&& (1 : Int32)) = (0 : Int32) then (0 : Int32) else (1 : Int32))), .val (.ref b145), .val (.int (1 : Int32)), .unset, .unset, .unset] [(.int p6)])) rfl (hb hby at_120)) ?_
      show Goes p e below KK T158 (mkF m 122 #[.val (.int p1), .val (.int p2), .val (.int p3), .val (.int p4), .val (.int p5), .val (.int p6), .val (.int (2 : Int32)), .val (.int (if ((XT.ushr p5 (2 : Int32)) &&& (1 : Int32)) = (0 : Int32) then (0 : Int32) else (1 : Int32))), .val (.ref b145), .val (.int (1 : Int32)), .unset, .unset, .unset] [(.int (2147483647 : Int32)), (.int p6)])
      refine Goes.of (fun t => XS.iand X158.here hx rfl (hb hby at_122) rfl) ?_
      show Goes p e below KK T158 (mkF m 123 #[.val (.int p1), .val (.int p2), .val (.int p3), .val (.int p4), .val (.int p5), .val (.int p6), .val (.int (2 : Int32)), .val (.int (if ((XT.ushr p5 (2 : Int32)) &&& (1 : Int32)) = (0 : Int32) then (0 : Int32) else (1 : Int32))), .val (.ref b145), .val (.int (1 : Int32)), .unset, .unset, .unset] [(.int (p6 &&& (2147483647 : Int32)))])
      refine Goes.of (fun t => XS.iload X158.here hx rfl (hb hby at_123) rfl) ?_
      show Goes p e below KK T158 (mkF m 125 #[.val (.int p1), .val (.int p2), .val (.int p3), .val (.int p4), .val (.int p5), .val (.int p6), .val (.int (2 : Int32)), .val (.int (if ((XT.ushr p5 (2 : Int32)) &&& (1 : Int32)) = (0 : Int32) then (0 : Int32) else (1 : Int32))), .val (.ref b145), .val (.int (1 : Int32)), .unset, .unset, .unset] [(.int (1 : Int32)), (.int (p6 &&& (2147483647 : Int32)))])
      refine Goes.of (fun t => iremM X158 hx rfl (hb hby at_125) rfl (by decide)) ?_
      show Goes p e below KK T158 (mkF m 126 #[.val (.int p1), .val (.int p2), .val (.int p3), .val (.int p4), .val (.int p5), .val (.int p6), .val (.int (2 : Int32)), .val (.int (if ((XT.ushr p5 (2 : Int32)) &&& (1 : Int32)) = (0 : Int32) then (0 : Int32) else (1 : Int32))), .val (.ref b145), .val (.int (1 : Int32)), .unset, .unset, .unset] [(.int ((p6 &&& (2147483647 : Int32)) % (1 : Int32)))])
      generalize e_ix : ((p6 &&& (2147483647 : Int32)) % (1 : Int32)) = ix
      show Goes p e below KK T158 (mkF m 126 #[.val (.int p1), .val (.int p2), .val (.int p3), .val (.int p4), .val (.int p5), .val (.int p6), .val (.int (2 : Int32)), .val (.int (if ((XT.ushr p5 (2 : Int32)) &&& (1 : Int32)) = (0 : Int32) then (0 : Int32) else (1 : Int32))), .val (.ref b145), .val (.int (1 : Int32)), .unset, .unset, .unset] [(.int ix)])
      have hi1_159 : (p6 &&& 2147483647).toInt = p6.toInt % 2 ^ 31 := Jvm.Kit.i32_mask p6 2147483647 (k := 31) (by decide) (by decide)
      have hi2_159 : ix.toInt = (p6 &&& 2147483647).toInt % 1 := by rw [← e_ix]; exact Jvm.Kit.i32_rem_nonneg (by omega)
      have hi3_159 : ix = 0 := by
        have a1 : ix.toInt = 0 := by omega
        exact Int32.toInt_inj.mp a1
      have hi := hi3_159
      subst hi
      show Goes p e below KK T158 (mkF m 126 #[.val (.int p1), .val (.int p2), .val (.int p3), .val (.int p4), .val (.int p5), .val (.int p6), .val (.int (2 : Int32)), .val (.int (if ((XT.ushr p5 (2 : Int32)) &&& (1 : Int32)) = (0 : Int32) then (0 : Int32) else (1 : Int32))), .val (.ref b145), .val (.int (1 : Int32)), .unset, .unset, .unset] [(.int (0 : Int32))])
      refine Goes.of (fun t => XS.istore X158.here hx rfl (hb hby at_126) rfl (l' := #[.val (.int p1), .val (.int p2), .val (.int p3), .val (.int p4), .val (.int p5), .val (.int p6), .val (.int (2 : Int32)), .val (.int (if ((XT.ushr p5 (2 : Int32)) &&& (1 : Int32)) = (0 : Int32) then (0 : Int32) else (1 : Int32))), .val (.ref b145), .val (.int (1 : Int32)), .val (.int (0 : Int32)), .unset, .unset]) rfl) ?_
      show Goes p e below KK T158 (mkF m 128 #[.val (.int p1), .val (.int p2), .val (.int p3), .val (.int p4), .val (.int p5), .val (.int p6), .val (.int (2 : Int32)), .val (.int (if ((XT.ushr p5 (2 : Int32)) &&& (1 : Int32)) = (0 : Int32) then (0 : Int32) else (1 : Int32))), .val (.ref b145), .val (.int (1 : Int32)), .val (.int (0 : Int32)), .unset, .unset] [])
      refine Goes.of (fun t => XS.iload X158.here hx rfl (hb hby at_128) rfl) ?_
      show Goes p e below KK T158 (mkF m 130 #[.val (.int p1), .val (.int p2), .val (.int p3), .val (.int p4), .val (.int p5), .val (.int p6), .val (.int (2 : Int32)), .val (.int (if ((XT.ushr p5 (2 : Int32)) &&& (1 : Int32)) = (0 : Int32) then (0 : Int32) else (1 : Int32))), .val (.ref b145), .val (.int (1 : Int32)), .val (.int (0 : Int32)), .unset, .unset] [(.int (0 : Int32))])
      refine Goes.of (fun t => XS.ifNo X158.here hx rfl (hb hby at_130) rfl ((if0 _ _).trans (teq (show (0 : Int32) = (0 : Int32) from by decide)).2)) ?_
      show Goes p e below KK T158 (mkF m 133 #[.val (.int p1), .val (.int p2), .val (.int p3), .val (.int p4), .val (.int p5), .val (.int p6), .val (.int (2 : Int32)), .val (.int (if ((XT.ushr p5 (2 : Int32)) &&& (1 : Int32)) = (0 : Int32) then (0 : Int32) else (1 : Int32))), .val (.ref b145), .val (.int (1 : Int32)), .val (.int (0 : Int32)), .unset, .unset] [])
      refine Goes.of (fun t => XS.iloadN X158.here hx rfl (hb hby at_133) rfl) ?_
      show Goes p e below KK T158 (mkF m 134 #[.val (.int p1), .val (.int p2), .val (.int p3), .val (.int p4), .val (.int p5), .val (.int p6), .val (.int (2 : Int32)), .val (.int (if ((XT.ushr p5 (2 : Int32)) &&& (1 : Int32)) = (0 : Int32) then (0 : Int32) else (1 : Int32))), .val (.ref b145), .val (.int (1 : Int32)), .val (.int (0 : Int32)), .unset, .unset] [(.int p1)])
      refine Goes.of (fun t => XS.istore X158.here hx rfl (hb hby at_134) rfl (l' := #[.val (.int p1), .val (.int p2), .val (.int p3), .val (.int p4), .val (.int p5), .val (.int p6), .val (.int (2 : Int32)), .val (.int (if ((XT.ushr p5 (2 : Int32)) &&& (1 : Int32)) = (0 : Int32) then (0 : Int32) else (1 : Int32))), .val (.ref b145), .val (.int (1 : Int32)), .val (.int (0 : Int32)), .val (.int p1), .unset]) rfl) ?_
      show Goes p e below KK T158 (mkF m 136 #[.val (.int p1), .val (.int p2), .val (.int p3), .val (.int p4), .val (.int p5), .val (.int p6), .val (.int (2 : Int32)), .val (.int (if ((XT.ushr p5 (2 : Int32)) &&& (1 : Int32)) = (0 : Int32) then (0 : Int32) else (1 : Int32))), .val (.ref b145), .val (.int (1 : Int32)), .val (.int (0 : Int32)), .val (.int p1), .unset] [])
      refine Goes.of (fun t => XS.goto X158.here hx rfl (pc0 := 136) (pc' := 166) rfl (hb hby at_136) (by decide) (by decide)) ?_
      show Goes p e below KK T158 (mkF m 166 #[.val (.int p1), .val (.int p2), .val (.int p3), .val (.int p4), .val (.int p5), .val (.int p6), .val (.int (2 : Int32)), .val (.int (if ((XT.ushr p5 (2 : Int32)) &&& (1 : Int32)) = (0 : Int32) then (0 : Int32) else (1 : Int32))), .val (.ref b145), .val (.int (1 : Int32)), .val (.int (0 : Int32)), .val (.int p1), .unset] [])
      refine Goes.of (fun t => XS.aload X158.here hx rfl (hb hby at_166) rfl rfl) ?_
      show Goes p e below KK T158 (mkF m 168 #[.val (.int p1), .val (.int p2), .val (.int p3), .val (.int p4), .val (.int p5), .val (.int p6), .val (.int (2 : Int32)), .val (.int (if ((XT.ushr p5 (2 : Int32)) &&& (1 : Int32)) = (0 : Int32) then (0 : Int32) else (1 : Int32))), .val (.ref b145), .val (.int (1 : Int32)), .val (.int (0 : Int32)), .val (.int p1), .unset] [(.ref b145)])
      refine Goes.of (fun t => XS.iload X158.here hx rfl (hb hby at_168) rfl) ?_
      show Goes p e below KK T158 (mkF m 170 #[.val (.int p1), .val (.int p2), .val (.int p3), .val (.int p4), .val (.int p5), .val (.int p6), .val (.int (2 : Int32)), .val (.int (if ((XT.ushr p5 (2 : Int32)) &&& (1 : Int32)) = (0 : Int32) then (0 : Int32) else (1 : Int32))), .val (.ref b145), .val (.int (1 : Int32)), .val (.int (0 : Int32)), .val (.int p1), .unset] [(.int (0 : Int32)), (.ref b145)])
      obtain ⟨cq160, kq160, q160a, q160b, q160c⟩ := isOf hZ150 e158 E158
      obtain ⟨_, _, ⟨T160, L160, k160, n160⟩, -, X160, ⟨Lc160, hQ160, l160, y160, z160⟩, st160⟩ := X158.virtualBack hx (y := (⟨"corbel/structures/ArrayStack", "get", "(I)Ljava/lang/Object;"⟩ : MethodName)) (z := (⟨"corbel/structures/ArrayStack", "get", "(I)Ljava/lang/Object;"⟩ : MethodName)) hown150 (mvT hZ150 w_65) (mvT hZ150 w_66) (notFace_of_selects (args := #[]) (mvT hZ150 w_68)) (mvT hZ150 w_68) (mvT hZ150 w_67) (by decide) (backOf (W := 0) (rm10 l Z a0 hw [] b145 (0 : Int32) r150 [(.ref r147), .null] 0 r147 (1 : Int32) T158.heap n0 Z158 E158 Fe158 Fs158 A158 (by decide) (by decide) rfl rfl) hZ150 w_69 w_2 (by decide) (by decide)) q160a q160c (g := (mkF m 170 #[.val (.int p1), .val (.int p2), .val (.int p3), .val (.int p4), .val (.int p5), .val (.int p6), .val (.int (2 : Int32)), .val (.int (if ((XT.ushr p5 (2 : Int32)) &&& (1 : Int32)) = (0 : Int32) then (0 : Int32) else (1 : Int32))), .val (.ref b145), .val (.int (1 : Int32)), .val (.int (0 : Int32)), .val (.int p1), .unset] [(.int (0 : Int32)), (.ref b145)])) rfl (by rw [hml]; rfl) (Steps.refl _) (argsL := [(.int (0 : Int32))]) (rest := []) (lenOf pd_16 rfl) rfl (by show 2 * 0 + _ ≤ _; exact Nat.le_of_eq rfl) (hb hby at_170) (fun _ _ => ⟨rfl, e158, (by decide : 9 + 0 ≤ _), (by decide : 72 + 0 ≤ _)⟩)
      dsimp only [Pt.U, Pt.locs, Pt.cells, Pt.slots] at X160 l160 y160 z160 st160 hQ160
      subst l160 y160 z160
      obtain ⟨rfl, N160q, e160⟩ := hQ160
      have N160 := Fr.app N158 N160q
      refine Goes.tr st160 ?_
      show Goes p e below KK T160 (mkF m 173 #[.val (.int p1), .val (.int p2), .val (.int p3), .val (.int p4), .val (.int p5), .val (.int p6), .val (.int (2 : Int32)), .val (.int (if ((XT.ushr p5 (2 : Int32)) &&& (1 : Int32)) = (0 : Int32) then (0 : Int32) else (1 : Int32))), .val (.ref b145), .val (.int (1 : Int32)), .val (.int (0 : Int32)), .val (.int p1), .unset] [(.ref r147)])
      obtain ⟨T161, X161, e161, st161⟩ := castY X160 hx hZ150 hown150 w_81 e160 (Ins.self E147_148_149_150_158) (g := (mkF m 173 #[.val (.int p1), .val (.int p2), .val (.int p3), .val (.int p4), .val (.int p5), .val (.int p6), .val (.int (2 : Int32)), .val (.int (if ((XT.ushr p5 (2 : Int32)) &&& (1 : Int32)) = (0 : Int32) then (0 : Int32) else (1 : Int32))), .val (.ref b145), .val (.int (1 : Int32)), .val (.int (0 : Int32)), .val (.int p1), .unset] [(.ref r147)])) rfl rfl (hb hby at_173)
      refine Goes.of (st161) ?_
      show Goes p e below KK T161 (mkF m 176 #[.val (.int p1), .val (.int p2), .val (.int p3), .val (.int p4), .val (.int p5), .val (.int p6), .val (.int (2 : Int32)), .val (.int (if ((XT.ushr p5 (2 : Int32)) &&& (1 : Int32)) = (0 : Int32) then (0 : Int32) else (1 : Int32))), .val (.ref b145), .val (.int (1 : Int32)), .val (.int (0 : Int32)), .val (.int p1), .unset] [(.ref r147)])
      refine Goes.of (fun t => XS.astore X161.here hx rfl (hb hby at_176) rfl rfl (l' := #[.val (.int p1), .val (.int p2), .val (.int p3), .val (.int p4), .val (.int p5), .val (.int p6), .val (.int (2 : Int32)), .val (.int (if ((XT.ushr p5 (2 : Int32)) &&& (1 : Int32)) = (0 : Int32) then (0 : Int32) else (1 : Int32))), .val (.ref b145), .val (.int (1 : Int32)), .val (.int (0 : Int32)), .val (.int p1), .val (.ref r147)]) rfl) ?_
      show Goes p e below KK T161 (mkF m 178 #[.val (.int p1), .val (.int p2), .val (.int p3), .val (.int p4), .val (.int p5), .val (.int p6), .val (.int (2 : Int32)), .val (.int (if ((XT.ushr p5 (2 : Int32)) &&& (1 : Int32)) = (0 : Int32) then (0 : Int32) else (1 : Int32))), .val (.ref b145), .val (.int (1 : Int32)), .val (.int (0 : Int32)), .val (.int p1), .val (.ref r147)] [])
      refine Goes.of (fun t => XS.aload X161.here hx rfl (hb hby at_178) rfl rfl) ?_
      show Goes p e below KK T161 (mkF m 180 #[.val (.int p1), .val (.int p2), .val (.int p3), .val (.int p4), .val (.int p5), .val (.int p6), .val (.int (2 : Int32)), .val (.int (if ((XT.ushr p5 (2 : Int32)) &&& (1 : Int32)) = (0 : Int32) then (0 : Int32) else (1 : Int32))), .val (.ref b145), .val (.int (1 : Int32)), .val (.int (0 : Int32)), .val (.int p1), .val (.ref r147)] [(.ref r147)])
      refine Goes.of (fun t => XS.ifnullNo X161.here hx rfl (hb hby at_180) rfl) ?_
      show Goes p e below KK T161 (mkF m 183 #[.val (.int p1), .val (.int p2), .val (.int p3), .val (.int p4), .val (.int p5), .val (.int p6), .val (.int (2 : Int32)), .val (.int (if ((XT.ushr p5 (2 : Int32)) &&& (1 : Int32)) = (0 : Int32) then (0 : Int32) else (1 : Int32))), .val (.ref b145), .val (.int (1 : Int32)), .val (.int (0 : Int32)), .val (.int p1), .val (.ref r147)] [])
      refine Goes.of (fun t => XS.aload X161.here hx rfl (hb hby at_183) rfl rfl) ?_
      show Goes p e below KK T161 (mkF m 185 #[.val (.int p1), .val (.int p2), .val (.int p3), .val (.int p4), .val (.int p5), .val (.int p6), .val (.int (2 : Int32)), .val (.int (if ((XT.ushr p5 (2 : Int32)) &&& (1 : Int32)) = (0 : Int32) then (0 : Int32) else (1 : Int32))), .val (.ref b145), .val (.int (1 : Int32)), .val (.int (0 : Int32)), .val (.int p1), .val (.ref r147)] [(.ref r147)])
      obtain ⟨cq162, kq162, q162a, q162b, q162c⟩ := isOf hZ150 e161 E147_148_149_150_158
      obtain ⟨_, _, ⟨T162, L162, k162, n162⟩, -, X162, ⟨Lc162, hQ162, l162, y162, z162⟩, st162⟩ := X161.virtualBack hx (y := (⟨"java/lang/Integer", "intValue", "()I"⟩ : MethodName)) (z := (⟨"java/lang/Integer", "intValue", "()I"⟩ : MethodName)) hown150 (mvT hZ150 w_83) (mvT hZ150 w_84) (notFace_of_selects (args := #[]) (mvT hZ150 w_86)) (mvT hZ150 w_86) (mvT hZ150 w_85) (by decide) (backOf (W := 0) (rm14 l Z a0 hw [] r147 p1 T158.heap n0 Z158 F147_148_149_150_158) hZ150 w_87 w_33 (by decide) (by decide)) q162a q162c (g := (mkF m 185 #[.val (.int p1), .val (.int p2), .val (.int p3), .val (.int p4), .val (.int p5), .val (.int p6), .val (.int (2 : Int32)), .val (.int (if ((XT.ushr p5 (2 : Int32)) &&& (1 : Int32)) = (0 : Int32) then (0 : Int32) else (1 : Int32))), .val (.ref b145), .val (.int (1 : Int32)), .val (.int (0 : Int32)), .val (.int p1), .val (.ref r147)] [(.ref r147)])) rfl (by rw [hml]; rfl) (Steps.refl _) (argsL := []) (rest := []) (lenOf pd_50 rfl) rfl (by show 2 * 0 + _ ≤ _; exact Nat.le_of_eq rfl) (hb hby at_185) (fun _ _ => ⟨rfl, e161, (by decide : 9 + 0 ≤ _), (by decide : 72 + 0 ≤ _)⟩)
      dsimp only [Pt.U, Pt.locs, Pt.cells, Pt.slots] at X162 l162 y162 z162 st162 hQ162
      subst l162 y162 z162
      obtain ⟨rfl, N162q, e162⟩ := hQ162
      have N162 := Fr.app N160 N162q
      refine Goes.tr st162 ?_
      show Goes p e below KK T162 (mkF m 188 #[.val (.int p1), .val (.int p2), .val (.int p3), .val (.int p4), .val (.int p5), .val (.int p6), .val (.int (2 : Int32)), .val (.int (if ((XT.ushr p5 (2 : Int32)) &&& (1 : Int32)) = (0 : Int32) then (0 : Int32) else (1 : Int32))), .val (.ref b145), .val (.int (1 : Int32)), .val (.int (0 : Int32)), .val (.int p1), .val (.ref r147)] [(.int p1)])
      refine Goes.of (fun t => XS.iload X162.here hx rfl (hb hby at_188) rfl) ?_
      show Goes p e below KK T162 (mkF m 190 #[.val (.int p1), .val (.int p2), .val (.int p3), .val (.int p4), .val (.int p5), .val (.int p6), .val (.int (2 : Int32)), .val (.int (if ((XT.ushr p5 (2 : Int32)) &&& (1 : Int32)) = (0 : Int32) then (0 : Int32) else (1 : Int32))), .val (.ref b145), .val (.int (1 : Int32)), .val (.int (0 : Int32)), .val (.int p1), .val (.ref r147)] [(.int p1), (.int p1)])
      refine Goes.of (fun t => XS.icmpNo X162.here hx rfl (hb hby at_190) rfl (teq (show p1 = p1 from rfl)).2) ?_
      show Goes p e below KK T162 (mkF m 193 #[.val (.int p1), .val (.int p2), .val (.int p3), .val (.int p4), .val (.int p5), .val (.int p6), .val (.int (2 : Int32)), .val (.int (if ((XT.ushr p5 (2 : Int32)) &&& (1 : Int32)) = (0 : Int32) then (0 : Int32) else (1 : Int32))), .val (.ref b145), .val (.int (1 : Int32)), .val (.int (0 : Int32)), .val (.int p1), .val (.ref r147)] [])
      refine Goes.of (fun t => XS.iconst X162.here hx rfl (hb hby at_193)) ?_
      show Goes p e below KK T162 (mkF m 194 #[.val (.int p1), .val (.int p2), .val (.int p3), .val (.int p4), .val (.int p5), .val (.int p6), .val (.int (2 : Int32)), .val (.int (if ((XT.ushr p5 (2 : Int32)) &&& (1 : Int32)) = (0 : Int32) then (0 : Int32) else (1 : Int32))), .val (.ref b145), .val (.int (1 : Int32)), .val (.int (0 : Int32)), .val (.int p1), .val (.ref r147)] [(.int (1 : Int32))])
      refine Goes.of (fun t => XS.goto X162.here hx rfl (pc0 := 194) (pc' := 198) rfl (hb hby at_194) (by decide) (by decide)) ?_
      show Goes p e below KK T162 (mkF m 198 #[.val (.int p1), .val (.int p2), .val (.int p3), .val (.int p4), .val (.int p5), .val (.int p6), .val (.int (2 : Int32)), .val (.int (if ((XT.ushr p5 (2 : Int32)) &&& (1 : Int32)) = (0 : Int32) then (0 : Int32) else (1 : Int32))), .val (.ref b145), .val (.int (1 : Int32)), .val (.int (0 : Int32)), .val (.int p1), .val (.ref r147)] [(.int (1 : Int32))])
      rw [← hKK]
      refine Goes.retNarW X162 HS150 (by rw [e162]; exact HK158) hx hlk (t := .boolean) (by simp) Bd.returns (hb hby at_198) ?_ (by decide) (by decide)
      rw [e162]
      exact ⟨rfl, N162⟩
  · subst hk
    show Goes p e below KK s₁ (mkF m 6 #[.val (.int p1), .val (.int p2), .val (.int p3), .val (.int p4), .val (.int p5), .val (.int p6), .unset, .unset, .unset, .unset, .unset, .unset, .unset] [(.int (3 : Int32))])
    refine Goes.of (fun t => XS.istore X0w.here hx rfl (hb hby at_6) rfl (l' := #[.val (.int p1), .val (.int p2), .val (.int p3), .val (.int p4), .val (.int p5), .val (.int p6), .val (.int (3 : Int32)), .unset, .unset, .unset, .unset, .unset, .unset]) rfl) ?_
    show Goes p e below KK s₁ (mkF m 8 #[.val (.int p1), .val (.int p2), .val (.int p3), .val (.int p4), .val (.int p5), .val (.int p6), .val (.int (3 : Int32)), .unset, .unset, .unset, .unset, .unset, .unset] [])
    refine Goes.of (fun t => XS.iload X0w.here hx rfl (hb hby at_8) rfl) ?_
    show Goes p e below KK s₁ (mkF m 10 #[.val (.int p1), .val (.int p2), .val (.int p3), .val (.int p4), .val (.int p5), .val (.int p6), .val (.int (3 : Int32)), .unset, .unset, .unset, .unset, .unset, .unset] [(.int p5)])
    refine Goes.of (fun t => XS.iconst X0w.here hx rfl (hb hby at_10)) ?_
    show Goes p e below KK s₁ (mkF m 11 #[.val (.int p1), .val (.int p2), .val (.int p3), .val (.int p4), .val (.int p5), .val (.int p6), .val (.int (3 : Int32)), .unset, .unset, .unset, .unset, .unset, .unset] [(.int (2 : Int32)), (.int p5)])
    refine Goes.of (fun t => XT.iushr X0w.here hx rfl (hb hby at_11) rfl) ?_
    show Goes p e below KK s₁ (mkF m 12 #[.val (.int p1), .val (.int p2), .val (.int p3), .val (.int p4), .val (.int p5), .val (.int p6), .val (.int (3 : Int32)), .unset, .unset, .unset, .unset, .unset, .unset] [(.int (XT.ushr p5 (2 : Int32)))])
    refine Goes.of (fun t => XS.iconst X0w.here hx rfl (hb hby at_12)) ?_
    show Goes p e below KK s₁ (mkF m 13 #[.val (.int p1), .val (.int p2), .val (.int p3), .val (.int p4), .val (.int p5), .val (.int p6), .val (.int (3 : Int32)), .unset, .unset, .unset, .unset, .unset, .unset] [(.int (1 : Int32)), (.int (XT.ushr p5 (2 : Int32)))])
    refine Goes.of (fun t => XS.iand X0w.here hx rfl (hb hby at_13) rfl) ?_
    show Goes p e below KK s₁ (mkF m 14 #[.val (.int p1), .val (.int p2), .val (.int p3), .val (.int p4), .val (.int p5), .val (.int p6), .val (.int (3 : Int32)), .unset, .unset, .unset, .unset, .unset, .unset] [(.int ((XT.ushr p5 (2 : Int32)) &&& (1 : Int32)))])
    have j163 : ∀ t, Steps p.tables e below (s₁.setTop (mkF m 28 #[.val (.int p1), .val (.int p2), .val (.int p3), .val (.int p4), .val (.int p5), .val (.int p6), .val (.int (3 : Int32)), .unset, .unset, .unset, .unset, .unset, .unset] [(.int (if ((XT.ushr p5 (2 : Int32)) &&& (1 : Int32)) = (0 : Int32) then (0 : Int32) else (1 : Int32)))])) t → Steps p.tables e below (s₁.setTop (mkF m 14 #[.val (.int p1), .val (.int p2), .val (.int p3), .val (.int p4), .val (.int p5), .val (.int p6), .val (.int (3 : Int32)), .unset, .unset, .unset, .unset, .unset, .unset] [(.int ((XT.ushr p5 (2 : Int32)) &&& (1 : Int32)))])) t := by
      intro t k
      by_cases hc14_3 : ((XT.ushr p5 (2 : Int32)) &&& (1 : Int32)) = (0 : Int32)
      · refine XS.ifYes X0w.here hx rfl (pc0 := 14) (pc' := 27) rfl (hb hby at_14) rfl ((if0 _ _).trans (teq hc14_3).1) (by decide) (by decide) ?_
        show Steps p.tables e below (s₁.setTop (mkF m 27 #[.val (.int p1), .val (.int p2), .val (.int p3), .val (.int p4), .val (.int p5), .val (.int p6), .val (.int (3 : Int32)), .unset, .unset, .unset, .unset, .unset, .unset] [])) _
        refine XS.iconst X0w.here hx rfl (hb hby at_27) ?_
        show Steps p.tables e below (s₁.setTop (mkF m 28 #[.val (.int p1), .val (.int p2), .val (.int p3), .val (.int p4), .val (.int p5), .val (.int p6), .val (.int (3 : Int32)), .unset, .unset, .unset, .unset, .unset, .unset] [(.int (0 : Int32))])) _
        try rw [if_pos hc14_3] at k
        exact k
      · refine XS.ifNo X0w.here hx rfl (hb hby at_14) rfl ((if0 _ _).trans (feq hc14_3).1) ?_
        show Steps p.tables e below (s₁.setTop (mkF m 17 #[.val (.int p1), .val (.int p2), .val (.int p3), .val (.int p4), .val (.int p5), .val (.int p6), .val (.int (3 : Int32)), .unset, .unset, .unset, .unset, .unset, .unset] [])) _
        refine XS.iload X0w.here hx rfl (hb hby at_17) rfl ?_
        show Steps p.tables e below (s₁.setTop (mkF m 19 #[.val (.int p1), .val (.int p2), .val (.int p3), .val (.int p4), .val (.int p5), .val (.int p6), .val (.int (3 : Int32)), .unset, .unset, .unset, .unset, .unset, .unset] [(.int (3 : Int32))])) _
        refine XS.iconst X0w.here hx rfl (hb hby at_19) ?_
        show Steps p.tables e below (s₁.setTop (mkF m 20 #[.val (.int p1), .val (.int p2), .val (.int p3), .val (.int p4), .val (.int p5), .val (.int p6), .val (.int (3 : Int32)), .unset, .unset, .unset, .unset, .unset, .unset] [(.int (2 : Int32)), (.int (3 : Int32))])) _
        refine XS.icmpNo X0w.here hx rfl (hb hby at_20) rfl (flt (show ¬ ((3 : Int32) < (2 : Int32)) from by decide)).1 ?_
        show Steps p.tables e below (s₁.setTop (mkF m 23 #[.val (.int p1), .val (.int p2), .val (.int p3), .val (.int p4), .val (.int p5), .val (.int p6), .val (.int (3 : Int32)), .unset, .unset, .unset, .unset, .unset, .unset] [])) _
        refine XS.iconst X0w.here hx rfl (hb hby at_23) ?_
        show Steps p.tables e below (s₁.setTop (mkF m 24 #[.val (.int p1), .val (.int p2), .val (.int p3), .val (.int p4), .val (.int p5), .val (.int p6), .val (.int (3 : Int32)), .unset, .unset, .unset, .unset, .unset, .unset] [(.int (1 : Int32))])) _
        refine XS.goto X0w.here hx rfl (pc0 := 24) (pc' := 28) rfl (hb hby at_24) (by decide) (by decide) ?_
        show Steps p.tables e below (s₁.setTop (mkF m 28 #[.val (.int p1), .val (.int p2), .val (.int p3), .val (.int p4), .val (.int p5), .val (.int p6), .val (.int (3 : Int32)), .unset, .unset, .unset, .unset, .unset, .unset] [(.int (1 : Int32))])) _
        try rw [if_neg hc14_3] at k
        exact k
    refine Goes.of j163 ?_
    show Goes p e below KK s₁ (mkF m 28 #[.val (.int p1), .val (.int p2), .val (.int p3), .val (.int p4), .val (.int p5), .val (.int p6), .val (.int (3 : Int32)), .unset, .unset, .unset, .unset, .unset, .unset] [(.int (if ((XT.ushr p5 (2 : Int32)) &&& (1 : Int32)) = (0 : Int32) then (0 : Int32) else (1 : Int32)))])
    refine Goes.of (fun t => XS.istore X0w.here hx rfl (hb hby at_28) rfl (l' := #[.val (.int p1), .val (.int p2), .val (.int p3), .val (.int p4), .val (.int p5), .val (.int p6), .val (.int (3 : Int32)), .val (.int (if ((XT.ushr p5 (2 : Int32)) &&& (1 : Int32)) = (0 : Int32) then (0 : Int32) else (1 : Int32))), .unset, .unset, .unset, .unset, .unset]) rfl) ?_
    show Goes p e below KK s₁ (mkF m 30 #[.val (.int p1), .val (.int p2), .val (.int p3), .val (.int p4), .val (.int p5), .val (.int p6), .val (.int (3 : Int32)), .val (.int (if ((XT.ushr p5 (2 : Int32)) &&& (1 : Int32)) = (0 : Int32) then (0 : Int32) else (1 : Int32))), .unset, .unset, .unset, .unset, .unset] [])
    obtain ⟨T164, h164, X164, e164, E164, A164, D164, -, st164⟩ := newO X0w hx hZw hownw w_0 w_1 w_2 e0 (g := (mkF m 30 #[.val (.int p1), .val (.int p2), .val (.int p3), .val (.int p4), .val (.int p5), .val (.int p6), .val (.int (3 : Int32)), .val (.int (if ((XT.ushr p5 (2 : Int32)) &&& (1 : Int32)) = (0 : Int32) then (0 : Int32) else (1 : Int32))), .unset, .unset, .unset, .unset, .unset] [])) rfl (hb hby at_30) (by decide) (by decide)
    obtain ⟨b164, g164⟩ : ∃ z, z = h0.size := ⟨_, rfl⟩
    rw [← g164] at A164 D164 st164
    refine Goes.of (st164) ?_
    have g_b164 : n0 ≤ b164 := Nat.le_trans Z0 (Nat.le_of_eq g164.symm)
    have sz_b164 : h0.size ≤ b164 := Nat.le_trans (Keep.refl h0 []).1 (Nat.le_of_eq g164.symm)
    have O_164 : Old Z n0 h164 := O0.ext E164
    have K164 : Keep h0 h164 [] := (Keep.refl h0 []).ext E164
    have Z164 : n0 ≤ h164.size := Nat.le_trans Z0 E164.1
    have HK164 := Nat.le_trans HK0 E164.1
    have F_modCount_b164 : Fld Z h164 b164 "java/util/AbstractList" "modCount" "I" (.int (0 : Int32)) := D164 (Or.inl w_26) (ty := .int) (by decide)
    have F_elements_b164 : Fld Z h164 b164 "corbel/structures/ArrayStack" "elements" "[Ljava/lang/Object;" .null := D164 (Or.inl w_30) (ty := (.array (.object "java/lang/Object"))) (by decide)
    have F_size_b164 : Fld Z h164 b164 "corbel/structures/ArrayStack" "size" "I" (.int (0 : Int32)) := D164 (Or.inl w_60) (ty := .int) (by decide)
    show Goes p e below KK T164 (mkF m 33 #[.val (.int p1), .val (.int p2), .val (.int p3), .val (.int p4), .val (.int p5), .val (.int p6), .val (.int (3 : Int32)), .val (.int (if ((XT.ushr p5 (2 : Int32)) &&& (1 : Int32)) = (0 : Int32) then (0 : Int32) else (1 : Int32))), .unset, .unset, .unset, .unset, .unset] [(.ref b164)])
    refine Goes.of (fun t => XS.dup X164.here hx rfl (hb hby at_33) rfl rfl) ?_
    show Goes p e below KK T164 (mkF m 34 #[.val (.int p1), .val (.int p2), .val (.int p3), .val (.int p4), .val (.int p5), .val (.int p6), .val (.int (3 : Int32)), .val (.int (if ((XT.ushr p5 (2 : Int32)) &&& (1 : Int32)) = (0 : Int32) then (0 : Int32) else (1 : Int32))), .unset, .unset, .unset, .unset, .unset] [(.ref b164), (.ref b164)])
    obtain ⟨_, _, ⟨T165, L165, k165, n165⟩, -, X165, ⟨Lc165, hQ165, l165, y165, z165⟩, st165⟩ := X164.specialBack hx (y := (⟨"corbel/structures/ArrayStack", "<init>", "()V"⟩ : MethodName)) rfl hownw (mvT hZw w_3) (mvT hZw w_4) (mvT hZw w_5) (by decide) (backOf (W := 1) (rm1 l Z a0 hw [] b164  h164 n0 Z164 A164 F_elements_b164 F_size_b164 F_modCount_b164 g_b164) hZw w_5 w_2 (by decide) (by decide)) (g := (mkF m 34 #[.val (.int p1), .val (.int p2), .val (.int p3), .val (.int p4), .val (.int p5), .val (.int p6), .val (.int (3 : Int32)), .val (.int (if ((XT.ushr p5 (2 : Int32)) &&& (1 : Int32)) = (0 : Int32) then (0 : Int32) else (1 : Int32))), .unset, .unset, .unset, .unset, .unset] [(.ref b164), (.ref b164)])) rfl (by rw [hml]; rfl) (Steps.refl _) (a := b164) (argsL := []) (rest := [(.ref b164)]) (lenOf pd_2 rfl) rfl (by show 2 * 0 + _ ≤ _; exact Nat.le_of_eq rfl) (hb hby at_34) (fun _ _ => ⟨rfl, e164, (by decide : 1 + 1 ≤ _), (by decide : 3 + 1 ≤ _)⟩)
    dsimp only [Pt.U, Pt.locs, Pt.cells, Pt.slots] at X165 l165 y165 z165 st165 hQ165
    subst l165 y165 z165
    obtain ⟨r165, rfl, N165q, Kc165, hb165, A165, E165, Fe165, Fs165, Fm165⟩ := hQ165
    have N165 := Fr.app N0 N165q
    have ne_b164_r165 : b164 ≠ r165 := Nat.ne_of_lt (Nat.lt_of_lt_of_le A164.lt hb165)
    have g_r165 : n0 ≤ r165 := Nat.le_trans Z164 hb165
    have sz_r165 : h0.size ≤ r165 := Nat.le_trans K164.1 hb165
    have O_165 : Old Z n0 T165.heap := O_164.keep Kc165 (allS g_b164 all0)
    have A164_165 : Exa Z T165.heap b164 "corbel/structures/ArrayStack" := A164.keep Kc165
    have K165 : Keep h0 T165.heap [] := K164.trans Kc165 (allS (Or.inr sz_b164) all0)
    have Z165 : n0 ≤ T165.heap.size := Nat.le_trans Z164 Kc165.1
    have HK165 := Nat.le_trans HK164 Kc165.1
    have e165 : T165.heap = T165.heap := rfl
    refine Goes.tr st165 ?_
    show Goes p e below KK T165 (mkF m 37 #[.val (.int p1), .val (.int p2), .val (.int p3), .val (.int p4), .val (.int p5), .val (.int p6), .val (.int (3 : Int32)), .val (.int (if ((XT.ushr p5 (2 : Int32)) &&& (1 : Int32)) = (0 : Int32) then (0 : Int32) else (1 : Int32))), .unset, .unset, .unset, .unset, .unset] [(.ref b164)])
    refine Goes.of (fun t => XS.astore X165.here hx rfl (hb hby at_37) rfl rfl (l' := #[.val (.int p1), .val (.int p2), .val (.int p3), .val (.int p4), .val (.int p5), .val (.int p6), .val (.int (3 : Int32)), .val (.int (if ((XT.ushr p5 (2 : Int32)) &&& (1 : Int32)) = (0 : Int32) then (0 : Int32) else (1 : Int32))), .val (.ref b164), .unset, .unset, .unset, .unset]) rfl) ?_
    show Goes p e below KK T165 (mkF m 39 #[.val (.int p1), .val (.int p2), .val (.int p3), .val (.int p4), .val (.int p5), .val (.int p6), .val (.int (3 : Int32)), .val (.int (if ((XT.ushr p5 (2 : Int32)) &&& (1 : Int32)) = (0 : Int32) then (0 : Int32) else (1 : Int32))), .val (.ref b164), .unset, .unset, .unset, .unset] [])
    refine Goes.of (fun t => XS.aload X165.here hx rfl (hb hby at_39) rfl rfl) ?_
    show Goes p e below KK T165 (mkF m 41 #[.val (.int p1), .val (.int p2), .val (.int p3), .val (.int p4), .val (.int p5), .val (.int p6), .val (.int (3 : Int32)), .val (.int (if ((XT.ushr p5 (2 : Int32)) &&& (1 : Int32)) = (0 : Int32) then (0 : Int32) else (1 : Int32))), .val (.ref b164), .unset, .unset, .unset, .unset] [(.ref b164)])
    refine Goes.of (fun t => XS.iloadN X165.here hx rfl (hb hby at_41) rfl) ?_
    show Goes p e below KK T165 (mkF m 42 #[.val (.int p1), .val (.int p2), .val (.int p3), .val (.int p4), .val (.int p5), .val (.int p6), .val (.int (3 : Int32)), .val (.int (if ((XT.ushr p5 (2 : Int32)) &&& (1 : Int32)) = (0 : Int32) then (0 : Int32) else (1 : Int32))), .val (.ref b164), .unset, .unset, .unset, .unset] [(.int p1), (.ref b164)])
    obtain ⟨_, _, ⟨T166, L166, k166, n166⟩, -, X166, ⟨Lc166, hQ166, l166, y166, z166⟩, st166⟩ := Jvm.LawKit.callS X165 hx (y := (⟨"java/lang/Integer", "valueOf", "(I)Ljava/lang/Integer;"⟩ : MethodName)) hownw (mvT hZw w_31) (mvT hZw w_32) (mvT hZw w_33) (mvT hZw w_34) (by decide) (backOf (W := 1) (rm6 l Z a0 hw [] p1 ca cc T165.heap n0 Z165 (Sh.ext O_165.2) (Sc.ext O_165.2) BX O_165) hZw w_34 w_33 (by decide) (by decide)) (g := (mkF m 42 #[.val (.int p1), .val (.int p2), .val (.int p3), .val (.int p4), .val (.int p5), .val (.int p6), .val (.int (3 : Int32)), .val (.int (if ((XT.ushr p5 (2 : Int32)) &&& (1 : Int32)) = (0 : Int32) then (0 : Int32) else (1 : Int32))), .val (.ref b164), .unset, .unset, .unset, .unset] [(.int p1), (.ref b164)])) rfl (by rw [hml]; rfl) (argsL := [(.int p1)]) (rest := [(.ref b164)]) (lenOf pd_48 rfl) rfl (by show 2 * 0 + _ ≤ _; exact Nat.le_of_eq rfl) (hb hby at_42) (fun _ _ => ⟨rfl, e165, (by decide : 2 + 1 ≤ _), (by decide : 4 + 1 ≤ _)⟩)
    dsimp only [Pt.U, Pt.locs, Pt.cells, Pt.slots] at X166 l166 y166 z166 st166 hQ166
    subst l166 y166 z166
    obtain ⟨r166, rfl, N166q, Kc166, E166, F166⟩ := hQ166
    have N166 := Fr.app N165 N166q
    have O_166 : Old Z n0 T166.heap := O_165.keep Kc166 all0
    have E165_166 : Exa Z T166.heap b164 "corbel/structures/ArrayStack" := E165.keep Kc166
    have Fe165_166 : Fld Z T166.heap b164 "corbel/structures/ArrayStack" "elements" "[Ljava/lang/Object;" (.ref r165) := Fe165.keep Kc166 nin0
    have Fs165_166 : Fld Z T166.heap b164 "corbel/structures/ArrayStack" "size" "I" (.int (0 : Int32)) := Fs165.keep Kc166 nin0
    have Fm165_166 : Fld Z T166.heap b164 "java/util/AbstractList" "modCount" "I" (.int (0 : Int32)) := Fm165.keep Kc166 nin0
    have A165_166 : AR Z T166.heap r165 [.null] := A165.keep Kc166 nin0
    have K166 : Keep h0 T166.heap [] := K165.trans Kc166 all0
    have Z166 : n0 ≤ T166.heap.size := Nat.le_trans Z165 Kc166.1
    have HK166 := Nat.le_trans HK165 Kc166.1
    have e166 : T166.heap = T166.heap := rfl
    refine Goes.of st166 ?_
    show Goes p e below KK T166 (mkF m 45 #[.val (.int p1), .val (.int p2), .val (.int p3), .val (.int p4), .val (.int p5), .val (.int p6), .val (.int (3 : Int32)), .val (.int (if ((XT.ushr p5 (2 : Int32)) &&& (1 : Int32)) = (0 : Int32) then (0 : Int32) else (1 : Int32))), .val (.ref b164), .unset, .unset, .unset, .unset] [(.ref r166), (.ref b164)])
    obtain ⟨cq167, kq167, q167a, q167b, q167c⟩ := isOf hZw e166 E165_166
    obtain ⟨_, _, ⟨T167, L167, k167, n167⟩, -, X167, hSi167, hge167, ⟨Lc167, hQ167, l167, y167, z167⟩, st167⟩ := X166.virtualBackS hx (y := (⟨"corbel/structures/ArrayStack", "add", "(Ljava/lang/Object;)Z"⟩ : MethodName)) (z := (⟨"corbel/structures/ArrayStack", "add", "(Ljava/lang/Object;)Z"⟩ : MethodName)) hownw (mvT hZw w_38) (mvT hZw w_39) (notFace_of_selects (args := #[]) (mvT hZw w_41)) (mvT hZw w_41) (mvT hZw w_40) (by decide) (backOfS (W := 0) (rm7s0 l Z a0 hw [] b164 r166 r165 mr (0 : Int32)  T166.heap n0 Z166 E165_166 Fe165_166 Fs165_166 Fm165_166 A165_166 E166 g_b164 g_r165 M0) hZw w_42 w_2 (by decide) (by decide)) q167a q167c (g := (mkF m 45 #[.val (.int p1), .val (.int p2), .val (.int p3), .val (.int p4), .val (.int p5), .val (.int p6), .val (.int (3 : Int32)), .val (.int (if ((XT.ushr p5 (2 : Int32)) &&& (1 : Int32)) = (0 : Int32) then (0 : Int32) else (1 : Int32))), .val (.ref b164), .unset, .unset, .unset, .unset] [(.ref r166), (.ref b164)])) rfl (by rw [hml]; rfl) (Steps.refl _) (argsL := [(.ref r166)]) (rest := []) (lenOf pd_49 rfl) rfl (by show 2 * 0 + _ ≤ _; exact Nat.le_of_eq rfl) (hb hby at_45) (fun _ _ => ⟨rfl, e166, (by decide : 3 + 2 ≤ _), (by decide : 5 + 32 ≤ _)⟩)
    dsimp only [Pt.U, Pt.locs, Pt.cells, Pt.slots] at X167 l167 y167 z167 st167 hQ167 hSi167 hge167
    subst l167 y167 z167
    obtain ⟨Y167, HS167, hZ167, hown167⟩ := rebS HS0 (by rw [e166]; exact HK166) X167 hSi167 hge167 hZw hownw
    have HK167 := Nat.le_refl T167.heap.size
    obtain ⟨r167, rfl, N167q, Kc167, hb167, E167, Fe167, Fs167, Fm167, A167⟩ := hQ167
    have N167 := Fr.app N166 N167q
    have g_r167 : n0 ≤ r167 := hb167.elim (fun q => q ▸ g_r165) (fun q => Nat.le_trans Z166 q)
    have sz_r167 : h0.size ≤ r167 := hb167.elim (fun q => q ▸ sz_r165) (fun q => Nat.le_trans K166.1 q)
    have O_167 : Old Z n0 T167.heap := O_166.keep Kc167 (allS g_b164 (allS g_r165 all0))
    have E165_166_167 : Exa Z T167.heap b164 "corbel/structures/ArrayStack" := E165_166.keep Kc167
    have E166_167 : Exa Z T167.heap r166 "java/lang/Integer" := E166.keep Kc167
    have F166_167 : Fld Z T167.heap r166 "java/lang/Integer" "value" "I" (.int p1) := F166.keep Kc167 (ninS (Exa.ne E166 E165_166 (by decide)) (ninS (Exa.ne E166 A165_166.exa (by decide)) nin0))
    have K167 : Keep h0 T167.heap [] := K166.trans Kc167 (allS (Or.inr sz_b164) (allS (Or.inr sz_r165) all0))
    have Z167 : n0 ≤ T167.heap.size := Nat.le_trans Z166 Kc167.1
    have e167 : T167.heap = T167.heap := rfl
    refine Goes.tr st167 ?_
    show Goes p e below KK T167 (mkF m 48 #[.val (.int p1), .val (.int p2), .val (.int p3), .val (.int p4), .val (.int p5), .val (.int p6), .val (.int (3 : Int32)), .val (.int (if ((XT.ushr p5 (2 : Int32)) &&& (1 : Int32)) = (0 : Int32) then (0 : Int32) else (1 : Int32))), .val (.ref b164), .unset, .unset, .unset, .unset] [(.int (1 : Int32))])
    refine Goes.of (fun t => XT.pop Y167.here hx rfl (hb hby at_48) rfl rfl) ?_
    show Goes p e below KK T167 (mkF m 49 #[.val (.int p1), .val (.int p2), .val (.int p3), .val (.int p4), .val (.int p5), .val (.int p6), .val (.int (3 : Int32)), .val (.int (if ((XT.ushr p5 (2 : Int32)) &&& (1 : Int32)) = (0 : Int32) then (0 : Int32) else (1 : Int32))), .val (.ref b164), .unset, .unset, .unset, .unset] [])
    refine Goes.of (fun t => XS.iload Y167.here hx rfl (hb hby at_49) rfl) ?_
    show Goes p e below KK T167 (mkF m 51 #[.val (.int p1), .val (.int p2), .val (.int p3), .val (.int p4), .val (.int p5), .val (.int p6), .val (.int (3 : Int32)), .val (.int (if ((XT.ushr p5 (2 : Int32)) &&& (1 : Int32)) = (0 : Int32) then (0 : Int32) else (1 : Int32))), .val (.ref b164), .unset, .unset, .unset, .unset] [(.int (3 : Int32))])
    refine Goes.of (fun t => XS.iconst Y167.here hx rfl (hb hby at_51)) ?_
    show Goes p e below KK T167 (mkF m 52 #[.val (.int p1), .val (.int p2), .val (.int p3), .val (.int p4), .val (.int p5), .val (.int p6), .val (.int (3 : Int32)), .val (.int (if ((XT.ushr p5 (2 : Int32)) &&& (1 : Int32)) = (0 : Int32) then (0 : Int32) else (1 : Int32))), .val (.ref b164), .unset, .unset, .unset, .unset] [(.int (2 : Int32)), (.int (3 : Int32))])
    refine Goes.of (fun t => XS.icmpNo Y167.here hx rfl (hb hby at_52) rfl (flt (show ¬ ((3 : Int32) < (2 : Int32)) from by decide)).1) ?_
    show Goes p e below KK T167 (mkF m 55 #[.val (.int p1), .val (.int p2), .val (.int p3), .val (.int p4), .val (.int p5), .val (.int p6), .val (.int (3 : Int32)), .val (.int (if ((XT.ushr p5 (2 : Int32)) &&& (1 : Int32)) = (0 : Int32) then (0 : Int32) else (1 : Int32))), .val (.ref b164), .unset, .unset, .unset, .unset] [])
    refine Goes.of (fun t => XS.aload Y167.here hx rfl (hb hby at_55) rfl rfl) ?_
    show Goes p e below KK T167 (mkF m 57 #[.val (.int p1), .val (.int p2), .val (.int p3), .val (.int p4), .val (.int p5), .val (.int p6), .val (.int (3 : Int32)), .val (.int (if ((XT.ushr p5 (2 : Int32)) &&& (1 : Int32)) = (0 : Int32) then (0 : Int32) else (1 : Int32))), .val (.ref b164), .unset, .unset, .unset, .unset] [(.ref b164)])
    refine Goes.of (fun t => XS.iloadN Y167.here hx rfl (hb hby at_57) rfl) ?_
    show Goes p e below KK T167 (mkF m 58 #[.val (.int p1), .val (.int p2), .val (.int p3), .val (.int p4), .val (.int p5), .val (.int p6), .val (.int (3 : Int32)), .val (.int (if ((XT.ushr p5 (2 : Int32)) &&& (1 : Int32)) = (0 : Int32) then (0 : Int32) else (1 : Int32))), .val (.ref b164), .unset, .unset, .unset, .unset] [(.int p2), (.ref b164)])
    obtain ⟨_, _, ⟨T168, L168, k168, n168⟩, -, X168, ⟨Lc168, hQ168, l168, y168, z168⟩, st168⟩ := Jvm.LawKit.callS Y167 hx (y := (⟨"java/lang/Integer", "valueOf", "(I)Ljava/lang/Integer;"⟩ : MethodName)) hown167 (mvT hZ167 w_31) (mvT hZ167 w_32) (mvT hZ167 w_33) (mvT hZ167 w_34) (by decide) (backOf (W := 1) (rm6 l Z a0 hw [] p2 ca cc T167.heap n0 Z167 (Sh.ext O_167.2) (Sc.ext O_167.2) BX O_167) hZ167 w_34 w_33 (by decide) (by decide)) (g := (mkF m 58 #[.val (.int p1), .val (.int p2), .val (.int p3), .val (.int p4), .val (.int p5), .val (.int p6), .val (.int (3 : Int32)), .val (.int (if ((XT.ushr p5 (2 : Int32)) &&& (1 : Int32)) = (0 : Int32) then (0 : Int32) else (1 : Int32))), .val (.ref b164), .unset, .unset, .unset, .unset] [(.int p2), (.ref b164)])) rfl (by rw [hml]; rfl) (argsL := [(.int p2)]) (rest := [(.ref b164)]) (lenOf pd_48 rfl) rfl (by show 2 * 0 + _ ≤ _; exact Nat.le_of_eq rfl) (hb hby at_58) (fun _ _ => ⟨rfl, e167, (by decide : 5 + 1 ≤ _), (by decide : 37 + 1 ≤ _)⟩)
    dsimp only [Pt.U, Pt.locs, Pt.cells, Pt.slots] at X168 l168 y168 z168 st168 hQ168
    subst l168 y168 z168
    obtain ⟨r168, rfl, N168q, Kc168, E168, F168⟩ := hQ168
    have N168 := Fr.app N167 N168q
    have O_168 : Old Z n0 T168.heap := O_167.keep Kc168 all0
    have E167_168 : Exa Z T168.heap b164 "corbel/structures/ArrayStack" := E167.keep Kc168
    have E166_167_168 : Exa Z T168.heap r166 "java/lang/Integer" := E166_167.keep Kc168
    have F166_167_168 : Fld Z T168.heap r166 "java/lang/Integer" "value" "I" (.int p1) := F166_167.keep Kc168 nin0
    have Fe167_168 : Fld Z T168.heap b164 "corbel/structures/ArrayStack" "elements" "[Ljava/lang/Object;" (.ref r167) := Fe167.keep Kc168 nin0
    have Fs167_168 : Fld Z T168.heap b164 "corbel/structures/ArrayStack" "size" "I" (.int (1 : Int32)) := Fs167.keep Kc168 nin0
    have Fm167_168 : Fld Z T168.heap b164 "java/util/AbstractList" "modCount" "I" (.int ((0 : Int32) + 1)) := Fm167.keep Kc168 nin0
    have A167_168 : AR Z T168.heap r167 [(.ref r166)] := A167.keep Kc168 nin0
    have K168 : Keep h0 T168.heap [] := K167.trans Kc168 all0
    have Z168 : n0 ≤ T168.heap.size := Nat.le_trans Z167 Kc168.1
    have HK168 := Nat.le_trans HK167 Kc168.1
    have e168 : T168.heap = T168.heap := rfl
    refine Goes.of st168 ?_
    show Goes p e below KK T168 (mkF m 61 #[.val (.int p1), .val (.int p2), .val (.int p3), .val (.int p4), .val (.int p5), .val (.int p6), .val (.int (3 : Int32)), .val (.int (if ((XT.ushr p5 (2 : Int32)) &&& (1 : Int32)) = (0 : Int32) then (0 : Int32) else (1 : Int32))), .val (.ref b164), .unset, .unset, .unset, .unset] [(.ref r168), (.ref b164)])
    obtain ⟨cq169, kq169, q169a, q169b, q169c⟩ := isOf hZ167 e168 E167_168
    obtain ⟨_, _, ⟨T169, L169, k169, n169⟩, -, X169, hSi169, hge169, ⟨Lc169, hQ169, l169, y169, z169⟩, st169⟩ := X168.virtualBackS hx (y := (⟨"corbel/structures/ArrayStack", "add", "(Ljava/lang/Object;)Z"⟩ : MethodName)) (z := (⟨"corbel/structures/ArrayStack", "add", "(Ljava/lang/Object;)Z"⟩ : MethodName)) hown167 (mvT hZ167 w_38) (mvT hZ167 w_39) (notFace_of_selects (args := #[]) (mvT hZ167 w_41)) (mvT hZ167 w_41) (mvT hZ167 w_40) (by decide) (backOfS (W := 0) (rm7s1 l Z a0 hw [] b164 r168 r167 mr ((0 : Int32) + 1) r166 T168.heap n0 Z168 E167_168 Fe167_168 Fs167_168 Fm167_168 A167_168 E166_167_168 E168 g_b164 g_r167 M0) hZ167 w_42 w_2 (by decide) (by decide)) q169a q169c (g := (mkF m 61 #[.val (.int p1), .val (.int p2), .val (.int p3), .val (.int p4), .val (.int p5), .val (.int p6), .val (.int (3 : Int32)), .val (.int (if ((XT.ushr p5 (2 : Int32)) &&& (1 : Int32)) = (0 : Int32) then (0 : Int32) else (1 : Int32))), .val (.ref b164), .unset, .unset, .unset, .unset] [(.ref r168), (.ref b164)])) rfl (by rw [hml]; rfl) (Steps.refl _) (argsL := [(.ref r168)]) (rest := []) (lenOf pd_49 rfl) rfl (by show 2 * 0 + _ ≤ _; exact Nat.le_of_eq rfl) (hb hby at_61) (fun _ _ => ⟨rfl, e168, (by decide : 6 + 3 ≤ _), (by decide : 38 + 34 ≤ _)⟩)
    dsimp only [Pt.U, Pt.locs, Pt.cells, Pt.slots] at X169 l169 y169 z169 st169 hQ169 hSi169 hge169
    subst l169 y169 z169
    obtain ⟨Y169, HS169, hZ169, hown169⟩ := rebS HS167 (by rw [e168]; exact HK168) X169 hSi169 hge169 hZ167 hown167
    have HK169 := Nat.le_refl T169.heap.size
    obtain ⟨r169, rfl, N169q, Kc169, hb169, E169, Fe169, Fs169, Fm169, A169⟩ := hQ169
    have N169 := Fr.app N168 N169q
    have g_r169 : n0 ≤ r169 := hb169.elim (fun q => q ▸ g_r167) (fun q => Nat.le_trans Z168 q)
    have sz_r169 : h0.size ≤ r169 := hb169.elim (fun q => q ▸ sz_r167) (fun q => Nat.le_trans K168.1 q)
    have O_169 : Old Z n0 T169.heap := O_168.keep Kc169 (allS g_b164 (allS g_r167 all0))
    have E167_168_169 : Exa Z T169.heap b164 "corbel/structures/ArrayStack" := E167_168.keep Kc169
    have E166_167_168_169 : Exa Z T169.heap r166 "java/lang/Integer" := E166_167_168.keep Kc169
    have F166_167_168_169 : Fld Z T169.heap r166 "java/lang/Integer" "value" "I" (.int p1) := F166_167_168.keep Kc169 (ninS (Exa.ne E166_167_168 E167_168 (by decide)) (ninS (Exa.ne E166_167_168 A167_168.exa (by decide)) nin0))
    have E168_169 : Exa Z T169.heap r168 "java/lang/Integer" := E168.keep Kc169
    have F168_169 : Fld Z T169.heap r168 "java/lang/Integer" "value" "I" (.int p2) := F168.keep Kc169 (ninS (Exa.ne E168 E167_168 (by decide)) (ninS (Exa.ne E168 A167_168.exa (by decide)) nin0))
    have K169 : Keep h0 T169.heap [] := K168.trans Kc169 (allS (Or.inr sz_b164) (allS (Or.inr sz_r167) all0))
    have Z169 : n0 ≤ T169.heap.size := Nat.le_trans Z168 Kc169.1
    have e169 : T169.heap = T169.heap := rfl
    refine Goes.tr st169 ?_
    show Goes p e below KK T169 (mkF m 64 #[.val (.int p1), .val (.int p2), .val (.int p3), .val (.int p4), .val (.int p5), .val (.int p6), .val (.int (3 : Int32)), .val (.int (if ((XT.ushr p5 (2 : Int32)) &&& (1 : Int32)) = (0 : Int32) then (0 : Int32) else (1 : Int32))), .val (.ref b164), .unset, .unset, .unset, .unset] [(.int (1 : Int32))])
    refine Goes.of (fun t => XT.pop Y169.here hx rfl (hb hby at_64) rfl rfl) ?_
    show Goes p e below KK T169 (mkF m 65 #[.val (.int p1), .val (.int p2), .val (.int p3), .val (.int p4), .val (.int p5), .val (.int p6), .val (.int (3 : Int32)), .val (.int (if ((XT.ushr p5 (2 : Int32)) &&& (1 : Int32)) = (0 : Int32) then (0 : Int32) else (1 : Int32))), .val (.ref b164), .unset, .unset, .unset, .unset] [])
    refine Goes.of (fun t => XS.iload Y169.here hx rfl (hb hby at_65) rfl) ?_
    show Goes p e below KK T169 (mkF m 67 #[.val (.int p1), .val (.int p2), .val (.int p3), .val (.int p4), .val (.int p5), .val (.int p6), .val (.int (3 : Int32)), .val (.int (if ((XT.ushr p5 (2 : Int32)) &&& (1 : Int32)) = (0 : Int32) then (0 : Int32) else (1 : Int32))), .val (.ref b164), .unset, .unset, .unset, .unset] [(.int (3 : Int32))])
    refine Goes.of (fun t => XS.iconst Y169.here hx rfl (hb hby at_67)) ?_
    show Goes p e below KK T169 (mkF m 68 #[.val (.int p1), .val (.int p2), .val (.int p3), .val (.int p4), .val (.int p5), .val (.int p6), .val (.int (3 : Int32)), .val (.int (if ((XT.ushr p5 (2 : Int32)) &&& (1 : Int32)) = (0 : Int32) then (0 : Int32) else (1 : Int32))), .val (.ref b164), .unset, .unset, .unset, .unset] [(.int (3 : Int32)), (.int (3 : Int32))])
    refine Goes.of (fun t => XS.icmpNo Y169.here hx rfl (hb hby at_68) rfl (flt (show ¬ ((3 : Int32) < (3 : Int32)) from by decide)).1) ?_
    show Goes p e below KK T169 (mkF m 71 #[.val (.int p1), .val (.int p2), .val (.int p3), .val (.int p4), .val (.int p5), .val (.int p6), .val (.int (3 : Int32)), .val (.int (if ((XT.ushr p5 (2 : Int32)) &&& (1 : Int32)) = (0 : Int32) then (0 : Int32) else (1 : Int32))), .val (.ref b164), .unset, .unset, .unset, .unset] [])
    refine Goes.of (fun t => XS.aload Y169.here hx rfl (hb hby at_71) rfl rfl) ?_
    show Goes p e below KK T169 (mkF m 73 #[.val (.int p1), .val (.int p2), .val (.int p3), .val (.int p4), .val (.int p5), .val (.int p6), .val (.int (3 : Int32)), .val (.int (if ((XT.ushr p5 (2 : Int32)) &&& (1 : Int32)) = (0 : Int32) then (0 : Int32) else (1 : Int32))), .val (.ref b164), .unset, .unset, .unset, .unset] [(.ref b164)])
    refine Goes.of (fun t => XS.iloadN Y169.here hx rfl (hb hby at_73) rfl) ?_
    show Goes p e below KK T169 (mkF m 74 #[.val (.int p1), .val (.int p2), .val (.int p3), .val (.int p4), .val (.int p5), .val (.int p6), .val (.int (3 : Int32)), .val (.int (if ((XT.ushr p5 (2 : Int32)) &&& (1 : Int32)) = (0 : Int32) then (0 : Int32) else (1 : Int32))), .val (.ref b164), .unset, .unset, .unset, .unset] [(.int p3), (.ref b164)])
    obtain ⟨_, _, ⟨T170, L170, k170, n170⟩, -, X170, ⟨Lc170, hQ170, l170, y170, z170⟩, st170⟩ := Jvm.LawKit.callS Y169 hx (y := (⟨"java/lang/Integer", "valueOf", "(I)Ljava/lang/Integer;"⟩ : MethodName)) hown169 (mvT hZ169 w_31) (mvT hZ169 w_32) (mvT hZ169 w_33) (mvT hZ169 w_34) (by decide) (backOf (W := 1) (rm6 l Z a0 hw [] p3 ca cc T169.heap n0 Z169 (Sh.ext O_169.2) (Sc.ext O_169.2) BX O_169) hZ169 w_34 w_33 (by decide) (by decide)) (g := (mkF m 74 #[.val (.int p1), .val (.int p2), .val (.int p3), .val (.int p4), .val (.int p5), .val (.int p6), .val (.int (3 : Int32)), .val (.int (if ((XT.ushr p5 (2 : Int32)) &&& (1 : Int32)) = (0 : Int32) then (0 : Int32) else (1 : Int32))), .val (.ref b164), .unset, .unset, .unset, .unset] [(.int p3), (.ref b164)])) rfl (by rw [hml]; rfl) (argsL := [(.int p3)]) (rest := [(.ref b164)]) (lenOf pd_48 rfl) rfl (by show 2 * 0 + _ ≤ _; exact Nat.le_of_eq rfl) (hb hby at_74) (fun _ _ => ⟨rfl, e169, (by decide : 9 + 1 ≤ _), (by decide : 72 + 1 ≤ _)⟩)
    dsimp only [Pt.U, Pt.locs, Pt.cells, Pt.slots] at X170 l170 y170 z170 st170 hQ170
    subst l170 y170 z170
    obtain ⟨r170, rfl, N170q, Kc170, E170, F170⟩ := hQ170
    have N170 := Fr.app N169 N170q
    have O_170 : Old Z n0 T170.heap := O_169.keep Kc170 all0
    have E169_170 : Exa Z T170.heap b164 "corbel/structures/ArrayStack" := E169.keep Kc170
    have E166_167_168_169_170 : Exa Z T170.heap r166 "java/lang/Integer" := E166_167_168_169.keep Kc170
    have F166_167_168_169_170 : Fld Z T170.heap r166 "java/lang/Integer" "value" "I" (.int p1) := F166_167_168_169.keep Kc170 nin0
    have E168_169_170 : Exa Z T170.heap r168 "java/lang/Integer" := E168_169.keep Kc170
    have F168_169_170 : Fld Z T170.heap r168 "java/lang/Integer" "value" "I" (.int p2) := F168_169.keep Kc170 nin0
    have Fe169_170 : Fld Z T170.heap b164 "corbel/structures/ArrayStack" "elements" "[Ljava/lang/Object;" (.ref r169) := Fe169.keep Kc170 nin0
    have Fs169_170 : Fld Z T170.heap b164 "corbel/structures/ArrayStack" "size" "I" (.int (2 : Int32)) := Fs169.keep Kc170 nin0
    have Fm169_170 : Fld Z T170.heap b164 "java/util/AbstractList" "modCount" "I" (.int (((0 : Int32) + 1) + 1)) := Fm169.keep Kc170 nin0
    have A169_170 : AR Z T170.heap r169 [(.ref r166), (.ref r168)] := A169.keep Kc170 nin0
    have K170 : Keep h0 T170.heap [] := K169.trans Kc170 all0
    have Z170 : n0 ≤ T170.heap.size := Nat.le_trans Z169 Kc170.1
    have HK170 := Nat.le_trans HK169 Kc170.1
    have e170 : T170.heap = T170.heap := rfl
    refine Goes.of st170 ?_
    show Goes p e below KK T170 (mkF m 77 #[.val (.int p1), .val (.int p2), .val (.int p3), .val (.int p4), .val (.int p5), .val (.int p6), .val (.int (3 : Int32)), .val (.int (if ((XT.ushr p5 (2 : Int32)) &&& (1 : Int32)) = (0 : Int32) then (0 : Int32) else (1 : Int32))), .val (.ref b164), .unset, .unset, .unset, .unset] [(.ref r170), (.ref b164)])
    obtain ⟨cq171, kq171, q171a, q171b, q171c⟩ := isOf hZ169 e170 E169_170
    obtain ⟨_, _, ⟨T171, L171, k171, n171⟩, -, X171, hSi171, hge171, ⟨Lc171, hQ171, l171, y171, z171⟩, st171⟩ := X170.virtualBackS hx (y := (⟨"corbel/structures/ArrayStack", "add", "(Ljava/lang/Object;)Z"⟩ : MethodName)) (z := (⟨"corbel/structures/ArrayStack", "add", "(Ljava/lang/Object;)Z"⟩ : MethodName)) hown169 (mvT hZ169 w_38) (mvT hZ169 w_39) (notFace_of_selects (args := #[]) (mvT hZ169 w_41)) (mvT hZ169 w_41) (mvT hZ169 w_40) (by decide) (backOfS (W := 0) (rm7s2 l Z a0 hw [] b164 r170 r169 mr (((0 : Int32) + 1) + 1) r166 r168 T170.heap n0 Z170 E169_170 Fe169_170 Fs169_170 Fm169_170 A169_170 E166_167_168_169_170 E168_169_170 E170 g_b164 g_r169 M0) hZ169 w_42 w_2 (by decide) (by decide)) q171a q171c (g := (mkF m 77 #[.val (.int p1), .val (.int p2), .val (.int p3), .val (.int p4), .val (.int p5), .val (.int p6), .val (.int (3 : Int32)), .val (.int (if ((XT.ushr p5 (2 : Int32)) &&& (1 : Int32)) = (0 : Int32) then (0 : Int32) else (1 : Int32))), .val (.ref b164), .unset, .unset, .unset, .unset] [(.ref r170), (.ref b164)])) rfl (by rw [hml]; rfl) (Steps.refl _) (argsL := [(.ref r170)]) (rest := []) (lenOf pd_49 rfl) rfl (by show 2 * 0 + _ ≤ _; exact Nat.le_of_eq rfl) (hb hby at_77) (fun _ _ => ⟨rfl, e170, (by decide : 10 + 3 ≤ _), (by decide : 73 + 36 ≤ _)⟩)
    dsimp only [Pt.U, Pt.locs, Pt.cells, Pt.slots] at X171 l171 y171 z171 st171 hQ171 hSi171 hge171
    subst l171 y171 z171
    obtain ⟨Y171, HS171, hZ171, hown171⟩ := rebS HS169 (by rw [e170]; exact HK170) X171 hSi171 hge171 hZ169 hown169
    have HK171 := Nat.le_refl T171.heap.size
    obtain ⟨r171, rfl, N171q, Kc171, hb171, E171, Fe171, Fs171, Fm171, A171⟩ := hQ171
    have N171 := Fr.app N170 N171q
    have g_r171 : n0 ≤ r171 := hb171.elim (fun q => q ▸ g_r169) (fun q => Nat.le_trans Z170 q)
    have sz_r171 : h0.size ≤ r171 := hb171.elim (fun q => q ▸ sz_r169) (fun q => Nat.le_trans K170.1 q)
    have O_171 : Old Z n0 T171.heap := O_170.keep Kc171 (allS g_b164 (allS g_r169 all0))
    have E169_170_171 : Exa Z T171.heap b164 "corbel/structures/ArrayStack" := E169_170.keep Kc171
    have E166_167_168_169_170_171 : Exa Z T171.heap r166 "java/lang/Integer" := E166_167_168_169_170.keep Kc171
    have F166_167_168_169_170_171 : Fld Z T171.heap r166 "java/lang/Integer" "value" "I" (.int p1) := F166_167_168_169_170.keep Kc171 (ninS (Exa.ne E166_167_168_169_170 E169_170 (by decide)) (ninS (Exa.ne E166_167_168_169_170 A169_170.exa (by decide)) nin0))
    have E168_169_170_171 : Exa Z T171.heap r168 "java/lang/Integer" := E168_169_170.keep Kc171
    have F168_169_170_171 : Fld Z T171.heap r168 "java/lang/Integer" "value" "I" (.int p2) := F168_169_170.keep Kc171 (ninS (Exa.ne E168_169_170 E169_170 (by decide)) (ninS (Exa.ne E168_169_170 A169_170.exa (by decide)) nin0))
    have E170_171 : Exa Z T171.heap r170 "java/lang/Integer" := E170.keep Kc171
    have F170_171 : Fld Z T171.heap r170 "java/lang/Integer" "value" "I" (.int p3) := F170.keep Kc171 (ninS (Exa.ne E170 E169_170 (by decide)) (ninS (Exa.ne E170 A169_170.exa (by decide)) nin0))
    have K171 : Keep h0 T171.heap [] := K170.trans Kc171 (allS (Or.inr sz_b164) (allS (Or.inr sz_r169) all0))
    have Z171 : n0 ≤ T171.heap.size := Nat.le_trans Z170 Kc171.1
    have e171 : T171.heap = T171.heap := rfl
    refine Goes.tr st171 ?_
    show Goes p e below KK T171 (mkF m 80 #[.val (.int p1), .val (.int p2), .val (.int p3), .val (.int p4), .val (.int p5), .val (.int p6), .val (.int (3 : Int32)), .val (.int (if ((XT.ushr p5 (2 : Int32)) &&& (1 : Int32)) = (0 : Int32) then (0 : Int32) else (1 : Int32))), .val (.ref b164), .unset, .unset, .unset, .unset] [(.int (1 : Int32))])
    refine Goes.of (fun t => XT.pop Y171.here hx rfl (hb hby at_80) rfl rfl) ?_
    show Goes p e below KK T171 (mkF m 81 #[.val (.int p1), .val (.int p2), .val (.int p3), .val (.int p4), .val (.int p5), .val (.int p6), .val (.int (3 : Int32)), .val (.int (if ((XT.ushr p5 (2 : Int32)) &&& (1 : Int32)) = (0 : Int32) then (0 : Int32) else (1 : Int32))), .val (.ref b164), .unset, .unset, .unset, .unset] [])
    refine Goes.of (fun t => XS.iload Y171.here hx rfl (hb hby at_81) rfl) ?_
    show Goes p e below KK T171 (mkF m 83 #[.val (.int p1), .val (.int p2), .val (.int p3), .val (.int p4), .val (.int p5), .val (.int p6), .val (.int (3 : Int32)), .val (.int (if ((XT.ushr p5 (2 : Int32)) &&& (1 : Int32)) = (0 : Int32) then (0 : Int32) else (1 : Int32))), .val (.ref b164), .unset, .unset, .unset, .unset] [(.int (3 : Int32))])
    refine Goes.of (fun t => XS.iconst Y171.here hx rfl (hb hby at_83)) ?_
    show Goes p e below KK T171 (mkF m 84 #[.val (.int p1), .val (.int p2), .val (.int p3), .val (.int p4), .val (.int p5), .val (.int p6), .val (.int (3 : Int32)), .val (.int (if ((XT.ushr p5 (2 : Int32)) &&& (1 : Int32)) = (0 : Int32) then (0 : Int32) else (1 : Int32))), .val (.ref b164), .unset, .unset, .unset, .unset] [(.int (4 : Int32)), (.int (3 : Int32))])
    refine Goes.of (fun t => XS.icmpYes Y171.here hx rfl (pc0 := 84) (pc' := 97) rfl (hb hby at_84) rfl (tlt (show (3 : Int32) < (4 : Int32) from by decide)).1 (by decide) (by decide)) ?_
    show Goes p e below KK T171 (mkF m 97 #[.val (.int p1), .val (.int p2), .val (.int p3), .val (.int p4), .val (.int p5), .val (.int p6), .val (.int (3 : Int32)), .val (.int (if ((XT.ushr p5 (2 : Int32)) &&& (1 : Int32)) = (0 : Int32) then (0 : Int32) else (1 : Int32))), .val (.ref b164), .unset, .unset, .unset, .unset] [])
    refine Goes.of (fun t => XS.iload Y171.here hx rfl (hb hby at_97) rfl) ?_
    show Goes p e below KK T171 (mkF m 99 #[.val (.int p1), .val (.int p2), .val (.int p3), .val (.int p4), .val (.int p5), .val (.int p6), .val (.int (3 : Int32)), .val (.int (if ((XT.ushr p5 (2 : Int32)) &&& (1 : Int32)) = (0 : Int32) then (0 : Int32) else (1 : Int32))), .val (.ref b164), .unset, .unset, .unset, .unset] [(.int (3 : Int32))])
    refine Goes.of (fun t => XS.istore Y171.here hx rfl (hb hby at_99) rfl (l' := #[.val (.int p1), .val (.int p2), .val (.int p3), .val (.int p4), .val (.int p5), .val (.int p6), .val (.int (3 : Int32)), .val (.int (if ((XT.ushr p5 (2 : Int32)) &&& (1 : Int32)) = (0 : Int32) then (0 : Int32) else (1 : Int32))), .val (.ref b164), .val (.int (3 : Int32)), .unset, .unset, .unset]) rfl) ?_
    show Goes p e below KK T171 (mkF m 101 #[.val (.int p1), .val (.int p2), .val (.int p3), .val (.int p4), .val (.int p5), .val (.int p6), .val (.int (3 : Int32)), .val (.int (if ((XT.ushr p5 (2 : Int32)) &&& (1 : Int32)) = (0 : Int32) then (0 : Int32) else (1 : Int32))), .val (.ref b164), .val (.int (3 : Int32)), .unset, .unset, .unset] [])
    refine Goes.of (fun t => XS.iload Y171.here hx rfl (hb hby at_101) rfl) ?_
    show Goes p e below KK T171 (mkF m 103 #[.val (.int p1), .val (.int p2), .val (.int p3), .val (.int p4), .val (.int p5), .val (.int p6), .val (.int (3 : Int32)), .val (.int (if ((XT.ushr p5 (2 : Int32)) &&& (1 : Int32)) = (0 : Int32) then (0 : Int32) else (1 : Int32))), .val (.ref b164), .val (.int (3 : Int32)), .unset, .unset, .unset] [(.int (if ((XT.ushr p5 (2 : Int32)) &&& (1 : Int32)) = (0 : Int32) then (0 : Int32) else (1 : Int32)))])
    by_cases hc103_3 : (if ((XT.ushr p5 (2 : Int32)) &&& (1 : Int32)) = (0 : Int32) then (0 : Int32) else (1 : Int32)) = (0 : Int32)
    · refine Goes.of (fun t => XS.ifYes Y171.here hx rfl (pc0 := 103) (pc' := 118) rfl (hb hby at_103) rfl ((if0 _ _).trans (teq hc103_3).1) (by decide) (by decide)) ?_
      show Goes p e below KK T171 (mkF m 118 #[.val (.int p1), .val (.int p2), .val (.int p3), .val (.int p4), .val (.int p5), .val (.int p6), .val (.int (3 : Int32)), .val (.int (if ((XT.ushr p5 (2 : Int32)) &&& (1 : Int32)) = (0 : Int32) then (0 : Int32) else (1 : Int32))), .val (.ref b164), .val (.int (3 : Int32)), .unset, .unset, .unset] [])
      refine Goes.of (fun t => XS.iload Y171.here hx rfl (hb hby at_118) rfl) ?_
      show Goes p e below KK T171 (mkF m 120 #[.val (.int p1), .val (.int p2), .val (.int p3), .val (.int p4), .val (.int p5), .val (.int p6), .val (.int (3 : Int32)), .val (.int (if ((XT.ushr p5 (2 : Int32)) &&& (1 : Int32)) = (0 : Int32) then (0 : Int32) else (1 : Int32))), .val (.ref b164), .val (.int (3 : Int32)), .unset, .unset, .unset] [(.int p6)])
      refine Goes.of (Y171.ldcInt hx hown171 (mvT hZ171 w_64) (g := (mkF m 120 #[.val (.int p1), .val (.int p2), .val (.int p3), .val (.int p4), .val (.int p5), .val (.int p6), .val (.int (3 : Int32)), .val (.int (if ((XT.ushr p5 (2 : Int32)) &&& (1 : Int32)) = (0 : Int32) then (0 : Int32) else (1 : Int32))), .val (.ref b164), .val (.int (3 : Int32)), .unset, .unset, .unset] [(.int p6)])) rfl (hb hby at_120)) ?_
      show Goes p e below KK T171 (mkF m 122 #[.val (.int p1), .val (.int p2), .val (.int p3), .val (.int p4), .val (.int p5), .val (.int p6), .val (.int (3 : Int32)), .val (.int (if ((XT.ushr p5 (2 : Int32)) &&& (1 : Int32)) = (0 : Int32) then (0 : Int32) else (1 : Int32))), .val (.ref b164), .val (.int (3 : Int32)), .unset, .unset, .unset] [(.int (2147483647 : Int32)), (.int p6)])
      refine Goes.of (fun t => XS.iand Y171.here hx rfl (hb hby at_122) rfl) ?_
      show Goes p e below KK T171 (mkF m 123 #[.val (.int p1), .val (.int p2), .val (.int p3), .val (.int p4), .val (.int p5), .val (.int p6), .val (.int (3 : Int32)), .val (.int (if ((XT.ushr p5 (2 : Int32)) &&& (1 : Int32)) = (0 : Int32) then (0 : Int32) else (1 : Int32))), .val (.ref b164), .val (.int (3 : Int32)), .unset, .unset, .unset] [(.int (p6 &&& (2147483647 : Int32)))])
      refine Goes.of (fun t => XS.iload Y171.here hx rfl (hb hby at_123) rfl) ?_
      show Goes p e below KK T171 (mkF m 125 #[.val (.int p1), .val (.int p2), .val (.int p3), .val (.int p4), .val (.int p5), .val (.int p6), .val (.int (3 : Int32)), .val (.int (if ((XT.ushr p5 (2 : Int32)) &&& (1 : Int32)) = (0 : Int32) then (0 : Int32) else (1 : Int32))), .val (.ref b164), .val (.int (3 : Int32)), .unset, .unset, .unset] [(.int (3 : Int32)), (.int (p6 &&& (2147483647 : Int32)))])
      refine Goes.of (fun t => iremM Y171 hx rfl (hb hby at_125) rfl (by decide)) ?_
      show Goes p e below KK T171 (mkF m 126 #[.val (.int p1), .val (.int p2), .val (.int p3), .val (.int p4), .val (.int p5), .val (.int p6), .val (.int (3 : Int32)), .val (.int (if ((XT.ushr p5 (2 : Int32)) &&& (1 : Int32)) = (0 : Int32) then (0 : Int32) else (1 : Int32))), .val (.ref b164), .val (.int (3 : Int32)), .unset, .unset, .unset] [(.int ((p6 &&& (2147483647 : Int32)) % (3 : Int32)))])
      generalize e_ix : ((p6 &&& (2147483647 : Int32)) % (3 : Int32)) = ix
      show Goes p e below KK T171 (mkF m 126 #[.val (.int p1), .val (.int p2), .val (.int p3), .val (.int p4), .val (.int p5), .val (.int p6), .val (.int (3 : Int32)), .val (.int (if ((XT.ushr p5 (2 : Int32)) &&& (1 : Int32)) = (0 : Int32) then (0 : Int32) else (1 : Int32))), .val (.ref b164), .val (.int (3 : Int32)), .unset, .unset, .unset] [(.int ix)])
      have hi1_172 : (p6 &&& 2147483647).toInt = p6.toInt % 2 ^ 31 := Jvm.Kit.i32_mask p6 2147483647 (k := 31) (by decide) (by decide)
      have hi2_172 : ix.toInt = (p6 &&& 2147483647).toInt % 3 := by rw [← e_ix]; exact Jvm.Kit.i32_rem_nonneg (by omega)
      have hi3_172 : ix = 0 ∨ ix = 1 ∨ ix = 2 := by
        have a1 : ix.toInt = 0 ∨ ix.toInt = 1 ∨ ix.toInt = 2 := by omega
        exact a1.imp Int32.toInt_inj.mp (fun q => q.imp Int32.toInt_inj.mp Int32.toInt_inj.mp)
      rcases hi3_172 with hi | hi | hi
      · subst hi
        show Goes p e below KK T171 (mkF m 126 #[.val (.int p1), .val (.int p2), .val (.int p3), .val (.int p4), .val (.int p5), .val (.int p6), .val (.int (3 : Int32)), .val (.int (if ((XT.ushr p5 (2 : Int32)) &&& (1 : Int32)) = (0 : Int32) then (0 : Int32) else (1 : Int32))), .val (.ref b164), .val (.int (3 : Int32)), .unset, .unset, .unset] [(.int (0 : Int32))])
        refine Goes.of (fun t => XS.istore Y171.here hx rfl (hb hby at_126) rfl (l' := #[.val (.int p1), .val (.int p2), .val (.int p3), .val (.int p4), .val (.int p5), .val (.int p6), .val (.int (3 : Int32)), .val (.int (if ((XT.ushr p5 (2 : Int32)) &&& (1 : Int32)) = (0 : Int32) then (0 : Int32) else (1 : Int32))), .val (.ref b164), .val (.int (3 : Int32)), .val (.int (0 : Int32)), .unset, .unset]) rfl) ?_
        show Goes p e below KK T171 (mkF m 128 #[.val (.int p1), .val (.int p2), .val (.int p3), .val (.int p4), .val (.int p5), .val (.int p6), .val (.int (3 : Int32)), .val (.int (if ((XT.ushr p5 (2 : Int32)) &&& (1 : Int32)) = (0 : Int32) then (0 : Int32) else (1 : Int32))), .val (.ref b164), .val (.int (3 : Int32)), .val (.int (0 : Int32)), .unset, .unset] [])
        refine Goes.of (fun t => XS.iload Y171.here hx rfl (hb hby at_128) rfl) ?_
        show Goes p e below KK T171 (mkF m 130 #[.val (.int p1), .val (.int p2), .val (.int p3), .val (.int p4), .val (.int p5), .val (.int p6), .val (.int (3 : Int32)), .val (.int (if ((XT.ushr p5 (2 : Int32)) &&& (1 : Int32)) = (0 : Int32) then (0 : Int32) else (1 : Int32))), .val (.ref b164), .val (.int (3 : Int32)), .val (.int (0 : Int32)), .unset, .unset] [(.int (0 : Int32))])
        refine Goes.of (fun t => XS.ifNo Y171.here hx rfl (hb hby at_130) rfl ((if0 _ _).trans (teq (show (0 : Int32) = (0 : Int32) from by decide)).2)) ?_
        show Goes p e below KK T171 (mkF m 133 #[.val (.int p1), .val (.int p2), .val (.int p3), .val (.int p4), .val (.int p5), .val (.int p6), .val (.int (3 : Int32)), .val (.int (if ((XT.ushr p5 (2 : Int32)) &&& (1 : Int32)) = (0 : Int32) then (0 : Int32) else (1 : Int32))), .val (.ref b164), .val (.int (3 : Int32)), .val (.int (0 : Int32)), .unset, .unset] [])
        refine Goes.of (fun t => XS.iloadN Y171.here hx rfl (hb hby at_133) rfl) ?_
        show Goes p e below KK T171 (mkF m 134 #[.val (.int p1), .val (.int p2), .val (.int p3), .val (.int p4), .val (.int p5), .val (.int p6), .val (.int (3 : Int32)), .val (.int (if ((XT.ushr p5 (2 : Int32)) &&& (1 : Int32)) = (0 : Int32) then (0 : Int32) else (1 : Int32))), .val (.ref b164), .val (.int (3 : Int32)), .val (.int (0 : Int32)), .unset, .unset] [(.int p1)])
        refine Goes.of (fun t => XS.istore Y171.here hx rfl (hb hby at_134) rfl (l' := #[.val (.int p1), .val (.int p2), .val (.int p3), .val (.int p4), .val (.int p5), .val (.int p6), .val (.int (3 : Int32)), .val (.int (if ((XT.ushr p5 (2 : Int32)) &&& (1 : Int32)) = (0 : Int32) then (0 : Int32) else (1 : Int32))), .val (.ref b164), .val (.int (3 : Int32)), .val (.int (0 : Int32)), .val (.int p1), .unset]) rfl) ?_
        show Goes p e below KK T171 (mkF m 136 #[.val (.int p1), .val (.int p2), .val (.int p3), .val (.int p4), .val (.int p5), .val (.int p6), .val (.int (3 : Int32)), .val (.int (if ((XT.ushr p5 (2 : Int32)) &&& (1 : Int32)) = (0 : Int32) then (0 : Int32) else (1 : Int32))), .val (.ref b164), .val (.int (3 : Int32)), .val (.int (0 : Int32)), .val (.int p1), .unset] [])
        refine Goes.of (fun t => XS.goto Y171.here hx rfl (pc0 := 136) (pc' := 166) rfl (hb hby at_136) (by decide) (by decide)) ?_
        show Goes p e below KK T171 (mkF m 166 #[.val (.int p1), .val (.int p2), .val (.int p3), .val (.int p4), .val (.int p5), .val (.int p6), .val (.int (3 : Int32)), .val (.int (if ((XT.ushr p5 (2 : Int32)) &&& (1 : Int32)) = (0 : Int32) then (0 : Int32) else (1 : Int32))), .val (.ref b164), .val (.int (3 : Int32)), .val (.int (0 : Int32)), .val (.int p1), .unset] [])
        refine Goes.of (fun t => XS.aload Y171.here hx rfl (hb hby at_166) rfl rfl) ?_
        show Goes p e below KK T171 (mkF m 168 #[.val (.int p1), .val (.int p2), .val (.int p3), .val (.int p4), .val (.int p5), .val (.int p6), .val (.int (3 : Int32)), .val (.int (if ((XT.ushr p5 (2 : Int32)) &&& (1 : Int32)) = (0 : Int32) then (0 : Int32) else (1 : Int32))), .val (.ref b164), .val (.int (3 : Int32)), .val (.int (0 : Int32)), .val (.int p1), .unset] [(.ref b164)])
        refine Goes.of (fun t => XS.iload Y171.here hx rfl (hb hby at_168) rfl) ?_
        show Goes p e below KK T171 (mkF m 170 #[.val (.int p1), .val (.int p2), .val (.int p3), .val (.int p4), .val (.int p5), .val (.int p6), .val (.int (3 : Int32)), .val (.int (if ((XT.ushr p5 (2 : Int32)) &&& (1 : Int32)) = (0 : Int32) then (0 : Int32) else (1 : Int32))), .val (.ref b164), .val (.int (3 : Int32)), .val (.int (0 : Int32)), .val (.int p1), .unset] [(.int (0 : Int32)), (.ref b164)])
        obtain ⟨cq173, kq173, q173a, q173b, q173c⟩ := isOf hZ171 e171 E171
        obtain ⟨_, _, ⟨T173, L173, k173, n173⟩, -, X173, ⟨Lc173, hQ173, l173, y173, z173⟩, st173⟩ := Y171.virtualBack hx (y := (⟨"corbel/structures/ArrayStack", "get", "(I)Ljava/lang/Object;"⟩ : MethodName)) (z := (⟨"corbel/structures/ArrayStack", "get", "(I)Ljava/lang/Object;"⟩ : MethodName)) hown171 (mvT hZ171 w_65) (mvT hZ171 w_66) (notFace_of_selects (args := #[]) (mvT hZ171 w_68)) (mvT hZ171 w_68) (mvT hZ171 w_67) (by decide) (backOf (W := 0) (rm10 l Z a0 hw [] b164 (0 : Int32) r171 [(.ref r166), (.ref r168), (.ref r170), .null] 0 r166 (3 : Int32) T171.heap n0 Z171 E171 Fe171 Fs171 A171 (by decide) (by decide) rfl rfl) hZ171 w_69 w_2 (by decide) (by decide)) q173a q173c (g := (mkF m 170 #[.val (.int p1), .val (.int p2), .val (.int p3), .val (.int p4), .val (.int p5), .val (.int p6), .val (.int (3 : Int32)), .val (.int (if ((XT.ushr p5 (2 : Int32)) &&& (1 : Int32)) = (0 : Int32) then (0 : Int32) else (1 : Int32))), .val (.ref b164), .val (.int (3 : Int32)), .val (.int (0 : Int32)), .val (.int p1), .unset] [(.int (0 : Int32)), (.ref b164)])) rfl (by rw [hml]; rfl) (Steps.refl _) (argsL := [(.int (0 : Int32))]) (rest := []) (lenOf pd_16 rfl) rfl (by show 2 * 0 + _ ≤ _; exact Nat.le_of_eq rfl) (hb hby at_170) (fun _ _ => ⟨rfl, e171, (by decide : 13 + 0 ≤ _), (by decide : 109 + 0 ≤ _)⟩)
        dsimp only [Pt.U, Pt.locs, Pt.cells, Pt.slots] at X173 l173 y173 z173 st173 hQ173
        subst l173 y173 z173
        obtain ⟨rfl, N173q, e173⟩ := hQ173
        have N173 := Fr.app N171 N173q
        refine Goes.tr st173 ?_
        show Goes p e below KK T173 (mkF m 173 #[.val (.int p1), .val (.int p2), .val (.int p3), .val (.int p4), .val (.int p5), .val (.int p6), .val (.int (3 : Int32)), .val (.int (if ((XT.ushr p5 (2 : Int32)) &&& (1 : Int32)) = (0 : Int32) then (0 : Int32) else (1 : Int32))), .val (.ref b164), .val (.int (3 : Int32)), .val (.int (0 : Int32)), .val (.int p1), .unset] [(.ref r166)])
        obtain ⟨T174, X174, e174, st174⟩ := castY X173 hx hZ171 hown171 w_81 e173 (Ins.self E166_167_168_169_170_171) (g := (mkF m 173 #[.val (.int p1), .val (.int p2), .val (.int p3), .val (.int p4), .val (.int p5), .val (.int p6), .val (.int (3 : Int32)), .val (.int (if ((XT.ushr p5 (2 : Int32)) &&& (1 : Int32)) = (0 : Int32) then (0 : Int32) else (1 : Int32))), .val (.ref b164), .val (.int (3 : Int32)), .val (.int (0 : Int32)), .val (.int p1), .unset] [(.ref r166)])) rfl rfl (hb hby at_173)
        refine Goes.of (st174) ?_
        show Goes p e below KK T174 (mkF m 176 #[.val (.int p1), .val (.int p2), .val (.int p3), .val (.int p4), .val (.int p5), .val (.int p6), .val (.int (3 : Int32)), .val (.int (if ((XT.ushr p5 (2 : Int32)) &&& (1 : Int32)) = (0 : Int32) then (0 : Int32) else (1 : Int32))), .val (.ref b164), .val (.int (3 : Int32)), .val (.int (0 : Int32)), .val (.int p1), .unset] [(.ref r166)])
        refine Goes.of (fun t => XS.astore X174.here hx rfl (hb hby at_176) rfl rfl (l' := #[.val (.int p1), .val (.int p2), .val (.int p3), .val (.int p4), .val (.int p5), .val (.int p6), .val (.int (3 : Int32)), .val (.int (if ((XT.ushr p5 (2 : Int32)) &&& (1 : Int32)) = (0 : Int32) then (0 : Int32) else (1 : Int32))), .val (.ref b164), .val (.int (3 : Int32)), .val (.int (0 : Int32)), .val (.int p1), .val (.ref r166)]) rfl) ?_
        show Goes p e below KK T174 (mkF m 178 #[.val (.int p1), .val (.int p2), .val (.int p3), .val (.int p4), .val (.int p5), .val (.int p6), .val (.int (3 : Int32)), .val (.int (if ((XT.ushr p5 (2 : Int32)) &&& (1 : Int32)) = (0 : Int32) then (0 : Int32) else (1 : Int32))), .val (.ref b164), .val (.int (3 : Int32)), .val (.int (0 : Int32)), .val (.int p1), .val (.ref r166)] [])
        refine Goes.of (fun t => XS.aload X174.here hx rfl (hb hby at_178) rfl rfl) ?_
        show Goes p e below KK T174 (mkF m 180 #[.val (.int p1), .val (.int p2), .val (.int p3), .val (.int p4), .val (.int p5), .val (.int p6), .val (.int (3 : Int32)), .val (.int (if ((XT.ushr p5 (2 : Int32)) &&& (1 : Int32)) = (0 : Int32) then (0 : Int32) else (1 : Int32))), .val (.ref b164), .val (.int (3 : Int32)), .val (.int (0 : Int32)), .val (.int p1), .val (.ref r166)] [(.ref r166)])
        refine Goes.of (fun t => XS.ifnullNo X174.here hx rfl (hb hby at_180) rfl) ?_
        show Goes p e below KK T174 (mkF m 183 #[.val (.int p1), .val (.int p2), .val (.int p3), .val (.int p4), .val (.int p5), .val (.int p6), .val (.int (3 : Int32)), .val (.int (if ((XT.ushr p5 (2 : Int32)) &&& (1 : Int32)) = (0 : Int32) then (0 : Int32) else (1 : Int32))), .val (.ref b164), .val (.int (3 : Int32)), .val (.int (0 : Int32)), .val (.int p1), .val (.ref r166)] [])
        refine Goes.of (fun t => XS.aload X174.here hx rfl (hb hby at_183) rfl rfl) ?_
        show Goes p e below KK T174 (mkF m 185 #[.val (.int p1), .val (.int p2), .val (.int p3), .val (.int p4), .val (.int p5), .val (.int p6), .val (.int (3 : Int32)), .val (.int (if ((XT.ushr p5 (2 : Int32)) &&& (1 : Int32)) = (0 : Int32) then (0 : Int32) else (1 : Int32))), .val (.ref b164), .val (.int (3 : Int32)), .val (.int (0 : Int32)), .val (.int p1), .val (.ref r166)] [(.ref r166)])
        obtain ⟨cq175, kq175, q175a, q175b, q175c⟩ := isOf hZ171 e174 E166_167_168_169_170_171
        obtain ⟨_, _, ⟨T175, L175, k175, n175⟩, -, X175, ⟨Lc175, hQ175, l175, y175, z175⟩, st175⟩ := X174.virtualBack hx (y := (⟨"java/lang/Integer", "intValue", "()I"⟩ : MethodName)) (z := (⟨"java/lang/Integer", "intValue", "()I"⟩ : MethodName)) hown171 (mvT hZ171 w_83) (mvT hZ171 w_84) (notFace_of_selects (args := #[]) (mvT hZ171 w_86)) (mvT hZ171 w_86) (mvT hZ171 w_85) (by decide) (backOf (W := 0) (rm14 l Z a0 hw [] r166 p1 T171.heap n0 Z171 F166_167_168_169_170_171) hZ171 w_87 w_33 (by decide) (by decide)) q175a q175c (g := (mkF m 185 #[.val (.int p1), .val (.int p2), .val (.int p3), .val (.int p4), .val (.int p5), .val (.int p6), .val (.int (3 : Int32)), .val (.int (if ((XT.ushr p5 (2 : Int32)) &&& (1 : Int32)) = (0 : Int32) then (0 : Int32) else (1 : Int32))), .val (.ref b164), .val (.int (3 : Int32)), .val (.int (0 : Int32)), .val (.int p1), .val (.ref r166)] [(.ref r166)])) rfl (by rw [hml]; rfl) (Steps.refl _) (argsL := []) (rest := []) (lenOf pd_50 rfl) rfl (by show 2 * 0 + _ ≤ _; exact Nat.le_of_eq rfl) (hb hby at_185) (fun _ _ => ⟨rfl, e174, (by decide : 13 + 0 ≤ _), (by decide : 109 + 0 ≤ _)⟩)
        dsimp only [Pt.U, Pt.locs, Pt.cells, Pt.slots] at X175 l175 y175 z175 st175 hQ175
        subst l175 y175 z175
        obtain ⟨rfl, N175q, e175⟩ := hQ175
        have N175 := Fr.app N173 N175q
        refine Goes.tr st175 ?_
        show Goes p e below KK T175 (mkF m 188 #[.val (.int p1), .val (.int p2), .val (.int p3), .val (.int p4), .val (.int p5), .val (.int p6), .val (.int (3 : Int32)), .val (.int (if ((XT.ushr p5 (2 : Int32)) &&& (1 : Int32)) = (0 : Int32) then (0 : Int32) else (1 : Int32))), .val (.ref b164), .val (.int (3 : Int32)), .val (.int (0 : Int32)), .val (.int p1), .val (.ref r166)] [(.int p1)])
        refine Goes.of (fun t => XS.iload X175.here hx rfl (hb hby at_188) rfl) ?_
        show Goes p e below KK T175 (mkF m 190 #[.val (.int p1), .val (.int p2), .val (.int p3), .val (.int p4), .val (.int p5), .val (.int p6), .val (.int (3 : Int32)), .val (.int (if ((XT.ushr p5 (2 : Int32)) &&& (1 : Int32)) = (0 : Int32) then (0 : Int32) else (1 : Int32))), .val (.ref b164), .val (.int (3 : Int32)), .val (.int (0 : Int32)), .val (.int p1), .val (.ref r166)] [(.int p1), (.int p1)])
        refine Goes.of (fun t => XS.icmpNo X175.here hx rfl (hb hby at_190) rfl (teq (show p1 = p1 from rfl)).2) ?_
        show Goes p e below KK T175 (mkF m 193 #[.val (.int p1), .val (.int p2), .val (.int p3), .val (.int p4), .val (.int p5), .val (.int p6), .val (.int (3 : Int32)), .val (.int (if ((XT.ushr p5 (2 : Int32)) &&& (1 : Int32)) = (0 : Int32) then (0 : Int32) else (1 : Int32))), .val (.ref b164), .val (.int (3 : Int32)), .val (.int (0 : Int32)), .val (.int p1), .val (.ref r166)] [])
        refine Goes.of (fun t => XS.iconst X175.here hx rfl (hb hby at_193)) ?_
        show Goes p e below KK T175 (mkF m 194 #[.val (.int p1), .val (.int p2), .val (.int p3), .val (.int p4), .val (.int p5), .val (.int p6), .val (.int (3 : Int32)), .val (.int (if ((XT.ushr p5 (2 : Int32)) &&& (1 : Int32)) = (0 : Int32) then (0 : Int32) else (1 : Int32))), .val (.ref b164), .val (.int (3 : Int32)), .val (.int (0 : Int32)), .val (.int p1), .val (.ref r166)] [(.int (1 : Int32))])
        refine Goes.of (fun t => XS.goto X175.here hx rfl (pc0 := 194) (pc' := 198) rfl (hb hby at_194) (by decide) (by decide)) ?_
        show Goes p e below KK T175 (mkF m 198 #[.val (.int p1), .val (.int p2), .val (.int p3), .val (.int p4), .val (.int p5), .val (.int p6), .val (.int (3 : Int32)), .val (.int (if ((XT.ushr p5 (2 : Int32)) &&& (1 : Int32)) = (0 : Int32) then (0 : Int32) else (1 : Int32))), .val (.ref b164), .val (.int (3 : Int32)), .val (.int (0 : Int32)), .val (.int p1), .val (.ref r166)] [(.int (1 : Int32))])
        rw [← hKK]
        refine Goes.retNarW X175 HS171 (by rw [e175]; exact HK171) hx hlk (t := .boolean) (by simp) Bd.returns (hb hby at_198) ?_ (by decide) (by decide)
        rw [e175]
        exact ⟨rfl, N175⟩
      · subst hi
        show Goes p e below KK T171 (mkF m 126 #[.val (.int p1), .val (.int p2), .val (.int p3), .val (.int p4), .val (.int p5), .val (.int p6), .val (.int (3 : Int32)), .val (.int (if ((XT.ushr p5 (2 : Int32)) &&& (1 : Int32)) = (0 : Int32) then (0 : Int32) else (1 : Int32))), .val (.ref b164), .val (.int (3 : Int32)), .unset, .unset, .unset] [(.int (1 : Int32))])
        refine Goes.of (fun t => XS.istore Y171.here hx rfl (hb hby at_126) rfl (l' := #[.val (.int p1), .val (.int p2), .val (.int p3), .val (.int p4), .val (.int p5), .val (.int p6), .val (.int (3 : Int32)), .val (.int (if ((XT.ushr p5 (2 : Int32)) &&& (1 : Int32)) = (0 : Int32) then (0 : Int32) else (1 : Int32))), .val (.ref b164), .val (.int (3 : Int32)), .val (.int (1 : Int32)), .unset, .unset]) rfl) ?_
        show Goes p e below KK T171 (mkF m 128 #[.val (.int p1), .val (.int p2), .val (.int p3), .val (.int p4), .val (.int p5), .val (.int p6), .val (.int (3 : Int32)), .val (.int (if ((XT.ushr p5 (2 : Int32)) &&& (1 : Int32)) = (0 : Int32) then (0 : Int32) else (1 : Int32))), .val (.ref b164), .val (.int (3 : Int32)), .val (.int (1 : Int32)), .unset, .unset] [])
        refine Goes.of (fun t => XS.iload Y171.here hx rfl (hb hby at_128) rfl) ?_
        show Goes p e below KK T171 (mkF m 130 #[.val (.int p1), .val (.int p2), .val (.int p3), .val (.int p4), .val (.int p5), .val (.int p6), .val (.int (3 : Int32)), .val (.int (if ((XT.ushr p5 (2 : Int32)) &&& (1 : Int32)) = (0 : Int32) then (0 : Int32) else (1 : Int32))), .val (.ref b164), .val (.int (3 : Int32)), .val (.int (1 : Int32)), .unset, .unset] [(.int (1 : Int32))])
        refine Goes.of (fun t => XS.ifYes Y171.here hx rfl (pc0 := 130) (pc' := 139) rfl (hb hby at_130) rfl ((if0 _ _).trans (feq (show ¬ ((1 : Int32) = (0 : Int32)) from by decide)).2) (by decide) (by decide)) ?_
        show Goes p e below KK T171 (mkF m 139 #[.val (.int p1), .val (.int p2), .val (.int p3), .val (.int p4), .val (.int p5), .val (.int p6), .val (.int (3 : Int32)), .val (.int (if ((XT.ushr p5 (2 : Int32)) &&& (1 : Int32)) = (0 : Int32) then (0 : Int32) else (1 : Int32))), .val (.ref b164), .val (.int (3 : Int32)), .val (.int (1 : Int32)), .unset, .unset] [])
        refine Goes.of (fun t => XS.iload Y171.here hx rfl (hb hby at_139) rfl) ?_
        show Goes p e below KK T171 (mkF m 141 #[.val (.int p1), .val (.int p2), .val (.int p3), .val (.int p4), .val (.int p5), .val (.int p6), .val (.int (3 : Int32)), .val (.int (if ((XT.ushr p5 (2 : Int32)) &&& (1 : Int32)) = (0 : Int32) then (0 : Int32) else (1 : Int32))), .val (.ref b164), .val (.int (3 : Int32)), .val (.int (1 : Int32)), .unset, .unset] [(.int (1 : Int32))])
        refine Goes.of (fun t => XS.iconst Y171.here hx rfl (hb hby at_141)) ?_
        show Goes p e below KK T171 (mkF m 142 #[.val (.int p1), .val (.int p2), .val (.int p3), .val (.int p4), .val (.int p5), .val (.int p6), .val (.int (3 : Int32)), .val (.int (if ((XT.ushr p5 (2 : Int32)) &&& (1 : Int32)) = (0 : Int32) then (0 : Int32) else (1 : Int32))), .val (.ref b164), .val (.int (3 : Int32)), .val (.int (1 : Int32)), .unset, .unset] [(.int (1 : Int32)), (.int (1 : Int32))])
        refine Goes.of (fun t => XS.icmpNo Y171.here hx rfl (hb hby at_142) rfl (teq (show (1 : Int32) = (1 : Int32) from by decide)).2) ?_
        show Goes p e below KK T171 (mkF m 145 #[.val (.int p1), .val (.int p2), .val (.int p3), .val (.int p4), .val (.int p5), .val (.int p6), .val (.int (3 : Int32)), .val (.int (if ((XT.ushr p5 (2 : Int32)) &&& (1 : Int32)) = (0 : Int32) then (0 : Int32) else (1 : Int32))), .val (.ref b164), .val (.int (3 : Int32)), .val (.int (1 : Int32)), .unset, .unset] [])
        refine Goes.of (fun t => XS.iloadN Y171.here hx rfl (hb hby at_145) rfl) ?_
        show Goes p e below KK T171 (mkF m 146 #[.val (.int p1), .val (.int p2), .val (.int p3), .val (.int p4), .val (.int p5), .val (.int p6), .val (.int (3 : Int32)), .val (.int (if ((XT.ushr p5 (2 : Int32)) &&& (1 : Int32)) = (0 : Int32) then (0 : Int32) else (1 : Int32))), .val (.ref b164), .val (.int (3 : Int32)), .val (.int (1 : Int32)), .unset, .unset] [(.int p2)])
        refine Goes.of (fun t => XS.istore Y171.here hx rfl (hb hby at_146) rfl (l' := #[.val (.int p1), .val (.int p2), .val (.int p3), .val (.int p4), .val (.int p5), .val (.int p6), .val (.int (3 : Int32)), .val (.int (if ((XT.ushr p5 (2 : Int32)) &&& (1 : Int32)) = (0 : Int32) then (0 : Int32) else (1 : Int32))), .val (.ref b164), .val (.int (3 : Int32)), .val (.int (1 : Int32)), .val (.int p2), .unset]) rfl) ?_
        show Goes p e below KK T171 (mkF m 148 #[.val (.int p1), .val (.int p2), .val (.int p3), .val (.int p4), .val (.int p5), .val (.int p6), .val (.int (3 : Int32)), .val (.int (if ((XT.ushr p5 (2 : Int32)) &&& (1 : Int32)) = (0 : Int32) then (0 : Int32) else (1 : Int32))), .val (.ref b164), .val (.int (3 : Int32)), .val (.int (1 : Int32)), .val (.int p2), .unset] [])
        refine Goes.of (fun t => XS.goto Y171.here hx rfl (pc0 := 148) (pc' := 166) rfl (hb hby at_148) (by decide) (by decide)) ?_
        show Goes p e below KK T171 (mkF m 166 #[.val (.int p1), .val (.int p2), .val (.int p3), .val (.int p4), .val (.int p5), .val (.int p6), .val (.int (3 : Int32)), .val (.int (if ((XT.ushr p5 (2 : Int32)) &&& (1 : Int32)) = (0 : Int32) then (0 : Int32) else (1 : Int32))), .val (.ref b164), .val (.int (3 : Int32)), .val (.int (1 : Int32)), .val (.int p2), .unset] [])
        refine Goes.of (fun t => XS.aload Y171.here hx rfl (hb hby at_166) rfl rfl) ?_
        show Goes p e below KK T171 (mkF m 168 #[.val (.int p1), .val (.int p2), .val (.int p3), .val (.int p4), .val (.int p5), .val (.int p6), .val (.int (3 : Int32)), .val (.int (if ((XT.ushr p5 (2 : Int32)) &&& (1 : Int32)) = (0 : Int32) then (0 : Int32) else (1 : Int32))), .val (.ref b164), .val (.int (3 : Int32)), .val (.int (1 : Int32)), .val (.int p2), .unset] [(.ref b164)])
        refine Goes.of (fun t => XS.iload Y171.here hx rfl (hb hby at_168) rfl) ?_
        show Goes p e below KK T171 (mkF m 170 #[.val (.int p1), .val (.int p2), .val (.int p3), .val (.int p4), .val (.int p5), .val (.int p6), .val (.int (3 : Int32)), .val (.int (if ((XT.ushr p5 (2 : Int32)) &&& (1 : Int32)) = (0 : Int32) then (0 : Int32) else (1 : Int32))), .val (.ref b164), .val (.int (3 : Int32)), .val (.int (1 : Int32)), .val (.int p2), .unset] [(.int (1 : Int32)), (.ref b164)])
        obtain ⟨cq176, kq176, q176a, q176b, q176c⟩ := isOf hZ171 e171 E171
        obtain ⟨_, _, ⟨T176, L176, k176, n176⟩, -, X176, ⟨Lc176, hQ176, l176, y176, z176⟩, st176⟩ := Y171.virtualBack hx (y := (⟨"corbel/structures/ArrayStack", "get", "(I)Ljava/lang/Object;"⟩ : MethodName)) (z := (⟨"corbel/structures/ArrayStack", "get", "(I)Ljava/lang/Object;"⟩ : MethodName)) hown171 (mvT hZ171 w_65) (mvT hZ171 w_66) (notFace_of_selects (args := #[]) (mvT hZ171 w_68)) (mvT hZ171 w_68) (mvT hZ171 w_67) (by decide) (backOf (W := 0) (rm10 l Z a0 hw [] b164 (1 : Int32) r171 [(.ref r166), (.ref r168), (.ref r170), .null] 1 r168 (3 : Int32) T171.heap n0 Z171 E171 Fe171 Fs171 A171 (by decide) (by decide) rfl rfl) hZ171 w_69 w_2 (by decide) (by decide)) q176a q176c (g := (mkF m 170 #[.val (.int p1), .val (.int p2), .val (.int p3), .val (.int p4), .val (.int p5), .val (.int p6), .val (.int (3 : Int32)), .val (.int (if ((XT.ushr p5 (2 : Int32)) &&& (1 : Int32)) = (0 : Int32) then (0 : Int32) else (1 : Int32))), .val (.ref b164), .val (.int (3 : Int32)), .val (.int (1 : Int32)), .val (.int p2), .unset] [(.int (1 : Int32)), (.ref b164)])) rfl (by rw [hml]; rfl) (Steps.refl _) (argsL := [(.int (1 : Int32))]) (rest := []) (lenOf pd_16 rfl) rfl (by show 2 * 0 + _ ≤ _; exact Nat.le_of_eq rfl) (hb hby at_170) (fun _ _ => ⟨rfl, e171, (by decide : 13 + 0 ≤ _), (by decide : 109 + 0 ≤ _)⟩)
        dsimp only [Pt.U, Pt.locs, Pt.cells, Pt.slots] at X176 l176 y176 z176 st176 hQ176
        subst l176 y176 z176
        obtain ⟨rfl, N176q, e176⟩ := hQ176
        have N176 := Fr.app N171 N176q
        refine Goes.tr st176 ?_
        show Goes p e below KK T176 (mkF m 173 #[.val (.int p1), .val (.int p2), .val (.int p3), .val (.int p4), .val (.int p5), .val (.int p6), .val (.int (3 : Int32)), .val (.int (if ((XT.ushr p5 (2 : Int32)) &&& (1 : Int32)) = (0 : Int32) then (0 : Int32) else (1 : Int32))), .val (.ref b164), .val (.int (3 : Int32)), .val (.int (1 : Int32)), .val (.int p2), .unset] [(.ref r168)])
        obtain ⟨T177, X177, e177, st177⟩ := castY X176 hx hZ171 hown171 w_81 e176 (Ins.self E168_169_170_171) (g := (mkF m 173 #[.val (.int p1), .val (.int p2), .val (.int p3), .val (.int p4), .val (.int p5), .val (.int p6), .val (.int (3 : Int32)), .val (.int (if ((XT.ushr p5 (2 : Int32)) &&& (1 : Int32)) = (0 : Int32) then (0 : Int32) else (1 : Int32))), .val (.ref b164), .val (.int (3 : Int32)), .val (.int (1 : Int32)), .val (.int p2), .unset] [(.ref r168)])) rfl rfl (hb hby at_173)
        refine Goes.of (st177) ?_
        show Goes p e below KK T177 (mkF m 176 #[.val (.int p1), .val (.int p2), .val (.int p3), .val (.int p4), .val (.int p5), .val (.int p6), .val (.int (3 : Int32)), .val (.int (if ((XT.ushr p5 (2 : Int32)) &&& (1 : Int32)) = (0 : Int32) then (0 : Int32) else (1 : Int32))), .val (.ref b164), .val (.int (3 : Int32)), .val (.int (1 : Int32)), .val (.int p2), .unset] [(.ref r168)])
        refine Goes.of (fun t => XS.astore X177.here hx rfl (hb hby at_176) rfl rfl (l' := #[.val (.int p1), .val (.int p2), .val (.int p3), .val (.int p4), .val (.int p5), .val (.int p6), .val (.int (3 : Int32)), .val (.int (if ((XT.ushr p5 (2 : Int32)) &&& (1 : Int32)) = (0 : Int32) then (0 : Int32) else (1 : Int32))), .val (.ref b164), .val (.int (3 : Int32)), .val (.int (1 : Int32)), .val (.int p2), .val (.ref r168)]) rfl) ?_
        show Goes p e below KK T177 (mkF m 178 #[.val (.int p1), .val (.int p2), .val (.int p3), .val (.int p4), .val (.int p5), .val (.int p6), .val (.int (3 : Int32)), .val (.int (if ((XT.ushr p5 (2 : Int32)) &&& (1 : Int32)) = (0 : Int32) then (0 : Int32) else (1 : Int32))), .val (.ref b164), .val (.int (3 : Int32)), .val (.int (1 : Int32)), .val (.int p2), .val (.ref r168)] [])
        refine Goes.of (fun t => XS.aload X177.here hx rfl (hb hby at_178) rfl rfl) ?_
        show Goes p e below KK T177 (mkF m 180 #[.val (.int p1), .val (.int p2), .val (.int p3), .val (.int p4), .val (.int p5), .val (.int p6), .val (.int (3 : Int32)), .val (.int (if ((XT.ushr p5 (2 : Int32)) &&& (1 : Int32)) = (0 : Int32) then (0 : Int32) else (1 : Int32))), .val (.ref b164), .val (.int (3 : Int32)), .val (.int (1 : Int32)), .val (.int p2), .val (.ref r168)] [(.ref r168)])
        refine Goes.of (fun t => XS.ifnullNo X177.here hx rfl (hb hby at_180) rfl) ?_
        show Goes p e below KK T177 (mkF m 183 #[.val (.int p1), .val (.int p2), .val (.int p3), .val (.int p4), .val (.int p5), .val (.int p6), .val (.int (3 : Int32)), .val (.int (if ((XT.ushr p5 (2 : Int32)) &&& (1 : Int32)) = (0 : Int32) then (0 : Int32) else (1 : Int32))), .val (.ref b164), .val (.int (3 : Int32)), .val (.int (1 : Int32)), .val (.int p2), .val (.ref r168)] [])
        refine Goes.of (fun t => XS.aload X177.here hx rfl (hb hby at_183) rfl rfl) ?_
        show Goes p e below KK T177 (mkF m 185 #[.val (.int p1), .val (.int p2), .val (.int p3), .val (.int p4), .val (.int p5), .val (.int p6), .val (.int (3 : Int32)), .val (.int (if ((XT.ushr p5 (2 : Int32)) &&& (1 : Int32)) = (0 : Int32) then (0 : Int32) else (1 : Int32))), .val (.ref b164), .val (.int (3 : Int32)), .val (.int (1 : Int32)), .val (.int p2), .val (.ref r168)] [(.ref r168)])
        obtain ⟨cq178, kq178, q178a, q178b, q178c⟩ := isOf hZ171 e177 E168_169_170_171
        obtain ⟨_, _, ⟨T178, L178, k178, n178⟩, -, X178, ⟨Lc178, hQ178, l178, y178, z178⟩, st178⟩ := X177.virtualBack hx (y := (⟨"java/lang/Integer", "intValue", "()I"⟩ : MethodName)) (z := (⟨"java/lang/Integer", "intValue", "()I"⟩ : MethodName)) hown171 (mvT hZ171 w_83) (mvT hZ171 w_84) (notFace_of_selects (args := #[]) (mvT hZ171 w_86)) (mvT hZ171 w_86) (mvT hZ171 w_85) (by decide) (backOf (W := 0) (rm14 l Z a0 hw [] r168 p2 T171.heap n0 Z171 F168_169_170_171) hZ171 w_87 w_33 (by decide) (by decide)) q178a q178c (g := (mkF m 185 #[.val (.int p1), .val (.int p2), .val (.int p3), .val (.int p4), .val (.int p5), .val (.int p6), .val (.int (3 : Int32)), .val (.int (if ((XT.ushr p5 (2 : Int32)) &&& (1 : Int32)) = (0 : Int32) then (0 : Int32) else (1 : Int32))), .val (.ref b164), .val (.int (3 : Int32)), .val (.int (1 : Int32)), .val (.int p2), .val (.ref r168)] [(.ref r168)])) rfl (by rw [hml]; rfl) (Steps.refl _) (argsL := []) (rest := []) (lenOf pd_50 rfl) rfl (by show 2 * 0 + _ ≤ _; exact Nat.le_of_eq rfl) (hb hby at_185) (fun _ _ => ⟨rfl, e177, (by decide : 13 + 0 ≤ _), (by decide : 109 + 0 ≤ _)⟩)
        dsimp only [Pt.U, Pt.locs, Pt.cells, Pt.slots] at X178 l178 y178 z178 st178 hQ178
        subst l178 y178 z178
        obtain ⟨rfl, N178q, e178⟩ := hQ178
        have N178 := Fr.app N176 N178q
        refine Goes.tr st178 ?_
        show Goes p e below KK T178 (mkF m 188 #[.val (.int p1), .val (.int p2), .val (.int p3), .val (.int p4), .val (.int p5), .val (.int p6), .val (.int (3 : Int32)), .val (.int (if ((XT.ushr p5 (2 : Int32)) &&& (1 : Int32)) = (0 : Int32) then (0 : Int32) else (1 : Int32))), .val (.ref b164), .val (.int (3 : Int32)), .val (.int (1 : Int32)), .val (.int p2), .val (.ref r168)] [(.int p2)])
        refine Goes.of (fun t => XS.iload X178.here hx rfl (hb hby at_188) rfl) ?_
        show Goes p e below KK T178 (mkF m 190 #[.val (.int p1), .val (.int p2), .val (.int p3), .val (.int p4), .val (.int p5), .val (.int p6), .val (.int (3 : Int32)), .val (.int (if ((XT.ushr p5 (2 : Int32)) &&& (1 : Int32)) = (0 : Int32) then (0 : Int32) else (1 : Int32))), .val (.ref b164), .val (.int (3 : Int32)), .val (.int (1 : Int32)), .val (.int p2), .val (.ref r168)] [(.int p2), (.int p2)])
        refine Goes.of (fun t => XS.icmpNo X178.here hx rfl (hb hby at_190) rfl (teq (show p2 = p2 from rfl)).2) ?_
        show Goes p e below KK T178 (mkF m 193 #[.val (.int p1), .val (.int p2), .val (.int p3), .val (.int p4), .val (.int p5), .val (.int p6), .val (.int (3 : Int32)), .val (.int (if ((XT.ushr p5 (2 : Int32)) &&& (1 : Int32)) = (0 : Int32) then (0 : Int32) else (1 : Int32))), .val (.ref b164), .val (.int (3 : Int32)), .val (.int (1 : Int32)), .val (.int p2), .val (.ref r168)] [])
        refine Goes.of (fun t => XS.iconst X178.here hx rfl (hb hby at_193)) ?_
        show Goes p e below KK T178 (mkF m 194 #[.val (.int p1), .val (.int p2), .val (.int p3), .val (.int p4), .val (.int p5), .val (.int p6), .val (.int (3 : Int32)), .val (.int (if ((XT.ushr p5 (2 : Int32)) &&& (1 : Int32)) = (0 : Int32) then (0 : Int32) else (1 : Int32))), .val (.ref b164), .val (.int (3 : Int32)), .val (.int (1 : Int32)), .val (.int p2), .val (.ref r168)] [(.int (1 : Int32))])
        refine Goes.of (fun t => XS.goto X178.here hx rfl (pc0 := 194) (pc' := 198) rfl (hb hby at_194) (by decide) (by decide)) ?_
        show Goes p e below KK T178 (mkF m 198 #[.val (.int p1), .val (.int p2), .val (.int p3), .val (.int p4), .val (.int p5), .val (.int p6), .val (.int (3 : Int32)), .val (.int (if ((XT.ushr p5 (2 : Int32)) &&& (1 : Int32)) = (0 : Int32) then (0 : Int32) else (1 : Int32))), .val (.ref b164), .val (.int (3 : Int32)), .val (.int (1 : Int32)), .val (.int p2), .val (.ref r168)] [(.int (1 : Int32))])
        rw [← hKK]
        refine Goes.retNarW X178 HS171 (by rw [e178]; exact HK171) hx hlk (t := .boolean) (by simp) Bd.returns (hb hby at_198) ?_ (by decide) (by decide)
        rw [e178]
        exact ⟨rfl, N178⟩
      · subst hi
        show Goes p e below KK T171 (mkF m 126 #[.val (.int p1), .val (.int p2), .val (.int p3), .val (.int p4), .val (.int p5), .val (.int p6), .val (.int (3 : Int32)), .val (.int (if ((XT.ushr p5 (2 : Int32)) &&& (1 : Int32)) = (0 : Int32) then (0 : Int32) else (1 : Int32))), .val (.ref b164), .val (.int (3 : Int32)), .unset, .unset, .unset] [(.int (2 : Int32))])
        refine Goes.of (fun t => XS.istore Y171.here hx rfl (hb hby at_126) rfl (l' := #[.val (.int p1), .val (.int p2), .val (.int p3), .val (.int p4), .val (.int p5), .val (.int p6), .val (.int (3 : Int32)), .val (.int (if ((XT.ushr p5 (2 : Int32)) &&& (1 : Int32)) = (0 : Int32) then (0 : Int32) else (1 : Int32))), .val (.ref b164), .val (.int (3 : Int32)), .val (.int (2 : Int32)), .unset, .unset]) rfl) ?_
        show Goes p e below KK T171 (mkF m 128 #[.val (.int p1), .val (.int p2), .val (.int p3), .val (.int p4), .val (.int p5), .val (.int p6), .val (.int (3 : Int32)), .val (.int (if ((XT.ushr p5 (2 : Int32)) &&& (1 : Int32)) = (0 : Int32) then (0 : Int32) else (1 : Int32))), .val (.ref b164), .val (.int (3 : Int32)), .val (.int (2 : Int32)), .unset, .unset] [])
        refine Goes.of (fun t => XS.iload Y171.here hx rfl (hb hby at_128) rfl) ?_
        show Goes p e below KK T171 (mkF m 130 #[.val (.int p1), .val (.int p2), .val (.int p3), .val (.int p4), .val (.int p5), .val (.int p6), .val (.int (3 : Int32)), .val (.int (if ((XT.ushr p5 (2 : Int32)) &&& (1 : Int32)) = (0 : Int32) then (0 : Int32) else (1 : Int32))), .val (.ref b164), .val (.int (3 : Int32)), .val (.int (2 : Int32)), .unset, .unset] [(.int (2 : Int32))])
        refine Goes.of (fun t => XS.ifYes Y171.here hx rfl (pc0 := 130) (pc' := 139) rfl (hb hby at_130) rfl ((if0 _ _).trans (feq (show ¬ ((2 : Int32) = (0 : Int32)) from by decide)).2) (by decide) (by decide)) ?_
        show Goes p e below KK T171 (mkF m 139 #[.val (.int p1), .val (.int p2), .val (.int p3), .val (.int p4), .val (.int p5), .val (.int p6), .val (.int (3 : Int32)), .val (.int (if ((XT.ushr p5 (2 : Int32)) &&& (1 : Int32)) = (0 : Int32) then (0 : Int32) else (1 : Int32))), .val (.ref b164), .val (.int (3 : Int32)), .val (.int (2 : Int32)), .unset, .unset] [])
        refine Goes.of (fun t => XS.iload Y171.here hx rfl (hb hby at_139) rfl) ?_
        show Goes p e below KK T171 (mkF m 141 #[.val (.int p1), .val (.int p2), .val (.int p3), .val (.int p4), .val (.int p5), .val (.int p6), .val (.int (3 : Int32)), .val (.int (if ((XT.ushr p5 (2 : Int32)) &&& (1 : Int32)) = (0 : Int32) then (0 : Int32) else (1 : Int32))), .val (.ref b164), .val (.int (3 : Int32)), .val (.int (2 : Int32)), .unset, .unset] [(.int (2 : Int32))])
        refine Goes.of (fun t => XS.iconst Y171.here hx rfl (hb hby at_141)) ?_
        show Goes p e below KK T171 (mkF m 142 #[.val (.int p1), .val (.int p2), .val (.int p3), .val (.int p4), .val (.int p5), .val (.int p6), .val (.int (3 : Int32)), .val (.int (if ((XT.ushr p5 (2 : Int32)) &&& (1 : Int32)) = (0 : Int32) then (0 : Int32) else (1 : Int32))), .val (.ref b164), .val (.int (3 : Int32)), .val (.int (2 : Int32)), .unset, .unset] [(.int (1 : Int32)), (.int (2 : Int32))])
        refine Goes.of (fun t => XS.icmpYes Y171.here hx rfl (pc0 := 142) (pc' := 151) rfl (hb hby at_142) rfl (feq (show ¬ ((2 : Int32) = (1 : Int32)) from by decide)).2 (by decide) (by decide)) ?_
        show Goes p e below KK T171 (mkF m 151 #[.val (.int p1), .val (.int p2), .val (.int p3), .val (.int p4), .val (.int p5), .val (.int p6), .val (.int (3 : Int32)), .val (.int (if ((XT.ushr p5 (2 : Int32)) &&& (1 : Int32)) = (0 : Int32) then (0 : Int32) else (1 : Int32))), .val (.ref b164), .val (.int (3 : Int32)), .val (.int (2 : Int32)), .unset, .unset] [])
        refine Goes.of (fun t => XS.iload Y171.here hx rfl (hb hby at_151) rfl) ?_
        show Goes p e below KK T171 (mkF m 153 #[.val (.int p1), .val (.int p2), .val (.int p3), .val (.int p4), .val (.int p5), .val (.int p6), .val (.int (3 : Int32)), .val (.int (if ((XT.ushr p5 (2 : Int32)) &&& (1 : Int32)) = (0 : Int32) then (0 : Int32) else (1 : Int32))), .val (.ref b164), .val (.int (3 : Int32)), .val (.int (2 : Int32)), .unset, .unset] [(.int (2 : Int32))])
        refine Goes.of (fun t => XS.iconst Y171.here hx rfl (hb hby at_153)) ?_
        show Goes p e below KK T171 (mkF m 154 #[.val (.int p1), .val (.int p2), .val (.int p3), .val (.int p4), .val (.int p5), .val (.int p6), .val (.int (3 : Int32)), .val (.int (if ((XT.ushr p5 (2 : Int32)) &&& (1 : Int32)) = (0 : Int32) then (0 : Int32) else (1 : Int32))), .val (.ref b164), .val (.int (3 : Int32)), .val (.int (2 : Int32)), .unset, .unset] [(.int (2 : Int32)), (.int (2 : Int32))])
        refine Goes.of (fun t => XS.icmpNo Y171.here hx rfl (hb hby at_154) rfl (teq (show (2 : Int32) = (2 : Int32) from by decide)).2) ?_
        show Goes p e below KK T171 (mkF m 157 #[.val (.int p1), .val (.int p2), .val (.int p3), .val (.int p4), .val (.int p5), .val (.int p6), .val (.int (3 : Int32)), .val (.int (if ((XT.ushr p5 (2 : Int32)) &&& (1 : Int32)) = (0 : Int32) then (0 : Int32) else (1 : Int32))), .val (.ref b164), .val (.int (3 : Int32)), .val (.int (2 : Int32)), .unset, .unset] [])
        refine Goes.of (fun t => XS.iloadN Y171.here hx rfl (hb hby at_157) rfl) ?_
        show Goes p e below KK T171 (mkF m 158 #[.val (.int p1), .val (.int p2), .val (.int p3), .val (.int p4), .val (.int p5), .val (.int p6), .val (.int (3 : Int32)), .val (.int (if ((XT.ushr p5 (2 : Int32)) &&& (1 : Int32)) = (0 : Int32) then (0 : Int32) else (1 : Int32))), .val (.ref b164), .val (.int (3 : Int32)), .val (.int (2 : Int32)), .unset, .unset] [(.int p3)])
        refine Goes.of (fun t => XS.istore Y171.here hx rfl (hb hby at_158) rfl (l' := #[.val (.int p1), .val (.int p2), .val (.int p3), .val (.int p4), .val (.int p5), .val (.int p6), .val (.int (3 : Int32)), .val (.int (if ((XT.ushr p5 (2 : Int32)) &&& (1 : Int32)) = (0 : Int32) then (0 : Int32) else (1 : Int32))), .val (.ref b164), .val (.int (3 : Int32)), .val (.int (2 : Int32)), .val (.int p3), .unset]) rfl) ?_
        show Goes p e below KK T171 (mkF m 160 #[.val (.int p1), .val (.int p2), .val (.int p3), .val (.int p4), .val (.int p5), .val (.int p6), .val (.int (3 : Int32)), .val (.int (if ((XT.ushr p5 (2 : Int32)) &&& (1 : Int32)) = (0 : Int32) then (0 : Int32) else (1 : Int32))), .val (.ref b164), .val (.int (3 : Int32)), .val (.int (2 : Int32)), .val (.int p3), .unset] [])
        refine Goes.of (fun t => XS.goto Y171.here hx rfl (pc0 := 160) (pc' := 166) rfl (hb hby at_160) (by decide) (by decide)) ?_
        show Goes p e below KK T171 (mkF m 166 #[.val (.int p1), .val (.int p2), .val (.int p3), .val (.int p4), .val (.int p5), .val (.int p6), .val (.int (3 : Int32)), .val (.int (if ((XT.ushr p5 (2 : Int32)) &&& (1 : Int32)) = (0 : Int32) then (0 : Int32) else (1 : Int32))), .val (.ref b164), .val (.int (3 : Int32)), .val (.int (2 : Int32)), .val (.int p3), .unset] [])
        refine Goes.of (fun t => XS.aload Y171.here hx rfl (hb hby at_166) rfl rfl) ?_
        show Goes p e below KK T171 (mkF m 168 #[.val (.int p1), .val (.int p2), .val (.int p3), .val (.int p4), .val (.int p5), .val (.int p6), .val (.int (3 : Int32)), .val (.int (if ((XT.ushr p5 (2 : Int32)) &&& (1 : Int32)) = (0 : Int32) then (0 : Int32) else (1 : Int32))), .val (.ref b164), .val (.int (3 : Int32)), .val (.int (2 : Int32)), .val (.int p3), .unset] [(.ref b164)])
        refine Goes.of (fun t => XS.iload Y171.here hx rfl (hb hby at_168) rfl) ?_
        show Goes p e below KK T171 (mkF m 170 #[.val (.int p1), .val (.int p2), .val (.int p3), .val (.int p4), .val (.int p5), .val (.int p6), .val (.int (3 : Int32)), .val (.int (if ((XT.ushr p5 (2 : Int32)) &&& (1 : Int32)) = (0 : Int32) then (0 : Int32) else (1 : Int32))), .val (.ref b164), .val (.int (3 : Int32)), .val (.int (2 : Int32)), .val (.int p3), .unset] [(.int (2 : Int32)), (.ref b164)])
        obtain ⟨cq179, kq179, q179a, q179b, q179c⟩ := isOf hZ171 e171 E171
        obtain ⟨_, _, ⟨T179, L179, k179, n179⟩, -, X179, ⟨Lc179, hQ179, l179, y179, z179⟩, st179⟩ := Y171.virtualBack hx (y := (⟨"corbel/structures/ArrayStack", "get", "(I)Ljava/lang/Object;"⟩ : MethodName)) (z := (⟨"corbel/structures/ArrayStack", "get", "(I)Ljava/lang/Object;"⟩ : MethodName)) hown171 (mvT hZ171 w_65) (mvT hZ171 w_66) (notFace_of_selects (args := #[]) (mvT hZ171 w_68)) (mvT hZ171 w_68) (mvT hZ171 w_67) (by decide) (backOf (W := 0) (rm10 l Z a0 hw [] b164 (2 : Int32) r171 [(.ref r166), (.ref r168), (.ref r170), .null] 2 r170 (3 : Int32) T171.heap n0 Z171 E171 Fe171 Fs171 A171 (by decide) (by decide) rfl rfl) hZ171 w_69 w_2 (by decide) (by decide)) q179a q179c (g := (mkF m 170 #[.val (.int p1), .val (.int p2), .val (.int p3), .val (.int p4), .val (.int p5), .val (.int p6), .val (.int (3 : Int32)), .val (.int (if ((XT.ushr p5 (2 : Int32)) &&& (1 : Int32)) = (0 : Int32) then (0 : Int32) else (1 : Int32))), .val (.ref b164), .val (.int (3 : Int32)), .val (.int (2 : Int32)), .val (.int p3), .unset] [(.int (2 : Int32)), (.ref b164)])) rfl (by rw [hml]; rfl) (Steps.refl _) (argsL := [(.int (2 : Int32))]) (rest := []) (lenOf pd_16 rfl) rfl (by show 2 * 0 + _ ≤ _; exact Nat.le_of_eq rfl) (hb hby at_170) (fun _ _ => ⟨rfl, e171, (by decide : 13 + 0 ≤ _), (by decide : 109 + 0 ≤ _)⟩)
        dsimp only [Pt.U, Pt.locs, Pt.cells, Pt.slots] at X179 l179 y179 z179 st179 hQ179
        subst l179 y179 z179
        obtain ⟨rfl, N179q, e179⟩ := hQ179
        have N179 := Fr.app N171 N179q
        refine Goes.tr st179 ?_
        show Goes p e below KK T179 (mkF m 173 #[.val (.int p1), .val (.int p2), .val (.int p3), .val (.int p4), .val (.int p5), .val (.int p6), .val (.int (3 : Int32)), .val (.int (if ((XT.ushr p5 (2 : Int32)) &&& (1 : Int32)) = (0 : Int32) then (0 : Int32) else (1 : Int32))), .val (.ref b164), .val (.int (3 : Int32)), .val (.int (2 : Int32)), .val (.int p3), .unset] [(.ref r170)])
        obtain ⟨T180, X180, e180, st180⟩ := castY X179 hx hZ171 hown171 w_81 e179 (Ins.self E170_171) (g := (mkF m 173 #[.val (.int p1), .val (.int p2), .val (.int p3), .val (.int p4), .val (.int p5), .val (.int p6), .val (.int (3 : Int32)), .val (.int (if ((XT.ushr p5 (2 : Int32)) &&& (1 : Int32)) = (0 : Int32) then (0 : Int32) else (1 : Int32))), .val (.ref b164), .val (.int (3 : Int32)), .val (.int (2 : Int32)), .val (.int p3), .unset] [(.ref r170)])) rfl rfl (hb hby at_173)
        refine Goes.of (st180) ?_
        show Goes p e below KK T180 (mkF m 176 #[.val (.int p1), .val (.int p2), .val (.int p3), .val (.int p4), .val (.int p5), .val (.int p6), .val (.int (3 : Int32)), .val (.int (if ((XT.ushr p5 (2 : Int32)) &&& (1 : Int32)) = (0 : Int32) then (0 : Int32) else (1 : Int32))), .val (.ref b164), .val (.int (3 : Int32)), .val (.int (2 : Int32)), .val (.int p3), .unset] [(.ref r170)])
        refine Goes.of (fun t => XS.astore X180.here hx rfl (hb hby at_176) rfl rfl (l' := #[.val (.int p1), .val (.int p2), .val (.int p3), .val (.int p4), .val (.int p5), .val (.int p6), .val (.int (3 : Int32)), .val (.int (if ((XT.ushr p5 (2 : Int32)) &&& (1 : Int32)) = (0 : Int32) then (0 : Int32) else (1 : Int32))), .val (.ref b164), .val (.int (3 : Int32)), .val (.int (2 : Int32)), .val (.int p3), .val (.ref r170)]) rfl) ?_
        show Goes p e below KK T180 (mkF m 178 #[.val (.int p1), .val (.int p2), .val (.int p3), .val (.int p4), .val (.int p5), .val (.int p6), .val (.int (3 : Int32)), .val (.int (if ((XT.ushr p5 (2 : Int32)) &&& (1 : Int32)) = (0 : Int32) then (0 : Int32) else (1 : Int32))), .val (.ref b164), .val (.int (3 : Int32)), .val (.int (2 : Int32)), .val (.int p3), .val (.ref r170)] [])
        refine Goes.of (fun t => XS.aload X180.here hx rfl (hb hby at_178) rfl rfl) ?_
        show Goes p e below KK T180 (mkF m 180 #[.val (.int p1), .val (.int p2), .val (.int p3), .val (.int p4), .val (.int p5), .val (.int p6), .val (.int (3 : Int32)), .val (.int (if ((XT.ushr p5 (2 : Int32)) &&& (1 : Int32)) = (0 : Int32) then (0 : Int32) else (1 : Int32))), .val (.ref b164), .val (.int (3 : Int32)), .val (.int (2 : Int32)), .val (.int p3), .val (.ref r170)] [(.ref r170)])
        refine Goes.of (fun t => XS.ifnullNo X180.here hx rfl (hb hby at_180) rfl) ?_
        show Goes p e below KK T180 (mkF m 183 #[.val (.int p1), .val (.int p2), .val (.int p3), .val (.int p4), .val (.int p5), .val (.int p6), .val (.int (3 : Int32)), .val (.int (if ((XT.ushr p5 (2 : Int32)) &&& (1 : Int32)) = (0 : Int32) then (0 : Int32) else (1 : Int32))), .val (.ref b164), .val (.int (3 : Int32)), .val (.int (2 : Int32)), .val (.int p3), .val (.ref r170)] [])
        refine Goes.of (fun t => XS.aload X180.here hx rfl (hb hby at_183) rfl rfl) ?_
        show Goes p e below KK T180 (mkF m 185 #[.val (.int p1), .val (.int p2), .val (.int p3), .val (.int p4), .val (.int p5), .val (.int p6), .val (.int (3 : Int32)), .val (.int (if ((XT.ushr p5 (2 : Int32)) &&& (1 : Int32)) = (0 : Int32) then (0 : Int32) else (1 : Int32))), .val (.ref b164), .val (.int (3 : Int32)), .val (.int (2 : Int32)), .val (.int p3), .val (.ref r170)] [(.ref r170)])
        obtain ⟨cq181, kq181, q181a, q181b, q181c⟩ := isOf hZ171 e180 E170_171
        obtain ⟨_, _, ⟨T181, L181, k181, n181⟩, -, X181, ⟨Lc181, hQ181, l181, y181, z181⟩, st181⟩ := X180.virtualBack hx (y := (⟨"java/lang/Integer", "intValue", "()I"⟩ : MethodName)) (z := (⟨"java/lang/Integer", "intValue", "()I"⟩ : MethodName)) hown171 (mvT hZ171 w_83) (mvT hZ171 w_84) (notFace_of_selects (args := #[]) (mvT hZ171 w_86)) (mvT hZ171 w_86) (mvT hZ171 w_85) (by decide) (backOf (W := 0) (rm14 l Z a0 hw [] r170 p3 T171.heap n0 Z171 F170_171) hZ171 w_87 w_33 (by decide) (by decide)) q181a q181c (g := (mkF m 185 #[.val (.int p1), .val (.int p2), .val (.int p3), .val (.int p4), .val (.int p5), .val (.int p6), .val (.int (3 : Int32)), .val (.int (if ((XT.ushr p5 (2 : Int32)) &&& (1 : Int32)) = (0 : Int32) then (0 : Int32) else (1 : Int32))), .val (.ref b164), .val (.int (3 : Int32)), .val (.int (2 : Int32)), .val (.int p3), .val (.ref r170)] [(.ref r170)])) rfl (by rw [hml]; rfl) (Steps.refl _) (argsL := []) (rest := []) (lenOf pd_50 rfl) rfl (by show 2 * 0 + _ ≤ _; exact Nat.le_of_eq rfl) (hb hby at_185) (fun _ _ => ⟨rfl, e180, (by decide : 13 + 0 ≤ _), (by decide : 109 + 0 ≤ _)⟩)
        dsimp only [Pt.U, Pt.locs, Pt.cells, Pt.slots] at X181 l181 y181 z181 st181 hQ181
        subst l181 y181 z181
        obtain ⟨rfl, N181q, e181⟩ := hQ181
        have N181 := Fr.app N179 N181q
        refine Goes.tr st181 ?_
        show Goes p e below KK T181 (mkF m 188 #[.val (.int p1), .val (.int p2), .val (.int p3), .val (.int p4), .val (.int p5), .val (.int p6), .val (.int (3 : Int32)), .val (.int (if ((XT.ushr p5 (2 : Int32)) &&& (1 : Int32)) = (0 : Int32) then (0 : Int32) else (1 : Int32))), .val (.ref b164), .val (.int (3 : Int32)), .val (.int (2 : Int32)), .val (.int p3), .val (.ref r170)] [(.int p3)])
        refine Goes.of (fun t => XS.iload X181.here hx rfl (hb hby at_188) rfl) ?_
        show Goes p e below KK T181 (mkF m 190 #[.val (.int p1), .val (.int p2), .val (.int p3), .val (.int p4), .val (.int p5), .val (.int p6), .val (.int (3 : Int32)), .val (.int (if ((XT.ushr p5 (2 : Int32)) &&& (1 : Int32)) = (0 : Int32) then (0 : Int32) else (1 : Int32))), .val (.ref b164), .val (.int (3 : Int32)), .val (.int (2 : Int32)), .val (.int p3), .val (.ref r170)] [(.int p3), (.int p3)])
        refine Goes.of (fun t => XS.icmpNo X181.here hx rfl (hb hby at_190) rfl (teq (show p3 = p3 from rfl)).2) ?_
        show Goes p e below KK T181 (mkF m 193 #[.val (.int p1), .val (.int p2), .val (.int p3), .val (.int p4), .val (.int p5), .val (.int p6), .val (.int (3 : Int32)), .val (.int (if ((XT.ushr p5 (2 : Int32)) &&& (1 : Int32)) = (0 : Int32) then (0 : Int32) else (1 : Int32))), .val (.ref b164), .val (.int (3 : Int32)), .val (.int (2 : Int32)), .val (.int p3), .val (.ref r170)] [])
        refine Goes.of (fun t => XS.iconst X181.here hx rfl (hb hby at_193)) ?_
        show Goes p e below KK T181 (mkF m 194 #[.val (.int p1), .val (.int p2), .val (.int p3), .val (.int p4), .val (.int p5), .val (.int p6), .val (.int (3 : Int32)), .val (.int (if ((XT.ushr p5 (2 : Int32)) &&& (1 : Int32)) = (0 : Int32) then (0 : Int32) else (1 : Int32))), .val (.ref b164), .val (.int (3 : Int32)), .val (.int (2 : Int32)), .val (.int p3), .val (.ref r170)] [(.int (1 : Int32))])
        refine Goes.of (fun t => XS.goto X181.here hx rfl (pc0 := 194) (pc' := 198) rfl (hb hby at_194) (by decide) (by decide)) ?_
        show Goes p e below KK T181 (mkF m 198 #[.val (.int p1), .val (.int p2), .val (.int p3), .val (.int p4), .val (.int p5), .val (.int p6), .val (.int (3 : Int32)), .val (.int (if ((XT.ushr p5 (2 : Int32)) &&& (1 : Int32)) = (0 : Int32) then (0 : Int32) else (1 : Int32))), .val (.ref b164), .val (.int (3 : Int32)), .val (.int (2 : Int32)), .val (.int p3), .val (.ref r170)] [(.int (1 : Int32))])
        rw [← hKK]
        refine Goes.retNarW X181 HS171 (by rw [e181]; exact HK171) hx hlk (t := .boolean) (by simp) Bd.returns (hb hby at_198) ?_ (by decide) (by decide)
        rw [e181]
        exact ⟨rfl, N181⟩
    · refine Goes.of (fun t => XS.ifNo Y171.here hx rfl (hb hby at_103) rfl ((if0 _ _).trans (feq hc103_3).1)) ?_
      show Goes p e below KK T171 (mkF m 106 #[.val (.int p1), .val (.int p2), .val (.int p3), .val (.int p4), .val (.int p5), .val (.int p6), .val (.int (3 : Int32)), .val (.int (if ((XT.ushr p5 (2 : Int32)) &&& (1 : Int32)) = (0 : Int32) then (0 : Int32) else (1 : Int32))), .val (.ref b164), .val (.int (3 : Int32)), .unset, .unset, .unset] [])
      refine Goes.of (fun t => XS.aload Y171.here hx rfl (hb hby at_106) rfl rfl) ?_
      show Goes p e below KK T171 (mkF m 108 #[.val (.int p1), .val (.int p2), .val (.int p3), .val (.int p4), .val (.int p5), .val (.int p6), .val (.int (3 : Int32)), .val (.int (if ((XT.ushr p5 (2 : Int32)) &&& (1 : Int32)) = (0 : Int32) then (0 : Int32) else (1 : Int32))), .val (.ref b164), .val (.int (3 : Int32)), .unset, .unset, .unset] [(.ref b164)])
      obtain ⟨cq182, kq182, q182a, q182b, q182c⟩ := isOf hZ171 e171 E171
      obtain ⟨_, _, ⟨T182, L182, k182, n182⟩, -, X182, ⟨Lc182, hQ182, l182, y182, z182⟩, st182⟩ := Y171.virtualBack hx (y := (⟨"corbel/structures/ArrayStack", "pop", "()Ljava/lang/Object;"⟩ : MethodName)) (z := (⟨"corbel/structures/ArrayStack", "pop", "()Ljava/lang/Object;"⟩ : MethodName)) hown171 (mvT hZ171 w_115) (mvT hZ171 w_116) (notFace_of_selects (args := #[]) (mvT hZ171 w_118)) (mvT hZ171 w_118) (mvT hZ171 w_117) (by decide) (backOf (W := 0) (rm18s3 l Z a0 hw [] b164 r171 ((((0 : Int32) + 1) + 1) + 1) r166 r168 r170 T171.heap n0 Z171 E171 Fe171 Fs171 Fm171 A171 E166_167_168_169_170_171 E168_169_170_171 E170_171 g_b164 g_r171) hZ171 w_119 w_2 (by decide) (by decide)) q182a q182c (g := (mkF m 108 #[.val (.int p1), .val (.int p2), .val (.int p3), .val (.int p4), .val (.int p5), .val (.int p6), .val (.int (3 : Int32)), .val (.int (if ((XT.ushr p5 (2 : Int32)) &&& (1 : Int32)) = (0 : Int32) then (0 : Int32) else (1 : Int32))), .val (.ref b164), .val (.int (3 : Int32)), .unset, .unset, .unset] [(.ref b164)])) rfl (by rw [hml]; rfl) (Steps.refl _) (argsL := []) (rest := []) (lenOf pd_51 rfl) rfl (by show 2 * 0 + _ ≤ _; exact Nat.le_of_eq rfl) (hb hby at_108) (fun _ _ => ⟨rfl, e171, (by decide : 13 + 0 ≤ _), (by decide : 109 + 0 ≤ _)⟩)
      dsimp only [Pt.U, Pt.locs, Pt.cells, Pt.slots] at X182 l182 y182 z182 st182 hQ182
      subst l182 y182 z182
      obtain ⟨rfl, N182q, Kc182, E182, Fe182, Fs182, Fm182, A182⟩ := hQ182
      have N182 := Fr.app N171 N182q
      have O_182 : Old Z n0 T182.heap := O_171.keep Kc182 (allS g_b164 (allS g_r171 all0))
      have E171_182 : Exa Z T182.heap b164 "corbel/structures/ArrayStack" := E171.keep Kc182
      have E166_167_168_169_170_171_182 : Exa Z T182.heap r166 "java/lang/Integer" := E166_167_168_169_170_171.keep Kc182
      have F166_167_168_169_170_171_182 : Fld Z T182.heap r166 "java/lang/Integer" "value" "I" (.int p1) := F166_167_168_169_170_171.keep Kc182 (ninS (Exa.ne E166_167_168_169_170_171 E171 (by decide)) (ninS (Exa.ne E166_167_168_169_170_171 A171.exa (by decide)) nin0))
      have E168_169_170_171_182 : Exa Z T182.heap r168 "java/lang/Integer" := E168_169_170_171.keep Kc182
      have F168_169_170_171_182 : Fld Z T182.heap r168 "java/lang/Integer" "value" "I" (.int p2) := F168_169_170_171.keep Kc182 (ninS (Exa.ne E168_169_170_171 E171 (by decide)) (ninS (Exa.ne E168_169_170_171 A171.exa (by decide)) nin0))
      have E170_171_182 : Exa Z T182.heap r170 "java/lang/Integer" := E170_171.keep Kc182
      have F170_171_182 : Fld Z T182.heap r170 "java/lang/Integer" "value" "I" (.int p3) := F170_171.keep Kc182 (ninS (Exa.ne E170_171 E171 (by decide)) (ninS (Exa.ne E170_171 A171.exa (by decide)) nin0))
      have K182 : Keep h0 T182.heap [] := K171.trans Kc182 (allS (Or.inr sz_b164) (allS (Or.inr sz_r171) all0))
      have Z182 : n0 ≤ T182.heap.size := Nat.le_trans Z171 Kc182.1
      have HK182 := Nat.le_trans HK171 Kc182.1
      have e182 : T182.heap = T182.heap := rfl
      refine Goes.tr st182 ?_
      show Goes p e below KK T182 (mkF m 111 #[.val (.int p1), .val (.int p2), .val (.int p3), .val (.int p4), .val (.int p5), .val (.int p6), .val (.int (3 : Int32)), .val (.int (if ((XT.ushr p5 (2 : Int32)) &&& (1 : Int32)) = (0 : Int32) then (0 : Int32) else (1 : Int32))), .val (.ref b164), .val (.int (3 : Int32)), .unset, .unset, .unset] [(.ref r170)])
      refine Goes.of (fun t => XT.pop X182.here hx rfl (hb hby at_111) rfl rfl) ?_
      show Goes p e below KK T182 (mkF m 112 #[.val (.int p1), .val (.int p2), .val (.int p3), .val (.int p4), .val (.int p5), .val (.int p6), .val (.int (3 : Int32)), .val (.int (if ((XT.ushr p5 (2 : Int32)) &&& (1 : Int32)) = (0 : Int32) then (0 : Int32) else (1 : Int32))), .val (.ref b164), .val (.int (3 : Int32)), .unset, .unset, .unset] [])
      refine Goes.of (fun t => XS.iload X182.here hx rfl (hb hby at_112) rfl) ?_
      show Goes p e below KK T182 (mkF m 114 #[.val (.int p1), .val (.int p2), .val (.int p3), .val (.int p4), .val (.int p5), .val (.int p6), .val (.int (3 : Int32)), .val (.int (if ((XT.ushr p5 (2 : Int32)) &&& (1 : Int32)) = (0 : Int32) then (0 : Int32) else (1 : Int32))), .val (.ref b164), .val (.int (3 : Int32)), .unset, .unset, .unset] [(.int (3 : Int32))])
      refine Goes.of (fun t => XS.iconst X182.here hx rfl (hb hby at_114)) ?_
      show Goes p e below KK T182 (mkF m 115 #[.val (.int p1), .val (.int p2), .val (.int p3), .val (.int p4), .val (.int p5), .val (.int p6), .val (.int (3 : Int32)), .val (.int (if ((XT.ushr p5 (2 : Int32)) &&& (1 : Int32)) = (0 : Int32) then (0 : Int32) else (1 : Int32))), .val (.ref b164), .val (.int (3 : Int32)), .unset, .unset, .unset] [(.int (1 : Int32)), (.int (3 : Int32))])
      refine Goes.of (fun t => XS.isub X182.here hx rfl (hb hby at_115) rfl) ?_
      show Goes p e below KK T182 (mkF m 116 #[.val (.int p1), .val (.int p2), .val (.int p3), .val (.int p4), .val (.int p5), .val (.int p6), .val (.int (3 : Int32)), .val (.int (if ((XT.ushr p5 (2 : Int32)) &&& (1 : Int32)) = (0 : Int32) then (0 : Int32) else (1 : Int32))), .val (.ref b164), .val (.int (3 : Int32)), .unset, .unset, .unset] [(.int (2 : Int32))])
      refine Goes.of (fun t => XS.istore X182.here hx rfl (hb hby at_116) rfl (l' := #[.val (.int p1), .val (.int p2), .val (.int p3), .val (.int p4), .val (.int p5), .val (.int p6), .val (.int (3 : Int32)), .val (.int (if ((XT.ushr p5 (2 : Int32)) &&& (1 : Int32)) = (0 : Int32) then (0 : Int32) else (1 : Int32))), .val (.ref b164), .val (.int (2 : Int32)), .unset, .unset, .unset]) rfl) ?_
      show Goes p e below KK T182 (mkF m 118 #[.val (.int p1), .val (.int p2), .val (.int p3), .val (.int p4), .val (.int p5), .val (.int p6), .val (.int (3 : Int32)), .val (.int (if ((XT.ushr p5 (2 : Int32)) &&& (1 : Int32)) = (0 : Int32) then (0 : Int32) else (1 : Int32))), .val (.ref b164), .val (.int (2 : Int32)), .unset, .unset, .unset] [])
      refine Goes.of (fun t => XS.iload X182.here hx rfl (hb hby at_118) rfl) ?_
      show Goes p e below KK T182 (mkF m 120 #[.val (.int p1), .val (.int p2), .val (.int p3), .val (.int p4), .val (.int p5), .val (.int p6), .val (.int (3 : Int32)), .val (.int (if ((XT.ushr p5 (2 : Int32)) &&& (1 : Int32)) = (0 : Int32) then (0 : Int32) else (1 : Int32))), .val (.ref b164), .val (.int (2 : Int32)), .unset, .unset, .unset] [(.int p6)])
      refine Goes.of (X182.ldcInt hx hown171 (mvT hZ171 w_64) (g := (mkF m 120 #[.val (.int p1), .val (.int p2), .val (.int p3), .val (.int p4), .val (.int p5), .val (.int p6), .val (.int (3 : Int32)), .val (.int (if ((XT.ushr p5 (2 : Int32)) &&& (1 : Int32)) = (0 : Int32) then (0 : Int32) else (1 : Int32))), .val (.ref b164), .val (.int (2 : Int32)), .unset, .unset, .unset] [(.int p6)])) rfl (hb hby at_120)) ?_
      show Goes p e below KK T182 (mkF m 122 #[.val (.int p1), .val (.int p2), .val (.int p3), .val (.int p4), .val (.int p5), .val (.int p6), .val (.int (3 : Int32)), .val (.int (if ((XT.ushr p5 (2 : Int32)) &&& (1 : Int32)) = (0 : Int32) then (0 : Int32) else (1 : Int32))), .val (.ref b164), .val (.int (2 : Int32)), .unset, .unset, .unset] [(.int (2147483647 : Int32)), (.int p6)])
      refine Goes.of (fun t => XS.iand X182.here hx rfl (hb hby at_122) rfl) ?_
      show Goes p e below KK T182 (mkF m 123 #[.val (.int p1), .val (.int p2), .val (.int p3), .val (.int p4), .val (.int p5), .val (.int p6), .val (.int (3 : Int32)), .val (.int (if ((XT.ushr p5 (2 : Int32)) &&& (1 : Int32)) = (0 : Int32) then (0 : Int32) else (1 : Int32))), .val (.ref b164), .val (.int (2 : Int32)), .unset, .unset, .unset] [(.int (p6 &&& (2147483647 : Int32)))])
      refine Goes.of (fun t => XS.iload X182.here hx rfl (hb hby at_123) rfl) ?_
      show Goes p e below KK T182 (mkF m 125 #[.val (.int p1), .val (.int p2), .val (.int p3), .val (.int p4), .val (.int p5), .val (.int p6), .val (.int (3 : Int32)), .val (.int (if ((XT.ushr p5 (2 : Int32)) &&& (1 : Int32)) = (0 : Int32) then (0 : Int32) else (1 : Int32))), .val (.ref b164), .val (.int (2 : Int32)), .unset, .unset, .unset] [(.int (2 : Int32)), (.int (p6 &&& (2147483647 : Int32)))])
      refine Goes.of (fun t => iremM X182 hx rfl (hb hby at_125) rfl (by decide)) ?_
      show Goes p e below KK T182 (mkF m 126 #[.val (.int p1), .val (.int p2), .val (.int p3), .val (.int p4), .val (.int p5), .val (.int p6), .val (.int (3 : Int32)), .val (.int (if ((XT.ushr p5 (2 : Int32)) &&& (1 : Int32)) = (0 : Int32) then (0 : Int32) else (1 : Int32))), .val (.ref b164), .val (.int (2 : Int32)), .unset, .unset, .unset] [(.int ((p6 &&& (2147483647 : Int32)) % (2 : Int32)))])
      generalize e_ix : ((p6 &&& (2147483647 : Int32)) % (2 : Int32)) = ix
      show Goes p e below KK T182 (mkF m 126 #[.val (.int p1), .val (.int p2), .val (.int p3), .val (.int p4), .val (.int p5), .val (.int p6), .val (.int (3 : Int32)), .val (.int (if ((XT.ushr p5 (2 : Int32)) &&& (1 : Int32)) = (0 : Int32) then (0 : Int32) else (1 : Int32))), .val (.ref b164), .val (.int (2 : Int32)), .unset, .unset, .unset] [(.int ix)])
      have hi1_183 : (p6 &&& 2147483647).toInt = p6.toInt % 2 ^ 31 := Jvm.Kit.i32_mask p6 2147483647 (k := 31) (by decide) (by decide)
      have hi2_183 : ix.toInt = (p6 &&& 2147483647).toInt % 2 := by rw [← e_ix]; exact Jvm.Kit.i32_rem_nonneg (by omega)
      have hi3_183 : ix = 0 ∨ ix = 1 := by
        have a1 : ix.toInt = 0 ∨ ix.toInt = 1 := by omega
        exact a1.imp Int32.toInt_inj.mp Int32.toInt_inj.mp
      rcases hi3_183 with hi | hi
      · subst hi
        show Goes p e below KK T182 (mkF m 126 #[.val (.int p1), .val (.int p2), .val (.int p3), .val (.int p4), .val (.int p5), .val (.int p6), .val (.int (3 : Int32)), .val (.int (if ((XT.ushr p5 (2 : Int32)) &&& (1 : Int32)) = (0 : Int32) then (0 : Int32) else (1 : Int32))), .val (.ref b164), .val (.int (2 : Int32)), .unset, .unset, .unset] [(.int (0 : Int32))])
        refine Goes.of (fun t => XS.istore X182.here hx rfl (hb hby at_126) rfl (l' := #[.val (.int p1), .val (.int p2), .val (.int p3), .val (.int p4), .val (.int p5), .val (.int p6), .val (.int (3 : Int32)), .val (.int (if ((XT.ushr p5 (2 : Int32)) &&& (1 : Int32)) = (0 : Int32) then (0 : Int32) else (1 : Int32))), .val (.ref b164), .val (.int (2 : Int32)), .val (.int (0 : Int32)), .unset, .unset]) rfl) ?_
        show Goes p e below KK T182 (mkF m 128 #[.val (.int p1), .val (.int p2), .val (.int p3), .val (.int p4), .val (.int p5), .val (.int p6), .val (.int (3 : Int32)), .val (.int (if ((XT.ushr p5 (2 : Int32)) &&& (1 : Int32)) = (0 : Int32) then (0 : Int32) else (1 : Int32))), .val (.ref b164), .val (.int (2 : Int32)), .val (.int (0 : Int32)), .unset, .unset] [])
        refine Goes.of (fun t => XS.iload X182.here hx rfl (hb hby at_128) rfl) ?_
        show Goes p e below KK T182 (mkF m 130 #[.val (.int p1), .val (.int p2), .val (.int p3), .val (.int p4), .val (.int p5), .val (.int p6), .val (.int (3 : Int32)), .val (.int (if ((XT.ushr p5 (2 : Int32)) &&& (1 : Int32)) = (0 : Int32) then (0 : Int32) else (1 : Int32))), .val (.ref b164), .val (.int (2 : Int32)), .val (.int (0 : Int32)), .unset, .unset] [(.int (0 : Int32))])
        refine Goes.of (fun t => XS.ifNo X182.here hx rfl (hb hby at_130) rfl ((if0 _ _).trans (teq (show (0 : Int32) = (0 : Int32) from by decide)).2)) ?_
        show Goes p e below KK T182 (mkF m 133 #[.val (.int p1), .val (.int p2), .val (.int p3), .val (.int p4), .val (.int p5), .val (.int p6), .val (.int (3 : Int32)), .val (.int (if ((XT.ushr p5 (2 : Int32)) &&& (1 : Int32)) = (0 : Int32) then (0 : Int32) else (1 : Int32))), .val (.ref b164), .val (.int (2 : Int32)), .val (.int (0 : Int32)), .unset, .unset] [])
        refine Goes.of (fun t => XS.iloadN X182.here hx rfl (hb hby at_133) rfl) ?_
        show Goes p e below KK T182 (mkF m 134 #[.val (.int p1), .val (.int p2), .val (.int p3), .val (.int p4), .val (.int p5), .val (.int p6), .val (.int (3 : Int32)), .val (.int (if ((XT.ushr p5 (2 : Int32)) &&& (1 : Int32)) = (0 : Int32) then (0 : Int32) else (1 : Int32))), .val (.ref b164), .val (.int (2 : Int32)), .val (.int (0 : Int32)), .unset, .unset] [(.int p1)])
        refine Goes.of (fun t => XS.istore X182.here hx rfl (hb hby at_134) rfl (l' := #[.val (.int p1), .val (.int p2), .val (.int p3), .val (.int p4), .val (.int p5), .val (.int p6), .val (.int (3 : Int32)), .val (.int (if ((XT.ushr p5 (2 : Int32)) &&& (1 : Int32)) = (0 : Int32) then (0 : Int32) else (1 : Int32))), .val (.ref b164), .val (.int (2 : Int32)), .val (.int (0 : Int32)), .val (.int p1), .unset]) rfl) ?_
        show Goes p e below KK T182 (mkF m 136 #[.val (.int p1), .val (.int p2), .val (.int p3), .val (.int p4), .val (.int p5), .val (.int p6), .val (.int (3 : Int32)), .val (.int (if ((XT.ushr p5 (2 : Int32)) &&& (1 : Int32)) = (0 : Int32) then (0 : Int32) else (1 : Int32))), .val (.ref b164), .val (.int (2 : Int32)), .val (.int (0 : Int32)), .val (.int p1), .unset] [])
        refine Goes.of (fun t => XS.goto X182.here hx rfl (pc0 := 136) (pc' := 166) rfl (hb hby at_136) (by decide) (by decide)) ?_
        show Goes p e below KK T182 (mkF m 166 #[.val (.int p1), .val (.int p2), .val (.int p3), .val (.int p4), .val (.int p5), .val (.int p6), .val (.int (3 : Int32)), .val (.int (if ((XT.ushr p5 (2 : Int32)) &&& (1 : Int32)) = (0 : Int32) then (0 : Int32) else (1 : Int32))), .val (.ref b164), .val (.int (2 : Int32)), .val (.int (0 : Int32)), .val (.int p1), .unset] [])
        refine Goes.of (fun t => XS.aload X182.here hx rfl (hb hby at_166) rfl rfl) ?_
        show Goes p e below KK T182 (mkF m 168 #[.val (.int p1), .val (.int p2), .val (.int p3), .val (.int p4), .val (.int p5), .val (.int p6), .val (.int (3 : Int32)), .val (.int (if ((XT.ushr p5 (2 : Int32)) &&& (1 : Int32)) = (0 : Int32) then (0 : Int32) else (1 : Int32))), .val (.ref b164), .val (.int (2 : Int32)), .val (.int (0 : Int32)), .val (.int p1), .unset] [(.ref b164)])
        refine Goes.of (fun t => XS.iload X182.here hx rfl (hb hby at_168) rfl) ?_
        show Goes p e below KK T182 (mkF m 170 #[.val (.int p1), .val (.int p2), .val (.int p3), .val (.int p4), .val (.int p5), .val (.int p6), .val (.int (3 : Int32)), .val (.int (if ((XT.ushr p5 (2 : Int32)) &&& (1 : Int32)) = (0 : Int32) then (0 : Int32) else (1 : Int32))), .val (.ref b164), .val (.int (2 : Int32)), .val (.int (0 : Int32)), .val (.int p1), .unset] [(.int (0 : Int32)), (.ref b164)])
        obtain ⟨cq184, kq184, q184a, q184b, q184c⟩ := isOf hZ171 e182 E182
        obtain ⟨_, _, ⟨T184, L184, k184, n184⟩, -, X184, ⟨Lc184, hQ184, l184, y184, z184⟩, st184⟩ := X182.virtualBack hx (y := (⟨"corbel/structures/ArrayStack", "get", "(I)Ljava/lang/Object;"⟩ : MethodName)) (z := (⟨"corbel/structures/ArrayStack", "get", "(I)Ljava/lang/Object;"⟩ : MethodName)) hown171 (mvT hZ171 w_65) (mvT hZ171 w_66) (notFace_of_selects (args := #[]) (mvT hZ171 w_68)) (mvT hZ171 w_68) (mvT hZ171 w_67) (by decide) (backOf (W := 0) (rm10 l Z a0 hw [] b164 (0 : Int32) r171 [(.ref r166), (.ref r168), .null, .null] 0 r166 (2 : Int32) T182.heap n0 Z182 E182 Fe182 Fs182 A182 (by decide) (by decide) rfl rfl) hZ171 w_69 w_2 (by decide) (by decide)) q184a q184c (g := (mkF m 170 #[.val (.int p1), .val (.int p2), .val (.int p3), .val (.int p4), .val (.int p5), .val (.int p6), .val (.int (3 : Int32)), .val (.int (if ((XT.ushr p5 (2 : Int32)) &&& (1 : Int32)) = (0 : Int32) then (0 : Int32) else (1 : Int32))), .val (.ref b164), .val (.int (2 : Int32)), .val (.int (0 : Int32)), .val (.int p1), .unset] [(.int (0 : Int32)), (.ref b164)])) rfl (by rw [hml]; rfl) (Steps.refl _) (argsL := [(.int (0 : Int32))]) (rest := []) (lenOf pd_16 rfl) rfl (by show 2 * 0 + _ ≤ _; exact Nat.le_of_eq rfl) (hb hby at_170) (fun _ _ => ⟨rfl, e182, (by decide : 13 + 0 ≤ _), (by decide : 109 + 0 ≤ _)⟩)
        dsimp only [Pt.U, Pt.locs, Pt.cells, Pt.slots] at X184 l184 y184 z184 st184 hQ184
        subst l184 y184 z184
        obtain ⟨rfl, N184q, e184⟩ := hQ184
        have N184 := Fr.app N182 N184q
        refine Goes.tr st184 ?_
        show Goes p e below KK T184 (mkF m 173 #[.val (.int p1), .val (.int p2), .val (.int p3), .val (.int p4), .val (.int p5), .val (.int p6), .val (.int (3 : Int32)), .val (.int (if ((XT.ushr p5 (2 : Int32)) &&& (1 : Int32)) = (0 : Int32) then (0 : Int32) else (1 : Int32))), .val (.ref b164), .val (.int (2 : Int32)), .val (.int (0 : Int32)), .val (.int p1), .unset] [(.ref r166)])
        obtain ⟨T185, X185, e185, st185⟩ := castY X184 hx hZ171 hown171 w_81 e184 (Ins.self E166_167_168_169_170_171_182) (g := (mkF m 173 #[.val (.int p1), .val (.int p2), .val (.int p3), .val (.int p4), .val (.int p5), .val (.int p6), .val (.int (3 : Int32)), .val (.int (if ((XT.ushr p5 (2 : Int32)) &&& (1 : Int32)) = (0 : Int32) then (0 : Int32) else (1 : Int32))), .val (.ref b164), .val (.int (2 : Int32)), .val (.int (0 : Int32)), .val (.int p1), .unset] [(.ref r166)])) rfl rfl (hb hby at_173)
        refine Goes.of (st185) ?_
        show Goes p e below KK T185 (mkF m 176 #[.val (.int p1), .val (.int p2), .val (.int p3), .val (.int p4), .val (.int p5), .val (.int p6), .val (.int (3 : Int32)), .val (.int (if ((XT.ushr p5 (2 : Int32)) &&& (1 : Int32)) = (0 : Int32) then (0 : Int32) else (1 : Int32))), .val (.ref b164), .val (.int (2 : Int32)), .val (.int (0 : Int32)), .val (.int p1), .unset] [(.ref r166)])
        refine Goes.of (fun t => XS.astore X185.here hx rfl (hb hby at_176) rfl rfl (l' := #[.val (.int p1), .val (.int p2), .val (.int p3), .val (.int p4), .val (.int p5), .val (.int p6), .val (.int (3 : Int32)), .val (.int (if ((XT.ushr p5 (2 : Int32)) &&& (1 : Int32)) = (0 : Int32) then (0 : Int32) else (1 : Int32))), .val (.ref b164), .val (.int (2 : Int32)), .val (.int (0 : Int32)), .val (.int p1), .val (.ref r166)]) rfl) ?_
        show Goes p e below KK T185 (mkF m 178 #[.val (.int p1), .val (.int p2), .val (.int p3), .val (.int p4), .val (.int p5), .val (.int p6), .val (.int (3 : Int32)), .val (.int (if ((XT.ushr p5 (2 : Int32)) &&& (1 : Int32)) = (0 : Int32) then (0 : Int32) else (1 : Int32))), .val (.ref b164), .val (.int (2 : Int32)), .val (.int (0 : Int32)), .val (.int p1), .val (.ref r166)] [])
        refine Goes.of (fun t => XS.aload X185.here hx rfl (hb hby at_178) rfl rfl) ?_
        show Goes p e below KK T185 (mkF m 180 #[.val (.int p1), .val (.int p2), .val (.int p3), .val (.int p4), .val (.int p5), .val (.int p6), .val (.int (3 : Int32)), .val (.int (if ((XT.ushr p5 (2 : Int32)) &&& (1 : Int32)) = (0 : Int32) then (0 : Int32) else (1 : Int32))), .val (.ref b164), .val (.int (2 : Int32)), .val (.int (0 : Int32)), .val (.int p1), .val (.ref r166)] [(.ref r166)])
        refine Goes.of (fun t => XS.ifnullNo X185.here hx rfl (hb hby at_180) rfl) ?_
        show Goes p e below KK T185 (mkF m 183 #[.val (.int p1), .val (.int p2), .val (.int p3), .val (.int p4), .val (.int p5), .val (.int p6), .val (.int (3 : Int32)), .val (.int (if ((XT.ushr p5 (2 : Int32)) &&& (1 : Int32)) = (0 : Int32) then (0 : Int32) else (1 : Int32))), .val (.ref b164), .val (.int (2 : Int32)), .val (.int (0 : Int32)), .val (.int p1), .val (.ref r166)] [])
        refine Goes.of (fun t => XS.aload X185.here hx rfl (hb hby at_183) rfl rfl) ?_
        show Goes p e below KK T185 (mkF m 185 #[.val (.int p1), .val (.int p2), .val (.int p3), .val (.int p4), .val (.int p5), .val (.int p6), .val (.int (3 : Int32)), .val (.int (if ((XT.ushr p5 (2 : Int32)) &&& (1 : Int32)) = (0 : Int32) then (0 : Int32) else (1 : Int32))), .val (.ref b164), .val (.int (2 : Int32)), .val (.int (0 : Int32)), .val (.int p1), .val (.ref r166)] [(.ref r166)])
        obtain ⟨cq186, kq186, q186a, q186b, q186c⟩ := isOf hZ171 e185 E166_167_168_169_170_171_182
        obtain ⟨_, _, ⟨T186, L186, k186, n186⟩, -, X186, ⟨Lc186, hQ186, l186, y186, z186⟩, st186⟩ := X185.virtualBack hx (y := (⟨"java/lang/Integer", "intValue", "()I"⟩ : MethodName)) (z := (⟨"java/lang/Integer", "intValue", "()I"⟩ : MethodName)) hown171 (mvT hZ171 w_83) (mvT hZ171 w_84) (notFace_of_selects (args := #[]) (mvT hZ171 w_86)) (mvT hZ171 w_86) (mvT hZ171 w_85) (by decide) (backOf (W := 0) (rm14 l Z a0 hw [] r166 p1 T182.heap n0 Z182 F166_167_168_169_170_171_182) hZ171 w_87 w_33 (by decide) (by decide)) q186a q186c (g := (mkF m 185 #[.val (.int p1), .val (.int p2), .val (.int p3), .val (.int p4), .val (.int p5), .val (.int p6), .val (.int (3 : Int32)), .val (.int (if ((XT.ushr p5 (2 : Int32)) &&& (1 : Int32)) = (0 : Int32) then (0 : Int32) else (1 : Int32))), .val (.ref b164), .val (.int (2 : Int32)), .val (.int (0 : Int32)), .val (.int p1), .val (.ref r166)] [(.ref r166)])) rfl (by rw [hml]; rfl) (Steps.refl _) (argsL := []) (rest := []) (lenOf pd_50 rfl) rfl (by show 2 * 0 + _ ≤ _; exact Nat.le_of_eq rfl) (hb hby at_185) (fun _ _ => ⟨rfl, e185, (by decide : 13 + 0 ≤ _), (by decide : 109 + 0 ≤ _)⟩)
        dsimp only [Pt.U, Pt.locs, Pt.cells, Pt.slots] at X186 l186 y186 z186 st186 hQ186
        subst l186 y186 z186
        obtain ⟨rfl, N186q, e186⟩ := hQ186
        have N186 := Fr.app N184 N186q
        refine Goes.tr st186 ?_
        show Goes p e below KK T186 (mkF m 188 #[.val (.int p1), .val (.int p2), .val (.int p3), .val (.int p4), .val (.int p5), .val (.int p6), .val (.int (3 : Int32)), .val (.int (if ((XT.ushr p5 (2 : Int32)) &&& (1 : Int32)) = (0 : Int32) then (0 : Int32) else (1 : Int32))), .val (.ref b164), .val (.int (2 : Int32)), .val (.int (0 : Int32)), .val (.int p1), .val (.ref r166)] [(.int p1)])
        refine Goes.of (fun t => XS.iload X186.here hx rfl (hb hby at_188) rfl) ?_
        show Goes p e below KK T186 (mkF m 190 #[.val (.int p1), .val (.int p2), .val (.int p3), .val (.int p4), .val (.int p5), .val (.int p6), .val (.int (3 : Int32)), .val (.int (if ((XT.ushr p5 (2 : Int32)) &&& (1 : Int32)) = (0 : Int32) then (0 : Int32) else (1 : Int32))), .val (.ref b164), .val (.int (2 : Int32)), .val (.int (0 : Int32)), .val (.int p1), .val (.ref r166)] [(.int p1), (.int p1)])
        refine Goes.of (fun t => XS.icmpNo X186.here hx rfl (hb hby at_190) rfl (teq (show p1 = p1 from rfl)).2) ?_
        show Goes p e below KK T186 (mkF m 193 #[.val (.int p1), .val (.int p2), .val (.int p3), .val (.int p4), .val (.int p5), .val (.int p6), .val (.int (3 : Int32)), .val (.int (if ((XT.ushr p5 (2 : Int32)) &&& (1 : Int32)) = (0 : Int32) then (0 : Int32) else (1 : Int32))), .val (.ref b164), .val (.int (2 : Int32)), .val (.int (0 : Int32)), .val (.int p1), .val (.ref r166)] [])
        refine Goes.of (fun t => XS.iconst X186.here hx rfl (hb hby at_193)) ?_
        show Goes p e below KK T186 (mkF m 194 #[.val (.int p1), .val (.int p2), .val (.int p3), .val (.int p4), .val (.int p5), .val (.int p6), .val (.int (3 : Int32)), .val (.int (if ((XT.ushr p5 (2 : Int32)) &&& (1 : Int32)) = (0 : Int32) then (0 : Int32) else (1 : Int32))), .val (.ref b164), .val (.int (2 : Int32)), .val (.int (0 : Int32)), .val (.int p1), .val (.ref r166)] [(.int (1 : Int32))])
        refine Goes.of (fun t => XS.goto X186.here hx rfl (pc0 := 194) (pc' := 198) rfl (hb hby at_194) (by decide) (by decide)) ?_
        show Goes p e below KK T186 (mkF m 198 #[.val (.int p1), .val (.int p2), .val (.int p3), .val (.int p4), .val (.int p5), .val (.int p6), .val (.int (3 : Int32)), .val (.int (if ((XT.ushr p5 (2 : Int32)) &&& (1 : Int32)) = (0 : Int32) then (0 : Int32) else (1 : Int32))), .val (.ref b164), .val (.int (2 : Int32)), .val (.int (0 : Int32)), .val (.int p1), .val (.ref r166)] [(.int (1 : Int32))])
        rw [← hKK]
        refine Goes.retNarW X186 HS171 (by rw [e186]; exact HK182) hx hlk (t := .boolean) (by simp) Bd.returns (hb hby at_198) ?_ (by decide) (by decide)
        rw [e186]
        exact ⟨rfl, N186⟩
      · subst hi
        show Goes p e below KK T182 (mkF m 126 #[.val (.int p1), .val (.int p2), .val (.int p3), .val (.int p4), .val (.int p5), .val (.int p6), .val (.int (3 : Int32)), .val (.int (if ((XT.ushr p5 (2 : Int32)) &&& (1 : Int32)) = (0 : Int32) then (0 : Int32) else (1 : Int32))), .val (.ref b164), .val (.int (2 : Int32)), .unset, .unset, .unset] [(.int (1 : Int32))])
        refine Goes.of (fun t => XS.istore X182.here hx rfl (hb hby at_126) rfl (l' := #[.val (.int p1), .val (.int p2), .val (.int p3), .val (.int p4), .val (.int p5), .val (.int p6), .val (.int (3 : Int32)), .val (.int (if ((XT.ushr p5 (2 : Int32)) &&& (1 : Int32)) = (0 : Int32) then (0 : Int32) else (1 : Int32))), .val (.ref b164), .val (.int (2 : Int32)), .val (.int (1 : Int32)), .unset, .unset]) rfl) ?_
        show Goes p e below KK T182 (mkF m 128 #[.val (.int p1), .val (.int p2), .val (.int p3), .val (.int p4), .val (.int p5), .val (.int p6), .val (.int (3 : Int32)), .val (.int (if ((XT.ushr p5 (2 : Int32)) &&& (1 : Int32)) = (0 : Int32) then (0 : Int32) else (1 : Int32))), .val (.ref b164), .val (.int (2 : Int32)), .val (.int (1 : Int32)), .unset, .unset] [])
        refine Goes.of (fun t => XS.iload X182.here hx rfl (hb hby at_128) rfl) ?_
        show Goes p e below KK T182 (mkF m 130 #[.val (.int p1), .val (.int p2), .val (.int p3), .val (.int p4), .val (.int p5), .val (.int p6), .val (.int (3 : Int32)), .val (.int (if ((XT.ushr p5 (2 : Int32)) &&& (1 : Int32)) = (0 : Int32) then (0 : Int32) else (1 : Int32))), .val (.ref b164), .val (.int (2 : Int32)), .val (.int (1 : Int32)), .unset, .unset] [(.int (1 : Int32))])
        refine Goes.of (fun t => XS.ifYes X182.here hx rfl (pc0 := 130) (pc' := 139) rfl (hb hby at_130) rfl ((if0 _ _).trans (feq (show ¬ ((1 : Int32) = (0 : Int32)) from by decide)).2) (by decide) (by decide)) ?_
        show Goes p e below KK T182 (mkF m 139 #[.val (.int p1), .val (.int p2), .val (.int p3), .val (.int p4), .val (.int p5), .val (.int p6), .val (.int (3 : Int32)), .val (.int (if ((XT.ushr p5 (2 : Int32)) &&& (1 : Int32)) = (0 : Int32) then (0 : Int32) else (1 : Int32))), .val (.ref b164), .val (.int (2 : Int32)), .val (.int (1 : Int32)), .unset, .unset] [])
        refine Goes.of (fun t => XS.iload X182.here hx rfl (hb hby at_139) rfl) ?_
        show Goes p e below KK T182 (mkF m 141 #[.val (.int p1), .val (.int p2), .val (.int p3), .val (.int p4), .val (.int p5), .val (.int p6), .val (.int (3 : Int32)), .val (.int (if ((XT.ushr p5 (2 : Int32)) &&& (1 : Int32)) = (0 : Int32) then (0 : Int32) else (1 : Int32))), .val (.ref b164), .val (.int (2 : Int32)), .val (.int (1 : Int32)), .unset, .unset] [(.int (1 : Int32))])
        refine Goes.of (fun t => XS.iconst X182.here hx rfl (hb hby at_141)) ?_
        show Goes p e below KK T182 (mkF m 142 #[.val (.int p1), .val (.int p2), .val (.int p3), .val (.int p4), .val (.int p5), .val (.int p6), .val (.int (3 : Int32)), .val (.int (if ((XT.ushr p5 (2 : Int32)) &&& (1 : Int32)) = (0 : Int32) then (0 : Int32) else (1 : Int32))), .val (.ref b164), .val (.int (2 : Int32)), .val (.int (1 : Int32)), .unset, .unset] [(.int (1 : Int32)), (.int (1 : Int32))])
        refine Goes.of (fun t => XS.icmpNo X182.here hx rfl (hb hby at_142) rfl (teq (show (1 : Int32) = (1 : Int32) from by decide)).2) ?_
        show Goes p e below KK T182 (mkF m 145 #[.val (.int p1), .val (.int p2), .val (.int p3), .val (.int p4), .val (.int p5), .val (.int p6), .val (.int (3 : Int32)), .val (.int (if ((XT.ushr p5 (2 : Int32)) &&& (1 : Int32)) = (0 : Int32) then (0 : Int32) else (1 : Int32))), .val (.ref b164), .val (.int (2 : Int32)), .val (.int (1 : Int32)), .unset, .unset] [])
        refine Goes.of (fun t => XS.iloadN X182.here hx rfl (hb hby at_145) rfl) ?_
        show Goes p e below KK T182 (mkF m 146 #[.val (.int p1), .val (.int p2), .val (.int p3), .val (.int p4), .val (.int p5), .val (.int p6), .val (.int (3 : Int32)), .val (.int (if ((XT.ushr p5 (2 : Int32)) &&& (1 : Int32)) = (0 : Int32) then (0 : Int32) else (1 : Int32))), .val (.ref b164), .val (.int (2 : Int32)), .val (.int (1 : Int32)), .unset, .unset] [(.int p2)])
        refine Goes.of (fun t => XS.istore X182.here hx rfl (hb hby at_146) rfl (l' := #[.val (.int p1), .val (.int p2), .val (.int p3), .val (.int p4), .val (.int p5), .val (.int p6), .val (.int (3 : Int32)), .val (.int (if ((XT.ushr p5 (2 : Int32)) &&& (1 : Int32)) = (0 : Int32) then (0 : Int32) else (1 : Int32))), .val (.ref b164), .val (.int (2 : Int32)), .val (.int (1 : Int32)), .val (.int p2), .unset]) rfl) ?_
        show Goes p e below KK T182 (mkF m 148 #[.val (.int p1), .val (.int p2), .val (.int p3), .val (.int p4), .val (.int p5), .val (.int p6), .val (.int (3 : Int32)), .val (.int (if ((XT.ushr p5 (2 : Int32)) &&& (1 : Int32)) = (0 : Int32) then (0 : Int32) else (1 : Int32))), .val (.ref b164), .val (.int (2 : Int32)), .val (.int (1 : Int32)), .val (.int p2), .unset] [])
        refine Goes.of (fun t => XS.goto X182.here hx rfl (pc0 := 148) (pc' := 166) rfl (hb hby at_148) (by decide) (by decide)) ?_
        show Goes p e below KK T182 (mkF m 166 #[.val (.int p1), .val (.int p2), .val (.int p3), .val (.int p4), .val (.int p5), .val (.int p6), .val (.int (3 : Int32)), .val (.int (if ((XT.ushr p5 (2 : Int32)) &&& (1 : Int32)) = (0 : Int32) then (0 : Int32) else (1 : Int32))), .val (.ref b164), .val (.int (2 : Int32)), .val (.int (1 : Int32)), .val (.int p2), .unset] [])
        refine Goes.of (fun t => XS.aload X182.here hx rfl (hb hby at_166) rfl rfl) ?_
        show Goes p e below KK T182 (mkF m 168 #[.val (.int p1), .val (.int p2), .val (.int p3), .val (.int p4), .val (.int p5), .val (.int p6), .val (.int (3 : Int32)), .val (.int (if ((XT.ushr p5 (2 : Int32)) &&& (1 : Int32)) = (0 : Int32) then (0 : Int32) else (1 : Int32))), .val (.ref b164), .val (.int (2 : Int32)), .val (.int (1 : Int32)), .val (.int p2), .unset] [(.ref b164)])
        refine Goes.of (fun t => XS.iload X182.here hx rfl (hb hby at_168) rfl) ?_
        show Goes p e below KK T182 (mkF m 170 #[.val (.int p1), .val (.int p2), .val (.int p3), .val (.int p4), .val (.int p5), .val (.int p6), .val (.int (3 : Int32)), .val (.int (if ((XT.ushr p5 (2 : Int32)) &&& (1 : Int32)) = (0 : Int32) then (0 : Int32) else (1 : Int32))), .val (.ref b164), .val (.int (2 : Int32)), .val (.int (1 : Int32)), .val (.int p2), .unset] [(.int (1 : Int32)), (.ref b164)])
        obtain ⟨cq187, kq187, q187a, q187b, q187c⟩ := isOf hZ171 e182 E182
        obtain ⟨_, _, ⟨T187, L187, k187, n187⟩, -, X187, ⟨Lc187, hQ187, l187, y187, z187⟩, st187⟩ := X182.virtualBack hx (y := (⟨"corbel/structures/ArrayStack", "get", "(I)Ljava/lang/Object;"⟩ : MethodName)) (z := (⟨"corbel/structures/ArrayStack", "get", "(I)Ljava/lang/Object;"⟩ : MethodName)) hown171 (mvT hZ171 w_65) (mvT hZ171 w_66) (notFace_of_selects (args := #[]) (mvT hZ171 w_68)) (mvT hZ171 w_68) (mvT hZ171 w_67) (by decide) (backOf (W := 0) (rm10 l Z a0 hw [] b164 (1 : Int32) r171 [(.ref r166), (.ref r168), .null, .null] 1 r168 (2 : Int32) T182.heap n0 Z182 E182 Fe182 Fs182 A182 (by decide) (by decide) rfl rfl) hZ171 w_69 w_2 (by decide) (by decide)) q187a q187c (g := (mkF m 170 #[.val (.int p1), .val (.int p2), .val (.int p3), .val (.int p4), .val (.int p5), .val (.int p6), .val (.int (3 : Int32)), .val (.int (if ((XT.ushr p5 (2 : Int32)) &&& (1 : Int32)) = (0 : Int32) then (0 : Int32) else (1 : Int32))), .val (.ref b164), .val (.int (2 : Int32)), .val (.int (1 : Int32)), .val (.int p2), .unset] [(.int (1 : Int32)), (.ref b164)])) rfl (by rw [hml]; rfl) (Steps.refl _) (argsL := [(.int (1 : Int32))]) (rest := []) (lenOf pd_16 rfl) rfl (by show 2 * 0 + _ ≤ _; exact Nat.le_of_eq rfl) (hb hby at_170) (fun _ _ => ⟨rfl, e182, (by decide : 13 + 0 ≤ _), (by decide : 109 + 0 ≤ _)⟩)
        dsimp only [Pt.U, Pt.locs, Pt.cells, Pt.slots] at X187 l187 y187 z187 st187 hQ187
        subst l187 y187 z187
        obtain ⟨rfl, N187q, e187⟩ := hQ187
        have N187 := Fr.app N182 N187q
        refine Goes.tr st187 ?_
        show Goes p e below KK T187 (mkF m 173 #[.val (.int p1), .val (.int p2), .val (.int p3), .val (.int p4), .val (.int p5), .val (.int p6), .val (.int (3 : Int32)), .val (.int (if ((XT.ushr p5 (2 : Int32)) &&& (1 : Int32)) = (0 : Int32) then (0 : Int32) else (1 : Int32))), .val (.ref b164), .val (.int (2 : Int32)), .val (.int (1 : Int32)), .val (.int p2), .unset] [(.ref r168)])
        obtain ⟨T188, X188, e188, st188⟩ := castY X187 hx hZ171 hown171 w_81 e187 (Ins.self E168_169_170_171_182) (g := (mkF m 173 #[.val (.int p1), .val (.int p2), .val (.int p3), .val (.int p4), .val (.int p5), .val (.int p6), .val (.int (3 : Int32)), .val (.int (if ((XT.ushr p5 (2 : Int32)) &&& (1 : Int32)) = (0 : Int32) then (0 : Int32) else (1 : Int32))), .val (.ref b164), .val (.int (2 : Int32)), .val (.int (1 : Int32)), .val (.int p2), .unset] [(.ref r168)])) rfl rfl (hb hby at_173)
        refine Goes.of (st188) ?_
        show Goes p e below KK T188 (mkF m 176 #[.val (.int p1), .val (.int p2), .val (.int p3), .val (.int p4), .val (.int p5), .val (.int p6), .val (.int (3 : Int32)), .val (.int (if ((XT.ushr p5 (2 : Int32)) &&& (1 : Int32)) = (0 : Int32) then (0 : Int32) else (1 : Int32))), .val (.ref b164), .val (.int (2 : Int32)), .val (.int (1 : Int32)), .val (.int p2), .unset] [(.ref r168)])
        refine Goes.of (fun t => XS.astore X188.here hx rfl (hb hby at_176) rfl rfl (l' := #[.val (.int p1), .val (.int p2), .val (.int p3), .val (.int p4), .val (.int p5), .val (.int p6), .val (.int (3 : Int32)), .val (.int (if ((XT.ushr p5 (2 : Int32)) &&& (1 : Int32)) = (0 : Int32) then (0 : Int32) else (1 : Int32))), .val (.ref b164), .val (.int (2 : Int32)), .val (.int (1 : Int32)), .val (.int p2), .val (.ref r168)]) rfl) ?_
        show Goes p e below KK T188 (mkF m 178 #[.val (.int p1), .val (.int p2), .val (.int p3), .val (.int p4), .val (.int p5), .val (.int p6), .val (.int (3 : Int32)), .val (.int (if ((XT.ushr p5 (2 : Int32)) &&& (1 : Int32)) = (0 : Int32) then (0 : Int32) else (1 : Int32))), .val (.ref b164), .val (.int (2 : Int32)), .val (.int (1 : Int32)), .val (.int p2), .val (.ref r168)] [])
        refine Goes.of (fun t => XS.aload X188.here hx rfl (hb hby at_178) rfl rfl) ?_
        show Goes p e below KK T188 (mkF m 180 #[.val (.int p1), .val (.int p2), .val (.int p3), .val (.int p4), .val (.int p5), .val (.int p6), .val (.int (3 : Int32)), .val (.int (if ((XT.ushr p5 (2 : Int32)) &&& (1 : Int32)) = (0 : Int32) then (0 : Int32) else (1 : Int32))), .val (.ref b164), .val (.int (2 : Int32)), .val (.int (1 : Int32)), .val (.int p2), .val (.ref r168)] [(.ref r168)])
        refine Goes.of (fun t => XS.ifnullNo X188.here hx rfl (hb hby at_180) rfl) ?_
        show Goes p e below KK T188 (mkF m 183 #[.val (.int p1), .val (.int p2), .val (.int p3), .val (.int p4), .val (.int p5), .val (.int p6), .val (.int (3 : Int32)), .val (.int (if ((XT.ushr p5 (2 : Int32)) &&& (1 : Int32)) = (0 : Int32) then (0 : Int32) else (1 : Int32))), .val (.ref b164), .val (.int (2 : Int32)), .val (.int (1 : Int32)), .val (.int p2), .val (.ref r168)] [])
        refine Goes.of (fun t => XS.aload X188.here hx rfl (hb hby at_183) rfl rfl) ?_
        show Goes p e below KK T188 (mkF m 185 #[.val (.int p1), .val (.int p2), .val (.int p3), .val (.int p4), .val (.int p5), .val (.int p6), .val (.int (3 : Int32)), .val (.int (if ((XT.ushr p5 (2 : Int32)) &&& (1 : Int32)) = (0 : Int32) then (0 : Int32) else (1 : Int32))), .val (.ref b164), .val (.int (2 : Int32)), .val (.int (1 : Int32)), .val (.int p2), .val (.ref r168)] [(.ref r168)])
        obtain ⟨cq189, kq189, q189a, q189b, q189c⟩ := isOf hZ171 e188 E168_169_170_171_182
        obtain ⟨_, _, ⟨T189, L189, k189, n189⟩, -, X189, ⟨Lc189, hQ189, l189, y189, z189⟩, st189⟩ := X188.virtualBack hx (y := (⟨"java/lang/Integer", "intValue", "()I"⟩ : MethodName)) (z := (⟨"java/lang/Integer", "intValue", "()I"⟩ : MethodName)) hown171 (mvT hZ171 w_83) (mvT hZ171 w_84) (notFace_of_selects (args := #[]) (mvT hZ171 w_86)) (mvT hZ171 w_86) (mvT hZ171 w_85) (by decide) (backOf (W := 0) (rm14 l Z a0 hw [] r168 p2 T182.heap n0 Z182 F168_169_170_171_182) hZ171 w_87 w_33 (by decide) (by decide)) q189a q189c (g := (mkF m 185 #[.val (.int p1), .val (.int p2), .val (.int p3), .val (.int p4), .val (.int p5), .val (.int p6), .val (.int (3 : Int32)), .val (.int (if ((XT.ushr p5 (2 : Int32)) &&& (1 : Int32)) = (0 : Int32) then (0 : Int32) else (1 : Int32))), .val (.ref b164), .val (.int (2 : Int32)), .val (.int (1 : Int32)), .val (.int p2), .val (.ref r168)] [(.ref r168)])) rfl (by rw [hml]; rfl) (Steps.refl _) (argsL := []) (rest := []) (lenOf pd_50 rfl) rfl (by show 2 * 0 + _ ≤ _; exact Nat.le_of_eq rfl) (hb hby at_185) (fun _ _ => ⟨rfl, e188, (by decide : 13 + 0 ≤ _), (by decide : 109 + 0 ≤ _)⟩)
        dsimp only [Pt.U, Pt.locs, Pt.cells, Pt.slots] at X189 l189 y189 z189 st189 hQ189
        subst l189 y189 z189
        obtain ⟨rfl, N189q, e189⟩ := hQ189
        have N189 := Fr.app N187 N189q
        refine Goes.tr st189 ?_
        show Goes p e below KK T189 (mkF m 188 #[.val (.int p1), .val (.int p2), .val (.int p3), .val (.int p4), .val (.int p5), .val (.int p6), .val (.int (3 : Int32)), .val (.int (if ((XT.ushr p5 (2 : Int32)) &&& (1 : Int32)) = (0 : Int32) then (0 : Int32) else (1 : Int32))), .val (.ref b164), .val (.int (2 : Int32)), .val (.int (1 : Int32)), .val (.int p2), .val (.ref r168)] [(.int p2)])
        refine Goes.of (fun t => XS.iload X189.here hx rfl (hb hby at_188) rfl) ?_
        show Goes p e below KK T189 (mkF m 190 #[.val (.int p1), .val (.int p2), .val (.int p3), .val (.int p4), .val (.int p5), .val (.int p6), .val (.int (3 : Int32)), .val (.int (if ((XT.ushr p5 (2 : Int32)) &&& (1 : Int32)) = (0 : Int32) then (0 : Int32) else (1 : Int32))), .val (.ref b164), .val (.int (2 : Int32)), .val (.int (1 : Int32)), .val (.int p2), .val (.ref r168)] [(.int p2), (.int p2)])
        refine Goes.of (fun t => XS.icmpNo X189.here hx rfl (hb hby at_190) rfl (teq (show p2 = p2 from rfl)).2) ?_
        show Goes p e below KK T189 (mkF m 193 #[.val (.int p1), .val (.int p2), .val (.int p3), .val (.int p4), .val (.int p5), .val (.int p6), .val (.int (3 : Int32)), .val (.int (if ((XT.ushr p5 (2 : Int32)) &&& (1 : Int32)) = (0 : Int32) then (0 : Int32) else (1 : Int32))), .val (.ref b164), .val (.int (2 : Int32)), .val (.int (1 : Int32)), .val (.int p2), .val (.ref r168)] [])
        refine Goes.of (fun t => XS.iconst X189.here hx rfl (hb hby at_193)) ?_
        show Goes p e below KK T189 (mkF m 194 #[.val (.int p1), .val (.int p2), .val (.int p3), .val (.int p4), .val (.int p5), .val (.int p6), .val (.int (3 : Int32)), .val (.int (if ((XT.ushr p5 (2 : Int32)) &&& (1 : Int32)) = (0 : Int32) then (0 : Int32) else (1 : Int32))), .val (.ref b164), .val (.int (2 : Int32)), .val (.int (1 : Int32)), .val (.int p2), .val (.ref r168)] [(.int (1 : Int32))])
        refine Goes.of (fun t => XS.goto X189.here hx rfl (pc0 := 194) (pc' := 198) rfl (hb hby at_194) (by decide) (by decide)) ?_
        show Goes p e below KK T189 (mkF m 198 #[.val (.int p1), .val (.int p2), .val (.int p3), .val (.int p4), .val (.int p5), .val (.int p6), .val (.int (3 : Int32)), .val (.int (if ((XT.ushr p5 (2 : Int32)) &&& (1 : Int32)) = (0 : Int32) then (0 : Int32) else (1 : Int32))), .val (.ref b164), .val (.int (2 : Int32)), .val (.int (1 : Int32)), .val (.int p2), .val (.ref r168)] [(.int (1 : Int32))])
        rw [← hKK]
        refine Goes.retNarW X189 HS171 (by rw [e189]; exact HK182) hx hlk (t := .boolean) (by simp) Bd.returns (hb hby at_198) ?_ (by decide) (by decide)
        rw [e189]
        exact ⟨rfl, N189⟩
  · subst hk
    show Goes p e below KK s₁ (mkF m 6 #[.val (.int p1), .val (.int p2), .val (.int p3), .val (.int p4), .val (.int p5), .val (.int p6), .unset, .unset, .unset, .unset, .unset, .unset, .unset] [(.int (4 : Int32))])
    refine Goes.of (fun t => XS.istore X0w.here hx rfl (hb hby at_6) rfl (l' := #[.val (.int p1), .val (.int p2), .val (.int p3), .val (.int p4), .val (.int p5), .val (.int p6), .val (.int (4 : Int32)), .unset, .unset, .unset, .unset, .unset, .unset]) rfl) ?_
    show Goes p e below KK s₁ (mkF m 8 #[.val (.int p1), .val (.int p2), .val (.int p3), .val (.int p4), .val (.int p5), .val (.int p6), .val (.int (4 : Int32)), .unset, .unset, .unset, .unset, .unset, .unset] [])
    refine Goes.of (fun t => XS.iload X0w.here hx rfl (hb hby at_8) rfl) ?_
    show Goes p e below KK s₁ (mkF m 10 #[.val (.int p1), .val (.int p2), .val (.int p3), .val (.int p4), .val (.int p5), .val (.int p6), .val (.int (4 : Int32)), .unset, .unset, .unset, .unset, .unset, .unset] [(.int p5)])
    refine Goes.of (fun t => XS.iconst X0w.here hx rfl (hb hby at_10)) ?_
    show Goes p e below KK s₁ (mkF m 11 #[.val (.int p1), .val (.int p2), .val (.int p3), .val (.int p4), .val (.int p5), .val (.int p6), .val (.int (4 : Int32)), .unset, .unset, .unset, .unset, .unset, .unset] [(.int (2 : Int32)), (.int p5)])
    refine Goes.of (fun t => XT.iushr X0w.here hx rfl (hb hby at_11) rfl) ?_
    show Goes p e below KK s₁ (mkF m 12 #[.val (.int p1), .val (.int p2), .val (.int p3), .val (.int p4), .val (.int p5), .val (.int p6), .val (.int (4 : Int32)), .unset, .unset, .unset, .unset, .unset, .unset] [(.int (XT.ushr p5 (2 : Int32)))])
    refine Goes.of (fun t => XS.iconst X0w.here hx rfl (hb hby at_12)) ?_
    show Goes p e below KK s₁ (mkF m 13 #[.val (.int p1), .val (.int p2), .val (.int p3), .val (.int p4), .val (.int p5), .val (.int p6), .val (.int (4 : Int32)), .unset, .unset, .unset, .unset, .unset, .unset] [(.int (1 : Int32)), (.int (XT.ushr p5 (2 : Int32)))])
    refine Goes.of (fun t => XS.iand X0w.here hx rfl (hb hby at_13) rfl) ?_
    show Goes p e below KK s₁ (mkF m 14 #[.val (.int p1), .val (.int p2), .val (.int p3), .val (.int p4), .val (.int p5), .val (.int p6), .val (.int (4 : Int32)), .unset, .unset, .unset, .unset, .unset, .unset] [(.int ((XT.ushr p5 (2 : Int32)) &&& (1 : Int32)))])
    have j190 : ∀ t, Steps p.tables e below (s₁.setTop (mkF m 28 #[.val (.int p1), .val (.int p2), .val (.int p3), .val (.int p4), .val (.int p5), .val (.int p6), .val (.int (4 : Int32)), .unset, .unset, .unset, .unset, .unset, .unset] [(.int (if ((XT.ushr p5 (2 : Int32)) &&& (1 : Int32)) = (0 : Int32) then (0 : Int32) else (1 : Int32)))])) t → Steps p.tables e below (s₁.setTop (mkF m 14 #[.val (.int p1), .val (.int p2), .val (.int p3), .val (.int p4), .val (.int p5), .val (.int p6), .val (.int (4 : Int32)), .unset, .unset, .unset, .unset, .unset, .unset] [(.int ((XT.ushr p5 (2 : Int32)) &&& (1 : Int32)))])) t := by
      intro t k
      by_cases hc14_4 : ((XT.ushr p5 (2 : Int32)) &&& (1 : Int32)) = (0 : Int32)
      · refine XS.ifYes X0w.here hx rfl (pc0 := 14) (pc' := 27) rfl (hb hby at_14) rfl ((if0 _ _).trans (teq hc14_4).1) (by decide) (by decide) ?_
        show Steps p.tables e below (s₁.setTop (mkF m 27 #[.val (.int p1), .val (.int p2), .val (.int p3), .val (.int p4), .val (.int p5), .val (.int p6), .val (.int (4 : Int32)), .unset, .unset, .unset, .unset, .unset, .unset] [])) _
        refine XS.iconst X0w.here hx rfl (hb hby at_27) ?_
        show Steps p.tables e below (s₁.setTop (mkF m 28 #[.val (.int p1), .val (.int p2), .val (.int p3), .val (.int p4), .val (.int p5), .val (.int p6), .val (.int (4 : Int32)), .unset, .unset, .unset, .unset, .unset, .unset] [(.int (0 : Int32))])) _
        try rw [if_pos hc14_4] at k
        exact k
      · refine XS.ifNo X0w.here hx rfl (hb hby at_14) rfl ((if0 _ _).trans (feq hc14_4).1) ?_
        show Steps p.tables e below (s₁.setTop (mkF m 17 #[.val (.int p1), .val (.int p2), .val (.int p3), .val (.int p4), .val (.int p5), .val (.int p6), .val (.int (4 : Int32)), .unset, .unset, .unset, .unset, .unset, .unset] [])) _
        refine XS.iload X0w.here hx rfl (hb hby at_17) rfl ?_
        show Steps p.tables e below (s₁.setTop (mkF m 19 #[.val (.int p1), .val (.int p2), .val (.int p3), .val (.int p4), .val (.int p5), .val (.int p6), .val (.int (4 : Int32)), .unset, .unset, .unset, .unset, .unset, .unset] [(.int (4 : Int32))])) _
        refine XS.iconst X0w.here hx rfl (hb hby at_19) ?_
        show Steps p.tables e below (s₁.setTop (mkF m 20 #[.val (.int p1), .val (.int p2), .val (.int p3), .val (.int p4), .val (.int p5), .val (.int p6), .val (.int (4 : Int32)), .unset, .unset, .unset, .unset, .unset, .unset] [(.int (2 : Int32)), (.int (4 : Int32))])) _
        refine XS.icmpNo X0w.here hx rfl (hb hby at_20) rfl (flt (show ¬ ((4 : Int32) < (2 : Int32)) from by decide)).1 ?_
        show Steps p.tables e below (s₁.setTop (mkF m 23 #[.val (.int p1), .val (.int p2), .val (.int p3), .val (.int p4), .val (.int p5), .val (.int p6), .val (.int (4 : Int32)), .unset, .unset, .unset, .unset, .unset, .unset] [])) _
        refine XS.iconst X0w.here hx rfl (hb hby at_23) ?_
        show Steps p.tables e below (s₁.setTop (mkF m 24 #[.val (.int p1), .val (.int p2), .val (.int p3), .val (.int p4), .val (.int p5), .val (.int p6), .val (.int (4 : Int32)), .unset, .unset, .unset, .unset, .unset, .unset] [(.int (1 : Int32))])) _
        refine XS.goto X0w.here hx rfl (pc0 := 24) (pc' := 28) rfl (hb hby at_24) (by decide) (by decide) ?_
        show Steps p.tables e below (s₁.setTop (mkF m 28 #[.val (.int p1), .val (.int p2), .val (.int p3), .val (.int p4), .val (.int p5), .val (.int p6), .val (.int (4 : Int32)), .unset, .unset, .unset, .unset, .unset, .unset] [(.int (1 : Int32))])) _
        try rw [if_neg hc14_4] at k
        exact k
    refine Goes.of j190 ?_
    show Goes p e below KK s₁ (mkF m 28 #[.val (.int p1), .val (.int p2), .val (.int p3), .val (.int p4), .val (.int p5), .val (.int p6), .val (.int (4 : Int32)), .unset, .unset, .unset, .unset, .unset, .unset] [(.int (if ((XT.ushr p5 (2 : Int32)) &&& (1 : Int32)) = (0 : Int32) then (0 : Int32) else (1 : Int32)))])
    refine Goes.of (fun t => XS.istore X0w.here hx rfl (hb hby at_28) rfl (l' := #[.val (.int p1), .val (.int p2), .val (.int p3), .val (.int p4), .val (.int p5), .val (.int p6), .val (.int (4 : Int32)), .val (.int (if ((XT.ushr p5 (2 : Int32)) &&& (1 : Int32)) = (0 : Int32) then (0 : Int32) else (1 : Int32))), .unset, .unset, .unset, .unset, .unset]) rfl) ?_
    show Goes p e below KK s₁ (mkF m 30 #[.val (.int p1), .val (.int p2), .val (.int p3), .val (.int p4), .val (.int p5), .val (.int p6), .val (.int (4 : Int32)), .val (.int (if ((XT.ushr p5 (2 : Int32)) &&& (1 : Int32)) = (0 : Int32) then (0 : Int32) else (1 : Int32))), .unset, .unset, .unset, .unset, .unset] [])
    obtain ⟨T191, h191, X191, e191, E191, A191, D191, -, st191⟩ := newO X0w hx hZw hownw w_0 w_1 w_2 e0 (g := (mkF m 30 #[.val (.int p1), .val (.int p2), .val (.int p3), .val (.int p4), .val (.int p5), .val (.int p6), .val (.int (4 : Int32)), .val (.int (if ((XT.ushr p5 (2 : Int32)) &&& (1 : Int32)) = (0 : Int32) then (0 : Int32) else (1 : Int32))), .unset, .unset, .unset, .unset, .unset] [])) rfl (hb hby at_30) (by decide) (by decide)
    obtain ⟨b191, g191⟩ : ∃ z, z = h0.size := ⟨_, rfl⟩
    rw [← g191] at A191 D191 st191
    refine Goes.of (st191) ?_
    have g_b191 : n0 ≤ b191 := Nat.le_trans Z0 (Nat.le_of_eq g191.symm)
    have sz_b191 : h0.size ≤ b191 := Nat.le_trans (Keep.refl h0 []).1 (Nat.le_of_eq g191.symm)
    have O_191 : Old Z n0 h191 := O0.ext E191
    have K191 : Keep h0 h191 [] := (Keep.refl h0 []).ext E191
    have Z191 : n0 ≤ h191.size := Nat.le_trans Z0 E191.1
    have HK191 := Nat.le_trans HK0 E191.1
    have F_modCount_b191 : Fld Z h191 b191 "java/util/AbstractList" "modCount" "I" (.int (0 : Int32)) := D191 (Or.inl w_26) (ty := .int) (by decide)
    have F_elements_b191 : Fld Z h191 b191 "corbel/structures/ArrayStack" "elements" "[Ljava/lang/Object;" .null := D191 (Or.inl w_30) (ty := (.array (.object "java/lang/Object"))) (by decide)
    have F_size_b191 : Fld Z h191 b191 "corbel/structures/ArrayStack" "size" "I" (.int (0 : Int32)) := D191 (Or.inl w_60) (ty := .int) (by decide)
    show Goes p e below KK T191 (mkF m 33 #[.val (.int p1), .val (.int p2), .val (.int p3), .val (.int p4), .val (.int p5), .val (.int p6), .val (.int (4 : Int32)), .val (.int (if ((XT.ushr p5 (2 : Int32)) &&& (1 : Int32)) = (0 : Int32) then (0 : Int32) else (1 : Int32))), .unset, .unset, .unset, .unset, .unset] [(.ref b191)])
    refine Goes.of (fun t => XS.dup X191.here hx rfl (hb hby at_33) rfl rfl) ?_
    show Goes p e below KK T191 (mkF m 34 #[.val (.int p1), .val (.int p2), .val (.int p3), .val (.int p4), .val (.int p5), .val (.int p6), .val (.int (4 : Int32)), .val (.int (if ((XT.ushr p5 (2 : Int32)) &&& (1 : Int32)) = (0 : Int32) then (0 : Int32) else (1 : Int32))), .unset, .unset, .unset, .unset, .unset] [(.ref b191), (.ref b191)])
    obtain ⟨_, _, ⟨T192, L192, k192, n192⟩, -, X192, ⟨Lc192, hQ192, l192, y192, z192⟩, st192⟩ := X191.specialBack hx (y := (⟨"corbel/structures/ArrayStack", "<init>", "()V"⟩ : MethodName)) rfl hownw (mvT hZw w_3) (mvT hZw w_4) (mvT hZw w_5) (by decide) (backOf (W := 1) (rm1 l Z a0 hw [] b191  h191 n0 Z191 A191 F_elements_b191 F_size_b191 F_modCount_b191 g_b191) hZw w_5 w_2 (by decide) (by decide)) (g := (mkF m 34 #[.val (.int p1), .val (.int p2), .val (.int p3), .val (.int p4), .val (.int p5), .val (.int p6), .val (.int (4 : Int32)), .val (.int (if ((XT.ushr p5 (2 : Int32)) &&& (1 : Int32)) = (0 : Int32) then (0 : Int32) else (1 : Int32))), .unset, .unset, .unset, .unset, .unset] [(.ref b191), (.ref b191)])) rfl (by rw [hml]; rfl) (Steps.refl _) (a := b191) (argsL := []) (rest := [(.ref b191)]) (lenOf pd_2 rfl) rfl (by show 2 * 0 + _ ≤ _; exact Nat.le_of_eq rfl) (hb hby at_34) (fun _ _ => ⟨rfl, e191, (by decide : 1 + 1 ≤ _), (by decide : 3 + 1 ≤ _)⟩)
    dsimp only [Pt.U, Pt.locs, Pt.cells, Pt.slots] at X192 l192 y192 z192 st192 hQ192
    subst l192 y192 z192
    obtain ⟨r192, rfl, N192q, Kc192, hb192, A192, E192, Fe192, Fs192, Fm192⟩ := hQ192
    have N192 := Fr.app N0 N192q
    have ne_b191_r192 : b191 ≠ r192 := Nat.ne_of_lt (Nat.lt_of_lt_of_le A191.lt hb192)
    have g_r192 : n0 ≤ r192 := Nat.le_trans Z191 hb192
    have sz_r192 : h0.size ≤ r192 := Nat.le_trans K191.1 hb192
    have O_192 : Old Z n0 T192.heap := O_191.keep Kc192 (allS g_b191 all0)
    have A191_192 : Exa Z T192.heap b191 "corbel/structures/ArrayStack" := A191.keep Kc192
    have K192 : Keep h0 T192.heap [] := K191.trans Kc192 (allS (Or.inr sz_b191) all0)
    have Z192 : n0 ≤ T192.heap.size := Nat.le_trans Z191 Kc192.1
    have HK192 := Nat.le_trans HK191 Kc192.1
    have e192 : T192.heap = T192.heap := rfl
    refine Goes.tr st192 ?_
    show Goes p e below KK T192 (mkF m 37 #[.val (.int p1), .val (.int p2), .val (.int p3), .val (.int p4), .val (.int p5), .val (.int p6), .val (.int (4 : Int32)), .val (.int (if ((XT.ushr p5 (2 : Int32)) &&& (1 : Int32)) = (0 : Int32) then (0 : Int32) else (1 : Int32))), .unset, .unset, .unset, .unset, .unset] [(.ref b191)])
    refine Goes.of (fun t => XS.astore X192.here hx rfl (hb hby at_37) rfl rfl (l' := #[.val (.int p1), .val (.int p2), .val (.int p3), .val (.int p4), .val (.int p5), .val (.int p6), .val (.int (4 : Int32)), .val (.int (if ((XT.ushr p5 (2 : Int32)) &&& (1 : Int32)) = (0 : Int32) then (0 : Int32) else (1 : Int32))), .val (.ref b191), .unset, .unset, .unset, .unset]) rfl) ?_
    show Goes p e below KK T192 (mkF m 39 #[.val (.int p1), .val (.int p2), .val (.int p3), .val (.int p4), .val (.int p5), .val (.int p6), .val (.int (4 : Int32)), .val (.int (if ((XT.ushr p5 (2 : Int32)) &&& (1 : Int32)) = (0 : Int32) then (0 : Int32) else (1 : Int32))), .val (.ref b191), .unset, .unset, .unset, .unset] [])
    refine Goes.of (fun t => XS.aload X192.here hx rfl (hb hby at_39) rfl rfl) ?_
    show Goes p e below KK T192 (mkF m 41 #[.val (.int p1), .val (.int p2), .val (.int p3), .val (.int p4), .val (.int p5), .val (.int p6), .val (.int (4 : Int32)), .val (.int (if ((XT.ushr p5 (2 : Int32)) &&& (1 : Int32)) = (0 : Int32) then (0 : Int32) else (1 : Int32))), .val (.ref b191), .unset, .unset, .unset, .unset] [(.ref b191)])
    refine Goes.of (fun t => XS.iloadN X192.here hx rfl (hb hby at_41) rfl) ?_
    show Goes p e below KK T192 (mkF m 42 #[.val (.int p1), .val (.int p2), .val (.int p3), .val (.int p4), .val (.int p5), .val (.int p6), .val (.int (4 : Int32)), .val (.int (if ((XT.ushr p5 (2 : Int32)) &&& (1 : Int32)) = (0 : Int32) then (0 : Int32) else (1 : Int32))), .val (.ref b191), .unset, .unset, .unset, .unset] [(.int p1), (.ref b191)])
    obtain ⟨_, _, ⟨T193, L193, k193, n193⟩, -, X193, ⟨Lc193, hQ193, l193, y193, z193⟩, st193⟩ := Jvm.LawKit.callS X192 hx (y := (⟨"java/lang/Integer", "valueOf", "(I)Ljava/lang/Integer;"⟩ : MethodName)) hownw (mvT hZw w_31) (mvT hZw w_32) (mvT hZw w_33) (mvT hZw w_34) (by decide) (backOf (W := 1) (rm6 l Z a0 hw [] p1 ca cc T192.heap n0 Z192 (Sh.ext O_192.2) (Sc.ext O_192.2) BX O_192) hZw w_34 w_33 (by decide) (by decide)) (g := (mkF m 42 #[.val (.int p1), .val (.int p2), .val (.int p3), .val (.int p4), .val (.int p5), .val (.int p6), .val (.int (4 : Int32)), .val (.int (if ((XT.ushr p5 (2 : Int32)) &&& (1 : Int32)) = (0 : Int32) then (0 : Int32) else (1 : Int32))), .val (.ref b191), .unset, .unset, .unset, .unset] [(.int p1), (.ref b191)])) rfl (by rw [hml]; rfl) (argsL := [(.int p1)]) (rest := [(.ref b191)]) (lenOf pd_48 rfl) rfl (by show 2 * 0 + _ ≤ _; exact Nat.le_of_eq rfl) (hb hby at_42) (fun _ _ => ⟨rfl, e192, (by decide : 2 + 1 ≤ _), (by decide : 4 + 1 ≤ _)⟩)
    dsimp only [Pt.U, Pt.locs, Pt.cells, Pt.slots] at X193 l193 y193 z193 st193 hQ193
    subst l193 y193 z193
    obtain ⟨r193, rfl, N193q, Kc193, E193, F193⟩ := hQ193
    have N193 := Fr.app N192 N193q
    have O_193 : Old Z n0 T193.heap := O_192.keep Kc193 all0
    have E192_193 : Exa Z T193.heap b191 "corbel/structures/ArrayStack" := E192.keep Kc193
    have Fe192_193 : Fld Z T193.heap b191 "corbel/structures/ArrayStack" "elements" "[Ljava/lang/Object;" (.ref r192) := Fe192.keep Kc193 nin0
    have Fs192_193 : Fld Z T193.heap b191 "corbel/structures/ArrayStack" "size" "I" (.int (0 : Int32)) := Fs192.keep Kc193 nin0
    have Fm192_193 : Fld Z T193.heap b191 "java/util/AbstractList" "modCount" "I" (.int (0 : Int32)) := Fm192.keep Kc193 nin0
    have A192_193 : AR Z T193.heap r192 [.null] := A192.keep Kc193 nin0
    have K193 : Keep h0 T193.heap [] := K192.trans Kc193 all0
    have Z193 : n0 ≤ T193.heap.size := Nat.le_trans Z192 Kc193.1
    have HK193 := Nat.le_trans HK192 Kc193.1
    have e193 : T193.heap = T193.heap := rfl
    refine Goes.of st193 ?_
    show Goes p e below KK T193 (mkF m 45 #[.val (.int p1), .val (.int p2), .val (.int p3), .val (.int p4), .val (.int p5), .val (.int p6), .val (.int (4 : Int32)), .val (.int (if ((XT.ushr p5 (2 : Int32)) &&& (1 : Int32)) = (0 : Int32) then (0 : Int32) else (1 : Int32))), .val (.ref b191), .unset, .unset, .unset, .unset] [(.ref r193), (.ref b191)])
    obtain ⟨cq194, kq194, q194a, q194b, q194c⟩ := isOf hZw e193 E192_193
    obtain ⟨_, _, ⟨T194, L194, k194, n194⟩, -, X194, hSi194, hge194, ⟨Lc194, hQ194, l194, y194, z194⟩, st194⟩ := X193.virtualBackS hx (y := (⟨"corbel/structures/ArrayStack", "add", "(Ljava/lang/Object;)Z"⟩ : MethodName)) (z := (⟨"corbel/structures/ArrayStack", "add", "(Ljava/lang/Object;)Z"⟩ : MethodName)) hownw (mvT hZw w_38) (mvT hZw w_39) (notFace_of_selects (args := #[]) (mvT hZw w_41)) (mvT hZw w_41) (mvT hZw w_40) (by decide) (backOfS (W := 0) (rm7s0 l Z a0 hw [] b191 r193 r192 mr (0 : Int32)  T193.heap n0 Z193 E192_193 Fe192_193 Fs192_193 Fm192_193 A192_193 E193 g_b191 g_r192 M0) hZw w_42 w_2 (by decide) (by decide)) q194a q194c (g := (mkF m 45 #[.val (.int p1), .val (.int p2), .val (.int p3), .val (.int p4), .val (.int p5), .val (.int p6), .val (.int (4 : Int32)), .val (.int (if ((XT.ushr p5 (2 : Int32)) &&& (1 : Int32)) = (0 : Int32) then (0 : Int32) else (1 : Int32))), .val (.ref b191), .unset, .unset, .unset, .unset] [(.ref r193), (.ref b191)])) rfl (by rw [hml]; rfl) (Steps.refl _) (argsL := [(.ref r193)]) (rest := []) (lenOf pd_49 rfl) rfl (by show 2 * 0 + _ ≤ _; exact Nat.le_of_eq rfl) (hb hby at_45) (fun _ _ => ⟨rfl, e193, (by decide : 3 + 2 ≤ _), (by decide : 5 + 32 ≤ _)⟩)
    dsimp only [Pt.U, Pt.locs, Pt.cells, Pt.slots] at X194 l194 y194 z194 st194 hQ194 hSi194 hge194
    subst l194 y194 z194
    obtain ⟨Y194, HS194, hZ194, hown194⟩ := rebS HS0 (by rw [e193]; exact HK193) X194 hSi194 hge194 hZw hownw
    have HK194 := Nat.le_refl T194.heap.size
    obtain ⟨r194, rfl, N194q, Kc194, hb194, E194, Fe194, Fs194, Fm194, A194⟩ := hQ194
    have N194 := Fr.app N193 N194q
    have g_r194 : n0 ≤ r194 := hb194.elim (fun q => q ▸ g_r192) (fun q => Nat.le_trans Z193 q)
    have sz_r194 : h0.size ≤ r194 := hb194.elim (fun q => q ▸ sz_r192) (fun q => Nat.le_trans K193.1 q)
    have O_194 : Old Z n0 T194.heap := O_193.keep Kc194 (allS g_b191 (allS g_r192 all0))
    have E192_193_194 : Exa Z T194.heap b191 "corbel/structures/ArrayStack" := E192_193.keep Kc194
    have E193_194 : Exa Z T194.heap r193 "java/lang/Integer" := E193.keep Kc194
    have F193_194 : Fld Z T194.heap r193 "java/lang/Integer" "value" "I" (.int p1) := F193.keep Kc194 (ninS (Exa.ne E193 E192_193 (by decide)) (ninS (Exa.ne E193 A192_193.exa (by decide)) nin0))
    have K194 : Keep h0 T194.heap [] := K193.trans Kc194 (allS (Or.inr sz_b191) (allS (Or.inr sz_r192) all0))
    have Z194 : n0 ≤ T194.heap.size := Nat.le_trans Z193 Kc194.1
    have e194 : T194.heap = T194.heap := rfl
    refine Goes.tr st194 ?_
    show Goes p e below KK T194 (mkF m 48 #[.val (.int p1), .val (.int p2), .val (.int p3), .val (.int p4), .val (.int p5), .val (.int p6), .val (.int (4 : Int32)), .val (.int (if ((XT.ushr p5 (2 : Int32)) &&& (1 : Int32)) = (0 : Int32) then (0 : Int32) else (1 : Int32))), .val (.ref b191), .unset, .unset, .unset, .unset] [(.int (1 : Int32))])
    refine Goes.of (fun t => XT.pop Y194.here hx rfl (hb hby at_48) rfl rfl) ?_
    show Goes p e below KK T194 (mkF m 49 #[.val (.int p1), .val (.int p2), .val (.int p3), .val (.int p4), .val (.int p5), .val (.int p6), .val (.int (4 : Int32)), .val (.int (if ((XT.ushr p5 (2 : Int32)) &&& (1 : Int32)) = (0 : Int32) then (0 : Int32) else (1 : Int32))), .val (.ref b191), .unset, .unset, .unset, .unset] [])
    refine Goes.of (fun t => XS.iload Y194.here hx rfl (hb hby at_49) rfl) ?_
    show Goes p e below KK T194 (mkF m 51 #[.val (.int p1), .val (.int p2), .val (.int p3), .val (.int p4), .val (.int p5), .val (.int p6), .val (.int (4 : Int32)), .val (.int (if ((XT.ushr p5 (2 : Int32)) &&& (1 : Int32)) = (0 : Int32) then (0 : Int32) else (1 : Int32))), .val (.ref b191), .unset, .unset, .unset, .unset] [(.int (4 : Int32))])
    refine Goes.of (fun t => XS.iconst Y194.here hx rfl (hb hby at_51)) ?_
    show Goes p e below KK T194 (mkF m 52 #[.val (.int p1), .val (.int p2), .val (.int p3), .val (.int p4), .val (.int p5), .val (.int p6), .val (.int (4 : Int32)), .val (.int (if ((XT.ushr p5 (2 : Int32)) &&& (1 : Int32)) = (0 : Int32) then (0 : Int32) else (1 : Int32))), .val (.ref b191), .unset, .unset, .unset, .unset] [(.int (2 : Int32)), (.int (4 : Int32))])
    refine Goes.of (fun t => XS.icmpNo Y194.here hx rfl (hb hby at_52) rfl (flt (show ¬ ((4 : Int32) < (2 : Int32)) from by decide)).1) ?_
    show Goes p e below KK T194 (mkF m 55 #[.val (.int p1), .val (.int p2), .val (.int p3), .val (.int p4), .val (.int p5), .val (.int p6), .val (.int (4 : Int32)), .val (.int (if ((XT.ushr p5 (2 : Int32)) &&& (1 : Int32)) = (0 : Int32) then (0 : Int32) else (1 : Int32))), .val (.ref b191), .unset, .unset, .unset, .unset] [])
    refine Goes.of (fun t => XS.aload Y194.here hx rfl (hb hby at_55) rfl rfl) ?_
    show Goes p e below KK T194 (mkF m 57 #[.val (.int p1), .val (.int p2), .val (.int p3), .val (.int p4), .val (.int p5), .val (.int p6), .val (.int (4 : Int32)), .val (.int (if ((XT.ushr p5 (2 : Int32)) &&& (1 : Int32)) = (0 : Int32) then (0 : Int32) else (1 : Int32))), .val (.ref b191), .unset, .unset, .unset, .unset] [(.ref b191)])
    refine Goes.of (fun t => XS.iloadN Y194.here hx rfl (hb hby at_57) rfl) ?_
    show Goes p e below KK T194 (mkF m 58 #[.val (.int p1), .val (.int p2), .val (.int p3), .val (.int p4), .val (.int p5), .val (.int p6), .val (.int (4 : Int32)), .val (.int (if ((XT.ushr p5 (2 : Int32)) &&& (1 : Int32)) = (0 : Int32) then (0 : Int32) else (1 : Int32))), .val (.ref b191), .unset, .unset, .unset, .unset] [(.int p2), (.ref b191)])
    obtain ⟨_, _, ⟨T195, L195, k195, n195⟩, -, X195, ⟨Lc195, hQ195, l195, y195, z195⟩, st195⟩ := Jvm.LawKit.callS Y194 hx (y := (⟨"java/lang/Integer", "valueOf", "(I)Ljava/lang/Integer;"⟩ : MethodName)) hown194 (mvT hZ194 w_31) (mvT hZ194 w_32) (mvT hZ194 w_33) (mvT hZ194 w_34) (by decide) (backOf (W := 1) (rm6 l Z a0 hw [] p2 ca cc T194.heap n0 Z194 (Sh.ext O_194.2) (Sc.ext O_194.2) BX O_194) hZ194 w_34 w_33 (by decide) (by decide)) (g := (mkF m 58 #[.val (.int p1), .val (.int p2), .val (.int p3), .val (.int p4), .val (.int p5), .val (.int p6), .val (.int (4 : Int32)), .val (.int (if ((XT.ushr p5 (2 : Int32)) &&& (1 : Int32)) = (0 : Int32) then (0 : Int32) else (1 : Int32))), .val (.ref b191), .unset, .unset, .unset, .unset] [(.int p2), (.ref b191)])) rfl (by rw [hml]; rfl) (argsL := [(.int p2)]) (rest := [(.ref b191)]) (lenOf pd_48 rfl) rfl (by show 2 * 0 + _ ≤ _; exact Nat.le_of_eq rfl) (hb hby at_58) (fun _ _ => ⟨rfl, e194, (by decide : 5 + 1 ≤ _), (by decide : 37 + 1 ≤ _)⟩)
    dsimp only [Pt.U, Pt.locs, Pt.cells, Pt.slots] at X195 l195 y195 z195 st195 hQ195
    subst l195 y195 z195
    obtain ⟨r195, rfl, N195q, Kc195, E195, F195⟩ := hQ195
    have N195 := Fr.app N194 N195q
    have O_195 : Old Z n0 T195.heap := O_194.keep Kc195 all0
    have E194_195 : Exa Z T195.heap b191 "corbel/structures/ArrayStack" := E194.keep Kc195
    have E193_194_195 : Exa Z T195.heap r193 "java/lang/Integer" := E193_194.keep Kc195
    have F193_194_195 : Fld Z T195.heap r193 "java/lang/Integer" "value" "I" (.int p1) := F193_194.keep Kc195 nin0
    have Fe194_195 : Fld Z T195.heap b191 "corbel/structures/ArrayStack" "elements" "[Ljava/lang/Object;" (.ref r194) := Fe194.keep Kc195 nin0
    have Fs194_195 : Fld Z T195.heap b191 "corbel/structures/ArrayStack" "size" "I" (.int (1 : Int32)) := Fs194.keep Kc195 nin0
    have Fm194_195 : Fld Z T195.heap b191 "java/util/AbstractList" "modCount" "I" (.int ((0 : Int32) + 1)) := Fm194.keep Kc195 nin0
    have A194_195 : AR Z T195.heap r194 [(.ref r193)] := A194.keep Kc195 nin0
    have K195 : Keep h0 T195.heap [] := K194.trans Kc195 all0
    have Z195 : n0 ≤ T195.heap.size := Nat.le_trans Z194 Kc195.1
    have HK195 := Nat.le_trans HK194 Kc195.1
    have e195 : T195.heap = T195.heap := rfl
    refine Goes.of st195 ?_
    show Goes p e below KK T195 (mkF m 61 #[.val (.int p1), .val (.int p2), .val (.int p3), .val (.int p4), .val (.int p5), .val (.int p6), .val (.int (4 : Int32)), .val (.int (if ((XT.ushr p5 (2 : Int32)) &&& (1 : Int32)) = (0 : Int32) then (0 : Int32) else (1 : Int32))), .val (.ref b191), .unset, .unset, .unset, .unset] [(.ref r195), (.ref b191)])
    obtain ⟨cq196, kq196, q196a, q196b, q196c⟩ := isOf hZ194 e195 E194_195
    obtain ⟨_, _, ⟨T196, L196, k196, n196⟩, -, X196, hSi196, hge196, ⟨Lc196, hQ196, l196, y196, z196⟩, st196⟩ := X195.virtualBackS hx (y := (⟨"corbel/structures/ArrayStack", "add", "(Ljava/lang/Object;)Z"⟩ : MethodName)) (z := (⟨"corbel/structures/ArrayStack", "add", "(Ljava/lang/Object;)Z"⟩ : MethodName)) hown194 (mvT hZ194 w_38) (mvT hZ194 w_39) (notFace_of_selects (args := #[]) (mvT hZ194 w_41)) (mvT hZ194 w_41) (mvT hZ194 w_40) (by decide) (backOfS (W := 0) (rm7s1 l Z a0 hw [] b191 r195 r194 mr ((0 : Int32) + 1) r193 T195.heap n0 Z195 E194_195 Fe194_195 Fs194_195 Fm194_195 A194_195 E193_194_195 E195 g_b191 g_r194 M0) hZ194 w_42 w_2 (by decide) (by decide)) q196a q196c (g := (mkF m 61 #[.val (.int p1), .val (.int p2), .val (.int p3), .val (.int p4), .val (.int p5), .val (.int p6), .val (.int (4 : Int32)), .val (.int (if ((XT.ushr p5 (2 : Int32)) &&& (1 : Int32)) = (0 : Int32) then (0 : Int32) else (1 : Int32))), .val (.ref b191), .unset, .unset, .unset, .unset] [(.ref r195), (.ref b191)])) rfl (by rw [hml]; rfl) (Steps.refl _) (argsL := [(.ref r195)]) (rest := []) (lenOf pd_49 rfl) rfl (by show 2 * 0 + _ ≤ _; exact Nat.le_of_eq rfl) (hb hby at_61) (fun _ _ => ⟨rfl, e195, (by decide : 6 + 3 ≤ _), (by decide : 38 + 34 ≤ _)⟩)
    dsimp only [Pt.U, Pt.locs, Pt.cells, Pt.slots] at X196 l196 y196 z196 st196 hQ196 hSi196 hge196
    subst l196 y196 z196
    obtain ⟨Y196, HS196, hZ196, hown196⟩ := rebS HS194 (by rw [e195]; exact HK195) X196 hSi196 hge196 hZ194 hown194
    have HK196 := Nat.le_refl T196.heap.size
    obtain ⟨r196, rfl, N196q, Kc196, hb196, E196, Fe196, Fs196, Fm196, A196⟩ := hQ196
    have N196 := Fr.app N195 N196q
    have g_r196 : n0 ≤ r196 := hb196.elim (fun q => q ▸ g_r194) (fun q => Nat.le_trans Z195 q)
    have sz_r196 : h0.size ≤ r196 := hb196.elim (fun q => q ▸ sz_r194) (fun q => Nat.le_trans K195.1 q)
    have O_196 : Old Z n0 T196.heap := O_195.keep Kc196 (allS g_b191 (allS g_r194 all0))
    have E194_195_196 : Exa Z T196.heap b191 "corbel/structures/ArrayStack" := E194_195.keep Kc196
    have E193_194_195_196 : Exa Z T196.heap r193 "java/lang/Integer" := E193_194_195.keep Kc196
    have F193_194_195_196 : Fld Z T196.heap r193 "java/lang/Integer" "value" "I" (.int p1) := F193_194_195.keep Kc196 (ninS (Exa.ne E193_194_195 E194_195 (by decide)) (ninS (Exa.ne E193_194_195 A194_195.exa (by decide)) nin0))
    have E195_196 : Exa Z T196.heap r195 "java/lang/Integer" := E195.keep Kc196
    have F195_196 : Fld Z T196.heap r195 "java/lang/Integer" "value" "I" (.int p2) := F195.keep Kc196 (ninS (Exa.ne E195 E194_195 (by decide)) (ninS (Exa.ne E195 A194_195.exa (by decide)) nin0))
    have K196 : Keep h0 T196.heap [] := K195.trans Kc196 (allS (Or.inr sz_b191) (allS (Or.inr sz_r194) all0))
    have Z196 : n0 ≤ T196.heap.size := Nat.le_trans Z195 Kc196.1
    have e196 : T196.heap = T196.heap := rfl
    refine Goes.tr st196 ?_
    show Goes p e below KK T196 (mkF m 64 #[.val (.int p1), .val (.int p2), .val (.int p3), .val (.int p4), .val (.int p5), .val (.int p6), .val (.int (4 : Int32)), .val (.int (if ((XT.ushr p5 (2 : Int32)) &&& (1 : Int32)) = (0 : Int32) then (0 : Int32) else (1 : Int32))), .val (.ref b191), .unset, .unset, .unset, .unset] [(.int (1 : Int32))])
    refine Goes.of (fun t => XT.pop Y196.here hx rfl (hb hby at_64) rfl rfl) ?_
    show Goes p e below KK T196 (mkF m 65 #[.val (.int p1), .val (.int p2), .val (.int p3), .val (.int p4), .val (.int p5), .val (.int p6), .val (.int (4 : Int32)), .val (.int (if ((XT.ushr p5 (2 : Int32)) &&& (1 : Int32)) = (0 : Int32) then (0 : Int32) else (1 : Int32))), .val (.ref b191), .unset, .unset, .unset, .unset] [])
    refine Goes.of (fun t => XS.iload Y196.here hx rfl (hb hby at_65) rfl) ?_
    show Goes p e below KK T196 (mkF m 67 #[.val (.int p1), .val (.int p2), .val (.int p3), .val (.int p4), .val (.int p5), .val (.int p6), .val (.int (4 : Int32)), .val (.int (if ((XT.ushr p5 (2 : Int32)) &&& (1 : Int32)) = (0 : Int32) then (0 : Int32) else (1 : Int32))), .val (.ref b191), .unset, .unset, .unset, .unset] [(.int (4 : Int32))])
    refine Goes.of (fun t => XS.iconst Y196.here hx rfl (hb hby at_67)) ?_
    show Goes p e below KK T196 (mkF m 68 #[.val (.int p1), .val (.int p2), .val (.int p3), .val (.int p4), .val (.int p5), .val (.int p6), .val (.int (4 : Int32)), .val (.int (if ((XT.ushr p5 (2 : Int32)) &&& (1 : Int32)) = (0 : Int32) then (0 : Int32) else (1 : Int32))), .val (.ref b191), .unset, .unset, .unset, .unset] [(.int (3 : Int32)), (.int (4 : Int32))])
    refine Goes.of (fun t => XS.icmpNo Y196.here hx rfl (hb hby at_68) rfl (flt (show ¬ ((4 : Int32) < (3 : Int32)) from by decide)).1) ?_
    show Goes p e below KK T196 (mkF m 71 #[.val (.int p1), .val (.int p2), .val (.int p3), .val (.int p4), .val (.int p5), .val (.int p6), .val (.int (4 : Int32)), .val (.int (if ((XT.ushr p5 (2 : Int32)) &&& (1 : Int32)) = (0 : Int32) then (0 : Int32) else (1 : Int32))), .val (.ref b191), .unset, .unset, .unset, .unset] [])
    refine Goes.of (fun t => XS.aload Y196.here hx rfl (hb hby at_71) rfl rfl) ?_
    show Goes p e below KK T196 (mkF m 73 #[.val (.int p1), .val (.int p2), .val (.int p3), .val (.int p4), .val (.int p5), .val (.int p6), .val (.int (4 : Int32)), .val (.int (if ((XT.ushr p5 (2 : Int32)) &&& (1 : Int32)) = (0 : Int32) then (0 : Int32) else (1 : Int32))), .val (.ref b191), .unset, .unset, .unset, .unset] [(.ref b191)])
    refine Goes.of (fun t => XS.iloadN Y196.here hx rfl (hb hby at_73) rfl) ?_
    show Goes p e below KK T196 (mkF m 74 #[.val (.int p1), .val (.int p2), .val (.int p3), .val (.int p4), .val (.int p5), .val (.int p6), .val (.int (4 : Int32)), .val (.int (if ((XT.ushr p5 (2 : Int32)) &&& (1 : Int32)) = (0 : Int32) then (0 : Int32) else (1 : Int32))), .val (.ref b191), .unset, .unset, .unset, .unset] [(.int p3), (.ref b191)])
    obtain ⟨_, _, ⟨T197, L197, k197, n197⟩, -, X197, ⟨Lc197, hQ197, l197, y197, z197⟩, st197⟩ := Jvm.LawKit.callS Y196 hx (y := (⟨"java/lang/Integer", "valueOf", "(I)Ljava/lang/Integer;"⟩ : MethodName)) hown196 (mvT hZ196 w_31) (mvT hZ196 w_32) (mvT hZ196 w_33) (mvT hZ196 w_34) (by decide) (backOf (W := 1) (rm6 l Z a0 hw [] p3 ca cc T196.heap n0 Z196 (Sh.ext O_196.2) (Sc.ext O_196.2) BX O_196) hZ196 w_34 w_33 (by decide) (by decide)) (g := (mkF m 74 #[.val (.int p1), .val (.int p2), .val (.int p3), .val (.int p4), .val (.int p5), .val (.int p6), .val (.int (4 : Int32)), .val (.int (if ((XT.ushr p5 (2 : Int32)) &&& (1 : Int32)) = (0 : Int32) then (0 : Int32) else (1 : Int32))), .val (.ref b191), .unset, .unset, .unset, .unset] [(.int p3), (.ref b191)])) rfl (by rw [hml]; rfl) (argsL := [(.int p3)]) (rest := [(.ref b191)]) (lenOf pd_48 rfl) rfl (by show 2 * 0 + _ ≤ _; exact Nat.le_of_eq rfl) (hb hby at_74) (fun _ _ => ⟨rfl, e196, (by decide : 9 + 1 ≤ _), (by decide : 72 + 1 ≤ _)⟩)
    dsimp only [Pt.U, Pt.locs, Pt.cells, Pt.slots] at X197 l197 y197 z197 st197 hQ197
    subst l197 y197 z197
    obtain ⟨r197, rfl, N197q, Kc197, E197, F197⟩ := hQ197
    have N197 := Fr.app N196 N197q
    have O_197 : Old Z n0 T197.heap := O_196.keep Kc197 all0
    have E196_197 : Exa Z T197.heap b191 "corbel/structures/ArrayStack" := E196.keep Kc197
    have E193_194_195_196_197 : Exa Z T197.heap r193 "java/lang/Integer" := E193_194_195_196.keep Kc197
    have F193_194_195_196_197 : Fld Z T197.heap r193 "java/lang/Integer" "value" "I" (.int p1) := F193_194_195_196.keep Kc197 nin0
    have E195_196_197 : Exa Z T197.heap r195 "java/lang/Integer" := E195_196.keep Kc197
    have F195_196_197 : Fld Z T197.heap r195 "java/lang/Integer" "value" "I" (.int p2) := F195_196.keep Kc197 nin0
    have Fe196_197 : Fld Z T197.heap b191 "corbel/structures/ArrayStack" "elements" "[Ljava/lang/Object;" (.ref r196) := Fe196.keep Kc197 nin0
    have Fs196_197 : Fld Z T197.heap b191 "corbel/structures/ArrayStack" "size" "I" (.int (2 : Int32)) := Fs196.keep Kc197 nin0
    have Fm196_197 : Fld Z T197.heap b191 "java/util/AbstractList" "modCount" "I" (.int (((0 : Int32) + 1) + 1)) := Fm196.keep Kc197 nin0
    have A196_197 : AR Z T197.heap r196 [(.ref r193), (.ref r195)] := A196.keep Kc197 nin0
    have K197 : Keep h0 T197.heap [] := K196.trans Kc197 all0
    have Z197 : n0 ≤ T197.heap.size := Nat.le_trans Z196 Kc197.1
    have HK197 := Nat.le_trans HK196 Kc197.1
    have e197 : T197.heap = T197.heap := rfl
    refine Goes.of st197 ?_
    show Goes p e below KK T197 (mkF m 77 #[.val (.int p1), .val (.int p2), .val (.int p3), .val (.int p4), .val (.int p5), .val (.int p6), .val (.int (4 : Int32)), .val (.int (if ((XT.ushr p5 (2 : Int32)) &&& (1 : Int32)) = (0 : Int32) then (0 : Int32) else (1 : Int32))), .val (.ref b191), .unset, .unset, .unset, .unset] [(.ref r197), (.ref b191)])
    obtain ⟨cq198, kq198, q198a, q198b, q198c⟩ := isOf hZ196 e197 E196_197
    obtain ⟨_, _, ⟨T198, L198, k198, n198⟩, -, X198, hSi198, hge198, ⟨Lc198, hQ198, l198, y198, z198⟩, st198⟩ := X197.virtualBackS hx (y := (⟨"corbel/structures/ArrayStack", "add", "(Ljava/lang/Object;)Z"⟩ : MethodName)) (z := (⟨"corbel/structures/ArrayStack", "add", "(Ljava/lang/Object;)Z"⟩ : MethodName)) hown196 (mvT hZ196 w_38) (mvT hZ196 w_39) (notFace_of_selects (args := #[]) (mvT hZ196 w_41)) (mvT hZ196 w_41) (mvT hZ196 w_40) (by decide) (backOfS (W := 0) (rm7s2 l Z a0 hw [] b191 r197 r196 mr (((0 : Int32) + 1) + 1) r193 r195 T197.heap n0 Z197 E196_197 Fe196_197 Fs196_197 Fm196_197 A196_197 E193_194_195_196_197 E195_196_197 E197 g_b191 g_r196 M0) hZ196 w_42 w_2 (by decide) (by decide)) q198a q198c (g := (mkF m 77 #[.val (.int p1), .val (.int p2), .val (.int p3), .val (.int p4), .val (.int p5), .val (.int p6), .val (.int (4 : Int32)), .val (.int (if ((XT.ushr p5 (2 : Int32)) &&& (1 : Int32)) = (0 : Int32) then (0 : Int32) else (1 : Int32))), .val (.ref b191), .unset, .unset, .unset, .unset] [(.ref r197), (.ref b191)])) rfl (by rw [hml]; rfl) (Steps.refl _) (argsL := [(.ref r197)]) (rest := []) (lenOf pd_49 rfl) rfl (by show 2 * 0 + _ ≤ _; exact Nat.le_of_eq rfl) (hb hby at_77) (fun _ _ => ⟨rfl, e197, (by decide : 10 + 3 ≤ _), (by decide : 73 + 36 ≤ _)⟩)
    dsimp only [Pt.U, Pt.locs, Pt.cells, Pt.slots] at X198 l198 y198 z198 st198 hQ198 hSi198 hge198
    subst l198 y198 z198
    obtain ⟨Y198, HS198, hZ198, hown198⟩ := rebS HS196 (by rw [e197]; exact HK197) X198 hSi198 hge198 hZ196 hown196
    have HK198 := Nat.le_refl T198.heap.size
    obtain ⟨r198, rfl, N198q, Kc198, hb198, E198, Fe198, Fs198, Fm198, A198⟩ := hQ198
    have N198 := Fr.app N197 N198q
    have g_r198 : n0 ≤ r198 := hb198.elim (fun q => q ▸ g_r196) (fun q => Nat.le_trans Z197 q)
    have sz_r198 : h0.size ≤ r198 := hb198.elim (fun q => q ▸ sz_r196) (fun q => Nat.le_trans K197.1 q)
    have O_198 : Old Z n0 T198.heap := O_197.keep Kc198 (allS g_b191 (allS g_r196 all0))
    have E196_197_198 : Exa Z T198.heap b191 "corbel/structures/ArrayStack" := E196_197.keep Kc198
    have E193_194_195_196_197_198 : Exa Z T198.heap r193 "java/lang/Integer" := E193_194_195_196_197.keep Kc198
    have F193_194_195_196_197_198 : Fld Z T198.heap r193 "java/lang/Integer" "value" "I" (.int p1) := F193_194_195_196_197.keep Kc198 (ninS (Exa.ne E193_194_195_196_197 E196_197 (by decide)) (ninS (Exa.ne E193_194_195_196_197 A196_197.exa (by decide)) nin0))
    have E195_196_197_198 : Exa Z T198.heap r195 "java/lang/Integer" := E195_196_197.keep Kc198
    have F195_196_197_198 : Fld Z T198.heap r195 "java/lang/Integer" "value" "I" (.int p2) := F195_196_197.keep Kc198 (ninS (Exa.ne E195_196_197 E196_197 (by decide)) (ninS (Exa.ne E195_196_197 A196_197.exa (by decide)) nin0))
    have E197_198 : Exa Z T198.heap r197 "java/lang/Integer" := E197.keep Kc198
    have F197_198 : Fld Z T198.heap r197 "java/lang/Integer" "value" "I" (.int p3) := F197.keep Kc198 (ninS (Exa.ne E197 E196_197 (by decide)) (ninS (Exa.ne E197 A196_197.exa (by decide)) nin0))
    have K198 : Keep h0 T198.heap [] := K197.trans Kc198 (allS (Or.inr sz_b191) (allS (Or.inr sz_r196) all0))
    have Z198 : n0 ≤ T198.heap.size := Nat.le_trans Z197 Kc198.1
    have e198 : T198.heap = T198.heap := rfl
    refine Goes.tr st198 ?_
    show Goes p e below KK T198 (mkF m 80 #[.val (.int p1), .val (.int p2), .val (.int p3), .val (.int p4), .val (.int p5), .val (.int p6), .val (.int (4 : Int32)), .val (.int (if ((XT.ushr p5 (2 : Int32)) &&& (1 : Int32)) = (0 : Int32) then (0 : Int32) else (1 : Int32))), .val (.ref b191), .unset, .unset, .unset, .unset] [(.int (1 : Int32))])
    refine Goes.of (fun t => XT.pop Y198.here hx rfl (hb hby at_80) rfl rfl) ?_
    show Goes p e below KK T198 (mkF m 81 #[.val (.int p1), .val (.int p2), .val (.int p3), .val (.int p4), .val (.int p5), .val (.int p6), .val (.int (4 : Int32)), .val (.int (if ((XT.ushr p5 (2 : Int32)) &&& (1 : Int32)) = (0 : Int32) then (0 : Int32) else (1 : Int32))), .val (.ref b191), .unset, .unset, .unset, .unset] [])
    refine Goes.of (fun t => XS.iload Y198.here hx rfl (hb hby at_81) rfl) ?_
    show Goes p e below KK T198 (mkF m 83 #[.val (.int p1), .val (.int p2), .val (.int p3), .val (.int p4), .val (.int p5), .val (.int p6), .val (.int (4 : Int32)), .val (.int (if ((XT.ushr p5 (2 : Int32)) &&& (1 : Int32)) = (0 : Int32) then (0 : Int32) else (1 : Int32))), .val (.ref b191), .unset, .unset, .unset, .unset] [(.int (4 : Int32))])
    refine Goes.of (fun t => XS.iconst Y198.here hx rfl (hb hby at_83)) ?_
    show Goes p e below KK T198 (mkF m 84 #[.val (.int p1), .val (.int p2), .val (.int p3), .val (.int p4), .val (.int p5), .val (.int p6), .val (.int (4 : Int32)), .val (.int (if ((XT.ushr p5 (2 : Int32)) &&& (1 : Int32)) = (0 : Int32) then (0 : Int32) else (1 : Int32))), .val (.ref b191), .unset, .unset, .unset, .unset] [(.int (4 : Int32)), (.int (4 : Int32))])
    refine Goes.of (fun t => XS.icmpNo Y198.here hx rfl (hb hby at_84) rfl (flt (show ¬ ((4 : Int32) < (4 : Int32)) from by decide)).1) ?_
    show Goes p e below KK T198 (mkF m 87 #[.val (.int p1), .val (.int p2), .val (.int p3), .val (.int p4), .val (.int p5), .val (.int p6), .val (.int (4 : Int32)), .val (.int (if ((XT.ushr p5 (2 : Int32)) &&& (1 : Int32)) = (0 : Int32) then (0 : Int32) else (1 : Int32))), .val (.ref b191), .unset, .unset, .unset, .unset] [])
    refine Goes.of (fun t => XS.aload Y198.here hx rfl (hb hby at_87) rfl rfl) ?_
    show Goes p e below KK T198 (mkF m 89 #[.val (.int p1), .val (.int p2), .val (.int p3), .val (.int p4), .val (.int p5), .val (.int p6), .val (.int (4 : Int32)), .val (.int (if ((XT.ushr p5 (2 : Int32)) &&& (1 : Int32)) = (0 : Int32) then (0 : Int32) else (1 : Int32))), .val (.ref b191), .unset, .unset, .unset, .unset] [(.ref b191)])
    refine Goes.of (fun t => XS.iloadN Y198.here hx rfl (hb hby at_89) rfl) ?_
    show Goes p e below KK T198 (mkF m 90 #[.val (.int p1), .val (.int p2), .val (.int p3), .val (.int p4), .val (.int p5), .val (.int p6), .val (.int (4 : Int32)), .val (.int (if ((XT.ushr p5 (2 : Int32)) &&& (1 : Int32)) = (0 : Int32) then (0 : Int32) else (1 : Int32))), .val (.ref b191), .unset, .unset, .unset, .unset] [(.int p4), (.ref b191)])
    obtain ⟨_, _, ⟨T199, L199, k199, n199⟩, -, X199, ⟨Lc199, hQ199, l199, y199, z199⟩, st199⟩ := Jvm.LawKit.callS Y198 hx (y := (⟨"java/lang/Integer", "valueOf", "(I)Ljava/lang/Integer;"⟩ : MethodName)) hown198 (mvT hZ198 w_31) (mvT hZ198 w_32) (mvT hZ198 w_33) (mvT hZ198 w_34) (by decide) (backOf (W := 1) (rm6 l Z a0 hw [] p4 ca cc T198.heap n0 Z198 (Sh.ext O_198.2) (Sc.ext O_198.2) BX O_198) hZ198 w_34 w_33 (by decide) (by decide)) (g := (mkF m 90 #[.val (.int p1), .val (.int p2), .val (.int p3), .val (.int p4), .val (.int p5), .val (.int p6), .val (.int (4 : Int32)), .val (.int (if ((XT.ushr p5 (2 : Int32)) &&& (1 : Int32)) = (0 : Int32) then (0 : Int32) else (1 : Int32))), .val (.ref b191), .unset, .unset, .unset, .unset] [(.int p4), (.ref b191)])) rfl (by rw [hml]; rfl) (argsL := [(.int p4)]) (rest := [(.ref b191)]) (lenOf pd_48 rfl) rfl (by show 2 * 0 + _ ≤ _; exact Nat.le_of_eq rfl) (hb hby at_90) (fun _ _ => ⟨rfl, e198, (by decide : 13 + 1 ≤ _), (by decide : 109 + 1 ≤ _)⟩)
    dsimp only [Pt.U, Pt.locs, Pt.cells, Pt.slots] at X199 l199 y199 z199 st199 hQ199
    subst l199 y199 z199
    obtain ⟨r199, rfl, N199q, Kc199, E199, F199⟩ := hQ199
    have N199 := Fr.app N198 N199q
    have O_199 : Old Z n0 T199.heap := O_198.keep Kc199 all0
    have E198_199 : Exa Z T199.heap b191 "corbel/structures/ArrayStack" := E198.keep Kc199
    have E193_194_195_196_197_198_199 : Exa Z T199.heap r193 "java/lang/Integer" := E193_194_195_196_197_198.keep Kc199
    have F193_194_195_196_197_198_199 : Fld Z T199.heap r193 "java/lang/Integer" "value" "I" (.int p1) := F193_194_195_196_197_198.keep Kc199 nin0
    have E195_196_197_198_199 : Exa Z T199.heap r195 "java/lang/Integer" := E195_196_197_198.keep Kc199
    have F195_196_197_198_199 : Fld Z T199.heap r195 "java/lang/Integer" "value" "I" (.int p2) := F195_196_197_198.keep Kc199 nin0
    have E197_198_199 : Exa Z T199.heap r197 "java/lang/Integer" := E197_198.keep Kc199
    have F197_198_199 : Fld Z T199.heap r197 "java/lang/Integer" "value" "I" (.int p3) := F197_198.keep Kc199 nin0
    have Fe198_199 : Fld Z T199.heap b191 "corbel/structures/ArrayStack" "elements" "[Ljava/lang/Object;" (.ref r198) := Fe198.keep Kc199 nin0
    have Fs198_199 : Fld Z T199.heap b191 "corbel/structures/ArrayStack" "size" "I" (.int (3 : Int32)) := Fs198.keep Kc199 nin0
    have Fm198_199 : Fld Z T199.heap b191 "java/util/AbstractList" "modCount" "I" (.int ((((0 : Int32) + 1) + 1) + 1)) := Fm198.keep Kc199 nin0
    have A198_199 : AR Z T199.heap r198 [(.ref r193), (.ref r195), (.ref r197), .null] := A198.keep Kc199 nin0
    have K199 : Keep h0 T199.heap [] := K198.trans Kc199 all0
    have Z199 : n0 ≤ T199.heap.size := Nat.le_trans Z198 Kc199.1
    have HK199 := Nat.le_trans HK198 Kc199.1
    have e199 : T199.heap = T199.heap := rfl
    refine Goes.of st199 ?_
    show Goes p e below KK T199 (mkF m 93 #[.val (.int p1), .val (.int p2), .val (.int p3), .val (.int p4), .val (.int p5), .val (.int p6), .val (.int (4 : Int32)), .val (.int (if ((XT.ushr p5 (2 : Int32)) &&& (1 : Int32)) = (0 : Int32) then (0 : Int32) else (1 : Int32))), .val (.ref b191), .unset, .unset, .unset, .unset] [(.ref r199), (.ref b191)])
    obtain ⟨cq200, kq200, q200a, q200b, q200c⟩ := isOf hZ198 e199 E198_199
    obtain ⟨_, _, ⟨T200, L200, k200, n200⟩, -, X200, hSi200, hge200, ⟨Lc200, hQ200, l200, y200, z200⟩, st200⟩ := X199.virtualBackS hx (y := (⟨"corbel/structures/ArrayStack", "add", "(Ljava/lang/Object;)Z"⟩ : MethodName)) (z := (⟨"corbel/structures/ArrayStack", "add", "(Ljava/lang/Object;)Z"⟩ : MethodName)) hown198 (mvT hZ198 w_38) (mvT hZ198 w_39) (notFace_of_selects (args := #[]) (mvT hZ198 w_41)) (mvT hZ198 w_41) (mvT hZ198 w_40) (by decide) (backOfS (W := 0) (rm7s3 l Z a0 hw [] b191 r199 r198 mr ((((0 : Int32) + 1) + 1) + 1) r193 r195 r197 T199.heap n0 Z199 E198_199 Fe198_199 Fs198_199 Fm198_199 A198_199 E193_194_195_196_197_198_199 E195_196_197_198_199 E197_198_199 E199 g_b191 g_r198 M0) hZ198 w_42 w_2 (by decide) (by decide)) q200a q200c (g := (mkF m 93 #[.val (.int p1), .val (.int p2), .val (.int p3), .val (.int p4), .val (.int p5), .val (.int p6), .val (.int (4 : Int32)), .val (.int (if ((XT.ushr p5 (2 : Int32)) &&& (1 : Int32)) = (0 : Int32) then (0 : Int32) else (1 : Int32))), .val (.ref b191), .unset, .unset, .unset, .unset] [(.ref r199), (.ref b191)])) rfl (by rw [hml]; rfl) (Steps.refl _) (argsL := [(.ref r199)]) (rest := []) (lenOf pd_49 rfl) rfl (by show 2 * 0 + _ ≤ _; exact Nat.le_of_eq rfl) (hb hby at_93) (fun _ _ => ⟨rfl, e199, (by decide : 14 + 2 ≤ _), (by decide : 110 + 32 ≤ _)⟩)
    dsimp only [Pt.U, Pt.locs, Pt.cells, Pt.slots] at X200 l200 y200 z200 st200 hQ200 hSi200 hge200
    subst l200 y200 z200
    obtain ⟨Y200, HS200, hZ200, hown200⟩ := rebS HS198 (by rw [e199]; exact HK199) X200 hSi200 hge200 hZ198 hown198
    have HK200 := Nat.le_refl T200.heap.size
    obtain ⟨r200, rfl, N200q, Kc200, hb200, E200, Fe200, Fs200, Fm200, A200⟩ := hQ200
    have N200 := Fr.app N199 N200q
    have g_r200 : n0 ≤ r200 := hb200.elim (fun q => q ▸ g_r198) (fun q => Nat.le_trans Z199 q)
    have sz_r200 : h0.size ≤ r200 := hb200.elim (fun q => q ▸ sz_r198) (fun q => Nat.le_trans K199.1 q)
    have O_200 : Old Z n0 T200.heap := O_199.keep Kc200 (allS g_b191 (allS g_r198 all0))
    have E198_199_200 : Exa Z T200.heap b191 "corbel/structures/ArrayStack" := E198_199.keep Kc200
    have E193_194_195_196_197_198_199_200 : Exa Z T200.heap r193 "java/lang/Integer" := E193_194_195_196_197_198_199.keep Kc200
    have F193_194_195_196_197_198_199_200 : Fld Z T200.heap r193 "java/lang/Integer" "value" "I" (.int p1) := F193_194_195_196_197_198_199.keep Kc200 (ninS (Exa.ne E193_194_195_196_197_198_199 E198_199 (by decide)) (ninS (Exa.ne E193_194_195_196_197_198_199 A198_199.exa (by decide)) nin0))
    have E195_196_197_198_199_200 : Exa Z T200.heap r195 "java/lang/Integer" := E195_196_197_198_199.keep Kc200
    have F195_196_197_198_199_200 : Fld Z T200.heap r195 "java/lang/Integer" "value" "I" (.int p2) := F195_196_197_198_199.keep Kc200 (ninS (Exa.ne E195_196_197_198_199 E198_199 (by decide)) (ninS (Exa.ne E195_196_197_198_199 A198_199.exa (by decide)) nin0))
    have E197_198_199_200 : Exa Z T200.heap r197 "java/lang/Integer" := E197_198_199.keep Kc200
    have F197_198_199_200 : Fld Z T200.heap r197 "java/lang/Integer" "value" "I" (.int p3) := F197_198_199.keep Kc200 (ninS (Exa.ne E197_198_199 E198_199 (by decide)) (ninS (Exa.ne E197_198_199 A198_199.exa (by decide)) nin0))
    have E199_200 : Exa Z T200.heap r199 "java/lang/Integer" := E199.keep Kc200
    have F199_200 : Fld Z T200.heap r199 "java/lang/Integer" "value" "I" (.int p4) := F199.keep Kc200 (ninS (Exa.ne E199 E198_199 (by decide)) (ninS (Exa.ne E199 A198_199.exa (by decide)) nin0))
    have K200 : Keep h0 T200.heap [] := K199.trans Kc200 (allS (Or.inr sz_b191) (allS (Or.inr sz_r198) all0))
    have Z200 : n0 ≤ T200.heap.size := Nat.le_trans Z199 Kc200.1
    have e200 : T200.heap = T200.heap := rfl
    refine Goes.tr st200 ?_
    show Goes p e below KK T200 (mkF m 96 #[.val (.int p1), .val (.int p2), .val (.int p3), .val (.int p4), .val (.int p5), .val (.int p6), .val (.int (4 : Int32)), .val (.int (if ((XT.ushr p5 (2 : Int32)) &&& (1 : Int32)) = (0 : Int32) then (0 : Int32) else (1 : Int32))), .val (.ref b191), .unset, .unset, .unset, .unset] [(.int (1 : Int32))])
    refine Goes.of (fun t => XT.pop Y200.here hx rfl (hb hby at_96) rfl rfl) ?_
    show Goes p e below KK T200 (mkF m 97 #[.val (.int p1), .val (.int p2), .val (.int p3), .val (.int p4), .val (.int p5), .val (.int p6), .val (.int (4 : Int32)), .val (.int (if ((XT.ushr p5 (2 : Int32)) &&& (1 : Int32)) = (0 : Int32) then (0 : Int32) else (1 : Int32))), .val (.ref b191), .unset, .unset, .unset, .unset] [])
    refine Goes.of (fun t => XS.iload Y200.here hx rfl (hb hby at_97) rfl) ?_
    show Goes p e below KK T200 (mkF m 99 #[.val (.int p1), .val (.int p2), .val (.int p3), .val (.int p4), .val (.int p5), .val (.int p6), .val (.int (4 : Int32)), .val (.int (if ((XT.ushr p5 (2 : Int32)) &&& (1 : Int32)) = (0 : Int32) then (0 : Int32) else (1 : Int32))), .val (.ref b191), .unset, .unset, .unset, .unset] [(.int (4 : Int32))])
    refine Goes.of (fun t => XS.istore Y200.here hx rfl (hb hby at_99) rfl (l' := #[.val (.int p1), .val (.int p2), .val (.int p3), .val (.int p4), .val (.int p5), .val (.int p6), .val (.int (4 : Int32)), .val (.int (if ((XT.ushr p5 (2 : Int32)) &&& (1 : Int32)) = (0 : Int32) then (0 : Int32) else (1 : Int32))), .val (.ref b191), .val (.int (4 : Int32)), .unset, .unset, .unset]) rfl) ?_
    show Goes p e below KK T200 (mkF m 101 #[.val (.int p1), .val (.int p2), .val (.int p3), .val (.int p4), .val (.int p5), .val (.int p6), .val (.int (4 : Int32)), .val (.int (if ((XT.ushr p5 (2 : Int32)) &&& (1 : Int32)) = (0 : Int32) then (0 : Int32) else (1 : Int32))), .val (.ref b191), .val (.int (4 : Int32)), .unset, .unset, .unset] [])
    refine Goes.of (fun t => XS.iload Y200.here hx rfl (hb hby at_101) rfl) ?_
    show Goes p e below KK T200 (mkF m 103 #[.val (.int p1), .val (.int p2), .val (.int p3), .val (.int p4), .val (.int p5), .val (.int p6), .val (.int (4 : Int32)), .val (.int (if ((XT.ushr p5 (2 : Int32)) &&& (1 : Int32)) = (0 : Int32) then (0 : Int32) else (1 : Int32))), .val (.ref b191), .val (.int (4 : Int32)), .unset, .unset, .unset] [(.int (if ((XT.ushr p5 (2 : Int32)) &&& (1 : Int32)) = (0 : Int32) then (0 : Int32) else (1 : Int32)))])
    by_cases hc103_4 : (if ((XT.ushr p5 (2 : Int32)) &&& (1 : Int32)) = (0 : Int32) then (0 : Int32) else (1 : Int32)) = (0 : Int32)
    · refine Goes.of (fun t => XS.ifYes Y200.here hx rfl (pc0 := 103) (pc' := 118) rfl (hb hby at_103) rfl ((if0 _ _).trans (teq hc103_4).1) (by decide) (by decide)) ?_
      show Goes p e below KK T200 (mkF m 118 #[.val (.int p1), .val (.int p2), .val (.int p3), .val (.int p4), .val (.int p5), .val (.int p6), .val (.int (4 : Int32)), .val (.int (if ((XT.ushr p5 (2 : Int32)) &&& (1 : Int32)) = (0 : Int32) then (0 : Int32) else (1 : Int32))), .val (.ref b191), .val (.int (4 : Int32)), .unset, .unset, .unset] [])
      refine Goes.of (fun t => XS.iload Y200.here hx rfl (hb hby at_118) rfl) ?_
      show Goes p e below KK T200 (mkF m 120 #[.val (.int p1), .val (.int p2), .val (.int p3), .val (.int p4), .val (.int p5), .val (.int p6), .val (.int (4 : Int32)), .val (.int (if ((XT.ushr p5 (2 : Int32)) &&& (1 : Int32)) = (0 : Int32) then (0 : Int32) else (1 : Int32))), .val (.ref b191), .val (.int (4 : Int32)), .unset, .unset, .unset] [(.int p6)])
      refine Goes.of (Y200.ldcInt hx hown200 (mvT hZ200 w_64) (g := (mkF m 120 #[.val (.int p1), .val (.int p2), .val (.int p3), .val (.int p4), .val (.int p5), .val (.int p6), .val (.int (4 : Int32)), .val (.int (if ((XT.ushr p5 (2 : Int32)) &&& (1 : Int32)) = (0 : Int32) then (0 : Int32) else (1 : Int32))), .val (.ref b191), .val (.int (4 : Int32)), .unset, .unset, .unset] [(.int p6)])) rfl (hb hby at_120)) ?_
      show Goes p e below KK T200 (mkF m 122 #[.val (.int p1), .val (.int p2), .val (.int p3), .val (.int p4), .val (.int p5), .val (.int p6), .val (.int (4 : Int32)), .val (.int (if ((XT.ushr p5 (2 : Int32)) &&& (1 : Int32)) = (0 : Int32) then (0 : Int32) else (1 : Int32))), .val (.ref b191), .val (.int (4 : Int32)), .unset, .unset, .unset] [(.int (2147483647 : Int32)), (.int p6)])
      refine Goes.of (fun t => XS.iand Y200.here hx rfl (hb hby at_122) rfl) ?_
      show Goes p e below KK T200 (mkF m 123 #[.val (.int p1), .val (.int p2), .val (.int p3), .val (.int p4), .val (.int p5), .val (.int p6), .val (.int (4 : Int32)), .val (.int (if ((XT.ushr p5 (2 : Int32)) &&& (1 : Int32)) = (0 : Int32) then (0 : Int32) else (1 : Int32))), .val (.ref b191), .val (.int (4 : Int32)), .unset, .unset, .unset] [(.int (p6 &&& (2147483647 : Int32)))])
      refine Goes.of (fun t => XS.iload Y200.here hx rfl (hb hby at_123) rfl) ?_
      show Goes p e below KK T200 (mkF m 125 #[.val (.int p1), .val (.int p2), .val (.int p3), .val (.int p4), .val (.int p5), .val (.int p6), .val (.int (4 : Int32)), .val (.int (if ((XT.ushr p5 (2 : Int32)) &&& (1 : Int32)) = (0 : Int32) then (0 : Int32) else (1 : Int32))), .val (.ref b191), .val (.int (4 : Int32)), .unset, .unset, .unset] [(.int (4 : Int32)), (.int (p6 &&& (2147483647 : Int32)))])
      refine Goes.of (fun t => iremM Y200 hx rfl (hb hby at_125) rfl (by decide)) ?_
      show Goes p e below KK T200 (mkF m 126 #[.val (.int p1), .val (.int p2), .val (.int p3), .val (.int p4), .val (.int p5), .val (.int p6), .val (.int (4 : Int32)), .val (.int (if ((XT.ushr p5 (2 : Int32)) &&& (1 : Int32)) = (0 : Int32) then (0 : Int32) else (1 : Int32))), .val (.ref b191), .val (.int (4 : Int32)), .unset, .unset, .unset] [(.int ((p6 &&& (2147483647 : Int32)) % (4 : Int32)))])
      generalize e_ix : ((p6 &&& (2147483647 : Int32)) % (4 : Int32)) = ix
      show Goes p e below KK T200 (mkF m 126 #[.val (.int p1), .val (.int p2), .val (.int p3), .val (.int p4), .val (.int p5), .val (.int p6), .val (.int (4 : Int32)), .val (.int (if ((XT.ushr p5 (2 : Int32)) &&& (1 : Int32)) = (0 : Int32) then (0 : Int32) else (1 : Int32))), .val (.ref b191), .val (.int (4 : Int32)), .unset, .unset, .unset] [(.int ix)])
      have hi1_201 : (p6 &&& 2147483647).toInt = p6.toInt % 2 ^ 31 := Jvm.Kit.i32_mask p6 2147483647 (k := 31) (by decide) (by decide)
      have hi2_201 : ix.toInt = (p6 &&& 2147483647).toInt % 4 := by rw [← e_ix]; exact Jvm.Kit.i32_rem_nonneg (by omega)
      have hi3_201 : ix = 0 ∨ ix = 1 ∨ ix = 2 ∨ ix = 3 := by
        have a1 : ix.toInt = 0 ∨ ix.toInt = 1 ∨ ix.toInt = 2 ∨ ix.toInt = 3 := by omega
        exact a1.imp Int32.toInt_inj.mp (fun q => q.imp Int32.toInt_inj.mp (fun q => q.imp Int32.toInt_inj.mp Int32.toInt_inj.mp))
      rcases hi3_201 with hi | hi | hi | hi
      · subst hi
        show Goes p e below KK T200 (mkF m 126 #[.val (.int p1), .val (.int p2), .val (.int p3), .val (.int p4), .val (.int p5), .val (.int p6), .val (.int (4 : Int32)), .val (.int (if ((XT.ushr p5 (2 : Int32)) &&& (1 : Int32)) = (0 : Int32) then (0 : Int32) else (1 : Int32))), .val (.ref b191), .val (.int (4 : Int32)), .unset, .unset, .unset] [(.int (0 : Int32))])
        refine Goes.of (fun t => XS.istore Y200.here hx rfl (hb hby at_126) rfl (l' := #[.val (.int p1), .val (.int p2), .val (.int p3), .val (.int p4), .val (.int p5), .val (.int p6), .val (.int (4 : Int32)), .val (.int (if ((XT.ushr p5 (2 : Int32)) &&& (1 : Int32)) = (0 : Int32) then (0 : Int32) else (1 : Int32))), .val (.ref b191), .val (.int (4 : Int32)), .val (.int (0 : Int32)), .unset, .unset]) rfl) ?_
        show Goes p e below KK T200 (mkF m 128 #[.val (.int p1), .val (.int p2), .val (.int p3), .val (.int p4), .val (.int p5), .val (.int p6), .val (.int (4 : Int32)), .val (.int (if ((XT.ushr p5 (2 : Int32)) &&& (1 : Int32)) = (0 : Int32) then (0 : Int32) else (1 : Int32))), .val (.ref b191), .val (.int (4 : Int32)), .val (.int (0 : Int32)), .unset, .unset] [])
        refine Goes.of (fun t => XS.iload Y200.here hx rfl (hb hby at_128) rfl) ?_
        show Goes p e below KK T200 (mkF m 130 #[.val (.int p1), .val (.int p2), .val (.int p3), .val (.int p4), .val (.int p5), .val (.int p6), .val (.int (4 : Int32)), .val (.int (if ((XT.ushr p5 (2 : Int32)) &&& (1 : Int32)) = (0 : Int32) then (0 : Int32) else (1 : Int32))), .val (.ref b191), .val (.int (4 : Int32)), .val (.int (0 : Int32)), .unset, .unset] [(.int (0 : Int32))])
        refine Goes.of (fun t => XS.ifNo Y200.here hx rfl (hb hby at_130) rfl ((if0 _ _).trans (teq (show (0 : Int32) = (0 : Int32) from by decide)).2)) ?_
        show Goes p e below KK T200 (mkF m 133 #[.val (.int p1), .val (.int p2), .val (.int p3), .val (.int p4), .val (.int p5), .val (.int p6), .val (.int (4 : Int32)), .val (.int (if ((XT.ushr p5 (2 : Int32)) &&& (1 : Int32)) = (0 : Int32) then (0 : Int32) else (1 : Int32))), .val (.ref b191), .val (.int (4 : Int32)), .val (.int (0 : Int32)), .unset, .unset] [])
        refine Goes.of (fun t => XS.iloadN Y200.here hx rfl (hb hby at_133) rfl) ?_
        show Goes p e below KK T200 (mkF m 134 #[.val (.int p1), .val (.int p2), .val (.int p3), .val (.int p4), .val (.int p5), .val (.int p6), .val (.int (4 : Int32)), .val (.int (if ((XT.ushr p5 (2 : Int32)) &&& (1 : Int32)) = (0 : Int32) then (0 : Int32) else (1 : Int32))), .val (.ref b191), .val (.int (4 : Int32)), .val (.int (0 : Int32)), .unset, .unset] [(.int p1)])
        refine Goes.of (fun t => XS.istore Y200.here hx rfl (hb hby at_134) rfl (l' := #[.val (.int p1), .val (.int p2), .val (.int p3), .val (.int p4), .val (.int p5), .val (.int p6), .val (.int (4 : Int32)), .val (.int (if ((XT.ushr p5 (2 : Int32)) &&& (1 : Int32)) = (0 : Int32) then (0 : Int32) else (1 : Int32))), .val (.ref b191), .val (.int (4 : Int32)), .val (.int (0 : Int32)), .val (.int p1), .unset]) rfl) ?_
        show Goes p e below KK T200 (mkF m 136 #[.val (.int p1), .val (.int p2), .val (.int p3), .val (.int p4), .val (.int p5), .val (.int p6), .val (.int (4 : Int32)), .val (.int (if ((XT.ushr p5 (2 : Int32)) &&& (1 : Int32)) = (0 : Int32) then (0 : Int32) else (1 : Int32))), .val (.ref b191), .val (.int (4 : Int32)), .val (.int (0 : Int32)), .val (.int p1), .unset] [])
        refine Goes.of (fun t => XS.goto Y200.here hx rfl (pc0 := 136) (pc' := 166) rfl (hb hby at_136) (by decide) (by decide)) ?_
        show Goes p e below KK T200 (mkF m 166 #[.val (.int p1), .val (.int p2), .val (.int p3), .val (.int p4), .val (.int p5), .val (.int p6), .val (.int (4 : Int32)), .val (.int (if ((XT.ushr p5 (2 : Int32)) &&& (1 : Int32)) = (0 : Int32) then (0 : Int32) else (1 : Int32))), .val (.ref b191), .val (.int (4 : Int32)), .val (.int (0 : Int32)), .val (.int p1), .unset] [])
        refine Goes.of (fun t => XS.aload Y200.here hx rfl (hb hby at_166) rfl rfl) ?_
        show Goes p e below KK T200 (mkF m 168 #[.val (.int p1), .val (.int p2), .val (.int p3), .val (.int p4), .val (.int p5), .val (.int p6), .val (.int (4 : Int32)), .val (.int (if ((XT.ushr p5 (2 : Int32)) &&& (1 : Int32)) = (0 : Int32) then (0 : Int32) else (1 : Int32))), .val (.ref b191), .val (.int (4 : Int32)), .val (.int (0 : Int32)), .val (.int p1), .unset] [(.ref b191)])
        refine Goes.of (fun t => XS.iload Y200.here hx rfl (hb hby at_168) rfl) ?_
        show Goes p e below KK T200 (mkF m 170 #[.val (.int p1), .val (.int p2), .val (.int p3), .val (.int p4), .val (.int p5), .val (.int p6), .val (.int (4 : Int32)), .val (.int (if ((XT.ushr p5 (2 : Int32)) &&& (1 : Int32)) = (0 : Int32) then (0 : Int32) else (1 : Int32))), .val (.ref b191), .val (.int (4 : Int32)), .val (.int (0 : Int32)), .val (.int p1), .unset] [(.int (0 : Int32)), (.ref b191)])
        obtain ⟨cq202, kq202, q202a, q202b, q202c⟩ := isOf hZ200 e200 E200
        obtain ⟨_, _, ⟨T202, L202, k202, n202⟩, -, X202, ⟨Lc202, hQ202, l202, y202, z202⟩, st202⟩ := Y200.virtualBack hx (y := (⟨"corbel/structures/ArrayStack", "get", "(I)Ljava/lang/Object;"⟩ : MethodName)) (z := (⟨"corbel/structures/ArrayStack", "get", "(I)Ljava/lang/Object;"⟩ : MethodName)) hown200 (mvT hZ200 w_65) (mvT hZ200 w_66) (notFace_of_selects (args := #[]) (mvT hZ200 w_68)) (mvT hZ200 w_68) (mvT hZ200 w_67) (by decide) (backOf (W := 0) (rm10 l Z a0 hw [] b191 (0 : Int32) r200 [(.ref r193), (.ref r195), (.ref r197), (.ref r199)] 0 r193 (4 : Int32) T200.heap n0 Z200 E200 Fe200 Fs200 A200 (by decide) (by decide) rfl rfl) hZ200 w_69 w_2 (by decide) (by decide)) q202a q202c (g := (mkF m 170 #[.val (.int p1), .val (.int p2), .val (.int p3), .val (.int p4), .val (.int p5), .val (.int p6), .val (.int (4 : Int32)), .val (.int (if ((XT.ushr p5 (2 : Int32)) &&& (1 : Int32)) = (0 : Int32) then (0 : Int32) else (1 : Int32))), .val (.ref b191), .val (.int (4 : Int32)), .val (.int (0 : Int32)), .val (.int p1), .unset] [(.int (0 : Int32)), (.ref b191)])) rfl (by rw [hml]; rfl) (Steps.refl _) (argsL := [(.int (0 : Int32))]) (rest := []) (lenOf pd_16 rfl) rfl (by show 2 * 0 + _ ≤ _; exact Nat.le_of_eq rfl) (hb hby at_170) (fun _ _ => ⟨rfl, e200, (by decide : 16 + 0 ≤ _), (by decide : 142 + 0 ≤ _)⟩)
        dsimp only [Pt.U, Pt.locs, Pt.cells, Pt.slots] at X202 l202 y202 z202 st202 hQ202
        subst l202 y202 z202
        obtain ⟨rfl, N202q, e202⟩ := hQ202
        have N202 := Fr.app N200 N202q
        refine Goes.tr st202 ?_
        show Goes p e below KK T202 (mkF m 173 #[.val (.int p1), .val (.int p2), .val (.int p3), .val (.int p4), .val (.int p5), .val (.int p6), .val (.int (4 : Int32)), .val (.int (if ((XT.ushr p5 (2 : Int32)) &&& (1 : Int32)) = (0 : Int32) then (0 : Int32) else (1 : Int32))), .val (.ref b191), .val (.int (4 : Int32)), .val (.int (0 : Int32)), .val (.int p1), .unset] [(.ref r193)])
        obtain ⟨T203, X203, e203, st203⟩ := castY X202 hx hZ200 hown200 w_81 e202 (Ins.self E193_194_195_196_197_198_199_200) (g := (mkF m 173 #[.val (.int p1), .val (.int p2), .val (.int p3), .val (.int p4), .val (.int p5), .val (.int p6), .val (.int (4 : Int32)), .val (.int (if ((XT.ushr p5 (2 : Int32)) &&& (1 : Int32)) = (0 : Int32) then (0 : Int32) else (1 : Int32))), .val (.ref b191), .val (.int (4 : Int32)), .val (.int (0 : Int32)), .val (.int p1), .unset] [(.ref r193)])) rfl rfl (hb hby at_173)
        refine Goes.of (st203) ?_
        show Goes p e below KK T203 (mkF m 176 #[.val (.int p1), .val (.int p2), .val (.int p3), .val (.int p4), .val (.int p5), .val (.int p6), .val (.int (4 : Int32)), .val (.int (if ((XT.ushr p5 (2 : Int32)) &&& (1 : Int32)) = (0 : Int32) then (0 : Int32) else (1 : Int32))), .val (.ref b191), .val (.int (4 : Int32)), .val (.int (0 : Int32)), .val (.int p1), .unset] [(.ref r193)])
        refine Goes.of (fun t => XS.astore X203.here hx rfl (hb hby at_176) rfl rfl (l' := #[.val (.int p1), .val (.int p2), .val (.int p3), .val (.int p4), .val (.int p5), .val (.int p6), .val (.int (4 : Int32)), .val (.int (if ((XT.ushr p5 (2 : Int32)) &&& (1 : Int32)) = (0 : Int32) then (0 : Int32) else (1 : Int32))), .val (.ref b191), .val (.int (4 : Int32)), .val (.int (0 : Int32)), .val (.int p1), .val (.ref r193)]) rfl) ?_
        show Goes p e below KK T203 (mkF m 178 #[.val (.int p1), .val (.int p2), .val (.int p3), .val (.int p4), .val (.int p5), .val (.int p6), .val (.int (4 : Int32)), .val (.int (if ((XT.ushr p5 (2 : Int32)) &&& (1 : Int32)) = (0 : Int32) then (0 : Int32) else (1 : Int32))), .val (.ref b191), .val (.int (4 : Int32)), .val (.int (0 : Int32)), .val (.int p1), .val (.ref r193)] [])
        refine Goes.of (fun t => XS.aload X203.here hx rfl (hb hby at_178) rfl rfl) ?_
        show Goes p e below KK T203 (mkF m 180 #[.val (.int p1), .val (.int p2), .val (.int p3), .val (.int p4), .val (.int p5), .val (.int p6), .val (.int (4 : Int32)), .val (.int (if ((XT.ushr p5 (2 : Int32)) &&& (1 : Int32)) = (0 : Int32) then (0 : Int32) else (1 : Int32))), .val (.ref b191), .val (.int (4 : Int32)), .val (.int (0 : Int32)), .val (.int p1), .val (.ref r193)] [(.ref r193)])
        refine Goes.of (fun t => XS.ifnullNo X203.here hx rfl (hb hby at_180) rfl) ?_
        show Goes p e below KK T203 (mkF m 183 #[.val (.int p1), .val (.int p2), .val (.int p3), .val (.int p4), .val (.int p5), .val (.int p6), .val (.int (4 : Int32)), .val (.int (if ((XT.ushr p5 (2 : Int32)) &&& (1 : Int32)) = (0 : Int32) then (0 : Int32) else (1 : Int32))), .val (.ref b191), .val (.int (4 : Int32)), .val (.int (0 : Int32)), .val (.int p1), .val (.ref r193)] [])
        refine Goes.of (fun t => XS.aload X203.here hx rfl (hb hby at_183) rfl rfl) ?_
        show Goes p e below KK T203 (mkF m 185 #[.val (.int p1), .val (.int p2), .val (.int p3), .val (.int p4), .val (.int p5), .val (.int p6), .val (.int (4 : Int32)), .val (.int (if ((XT.ushr p5 (2 : Int32)) &&& (1 : Int32)) = (0 : Int32) then (0 : Int32) else (1 : Int32))), .val (.ref b191), .val (.int (4 : Int32)), .val (.int (0 : Int32)), .val (.int p1), .val (.ref r193)] [(.ref r193)])
        obtain ⟨cq204, kq204, q204a, q204b, q204c⟩ := isOf hZ200 e203 E193_194_195_196_197_198_199_200
        obtain ⟨_, _, ⟨T204, L204, k204, n204⟩, -, X204, ⟨Lc204, hQ204, l204, y204, z204⟩, st204⟩ := X203.virtualBack hx (y := (⟨"java/lang/Integer", "intValue", "()I"⟩ : MethodName)) (z := (⟨"java/lang/Integer", "intValue", "()I"⟩ : MethodName)) hown200 (mvT hZ200 w_83) (mvT hZ200 w_84) (notFace_of_selects (args := #[]) (mvT hZ200 w_86)) (mvT hZ200 w_86) (mvT hZ200 w_85) (by decide) (backOf (W := 0) (rm14 l Z a0 hw [] r193 p1 T200.heap n0 Z200 F193_194_195_196_197_198_199_200) hZ200 w_87 w_33 (by decide) (by decide)) q204a q204c (g := (mkF m 185 #[.val (.int p1), .val (.int p2), .val (.int p3), .val (.int p4), .val (.int p5), .val (.int p6), .val (.int (4 : Int32)), .val (.int (if ((XT.ushr p5 (2 : Int32)) &&& (1 : Int32)) = (0 : Int32) then (0 : Int32) else (1 : Int32))), .val (.ref b191), .val (.int (4 : Int32)), .val (.int (0 : Int32)), .val (.int p1), .val (.ref r193)] [(.ref r193)])) rfl (by rw [hml]; rfl) (Steps.refl _) (argsL := []) (rest := []) (lenOf pd_50 rfl) rfl (by show 2 * 0 + _ ≤ _; exact Nat.le_of_eq rfl) (hb hby at_185) (fun _ _ => ⟨rfl, e203, (by decide : 16 + 0 ≤ _), (by decide : 142 + 0 ≤ _)⟩)
        dsimp only [Pt.U, Pt.locs, Pt.cells, Pt.slots] at X204 l204 y204 z204 st204 hQ204
        subst l204 y204 z204
        obtain ⟨rfl, N204q, e204⟩ := hQ204
        have N204 := Fr.app N202 N204q
        refine Goes.tr st204 ?_
        show Goes p e below KK T204 (mkF m 188 #[.val (.int p1), .val (.int p2), .val (.int p3), .val (.int p4), .val (.int p5), .val (.int p6), .val (.int (4 : Int32)), .val (.int (if ((XT.ushr p5 (2 : Int32)) &&& (1 : Int32)) = (0 : Int32) then (0 : Int32) else (1 : Int32))), .val (.ref b191), .val (.int (4 : Int32)), .val (.int (0 : Int32)), .val (.int p1), .val (.ref r193)] [(.int p1)])
        refine Goes.of (fun t => XS.iload X204.here hx rfl (hb hby at_188) rfl) ?_
        show Goes p e below KK T204 (mkF m 190 #[.val (.int p1), .val (.int p2), .val (.int p3), .val (.int p4), .val (.int p5), .val (.int p6), .val (.int (4 : Int32)), .val (.int (if ((XT.ushr p5 (2 : Int32)) &&& (1 : Int32)) = (0 : Int32) then (0 : Int32) else (1 : Int32))), .val (.ref b191), .val (.int (4 : Int32)), .val (.int (0 : Int32)), .val (.int p1), .val (.ref r193)] [(.int p1), (.int p1)])
        refine Goes.of (fun t => XS.icmpNo X204.here hx rfl (hb hby at_190) rfl (teq (show p1 = p1 from rfl)).2) ?_
        show Goes p e below KK T204 (mkF m 193 #[.val (.int p1), .val (.int p2), .val (.int p3), .val (.int p4), .val (.int p5), .val (.int p6), .val (.int (4 : Int32)), .val (.int (if ((XT.ushr p5 (2 : Int32)) &&& (1 : Int32)) = (0 : Int32) then (0 : Int32) else (1 : Int32))), .val (.ref b191), .val (.int (4 : Int32)), .val (.int (0 : Int32)), .val (.int p1), .val (.ref r193)] [])
        refine Goes.of (fun t => XS.iconst X204.here hx rfl (hb hby at_193)) ?_
        show Goes p e below KK T204 (mkF m 194 #[.val (.int p1), .val (.int p2), .val (.int p3), .val (.int p4), .val (.int p5), .val (.int p6), .val (.int (4 : Int32)), .val (.int (if ((XT.ushr p5 (2 : Int32)) &&& (1 : Int32)) = (0 : Int32) then (0 : Int32) else (1 : Int32))), .val (.ref b191), .val (.int (4 : Int32)), .val (.int (0 : Int32)), .val (.int p1), .val (.ref r193)] [(.int (1 : Int32))])
        refine Goes.of (fun t => XS.goto X204.here hx rfl (pc0 := 194) (pc' := 198) rfl (hb hby at_194) (by decide) (by decide)) ?_
        show Goes p e below KK T204 (mkF m 198 #[.val (.int p1), .val (.int p2), .val (.int p3), .val (.int p4), .val (.int p5), .val (.int p6), .val (.int (4 : Int32)), .val (.int (if ((XT.ushr p5 (2 : Int32)) &&& (1 : Int32)) = (0 : Int32) then (0 : Int32) else (1 : Int32))), .val (.ref b191), .val (.int (4 : Int32)), .val (.int (0 : Int32)), .val (.int p1), .val (.ref r193)] [(.int (1 : Int32))])
        rw [← hKK]
        refine Goes.retNarW X204 HS200 (by rw [e204]; exact HK200) hx hlk (t := .boolean) (by simp) Bd.returns (hb hby at_198) ?_ (by decide) (by decide)
        rw [e204]
        exact ⟨rfl, N204⟩
      · subst hi
        show Goes p e below KK T200 (mkF m 126 #[.val (.int p1), .val (.int p2), .val (.int p3), .val (.int p4), .val (.int p5), .val (.int p6), .val (.int (4 : Int32)), .val (.int (if ((XT.ushr p5 (2 : Int32)) &&& (1 : Int32)) = (0 : Int32) then (0 : Int32) else (1 : Int32))), .val (.ref b191), .val (.int (4 : Int32)), .unset, .unset, .unset] [(.int (1 : Int32))])
        refine Goes.of (fun t => XS.istore Y200.here hx rfl (hb hby at_126) rfl (l' := #[.val (.int p1), .val (.int p2), .val (.int p3), .val (.int p4), .val (.int p5), .val (.int p6), .val (.int (4 : Int32)), .val (.int (if ((XT.ushr p5 (2 : Int32)) &&& (1 : Int32)) = (0 : Int32) then (0 : Int32) else (1 : Int32))), .val (.ref b191), .val (.int (4 : Int32)), .val (.int (1 : Int32)), .unset, .unset]) rfl) ?_
        show Goes p e below KK T200 (mkF m 128 #[.val (.int p1), .val (.int p2), .val (.int p3), .val (.int p4), .val (.int p5), .val (.int p6), .val (.int (4 : Int32)), .val (.int (if ((XT.ushr p5 (2 : Int32)) &&& (1 : Int32)) = (0 : Int32) then (0 : Int32) else (1 : Int32))), .val (.ref b191), .val (.int (4 : Int32)), .val (.int (1 : Int32)), .unset, .unset] [])
        refine Goes.of (fun t => XS.iload Y200.here hx rfl (hb hby at_128) rfl) ?_
        show Goes p e below KK T200 (mkF m 130 #[.val (.int p1), .val (.int p2), .val (.int p3), .val (.int p4), .val (.int p5), .val (.int p6), .val (.int (4 : Int32)), .val (.int (if ((XT.ushr p5 (2 : Int32)) &&& (1 : Int32)) = (0 : Int32) then (0 : Int32) else (1 : Int32))), .val (.ref b191), .val (.int (4 : Int32)), .val (.int (1 : Int32)), .unset, .unset] [(.int (1 : Int32))])
        refine Goes.of (fun t => XS.ifYes Y200.here hx rfl (pc0 := 130) (pc' := 139) rfl (hb hby at_130) rfl ((if0 _ _).trans (feq (show ¬ ((1 : Int32) = (0 : Int32)) from by decide)).2) (by decide) (by decide)) ?_
        show Goes p e below KK T200 (mkF m 139 #[.val (.int p1), .val (.int p2), .val (.int p3), .val (.int p4), .val (.int p5), .val (.int p6), .val (.int (4 : Int32)), .val (.int (if ((XT.ushr p5 (2 : Int32)) &&& (1 : Int32)) = (0 : Int32) then (0 : Int32) else (1 : Int32))), .val (.ref b191), .val (.int (4 : Int32)), .val (.int (1 : Int32)), .unset, .unset] [])
        refine Goes.of (fun t => XS.iload Y200.here hx rfl (hb hby at_139) rfl) ?_
        show Goes p e below KK T200 (mkF m 141 #[.val (.int p1), .val (.int p2), .val (.int p3), .val (.int p4), .val (.int p5), .val (.int p6), .val (.int (4 : Int32)), .val (.int (if ((XT.ushr p5 (2 : Int32)) &&& (1 : Int32)) = (0 : Int32) then (0 : Int32) else (1 : Int32))), .val (.ref b191), .val (.int (4 : Int32)), .val (.int (1 : Int32)), .unset, .unset] [(.int (1 : Int32))])
        refine Goes.of (fun t => XS.iconst Y200.here hx rfl (hb hby at_141)) ?_
        show Goes p e below KK T200 (mkF m 142 #[.val (.int p1), .val (.int p2), .val (.int p3), .val (.int p4), .val (.int p5), .val (.int p6), .val (.int (4 : Int32)), .val (.int (if ((XT.ushr p5 (2 : Int32)) &&& (1 : Int32)) = (0 : Int32) then (0 : Int32) else (1 : Int32))), .val (.ref b191), .val (.int (4 : Int32)), .val (.int (1 : Int32)), .unset, .unset] [(.int (1 : Int32)), (.int (1 : Int32))])
        refine Goes.of (fun t => XS.icmpNo Y200.here hx rfl (hb hby at_142) rfl (teq (show (1 : Int32) = (1 : Int32) from by decide)).2) ?_
        show Goes p e below KK T200 (mkF m 145 #[.val (.int p1), .val (.int p2), .val (.int p3), .val (.int p4), .val (.int p5), .val (.int p6), .val (.int (4 : Int32)), .val (.int (if ((XT.ushr p5 (2 : Int32)) &&& (1 : Int32)) = (0 : Int32) then (0 : Int32) else (1 : Int32))), .val (.ref b191), .val (.int (4 : Int32)), .val (.int (1 : Int32)), .unset, .unset] [])
        refine Goes.of (fun t => XS.iloadN Y200.here hx rfl (hb hby at_145) rfl) ?_
        show Goes p e below KK T200 (mkF m 146 #[.val (.int p1), .val (.int p2), .val (.int p3), .val (.int p4), .val (.int p5), .val (.int p6), .val (.int (4 : Int32)), .val (.int (if ((XT.ushr p5 (2 : Int32)) &&& (1 : Int32)) = (0 : Int32) then (0 : Int32) else (1 : Int32))), .val (.ref b191), .val (.int (4 : Int32)), .val (.int (1 : Int32)), .unset, .unset] [(.int p2)])
        refine Goes.of (fun t => XS.istore Y200.here hx rfl (hb hby at_146) rfl (l' := #[.val (.int p1), .val (.int p2), .val (.int p3), .val (.int p4), .val (.int p5), .val (.int p6), .val (.int (4 : Int32)), .val (.int (if ((XT.ushr p5 (2 : Int32)) &&& (1 : Int32)) = (0 : Int32) then (0 : Int32) else (1 : Int32))), .val (.ref b191), .val (.int (4 : Int32)), .val (.int (1 : Int32)), .val (.int p2), .unset]) rfl) ?_
        show Goes p e below KK T200 (mkF m 148 #[.val (.int p1), .val (.int p2), .val (.int p3), .val (.int p4), .val (.int p5), .val (.int p6), .val (.int (4 : Int32)), .val (.int (if ((XT.ushr p5 (2 : Int32)) &&& (1 : Int32)) = (0 : Int32) then (0 : Int32) else (1 : Int32))), .val (.ref b191), .val (.int (4 : Int32)), .val (.int (1 : Int32)), .val (.int p2), .unset] [])
        refine Goes.of (fun t => XS.goto Y200.here hx rfl (pc0 := 148) (pc' := 166) rfl (hb hby at_148) (by decide) (by decide)) ?_
        show Goes p e below KK T200 (mkF m 166 #[.val (.int p1), .val (.int p2), .val (.int p3), .val (.int p4), .val (.int p5), .val (.int p6), .val (.int (4 : Int32)), .val (.int (if ((XT.ushr p5 (2 : Int32)) &&& (1 : Int32)) = (0 : Int32) then (0 : Int32) else (1 : Int32))), .val (.ref b191), .val (.int (4 : Int32)), .val (.int (1 : Int32)), .val (.int p2), .unset] [])
        refine Goes.of (fun t => XS.aload Y200.here hx rfl (hb hby at_166) rfl rfl) ?_
        show Goes p e below KK T200 (mkF m 168 #[.val (.int p1), .val (.int p2), .val (.int p3), .val (.int p4), .val (.int p5), .val (.int p6), .val (.int (4 : Int32)), .val (.int (if ((XT.ushr p5 (2 : Int32)) &&& (1 : Int32)) = (0 : Int32) then (0 : Int32) else (1 : Int32))), .val (.ref b191), .val (.int (4 : Int32)), .val (.int (1 : Int32)), .val (.int p2), .unset] [(.ref b191)])
        refine Goes.of (fun t => XS.iload Y200.here hx rfl (hb hby at_168) rfl) ?_
        show Goes p e below KK T200 (mkF m 170 #[.val (.int p1), .val (.int p2), .val (.int p3), .val (.int p4), .val (.int p5), .val (.int p6), .val (.int (4 : Int32)), .val (.int (if ((XT.ushr p5 (2 : Int32)) &&& (1 : Int32)) = (0 : Int32) then (0 : Int32) else (1 : Int32))), .val (.ref b191), .val (.int (4 : Int32)), .val (.int (1 : Int32)), .val (.int p2), .unset] [(.int (1 : Int32)), (.ref b191)])
        obtain ⟨cq205, kq205, q205a, q205b, q205c⟩ := isOf hZ200 e200 E200
        obtain ⟨_, _, ⟨T205, L205, k205, n205⟩, -, X205, ⟨Lc205, hQ205, l205, y205, z205⟩, st205⟩ := Y200.virtualBack hx (y := (⟨"corbel/structures/ArrayStack", "get", "(I)Ljava/lang/Object;"⟩ : MethodName)) (z := (⟨"corbel/structures/ArrayStack", "get", "(I)Ljava/lang/Object;"⟩ : MethodName)) hown200 (mvT hZ200 w_65) (mvT hZ200 w_66) (notFace_of_selects (args := #[]) (mvT hZ200 w_68)) (mvT hZ200 w_68) (mvT hZ200 w_67) (by decide) (backOf (W := 0) (rm10 l Z a0 hw [] b191 (1 : Int32) r200 [(.ref r193), (.ref r195), (.ref r197), (.ref r199)] 1 r195 (4 : Int32) T200.heap n0 Z200 E200 Fe200 Fs200 A200 (by decide) (by decide) rfl rfl) hZ200 w_69 w_2 (by decide) (by decide)) q205a q205c (g := (mkF m 170 #[.val (.int p1), .val (.int p2), .val (.int p3), .val (.int p4), .val (.int p5), .val (.int p6), .val (.int (4 : Int32)), .val (.int (if ((XT.ushr p5 (2 : Int32)) &&& (1 : Int32)) = (0 : Int32) then (0 : Int32) else (1 : Int32))), .val (.ref b191), .val (.int (4 : Int32)), .val (.int (1 : Int32)), .val (.int p2), .unset] [(.int (1 : Int32)), (.ref b191)])) rfl (by rw [hml]; rfl) (Steps.refl _) (argsL := [(.int (1 : Int32))]) (rest := []) (lenOf pd_16 rfl) rfl (by show 2 * 0 + _ ≤ _; exact Nat.le_of_eq rfl) (hb hby at_170) (fun _ _ => ⟨rfl, e200, (by decide : 16 + 0 ≤ _), (by decide : 142 + 0 ≤ _)⟩)
        dsimp only [Pt.U, Pt.locs, Pt.cells, Pt.slots] at X205 l205 y205 z205 st205 hQ205
        subst l205 y205 z205
        obtain ⟨rfl, N205q, e205⟩ := hQ205
        have N205 := Fr.app N200 N205q
        refine Goes.tr st205 ?_
        show Goes p e below KK T205 (mkF m 173 #[.val (.int p1), .val (.int p2), .val (.int p3), .val (.int p4), .val (.int p5), .val (.int p6), .val (.int (4 : Int32)), .val (.int (if ((XT.ushr p5 (2 : Int32)) &&& (1 : Int32)) = (0 : Int32) then (0 : Int32) else (1 : Int32))), .val (.ref b191), .val (.int (4 : Int32)), .val (.int (1 : Int32)), .val (.int p2), .unset] [(.ref r195)])
        obtain ⟨T206, X206, e206, st206⟩ := castY X205 hx hZ200 hown200 w_81 e205 (Ins.self E195_196_197_198_199_200) (g := (mkF m 173 #[.val (.int p1), .val (.int p2), .val (.int p3), .val (.int p4), .val (.int p5), .val (.int p6), .val (.int (4 : Int32)), .val (.int (if ((XT.ushr p5 (2 : Int32)) &&& (1 : Int32)) = (0 : Int32) then (0 : Int32) else (1 : Int32))), .val (.ref b191), .val (.int (4 : Int32)), .val (.int (1 : Int32)), .val (.int p2), .unset] [(.ref r195)])) rfl rfl (hb hby at_173)
        refine Goes.of (st206) ?_
        show Goes p e below KK T206 (mkF m 176 #[.val (.int p1), .val (.int p2), .val (.int p3), .val (.int p4), .val (.int p5), .val (.int p6), .val (.int (4 : Int32)), .val (.int (if ((XT.ushr p5 (2 : Int32)) &&& (1 : Int32)) = (0 : Int32) then (0 : Int32) else (1 : Int32))), .val (.ref b191), .val (.int (4 : Int32)), .val (.int (1 : Int32)), .val (.int p2), .unset] [(.ref r195)])
        refine Goes.of (fun t => XS.astore X206.here hx rfl (hb hby at_176) rfl rfl (l' := #[.val (.int p1), .val (.int p2), .val (.int p3), .val (.int p4), .val (.int p5), .val (.int p6), .val (.int (4 : Int32)), .val (.int (if ((XT.ushr p5 (2 : Int32)) &&& (1 : Int32)) = (0 : Int32) then (0 : Int32) else (1 : Int32))), .val (.ref b191), .val (.int (4 : Int32)), .val (.int (1 : Int32)), .val (.int p2), .val (.ref r195)]) rfl) ?_
        show Goes p e below KK T206 (mkF m 178 #[.val (.int p1), .val (.int p2), .val (.int p3), .val (.int p4), .val (.int p5), .val (.int p6), .val (.int (4 : Int32)), .val (.int (if ((XT.ushr p5 (2 : Int32)) &&& (1 : Int32)) = (0 : Int32) then (0 : Int32) else (1 : Int32))), .val (.ref b191), .val (.int (4 : Int32)), .val (.int (1 : Int32)), .val (.int p2), .val (.ref r195)] [])
        refine Goes.of (fun t => XS.aload X206.here hx rfl (hb hby at_178) rfl rfl) ?_
        show Goes p e below KK T206 (mkF m 180 #[.val (.int p1), .val (.int p2), .val (.int p3), .val (.int p4), .val (.int p5), .val (.int p6), .val (.int (4 : Int32)), .val (.int (if ((XT.ushr p5 (2 : Int32)) &&& (1 : Int32)) = (0 : Int32) then (0 : Int32) else (1 : Int32))), .val (.ref b191), .val (.int (4 : Int32)), .val (.int (1 : Int32)), .val (.int p2), .val (.ref r195)] [(.ref r195)])
        refine Goes.of (fun t => XS.ifnullNo X206.here hx rfl (hb hby at_180) rfl) ?_
        show Goes p e below KK T206 (mkF m 183 #[.val (.int p1), .val (.int p2), .val (.int p3), .val (.int p4), .val (.int p5), .val (.int p6), .val (.int (4 : Int32)), .val (.int (if ((XT.ushr p5 (2 : Int32)) &&& (1 : Int32)) = (0 : Int32) then (0 : Int32) else (1 : Int32))), .val (.ref b191), .val (.int (4 : Int32)), .val (.int (1 : Int32)), .val (.int p2), .val (.ref r195)] [])
        refine Goes.of (fun t => XS.aload X206.here hx rfl (hb hby at_183) rfl rfl) ?_
        show Goes p e below KK T206 (mkF m 185 #[.val (.int p1), .val (.int p2), .val (.int p3), .val (.int p4), .val (.int p5), .val (.int p6), .val (.int (4 : Int32)), .val (.int (if ((XT.ushr p5 (2 : Int32)) &&& (1 : Int32)) = (0 : Int32) then (0 : Int32) else (1 : Int32))), .val (.ref b191), .val (.int (4 : Int32)), .val (.int (1 : Int32)), .val (.int p2), .val (.ref r195)] [(.ref r195)])
        obtain ⟨cq207, kq207, q207a, q207b, q207c⟩ := isOf hZ200 e206 E195_196_197_198_199_200
        obtain ⟨_, _, ⟨T207, L207, k207, n207⟩, -, X207, ⟨Lc207, hQ207, l207, y207, z207⟩, st207⟩ := X206.virtualBack hx (y := (⟨"java/lang/Integer", "intValue", "()I"⟩ : MethodName)) (z := (⟨"java/lang/Integer", "intValue", "()I"⟩ : MethodName)) hown200 (mvT hZ200 w_83) (mvT hZ200 w_84) (notFace_of_selects (args := #[]) (mvT hZ200 w_86)) (mvT hZ200 w_86) (mvT hZ200 w_85) (by decide) (backOf (W := 0) (rm14 l Z a0 hw [] r195 p2 T200.heap n0 Z200 F195_196_197_198_199_200) hZ200 w_87 w_33 (by decide) (by decide)) q207a q207c (g := (mkF m 185 #[.val (.int p1), .val (.int p2), .val (.int p3), .val (.int p4), .val (.int p5), .val (.int p6), .val (.int (4 : Int32)), .val (.int (if ((XT.ushr p5 (2 : Int32)) &&& (1 : Int32)) = (0 : Int32) then (0 : Int32) else (1 : Int32))), .val (.ref b191), .val (.int (4 : Int32)), .val (.int (1 : Int32)), .val (.int p2), .val (.ref r195)] [(.ref r195)])) rfl (by rw [hml]; rfl) (Steps.refl _) (argsL := []) (rest := []) (lenOf pd_50 rfl) rfl (by show 2 * 0 + _ ≤ _; exact Nat.le_of_eq rfl) (hb hby at_185) (fun _ _ => ⟨rfl, e206, (by decide : 16 + 0 ≤ _), (by decide : 142 + 0 ≤ _)⟩)
        dsimp only [Pt.U, Pt.locs, Pt.cells, Pt.slots] at X207 l207 y207 z207 st207 hQ207
        subst l207 y207 z207
        obtain ⟨rfl, N207q, e207⟩ := hQ207
        have N207 := Fr.app N205 N207q
        refine Goes.tr st207 ?_
        show Goes p e below KK T207 (mkF m 188 #[.val (.int p1), .val (.int p2), .val (.int p3), .val (.int p4), .val (.int p5), .val (.int p6), .val (.int (4 : Int32)), .val (.int (if ((XT.ushr p5 (2 : Int32)) &&& (1 : Int32)) = (0 : Int32) then (0 : Int32) else (1 : Int32))), .val (.ref b191), .val (.int (4 : Int32)), .val (.int (1 : Int32)), .val (.int p2), .val (.ref r195)] [(.int p2)])
        refine Goes.of (fun t => XS.iload X207.here hx rfl (hb hby at_188) rfl) ?_
        show Goes p e below KK T207 (mkF m 190 #[.val (.int p1), .val (.int p2), .val (.int p3), .val (.int p4), .val (.int p5), .val (.int p6), .val (.int (4 : Int32)), .val (.int (if ((XT.ushr p5 (2 : Int32)) &&& (1 : Int32)) = (0 : Int32) then (0 : Int32) else (1 : Int32))), .val (.ref b191), .val (.int (4 : Int32)), .val (.int (1 : Int32)), .val (.int p2), .val (.ref r195)] [(.int p2), (.int p2)])
        refine Goes.of (fun t => XS.icmpNo X207.here hx rfl (hb hby at_190) rfl (teq (show p2 = p2 from rfl)).2) ?_
        show Goes p e below KK T207 (mkF m 193 #[.val (.int p1), .val (.int p2), .val (.int p3), .val (.int p4), .val (.int p5), .val (.int p6), .val (.int (4 : Int32)), .val (.int (if ((XT.ushr p5 (2 : Int32)) &&& (1 : Int32)) = (0 : Int32) then (0 : Int32) else (1 : Int32))), .val (.ref b191), .val (.int (4 : Int32)), .val (.int (1 : Int32)), .val (.int p2), .val (.ref r195)] [])
        refine Goes.of (fun t => XS.iconst X207.here hx rfl (hb hby at_193)) ?_
        show Goes p e below KK T207 (mkF m 194 #[.val (.int p1), .val (.int p2), .val (.int p3), .val (.int p4), .val (.int p5), .val (.int p6), .val (.int (4 : Int32)), .val (.int (if ((XT.ushr p5 (2 : Int32)) &&& (1 : Int32)) = (0 : Int32) then (0 : Int32) else (1 : Int32))), .val (.ref b191), .val (.int (4 : Int32)), .val (.int (1 : Int32)), .val (.int p2), .val (.ref r195)] [(.int (1 : Int32))])
        refine Goes.of (fun t => XS.goto X207.here hx rfl (pc0 := 194) (pc' := 198) rfl (hb hby at_194) (by decide) (by decide)) ?_
        show Goes p e below KK T207 (mkF m 198 #[.val (.int p1), .val (.int p2), .val (.int p3), .val (.int p4), .val (.int p5), .val (.int p6), .val (.int (4 : Int32)), .val (.int (if ((XT.ushr p5 (2 : Int32)) &&& (1 : Int32)) = (0 : Int32) then (0 : Int32) else (1 : Int32))), .val (.ref b191), .val (.int (4 : Int32)), .val (.int (1 : Int32)), .val (.int p2), .val (.ref r195)] [(.int (1 : Int32))])
        rw [← hKK]
        refine Goes.retNarW X207 HS200 (by rw [e207]; exact HK200) hx hlk (t := .boolean) (by simp) Bd.returns (hb hby at_198) ?_ (by decide) (by decide)
        rw [e207]
        exact ⟨rfl, N207⟩
      · subst hi
        show Goes p e below KK T200 (mkF m 126 #[.val (.int p1), .val (.int p2), .val (.int p3), .val (.int p4), .val (.int p5), .val (.int p6), .val (.int (4 : Int32)), .val (.int (if ((XT.ushr p5 (2 : Int32)) &&& (1 : Int32)) = (0 : Int32) then (0 : Int32) else (1 : Int32))), .val (.ref b191), .val (.int (4 : Int32)), .unset, .unset, .unset] [(.int (2 : Int32))])
        refine Goes.of (fun t => XS.istore Y200.here hx rfl (hb hby at_126) rfl (l' := #[.val (.int p1), .val (.int p2), .val (.int p3), .val (.int p4), .val (.int p5), .val (.int p6), .val (.int (4 : Int32)), .val (.int (if ((XT.ushr p5 (2 : Int32)) &&& (1 : Int32)) = (0 : Int32) then (0 : Int32) else (1 : Int32))), .val (.ref b191), .val (.int (4 : Int32)), .val (.int (2 : Int32)), .unset, .unset]) rfl) ?_
        show Goes p e below KK T200 (mkF m 128 #[.val (.int p1), .val (.int p2), .val (.int p3), .val (.int p4), .val (.int p5), .val (.int p6), .val (.int (4 : Int32)), .val (.int (if ((XT.ushr p5 (2 : Int32)) &&& (1 : Int32)) = (0 : Int32) then (0 : Int32) else (1 : Int32))), .val (.ref b191), .val (.int (4 : Int32)), .val (.int (2 : Int32)), .unset, .unset] [])
        refine Goes.of (fun t => XS.iload Y200.here hx rfl (hb hby at_128) rfl) ?_
        show Goes p e below KK T200 (mkF m 130 #[.val (.int p1), .val (.int p2), .val (.int p3), .val (.int p4), .val (.int p5), .val (.int p6), .val (.int (4 : Int32)), .val (.int (if ((XT.ushr p5 (2 : Int32)) &&& (1 : Int32)) = (0 : Int32) then (0 : Int32) else (1 : Int32))), .val (.ref b191), .val (.int (4 : Int32)), .val (.int (2 : Int32)), .unset, .unset] [(.int (2 : Int32))])
        refine Goes.of (fun t => XS.ifYes Y200.here hx rfl (pc0 := 130) (pc' := 139) rfl (hb hby at_130) rfl ((if0 _ _).trans (feq (show ¬ ((2 : Int32) = (0 : Int32)) from by decide)).2) (by decide) (by decide)) ?_
        show Goes p e below KK T200 (mkF m 139 #[.val (.int p1), .val (.int p2), .val (.int p3), .val (.int p4), .val (.int p5), .val (.int p6), .val (.int (4 : Int32)), .val (.int (if ((XT.ushr p5 (2 : Int32)) &&& (1 : Int32)) = (0 : Int32) then (0 : Int32) else (1 : Int32))), .val (.ref b191), .val (.int (4 : Int32)), .val (.int (2 : Int32)), .unset, .unset] [])
        refine Goes.of (fun t => XS.iload Y200.here hx rfl (hb hby at_139) rfl) ?_
        show Goes p e below KK T200 (mkF m 141 #[.val (.int p1), .val (.int p2), .val (.int p3), .val (.int p4), .val (.int p5), .val (.int p6), .val (.int (4 : Int32)), .val (.int (if ((XT.ushr p5 (2 : Int32)) &&& (1 : Int32)) = (0 : Int32) then (0 : Int32) else (1 : Int32))), .val (.ref b191), .val (.int (4 : Int32)), .val (.int (2 : Int32)), .unset, .unset] [(.int (2 : Int32))])
        refine Goes.of (fun t => XS.iconst Y200.here hx rfl (hb hby at_141)) ?_
        show Goes p e below KK T200 (mkF m 142 #[.val (.int p1), .val (.int p2), .val (.int p3), .val (.int p4), .val (.int p5), .val (.int p6), .val (.int (4 : Int32)), .val (.int (if ((XT.ushr p5 (2 : Int32)) &&& (1 : Int32)) = (0 : Int32) then (0 : Int32) else (1 : Int32))), .val (.ref b191), .val (.int (4 : Int32)), .val (.int (2 : Int32)), .unset, .unset] [(.int (1 : Int32)), (.int (2 : Int32))])
        refine Goes.of (fun t => XS.icmpYes Y200.here hx rfl (pc0 := 142) (pc' := 151) rfl (hb hby at_142) rfl (feq (show ¬ ((2 : Int32) = (1 : Int32)) from by decide)).2 (by decide) (by decide)) ?_
        show Goes p e below KK T200 (mkF m 151 #[.val (.int p1), .val (.int p2), .val (.int p3), .val (.int p4), .val (.int p5), .val (.int p6), .val (.int (4 : Int32)), .val (.int (if ((XT.ushr p5 (2 : Int32)) &&& (1 : Int32)) = (0 : Int32) then (0 : Int32) else (1 : Int32))), .val (.ref b191), .val (.int (4 : Int32)), .val (.int (2 : Int32)), .unset, .unset] [])
        refine Goes.of (fun t => XS.iload Y200.here hx rfl (hb hby at_151) rfl) ?_
        show Goes p e below KK T200 (mkF m 153 #[.val (.int p1), .val (.int p2), .val (.int p3), .val (.int p4), .val (.int p5), .val (.int p6), .val (.int (4 : Int32)), .val (.int (if ((XT.ushr p5 (2 : Int32)) &&& (1 : Int32)) = (0 : Int32) then (0 : Int32) else (1 : Int32))), .val (.ref b191), .val (.int (4 : Int32)), .val (.int (2 : Int32)), .unset, .unset] [(.int (2 : Int32))])
        refine Goes.of (fun t => XS.iconst Y200.here hx rfl (hb hby at_153)) ?_
        show Goes p e below KK T200 (mkF m 154 #[.val (.int p1), .val (.int p2), .val (.int p3), .val (.int p4), .val (.int p5), .val (.int p6), .val (.int (4 : Int32)), .val (.int (if ((XT.ushr p5 (2 : Int32)) &&& (1 : Int32)) = (0 : Int32) then (0 : Int32) else (1 : Int32))), .val (.ref b191), .val (.int (4 : Int32)), .val (.int (2 : Int32)), .unset, .unset] [(.int (2 : Int32)), (.int (2 : Int32))])
        refine Goes.of (fun t => XS.icmpNo Y200.here hx rfl (hb hby at_154) rfl (teq (show (2 : Int32) = (2 : Int32) from by decide)).2) ?_
        show Goes p e below KK T200 (mkF m 157 #[.val (.int p1), .val (.int p2), .val (.int p3), .val (.int p4), .val (.int p5), .val (.int p6), .val (.int (4 : Int32)), .val (.int (if ((XT.ushr p5 (2 : Int32)) &&& (1 : Int32)) = (0 : Int32) then (0 : Int32) else (1 : Int32))), .val (.ref b191), .val (.int (4 : Int32)), .val (.int (2 : Int32)), .unset, .unset] [])
        refine Goes.of (fun t => XS.iloadN Y200.here hx rfl (hb hby at_157) rfl) ?_
        show Goes p e below KK T200 (mkF m 158 #[.val (.int p1), .val (.int p2), .val (.int p3), .val (.int p4), .val (.int p5), .val (.int p6), .val (.int (4 : Int32)), .val (.int (if ((XT.ushr p5 (2 : Int32)) &&& (1 : Int32)) = (0 : Int32) then (0 : Int32) else (1 : Int32))), .val (.ref b191), .val (.int (4 : Int32)), .val (.int (2 : Int32)), .unset, .unset] [(.int p3)])
        refine Goes.of (fun t => XS.istore Y200.here hx rfl (hb hby at_158) rfl (l' := #[.val (.int p1), .val (.int p2), .val (.int p3), .val (.int p4), .val (.int p5), .val (.int p6), .val (.int (4 : Int32)), .val (.int (if ((XT.ushr p5 (2 : Int32)) &&& (1 : Int32)) = (0 : Int32) then (0 : Int32) else (1 : Int32))), .val (.ref b191), .val (.int (4 : Int32)), .val (.int (2 : Int32)), .val (.int p3), .unset]) rfl) ?_
        show Goes p e below KK T200 (mkF m 160 #[.val (.int p1), .val (.int p2), .val (.int p3), .val (.int p4), .val (.int p5), .val (.int p6), .val (.int (4 : Int32)), .val (.int (if ((XT.ushr p5 (2 : Int32)) &&& (1 : Int32)) = (0 : Int32) then (0 : Int32) else (1 : Int32))), .val (.ref b191), .val (.int (4 : Int32)), .val (.int (2 : Int32)), .val (.int p3), .unset] [])
        refine Goes.of (fun t => XS.goto Y200.here hx rfl (pc0 := 160) (pc' := 166) rfl (hb hby at_160) (by decide) (by decide)) ?_
        show Goes p e below KK T200 (mkF m 166 #[.val (.int p1), .val (.int p2), .val (.int p3), .val (.int p4), .val (.int p5), .val (.int p6), .val (.int (4 : Int32)), .val (.int (if ((XT.ushr p5 (2 : Int32)) &&& (1 : Int32)) = (0 : Int32) then (0 : Int32) else (1 : Int32))), .val (.ref b191), .val (.int (4 : Int32)), .val (.int (2 : Int32)), .val (.int p3), .unset] [])
        refine Goes.of (fun t => XS.aload Y200.here hx rfl (hb hby at_166) rfl rfl) ?_
        show Goes p e below KK T200 (mkF m 168 #[.val (.int p1), .val (.int p2), .val (.int p3), .val (.int p4), .val (.int p5), .val (.int p6), .val (.int (4 : Int32)), .val (.int (if ((XT.ushr p5 (2 : Int32)) &&& (1 : Int32)) = (0 : Int32) then (0 : Int32) else (1 : Int32))), .val (.ref b191), .val (.int (4 : Int32)), .val (.int (2 : Int32)), .val (.int p3), .unset] [(.ref b191)])
        refine Goes.of (fun t => XS.iload Y200.here hx rfl (hb hby at_168) rfl) ?_
        show Goes p e below KK T200 (mkF m 170 #[.val (.int p1), .val (.int p2), .val (.int p3), .val (.int p4), .val (.int p5), .val (.int p6), .val (.int (4 : Int32)), .val (.int (if ((XT.ushr p5 (2 : Int32)) &&& (1 : Int32)) = (0 : Int32) then (0 : Int32) else (1 : Int32))), .val (.ref b191), .val (.int (4 : Int32)), .val (.int (2 : Int32)), .val (.int p3), .unset] [(.int (2 : Int32)), (.ref b191)])
        obtain ⟨cq208, kq208, q208a, q208b, q208c⟩ := isOf hZ200 e200 E200
        obtain ⟨_, _, ⟨T208, L208, k208, n208⟩, -, X208, ⟨Lc208, hQ208, l208, y208, z208⟩, st208⟩ := Y200.virtualBack hx (y := (⟨"corbel/structures/ArrayStack", "get", "(I)Ljava/lang/Object;"⟩ : MethodName)) (z := (⟨"corbel/structures/ArrayStack", "get", "(I)Ljava/lang/Object;"⟩ : MethodName)) hown200 (mvT hZ200 w_65) (mvT hZ200 w_66) (notFace_of_selects (args := #[]) (mvT hZ200 w_68)) (mvT hZ200 w_68) (mvT hZ200 w_67) (by decide) (backOf (W := 0) (rm10 l Z a0 hw [] b191 (2 : Int32) r200 [(.ref r193), (.ref r195), (.ref r197), (.ref r199)] 2 r197 (4 : Int32) T200.heap n0 Z200 E200 Fe200 Fs200 A200 (by decide) (by decide) rfl rfl) hZ200 w_69 w_2 (by decide) (by decide)) q208a q208c (g := (mkF m 170 #[.val (.int p1), .val (.int p2), .val (.int p3), .val (.int p4), .val (.int p5), .val (.int p6), .val (.int (4 : Int32)), .val (.int (if ((XT.ushr p5 (2 : Int32)) &&& (1 : Int32)) = (0 : Int32) then (0 : Int32) else (1 : Int32))), .val (.ref b191), .val (.int (4 : Int32)), .val (.int (2 : Int32)), .val (.int p3), .unset] [(.int (2 : Int32)), (.ref b191)])) rfl (by rw [hml]; rfl) (Steps.refl _) (argsL := [(.int (2 : Int32))]) (rest := []) (lenOf pd_16 rfl) rfl (by show 2 * 0 + _ ≤ _; exact Nat.le_of_eq rfl) (hb hby at_170) (fun _ _ => ⟨rfl, e200, (by decide : 16 + 0 ≤ _), (by decide : 142 + 0 ≤ _)⟩)
        dsimp only [Pt.U, Pt.locs, Pt.cells, Pt.slots] at X208 l208 y208 z208 st208 hQ208
        subst l208 y208 z208
        obtain ⟨rfl, N208q, e208⟩ := hQ208
        have N208 := Fr.app N200 N208q
        refine Goes.tr st208 ?_
        show Goes p e below KK T208 (mkF m 173 #[.val (.int p1), .val (.int p2), .val (.int p3), .val (.int p4), .val (.int p5), .val (.int p6), .val (.int (4 : Int32)), .val (.int (if ((XT.ushr p5 (2 : Int32)) &&& (1 : Int32)) = (0 : Int32) then (0 : Int32) else (1 : Int32))), .val (.ref b191), .val (.int (4 : Int32)), .val (.int (2 : Int32)), .val (.int p3), .unset] [(.ref r197)])
        obtain ⟨T209, X209, e209, st209⟩ := castY X208 hx hZ200 hown200 w_81 e208 (Ins.self E197_198_199_200) (g := (mkF m 173 #[.val (.int p1), .val (.int p2), .val (.int p3), .val (.int p4), .val (.int p5), .val (.int p6), .val (.int (4 : Int32)), .val (.int (if ((XT.ushr p5 (2 : Int32)) &&& (1 : Int32)) = (0 : Int32) then (0 : Int32) else (1 : Int32))), .val (.ref b191), .val (.int (4 : Int32)), .val (.int (2 : Int32)), .val (.int p3), .unset] [(.ref r197)])) rfl rfl (hb hby at_173)
        refine Goes.of (st209) ?_
        show Goes p e below KK T209 (mkF m 176 #[.val (.int p1), .val (.int p2), .val (.int p3), .val (.int p4), .val (.int p5), .val (.int p6), .val (.int (4 : Int32)), .val (.int (if ((XT.ushr p5 (2 : Int32)) &&& (1 : Int32)) = (0 : Int32) then (0 : Int32) else (1 : Int32))), .val (.ref b191), .val (.int (4 : Int32)), .val (.int (2 : Int32)), .val (.int p3), .unset] [(.ref r197)])
        refine Goes.of (fun t => XS.astore X209.here hx rfl (hb hby at_176) rfl rfl (l' := #[.val (.int p1), .val (.int p2), .val (.int p3), .val (.int p4), .val (.int p5), .val (.int p6), .val (.int (4 : Int32)), .val (.int (if ((XT.ushr p5 (2 : Int32)) &&& (1 : Int32)) = (0 : Int32) then (0 : Int32) else (1 : Int32))), .val (.ref b191), .val (.int (4 : Int32)), .val (.int (2 : Int32)), .val (.int p3), .val (.ref r197)]) rfl) ?_
        show Goes p e below KK T209 (mkF m 178 #[.val (.int p1), .val (.int p2), .val (.int p3), .val (.int p4), .val (.int p5), .val (.int p6), .val (.int (4 : Int32)), .val (.int (if ((XT.ushr p5 (2 : Int32)) &&& (1 : Int32)) = (0 : Int32) then (0 : Int32) else (1 : Int32))), .val (.ref b191), .val (.int (4 : Int32)), .val (.int (2 : Int32)), .val (.int p3), .val (.ref r197)] [])
        refine Goes.of (fun t => XS.aload X209.here hx rfl (hb hby at_178) rfl rfl) ?_
        show Goes p e below KK T209 (mkF m 180 #[.val (.int p1), .val (.int p2), .val (.int p3), .val (.int p4), .val (.int p5), .val (.int p6), .val (.int (4 : Int32)), .val (.int (if ((XT.ushr p5 (2 : Int32)) &&& (1 : Int32)) = (0 : Int32) then (0 : Int32) else (1 : Int32))), .val (.ref b191), .val (.int (4 : Int32)), .val (.int (2 : Int32)), .val (.int p3), .val (.ref r197)] [(.ref r197)])
        refine Goes.of (fun t => XS.ifnullNo X209.here hx rfl (hb hby at_180) rfl) ?_
        show Goes p e below KK T209 (mkF m 183 #[.val (.int p1), .val (.int p2), .val (.int p3), .val (.int p4), .val (.int p5), .val (.int p6), .val (.int (4 : Int32)), .val (.int (if ((XT.ushr p5 (2 : Int32)) &&& (1 : Int32)) = (0 : Int32) then (0 : Int32) else (1 : Int32))), .val (.ref b191), .val (.int (4 : Int32)), .val (.int (2 : Int32)), .val (.int p3), .val (.ref r197)] [])
        refine Goes.of (fun t => XS.aload X209.here hx rfl (hb hby at_183) rfl rfl) ?_
        show Goes p e below KK T209 (mkF m 185 #[.val (.int p1), .val (.int p2), .val (.int p3), .val (.int p4), .val (.int p5), .val (.int p6), .val (.int (4 : Int32)), .val (.int (if ((XT.ushr p5 (2 : Int32)) &&& (1 : Int32)) = (0 : Int32) then (0 : Int32) else (1 : Int32))), .val (.ref b191), .val (.int (4 : Int32)), .val (.int (2 : Int32)), .val (.int p3), .val (.ref r197)] [(.ref r197)])
        obtain ⟨cq210, kq210, q210a, q210b, q210c⟩ := isOf hZ200 e209 E197_198_199_200
        obtain ⟨_, _, ⟨T210, L210, k210, n210⟩, -, X210, ⟨Lc210, hQ210, l210, y210, z210⟩, st210⟩ := X209.virtualBack hx (y := (⟨"java/lang/Integer", "intValue", "()I"⟩ : MethodName)) (z := (⟨"java/lang/Integer", "intValue", "()I"⟩ : MethodName)) hown200 (mvT hZ200 w_83) (mvT hZ200 w_84) (notFace_of_selects (args := #[]) (mvT hZ200 w_86)) (mvT hZ200 w_86) (mvT hZ200 w_85) (by decide) (backOf (W := 0) (rm14 l Z a0 hw [] r197 p3 T200.heap n0 Z200 F197_198_199_200) hZ200 w_87 w_33 (by decide) (by decide)) q210a q210c (g := (mkF m 185 #[.val (.int p1), .val (.int p2), .val (.int p3), .val (.int p4), .val (.int p5), .val (.int p6), .val (.int (4 : Int32)), .val (.int (if ((XT.ushr p5 (2 : Int32)) &&& (1 : Int32)) = (0 : Int32) then (0 : Int32) else (1 : Int32))), .val (.ref b191), .val (.int (4 : Int32)), .val (.int (2 : Int32)), .val (.int p3), .val (.ref r197)] [(.ref r197)])) rfl (by rw [hml]; rfl) (Steps.refl _) (argsL := []) (rest := []) (lenOf pd_50 rfl) rfl (by show 2 * 0 + _ ≤ _; exact Nat.le_of_eq rfl) (hb hby at_185) (fun _ _ => ⟨rfl, e209, (by decide : 16 + 0 ≤ _), (by decide : 142 + 0 ≤ _)⟩)
        dsimp only [Pt.U, Pt.locs, Pt.cells, Pt.slots] at X210 l210 y210 z210 st210 hQ210
        subst l210 y210 z210
        obtain ⟨rfl, N210q, e210⟩ := hQ210
        have N210 := Fr.app N208 N210q
        refine Goes.tr st210 ?_
        show Goes p e below KK T210 (mkF m 188 #[.val (.int p1), .val (.int p2), .val (.int p3), .val (.int p4), .val (.int p5), .val (.int p6), .val (.int (4 : Int32)), .val (.int (if ((XT.ushr p5 (2 : Int32)) &&& (1 : Int32)) = (0 : Int32) then (0 : Int32) else (1 : Int32))), .val (.ref b191), .val (.int (4 : Int32)), .val (.int (2 : Int32)), .val (.int p3), .val (.ref r197)] [(.int p3)])
        refine Goes.of (fun t => XS.iload X210.here hx rfl (hb hby at_188) rfl) ?_
        show Goes p e below KK T210 (mkF m 190 #[.val (.int p1), .val (.int p2), .val (.int p3), .val (.int p4), .val (.int p5), .val (.int p6), .val (.int (4 : Int32)), .val (.int (if ((XT.ushr p5 (2 : Int32)) &&& (1 : Int32)) = (0 : Int32) then (0 : Int32) else (1 : Int32))), .val (.ref b191), .val (.int (4 : Int32)), .val (.int (2 : Int32)), .val (.int p3), .val (.ref r197)] [(.int p3), (.int p3)])
        refine Goes.of (fun t => XS.icmpNo X210.here hx rfl (hb hby at_190) rfl (teq (show p3 = p3 from rfl)).2) ?_
        show Goes p e below KK T210 (mkF m 193 #[.val (.int p1), .val (.int p2), .val (.int p3), .val (.int p4), .val (.int p5), .val (.int p6), .val (.int (4 : Int32)), .val (.int (if ((XT.ushr p5 (2 : Int32)) &&& (1 : Int32)) = (0 : Int32) then (0 : Int32) else (1 : Int32))), .val (.ref b191), .val (.int (4 : Int32)), .val (.int (2 : Int32)), .val (.int p3), .val (.ref r197)] [])
        refine Goes.of (fun t => XS.iconst X210.here hx rfl (hb hby at_193)) ?_
        show Goes p e below KK T210 (mkF m 194 #[.val (.int p1), .val (.int p2), .val (.int p3), .val (.int p4), .val (.int p5), .val (.int p6), .val (.int (4 : Int32)), .val (.int (if ((XT.ushr p5 (2 : Int32)) &&& (1 : Int32)) = (0 : Int32) then (0 : Int32) else (1 : Int32))), .val (.ref b191), .val (.int (4 : Int32)), .val (.int (2 : Int32)), .val (.int p3), .val (.ref r197)] [(.int (1 : Int32))])
        refine Goes.of (fun t => XS.goto X210.here hx rfl (pc0 := 194) (pc' := 198) rfl (hb hby at_194) (by decide) (by decide)) ?_
        show Goes p e below KK T210 (mkF m 198 #[.val (.int p1), .val (.int p2), .val (.int p3), .val (.int p4), .val (.int p5), .val (.int p6), .val (.int (4 : Int32)), .val (.int (if ((XT.ushr p5 (2 : Int32)) &&& (1 : Int32)) = (0 : Int32) then (0 : Int32) else (1 : Int32))), .val (.ref b191), .val (.int (4 : Int32)), .val (.int (2 : Int32)), .val (.int p3), .val (.ref r197)] [(.int (1 : Int32))])
        rw [← hKK]
        refine Goes.retNarW X210 HS200 (by rw [e210]; exact HK200) hx hlk (t := .boolean) (by simp) Bd.returns (hb hby at_198) ?_ (by decide) (by decide)
        rw [e210]
        exact ⟨rfl, N210⟩
      · subst hi
        show Goes p e below KK T200 (mkF m 126 #[.val (.int p1), .val (.int p2), .val (.int p3), .val (.int p4), .val (.int p5), .val (.int p6), .val (.int (4 : Int32)), .val (.int (if ((XT.ushr p5 (2 : Int32)) &&& (1 : Int32)) = (0 : Int32) then (0 : Int32) else (1 : Int32))), .val (.ref b191), .val (.int (4 : Int32)), .unset, .unset, .unset] [(.int (3 : Int32))])
        refine Goes.of (fun t => XS.istore Y200.here hx rfl (hb hby at_126) rfl (l' := #[.val (.int p1), .val (.int p2), .val (.int p3), .val (.int p4), .val (.int p5), .val (.int p6), .val (.int (4 : Int32)), .val (.int (if ((XT.ushr p5 (2 : Int32)) &&& (1 : Int32)) = (0 : Int32) then (0 : Int32) else (1 : Int32))), .val (.ref b191), .val (.int (4 : Int32)), .val (.int (3 : Int32)), .unset, .unset]) rfl) ?_
        show Goes p e below KK T200 (mkF m 128 #[.val (.int p1), .val (.int p2), .val (.int p3), .val (.int p4), .val (.int p5), .val (.int p6), .val (.int (4 : Int32)), .val (.int (if ((XT.ushr p5 (2 : Int32)) &&& (1 : Int32)) = (0 : Int32) then (0 : Int32) else (1 : Int32))), .val (.ref b191), .val (.int (4 : Int32)), .val (.int (3 : Int32)), .unset, .unset] [])
        refine Goes.of (fun t => XS.iload Y200.here hx rfl (hb hby at_128) rfl) ?_
        show Goes p e below KK T200 (mkF m 130 #[.val (.int p1), .val (.int p2), .val (.int p3), .val (.int p4), .val (.int p5), .val (.int p6), .val (.int (4 : Int32)), .val (.int (if ((XT.ushr p5 (2 : Int32)) &&& (1 : Int32)) = (0 : Int32) then (0 : Int32) else (1 : Int32))), .val (.ref b191), .val (.int (4 : Int32)), .val (.int (3 : Int32)), .unset, .unset] [(.int (3 : Int32))])
        refine Goes.of (fun t => XS.ifYes Y200.here hx rfl (pc0 := 130) (pc' := 139) rfl (hb hby at_130) rfl ((if0 _ _).trans (feq (show ¬ ((3 : Int32) = (0 : Int32)) from by decide)).2) (by decide) (by decide)) ?_
        show Goes p e below KK T200 (mkF m 139 #[.val (.int p1), .val (.int p2), .val (.int p3), .val (.int p4), .val (.int p5), .val (.int p6), .val (.int (4 : Int32)), .val (.int (if ((XT.ushr p5 (2 : Int32)) &&& (1 : Int32)) = (0 : Int32) then (0 : Int32) else (1 : Int32))), .val (.ref b191), .val (.int (4 : Int32)), .val (.int (3 : Int32)), .unset, .unset] [])
        refine Goes.of (fun t => XS.iload Y200.here hx rfl (hb hby at_139) rfl) ?_
        show Goes p e below KK T200 (mkF m 141 #[.val (.int p1), .val (.int p2), .val (.int p3), .val (.int p4), .val (.int p5), .val (.int p6), .val (.int (4 : Int32)), .val (.int (if ((XT.ushr p5 (2 : Int32)) &&& (1 : Int32)) = (0 : Int32) then (0 : Int32) else (1 : Int32))), .val (.ref b191), .val (.int (4 : Int32)), .val (.int (3 : Int32)), .unset, .unset] [(.int (3 : Int32))])
        refine Goes.of (fun t => XS.iconst Y200.here hx rfl (hb hby at_141)) ?_
        show Goes p e below KK T200 (mkF m 142 #[.val (.int p1), .val (.int p2), .val (.int p3), .val (.int p4), .val (.int p5), .val (.int p6), .val (.int (4 : Int32)), .val (.int (if ((XT.ushr p5 (2 : Int32)) &&& (1 : Int32)) = (0 : Int32) then (0 : Int32) else (1 : Int32))), .val (.ref b191), .val (.int (4 : Int32)), .val (.int (3 : Int32)), .unset, .unset] [(.int (1 : Int32)), (.int (3 : Int32))])
        refine Goes.of (fun t => XS.icmpYes Y200.here hx rfl (pc0 := 142) (pc' := 151) rfl (hb hby at_142) rfl (feq (show ¬ ((3 : Int32) = (1 : Int32)) from by decide)).2 (by decide) (by decide)) ?_
        show Goes p e below KK T200 (mkF m 151 #[.val (.int p1), .val (.int p2), .val (.int p3), .val (.int p4), .val (.int p5), .val (.int p6), .val (.int (4 : Int32)), .val (.int (if ((XT.ushr p5 (2 : Int32)) &&& (1 : Int32)) = (0 : Int32) then (0 : Int32) else (1 : Int32))), .val (.ref b191), .val (.int (4 : Int32)), .val (.int (3 : Int32)), .unset, .unset] [])
        refine Goes.of (fun t => XS.iload Y200.here hx rfl (hb hby at_151) rfl) ?_
        show Goes p e below KK T200 (mkF m 153 #[.val (.int p1), .val (.int p2), .val (.int p3), .val (.int p4), .val (.int p5), .val (.int p6), .val (.int (4 : Int32)), .val (.int (if ((XT.ushr p5 (2 : Int32)) &&& (1 : Int32)) = (0 : Int32) then (0 : Int32) else (1 : Int32))), .val (.ref b191), .val (.int (4 : Int32)), .val (.int (3 : Int32)), .unset, .unset] [(.int (3 : Int32))])
        refine Goes.of (fun t => XS.iconst Y200.here hx rfl (hb hby at_153)) ?_
        show Goes p e below KK T200 (mkF m 154 #[.val (.int p1), .val (.int p2), .val (.int p3), .val (.int p4), .val (.int p5), .val (.int p6), .val (.int (4 : Int32)), .val (.int (if ((XT.ushr p5 (2 : Int32)) &&& (1 : Int32)) = (0 : Int32) then (0 : Int32) else (1 : Int32))), .val (.ref b191), .val (.int (4 : Int32)), .val (.int (3 : Int32)), .unset, .unset] [(.int (2 : Int32)), (.int (3 : Int32))])
        refine Goes.of (fun t => XS.icmpYes Y200.here hx rfl (pc0 := 154) (pc' := 163) rfl (hb hby at_154) rfl (feq (show ¬ ((3 : Int32) = (2 : Int32)) from by decide)).2 (by decide) (by decide)) ?_
        show Goes p e below KK T200 (mkF m 163 #[.val (.int p1), .val (.int p2), .val (.int p3), .val (.int p4), .val (.int p5), .val (.int p6), .val (.int (4 : Int32)), .val (.int (if ((XT.ushr p5 (2 : Int32)) &&& (1 : Int32)) = (0 : Int32) then (0 : Int32) else (1 : Int32))), .val (.ref b191), .val (.int (4 : Int32)), .val (.int (3 : Int32)), .unset, .unset] [])
        refine Goes.of (fun t => XS.iloadN Y200.here hx rfl (hb hby at_163) rfl) ?_
        show Goes p e below KK T200 (mkF m 164 #[.val (.int p1), .val (.int p2), .val (.int p3), .val (.int p4), .val (.int p5), .val (.int p6), .val (.int (4 : Int32)), .val (.int (if ((XT.ushr p5 (2 : Int32)) &&& (1 : Int32)) = (0 : Int32) then (0 : Int32) else (1 : Int32))), .val (.ref b191), .val (.int (4 : Int32)), .val (.int (3 : Int32)), .unset, .unset] [(.int p4)])
        refine Goes.of (fun t => XS.istore Y200.here hx rfl (hb hby at_164) rfl (l' := #[.val (.int p1), .val (.int p2), .val (.int p3), .val (.int p4), .val (.int p5), .val (.int p6), .val (.int (4 : Int32)), .val (.int (if ((XT.ushr p5 (2 : Int32)) &&& (1 : Int32)) = (0 : Int32) then (0 : Int32) else (1 : Int32))), .val (.ref b191), .val (.int (4 : Int32)), .val (.int (3 : Int32)), .val (.int p4), .unset]) rfl) ?_
        show Goes p e below KK T200 (mkF m 166 #[.val (.int p1), .val (.int p2), .val (.int p3), .val (.int p4), .val (.int p5), .val (.int p6), .val (.int (4 : Int32)), .val (.int (if ((XT.ushr p5 (2 : Int32)) &&& (1 : Int32)) = (0 : Int32) then (0 : Int32) else (1 : Int32))), .val (.ref b191), .val (.int (4 : Int32)), .val (.int (3 : Int32)), .val (.int p4), .unset] [])
        refine Goes.of (fun t => XS.aload Y200.here hx rfl (hb hby at_166) rfl rfl) ?_
        show Goes p e below KK T200 (mkF m 168 #[.val (.int p1), .val (.int p2), .val (.int p3), .val (.int p4), .val (.int p5), .val (.int p6), .val (.int (4 : Int32)), .val (.int (if ((XT.ushr p5 (2 : Int32)) &&& (1 : Int32)) = (0 : Int32) then (0 : Int32) else (1 : Int32))), .val (.ref b191), .val (.int (4 : Int32)), .val (.int (3 : Int32)), .val (.int p4), .unset] [(.ref b191)])
        refine Goes.of (fun t => XS.iload Y200.here hx rfl (hb hby at_168) rfl) ?_
        show Goes p e below KK T200 (mkF m 170 #[.val (.int p1), .val (.int p2), .val (.int p3), .val (.int p4), .val (.int p5), .val (.int p6), .val (.int (4 : Int32)), .val (.int (if ((XT.ushr p5 (2 : Int32)) &&& (1 : Int32)) = (0 : Int32) then (0 : Int32) else (1 : Int32))), .val (.ref b191), .val (.int (4 : Int32)), .val (.int (3 : Int32)), .val (.int p4), .unset] [(.int (3 : Int32)), (.ref b191)])
        obtain ⟨cq211, kq211, q211a, q211b, q211c⟩ := isOf hZ200 e200 E200
        obtain ⟨_, _, ⟨T211, L211, k211, n211⟩, -, X211, ⟨Lc211, hQ211, l211, y211, z211⟩, st211⟩ := Y200.virtualBack hx (y := (⟨"corbel/structures/ArrayStack", "get", "(I)Ljava/lang/Object;"⟩ : MethodName)) (z := (⟨"corbel/structures/ArrayStack", "get", "(I)Ljava/lang/Object;"⟩ : MethodName)) hown200 (mvT hZ200 w_65) (mvT hZ200 w_66) (notFace_of_selects (args := #[]) (mvT hZ200 w_68)) (mvT hZ200 w_68) (mvT hZ200 w_67) (by decide) (backOf (W := 0) (rm10 l Z a0 hw [] b191 (3 : Int32) r200 [(.ref r193), (.ref r195), (.ref r197), (.ref r199)] 3 r199 (4 : Int32) T200.heap n0 Z200 E200 Fe200 Fs200 A200 (by decide) (by decide) rfl rfl) hZ200 w_69 w_2 (by decide) (by decide)) q211a q211c (g := (mkF m 170 #[.val (.int p1), .val (.int p2), .val (.int p3), .val (.int p4), .val (.int p5), .val (.int p6), .val (.int (4 : Int32)), .val (.int (if ((XT.ushr p5 (2 : Int32)) &&& (1 : Int32)) = (0 : Int32) then (0 : Int32) else (1 : Int32))), .val (.ref b191), .val (.int (4 : Int32)), .val (.int (3 : Int32)), .val (.int p4), .unset] [(.int (3 : Int32)), (.ref b191)])) rfl (by rw [hml]; rfl) (Steps.refl _) (argsL := [(.int (3 : Int32))]) (rest := []) (lenOf pd_16 rfl) rfl (by show 2 * 0 + _ ≤ _; exact Nat.le_of_eq rfl) (hb hby at_170) (fun _ _ => ⟨rfl, e200, (by decide : 16 + 0 ≤ _), (by decide : 142 + 0 ≤ _)⟩)
        dsimp only [Pt.U, Pt.locs, Pt.cells, Pt.slots] at X211 l211 y211 z211 st211 hQ211
        subst l211 y211 z211
        obtain ⟨rfl, N211q, e211⟩ := hQ211
        have N211 := Fr.app N200 N211q
        refine Goes.tr st211 ?_
        show Goes p e below KK T211 (mkF m 173 #[.val (.int p1), .val (.int p2), .val (.int p3), .val (.int p4), .val (.int p5), .val (.int p6), .val (.int (4 : Int32)), .val (.int (if ((XT.ushr p5 (2 : Int32)) &&& (1 : Int32)) = (0 : Int32) then (0 : Int32) else (1 : Int32))), .val (.ref b191), .val (.int (4 : Int32)), .val (.int (3 : Int32)), .val (.int p4), .unset] [(.ref r199)])
        obtain ⟨T212, X212, e212, st212⟩ := castY X211 hx hZ200 hown200 w_81 e211 (Ins.self E199_200) (g := (mkF m 173 #[.val (.int p1), .val (.int p2), .val (.int p3), .val (.int p4), .val (.int p5), .val (.int p6), .val (.int (4 : Int32)), .val (.int (if ((XT.ushr p5 (2 : Int32)) &&& (1 : Int32)) = (0 : Int32) then (0 : Int32) else (1 : Int32))), .val (.ref b191), .val (.int (4 : Int32)), .val (.int (3 : Int32)), .val (.int p4), .unset] [(.ref r199)])) rfl rfl (hb hby at_173)
        refine Goes.of (st212) ?_
        show Goes p e below KK T212 (mkF m 176 #[.val (.int p1), .val (.int p2), .val (.int p3), .val (.int p4), .val (.int p5), .val (.int p6), .val (.int (4 : Int32)), .val (.int (if ((XT.ushr p5 (2 : Int32)) &&& (1 : Int32)) = (0 : Int32) then (0 : Int32) else (1 : Int32))), .val (.ref b191), .val (.int (4 : Int32)), .val (.int (3 : Int32)), .val (.int p4), .unset] [(.ref r199)])
        refine Goes.of (fun t => XS.astore X212.here hx rfl (hb hby at_176) rfl rfl (l' := #[.val (.int p1), .val (.int p2), .val (.int p3), .val (.int p4), .val (.int p5), .val (.int p6), .val (.int (4 : Int32)), .val (.int (if ((XT.ushr p5 (2 : Int32)) &&& (1 : Int32)) = (0 : Int32) then (0 : Int32) else (1 : Int32))), .val (.ref b191), .val (.int (4 : Int32)), .val (.int (3 : Int32)), .val (.int p4), .val (.ref r199)]) rfl) ?_
        show Goes p e below KK T212 (mkF m 178 #[.val (.int p1), .val (.int p2), .val (.int p3), .val (.int p4), .val (.int p5), .val (.int p6), .val (.int (4 : Int32)), .val (.int (if ((XT.ushr p5 (2 : Int32)) &&& (1 : Int32)) = (0 : Int32) then (0 : Int32) else (1 : Int32))), .val (.ref b191), .val (.int (4 : Int32)), .val (.int (3 : Int32)), .val (.int p4), .val (.ref r199)] [])
        refine Goes.of (fun t => XS.aload X212.here hx rfl (hb hby at_178) rfl rfl) ?_
        show Goes p e below KK T212 (mkF m 180 #[.val (.int p1), .val (.int p2), .val (.int p3), .val (.int p4), .val (.int p5), .val (.int p6), .val (.int (4 : Int32)), .val (.int (if ((XT.ushr p5 (2 : Int32)) &&& (1 : Int32)) = (0 : Int32) then (0 : Int32) else (1 : Int32))), .val (.ref b191), .val (.int (4 : Int32)), .val (.int (3 : Int32)), .val (.int p4), .val (.ref r199)] [(.ref r199)])
        refine Goes.of (fun t => XS.ifnullNo X212.here hx rfl (hb hby at_180) rfl) ?_
        show Goes p e below KK T212 (mkF m 183 #[.val (.int p1), .val (.int p2), .val (.int p3), .val (.int p4), .val (.int p5), .val (.int p6), .val (.int (4 : Int32)), .val (.int (if ((XT.ushr p5 (2 : Int32)) &&& (1 : Int32)) = (0 : Int32) then (0 : Int32) else (1 : Int32))), .val (.ref b191), .val (.int (4 : Int32)), .val (.int (3 : Int32)), .val (.int p4), .val (.ref r199)] [])
        refine Goes.of (fun t => XS.aload X212.here hx rfl (hb hby at_183) rfl rfl) ?_
        show Goes p e below KK T212 (mkF m 185 #[.val (.int p1), .val (.int p2), .val (.int p3), .val (.int p4), .val (.int p5), .val (.int p6), .val (.int (4 : Int32)), .val (.int (if ((XT.ushr p5 (2 : Int32)) &&& (1 : Int32)) = (0 : Int32) then (0 : Int32) else (1 : Int32))), .val (.ref b191), .val (.int (4 : Int32)), .val (.int (3 : Int32)), .val (.int p4), .val (.ref r199)] [(.ref r199)])
        obtain ⟨cq213, kq213, q213a, q213b, q213c⟩ := isOf hZ200 e212 E199_200
        obtain ⟨_, _, ⟨T213, L213, k213, n213⟩, -, X213, ⟨Lc213, hQ213, l213, y213, z213⟩, st213⟩ := X212.virtualBack hx (y := (⟨"java/lang/Integer", "intValue", "()I"⟩ : MethodName)) (z := (⟨"java/lang/Integer", "intValue", "()I"⟩ : MethodName)) hown200 (mvT hZ200 w_83) (mvT hZ200 w_84) (notFace_of_selects (args := #[]) (mvT hZ200 w_86)) (mvT hZ200 w_86) (mvT hZ200 w_85) (by decide) (backOf (W := 0) (rm14 l Z a0 hw [] r199 p4 T200.heap n0 Z200 F199_200) hZ200 w_87 w_33 (by decide) (by decide)) q213a q213c (g := (mkF m 185 #[.val (.int p1), .val (.int p2), .val (.int p3), .val (.int p4), .val (.int p5), .val (.int p6), .val (.int (4 : Int32)), .val (.int (if ((XT.ushr p5 (2 : Int32)) &&& (1 : Int32)) = (0 : Int32) then (0 : Int32) else (1 : Int32))), .val (.ref b191), .val (.int (4 : Int32)), .val (.int (3 : Int32)), .val (.int p4), .val (.ref r199)] [(.ref r199)])) rfl (by rw [hml]; rfl) (Steps.refl _) (argsL := []) (rest := []) (lenOf pd_50 rfl) rfl (by show 2 * 0 + _ ≤ _; exact Nat.le_of_eq rfl) (hb hby at_185) (fun _ _ => ⟨rfl, e212, (by decide : 16 + 0 ≤ _), (by decide : 142 + 0 ≤ _)⟩)
        dsimp only [Pt.U, Pt.locs, Pt.cells, Pt.slots] at X213 l213 y213 z213 st213 hQ213
        subst l213 y213 z213
        obtain ⟨rfl, N213q, e213⟩ := hQ213
        have N213 := Fr.app N211 N213q
        refine Goes.tr st213 ?_
        show Goes p e below KK T213 (mkF m 188 #[.val (.int p1), .val (.int p2), .val (.int p3), .val (.int p4), .val (.int p5), .val (.int p6), .val (.int (4 : Int32)), .val (.int (if ((XT.ushr p5 (2 : Int32)) &&& (1 : Int32)) = (0 : Int32) then (0 : Int32) else (1 : Int32))), .val (.ref b191), .val (.int (4 : Int32)), .val (.int (3 : Int32)), .val (.int p4), .val (.ref r199)] [(.int p4)])
        refine Goes.of (fun t => XS.iload X213.here hx rfl (hb hby at_188) rfl) ?_
        show Goes p e below KK T213 (mkF m 190 #[.val (.int p1), .val (.int p2), .val (.int p3), .val (.int p4), .val (.int p5), .val (.int p6), .val (.int (4 : Int32)), .val (.int (if ((XT.ushr p5 (2 : Int32)) &&& (1 : Int32)) = (0 : Int32) then (0 : Int32) else (1 : Int32))), .val (.ref b191), .val (.int (4 : Int32)), .val (.int (3 : Int32)), .val (.int p4), .val (.ref r199)] [(.int p4), (.int p4)])
        refine Goes.of (fun t => XS.icmpNo X213.here hx rfl (hb hby at_190) rfl (teq (show p4 = p4 from rfl)).2) ?_
        show Goes p e below KK T213 (mkF m 193 #[.val (.int p1), .val (.int p2), .val (.int p3), .val (.int p4), .val (.int p5), .val (.int p6), .val (.int (4 : Int32)), .val (.int (if ((XT.ushr p5 (2 : Int32)) &&& (1 : Int32)) = (0 : Int32) then (0 : Int32) else (1 : Int32))), .val (.ref b191), .val (.int (4 : Int32)), .val (.int (3 : Int32)), .val (.int p4), .val (.ref r199)] [])
        refine Goes.of (fun t => XS.iconst X213.here hx rfl (hb hby at_193)) ?_
        show Goes p e below KK T213 (mkF m 194 #[.val (.int p1), .val (.int p2), .val (.int p3), .val (.int p4), .val (.int p5), .val (.int p6), .val (.int (4 : Int32)), .val (.int (if ((XT.ushr p5 (2 : Int32)) &&& (1 : Int32)) = (0 : Int32) then (0 : Int32) else (1 : Int32))), .val (.ref b191), .val (.int (4 : Int32)), .val (.int (3 : Int32)), .val (.int p4), .val (.ref r199)] [(.int (1 : Int32))])
        refine Goes.of (fun t => XS.goto X213.here hx rfl (pc0 := 194) (pc' := 198) rfl (hb hby at_194) (by decide) (by decide)) ?_
        show Goes p e below KK T213 (mkF m 198 #[.val (.int p1), .val (.int p2), .val (.int p3), .val (.int p4), .val (.int p5), .val (.int p6), .val (.int (4 : Int32)), .val (.int (if ((XT.ushr p5 (2 : Int32)) &&& (1 : Int32)) = (0 : Int32) then (0 : Int32) else (1 : Int32))), .val (.ref b191), .val (.int (4 : Int32)), .val (.int (3 : Int32)), .val (.int p4), .val (.ref r199)] [(.int (1 : Int32))])
        rw [← hKK]
        refine Goes.retNarW X213 HS200 (by rw [e213]; exact HK200) hx hlk (t := .boolean) (by simp) Bd.returns (hb hby at_198) ?_ (by decide) (by decide)
        rw [e213]
        exact ⟨rfl, N213⟩
    · refine Goes.of (fun t => XS.ifNo Y200.here hx rfl (hb hby at_103) rfl ((if0 _ _).trans (feq hc103_4).1)) ?_
      show Goes p e below KK T200 (mkF m 106 #[.val (.int p1), .val (.int p2), .val (.int p3), .val (.int p4), .val (.int p5), .val (.int p6), .val (.int (4 : Int32)), .val (.int (if ((XT.ushr p5 (2 : Int32)) &&& (1 : Int32)) = (0 : Int32) then (0 : Int32) else (1 : Int32))), .val (.ref b191), .val (.int (4 : Int32)), .unset, .unset, .unset] [])
      refine Goes.of (fun t => XS.aload Y200.here hx rfl (hb hby at_106) rfl rfl) ?_
      show Goes p e below KK T200 (mkF m 108 #[.val (.int p1), .val (.int p2), .val (.int p3), .val (.int p4), .val (.int p5), .val (.int p6), .val (.int (4 : Int32)), .val (.int (if ((XT.ushr p5 (2 : Int32)) &&& (1 : Int32)) = (0 : Int32) then (0 : Int32) else (1 : Int32))), .val (.ref b191), .val (.int (4 : Int32)), .unset, .unset, .unset] [(.ref b191)])
      obtain ⟨cq214, kq214, q214a, q214b, q214c⟩ := isOf hZ200 e200 E200
      obtain ⟨_, _, ⟨T214, L214, k214, n214⟩, -, X214, ⟨Lc214, hQ214, l214, y214, z214⟩, st214⟩ := Y200.virtualBack hx (y := (⟨"corbel/structures/ArrayStack", "pop", "()Ljava/lang/Object;"⟩ : MethodName)) (z := (⟨"corbel/structures/ArrayStack", "pop", "()Ljava/lang/Object;"⟩ : MethodName)) hown200 (mvT hZ200 w_115) (mvT hZ200 w_116) (notFace_of_selects (args := #[]) (mvT hZ200 w_118)) (mvT hZ200 w_118) (mvT hZ200 w_117) (by decide) (backOf (W := 0) (rm18s4 l Z a0 hw [] b191 r200 (((((0 : Int32) + 1) + 1) + 1) + 1) r193 r195 r197 r199 T200.heap n0 Z200 E200 Fe200 Fs200 Fm200 A200 E193_194_195_196_197_198_199_200 E195_196_197_198_199_200 E197_198_199_200 E199_200 g_b191 g_r200) hZ200 w_119 w_2 (by decide) (by decide)) q214a q214c (g := (mkF m 108 #[.val (.int p1), .val (.int p2), .val (.int p3), .val (.int p4), .val (.int p5), .val (.int p6), .val (.int (4 : Int32)), .val (.int (if ((XT.ushr p5 (2 : Int32)) &&& (1 : Int32)) = (0 : Int32) then (0 : Int32) else (1 : Int32))), .val (.ref b191), .val (.int (4 : Int32)), .unset, .unset, .unset] [(.ref b191)])) rfl (by rw [hml]; rfl) (Steps.refl _) (argsL := []) (rest := []) (lenOf pd_51 rfl) rfl (by show 2 * 0 + _ ≤ _; exact Nat.le_of_eq rfl) (hb hby at_108) (fun _ _ => ⟨rfl, e200, (by decide : 16 + 0 ≤ _), (by decide : 142 + 0 ≤ _)⟩)
      dsimp only [Pt.U, Pt.locs, Pt.cells, Pt.slots] at X214 l214 y214 z214 st214 hQ214
      subst l214 y214 z214
      obtain ⟨rfl, N214q, Kc214, E214, Fe214, Fs214, Fm214, A214⟩ := hQ214
      have N214 := Fr.app N200 N214q
      have O_214 : Old Z n0 T214.heap := O_200.keep Kc214 (allS g_b191 (allS g_r200 all0))
      have E200_214 : Exa Z T214.heap b191 "corbel/structures/ArrayStack" := E200.keep Kc214
      have E193_194_195_196_197_198_199_200_214 : Exa Z T214.heap r193 "java/lang/Integer" := E193_194_195_196_197_198_199_200.keep Kc214
      have F193_194_195_196_197_198_199_200_214 : Fld Z T214.heap r193 "java/lang/Integer" "value" "I" (.int p1) := F193_194_195_196_197_198_199_200.keep Kc214 (ninS (Exa.ne E193_194_195_196_197_198_199_200 E200 (by decide)) (ninS (Exa.ne E193_194_195_196_197_198_199_200 A200.exa (by decide)) nin0))
      have E195_196_197_198_199_200_214 : Exa Z T214.heap r195 "java/lang/Integer" := E195_196_197_198_199_200.keep Kc214
      have F195_196_197_198_199_200_214 : Fld Z T214.heap r195 "java/lang/Integer" "value" "I" (.int p2) := F195_196_197_198_199_200.keep Kc214 (ninS (Exa.ne E195_196_197_198_199_200 E200 (by decide)) (ninS (Exa.ne E195_196_197_198_199_200 A200.exa (by decide)) nin0))
      have E197_198_199_200_214 : Exa Z T214.heap r197 "java/lang/Integer" := E197_198_199_200.keep Kc214
      have F197_198_199_200_214 : Fld Z T214.heap r197 "java/lang/Integer" "value" "I" (.int p3) := F197_198_199_200.keep Kc214 (ninS (Exa.ne E197_198_199_200 E200 (by decide)) (ninS (Exa.ne E197_198_199_200 A200.exa (by decide)) nin0))
      have E199_200_214 : Exa Z T214.heap r199 "java/lang/Integer" := E199_200.keep Kc214
      have F199_200_214 : Fld Z T214.heap r199 "java/lang/Integer" "value" "I" (.int p4) := F199_200.keep Kc214 (ninS (Exa.ne E199_200 E200 (by decide)) (ninS (Exa.ne E199_200 A200.exa (by decide)) nin0))
      have K214 : Keep h0 T214.heap [] := K200.trans Kc214 (allS (Or.inr sz_b191) (allS (Or.inr sz_r200) all0))
      have Z214 : n0 ≤ T214.heap.size := Nat.le_trans Z200 Kc214.1
      have HK214 := Nat.le_trans HK200 Kc214.1
      have e214 : T214.heap = T214.heap := rfl
      refine Goes.tr st214 ?_
      show Goes p e below KK T214 (mkF m 111 #[.val (.int p1), .val (.int p2), .val (.int p3), .val (.int p4), .val (.int p5), .val (.int p6), .val (.int (4 : Int32)), .val (.int (if ((XT.ushr p5 (2 : Int32)) &&& (1 : Int32)) = (0 : Int32) then (0 : Int32) else (1 : Int32))), .val (.ref b191), .val (.int (4 : Int32)), .unset, .unset, .unset] [(.ref r199)])
      refine Goes.of (fun t => XT.pop X214.here hx rfl (hb hby at_111) rfl rfl) ?_
      show Goes p e below KK T214 (mkF m 112 #[.val (.int p1), .val (.int p2), .val (.int p3), .val (.int p4), .val (.int p5), .val (.int p6), .val (.int (4 : Int32)), .val (.int (if ((XT.ushr p5 (2 : Int32)) &&& (1 : Int32)) = (0 : Int32) then (0 : Int32) else (1 : Int32))), .val (.ref b191), .val (.int (4 : Int32)), .unset, .unset, .unset] [])
      refine Goes.of (fun t => XS.iload X214.here hx rfl (hb hby at_112) rfl) ?_
      show Goes p e below KK T214 (mkF m 114 #[.val (.int p1), .val (.int p2), .val (.int p3), .val (.int p4), .val (.int p5), .val (.int p6), .val (.int (4 : Int32)), .val (.int (if ((XT.ushr p5 (2 : Int32)) &&& (1 : Int32)) = (0 : Int32) then (0 : Int32) else (1 : Int32))), .val (.ref b191), .val (.int (4 : Int32)), .unset, .unset, .unset] [(.int (4 : Int32))])
      refine Goes.of (fun t => XS.iconst X214.here hx rfl (hb hby at_114)) ?_
      show Goes p e below KK T214 (mkF m 115 #[.val (.int p1), .val (.int p2), .val (.int p3), .val (.int p4), .val (.int p5), .val (.int p6), .val (.int (4 : Int32)), .val (.int (if ((XT.ushr p5 (2 : Int32)) &&& (1 : Int32)) = (0 : Int32) then (0 : Int32) else (1 : Int32))), .val (.ref b191), .val (.int (4 : Int32)), .unset, .unset, .unset] [(.int (1 : Int32)), (.int (4 : Int32))])
      refine Goes.of (fun t => XS.isub X214.here hx rfl (hb hby at_115) rfl) ?_
      show Goes p e below KK T214 (mkF m 116 #[.val (.int p1), .val (.int p2), .val (.int p3), .val (.int p4), .val (.int p5), .val (.int p6), .val (.int (4 : Int32)), .val (.int (if ((XT.ushr p5 (2 : Int32)) &&& (1 : Int32)) = (0 : Int32) then (0 : Int32) else (1 : Int32))), .val (.ref b191), .val (.int (4 : Int32)), .unset, .unset, .unset] [(.int (3 : Int32))])
      refine Goes.of (fun t => XS.istore X214.here hx rfl (hb hby at_116) rfl (l' := #[.val (.int p1), .val (.int p2), .val (.int p3), .val (.int p4), .val (.int p5), .val (.int p6), .val (.int (4 : Int32)), .val (.int (if ((XT.ushr p5 (2 : Int32)) &&& (1 : Int32)) = (0 : Int32) then (0 : Int32) else (1 : Int32))), .val (.ref b191), .val (.int (3 : Int32)), .unset, .unset, .unset]) rfl) ?_
      show Goes p e below KK T214 (mkF m 118 #[.val (.int p1), .val (.int p2), .val (.int p3), .val (.int p4), .val (.int p5), .val (.int p6), .val (.int (4 : Int32)), .val (.int (if ((XT.ushr p5 (2 : Int32)) &&& (1 : Int32)) = (0 : Int32) then (0 : Int32) else (1 : Int32))), .val (.ref b191), .val (.int (3 : Int32)), .unset, .unset, .unset] [])
      refine Goes.of (fun t => XS.iload X214.here hx rfl (hb hby at_118) rfl) ?_
      show Goes p e below KK T214 (mkF m 120 #[.val (.int p1), .val (.int p2), .val (.int p3), .val (.int p4), .val (.int p5), .val (.int p6), .val (.int (4 : Int32)), .val (.int (if ((XT.ushr p5 (2 : Int32)) &&& (1 : Int32)) = (0 : Int32) then (0 : Int32) else (1 : Int32))), .val (.ref b191), .val (.int (3 : Int32)), .unset, .unset, .unset] [(.int p6)])
      refine Goes.of (X214.ldcInt hx hown200 (mvT hZ200 w_64) (g := (mkF m 120 #[.val (.int p1), .val (.int p2), .val (.int p3), .val (.int p4), .val (.int p5), .val (.int p6), .val (.int (4 : Int32)), .val (.int (if ((XT.ushr p5 (2 : Int32)) &&& (1 : Int32)) = (0 : Int32) then (0 : Int32) else (1 : Int32))), .val (.ref b191), .val (.int (3 : Int32)), .unset, .unset, .unset] [(.int p6)])) rfl (hb hby at_120)) ?_
      show Goes p e below KK T214 (mkF m 122 #[.val (.int p1), .val (.int p2), .val (.int p3), .val (.int p4), .val (.int p5), .val (.int p6), .val (.int (4 : Int32)), .val (.int (if ((XT.ushr p5 (2 : Int32)) &&& (1 : Int32)) = (0 : Int32) then (0 : Int32) else (1 : Int32))), .val (.ref b191), .val (.int (3 : Int32)), .unset, .unset, .unset] [(.int (2147483647 : Int32)), (.int p6)])
      refine Goes.of (fun t => XS.iand X214.here hx rfl (hb hby at_122) rfl) ?_
      show Goes p e below KK T214 (mkF m 123 #[.val (.int p1), .val (.int p2), .val (.int p3), .val (.int p4), .val (.int p5), .val (.int p6), .val (.int (4 : Int32)), .val (.int (if ((XT.ushr p5 (2 : Int32)) &&& (1 : Int32)) = (0 : Int32) then (0 : Int32) else (1 : Int32))), .val (.ref b191), .val (.int (3 : Int32)), .unset, .unset, .unset] [(.int (p6 &&& (2147483647 : Int32)))])
      refine Goes.of (fun t => XS.iload X214.here hx rfl (hb hby at_123) rfl) ?_
      show Goes p e below KK T214 (mkF m 125 #[.val (.int p1), .val (.int p2), .val (.int p3), .val (.int p4), .val (.int p5), .val (.int p6), .val (.int (4 : Int32)), .val (.int (if ((XT.ushr p5 (2 : Int32)) &&& (1 : Int32)) = (0 : Int32) then (0 : Int32) else (1 : Int32))), .val (.ref b191), .val (.int (3 : Int32)), .unset, .unset, .unset] [(.int (3 : Int32)), (.int (p6 &&& (2147483647 : Int32)))])
      refine Goes.of (fun t => iremM X214 hx rfl (hb hby at_125) rfl (by decide)) ?_
      show Goes p e below KK T214 (mkF m 126 #[.val (.int p1), .val (.int p2), .val (.int p3), .val (.int p4), .val (.int p5), .val (.int p6), .val (.int (4 : Int32)), .val (.int (if ((XT.ushr p5 (2 : Int32)) &&& (1 : Int32)) = (0 : Int32) then (0 : Int32) else (1 : Int32))), .val (.ref b191), .val (.int (3 : Int32)), .unset, .unset, .unset] [(.int ((p6 &&& (2147483647 : Int32)) % (3 : Int32)))])
      generalize e_ix : ((p6 &&& (2147483647 : Int32)) % (3 : Int32)) = ix
      show Goes p e below KK T214 (mkF m 126 #[.val (.int p1), .val (.int p2), .val (.int p3), .val (.int p4), .val (.int p5), .val (.int p6), .val (.int (4 : Int32)), .val (.int (if ((XT.ushr p5 (2 : Int32)) &&& (1 : Int32)) = (0 : Int32) then (0 : Int32) else (1 : Int32))), .val (.ref b191), .val (.int (3 : Int32)), .unset, .unset, .unset] [(.int ix)])
      have hi1_215 : (p6 &&& 2147483647).toInt = p6.toInt % 2 ^ 31 := Jvm.Kit.i32_mask p6 2147483647 (k := 31) (by decide) (by decide)
      have hi2_215 : ix.toInt = (p6 &&& 2147483647).toInt % 3 := by rw [← e_ix]; exact Jvm.Kit.i32_rem_nonneg (by omega)
      have hi3_215 : ix = 0 ∨ ix = 1 ∨ ix = 2 := by
        have a1 : ix.toInt = 0 ∨ ix.toInt = 1 ∨ ix.toInt = 2 := by omega
        exact a1.imp Int32.toInt_inj.mp (fun q => q.imp Int32.toInt_inj.mp Int32.toInt_inj.mp)
      rcases hi3_215 with hi | hi | hi
      · subst hi
        show Goes p e below KK T214 (mkF m 126 #[.val (.int p1), .val (.int p2), .val (.int p3), .val (.int p4), .val (.int p5), .val (.int p6), .val (.int (4 : Int32)), .val (.int (if ((XT.ushr p5 (2 : Int32)) &&& (1 : Int32)) = (0 : Int32) then (0 : Int32) else (1 : Int32))), .val (.ref b191), .val (.int (3 : Int32)), .unset, .unset, .unset] [(.int (0 : Int32))])
        refine Goes.of (fun t => XS.istore X214.here hx rfl (hb hby at_126) rfl (l' := #[.val (.int p1), .val (.int p2), .val (.int p3), .val (.int p4), .val (.int p5), .val (.int p6), .val (.int (4 : Int32)), .val (.int (if ((XT.ushr p5 (2 : Int32)) &&& (1 : Int32)) = (0 : Int32) then (0 : Int32) else (1 : Int32))), .val (.ref b191), .val (.int (3 : Int32)), .val (.int (0 : Int32)), .unset, .unset]) rfl) ?_
        show Goes p e below KK T214 (mkF m 128 #[.val (.int p1), .val (.int p2), .val (.int p3), .val (.int p4), .val (.int p5), .val (.int p6), .val (.int (4 : Int32)), .val (.int (if ((XT.ushr p5 (2 : Int32)) &&& (1 : Int32)) = (0 : Int32) then (0 : Int32) else (1 : Int32))), .val (.ref b191), .val (.int (3 : Int32)), .val (.int (0 : Int32)), .unset, .unset] [])
        refine Goes.of (fun t => XS.iload X214.here hx rfl (hb hby at_128) rfl) ?_
        show Goes p e below KK T214 (mkF m 130 #[.val (.int p1), .val (.int p2), .val (.int p3), .val (.int p4), .val (.int p5), .val (.int p6), .val (.int (4 : Int32)), .val (.int (if ((XT.ushr p5 (2 : Int32)) &&& (1 : Int32)) = (0 : Int32) then (0 : Int32) else (1 : Int32))), .val (.ref b191), .val (.int (3 : Int32)), .val (.int (0 : Int32)), .unset, .unset] [(.int (0 : Int32))])
        refine Goes.of (fun t => XS.ifNo X214.here hx rfl (hb hby at_130) rfl ((if0 _ _).trans (teq (show (0 : Int32) = (0 : Int32) from by decide)).2)) ?_
        show Goes p e below KK T214 (mkF m 133 #[.val (.int p1), .val (.int p2), .val (.int p3), .val (.int p4), .val (.int p5), .val (.int p6), .val (.int (4 : Int32)), .val (.int (if ((XT.ushr p5 (2 : Int32)) &&& (1 : Int32)) = (0 : Int32) then (0 : Int32) else (1 : Int32))), .val (.ref b191), .val (.int (3 : Int32)), .val (.int (0 : Int32)), .unset, .unset] [])
        refine Goes.of (fun t => XS.iloadN X214.here hx rfl (hb hby at_133) rfl) ?_
        show Goes p e below KK T214 (mkF m 134 #[.val (.int p1), .val (.int p2), .val (.int p3), .val (.int p4), .val (.int p5), .val (.int p6), .val (.int (4 : Int32)), .val (.int (if ((XT.ushr p5 (2 : Int32)) &&& (1 : Int32)) = (0 : Int32) then (0 : Int32) else (1 : Int32))), .val (.ref b191), .val (.int (3 : Int32)), .val (.int (0 : Int32)), .unset, .unset] [(.int p1)])
        refine Goes.of (fun t => XS.istore X214.here hx rfl (hb hby at_134) rfl (l' := #[.val (.int p1), .val (.int p2), .val (.int p3), .val (.int p4), .val (.int p5), .val (.int p6), .val (.int (4 : Int32)), .val (.int (if ((XT.ushr p5 (2 : Int32)) &&& (1 : Int32)) = (0 : Int32) then (0 : Int32) else (1 : Int32))), .val (.ref b191), .val (.int (3 : Int32)), .val (.int (0 : Int32)), .val (.int p1), .unset]) rfl) ?_
        show Goes p e below KK T214 (mkF m 136 #[.val (.int p1), .val (.int p2), .val (.int p3), .val (.int p4), .val (.int p5), .val (.int p6), .val (.int (4 : Int32)), .val (.int (if ((XT.ushr p5 (2 : Int32)) &&& (1 : Int32)) = (0 : Int32) then (0 : Int32) else (1 : Int32))), .val (.ref b191), .val (.int (3 : Int32)), .val (.int (0 : Int32)), .val (.int p1), .unset] [])
        refine Goes.of (fun t => XS.goto X214.here hx rfl (pc0 := 136) (pc' := 166) rfl (hb hby at_136) (by decide) (by decide)) ?_
        show Goes p e below KK T214 (mkF m 166 #[.val (.int p1), .val (.int p2), .val (.int p3), .val (.int p4), .val (.int p5), .val (.int p6), .val (.int (4 : Int32)), .val (.int (if ((XT.ushr p5 (2 : Int32)) &&& (1 : Int32)) = (0 : Int32) then (0 : Int32) else (1 : Int32))), .val (.ref b191), .val (.int (3 : Int32)), .val (.int (0 : Int32)), .val (.int p1), .unset] [])
        refine Goes.of (fun t => XS.aload X214.here hx rfl (hb hby at_166) rfl rfl) ?_
        show Goes p e below KK T214 (mkF m 168 #[.val (.int p1), .val (.int p2), .val (.int p3), .val (.int p4), .val (.int p5), .val (.int p6), .val (.int (4 : Int32)), .val (.int (if ((XT.ushr p5 (2 : Int32)) &&& (1 : Int32)) = (0 : Int32) then (0 : Int32) else (1 : Int32))), .val (.ref b191), .val (.int (3 : Int32)), .val (.int (0 : Int32)), .val (.int p1), .unset] [(.ref b191)])
        refine Goes.of (fun t => XS.iload X214.here hx rfl (hb hby at_168) rfl) ?_
        show Goes p e below KK T214 (mkF m 170 #[.val (.int p1), .val (.int p2), .val (.int p3), .val (.int p4), .val (.int p5), .val (.int p6), .val (.int (4 : Int32)), .val (.int (if ((XT.ushr p5 (2 : Int32)) &&& (1 : Int32)) = (0 : Int32) then (0 : Int32) else (1 : Int32))), .val (.ref b191), .val (.int (3 : Int32)), .val (.int (0 : Int32)), .val (.int p1), .unset] [(.int (0 : Int32)), (.ref b191)])
        obtain ⟨cq216, kq216, q216a, q216b, q216c⟩ := isOf hZ200 e214 E214
        obtain ⟨_, _, ⟨T216, L216, k216, n216⟩, -, X216, ⟨Lc216, hQ216, l216, y216, z216⟩, st216⟩ := X214.virtualBack hx (y := (⟨"corbel/structures/ArrayStack", "get", "(I)Ljava/lang/Object;"⟩ : MethodName)) (z := (⟨"corbel/structures/ArrayStack", "get", "(I)Ljava/lang/Object;"⟩ : MethodName)) hown200 (mvT hZ200 w_65) (mvT hZ200 w_66) (notFace_of_selects (args := #[]) (mvT hZ200 w_68)) (mvT hZ200 w_68) (mvT hZ200 w_67) (by decide) (backOf (W := 0) (rm10 l Z a0 hw [] b191 (0 : Int32) r200 [(.ref r193), (.ref r195), (.ref r197), .null] 0 r193 (3 : Int32) T214.heap n0 Z214 E214 Fe214 Fs214 A214 (by decide) (by decide) rfl rfl) hZ200 w_69 w_2 (by decide) (by decide)) q216a q216c (g := (mkF m 170 #[.val (.int p1), .val (.int p2), .val (.int p3), .val (.int p4), .val (.int p5), .val (.int p6), .val (.int (4 : Int32)), .val (.int (if ((XT.ushr p5 (2 : Int32)) &&& (1 : Int32)) = (0 : Int32) then (0 : Int32) else (1 : Int32))), .val (.ref b191), .val (.int (3 : Int32)), .val (.int (0 : Int32)), .val (.int p1), .unset] [(.int (0 : Int32)), (.ref b191)])) rfl (by rw [hml]; rfl) (Steps.refl _) (argsL := [(.int (0 : Int32))]) (rest := []) (lenOf pd_16 rfl) rfl (by show 2 * 0 + _ ≤ _; exact Nat.le_of_eq rfl) (hb hby at_170) (fun _ _ => ⟨rfl, e214, (by decide : 16 + 0 ≤ _), (by decide : 142 + 0 ≤ _)⟩)
        dsimp only [Pt.U, Pt.locs, Pt.cells, Pt.slots] at X216 l216 y216 z216 st216 hQ216
        subst l216 y216 z216
        obtain ⟨rfl, N216q, e216⟩ := hQ216
        have N216 := Fr.app N214 N216q
        refine Goes.tr st216 ?_
        show Goes p e below KK T216 (mkF m 173 #[.val (.int p1), .val (.int p2), .val (.int p3), .val (.int p4), .val (.int p5), .val (.int p6), .val (.int (4 : Int32)), .val (.int (if ((XT.ushr p5 (2 : Int32)) &&& (1 : Int32)) = (0 : Int32) then (0 : Int32) else (1 : Int32))), .val (.ref b191), .val (.int (3 : Int32)), .val (.int (0 : Int32)), .val (.int p1), .unset] [(.ref r193)])
        obtain ⟨T217, X217, e217, st217⟩ := castY X216 hx hZ200 hown200 w_81 e216 (Ins.self E193_194_195_196_197_198_199_200_214) (g := (mkF m 173 #[.val (.int p1), .val (.int p2), .val (.int p3), .val (.int p4), .val (.int p5), .val (.int p6), .val (.int (4 : Int32)), .val (.int (if ((XT.ushr p5 (2 : Int32)) &&& (1 : Int32)) = (0 : Int32) then (0 : Int32) else (1 : Int32))), .val (.ref b191), .val (.int (3 : Int32)), .val (.int (0 : Int32)), .val (.int p1), .unset] [(.ref r193)])) rfl rfl (hb hby at_173)
        refine Goes.of (st217) ?_
        show Goes p e below KK T217 (mkF m 176 #[.val (.int p1), .val (.int p2), .val (.int p3), .val (.int p4), .val (.int p5), .val (.int p6), .val (.int (4 : Int32)), .val (.int (if ((XT.ushr p5 (2 : Int32)) &&& (1 : Int32)) = (0 : Int32) then (0 : Int32) else (1 : Int32))), .val (.ref b191), .val (.int (3 : Int32)), .val (.int (0 : Int32)), .val (.int p1), .unset] [(.ref r193)])
        refine Goes.of (fun t => XS.astore X217.here hx rfl (hb hby at_176) rfl rfl (l' := #[.val (.int p1), .val (.int p2), .val (.int p3), .val (.int p4), .val (.int p5), .val (.int p6), .val (.int (4 : Int32)), .val (.int (if ((XT.ushr p5 (2 : Int32)) &&& (1 : Int32)) = (0 : Int32) then (0 : Int32) else (1 : Int32))), .val (.ref b191), .val (.int (3 : Int32)), .val (.int (0 : Int32)), .val (.int p1), .val (.ref r193)]) rfl) ?_
        show Goes p e below KK T217 (mkF m 178 #[.val (.int p1), .val (.int p2), .val (.int p3), .val (.int p4), .val (.int p5), .val (.int p6), .val (.int (4 : Int32)), .val (.int (if ((XT.ushr p5 (2 : Int32)) &&& (1 : Int32)) = (0 : Int32) then (0 : Int32) else (1 : Int32))), .val (.ref b191), .val (.int (3 : Int32)), .val (.int (0 : Int32)), .val (.int p1), .val (.ref r193)] [])
        refine Goes.of (fun t => XS.aload X217.here hx rfl (hb hby at_178) rfl rfl) ?_
        show Goes p e below KK T217 (mkF m 180 #[.val (.int p1), .val (.int p2), .val (.int p3), .val (.int p4), .val (.int p5), .val (.int p6), .val (.int (4 : Int32)), .val (.int (if ((XT.ushr p5 (2 : Int32)) &&& (1 : Int32)) = (0 : Int32) then (0 : Int32) else (1 : Int32))), .val (.ref b191), .val (.int (3 : Int32)), .val (.int (0 : Int32)), .val (.int p1), .val (.ref r193)] [(.ref r193)])
        refine Goes.of (fun t => XS.ifnullNo X217.here hx rfl (hb hby at_180) rfl) ?_
        show Goes p e below KK T217 (mkF m 183 #[.val (.int p1), .val (.int p2), .val (.int p3), .val (.int p4), .val (.int p5), .val (.int p6), .val (.int (4 : Int32)), .val (.int (if ((XT.ushr p5 (2 : Int32)) &&& (1 : Int32)) = (0 : Int32) then (0 : Int32) else (1 : Int32))), .val (.ref b191), .val (.int (3 : Int32)), .val (.int (0 : Int32)), .val (.int p1), .val (.ref r193)] [])
        refine Goes.of (fun t => XS.aload X217.here hx rfl (hb hby at_183) rfl rfl) ?_
        show Goes p e below KK T217 (mkF m 185 #[.val (.int p1), .val (.int p2), .val (.int p3), .val (.int p4), .val (.int p5), .val (.int p6), .val (.int (4 : Int32)), .val (.int (if ((XT.ushr p5 (2 : Int32)) &&& (1 : Int32)) = (0 : Int32) then (0 : Int32) else (1 : Int32))), .val (.ref b191), .val (.int (3 : Int32)), .val (.int (0 : Int32)), .val (.int p1), .val (.ref r193)] [(.ref r193)])
        obtain ⟨cq218, kq218, q218a, q218b, q218c⟩ := isOf hZ200 e217 E193_194_195_196_197_198_199_200_214
        obtain ⟨_, _, ⟨T218, L218, k218, n218⟩, -, X218, ⟨Lc218, hQ218, l218, y218, z218⟩, st218⟩ := X217.virtualBack hx (y := (⟨"java/lang/Integer", "intValue", "()I"⟩ : MethodName)) (z := (⟨"java/lang/Integer", "intValue", "()I"⟩ : MethodName)) hown200 (mvT hZ200 w_83) (mvT hZ200 w_84) (notFace_of_selects (args := #[]) (mvT hZ200 w_86)) (mvT hZ200 w_86) (mvT hZ200 w_85) (by decide) (backOf (W := 0) (rm14 l Z a0 hw [] r193 p1 T214.heap n0 Z214 F193_194_195_196_197_198_199_200_214) hZ200 w_87 w_33 (by decide) (by decide)) q218a q218c (g := (mkF m 185 #[.val (.int p1), .val (.int p2), .val (.int p3), .val (.int p4), .val (.int p5), .val (.int p6), .val (.int (4 : Int32)), .val (.int (if ((XT.ushr p5 (2 : Int32)) &&& (1 : Int32)) = (0 : Int32) then (0 : Int32) else (1 : Int32))), .val (.ref b191), .val (.int (3 : Int32)), .val (.int (0 : Int32)), .val (.int p1), .val (.ref r193)] [(.ref r193)])) rfl (by rw [hml]; rfl) (Steps.refl _) (argsL := []) (rest := []) (lenOf pd_50 rfl) rfl (by show 2 * 0 + _ ≤ _; exact Nat.le_of_eq rfl) (hb hby at_185) (fun _ _ => ⟨rfl, e217, (by decide : 16 + 0 ≤ _), (by decide : 142 + 0 ≤ _)⟩)
        dsimp only [Pt.U, Pt.locs, Pt.cells, Pt.slots] at X218 l218 y218 z218 st218 hQ218
        subst l218 y218 z218
        obtain ⟨rfl, N218q, e218⟩ := hQ218
        have N218 := Fr.app N216 N218q
        refine Goes.tr st218 ?_
        show Goes p e below KK T218 (mkF m 188 #[.val (.int p1), .val (.int p2), .val (.int p3), .val (.int p4), .val (.int p5), .val (.int p6), .val (.int (4 : Int32)), .val (.int (if ((XT.ushr p5 (2 : Int32)) &&& (1 : Int32)) = (0 : Int32) then (0 : Int32) else (1 : Int32))), .val (.ref b191), .val (.int (3 : Int32)), .val (.int (0 : Int32)), .val (.int p1), .val (.ref r193)] [(.int p1)])
        refine Goes.of (fun t => XS.iload X218.here hx rfl (hb hby at_188) rfl) ?_
        show Goes p e below KK T218 (mkF m 190 #[.val (.int p1), .val (.int p2), .val (.int p3), .val (.int p4), .val (.int p5), .val (.int p6), .val (.int (4 : Int32)), .val (.int (if ((XT.ushr p5 (2 : Int32)) &&& (1 : Int32)) = (0 : Int32) then (0 : Int32) else (1 : Int32))), .val (.ref b191), .val (.int (3 : Int32)), .val (.int (0 : Int32)), .val (.int p1), .val (.ref r193)] [(.int p1), (.int p1)])
        refine Goes.of (fun t => XS.icmpNo X218.here hx rfl (hb hby at_190) rfl (teq (show p1 = p1 from rfl)).2) ?_
        show Goes p e below KK T218 (mkF m 193 #[.val (.int p1), .val (.int p2), .val (.int p3), .val (.int p4), .val (.int p5), .val (.int p6), .val (.int (4 : Int32)), .val (.int (if ((XT.ushr p5 (2 : Int32)) &&& (1 : Int32)) = (0 : Int32) then (0 : Int32) else (1 : Int32))), .val (.ref b191), .val (.int (3 : Int32)), .val (.int (0 : Int32)), .val (.int p1), .val (.ref r193)] [])
        refine Goes.of (fun t => XS.iconst X218.here hx rfl (hb hby at_193)) ?_
        show Goes p e below KK T218 (mkF m 194 #[.val (.int p1), .val (.int p2), .val (.int p3), .val (.int p4), .val (.int p5), .val (.int p6), .val (.int (4 : Int32)), .val (.int (if ((XT.ushr p5 (2 : Int32)) &&& (1 : Int32)) = (0 : Int32) then (0 : Int32) else (1 : Int32))), .val (.ref b191), .val (.int (3 : Int32)), .val (.int (0 : Int32)), .val (.int p1), .val (.ref r193)] [(.int (1 : Int32))])
        refine Goes.of (fun t => XS.goto X218.here hx rfl (pc0 := 194) (pc' := 198) rfl (hb hby at_194) (by decide) (by decide)) ?_
        show Goes p e below KK T218 (mkF m 198 #[.val (.int p1), .val (.int p2), .val (.int p3), .val (.int p4), .val (.int p5), .val (.int p6), .val (.int (4 : Int32)), .val (.int (if ((XT.ushr p5 (2 : Int32)) &&& (1 : Int32)) = (0 : Int32) then (0 : Int32) else (1 : Int32))), .val (.ref b191), .val (.int (3 : Int32)), .val (.int (0 : Int32)), .val (.int p1), .val (.ref r193)] [(.int (1 : Int32))])
        rw [← hKK]
        refine Goes.retNarW X218 HS200 (by rw [e218]; exact HK214) hx hlk (t := .boolean) (by simp) Bd.returns (hb hby at_198) ?_ (by decide) (by decide)
        rw [e218]
        exact ⟨rfl, N218⟩
      · subst hi
        show Goes p e below KK T214 (mkF m 126 #[.val (.int p1), .val (.int p2), .val (.int p3), .val (.int p4), .val (.int p5), .val (.int p6), .val (.int (4 : Int32)), .val (.int (if ((XT.ushr p5 (2 : Int32)) &&& (1 : Int32)) = (0 : Int32) then (0 : Int32) else (1 : Int32))), .val (.ref b191), .val (.int (3 : Int32)), .unset, .unset, .unset] [(.int (1 : Int32))])
        refine Goes.of (fun t => XS.istore X214.here hx rfl (hb hby at_126) rfl (l' := #[.val (.int p1), .val (.int p2), .val (.int p3), .val (.int p4), .val (.int p5), .val (.int p6), .val (.int (4 : Int32)), .val (.int (if ((XT.ushr p5 (2 : Int32)) &&& (1 : Int32)) = (0 : Int32) then (0 : Int32) else (1 : Int32))), .val (.ref b191), .val (.int (3 : Int32)), .val (.int (1 : Int32)), .unset, .unset]) rfl) ?_
        show Goes p e below KK T214 (mkF m 128 #[.val (.int p1), .val (.int p2), .val (.int p3), .val (.int p4), .val (.int p5), .val (.int p6), .val (.int (4 : Int32)), .val (.int (if ((XT.ushr p5 (2 : Int32)) &&& (1 : Int32)) = (0 : Int32) then (0 : Int32) else (1 : Int32))), .val (.ref b191), .val (.int (3 : Int32)), .val (.int (1 : Int32)), .unset, .unset] [])
        refine Goes.of (fun t => XS.iload X214.here hx rfl (hb hby at_128) rfl) ?_
        show Goes p e below KK T214 (mkF m 130 #[.val (.int p1), .val (.int p2), .val (.int p3), .val (.int p4), .val (.int p5), .val (.int p6), .val (.int (4 : Int32)), .val (.int (if ((XT.ushr p5 (2 : Int32)) &&& (1 : Int32)) = (0 : Int32) then (0 : Int32) else (1 : Int32))), .val (.ref b191), .val (.int (3 : Int32)), .val (.int (1 : Int32)), .unset, .unset] [(.int (1 : Int32))])
        refine Goes.of (fun t => XS.ifYes X214.here hx rfl (pc0 := 130) (pc' := 139) rfl (hb hby at_130) rfl ((if0 _ _).trans (feq (show ¬ ((1 : Int32) = (0 : Int32)) from by decide)).2) (by decide) (by decide)) ?_
        show Goes p e below KK T214 (mkF m 139 #[.val (.int p1), .val (.int p2), .val (.int p3), .val (.int p4), .val (.int p5), .val (.int p6), .val (.int (4 : Int32)), .val (.int (if ((XT.ushr p5 (2 : Int32)) &&& (1 : Int32)) = (0 : Int32) then (0 : Int32) else (1 : Int32))), .val (.ref b191), .val (.int (3 : Int32)), .val (.int (1 : Int32)), .unset, .unset] [])
        refine Goes.of (fun t => XS.iload X214.here hx rfl (hb hby at_139) rfl) ?_
        show Goes p e below KK T214 (mkF m 141 #[.val (.int p1), .val (.int p2), .val (.int p3), .val (.int p4), .val (.int p5), .val (.int p6), .val (.int (4 : Int32)), .val (.int (if ((XT.ushr p5 (2 : Int32)) &&& (1 : Int32)) = (0 : Int32) then (0 : Int32) else (1 : Int32))), .val (.ref b191), .val (.int (3 : Int32)), .val (.int (1 : Int32)), .unset, .unset] [(.int (1 : Int32))])
        refine Goes.of (fun t => XS.iconst X214.here hx rfl (hb hby at_141)) ?_
        show Goes p e below KK T214 (mkF m 142 #[.val (.int p1), .val (.int p2), .val (.int p3), .val (.int p4), .val (.int p5), .val (.int p6), .val (.int (4 : Int32)), .val (.int (if ((XT.ushr p5 (2 : Int32)) &&& (1 : Int32)) = (0 : Int32) then (0 : Int32) else (1 : Int32))), .val (.ref b191), .val (.int (3 : Int32)), .val (.int (1 : Int32)), .unset, .unset] [(.int (1 : Int32)), (.int (1 : Int32))])
        refine Goes.of (fun t => XS.icmpNo X214.here hx rfl (hb hby at_142) rfl (teq (show (1 : Int32) = (1 : Int32) from by decide)).2) ?_
        show Goes p e below KK T214 (mkF m 145 #[.val (.int p1), .val (.int p2), .val (.int p3), .val (.int p4), .val (.int p5), .val (.int p6), .val (.int (4 : Int32)), .val (.int (if ((XT.ushr p5 (2 : Int32)) &&& (1 : Int32)) = (0 : Int32) then (0 : Int32) else (1 : Int32))), .val (.ref b191), .val (.int (3 : Int32)), .val (.int (1 : Int32)), .unset, .unset] [])
        refine Goes.of (fun t => XS.iloadN X214.here hx rfl (hb hby at_145) rfl) ?_
        show Goes p e below KK T214 (mkF m 146 #[.val (.int p1), .val (.int p2), .val (.int p3), .val (.int p4), .val (.int p5), .val (.int p6), .val (.int (4 : Int32)), .val (.int (if ((XT.ushr p5 (2 : Int32)) &&& (1 : Int32)) = (0 : Int32) then (0 : Int32) else (1 : Int32))), .val (.ref b191), .val (.int (3 : Int32)), .val (.int (1 : Int32)), .unset, .unset] [(.int p2)])
        refine Goes.of (fun t => XS.istore X214.here hx rfl (hb hby at_146) rfl (l' := #[.val (.int p1), .val (.int p2), .val (.int p3), .val (.int p4), .val (.int p5), .val (.int p6), .val (.int (4 : Int32)), .val (.int (if ((XT.ushr p5 (2 : Int32)) &&& (1 : Int32)) = (0 : Int32) then (0 : Int32) else (1 : Int32))), .val (.ref b191), .val (.int (3 : Int32)), .val (.int (1 : Int32)), .val (.int p2), .unset]) rfl) ?_
        show Goes p e below KK T214 (mkF m 148 #[.val (.int p1), .val (.int p2), .val (.int p3), .val (.int p4), .val (.int p5), .val (.int p6), .val (.int (4 : Int32)), .val (.int (if ((XT.ushr p5 (2 : Int32)) &&& (1 : Int32)) = (0 : Int32) then (0 : Int32) else (1 : Int32))), .val (.ref b191), .val (.int (3 : Int32)), .val (.int (1 : Int32)), .val (.int p2), .unset] [])
        refine Goes.of (fun t => XS.goto X214.here hx rfl (pc0 := 148) (pc' := 166) rfl (hb hby at_148) (by decide) (by decide)) ?_
        show Goes p e below KK T214 (mkF m 166 #[.val (.int p1), .val (.int p2), .val (.int p3), .val (.int p4), .val (.int p5), .val (.int p6), .val (.int (4 : Int32)), .val (.int (if ((XT.ushr p5 (2 : Int32)) &&& (1 : Int32)) = (0 : Int32) then (0 : Int32) else (1 : Int32))), .val (.ref b191), .val (.int (3 : Int32)), .val (.int (1 : Int32)), .val (.int p2), .unset] [])
        refine Goes.of (fun t => XS.aload X214.here hx rfl (hb hby at_166) rfl rfl) ?_
        show Goes p e below KK T214 (mkF m 168 #[.val (.int p1), .val (.int p2), .val (.int p3), .val (.int p4), .val (.int p5), .val (.int p6), .val (.int (4 : Int32)), .val (.int (if ((XT.ushr p5 (2 : Int32)) &&& (1 : Int32)) = (0 : Int32) then (0 : Int32) else (1 : Int32))), .val (.ref b191), .val (.int (3 : Int32)), .val (.int (1 : Int32)), .val (.int p2), .unset] [(.ref b191)])
        refine Goes.of (fun t => XS.iload X214.here hx rfl (hb hby at_168) rfl) ?_
        show Goes p e below KK T214 (mkF m 170 #[.val (.int p1), .val (.int p2), .val (.int p3), .val (.int p4), .val (.int p5), .val (.int p6), .val (.int (4 : Int32)), .val (.int (if ((XT.ushr p5 (2 : Int32)) &&& (1 : Int32)) = (0 : Int32) then (0 : Int32) else (1 : Int32))), .val (.ref b191), .val (.int (3 : Int32)), .val (.int (1 : Int32)), .val (.int p2), .unset] [(.int (1 : Int32)), (.ref b191)])
        obtain ⟨cq219, kq219, q219a, q219b, q219c⟩ := isOf hZ200 e214 E214
        obtain ⟨_, _, ⟨T219, L219, k219, n219⟩, -, X219, ⟨Lc219, hQ219, l219, y219, z219⟩, st219⟩ := X214.virtualBack hx (y := (⟨"corbel/structures/ArrayStack", "get", "(I)Ljava/lang/Object;"⟩ : MethodName)) (z := (⟨"corbel/structures/ArrayStack", "get", "(I)Ljava/lang/Object;"⟩ : MethodName)) hown200 (mvT hZ200 w_65) (mvT hZ200 w_66) (notFace_of_selects (args := #[]) (mvT hZ200 w_68)) (mvT hZ200 w_68) (mvT hZ200 w_67) (by decide) (backOf (W := 0) (rm10 l Z a0 hw [] b191 (1 : Int32) r200 [(.ref r193), (.ref r195), (.ref r197), .null] 1 r195 (3 : Int32) T214.heap n0 Z214 E214 Fe214 Fs214 A214 (by decide) (by decide) rfl rfl) hZ200 w_69 w_2 (by decide) (by decide)) q219a q219c (g := (mkF m 170 #[.val (.int p1), .val (.int p2), .val (.int p3), .val (.int p4), .val (.int p5), .val (.int p6), .val (.int (4 : Int32)), .val (.int (if ((XT.ushr p5 (2 : Int32)) &&& (1 : Int32)) = (0 : Int32) then (0 : Int32) else (1 : Int32))), .val (.ref b191), .val (.int (3 : Int32)), .val (.int (1 : Int32)), .val (.int p2), .unset] [(.int (1 : Int32)), (.ref b191)])) rfl (by rw [hml]; rfl) (Steps.refl _) (argsL := [(.int (1 : Int32))]) (rest := []) (lenOf pd_16 rfl) rfl (by show 2 * 0 + _ ≤ _; exact Nat.le_of_eq rfl) (hb hby at_170) (fun _ _ => ⟨rfl, e214, (by decide : 16 + 0 ≤ _), (by decide : 142 + 0 ≤ _)⟩)
        dsimp only [Pt.U, Pt.locs, Pt.cells, Pt.slots] at X219 l219 y219 z219 st219 hQ219
        subst l219 y219 z219
        obtain ⟨rfl, N219q, e219⟩ := hQ219
        have N219 := Fr.app N214 N219q
        refine Goes.tr st219 ?_
        show Goes p e below KK T219 (mkF m 173 #[.val (.int p1), .val (.int p2), .val (.int p3), .val (.int p4), .val (.int p5), .val (.int p6), .val (.int (4 : Int32)), .val (.int (if ((XT.ushr p5 (2 : Int32)) &&& (1 : Int32)) = (0 : Int32) then (0 : Int32) else (1 : Int32))), .val (.ref b191), .val (.int (3 : Int32)), .val (.int (1 : Int32)), .val (.int p2), .unset] [(.ref r195)])
        obtain ⟨T220, X220, e220, st220⟩ := castY X219 hx hZ200 hown200 w_81 e219 (Ins.self E195_196_197_198_199_200_214) (g := (mkF m 173 #[.val (.int p1), .val (.int p2), .val (.int p3), .val (.int p4), .val (.int p5), .val (.int p6), .val (.int (4 : Int32)), .val (.int (if ((XT.ushr p5 (2 : Int32)) &&& (1 : Int32)) = (0 : Int32) then (0 : Int32) else (1 : Int32))), .val (.ref b191), .val (.int (3 : Int32)), .val (.int (1 : Int32)), .val (.int p2), .unset] [(.ref r195)])) rfl rfl (hb hby at_173)
        refine Goes.of (st220) ?_
        show Goes p e below KK T220 (mkF m 176 #[.val (.int p1), .val (.int p2), .val (.int p3), .val (.int p4), .val (.int p5), .val (.int p6), .val (.int (4 : Int32)), .val (.int (if ((XT.ushr p5 (2 : Int32)) &&& (1 : Int32)) = (0 : Int32) then (0 : Int32) else (1 : Int32))), .val (.ref b191), .val (.int (3 : Int32)), .val (.int (1 : Int32)), .val (.int p2), .unset] [(.ref r195)])
        refine Goes.of (fun t => XS.astore X220.here hx rfl (hb hby at_176) rfl rfl (l' := #[.val (.int p1), .val (.int p2), .val (.int p3), .val (.int p4), .val (.int p5), .val (.int p6), .val (.int (4 : Int32)), .val (.int (if ((XT.ushr p5 (2 : Int32)) &&& (1 : Int32)) = (0 : Int32) then (0 : Int32) else (1 : Int32))), .val (.ref b191), .val (.int (3 : Int32)), .val (.int (1 : Int32)), .val (.int p2), .val (.ref r195)]) rfl) ?_
        show Goes p e below KK T220 (mkF m 178 #[.val (.int p1), .val (.int p2), .val (.int p3), .val (.int p4), .val (.int p5), .val (.int p6), .val (.int (4 : Int32)), .val (.int (if ((XT.ushr p5 (2 : Int32)) &&& (1 : Int32)) = (0 : Int32) then (0 : Int32) else (1 : Int32))), .val (.ref b191), .val (.int (3 : Int32)), .val (.int (1 : Int32)), .val (.int p2), .val (.ref r195)] [])
        refine Goes.of (fun t => XS.aload X220.here hx rfl (hb hby at_178) rfl rfl) ?_
        show Goes p e below KK T220 (mkF m 180 #[.val (.int p1), .val (.int p2), .val (.int p3), .val (.int p4), .val (.int p5), .val (.int p6), .val (.int (4 : Int32)), .val (.int (if ((XT.ushr p5 (2 : Int32)) &&& (1 : Int32)) = (0 : Int32) then (0 : Int32) else (1 : Int32))), .val (.ref b191), .val (.int (3 : Int32)), .val (.int (1 : Int32)), .val (.int p2), .val (.ref r195)] [(.ref r195)])
        refine Goes.of (fun t => XS.ifnullNo X220.here hx rfl (hb hby at_180) rfl) ?_
        show Goes p e below KK T220 (mkF m 183 #[.val (.int p1), .val (.int p2), .val (.int p3), .val (.int p4), .val (.int p5), .val (.int p6), .val (.int (4 : Int32)), .val (.int (if ((XT.ushr p5 (2 : Int32)) &&& (1 : Int32)) = (0 : Int32) then (0 : Int32) else (1 : Int32))), .val (.ref b191), .val (.int (3 : Int32)), .val (.int (1 : Int32)), .val (.int p2), .val (.ref r195)] [])
        refine Goes.of (fun t => XS.aload X220.here hx rfl (hb hby at_183) rfl rfl) ?_
        show Goes p e below KK T220 (mkF m 185 #[.val (.int p1), .val (.int p2), .val (.int p3), .val (.int p4), .val (.int p5), .val (.int p6), .val (.int (4 : Int32)), .val (.int (if ((XT.ushr p5 (2 : Int32)) &&& (1 : Int32)) = (0 : Int32) then (0 : Int32) else (1 : Int32))), .val (.ref b191), .val (.int (3 : Int32)), .val (.int (1 : Int32)), .val (.int p2), .val (.ref r195)] [(.ref r195)])
        obtain ⟨cq221, kq221, q221a, q221b, q221c⟩ := isOf hZ200 e220 E195_196_197_198_199_200_214
        obtain ⟨_, _, ⟨T221, L221, k221, n221⟩, -, X221, ⟨Lc221, hQ221, l221, y221, z221⟩, st221⟩ := X220.virtualBack hx (y := (⟨"java/lang/Integer", "intValue", "()I"⟩ : MethodName)) (z := (⟨"java/lang/Integer", "intValue", "()I"⟩ : MethodName)) hown200 (mvT hZ200 w_83) (mvT hZ200 w_84) (notFace_of_selects (args := #[]) (mvT hZ200 w_86)) (mvT hZ200 w_86) (mvT hZ200 w_85) (by decide) (backOf (W := 0) (rm14 l Z a0 hw [] r195 p2 T214.heap n0 Z214 F195_196_197_198_199_200_214) hZ200 w_87 w_33 (by decide) (by decide)) q221a q221c (g := (mkF m 185 #[.val (.int p1), .val (.int p2), .val (.int p3), .val (.int p4), .val (.int p5), .val (.int p6), .val (.int (4 : Int32)), .val (.int (if ((XT.ushr p5 (2 : Int32)) &&& (1 : Int32)) = (0 : Int32) then (0 : Int32) else (1 : Int32))), .val (.ref b191), .val (.int (3 : Int32)), .val (.int (1 : Int32)), .val (.int p2), .val (.ref r195)] [(.ref r195)])) rfl (by rw [hml]; rfl) (Steps.refl _) (argsL := []) (rest := []) (lenOf pd_50 rfl) rfl (by show 2 * 0 + _ ≤ _; exact Nat.le_of_eq rfl) (hb hby at_185) (fun _ _ => ⟨rfl, e220, (by decide : 16 + 0 ≤ _), (by decide : 142 + 0 ≤ _)⟩)
        dsimp only [Pt.U, Pt.locs, Pt.cells, Pt.slots] at X221 l221 y221 z221 st221 hQ221
        subst l221 y221 z221
        obtain ⟨rfl, N221q, e221⟩ := hQ221
        have N221 := Fr.app N219 N221q
        refine Goes.tr st221 ?_
        show Goes p e below KK T221 (mkF m 188 #[.val (.int p1), .val (.int p2), .val (.int p3), .val (.int p4), .val (.int p5), .val (.int p6), .val (.int (4 : Int32)), .val (.int (if ((XT.ushr p5 (2 : Int32)) &&& (1 : Int32)) = (0 : Int32) then (0 : Int32) else (1 : Int32))), .val (.ref b191), .val (.int (3 : Int32)), .val (.int (1 : Int32)), .val (.int p2), .val (.ref r195)] [(.int p2)])
        refine Goes.of (fun t => XS.iload X221.here hx rfl (hb hby at_188) rfl) ?_
        show Goes p e below KK T221 (mkF m 190 #[.val (.int p1), .val (.int p2), .val (.int p3), .val (.int p4), .val (.int p5), .val (.int p6), .val (.int (4 : Int32)), .val (.int (if ((XT.ushr p5 (2 : Int32)) &&& (1 : Int32)) = (0 : Int32) then (0 : Int32) else (1 : Int32))), .val (.ref b191), .val (.int (3 : Int32)), .val (.int (1 : Int32)), .val (.int p2), .val (.ref r195)] [(.int p2), (.int p2)])
        refine Goes.of (fun t => XS.icmpNo X221.here hx rfl (hb hby at_190) rfl (teq (show p2 = p2 from rfl)).2) ?_
        show Goes p e below KK T221 (mkF m 193 #[.val (.int p1), .val (.int p2), .val (.int p3), .val (.int p4), .val (.int p5), .val (.int p6), .val (.int (4 : Int32)), .val (.int (if ((XT.ushr p5 (2 : Int32)) &&& (1 : Int32)) = (0 : Int32) then (0 : Int32) else (1 : Int32))), .val (.ref b191), .val (.int (3 : Int32)), .val (.int (1 : Int32)), .val (.int p2), .val (.ref r195)] [])
        refine Goes.of (fun t => XS.iconst X221.here hx rfl (hb hby at_193)) ?_
        show Goes p e below KK T221 (mkF m 194 #[.val (.int p1), .val (.int p2), .val (.int p3), .val (.int p4), .val (.int p5), .val (.int p6), .val (.int (4 : Int32)), .val (.int (if ((XT.ushr p5 (2 : Int32)) &&& (1 : Int32)) = (0 : Int32) then (0 : Int32) else (1 : Int32))), .val (.ref b191), .val (.int (3 : Int32)), .val (.int (1 : Int32)), .val (.int p2), .val (.ref r195)] [(.int (1 : Int32))])
        refine Goes.of (fun t => XS.goto X221.here hx rfl (pc0 := 194) (pc' := 198) rfl (hb hby at_194) (by decide) (by decide)) ?_
        show Goes p e below KK T221 (mkF m 198 #[.val (.int p1), .val (.int p2), .val (.int p3), .val (.int p4), .val (.int p5), .val (.int p6), .val (.int (4 : Int32)), .val (.int (if ((XT.ushr p5 (2 : Int32)) &&& (1 : Int32)) = (0 : Int32) then (0 : Int32) else (1 : Int32))), .val (.ref b191), .val (.int (3 : Int32)), .val (.int (1 : Int32)), .val (.int p2), .val (.ref r195)] [(.int (1 : Int32))])
        rw [← hKK]
        refine Goes.retNarW X221 HS200 (by rw [e221]; exact HK214) hx hlk (t := .boolean) (by simp) Bd.returns (hb hby at_198) ?_ (by decide) (by decide)
        rw [e221]
        exact ⟨rfl, N221⟩
      · subst hi
        show Goes p e below KK T214 (mkF m 126 #[.val (.int p1), .val (.int p2), .val (.int p3), .val (.int p4), .val (.int p5), .val (.int p6), .val (.int (4 : Int32)), .val (.int (if ((XT.ushr p5 (2 : Int32)) &&& (1 : Int32)) = (0 : Int32) then (0 : Int32) else (1 : Int32))), .val (.ref b191), .val (.int (3 : Int32)), .unset, .unset, .unset] [(.int (2 : Int32))])
        refine Goes.of (fun t => XS.istore X214.here hx rfl (hb hby at_126) rfl (l' := #[.val (.int p1), .val (.int p2), .val (.int p3), .val (.int p4), .val (.int p5), .val (.int p6), .val (.int (4 : Int32)), .val (.int (if ((XT.ushr p5 (2 : Int32)) &&& (1 : Int32)) = (0 : Int32) then (0 : Int32) else (1 : Int32))), .val (.ref b191), .val (.int (3 : Int32)), .val (.int (2 : Int32)), .unset, .unset]) rfl) ?_
        show Goes p e below KK T214 (mkF m 128 #[.val (.int p1), .val (.int p2), .val (.int p3), .val (.int p4), .val (.int p5), .val (.int p6), .val (.int (4 : Int32)), .val (.int (if ((XT.ushr p5 (2 : Int32)) &&& (1 : Int32)) = (0 : Int32) then (0 : Int32) else (1 : Int32))), .val (.ref b191), .val (.int (3 : Int32)), .val (.int (2 : Int32)), .unset, .unset] [])
        refine Goes.of (fun t => XS.iload X214.here hx rfl (hb hby at_128) rfl) ?_
        show Goes p e below KK T214 (mkF m 130 #[.val (.int p1), .val (.int p2), .val (.int p3), .val (.int p4), .val (.int p5), .val (.int p6), .val (.int (4 : Int32)), .val (.int (if ((XT.ushr p5 (2 : Int32)) &&& (1 : Int32)) = (0 : Int32) then (0 : Int32) else (1 : Int32))), .val (.ref b191), .val (.int (3 : Int32)), .val (.int (2 : Int32)), .unset, .unset] [(.int (2 : Int32))])
        refine Goes.of (fun t => XS.ifYes X214.here hx rfl (pc0 := 130) (pc' := 139) rfl (hb hby at_130) rfl ((if0 _ _).trans (feq (show ¬ ((2 : Int32) = (0 : Int32)) from by decide)).2) (by decide) (by decide)) ?_
        show Goes p e below KK T214 (mkF m 139 #[.val (.int p1), .val (.int p2), .val (.int p3), .val (.int p4), .val (.int p5), .val (.int p6), .val (.int (4 : Int32)), .val (.int (if ((XT.ushr p5 (2 : Int32)) &&& (1 : Int32)) = (0 : Int32) then (0 : Int32) else (1 : Int32))), .val (.ref b191), .val (.int (3 : Int32)), .val (.int (2 : Int32)), .unset, .unset] [])
        refine Goes.of (fun t => XS.iload X214.here hx rfl (hb hby at_139) rfl) ?_
        show Goes p e below KK T214 (mkF m 141 #[.val (.int p1), .val (.int p2), .val (.int p3), .val (.int p4), .val (.int p5), .val (.int p6), .val (.int (4 : Int32)), .val (.int (if ((XT.ushr p5 (2 : Int32)) &&& (1 : Int32)) = (0 : Int32) then (0 : Int32) else (1 : Int32))), .val (.ref b191), .val (.int (3 : Int32)), .val (.int (2 : Int32)), .unset, .unset] [(.int (2 : Int32))])
        refine Goes.of (fun t => XS.iconst X214.here hx rfl (hb hby at_141)) ?_
        show Goes p e below KK T214 (mkF m 142 #[.val (.int p1), .val (.int p2), .val (.int p3), .val (.int p4), .val (.int p5), .val (.int p6), .val (.int (4 : Int32)), .val (.int (if ((XT.ushr p5 (2 : Int32)) &&& (1 : Int32)) = (0 : Int32) then (0 : Int32) else (1 : Int32))), .val (.ref b191), .val (.int (3 : Int32)), .val (.int (2 : Int32)), .unset, .unset] [(.int (1 : Int32)), (.int (2 : Int32))])
        refine Goes.of (fun t => XS.icmpYes X214.here hx rfl (pc0 := 142) (pc' := 151) rfl (hb hby at_142) rfl (feq (show ¬ ((2 : Int32) = (1 : Int32)) from by decide)).2 (by decide) (by decide)) ?_
        show Goes p e below KK T214 (mkF m 151 #[.val (.int p1), .val (.int p2), .val (.int p3), .val (.int p4), .val (.int p5), .val (.int p6), .val (.int (4 : Int32)), .val (.int (if ((XT.ushr p5 (2 : Int32)) &&& (1 : Int32)) = (0 : Int32) then (0 : Int32) else (1 : Int32))), .val (.ref b191), .val (.int (3 : Int32)), .val (.int (2 : Int32)), .unset, .unset] [])
        refine Goes.of (fun t => XS.iload X214.here hx rfl (hb hby at_151) rfl) ?_
        show Goes p e below KK T214 (mkF m 153 #[.val (.int p1), .val (.int p2), .val (.int p3), .val (.int p4), .val (.int p5), .val (.int p6), .val (.int (4 : Int32)), .val (.int (if ((XT.ushr p5 (2 : Int32)) &&& (1 : Int32)) = (0 : Int32) then (0 : Int32) else (1 : Int32))), .val (.ref b191), .val (.int (3 : Int32)), .val (.int (2 : Int32)), .unset, .unset] [(.int (2 : Int32))])
        refine Goes.of (fun t => XS.iconst X214.here hx rfl (hb hby at_153)) ?_
        show Goes p e below KK T214 (mkF m 154 #[.val (.int p1), .val (.int p2), .val (.int p3), .val (.int p4), .val (.int p5), .val (.int p6), .val (.int (4 : Int32)), .val (.int (if ((XT.ushr p5 (2 : Int32)) &&& (1 : Int32)) = (0 : Int32) then (0 : Int32) else (1 : Int32))), .val (.ref b191), .val (.int (3 : Int32)), .val (.int (2 : Int32)), .unset, .unset] [(.int (2 : Int32)), (.int (2 : Int32))])
        refine Goes.of (fun t => XS.icmpNo X214.here hx rfl (hb hby at_154) rfl (teq (show (2 : Int32) = (2 : Int32) from by decide)).2) ?_
        show Goes p e below KK T214 (mkF m 157 #[.val (.int p1), .val (.int p2), .val (.int p3), .val (.int p4), .val (.int p5), .val (.int p6), .val (.int (4 : Int32)), .val (.int (if ((XT.ushr p5 (2 : Int32)) &&& (1 : Int32)) = (0 : Int32) then (0 : Int32) else (1 : Int32))), .val (.ref b191), .val (.int (3 : Int32)), .val (.int (2 : Int32)), .unset, .unset] [])
        refine Goes.of (fun t => XS.iloadN X214.here hx rfl (hb hby at_157) rfl) ?_
        show Goes p e below KK T214 (mkF m 158 #[.val (.int p1), .val (.int p2), .val (.int p3), .val (.int p4), .val (.int p5), .val (.int p6), .val (.int (4 : Int32)), .val (.int (if ((XT.ushr p5 (2 : Int32)) &&& (1 : Int32)) = (0 : Int32) then (0 : Int32) else (1 : Int32))), .val (.ref b191), .val (.int (3 : Int32)), .val (.int (2 : Int32)), .unset, .unset] [(.int p3)])
        refine Goes.of (fun t => XS.istore X214.here hx rfl (hb hby at_158) rfl (l' := #[.val (.int p1), .val (.int p2), .val (.int p3), .val (.int p4), .val (.int p5), .val (.int p6), .val (.int (4 : Int32)), .val (.int (if ((XT.ushr p5 (2 : Int32)) &&& (1 : Int32)) = (0 : Int32) then (0 : Int32) else (1 : Int32))), .val (.ref b191), .val (.int (3 : Int32)), .val (.int (2 : Int32)), .val (.int p3), .unset]) rfl) ?_
        show Goes p e below KK T214 (mkF m 160 #[.val (.int p1), .val (.int p2), .val (.int p3), .val (.int p4), .val (.int p5), .val (.int p6), .val (.int (4 : Int32)), .val (.int (if ((XT.ushr p5 (2 : Int32)) &&& (1 : Int32)) = (0 : Int32) then (0 : Int32) else (1 : Int32))), .val (.ref b191), .val (.int (3 : Int32)), .val (.int (2 : Int32)), .val (.int p3), .unset] [])
        refine Goes.of (fun t => XS.goto X214.here hx rfl (pc0 := 160) (pc' := 166) rfl (hb hby at_160) (by decide) (by decide)) ?_
        show Goes p e below KK T214 (mkF m 166 #[.val (.int p1), .val (.int p2), .val (.int p3), .val (.int p4), .val (.int p5), .val (.int p6), .val (.int (4 : Int32)), .val (.int (if ((XT.ushr p5 (2 : Int32)) &&& (1 : Int32)) = (0 : Int32) then (0 : Int32) else (1 : Int32))), .val (.ref b191), .val (.int (3 : Int32)), .val (.int (2 : Int32)), .val (.int p3), .unset] [])
        refine Goes.of (fun t => XS.aload X214.here hx rfl (hb hby at_166) rfl rfl) ?_
        show Goes p e below KK T214 (mkF m 168 #[.val (.int p1), .val (.int p2), .val (.int p3), .val (.int p4), .val (.int p5), .val (.int p6), .val (.int (4 : Int32)), .val (.int (if ((XT.ushr p5 (2 : Int32)) &&& (1 : Int32)) = (0 : Int32) then (0 : Int32) else (1 : Int32))), .val (.ref b191), .val (.int (3 : Int32)), .val (.int (2 : Int32)), .val (.int p3), .unset] [(.ref b191)])
        refine Goes.of (fun t => XS.iload X214.here hx rfl (hb hby at_168) rfl) ?_
        show Goes p e below KK T214 (mkF m 170 #[.val (.int p1), .val (.int p2), .val (.int p3), .val (.int p4), .val (.int p5), .val (.int p6), .val (.int (4 : Int32)), .val (.int (if ((XT.ushr p5 (2 : Int32)) &&& (1 : Int32)) = (0 : Int32) then (0 : Int32) else (1 : Int32))), .val (.ref b191), .val (.int (3 : Int32)), .val (.int (2 : Int32)), .val (.int p3), .unset] [(.int (2 : Int32)), (.ref b191)])
        obtain ⟨cq222, kq222, q222a, q222b, q222c⟩ := isOf hZ200 e214 E214
        obtain ⟨_, _, ⟨T222, L222, k222, n222⟩, -, X222, ⟨Lc222, hQ222, l222, y222, z222⟩, st222⟩ := X214.virtualBack hx (y := (⟨"corbel/structures/ArrayStack", "get", "(I)Ljava/lang/Object;"⟩ : MethodName)) (z := (⟨"corbel/structures/ArrayStack", "get", "(I)Ljava/lang/Object;"⟩ : MethodName)) hown200 (mvT hZ200 w_65) (mvT hZ200 w_66) (notFace_of_selects (args := #[]) (mvT hZ200 w_68)) (mvT hZ200 w_68) (mvT hZ200 w_67) (by decide) (backOf (W := 0) (rm10 l Z a0 hw [] b191 (2 : Int32) r200 [(.ref r193), (.ref r195), (.ref r197), .null] 2 r197 (3 : Int32) T214.heap n0 Z214 E214 Fe214 Fs214 A214 (by decide) (by decide) rfl rfl) hZ200 w_69 w_2 (by decide) (by decide)) q222a q222c (g := (mkF m 170 #[.val (.int p1), .val (.int p2), .val (.int p3), .val (.int p4), .val (.int p5), .val (.int p6), .val (.int (4 : Int32)), .val (.int (if ((XT.ushr p5 (2 : Int32)) &&& (1 : Int32)) = (0 : Int32) then (0 : Int32) else (1 : Int32))), .val (.ref b191), .val (.int (3 : Int32)), .val (.int (2 : Int32)), .val (.int p3), .unset] [(.int (2 : Int32)), (.ref b191)])) rfl (by rw [hml]; rfl) (Steps.refl _) (argsL := [(.int (2 : Int32))]) (rest := []) (lenOf pd_16 rfl) rfl (by show 2 * 0 + _ ≤ _; exact Nat.le_of_eq rfl) (hb hby at_170) (fun _ _ => ⟨rfl, e214, (by decide : 16 + 0 ≤ _), (by decide : 142 + 0 ≤ _)⟩)
        dsimp only [Pt.U, Pt.locs, Pt.cells, Pt.slots] at X222 l222 y222 z222 st222 hQ222
        subst l222 y222 z222
        obtain ⟨rfl, N222q, e222⟩ := hQ222
        have N222 := Fr.app N214 N222q
        refine Goes.tr st222 ?_
        show Goes p e below KK T222 (mkF m 173 #[.val (.int p1), .val (.int p2), .val (.int p3), .val (.int p4), .val (.int p5), .val (.int p6), .val (.int (4 : Int32)), .val (.int (if ((XT.ushr p5 (2 : Int32)) &&& (1 : Int32)) = (0 : Int32) then (0 : Int32) else (1 : Int32))), .val (.ref b191), .val (.int (3 : Int32)), .val (.int (2 : Int32)), .val (.int p3), .unset] [(.ref r197)])
        obtain ⟨T223, X223, e223, st223⟩ := castY X222 hx hZ200 hown200 w_81 e222 (Ins.self E197_198_199_200_214) (g := (mkF m 173 #[.val (.int p1), .val (.int p2), .val (.int p3), .val (.int p4), .val (.int p5), .val (.int p6), .val (.int (4 : Int32)), .val (.int (if ((XT.ushr p5 (2 : Int32)) &&& (1 : Int32)) = (0 : Int32) then (0 : Int32) else (1 : Int32))), .val (.ref b191), .val (.int (3 : Int32)), .val (.int (2 : Int32)), .val (.int p3), .unset] [(.ref r197)])) rfl rfl (hb hby at_173)
        refine Goes.of (st223) ?_
        show Goes p e below KK T223 (mkF m 176 #[.val (.int p1), .val (.int p2), .val (.int p3), .val (.int p4), .val (.int p5), .val (.int p6), .val (.int (4 : Int32)), .val (.int (if ((XT.ushr p5 (2 : Int32)) &&& (1 : Int32)) = (0 : Int32) then (0 : Int32) else (1 : Int32))), .val (.ref b191), .val (.int (3 : Int32)), .val (.int (2 : Int32)), .val (.int p3), .unset] [(.ref r197)])
        refine Goes.of (fun t => XS.astore X223.here hx rfl (hb hby at_176) rfl rfl (l' := #[.val (.int p1), .val (.int p2), .val (.int p3), .val (.int p4), .val (.int p5), .val (.int p6), .val (.int (4 : Int32)), .val (.int (if ((XT.ushr p5 (2 : Int32)) &&& (1 : Int32)) = (0 : Int32) then (0 : Int32) else (1 : Int32))), .val (.ref b191), .val (.int (3 : Int32)), .val (.int (2 : Int32)), .val (.int p3), .val (.ref r197)]) rfl) ?_
        show Goes p e below KK T223 (mkF m 178 #[.val (.int p1), .val (.int p2), .val (.int p3), .val (.int p4), .val (.int p5), .val (.int p6), .val (.int (4 : Int32)), .val (.int (if ((XT.ushr p5 (2 : Int32)) &&& (1 : Int32)) = (0 : Int32) then (0 : Int32) else (1 : Int32))), .val (.ref b191), .val (.int (3 : Int32)), .val (.int (2 : Int32)), .val (.int p3), .val (.ref r197)] [])
        refine Goes.of (fun t => XS.aload X223.here hx rfl (hb hby at_178) rfl rfl) ?_
        show Goes p e below KK T223 (mkF m 180 #[.val (.int p1), .val (.int p2), .val (.int p3), .val (.int p4), .val (.int p5), .val (.int p6), .val (.int (4 : Int32)), .val (.int (if ((XT.ushr p5 (2 : Int32)) &&& (1 : Int32)) = (0 : Int32) then (0 : Int32) else (1 : Int32))), .val (.ref b191), .val (.int (3 : Int32)), .val (.int (2 : Int32)), .val (.int p3), .val (.ref r197)] [(.ref r197)])
        refine Goes.of (fun t => XS.ifnullNo X223.here hx rfl (hb hby at_180) rfl) ?_
        show Goes p e below KK T223 (mkF m 183 #[.val (.int p1), .val (.int p2), .val (.int p3), .val (.int p4), .val (.int p5), .val (.int p6), .val (.int (4 : Int32)), .val (.int (if ((XT.ushr p5 (2 : Int32)) &&& (1 : Int32)) = (0 : Int32) then (0 : Int32) else (1 : Int32))), .val (.ref b191), .val (.int (3 : Int32)), .val (.int (2 : Int32)), .val (.int p3), .val (.ref r197)] [])
        refine Goes.of (fun t => XS.aload X223.here hx rfl (hb hby at_183) rfl rfl) ?_
        show Goes p e below KK T223 (mkF m 185 #[.val (.int p1), .val (.int p2), .val (.int p3), .val (.int p4), .val (.int p5), .val (.int p6), .val (.int (4 : Int32)), .val (.int (if ((XT.ushr p5 (2 : Int32)) &&& (1 : Int32)) = (0 : Int32) then (0 : Int32) else (1 : Int32))), .val (.ref b191), .val (.int (3 : Int32)), .val (.int (2 : Int32)), .val (.int p3), .val (.ref r197)] [(.ref r197)])
        obtain ⟨cq224, kq224, q224a, q224b, q224c⟩ := isOf hZ200 e223 E197_198_199_200_214
        obtain ⟨_, _, ⟨T224, L224, k224, n224⟩, -, X224, ⟨Lc224, hQ224, l224, y224, z224⟩, st224⟩ := X223.virtualBack hx (y := (⟨"java/lang/Integer", "intValue", "()I"⟩ : MethodName)) (z := (⟨"java/lang/Integer", "intValue", "()I"⟩ : MethodName)) hown200 (mvT hZ200 w_83) (mvT hZ200 w_84) (notFace_of_selects (args := #[]) (mvT hZ200 w_86)) (mvT hZ200 w_86) (mvT hZ200 w_85) (by decide) (backOf (W := 0) (rm14 l Z a0 hw [] r197 p3 T214.heap n0 Z214 F197_198_199_200_214) hZ200 w_87 w_33 (by decide) (by decide)) q224a q224c (g := (mkF m 185 #[.val (.int p1), .val (.int p2), .val (.int p3), .val (.int p4), .val (.int p5), .val (.int p6), .val (.int (4 : Int32)), .val (.int (if ((XT.ushr p5 (2 : Int32)) &&& (1 : Int32)) = (0 : Int32) then (0 : Int32) else (1 : Int32))), .val (.ref b191), .val (.int (3 : Int32)), .val (.int (2 : Int32)), .val (.int p3), .val (.ref r197)] [(.ref r197)])) rfl (by rw [hml]; rfl) (Steps.refl _) (argsL := []) (rest := []) (lenOf pd_50 rfl) rfl (by show 2 * 0 + _ ≤ _; exact Nat.le_of_eq rfl) (hb hby at_185) (fun _ _ => ⟨rfl, e223, (by decide : 16 + 0 ≤ _), (by decide : 142 + 0 ≤ _)⟩)
        dsimp only [Pt.U, Pt.locs, Pt.cells, Pt.slots] at X224 l224 y224 z224 st224 hQ224
        subst l224 y224 z224
        obtain ⟨rfl, N224q, e224⟩ := hQ224
        have N224 := Fr.app N222 N224q
        refine Goes.tr st224 ?_
        show Goes p e below KK T224 (mkF m 188 #[.val (.int p1), .val (.int p2), .val (.int p3), .val (.int p4), .val (.int p5), .val (.int p6), .val (.int (4 : Int32)), .val (.int (if ((XT.ushr p5 (2 : Int32)) &&& (1 : Int32)) = (0 : Int32) then (0 : Int32) else (1 : Int32))), .val (.ref b191), .val (.int (3 : Int32)), .val (.int (2 : Int32)), .val (.int p3), .val (.ref r197)] [(.int p3)])
        refine Goes.of (fun t => XS.iload X224.here hx rfl (hb hby at_188) rfl) ?_
        show Goes p e below KK T224 (mkF m 190 #[.val (.int p1), .val (.int p2), .val (.int p3), .val (.int p4), .val (.int p5), .val (.int p6), .val (.int (4 : Int32)), .val (.int (if ((XT.ushr p5 (2 : Int32)) &&& (1 : Int32)) = (0 : Int32) then (0 : Int32) else (1 : Int32))), .val (.ref b191), .val (.int (3 : Int32)), .val (.int (2 : Int32)), .val (.int p3), .val (.ref r197)] [(.int p3), (.int p3)])
        refine Goes.of (fun t => XS.icmpNo X224.here hx rfl (hb hby at_190) rfl (teq (show p3 = p3 from rfl)).2) ?_
        show Goes p e below KK T224 (mkF m 193 #[.val (.int p1), .val (.int p2), .val (.int p3), .val (.int p4), .val (.int p5), .val (.int p6), .val (.int (4 : Int32)), .val (.int (if ((XT.ushr p5 (2 : Int32)) &&& (1 : Int32)) = (0 : Int32) then (0 : Int32) else (1 : Int32))), .val (.ref b191), .val (.int (3 : Int32)), .val (.int (2 : Int32)), .val (.int p3), .val (.ref r197)] [])
        refine Goes.of (fun t => XS.iconst X224.here hx rfl (hb hby at_193)) ?_
        show Goes p e below KK T224 (mkF m 194 #[.val (.int p1), .val (.int p2), .val (.int p3), .val (.int p4), .val (.int p5), .val (.int p6), .val (.int (4 : Int32)), .val (.int (if ((XT.ushr p5 (2 : Int32)) &&& (1 : Int32)) = (0 : Int32) then (0 : Int32) else (1 : Int32))), .val (.ref b191), .val (.int (3 : Int32)), .val (.int (2 : Int32)), .val (.int p3), .val (.ref r197)] [(.int (1 : Int32))])
        refine Goes.of (fun t => XS.goto X224.here hx rfl (pc0 := 194) (pc' := 198) rfl (hb hby at_194) (by decide) (by decide)) ?_
        show Goes p e below KK T224 (mkF m 198 #[.val (.int p1), .val (.int p2), .val (.int p3), .val (.int p4), .val (.int p5), .val (.int p6), .val (.int (4 : Int32)), .val (.int (if ((XT.ushr p5 (2 : Int32)) &&& (1 : Int32)) = (0 : Int32) then (0 : Int32) else (1 : Int32))), .val (.ref b191), .val (.int (3 : Int32)), .val (.int (2 : Int32)), .val (.int p3), .val (.ref r197)] [(.int (1 : Int32))])
        rw [← hKK]
        refine Goes.retNarW X224 HS200 (by rw [e224]; exact HK214) hx hlk (t := .boolean) (by simp) Bd.returns (hb hby at_198) ?_ (by decide) (by decide)
        rw [e224]
        exact ⟨rfl, N224⟩
set_option maxRecDepth 65536 in
set_option maxHeartbeats 40000000 in
theorem comes_1 {Post : Tables → Env → Array Value → State → Outcome → State → Prop} (hpost : ∀ tb e args s v u, (limb_1_1.after args s (.returned v) u = true ∧ limb_1_2.after args s (.returned v) u = true ∧ True) → ReturnedEndW s (.returned v) u (Jvm.fieldLocs frame_1_writes args s ++ Jvm.arrayLocs frame_1_arrays args s ++ Jvm.staticLocs frame_1_statics s) 32 1152 → Post tb e args s (.returned v) u) :
    ArmFor flags0 classFile x code maxLocals ret World_1 tables_1 room_1 Calls_1 rest_1 Pre_1 Post := by
  intro l hfl _ _ p e ha hc hk s m args below hf hA hF happ hP
  obtain ⟨hcalls, hrest, hpre⟩ := hP
  obtain ⟨-, -, -, hnamed, -, -, -, hat⟩ := (Spec.applies_iff hf).mp happ
  obtain ⟨hg, hn⟩ := and_e (Cond.before_iff.mp (show (Jvm.Cond.and given_1 narrow_1).before args s = true from hpre))
  obtain ⟨hgc, hr0⟩ := and_e hg
  obtain ⟨hg0, hr1⟩ := and_e hr0
  obtain ⟨hg1, hr2⟩ := and_e hr1
  obtain ⟨hg2, hr3⟩ := and_e hr2
  obtain ⟨hg3, hr4⟩ := and_e hr3
  obtain ⟨hg4, hr5⟩ := and_e hr4
  have hg5 := hr5
  obtain ⟨w0, w1, w2, w3, w4, w5, rfl⟩ : ∃ w0 w1 w2 w3 w4 w5 : Value, args = #[w0, w1, w2, w3, w4, w5] := by
    have hs : args.size = 6 := by simpa [Cond.value, given_1] using hgc
    obtain ⟨L⟩ := args
    match L, hs with
    | [w0, w1, w2, w3, w4, w5], _ => exact ⟨w0, w1, w2, w3, w4, w5, rfl⟩
  have hw := fun d (hd : d ∈ tables_1) => atoms_spec (ws := Jvm.Cond.code x code maxLocals ret :: tables_1) hat d (List.mem_cons_of_mem _ hd)
  have hfit : Fit s := fun {y c} hc i hi => by
    obtain ⟨ha, rfl⟩ := Array.getElem?_eq_some_iff.mp hc
    have q := List.all_eq_true.mp ((Array.all_eq_true_iff_forall_mem.mp hF) _ (Array.getElem_mem ha)) i (List.mem_range.mpr hi)
    simpa [Array.getElem?_eq_getElem hi] using q
  obtain ⟨hsets, hown0⟩ := atoms_of _ (rest_1_c_eq ▸ (show rest_1_c.before _ s = true from hrest))
  have hr0 := Cond.before_iff.mp hown0
  obtain ⟨i0, ei0⟩ := is_v hg0
  obtain rfl : w0 = (.int i0) := Option.some.inj ei0
  obtain ⟨i1, ei1⟩ := is_v hg1
  obtain rfl : w1 = (.int i1) := Option.some.inj ei1
  obtain ⟨i2, ei2⟩ := is_v hg2
  obtain rfl : w2 = (.int i2) := Option.some.inj ei2
  obtain ⟨i3, ei3⟩ := is_v hg3
  obtain rfl : w3 = (.int i3) := Option.some.inj ei3
  obtain ⟨i4, ei4⟩ := is_v hg4
  obtain rfl : w4 = (.int i4) := Option.some.inj ei4
  obtain ⟨i5, ei5⟩ := is_v hg5
  obtain rfl : w5 = (.int i5) := Option.some.inj ei5
  have Sh : Sta s s.heap "java/lang/Integer$IntegerCache" "high" "I" (.int (127 : Int32)) := Sta.start (eqv_i (Term.int_eval _) (Cond.before_iff.mp (hsets _ (List.mem_of_getElem? (i := 3) rfl)))) (Or.inl (hsets _ (List.mem_of_getElem? (i := 1) rfl)))
  have c4 := Cond.before_iff.mp (hsets _ (List.mem_of_getElem? (i := 4) rfl))
  obtain ⟨ca, vca⟩ := arr_v c4
  have Sc : Sta s s.heap "java/lang/Integer$IntegerCache" "cache" "[Ljava/lang/Integer;" (.ref ca) := Sta.start vca (Or.inr ⟨(hw _ (List.mem_of_getElem? (i := 36) rfl)), hsets _ (List.mem_of_getElem? (i := 2) rfl)⟩)
  obtain ⟨cc, Ac⟩ := Arr.start vca c4
  obtain ⟨x6, y6, q1, q2, q3, q4⟩ := Jvm.Lib.length_spec (eqv_i (Term.int_eval _) (Cond.before_iff.mp (hsets _ (List.mem_of_getElem? (i := 6) rfl))))
  cases vca.symm.trans q1
  cases (Arr.fin (Vm.Alike.refl _) Ac).symm.trans q2
  have BX : Bxs s ca cc "java/lang/Integer" "I" 256 (fun j => .int (j - 128)) := Bxs.start (fun idx => vca) Ac q3 (Value.int.inj q4).symm (by decide) (Cond.before_iff.mp (hsets _ (List.mem_of_getElem? (i := 7) rfl))) (fun X j nn h => eqv_i (by simp [Term.eval]; exact (back32 nn).1) h)
  obtain ⟨cm, km, mr, m1, m2, m3, m4⟩ := hcalls.1
  have M0 : Mir s "[Ljava/lang/Object;" mr := ⟨cm, km, m1, m2, m3, m4⟩
  obtain ⟨n, o, h1, h2, h3, _, L, rfl, ⟨rfl, N⟩, hq⟩ := rm0 l s _ hw tables_1 i0 i1 i2 i3 i4 i5 ca cc mr s.heap s.heap.size (Nat.le_refl _) rfl rfl Sh Sc BX (Old.start s) M0 p e ha hc hk s m _ below hf ((Spec.applies_iff_loose hf).mp happ).1 ⟨rfl, rfl⟩ trivial
  refine ⟨n, _, h1, h2, h3, hpost _ _ _ _ _ _ ⟨Cond.after_iff.mpr rfl, Cond.after_iff.mpr (eq_i res_at (Term.int_eval (1)) rfl), trivial⟩ ⟨hq.1, hq.2.1, hq.2.2.1, (hq.2.2.2.sift fun y hy => Or.inr (N y hy)).mono (by decide) (by decide)⟩⟩
theorem main_1_1 : Claimed_1_1 := comes_1 fun _ _ _ _ _ _ h hF => ⟨h.1, hF⟩
theorem main_1_2 : Claimed_1_2 := comes_1 fun _ _ _ _ _ _ h hF => ⟨h.2.1, hF⟩
end Jvm.Pilot.@@N@@
namespace Jvm.Pilot.@@N@@
open Jvm Jvm.ClassFile Sem Op Lib Jvm.Free Jvm.Stand Jvm.Pilot.@@N@@.Jvm.D
/-! MADE BY PROGRAM (witnessworld.py) out of the Statement's table words and the real class files: 33 classes; the members and pool entries that the words name. The judged class is class 1, her method 1. -/
namespace start1
open Jvm.ClassFile
def u (s : String) : CpInfo := .utf8 (stringToUtf16 s)
/-- a pool by its gaps: so many unusable entries, then the entry; so many at the end -/
def gap : Nat → List CpInfo → List CpInfo
  | 0, r => r
  | n + 1, r => .unusable :: gap n r
def poolList (es : List (Nat × CpInfo)) (last : Nat) : List CpInfo := es.foldr (fun e r => gap e.1 (e.2 :: r)) (gap last [])
def pool (es : List (Nat × CpInfo)) (last : Nat) : Array CpInfo := ⟨poolList es last⟩
def fileOf (pool : Array CpInfo) (this : Nat) (attrs : Array Attribute := #[]) (ms : Array MethodInfo := #[]) (fl : Nat := 33) (sup : Nat := 0) (ifs : Array Nat := #[]) (fds : Array FieldInfo := #[]) : ClassFile where
  minorVersion := 0
  majorVersion := 65
  constantPool := pool
  accessFlags := fl
  thisClass := this
  superClass := sup
  interfaces := ifs
  fields := fds
  methods := ms
  attributes := attrs
def plain (name : String) (sup : Option ClassId) : Class where
  name := name
  kind := .ordinary
  loader := none
  accessFlags := 33
  super := sup
  interfaces := #[]
  cf := none
  fields := #[]
  methods := #[]
  instanceTypes := #[]
  staticTypes := #[]
  resolved := #[]
  callSites := []
  init := .initialized
  statics := none
  mirror := none

def pool0 : Array CpInfo := pool [(5, u "<init>"), (0, u "()V"), (1, .class_ 10), (1, u "java/lang/Object"), (0, u "getClass"), (0, u "()Ljava/lang/Class;")] 111

def k0c0 : Code := { maxStack := 0, maxLocals := 1, code := object_method_1_code, exceptionTable := #[], attributes := #[] }
def k0m0 : Method := { name := "<init>", desc := "()V", sig := { parameters := [], returnType := none }, accessFlags := 1, code := some k0c0 }
def k0m1 : Method := { name := "getClass", desc := "()Ljava/lang/Class;", sig := { parameters := [], returnType := some (.object "java/lang/Class") }, accessFlags := 273, code := none }
/-- java/lang/Object -/
def k0 : Class := { plain "java/lang/Object" none with
  accessFlags := 33
  interfaces := #[]
  cf := some (fileOf pool0 8 #[] #[{ accessFlags := 1, nameIndex := 5, descriptorIndex := 6, attributes := #[] }, { accessFlags := 273, nameIndex := 11, descriptorIndex := 12, attributes := #[] }] 33 0 #[] #[])
  fields := #[]
  methods := #[k0m0, k0m1]
  instanceTypes := #[]
  staticTypes := #[]
  resolved := Array.replicate 124 none
  statics := none }

def pool1 : Array CpInfo := pool [(2, .class_ 4), (0, .nameAndType 5 6), (0, u "java/lang/Object"), (0, u "<init>"), (0, u "()V"), (0, .class_ 8), (0, u "corbel/structures/ArrayStack"), (0, .methodref 7 3), (0, .methodref 11 12), (0, .class_ 13), (0, .nameAndType 14 15), (0, u "java/lang/Integer"), (0, u "valueOf"), (0, u "(I)Ljava/lang/Integer;"), (0, .methodref 7 17), (0, .nameAndType 18 19), (0, u "add"), (0, u "(Ljava/lang/Object;)Z"), (0, .methodref 7 21), (0, .nameAndType 22 23), (0, u "pop"), (0, u "()Ljava/lang/Object;"), (0, .integer 2147483647), (0, .methodref 7 26), (0, .nameAndType 27 28), (0, u "get"), (0, u "(I)Ljava/lang/Object;"), (0, .methodref 11 30), (0, .nameAndType 31 32), (0, u "intValue"), (0, u "()I"), (0, .class_ 34), (0, u "corbel/structures/ArrayStackGetPinLaw"), (2, u "law"), (0, u "(IIIIII)Z")] 3

def k1m0 : Method := { name := "<init>", desc := "()V", sig := { parameters := [], returnType := none }, accessFlags := 1, code := none }
def k1c1 : Code := { maxStack := 3, maxLocals := 13, code := code, exceptionTable := #[], attributes := #[] }
def k1m1 : Method := { name := "law", desc := "(IIIIII)Z", sig := { parameters := [.int, .int, .int, .int, .int, .int], returnType := some .boolean }, accessFlags := 9, code := some k1c1 }
/-- corbel/structures/ArrayStackGetPinLaw -/
def k1 : Class := { plain "corbel/structures/ArrayStackGetPinLaw" (some 0) with
  accessFlags := 49
  interfaces := #[]
  cf := some (fileOf pool1 33 #[] #[{ accessFlags := 1, nameIndex := 5, descriptorIndex := 6, attributes := #[] }, { accessFlags := 9, nameIndex := 37, descriptorIndex := 38, attributes := #[] }] 49 2 #[] #[])
  fields := #[]
  methods := #[k1m0, k1m1]
  instanceTypes := #[]
  staticTypes := #[]
  resolved := Array.replicate 42 none
  statics := none }

def pool2 : Array CpInfo := pool [(8, .class_ 10), (1, u "java/lang/Iterable"), (24, .class_ 36), (0, u "java/lang/Object")] 25

/-- java/lang/Iterable -/
def k2 : Class := { plain "java/lang/Iterable" (some 0) with
  accessFlags := 1537
  interfaces := #[]
  cf := some (fileOf pool2 8 #[] #[] 1537 35 #[] #[])
  fields := #[]
  methods := #[]
  instanceTypes := #[]
  staticTypes := #[]
  resolved := Array.replicate 62 none
  statics := none }

def pool3 : Array CpInfo := pool [(10, .class_ 12), (1, u "java/util/Collection"), (47, .class_ 61), (0, u "java/lang/Object"), (0, .class_ 63), (0, u "java/lang/Iterable")] 51

/-- java/util/Collection -/
def k3 : Class := { plain "java/util/Collection" (some 0) with
  accessFlags := 1537
  interfaces := #[2]
  cf := some (fileOf pool3 10 #[] #[] 1537 60 #[62] #[])
  fields := #[]
  methods := #[]
  instanceTypes := #[]
  staticTypes := #[]
  resolved := Array.replicate 115 none
  statics := none }

def pool4 : Array CpInfo := pool [(1, .methodref 2 3), (0, .class_ 4), (0, .nameAndType 5 6), (0, u "java/lang/Object"), (0, u "<init>"), (0, u "()V"), (1, .class_ 10), (1, u "java/util/AbstractCollection"), (66, .class_ 78), (0, u "java/util/Collection")] 81

def k4c0 : Code := { maxStack := 1, maxLocals := 1, code := jdk_22_method_1_code, exceptionTable := #[], attributes := #[] }
def k4m0 : Method := { name := "<init>", desc := "()V", sig := { parameters := [], returnType := none }, accessFlags := 4, code := some k4c0 }
/-- java/util/AbstractCollection -/
def k4 : Class := { plain "java/util/AbstractCollection" (some 0) with
  accessFlags := 1057
  interfaces := #[3]
  cf := some (fileOf pool4 8 #[] #[{ accessFlags := 4, nameIndex := 5, descriptorIndex := 6, attributes := #[] }] 1057 2 #[77] #[])
  fields := #[]
  methods := #[k4m0]
  instanceTypes := #[]
  staticTypes := #[]
  resolved := Array.replicate 160 none
  statics := none }

def pool5 : Array CpInfo := pool [(8, .class_ 10), (1, u "java/util/SequencedCollection"), (15, .class_ 27), (0, u "java/lang/Object"), (0, .class_ 29), (0, u "java/util/Collection")] 27

/-- java/util/SequencedCollection -/
def k5 : Class := { plain "java/util/SequencedCollection" (some 0) with
  accessFlags := 1537
  interfaces := #[3]
  cf := some (fileOf pool5 8 #[] #[] 1537 26 #[28] #[])
  fields := #[]
  methods := #[]
  instanceTypes := #[]
  staticTypes := #[]
  resolved := Array.replicate 57 none
  statics := none }

def pool6 : Array CpInfo := pool [(8, .class_ 10), (1, u "java/util/List"), (92, .class_ 104), (0, u "java/lang/Object"), (15, .class_ 121), (0, u "java/util/SequencedCollection")] 129

/-- java/util/List -/
def k6 : Class := { plain "java/util/List" (some 0) with
  accessFlags := 1537
  interfaces := #[5]
  cf := some (fileOf pool6 8 #[] #[] 1537 103 #[120] #[])
  fields := #[]
  methods := #[]
  instanceTypes := #[]
  staticTypes := #[]
  resolved := Array.replicate 251 none
  statics := none }

def pool7 : Array CpInfo := pool [(1, .methodref 2 3), (0, .class_ 4), (0, .nameAndType 5 6), (0, u "java/util/AbstractCollection"), (0, u "<init>"), (0, u "()V"), (0, .fieldref 8 9), (0, .class_ 10), (0, .nameAndType 11 12), (0, u "java/util/AbstractList"), (0, u "modCount"), (0, u "I"), (64, .class_ 78), (0, u "java/util/AbstractList$Itr"), (3, .class_ 83), (0, u "java/util/AbstractList$ListItr"), (9, .class_ 94), (0, u "java/util/AbstractList$RandomAccessSubList"), (3, .class_ 99), (0, u "java/util/AbstractList$SubList"), (33, .class_ 134), (0, u "java/util/List"), (73, .class_ 209), (0, u "java/util/AbstractList$SubList$1"), (0, .class_ 211), (0, u "java/util/AbstractList$RandomAccessSpliterator")] 6

def k7c0 : Code := { maxStack := 2, maxLocals := 1, code := jdk_39_method_1_code, exceptionTable := #[], attributes := #[] }
def k7m0 : Method := { name := "<init>", desc := "()V", sig := { parameters := [], returnType := none }, accessFlags := 4, code := some k7c0 }
/-- java/util/AbstractList -/
def k7 : Class := { plain "java/util/AbstractList" (some 4) with
  accessFlags := 1057
  interfaces := #[6]
  cf := some (fileOf pool7 8 #[.nestMembers #[93, 98, 208, 210, 82, 77]] #[{ accessFlags := 4, nameIndex := 5, descriptorIndex := 6, attributes := #[] }] 1057 2 #[133] #[{ accessFlags := 132, nameIndex := 11, descriptorIndex := 12, attributes := #[] }])
  fields := #[{ name := "modCount", type := .int, accessFlags := 132, slot := 0, constantValue := 0 }]
  methods := #[k7m0]
  instanceTypes := #[.int]
  staticTypes := #[]
  resolved := Array.replicate 218 none
  statics := none }

def pool8 : Array CpInfo := pool [(2, .class_ 4), (1, u "corbel/structures/IndexedList"), (6, .methodref 12 13), (0, .class_ 14), (0, .nameAndType 15 16), (0, u "java/util/AbstractList"), (0, u "<init>"), (0, u "()V"), (35, .class_ 54), (1, u "corbel/structures/IndexedList$View"), (75, .class_ 131), (0, u "corbel/structures/IndexedList$RandomAccessView"), (0, .class_ 133), (0, u "corbel/structures/IndexedList$View$Cursor")] 31

def k8c0 : Code := { maxStack := 1, maxLocals := 1, code := prog_15_method_1_code, exceptionTable := #[], attributes := #[] }
def k8m0 : Method := { name := "<init>", desc := "()V", sig := { parameters := [], returnType := none }, accessFlags := 0, code := some k8c0 }
/-- corbel/structures/IndexedList -/
def k8 : Class := { plain "corbel/structures/IndexedList" (some 7) with
  accessFlags := 1056
  interfaces := #[]
  cf := some (fileOf pool8 2 #[.nestMembers #[130, 52, 132]] #[{ accessFlags := 0, nameIndex := 15, descriptorIndex := 16, attributes := #[] }] 1056 12 #[] #[])
  fields := #[]
  methods := #[k8m0]
  instanceTypes := #[.int]
  staticTypes := #[]
  resolved := Array.replicate 165 none
  statics := none }

def pool9 : Array CpInfo := pool [(1, .class_ 2), (0, u "java/util/RandomAccess"), (0, .class_ 4), (0, u "java/lang/Object")] 2

/-- java/util/RandomAccess -/
def k9 : Class := { plain "java/util/RandomAccess" (some 0) with
  accessFlags := 1537
  interfaces := #[]
  cf := some (fileOf pool9 1 #[] #[] 1537 3 #[] #[])
  fields := #[]
  methods := #[]
  instanceTypes := #[]
  staticTypes := #[]
  resolved := Array.replicate 7 none
  statics := none }

def pool10 : Array CpInfo := pool [(3, .methodref 4 5), (0, .class_ 6), (0, .nameAndType 7 8), (0, u "corbel/structures/IndexedList"), (0, u "<init>"), (0, u "()V"), (0, .class_ 10), (0, u "java/lang/Object"), (0, .fieldref 12 13), (0, .class_ 14), (0, .nameAndType 15 16), (0, u "corbel/structures/ArrayStack"), (0, u "elements"), (0, u "[Ljava/lang/Object;"), (2, u "add"), (0, u "(Ljava/lang/Object;)Z"), (0, .fieldref 12 22), (0, .nameAndType 23 24), (0, u "size"), (0, u "I"), (7, .methodref 12 33), (0, .nameAndType 34 35), (0, u "remove"), (0, u "(I)Ljava/lang/Object;"), (0, .methodref 37 38), (0, .class_ 39), (0, .nameAndType 40 41), (0, u "java/util/Objects"), (0, u "checkIndex"), (0, u "(II)I"), (0, .methodref 12 43), (0, .nameAndType 44 35), (0, u "elementAt"), (0, .string 46), (0, u "element"), (0, .methodref 37 48), (0, .nameAndType 49 50), (0, u "requireNonNull"), (0, u "(Ljava/lang/Object;Ljava/lang/String;)Ljava/lang/Object;"), (0, .methodref 12 52), (0, .nameAndType 53 54), (0, u "growFor"), (0, u "(I)V"), (0, .fieldref 12 56), (0, .nameAndType 57 24), (0, u "modCount"), (10, .methodref 12 69), (0, .nameAndType 70 8), (0, u "shrinkIfSparse"), (22, .class_ 95), (1, u "java/util/Arrays"), (2, .long 2), (1, .long 2147483639), (8, .methodref 93 110), (0, .nameAndType 111 112), (0, u "copyOf"), (0, u "([Ljava/lang/Object;I)[Ljava/lang/Object;"), (0, .long 3), (27, .class_ 142), (0, u "java/util/RandomAccess"), (0, u "MAX_CAPACITY"), (10, u "pop"), (0, u "()Ljava/lang/Object;"), (2, u "get")] 38

def k10c0 : Code := { maxStack := 2, maxLocals := 1, code := prog_1_method_1_code, exceptionTable := #[], attributes := #[] }
def k10m0 : Method := { name := "<init>", desc := "()V", sig := { parameters := [], returnType := none }, accessFlags := 1, code := some k10c0 }
def k10c1 : Code := { maxStack := 3, maxLocals := 1, code := prog_1_method_4_code, exceptionTable := #[], attributes := #[] }
def k10m1 : Method := { name := "pop", desc := "()Ljava/lang/Object;", sig := { parameters := [], returnType := some (.object "java/lang/Object") }, accessFlags := 1, code := some k10c1 }
def k10c2 : Code := { maxStack := 2, maxLocals := 2, code := prog_1_method_6_code, exceptionTable := #[], attributes := #[] }
def k10m2 : Method := { name := "get", desc := "(I)Ljava/lang/Object;", sig := { parameters := [.int], returnType := some (.object "java/lang/Object") }, accessFlags := 1, code := some k10c2 }
def k10c3 : Code := { maxStack := 5, maxLocals := 2, code := prog_1_method_8_code, exceptionTable := #[], attributes := #[] }
def k10m3 : Method := { name := "add", desc := "(Ljava/lang/Object;)Z", sig := { parameters := [(.object "java/lang/Object")], returnType := some .boolean }, accessFlags := 1, code := some k10c3 }
def k10c4 : Code := { maxStack := 6, maxLocals := 3, code := prog_1_method_11_code, exceptionTable := #[], attributes := #[] }
def k10m4 : Method := { name := "remove", desc := "(I)Ljava/lang/Object;", sig := { parameters := [.int], returnType := some (.object "java/lang/Object") }, accessFlags := 1, code := some k10c4 }
def k10c5 : Code := { maxStack := 2, maxLocals := 2, code := prog_1_method_15_code, exceptionTable := #[], attributes := #[] }
def k10m5 : Method := { name := "elementAt", desc := "(I)Ljava/lang/Object;", sig := { parameters := [.int], returnType := some (.object "java/lang/Object") }, accessFlags := 2, code := some k10c5 }
def k10c6 : Code := { maxStack := 4, maxLocals := 6, code := prog_1_method_18_code, exceptionTable := #[], attributes := #[] }
def k10m6 : Method := { name := "growFor", desc := "(I)V", sig := { parameters := [.int], returnType := none }, accessFlags := 2, code := some k10c6 }
def k10c7 : Code := { maxStack := 6, maxLocals := 1, code := prog_1_method_19_code, exceptionTable := #[], attributes := #[] }
def k10m7 : Method := { name := "shrinkIfSparse", desc := "()V", sig := { parameters := [], returnType := none }, accessFlags := 2, code := some k10c7 }
/-- corbel/structures/ArrayStack -/
def k10 : Class := { plain "corbel/structures/ArrayStack" (some 8) with
  accessFlags := 33
  interfaces := #[9]
  cf := some (fileOf pool10 12 #[] #[{ accessFlags := 1, nameIndex := 7, descriptorIndex := 8, attributes := #[] }, { accessFlags := 1, nameIndex := 154, descriptorIndex := 155, attributes := #[] }, { accessFlags := 1, nameIndex := 158, descriptorIndex := 35, attributes := #[] }, { accessFlags := 1, nameIndex := 19, descriptorIndex := 20, attributes := #[] }, { accessFlags := 1, nameIndex := 34, descriptorIndex := 35, attributes := #[] }, { accessFlags := 2, nameIndex := 44, descriptorIndex := 35, attributes := #[] }, { accessFlags := 2, nameIndex := 53, descriptorIndex := 54, attributes := #[] }, { accessFlags := 2, nameIndex := 70, descriptorIndex := 8, attributes := #[] }] 33 4 #[141] #[{ accessFlags := 26, nameIndex := 143, descriptorIndex := 24, attributes := #[] }, { accessFlags := 2, nameIndex := 15, descriptorIndex := 16, attributes := #[] }, { accessFlags := 2, nameIndex := 23, descriptorIndex := 24, attributes := #[] }])
  fields := #[{ name := "MAX_CAPACITY", type := .int, accessFlags := 26, slot := 0, constantValue := 0 }, { name := "elements", type := (.array (.object "java/lang/Object")), accessFlags := 2, slot := 1, constantValue := 0 }, { name := "size", type := .int, accessFlags := 2, slot := 2, constantValue := 0 }]
  methods := #[k10m0, k10m1, k10m2, k10m3, k10m4, k10m5, k10m6, k10m7]
  instanceTypes := #[.int, (.array (.object "java/lang/Object")), .int]
  staticTypes := #[.int]
  resolved := Array.replicate 197 none
  statics := none }

def pool11 : Array CpInfo := pool [(1, .class_ 2), (0, u "java/io/Serializable"), (0, .class_ 4), (0, u "java/lang/Object")] 2

/-- java/io/Serializable -/
def k11 : Class := { plain "java/io/Serializable" (some 0) with
  accessFlags := 1537
  interfaces := #[]
  cf := some (fileOf pool11 1 #[] #[] 1537 3 #[] #[])
  fields := #[]
  methods := #[]
  instanceTypes := #[]
  staticTypes := #[]
  resolved := Array.replicate 7 none
  statics := none }

def pool12 : Array CpInfo := pool [(1, .methodref 2 3), (0, .class_ 4), (0, .nameAndType 5 6), (0, u "java/lang/Object"), (0, u "<init>"), (0, u "()V"), (1, .class_ 10), (1, u "java/lang/Number"), (2, .class_ 14), (0, u "java/io/Serializable"), (0, u "serialVersionUID"), (0, u "J")] 20

def k12c0 : Code := { maxStack := 1, maxLocals := 1, code := jdk_18_method_1_code, exceptionTable := #[], attributes := #[] }
def k12m0 : Method := { name := "<init>", desc := "()V", sig := { parameters := [], returnType := none }, accessFlags := 1, code := some k12c0 }
/-- java/lang/Number -/
def k12 : Class := { plain "java/lang/Number" (some 0) with
  accessFlags := 1057
  interfaces := #[11]
  cf := some (fileOf pool12 8 #[] #[{ accessFlags := 1, nameIndex := 5, descriptorIndex := 6, attributes := #[] }] 1057 2 #[13] #[{ accessFlags := 26, nameIndex := 15, descriptorIndex := 16, attributes := #[] }])
  fields := #[{ name := "serialVersionUID", type := .long, accessFlags := 26, slot := 0, constantValue := 0 }]
  methods := #[k12m0]
  instanceTypes := #[]
  staticTypes := #[.long]
  resolved := Array.replicate 37 none
  statics := none }

def pool13 : Array CpInfo := pool [(1, .class_ 2), (0, u "java/lang/Comparable"), (0, .class_ 4), (0, u "java/lang/Object")] 7

/-- java/lang/Comparable -/
def k13 : Class := { plain "java/lang/Comparable" (some 0) with
  accessFlags := 1537
  interfaces := #[]
  cf := some (fileOf pool13 1 #[] #[] 1537 3 #[] #[])
  fields := #[]
  methods := #[]
  instanceTypes := #[]
  staticTypes := #[]
  resolved := Array.replicate 12 none
  statics := none }

def pool14 : Array CpInfo := pool [(1, .class_ 2), (0, u "java/lang/constant/Constable"), (0, .class_ 4), (0, u "java/lang/Object")] 6

/-- java/lang/constant/Constable -/
def k14 : Class := { plain "java/lang/constant/Constable" (some 0) with
  accessFlags := 1537
  interfaces := #[]
  cf := some (fileOf pool14 1 #[] #[] 1537 3 #[] #[])
  fields := #[]
  methods := #[]
  instanceTypes := #[]
  staticTypes := #[]
  resolved := Array.replicate 11 none
  statics := none }

def pool15 : Array CpInfo := pool [(1, .class_ 2), (0, u "java/lang/constant/ConstantDesc"), (0, .class_ 4), (0, u "java/lang/Object")] 32

/-- java/lang/constant/ConstantDesc -/
def k15 : Class := { plain "java/lang/constant/ConstantDesc" (some 0) with
  accessFlags := 1537
  interfaces := #[]
  cf := some (fileOf pool15 1 #[] #[] 1537 3 #[] #[])
  fields := #[]
  methods := #[]
  instanceTypes := #[]
  staticTypes := #[]
  resolved := Array.replicate 37 none
  statics := none }

def pool16 : Array CpInfo := pool [(1, .class_ 2), (0, u "java/lang/Integer"), (16, u "digits"), (0, u "[C"), (46, u "<init>"), (17, u "DigitOnes"), (0, u "[B"), (2, u "DigitTens"), (10, .nameAndType 67 101), (0, u "()V"), (19, u "()I"), (65, u "valueOf"), (0, u "(I)Ljava/lang/Integer;"), (0, .class_ 190), (0, u "java/lang/Integer$IntegerCache"), (0, .fieldref 189 192), (0, .nameAndType 193 194), (0, u "high"), (0, u "I"), (0, .fieldref 189 196), (0, .nameAndType 197 198), (0, u "cache"), (0, u "[Ljava/lang/Integer;"), (0, .methodref 1 200), (0, .nameAndType 67 201), (0, u "(I)V"), (0, .methodref 203 100), (0, .class_ 204), (0, u "java/lang/Number"), (0, .fieldref 1 206), (0, .nameAndType 207 194), (0, u "value"), (5, u "intValue"), (88, u "TYPE"), (0, u "Ljava/lang/Class;"), (0, .class_ 305), (0, u "java/lang/Comparable"), (0, .class_ 307), (0, u "java/lang/constant/Constable"), (0, .class_ 309), (0, u "java/lang/constant/ConstantDesc"), (0, u "MIN_VALUE"), (1, u "MAX_VALUE"), (3, u "SIZE"), (1, u "BYTES"), (1, u "serialVersionUID"), (0, u "J")] 131

def k16c0 : Code := { maxStack := 3, maxLocals := 1, code := jdk_33_method_22_code, exceptionTable := #[], attributes := #[] }
def k16m0 : Method := { name := "valueOf", desc := "(I)Ljava/lang/Integer;", sig := { parameters := [.int], returnType := some (.object "java/lang/Integer") }, accessFlags := 9, code := some k16c0 }
def k16c1 : Code := { maxStack := 2, maxLocals := 2, code := jdk_33_method_23_code, exceptionTable := #[], attributes := #[] }
def k16m1 : Method := { name := "<init>", desc := "(I)V", sig := { parameters := [.int], returnType := none }, accessFlags := 1, code := some k16c1 }
def k16c2 : Code := { maxStack := 1, maxLocals := 1, code := jdk_33_method_27_code, exceptionTable := #[], attributes := #[] }
def k16m2 : Method := { name := "intValue", desc := "()I", sig := { parameters := [], returnType := some .int }, accessFlags := 1, code := some k16c2 }
/-- java/lang/Integer -/
def k16 : Class := { plain "java/lang/Integer" (some 12) with
  accessFlags := 49
  interfaces := #[13, 14, 15]
  cf := some (fileOf pool16 1 #[.nestMembers #[189]] #[{ accessFlags := 9, nameIndex := 187, descriptorIndex := 188, attributes := #[] }, { accessFlags := 1, nameIndex := 67, descriptorIndex := 201, attributes := #[] }, { accessFlags := 1, nameIndex := 213, descriptorIndex := 121, attributes := #[] }] 49 203 #[304, 306, 308] #[{ accessFlags := 25, nameIndex := 310, descriptorIndex := 194, attributes := #[] }, { accessFlags := 25, nameIndex := 312, descriptorIndex := 194, attributes := #[] }, { accessFlags := 25, nameIndex := 302, descriptorIndex := 303, attributes := #[] }, { accessFlags := 24, nameIndex := 19, descriptorIndex := 20, attributes := #[] }, { accessFlags := 24, nameIndex := 89, descriptorIndex := 86, attributes := #[] }, { accessFlags := 24, nameIndex := 85, descriptorIndex := 86, attributes := #[] }, { accessFlags := 18, nameIndex := 207, descriptorIndex := 194, attributes := #[] }, { accessFlags := 25, nameIndex := 316, descriptorIndex := 194, attributes := #[] }, { accessFlags := 25, nameIndex := 318, descriptorIndex := 194, attributes := #[] }, { accessFlags := 26, nameIndex := 320, descriptorIndex := 321, attributes := #[] }])
  fields := #[{ name := "MIN_VALUE", type := .int, accessFlags := 25, slot := 0, constantValue := 0 }, { name := "MAX_VALUE", type := .int, accessFlags := 25, slot := 1, constantValue := 0 }, { name := "TYPE", type := (.object "java/lang/Class"), accessFlags := 25, slot := 2, constantValue := 0 }, { name := "digits", type := (.array .char), accessFlags := 24, slot := 3, constantValue := 0 }, { name := "DigitTens", type := (.array .byte), accessFlags := 24, slot := 4, constantValue := 0 }, { name := "DigitOnes", type := (.array .byte), accessFlags := 24, slot := 5, constantValue := 0 }, { name := "value", type := .int, accessFlags := 18, slot := 0, constantValue := 0 }, { name := "SIZE", type := .int, accessFlags := 25, slot := 6, constantValue := 0 }, { name := "BYTES", type := .int, accessFlags := 25, slot := 7, constantValue := 0 }, { name := "serialVersionUID", type := .long, accessFlags := 26, slot := 8, constantValue := 0 }]
  methods := #[k16m0, k16m1, k16m2]
  instanceTypes := #[.int]
  staticTypes := #[.int, .int, (.object "java/lang/Class"), (.array .char), (.array .byte), (.array .byte), .int, .int, .long]
  resolved := Array.replicate 453 none
  statics := none }

def pool17 : Array CpInfo := pool [(2, .class_ 4), (1, u "java/lang/Object"), (0, u "<init>"), (0, u "()V"), (0, .class_ 8), (0, u "java/lang/Integer"), (7, .class_ 18), (1, u "java/lang/Integer$IntegerCache"), (0, u "$assertionsDisabled"), (0, u "Z"), (26, u "high"), (0, u "I"), (8, u "archivedCache"), (0, u "[Ljava/lang/Integer;"), (12, u "cache"), (0, u "low")] 27

def k17m0 : Method := { name := "<init>", desc := "()V", sig := { parameters := [], returnType := none }, accessFlags := 2, code := none }
/-- java/lang/Integer$IntegerCache -/
def k17 : Class := { plain "java/lang/Integer$IntegerCache" (some 0) with
  accessFlags := 48
  interfaces := #[]
  cf := some (fileOf pool17 16 #[.nestHost 7] #[{ accessFlags := 2, nameIndex := 5, descriptorIndex := 6, attributes := #[] }] 48 2 #[] #[{ accessFlags := 24, nameIndex := 72, descriptorIndex := 48, attributes := #[] }, { accessFlags := 24, nameIndex := 47, descriptorIndex := 48, attributes := #[] }, { accessFlags := 24, nameIndex := 71, descriptorIndex := 58, attributes := #[] }, { accessFlags := 8, nameIndex := 57, descriptorIndex := 58, attributes := #[] }, { accessFlags := 4120, nameIndex := 19, descriptorIndex := 20, attributes := #[] }])
  fields := #[{ name := "low", type := .int, accessFlags := 24, slot := 0, constantValue := 0 }, { name := "high", type := .int, accessFlags := 24, slot := 1, constantValue := 0 }, { name := "cache", type := (.array (.object "java/lang/Integer")), accessFlags := 24, slot := 2, constantValue := 0 }, { name := "archivedCache", type := (.array (.object "java/lang/Integer")), accessFlags := 8, slot := 3, constantValue := 0 }, { name := "$assertionsDisabled", type := .boolean, accessFlags := 4120, slot := 4, constantValue := 0 }]
  methods := #[k17m0]
  instanceTypes := #[]
  staticTypes := #[.int, .int, (.array (.object "java/lang/Integer")), (.array (.object "java/lang/Integer")), .boolean]
  resolved := Array.replicate 100 none
  statics := some 0 }

def pool18 : Array CpInfo := pool [(2, .class_ 4), (1, u "java/lang/CharSequence"), (42, .class_ 48), (0, u "java/lang/CharSequence$1CodePointIterator"), (10, .class_ 60), (0, u "java/lang/CharSequence$1CharIterator"), (5, .class_ 67), (0, u "java/lang/Object")] 63

/-- java/lang/CharSequence -/
def k18 : Class := { plain "java/lang/CharSequence" (some 0) with
  accessFlags := 1537
  interfaces := #[]
  cf := some (fileOf pool18 2 #[.nestMembers #[47, 59]] #[] 1537 66 #[] #[])
  fields := #[]
  methods := #[]
  instanceTypes := #[]
  staticTypes := #[]
  resolved := Array.replicate 131 none
  statics := none }

def pool19 : Array CpInfo := pool [(2, .class_ 4), (1, u "java/lang/Object"), (0, u "<init>"), (0, u "()V"), (3, .class_ 12), (1, u "java/lang/String"), (0, u "value"), (0, u "[B"), (2, u "coder"), (0, u "B"), (2, u "hash"), (0, u "I"), (2, u "hashIsZero"), (0, u "Z"), (13, u "COMPACT_STRINGS"), (534, .class_ 576), (0, u "java/lang/CharSequence"), (22, u "CASE_INSENSITIVE_ORDER"), (0, u "Ljava/util/Comparator;"), (500, u "serialPersistentFields"), (0, u "[Ljava/io/ObjectStreamField;"), (0, .class_ 1104), (0, u "java/lang/String$CaseInsensitiveComparator"), (1, .class_ 1107), (0, u "java/io/Serializable"), (0, .class_ 1109), (0, u "java/lang/Comparable"), (0, .class_ 1111), (0, u "java/lang/constant/Constable"), (0, .class_ 1113), (0, u "java/lang/constant/ConstantDesc"), (2, u "serialVersionUID"), (0, u "J"), (3, u "REPL"), (0, u "C"), (2, u "LATIN1"), (1, u "UTF16")] 323

def k19m0 : Method := { name := "<init>", desc := "()V", sig := { parameters := [], returnType := none }, accessFlags := 1, code := none }
/-- java/lang/String -/
def k19 : Class := { plain "java/lang/String" (some 0) with
  accessFlags := 49
  interfaces := #[11, 13, 18, 14, 15]
  cf := some (fileOf pool19 10 #[.nestMembers #[1103]] #[{ accessFlags := 1, nameIndex := 5, descriptorIndex := 6, attributes := #[] }] 49 2 #[1106, 1108, 575, 1110, 1112] #[{ accessFlags := 18, nameIndex := 13, descriptorIndex := 14, attributes := #[] }, { accessFlags := 18, nameIndex := 17, descriptorIndex := 18, attributes := #[] }, { accessFlags := 2, nameIndex := 21, descriptorIndex := 22, attributes := #[] }, { accessFlags := 2, nameIndex := 25, descriptorIndex := 26, attributes := #[] }, { accessFlags := 26, nameIndex := 1116, descriptorIndex := 1117, attributes := #[] }, { accessFlags := 24, nameIndex := 40, descriptorIndex := 26, attributes := #[] }, { accessFlags := 26, nameIndex := 1101, descriptorIndex := 1102, attributes := #[] }, { accessFlags := 26, nameIndex := 1121, descriptorIndex := 1122, attributes := #[] }, { accessFlags := 25, nameIndex := 599, descriptorIndex := 600, attributes := #[] }, { accessFlags := 24, nameIndex := 1125, descriptorIndex := 18, attributes := #[] }, { accessFlags := 24, nameIndex := 1127, descriptorIndex := 18, attributes := #[] }])
  fields := #[{ name := "value", type := (.array .byte), accessFlags := 18, slot := 0, constantValue := 0 }, { name := "coder", type := .byte, accessFlags := 18, slot := 1, constantValue := 0 }, { name := "hash", type := .int, accessFlags := 2, slot := 2, constantValue := 0 }, { name := "hashIsZero", type := .boolean, accessFlags := 2, slot := 3, constantValue := 0 }, { name := "serialVersionUID", type := .long, accessFlags := 26, slot := 0, constantValue := 0 }, { name := "COMPACT_STRINGS", type := .boolean, accessFlags := 24, slot := 1, constantValue := 0 }, { name := "serialPersistentFields", type := (.array (.object "java/io/ObjectStreamField")), accessFlags := 26, slot := 2, constantValue := 0 }, { name := "REPL", type := .char, accessFlags := 26, slot := 3, constantValue := 0 }, { name := "CASE_INSENSITIVE_ORDER", type := (.object "java/util/Comparator"), accessFlags := 25, slot := 4, constantValue := 0 }, { name := "LATIN1", type := .byte, accessFlags := 24, slot := 5, constantValue := 0 }, { name := "UTF16", type := .byte, accessFlags := 24, slot := 6, constantValue := 0 }]
  methods := #[k19m0]
  instanceTypes := #[(.array .byte), .byte, .int, .boolean]
  staticTypes := #[.long, .boolean, (.array (.object "java/io/ObjectStreamField")), .char, (.object "java/util/Comparator"), .byte, .byte]
  resolved := Array.replicate 1451 none
  statics := none }

def pool20 : Array CpInfo := pool [(2, .class_ 4), (1, u "java/lang/Object"), (0, u "<init>"), (0, u "()V"), (35, .class_ 44), (1, u "java/util/Objects"), (0, u "requireNonNull"), (48, u "(Ljava/lang/Object;Ljava/lang/String;)Ljava/lang/Object;"), (10, .methodref 106 107), (0, .class_ 108), (0, .nameAndType 109 110), (0, u "jdk/internal/util/Preconditions"), (0, u "checkIndex"), (0, u "(IILjava/util/function/BiFunction;)I"), (60, u "(II)I")] 12

def k20m0 : Method := { name := "<init>", desc := "()V", sig := { parameters := [], returnType := none }, accessFlags := 2, code := none }
def k20c1 : Code := { maxStack := 3, maxLocals := 2, code := jdk_31_method_11_code, exceptionTable := #[], attributes := #[] }
def k20m1 : Method := { name := "requireNonNull", desc := "(Ljava/lang/Object;Ljava/lang/String;)Ljava/lang/Object;", sig := { parameters := [(.object "java/lang/Object"), (.object "java/lang/String")], returnType := some (.object "java/lang/Object") }, accessFlags := 9, code := some k20c1 }
def k20c2 : Code := { maxStack := 3, maxLocals := 2, code := jdk_31_method_17_code, exceptionTable := #[], attributes := #[] }
def k20m2 : Method := { name := "checkIndex", desc := "(II)I", sig := { parameters := [.int, .int], returnType := some .int }, accessFlags := 9, code := some k20c2 }
/-- java/util/Objects -/
def k20 : Class := { plain "java/util/Objects" (some 0) with
  accessFlags := 49
  interfaces := #[]
  cf := some (fileOf pool20 42 #[] #[{ accessFlags := 2, nameIndex := 5, descriptorIndex := 6, attributes := #[] }, { accessFlags := 9, nameIndex := 45, descriptorIndex := 94, attributes := #[] }, { accessFlags := 9, nameIndex := 109, descriptorIndex := 171, attributes := #[] }] 49 2 #[] #[])
  fields := #[]
  methods := #[k20m0, k20m1, k20m2]
  instanceTypes := #[]
  staticTypes := #[]
  resolved := Array.replicate 184 none
  statics := none }

def pool21 : Array CpInfo := pool [(2, .class_ 4), (1, u "java/lang/Object"), (0, u "<init>"), (0, u "()V"), (17, .class_ 26), (1, u "jdk/internal/util/Preconditions"), (6, u "checkIndex"), (21, .class_ 56), (0, u "jdk/internal/util/Preconditions$4"), (57, .class_ 115), (0, u "jdk/internal/util/Preconditions$1"), (7, u "SIOOBE_FORMATTER"), (0, u "Ljava/util/function/BiFunction;"), (0, .class_ 126), (0, u "jdk/internal/util/Preconditions$2"), (3, u "AIOOBE_FORMATTER"), (0, .class_ 132), (0, u "jdk/internal/util/Preconditions$3"), (3, u "IOOBE_FORMATTER"), (41, u "(IILjava/util/function/BiFunction;)I")] 15

def k21m0 : Method := { name := "<init>", desc := "()V", sig := { parameters := [], returnType := none }, accessFlags := 1, code := none }
def k21c1 : Code := { maxStack := 3, maxLocals := 3, code := jdk_41_method_11_code, exceptionTable := #[], attributes := #[] }
def k21m1 : Method := { name := "checkIndex", desc := "(IILjava/util/function/BiFunction;)I", sig := { parameters := [.int, .int, (.object "java/util/function/BiFunction")], returnType := some .int }, accessFlags := 9, code := some k21c1 }
/-- jdk/internal/util/Preconditions -/
def k21 : Class := { plain "jdk/internal/util/Preconditions" (some 0) with
  accessFlags := 33
  interfaces := #[]
  cf := some (fileOf pool21 24 #[.nestMembers #[55, 131, 125, 114]] #[{ accessFlags := 1, nameIndex := 5, descriptorIndex := 6, attributes := #[] }, { accessFlags := 9, nameIndex := 33, descriptorIndex := 178, attributes := #[] }] 33 2 #[] #[{ accessFlags := 25, nameIndex := 123, descriptorIndex := 124, attributes := #[] }, { accessFlags := 25, nameIndex := 130, descriptorIndex := 124, attributes := #[] }, { accessFlags := 25, nameIndex := 136, descriptorIndex := 124, attributes := #[] }])
  fields := #[{ name := "SIOOBE_FORMATTER", type := (.object "java/util/function/BiFunction"), accessFlags := 25, slot := 0, constantValue := 0 }, { name := "AIOOBE_FORMATTER", type := (.object "java/util/function/BiFunction"), accessFlags := 25, slot := 1, constantValue := 0 }, { name := "IOOBE_FORMATTER", type := (.object "java/util/function/BiFunction"), accessFlags := 25, slot := 2, constantValue := 0 }]
  methods := #[k21m0, k21m1]
  instanceTypes := #[]
  staticTypes := #[(.object "java/util/function/BiFunction"), (.object "java/util/function/BiFunction"), (.object "java/util/function/BiFunction")]
  resolved := Array.replicate 194 none
  statics := none }

def pool22 : Array CpInfo := pool [(2, .class_ 4), (1, u "java/lang/Object"), (0, u "<init>"), (0, u "()V"), (7, .class_ 16), (1, u "java/util/Arrays"), (57, .class_ 76), (1, u "java/util/Arrays$NaturalOrder"), (9, .methodref 2 87), (0, .nameAndType 88 89), (0, u "getClass"), (0, u "()Ljava/lang/Class;"), (20, .class_ 111), (0, u "[Ljava/lang/Object;"), (1, .class_ 115), (1, u "java/util/Arrays$LegacyMergeSort"), (1, u "Z"), (32, .methodref 151 152), (0, .class_ 153), (0, .nameAndType 154 155), (0, u "java/lang/System"), (0, u "arraycopy"), (0, u "(Ljava/lang/Object;ILjava/lang/Object;II)V"), (144, .methodref 14 301), (0, .nameAndType 302 303), (0, u "copyOf"), (0, u "([Ljava/lang/Object;ILjava/lang/Class;)[Ljava/lang/Object;"), (0, .methodref 305 306), (0, .class_ 307), (0, .nameAndType 308 309), (0, u "java/lang/Math"), (0, u "min"), (0, u "(II)I"), (65, .class_ 376), (0, u "java/util/Arrays$ArrayList"), (68, u "$assertionsDisabled"), (269, u "MIN_ARRAY_SORT_GRAN"), (0, u "I"), (2, u "INSERTIONSORT_THRESHOLD"), (140, u "([Ljava/lang/Object;I)[Ljava/lang/Object;"), (114, .class_ 976), (0, u "java/util/Arrays$ArrayItr")] 52

def k22m0 : Method := { name := "<init>", desc := "()V", sig := { parameters := [], returnType := none }, accessFlags := 2, code := none }
def k22c1 : Code := { maxStack := 3, maxLocals := 2, code := jdk_65_method_119_code, exceptionTable := #[], attributes := #[] }
def k22m1 : Method := { name := "copyOf", desc := "([Ljava/lang/Object;I)[Ljava/lang/Object;", sig := { parameters := [(.array (.object "java/lang/Object")), .int], returnType := some (.array (.object "java/lang/Object")) }, accessFlags := 9, code := some k22c1 }
def k22c2 : Code := { maxStack := 6, maxLocals := 4, code := jdk_65_method_120_code, exceptionTable := #[], attributes := #[] }
def k22m2 : Method := { name := "copyOf", desc := "([Ljava/lang/Object;ILjava/lang/Class;)[Ljava/lang/Object;", sig := { parameters := [(.array (.object "java/lang/Object")), .int, (.object "java/lang/Class")], returnType := some (.array (.object "java/lang/Object")) }, accessFlags := 9, code := some k22c2 }
/-- java/util/Arrays -/
def k22 : Class := { plain "java/util/Arrays" (some 0) with
  accessFlags := 49
  interfaces := #[]
  cf := some (fileOf pool22 14 #[.nestMembers #[975, 375, 113, 74]] #[{ accessFlags := 2, nameIndex := 5, descriptorIndex := 6, attributes := #[] }, { accessFlags := 9, nameIndex := 302, descriptorIndex := 860, attributes := #[] }, { accessFlags := 9, nameIndex := 302, descriptorIndex := 303, attributes := #[] }] 49 2 #[] #[{ accessFlags := 26, nameIndex := 715, descriptorIndex := 716, attributes := #[] }, { accessFlags := 26, nameIndex := 719, descriptorIndex := 716, attributes := #[] }, { accessFlags := 4120, nameIndex := 445, descriptorIndex := 117, attributes := #[] }])
  fields := #[{ name := "MIN_ARRAY_SORT_GRAN", type := .int, accessFlags := 26, slot := 0, constantValue := 0 }, { name := "INSERTIONSORT_THRESHOLD", type := .int, accessFlags := 26, slot := 1, constantValue := 0 }, { name := "$assertionsDisabled", type := .boolean, accessFlags := 4120, slot := 2, constantValue := 0 }]
  methods := #[k22m0, k22m1, k22m2]
  instanceTypes := #[]
  staticTypes := #[.int, .int, .boolean]
  resolved := Array.replicate 1029 none
  statics := none }

def pool23 : Array CpInfo := pool [(1, .class_ 2), (0, u "java/lang/Math"), (1, .class_ 6), (1, u "java/lang/Object"), (0, u "<init>"), (0, u "()V"), (89, .class_ 100), (1, u "java/lang/Math$RandomNumberGeneratorHolder"), (71, u "negativeZeroFloatBits"), (0, u "J"), (2, u "negativeZeroDoubleBits"), (24, u "min"), (43, u "$assertionsDisabled"), (0, u "Z"), (88, u "(II)I"), (2, u "twoToTheDoubleScaleDown"), (0, u "D"), (4, u "twoToTheDoubleScaleUp"), (9, u "E"), (3, u "PI"), (2, u "TAU"), (2, u "DEGREES_TO_RADIANS"), (0, u "RADIANS_TO_DEGREES")] 94

def k23m0 : Method := { name := "<init>", desc := "()V", sig := { parameters := [], returnType := none }, accessFlags := 2, code := none }
def k23c1 : Code := { maxStack := 2, maxLocals := 2, code := jdk_29_method_69_code, exceptionTable := #[], attributes := #[] }
def k23m1 : Method := { name := "min", desc := "(II)I", sig := { parameters := [.int, .int], returnType := some .int }, accessFlags := 9, code := some k23c1 }
/-- java/lang/Math -/
def k23 : Class := { plain "java/lang/Math" (some 0) with
  accessFlags := 49
  interfaces := #[]
  cf := some (fileOf pool23 1 #[.nestMembers #[98]] #[{ accessFlags := 2, nameIndex := 7, descriptorIndex := 8, attributes := #[] }, { accessFlags := 9, nameIndex := 201, descriptorIndex := 335, attributes := #[] }] 49 4 #[] #[{ accessFlags := 25, nameIndex := 354, descriptorIndex := 339, attributes := #[] }, { accessFlags := 25, nameIndex := 358, descriptorIndex := 339, attributes := #[] }, { accessFlags := 25, nameIndex := 361, descriptorIndex := 339, attributes := #[] }, { accessFlags := 26, nameIndex := 364, descriptorIndex := 339, attributes := #[] }, { accessFlags := 26, nameIndex := 365, descriptorIndex := 339, attributes := #[] }, { accessFlags := 26, nameIndex := 172, descriptorIndex := 173, attributes := #[] }, { accessFlags := 26, nameIndex := 176, descriptorIndex := 173, attributes := #[] }, { accessFlags := 8, nameIndex := 344, descriptorIndex := 339, attributes := #[] }, { accessFlags := 8, nameIndex := 338, descriptorIndex := 339, attributes := #[] }, { accessFlags := 4120, nameIndex := 245, descriptorIndex := 246, attributes := #[] }])
  fields := #[{ name := "E", type := .double, accessFlags := 25, slot := 0, constantValue := 0 }, { name := "PI", type := .double, accessFlags := 25, slot := 1, constantValue := 0 }, { name := "TAU", type := .double, accessFlags := 25, slot := 2, constantValue := 0 }, { name := "DEGREES_TO_RADIANS", type := .double, accessFlags := 26, slot := 3, constantValue := 0 }, { name := "RADIANS_TO_DEGREES", type := .double, accessFlags := 26, slot := 4, constantValue := 0 }, { name := "negativeZeroFloatBits", type := .long, accessFlags := 26, slot := 5, constantValue := 0 }, { name := "negativeZeroDoubleBits", type := .long, accessFlags := 26, slot := 6, constantValue := 0 }, { name := "twoToTheDoubleScaleUp", type := .double, accessFlags := 8, slot := 7, constantValue := 0 }, { name := "twoToTheDoubleScaleDown", type := .double, accessFlags := 8, slot := 8, constantValue := 0 }, { name := "$assertionsDisabled", type := .boolean, accessFlags := 4120, slot := 9, constantValue := 0 }]
  methods := #[k23m0, k23m1]
  instanceTypes := #[]
  staticTypes := #[.double, .double, .double, .double, .double, .long, .long, .double, .double, .boolean]
  resolved := Array.replicate 460 none
  statics := none }

def pool24 : Array CpInfo := pool [(2, .class_ 4), (1, u "java/lang/Object"), (0, u "<init>"), (0, u "()V"), (1, .class_ 10), (1, u "java/lang/System"), (0, u "allowSecurityManager"), (0, u "I"), (16, u "cons"), (0, u "Ljava/io/Console;"), (77, .class_ 110), (1, u "java/lang/System$CallersHolder"), (43, u "initialErrStream"), (0, u "Ljava/io/PrintStream;"), (19, u "security"), (0, u "Ljava/lang/SecurityManager;"), (31, .class_ 209), (0, u "java/lang/System$1"), (7, u "props"), (0, u "Ljava/util/Properties;"), (2, u "lineSeparator"), (0, u "Ljava/lang/String;"), (96, .class_ 321), (1, u "java/lang/System$LoggerFinder"), (5, .class_ 328), (0, u "java/lang/System$Logger"), (67, u "err"), (2, u "out"), (91, u "notSupportedJnuEncoding"), (15, u "in"), (17, u "initialIn"), (0, u "Ljava/io/InputStream;"), (35, u "bootLayer"), (0, u "Ljava/lang/ModuleLayer;"), (99, .class_ 664), (0, u "java/lang/System$2"), (9, u "NEVER"), (2, u "MAYBE"), (49, u "arraycopy"), (0, u "(Ljava/lang/Object;ILjava/lang/Object;II)V"), (72, .class_ 802), (0, u "java/lang/System$Logger$Level")] 31

def k24m0 : Method := { name := "<init>", desc := "()V", sig := { parameters := [], returnType := none }, accessFlags := 2, code := none }
def k24m1 : Method := { name := "arraycopy", desc := "(Ljava/lang/Object;ILjava/lang/Object;II)V", sig := { parameters := [(.object "java/lang/Object"), .int, (.object "java/lang/Object"), .int, .int], returnType := none }, accessFlags := 265, code := none }
/-- java/lang/System -/
def k24 : Class := { plain "java/lang/System" (some 0) with
  accessFlags := 49
  interfaces := #[]
  cf := some (fileOf pool24 8 #[.nestMembers #[319, 327, 801, 108, 663, 208]] #[{ accessFlags := 2, nameIndex := 5, descriptorIndex := 6, attributes := #[] }, { accessFlags := 265, nameIndex := 727, descriptorIndex := 728, attributes := #[] }] 49 2 #[] #[{ accessFlags := 25, nameIndex := 507, descriptorIndex := 526, attributes := #[] }, { accessFlags := 25, nameIndex := 399, descriptorIndex := 155, attributes := #[] }, { accessFlags := 25, nameIndex := 396, descriptorIndex := 155, attributes := #[] }, { accessFlags := 10, nameIndex := 525, descriptorIndex := 526, attributes := #[] }, { accessFlags := 26, nameIndex := 674, descriptorIndex := 12, attributes := #[] }, { accessFlags := 26, nameIndex := 677, descriptorIndex := 12, attributes := #[] }, { accessFlags := 10, nameIndex := 11, descriptorIndex := 12, attributes := #[] }, { accessFlags := 74, nameIndex := 175, descriptorIndex := 176, attributes := #[] }, { accessFlags := 10, nameIndex := 491, descriptorIndex := 222, attributes := #[] }, { accessFlags := 74, nameIndex := 29, descriptorIndex := 30, attributes := #[] }, { accessFlags := 74, nameIndex := 154, descriptorIndex := 155, attributes := #[] }, { accessFlags := 10, nameIndex := 217, descriptorIndex := 218, attributes := #[] }, { accessFlags := 10, nameIndex := 221, descriptorIndex := 222, attributes := #[] }, { accessFlags := 8, nameIndex := 562, descriptorIndex := 563, attributes := #[] }])
  fields := #[{ name := "in", type := (.object "java/io/InputStream"), accessFlags := 25, slot := 0, constantValue := 0 }, { name := "out", type := (.object "java/io/PrintStream"), accessFlags := 25, slot := 1, constantValue := 0 }, { name := "err", type := (.object "java/io/PrintStream"), accessFlags := 25, slot := 2, constantValue := 0 }, { name := "initialIn", type := (.object "java/io/InputStream"), accessFlags := 10, slot := 3, constantValue := 0 }, { name := "NEVER", type := .int, accessFlags := 26, slot := 4, constantValue := 0 }, { name := "MAYBE", type := .int, accessFlags := 26, slot := 5, constantValue := 0 }, { name := "allowSecurityManager", type := .int, accessFlags := 10, slot := 6, constantValue := 0 }, { name := "security", type := (.object "java/lang/SecurityManager"), accessFlags := 74, slot := 7, constantValue := 0 }, { name := "notSupportedJnuEncoding", type := (.object "java/lang/String"), accessFlags := 10, slot := 8, constantValue := 0 }, { name := "cons", type := (.object "java/io/Console"), accessFlags := 74, slot := 9, constantValue := 0 }, { name := "initialErrStream", type := (.object "java/io/PrintStream"), accessFlags := 74, slot := 10, constantValue := 0 }, { name := "props", type := (.object "java/util/Properties"), accessFlags := 10, slot := 11, constantValue := 0 }, { name := "lineSeparator", type := (.object "java/lang/String"), accessFlags := 10, slot := 12, constantValue := 0 }, { name := "bootLayer", type := (.object "java/lang/ModuleLayer"), accessFlags := 8, slot := 13, constantValue := 0 }]
  methods := #[k24m0, k24m1]
  instanceTypes := #[]
  staticTypes := #[(.object "java/io/InputStream"), (.object "java/io/PrintStream"), (.object "java/io/PrintStream"), (.object "java/io/InputStream"), .int, .int, .int, (.object "java/lang/SecurityManager"), (.object "java/lang/String"), (.object "java/io/Console"), (.object "java/io/PrintStream"), (.object "java/util/Properties"), (.object "java/lang/String"), (.object "java/lang/ModuleLayer")]
  resolved := Array.replicate 834 none
  statics := none }

def pool25 : Array CpInfo := pool [(1, u "java/lang/Class"), (0, .class_ 1), (0, u "java/lang/Object"), (0, .class_ 3)] 0

/-- java/lang/Class -/
def k25 : Class := { plain "java/lang/Class" (some 0) with
  accessFlags := 49
  interfaces := #[]
  cf := some (fileOf pool25 2 #[] #[] 49 4 #[] #[])
  fields := #[]
  methods := #[]
  instanceTypes := #[]
  staticTypes := #[]
  resolved := Array.replicate 5 none
  statics := none }

def pool26 : Array CpInfo := pool [(1, u "java/lang/Cloneable"), (0, .class_ 1), (0, u "java/lang/Object"), (0, .class_ 3)] 3

/-- java/lang/Cloneable -/
def k26 : Class := { plain "java/lang/Cloneable" (some 0) with
  accessFlags := 1537
  interfaces := #[]
  cf := some (fileOf pool26 2 #[] #[] 1537 4 #[] #[])
  fields := #[]
  methods := #[]
  instanceTypes := #[]
  staticTypes := #[]
  resolved := Array.replicate 8 none
  statics := none }

/-- the primitive byte -/
def k27 : Class := { plain "byte" none with kind := .primitive 'B', accessFlags := 0x411 }
/-- [B -/
def k28 : Class := { plain "[B" (some 0) with kind := .array 27 .byte, interfaces := #[26, 11], accessFlags := 1041 }

/-- the primitive int -/
def k29 : Class := { plain "int" none with kind := .primitive 'I', accessFlags := 0x411 }
/-- [I -/
def k30 : Class := { plain "[I" (some 0) with kind := .array 29 .int, interfaces := #[26, 11], accessFlags := 1041 }

/-- [Ljava/lang/Integer; -/
def k31 : Class := { plain "[Ljava/lang/Integer;" (some 0) with kind := .array 16 (.object "java/lang/Integer"), interfaces := #[26, 11], accessFlags := 1041 }

/-- [Ljava/lang/Object; -/
def k32 : Class := { plain "[Ljava/lang/Object;" (some 0) with kind := .array 0 (.object "java/lang/Object"), interfaces := #[26, 11], accessFlags := 1041, mirror := some 1 }

def heap : Heap := #[{ cls := 17, slots := #[.int 0, .int 127, .ref 2, .null, .int 0], vm := .statics 17 },
  { cls := 25, slots := #[], vm := .mirror 32 },
  { cls := 31, slots := #[.ref 3, .ref 4, .ref 5, .ref 6, .ref 7, .ref 8, .ref 9, .ref 10, .ref 11, .ref 12, .ref 13, .ref 14, .ref 15, .ref 16, .ref 17, .ref 18, .ref 19, .ref 20, .ref 21, .ref 22, .ref 23, .ref 24, .ref 25, .ref 26, .ref 27, .ref 28, .ref 29, .ref 30, .ref 31, .ref 32, .ref 33, .ref 34, .ref 35, .ref 36, .ref 37, .ref 38, .ref 39, .ref 40, .ref 41, .ref 42, .ref 43, .ref 44, .ref 45, .ref 46, .ref 47, .ref 48, .ref 49, .ref 50, .ref 51, .ref 52, .ref 53, .ref 54, .ref 55, .ref 56, .ref 57, .ref 58, .ref 59, .ref 60, .ref 61, .ref 62, .ref 63, .ref 64, .ref 65, .ref 66, .ref 67, .ref 68, .ref 69, .ref 70, .ref 71, .ref 72, .ref 73, .ref 74, .ref 75, .ref 76, .ref 77, .ref 78, .ref 79, .ref 80, .ref 81, .ref 82, .ref 83, .ref 84, .ref 85, .ref 86, .ref 87, .ref 88, .ref 89, .ref 90, .ref 91, .ref 92, .ref 93, .ref 94, .ref 95, .ref 96, .ref 97, .ref 98, .ref 99, .ref 100, .ref 101, .ref 102, .ref 103, .ref 104, .ref 105, .ref 106, .ref 107, .ref 108, .ref 109, .ref 110, .ref 111, .ref 112, .ref 113, .ref 114, .ref 115, .ref 116, .ref 117, .ref 118, .ref 119, .ref 120, .ref 121, .ref 122, .ref 123, .ref 124, .ref 125, .ref 126, .ref 127, .ref 128, .ref 129, .ref 130, .ref 131, .ref 132, .ref 133, .ref 134, .ref 135, .ref 136, .ref 137, .ref 138, .ref 139, .ref 140, .ref 141, .ref 142, .ref 143, .ref 144, .ref 145, .ref 146, .ref 147, .ref 148, .ref 149, .ref 150, .ref 151, .ref 152, .ref 153, .ref 154, .ref 155, .ref 156, .ref 157, .ref 158, .ref 159, .ref 160, .ref 161, .ref 162, .ref 163, .ref 164, .ref 165, .ref 166, .ref 167, .ref 168, .ref 169, .ref 170, .ref 171, .ref 172, .ref 173, .ref 174, .ref 175, .ref 176, .ref 177, .ref 178, .ref 179, .ref 180, .ref 181, .ref 182, .ref 183, .ref 184, .ref 185, .ref 186, .ref 187, .ref 188, .ref 189, .ref 190, .ref 191, .ref 192, .ref 193, .ref 194, .ref 195, .ref 196, .ref 197, .ref 198, .ref 199, .ref 200, .ref 201, .ref 202, .ref 203, .ref 204, .ref 205, .ref 206, .ref 207, .ref 208, .ref 209, .ref 210, .ref 211, .ref 212, .ref 213, .ref 214, .ref 215, .ref 216, .ref 217, .ref 218, .ref 219, .ref 220, .ref 221, .ref 222, .ref 223, .ref 224, .ref 225, .ref 226, .ref 227, .ref 228, .ref 229, .ref 230, .ref 231, .ref 232, .ref 233, .ref 234, .ref 235, .ref 236, .ref 237, .ref 238, .ref 239, .ref 240, .ref 241, .ref 242, .ref 243, .ref 244, .ref 245, .ref 246, .ref 247, .ref 248, .ref 249, .ref 250, .ref 251, .ref 252, .ref 253, .ref 254, .ref 255, .ref 256, .ref 257, .ref 258], vm := .none },
  { cls := 16, slots := #[.int (-128)], vm := .none },
  { cls := 16, slots := #[.int (-127)], vm := .none },
  { cls := 16, slots := #[.int (-126)], vm := .none },
  { cls := 16, slots := #[.int (-125)], vm := .none },
  { cls := 16, slots := #[.int (-124)], vm := .none },
  { cls := 16, slots := #[.int (-123)], vm := .none },
  { cls := 16, slots := #[.int (-122)], vm := .none },
  { cls := 16, slots := #[.int (-121)], vm := .none },
  { cls := 16, slots := #[.int (-120)], vm := .none },
  { cls := 16, slots := #[.int (-119)], vm := .none },
  { cls := 16, slots := #[.int (-118)], vm := .none },
  { cls := 16, slots := #[.int (-117)], vm := .none },
  { cls := 16, slots := #[.int (-116)], vm := .none },
  { cls := 16, slots := #[.int (-115)], vm := .none },
  { cls := 16, slots := #[.int (-114)], vm := .none },
  { cls := 16, slots := #[.int (-113)], vm := .none },
  { cls := 16, slots := #[.int (-112)], vm := .none },
  { cls := 16, slots := #[.int (-111)], vm := .none },
  { cls := 16, slots := #[.int (-110)], vm := .none },
  { cls := 16, slots := #[.int (-109)], vm := .none },
  { cls := 16, slots := #[.int (-108)], vm := .none },
  { cls := 16, slots := #[.int (-107)], vm := .none },
  { cls := 16, slots := #[.int (-106)], vm := .none },
  { cls := 16, slots := #[.int (-105)], vm := .none },
  { cls := 16, slots := #[.int (-104)], vm := .none },
  { cls := 16, slots := #[.int (-103)], vm := .none },
  { cls := 16, slots := #[.int (-102)], vm := .none },
  { cls := 16, slots := #[.int (-101)], vm := .none },
  { cls := 16, slots := #[.int (-100)], vm := .none },
  { cls := 16, slots := #[.int (-99)], vm := .none },
  { cls := 16, slots := #[.int (-98)], vm := .none },
  { cls := 16, slots := #[.int (-97)], vm := .none },
  { cls := 16, slots := #[.int (-96)], vm := .none },
  { cls := 16, slots := #[.int (-95)], vm := .none },
  { cls := 16, slots := #[.int (-94)], vm := .none },
  { cls := 16, slots := #[.int (-93)], vm := .none },
  { cls := 16, slots := #[.int (-92)], vm := .none },
  { cls := 16, slots := #[.int (-91)], vm := .none },
  { cls := 16, slots := #[.int (-90)], vm := .none },
  { cls := 16, slots := #[.int (-89)], vm := .none },
  { cls := 16, slots := #[.int (-88)], vm := .none },
  { cls := 16, slots := #[.int (-87)], vm := .none },
  { cls := 16, slots := #[.int (-86)], vm := .none },
  { cls := 16, slots := #[.int (-85)], vm := .none },
  { cls := 16, slots := #[.int (-84)], vm := .none },
  { cls := 16, slots := #[.int (-83)], vm := .none },
  { cls := 16, slots := #[.int (-82)], vm := .none },
  { cls := 16, slots := #[.int (-81)], vm := .none },
  { cls := 16, slots := #[.int (-80)], vm := .none },
  { cls := 16, slots := #[.int (-79)], vm := .none },
  { cls := 16, slots := #[.int (-78)], vm := .none },
  { cls := 16, slots := #[.int (-77)], vm := .none },
  { cls := 16, slots := #[.int (-76)], vm := .none },
  { cls := 16, slots := #[.int (-75)], vm := .none },
  { cls := 16, slots := #[.int (-74)], vm := .none },
  { cls := 16, slots := #[.int (-73)], vm := .none },
  { cls := 16, slots := #[.int (-72)], vm := .none },
  { cls := 16, slots := #[.int (-71)], vm := .none },
  { cls := 16, slots := #[.int (-70)], vm := .none },
  { cls := 16, slots := #[.int (-69)], vm := .none },
  { cls := 16, slots := #[.int (-68)], vm := .none },
  { cls := 16, slots := #[.int (-67)], vm := .none },
  { cls := 16, slots := #[.int (-66)], vm := .none },
  { cls := 16, slots := #[.int (-65)], vm := .none },
  { cls := 16, slots := #[.int (-64)], vm := .none },
  { cls := 16, slots := #[.int (-63)], vm := .none },
  { cls := 16, slots := #[.int (-62)], vm := .none },
  { cls := 16, slots := #[.int (-61)], vm := .none },
  { cls := 16, slots := #[.int (-60)], vm := .none },
  { cls := 16, slots := #[.int (-59)], vm := .none },
  { cls := 16, slots := #[.int (-58)], vm := .none },
  { cls := 16, slots := #[.int (-57)], vm := .none },
  { cls := 16, slots := #[.int (-56)], vm := .none },
  { cls := 16, slots := #[.int (-55)], vm := .none },
  { cls := 16, slots := #[.int (-54)], vm := .none },
  { cls := 16, slots := #[.int (-53)], vm := .none },
  { cls := 16, slots := #[.int (-52)], vm := .none },
  { cls := 16, slots := #[.int (-51)], vm := .none },
  { cls := 16, slots := #[.int (-50)], vm := .none },
  { cls := 16, slots := #[.int (-49)], vm := .none },
  { cls := 16, slots := #[.int (-48)], vm := .none },
  { cls := 16, slots := #[.int (-47)], vm := .none },
  { cls := 16, slots := #[.int (-46)], vm := .none },
  { cls := 16, slots := #[.int (-45)], vm := .none },
  { cls := 16, slots := #[.int (-44)], vm := .none },
  { cls := 16, slots := #[.int (-43)], vm := .none },
  { cls := 16, slots := #[.int (-42)], vm := .none },
  { cls := 16, slots := #[.int (-41)], vm := .none },
  { cls := 16, slots := #[.int (-40)], vm := .none },
  { cls := 16, slots := #[.int (-39)], vm := .none },
  { cls := 16, slots := #[.int (-38)], vm := .none },
  { cls := 16, slots := #[.int (-37)], vm := .none },
  { cls := 16, slots := #[.int (-36)], vm := .none },
  { cls := 16, slots := #[.int (-35)], vm := .none },
  { cls := 16, slots := #[.int (-34)], vm := .none },
  { cls := 16, slots := #[.int (-33)], vm := .none },
  { cls := 16, slots := #[.int (-32)], vm := .none },
  { cls := 16, slots := #[.int (-31)], vm := .none },
  { cls := 16, slots := #[.int (-30)], vm := .none },
  { cls := 16, slots := #[.int (-29)], vm := .none },
  { cls := 16, slots := #[.int (-28)], vm := .none },
  { cls := 16, slots := #[.int (-27)], vm := .none },
  { cls := 16, slots := #[.int (-26)], vm := .none },
  { cls := 16, slots := #[.int (-25)], vm := .none },
  { cls := 16, slots := #[.int (-24)], vm := .none },
  { cls := 16, slots := #[.int (-23)], vm := .none },
  { cls := 16, slots := #[.int (-22)], vm := .none },
  { cls := 16, slots := #[.int (-21)], vm := .none },
  { cls := 16, slots := #[.int (-20)], vm := .none },
  { cls := 16, slots := #[.int (-19)], vm := .none },
  { cls := 16, slots := #[.int (-18)], vm := .none },
  { cls := 16, slots := #[.int (-17)], vm := .none },
  { cls := 16, slots := #[.int (-16)], vm := .none },
  { cls := 16, slots := #[.int (-15)], vm := .none },
  { cls := 16, slots := #[.int (-14)], vm := .none },
  { cls := 16, slots := #[.int (-13)], vm := .none },
  { cls := 16, slots := #[.int (-12)], vm := .none },
  { cls := 16, slots := #[.int (-11)], vm := .none },
  { cls := 16, slots := #[.int (-10)], vm := .none },
  { cls := 16, slots := #[.int (-9)], vm := .none },
  { cls := 16, slots := #[.int (-8)], vm := .none },
  { cls := 16, slots := #[.int (-7)], vm := .none },
  { cls := 16, slots := #[.int (-6)], vm := .none },
  { cls := 16, slots := #[.int (-5)], vm := .none },
  { cls := 16, slots := #[.int (-4)], vm := .none },
  { cls := 16, slots := #[.int (-3)], vm := .none },
  { cls := 16, slots := #[.int (-2)], vm := .none },
  { cls := 16, slots := #[.int (-1)], vm := .none },
  { cls := 16, slots := #[.int 0], vm := .none },
  { cls := 16, slots := #[.int 1], vm := .none },
  { cls := 16, slots := #[.int 2], vm := .none },
  { cls := 16, slots := #[.int 3], vm := .none },
  { cls := 16, slots := #[.int 4], vm := .none },
  { cls := 16, slots := #[.int 5], vm := .none },
  { cls := 16, slots := #[.int 6], vm := .none },
  { cls := 16, slots := #[.int 7], vm := .none },
  { cls := 16, slots := #[.int 8], vm := .none },
  { cls := 16, slots := #[.int 9], vm := .none },
  { cls := 16, slots := #[.int 10], vm := .none },
  { cls := 16, slots := #[.int 11], vm := .none },
  { cls := 16, slots := #[.int 12], vm := .none },
  { cls := 16, slots := #[.int 13], vm := .none },
  { cls := 16, slots := #[.int 14], vm := .none },
  { cls := 16, slots := #[.int 15], vm := .none },
  { cls := 16, slots := #[.int 16], vm := .none },
  { cls := 16, slots := #[.int 17], vm := .none },
  { cls := 16, slots := #[.int 18], vm := .none },
  { cls := 16, slots := #[.int 19], vm := .none },
  { cls := 16, slots := #[.int 20], vm := .none },
  { cls := 16, slots := #[.int 21], vm := .none },
  { cls := 16, slots := #[.int 22], vm := .none },
  { cls := 16, slots := #[.int 23], vm := .none },
  { cls := 16, slots := #[.int 24], vm := .none },
  { cls := 16, slots := #[.int 25], vm := .none },
  { cls := 16, slots := #[.int 26], vm := .none },
  { cls := 16, slots := #[.int 27], vm := .none },
  { cls := 16, slots := #[.int 28], vm := .none },
  { cls := 16, slots := #[.int 29], vm := .none },
  { cls := 16, slots := #[.int 30], vm := .none },
  { cls := 16, slots := #[.int 31], vm := .none },
  { cls := 16, slots := #[.int 32], vm := .none },
  { cls := 16, slots := #[.int 33], vm := .none },
  { cls := 16, slots := #[.int 34], vm := .none },
  { cls := 16, slots := #[.int 35], vm := .none },
  { cls := 16, slots := #[.int 36], vm := .none },
  { cls := 16, slots := #[.int 37], vm := .none },
  { cls := 16, slots := #[.int 38], vm := .none },
  { cls := 16, slots := #[.int 39], vm := .none },
  { cls := 16, slots := #[.int 40], vm := .none },
  { cls := 16, slots := #[.int 41], vm := .none },
  { cls := 16, slots := #[.int 42], vm := .none },
  { cls := 16, slots := #[.int 43], vm := .none },
  { cls := 16, slots := #[.int 44], vm := .none },
  { cls := 16, slots := #[.int 45], vm := .none },
  { cls := 16, slots := #[.int 46], vm := .none },
  { cls := 16, slots := #[.int 47], vm := .none },
  { cls := 16, slots := #[.int 48], vm := .none },
  { cls := 16, slots := #[.int 49], vm := .none },
  { cls := 16, slots := #[.int 50], vm := .none },
  { cls := 16, slots := #[.int 51], vm := .none },
  { cls := 16, slots := #[.int 52], vm := .none },
  { cls := 16, slots := #[.int 53], vm := .none },
  { cls := 16, slots := #[.int 54], vm := .none },
  { cls := 16, slots := #[.int 55], vm := .none },
  { cls := 16, slots := #[.int 56], vm := .none },
  { cls := 16, slots := #[.int 57], vm := .none },
  { cls := 16, slots := #[.int 58], vm := .none },
  { cls := 16, slots := #[.int 59], vm := .none },
  { cls := 16, slots := #[.int 60], vm := .none },
  { cls := 16, slots := #[.int 61], vm := .none },
  { cls := 16, slots := #[.int 62], vm := .none },
  { cls := 16, slots := #[.int 63], vm := .none },
  { cls := 16, slots := #[.int 64], vm := .none },
  { cls := 16, slots := #[.int 65], vm := .none },
  { cls := 16, slots := #[.int 66], vm := .none },
  { cls := 16, slots := #[.int 67], vm := .none },
  { cls := 16, slots := #[.int 68], vm := .none },
  { cls := 16, slots := #[.int 69], vm := .none },
  { cls := 16, slots := #[.int 70], vm := .none },
  { cls := 16, slots := #[.int 71], vm := .none },
  { cls := 16, slots := #[.int 72], vm := .none },
  { cls := 16, slots := #[.int 73], vm := .none },
  { cls := 16, slots := #[.int 74], vm := .none },
  { cls := 16, slots := #[.int 75], vm := .none },
  { cls := 16, slots := #[.int 76], vm := .none },
  { cls := 16, slots := #[.int 77], vm := .none },
  { cls := 16, slots := #[.int 78], vm := .none },
  { cls := 16, slots := #[.int 79], vm := .none },
  { cls := 16, slots := #[.int 80], vm := .none },
  { cls := 16, slots := #[.int 81], vm := .none },
  { cls := 16, slots := #[.int 82], vm := .none },
  { cls := 16, slots := #[.int 83], vm := .none },
  { cls := 16, slots := #[.int 84], vm := .none },
  { cls := 16, slots := #[.int 85], vm := .none },
  { cls := 16, slots := #[.int 86], vm := .none },
  { cls := 16, slots := #[.int 87], vm := .none },
  { cls := 16, slots := #[.int 88], vm := .none },
  { cls := 16, slots := #[.int 89], vm := .none },
  { cls := 16, slots := #[.int 90], vm := .none },
  { cls := 16, slots := #[.int 91], vm := .none },
  { cls := 16, slots := #[.int 92], vm := .none },
  { cls := 16, slots := #[.int 93], vm := .none },
  { cls := 16, slots := #[.int 94], vm := .none },
  { cls := 16, slots := #[.int 95], vm := .none },
  { cls := 16, slots := #[.int 96], vm := .none },
  { cls := 16, slots := #[.int 97], vm := .none },
  { cls := 16, slots := #[.int 98], vm := .none },
  { cls := 16, slots := #[.int 99], vm := .none },
  { cls := 16, slots := #[.int 100], vm := .none },
  { cls := 16, slots := #[.int 101], vm := .none },
  { cls := 16, slots := #[.int 102], vm := .none },
  { cls := 16, slots := #[.int 103], vm := .none },
  { cls := 16, slots := #[.int 104], vm := .none },
  { cls := 16, slots := #[.int 105], vm := .none },
  { cls := 16, slots := #[.int 106], vm := .none },
  { cls := 16, slots := #[.int 107], vm := .none },
  { cls := 16, slots := #[.int 108], vm := .none },
  { cls := 16, slots := #[.int 109], vm := .none },
  { cls := 16, slots := #[.int 110], vm := .none },
  { cls := 16, slots := #[.int 111], vm := .none },
  { cls := 16, slots := #[.int 112], vm := .none },
  { cls := 16, slots := #[.int 113], vm := .none },
  { cls := 16, slots := #[.int 114], vm := .none },
  { cls := 16, slots := #[.int 115], vm := .none },
  { cls := 16, slots := #[.int 116], vm := .none },
  { cls := 16, slots := #[.int 117], vm := .none },
  { cls := 16, slots := #[.int 118], vm := .none },
  { cls := 16, slots := #[.int 119], vm := .none },
  { cls := 16, slots := #[.int 120], vm := .none },
  { cls := 16, slots := #[.int 121], vm := .none },
  { cls := 16, slots := #[.int 122], vm := .none },
  { cls := 16, slots := #[.int 123], vm := .none },
  { cls := 16, slots := #[.int 124], vm := .none },
  { cls := 16, slots := #[.int 125], vm := .none },
  { cls := 16, slots := #[.int 126], vm := .none },
  { cls := 16, slots := #[.int 127], vm := .none }]
def classes : Array Class := #[k0, k1, k2, k3, k4, k5, k6, k7, k8, k9, k10, k11, k12, k13, k14, k15, k16, k17, k18, k19, k20, k21, k22, k23, k24, k25, k26, k27, k28, k29, k30, k31, k32]
def interned : List (Array UInt16 × Addr) := []
def slotsUsed : Nat := 517
def theMethod : MethodId := ⟨1, 1⟩
def args0 : Array Value := #[.int 5, .int 3, .int 2, .int 1, .int 2, .int 3]
def aboutOver (below : List Frame) : State where
  vm := { classes := classes, interned := interned.toArray }
  heap := heap
  slotsUsed := slotsUsed
  threads := #[{ frames := .invoking theMethod args0 :: below }]
def below0 : List Frame := [.native { method := ⟨0, 0⟩, args := #[] }]
def about1 : State := aboutOver below0
def p0 : Program := .bare "" "" ""
def e0 : Env := launch0.env 0 0 0
theorem w_frames : about1.frames = Frame.invoking theMethod args0 :: below0 := rfl
set_option maxRecDepth 65536 in
theorem w_args : argsFit about1.vm theMethod args0 = true := by decide +kernel
set_option maxRecDepth 65536 in
theorem w_heap : heapFits about1 = true := by decide +kernel
set_option maxRecDepth 65536 in
theorem w_runnable : about1.curStatus? = some .runnable := by decide +kernel
set_option maxRecDepth 65536 in
theorem w_alone : about1.alone = true := by decide +kernel
set_option maxRecDepth 65536 in
theorem w_named : about1.methodNamed? x = some theMethod := by decide +kernel
set_option maxRecDepth 65536 in
theorem w_hears : about1.hears theMethod below0 = true := by decide +kernel
set_option maxRecDepth 65536 in
theorem w_ripe : about1.ripe theMethod args0 below0 = true := by decide +kernel
theorem w_running : about1.status = .running := rfl
set_option maxRecDepth 65536 in
theorem w_room : about1.hasRoom e0.platform room_1 = true :=
  launch0.hasRoom_least _ room_1 (by decide +kernel) (by decide +kernel) (by decide +kernel) (by decide +kernel) (by decide +kernel) (by decide +kernel)
theorem allAtoms_all (ts : List Jvm.Cond) (a : Array Jvm.Value) (st : Jvm.State) : (allAtoms ts).before a st = ts.all (fun c => c.before a st) := by
  induction ts with
  | nil => rfl
  | cons c t ih =>
    show (Jvm.Cond.and c (allAtoms t)).before a st = _
    rw [Jvm.Cond.before_and, ih, List.all_cons]
def words1 : List Jvm.Cond := Jvm.Cond.code x code maxLocals ret :: tables_1
/-- a 'code' word, met by the world's own term for the bytes: nothing is compared byte by byte -/
theorem code_word {y : MethodName} {bytes : ByteArray} {mx : Nat} {rt : Option FieldType} {a : Array Value} {s : State} {m : MethodId} {meth : Method} {c : Code} (h1 : s.methodNamed? y = some m) (h2 : s.vm.method? m = some meth) (h3 : meth.code = some c) (h4 : c.code = bytes)
    (h5 : (c.maxLocals == mx && c.exceptionTable.isEmpty && decide (c.maxStack ≤ mostOperands) && decide (meth.sig.returnType = rt) && !meth.locks && decide (parseMethodDescriptor y.desc = some meth.sig)) = true) : (Jvm.Cond.code y bytes mx rt).before a s = true := by
  simp only [Bool.and_eq_true, beq_iff_eq, Bool.not_eq_true', decide_eq_true_eq] at h5
  obtain ⟨⟨⟨⟨⟨g1, g2⟩, g3⟩, g4⟩, g5⟩, g6⟩ := h5
  simp [Cond.before, Cond.holds, Cond.value, h1, h2, h3, h4, g1, g2, g3, g4, g5, g6]
def isCode : Jvm.Cond → Bool
  | .code _ _ _ _ => true
  | _ => false
theorem all_split {L : List Jvm.Cond} {P : Jvm.Cond → Bool} (h1 : L.all (fun c => isCode c || P c) = true) (h2 : ∀ c ∈ L.filter isCode, P c = true) : L.all P = true := by
  refine List.all_eq_true.mpr fun c hc => ?_
  have h := List.all_eq_true.mp h1 c hc
  rcases Bool.eq_false_or_eq_true (isCode c) with hi | hi
  · exact h2 c (List.mem_filter.mpr ⟨hc, hi⟩)
  · simpa [hi] using h
set_option maxRecDepth 65536 in
theorem w_c0 : (Jvm.Cond.code x code maxLocals ret).before args0 about1 = true := code_word (m := ⟨1, 1⟩) (meth := k1m1) (c := k1c1) (by decide +kernel) rfl rfl rfl (by decide +kernel)
set_option maxRecDepth 65536 in
theorem w_c1 : (Jvm.Cond.code ({ cls := "corbel/structures/ArrayStack", name := "<init>", desc := "()V" } : Jvm.MethodName) prog_1_method_1_code (1 : Nat) (Option.none : Option Jvm.ClassFile.FieldType)).before args0 about1 = true := code_word (m := ⟨10, 0⟩) (meth := k10m0) (c := k10c0) (by decide +kernel) rfl rfl rfl (by decide +kernel)
set_option maxRecDepth 65536 in
theorem w_c2 : (Jvm.Cond.code ({ cls := "corbel/structures/IndexedList", name := "<init>", desc := "()V" } : Jvm.MethodName) prog_15_method_1_code (1 : Nat) (Option.none : Option Jvm.ClassFile.FieldType)).before args0 about1 = true := code_word (m := ⟨8, 0⟩) (meth := k8m0) (c := k8c0) (by decide +kernel) rfl rfl rfl (by decide +kernel)
set_option maxRecDepth 65536 in
theorem w_c3 : (Jvm.Cond.code ({ cls := "java/util/AbstractList", name := "<init>", desc := "()V" } : Jvm.MethodName) jdk_39_method_1_code (1 : Nat) (Option.none : Option Jvm.ClassFile.FieldType)).before args0 about1 = true := code_word (m := ⟨7, 0⟩) (meth := k7m0) (c := k7c0) (by decide +kernel) rfl rfl rfl (by decide +kernel)
set_option maxRecDepth 65536 in
theorem w_c4 : (Jvm.Cond.code ({ cls := "java/util/AbstractCollection", name := "<init>", desc := "()V" } : Jvm.MethodName) jdk_22_method_1_code (1 : Nat) (Option.none : Option Jvm.ClassFile.FieldType)).before args0 about1 = true := code_word (m := ⟨4, 0⟩) (meth := k4m0) (c := k4c0) (by decide +kernel) rfl rfl rfl (by decide +kernel)
set_option maxRecDepth 65536 in
theorem w_c5 : (Jvm.Cond.code ({ cls := "java/lang/Object", name := "<init>", desc := "()V" } : Jvm.MethodName) object_method_1_code (1 : Nat) (Option.none : Option Jvm.ClassFile.FieldType)).before args0 about1 = true := code_word (m := ⟨0, 0⟩) (meth := k0m0) (c := k0c0) (by decide +kernel) rfl rfl rfl (by decide +kernel)
set_option maxRecDepth 65536 in
theorem w_c6 : (Jvm.Cond.code ({ cls := "java/lang/Integer", name := "valueOf", desc := "(I)Ljava/lang/Integer;" } : Jvm.MethodName) jdk_33_method_22_code (1 : Nat) (Option.some (Jvm.ClassFile.FieldType.object "java/lang/Integer"))).before args0 about1 = true := code_word (m := ⟨16, 0⟩) (meth := k16m0) (c := k16c0) (by decide +kernel) rfl rfl rfl (by decide +kernel)
set_option maxRecDepth 65536 in
theorem w_c7 : (Jvm.Cond.code ({ cls := "corbel/structures/ArrayStack", name := "add", desc := "(Ljava/lang/Object;)Z" } : Jvm.MethodName) prog_1_method_8_code (2 : Nat) (Option.some Jvm.ClassFile.FieldType.boolean)).before args0 about1 = true := code_word (m := ⟨10, 3⟩) (meth := k10m3) (c := k10c3) (by decide +kernel) rfl rfl rfl (by decide +kernel)
set_option maxRecDepth 65536 in
theorem w_c8 : (Jvm.Cond.code ({ cls := "java/util/Objects", name := "requireNonNull", desc := "(Ljava/lang/Object;Ljava/lang/String;)Ljava/lang/Object;" } : Jvm.MethodName) jdk_31_method_11_code (2 : Nat) (Option.some (Jvm.ClassFile.FieldType.object "java/lang/Object"))).before args0 about1 = true := code_word (m := ⟨20, 1⟩) (meth := k20m1) (c := k20c1) (by decide +kernel) rfl rfl rfl (by decide +kernel)
set_option maxRecDepth 65536 in
theorem w_c9 : (Jvm.Cond.code ({ cls := "corbel/structures/ArrayStack", name := "growFor", desc := "(I)V" } : Jvm.MethodName) prog_1_method_18_code (6 : Nat) (Option.none : Option Jvm.ClassFile.FieldType)).before args0 about1 = true := code_word (m := ⟨10, 6⟩) (meth := k10m6) (c := k10c6) (by decide +kernel) rfl rfl rfl (by decide +kernel)
set_option maxRecDepth 65536 in
theorem w_c10 : (Jvm.Cond.code ({ cls := "corbel/structures/ArrayStack", name := "get", desc := "(I)Ljava/lang/Object;" } : Jvm.MethodName) prog_1_method_6_code (2 : Nat) (Option.some (Jvm.ClassFile.FieldType.object "java/lang/Object"))).before args0 about1 = true := code_word (m := ⟨10, 2⟩) (meth := k10m2) (c := k10c2) (by decide +kernel) rfl rfl rfl (by decide +kernel)
set_option maxRecDepth 65536 in
theorem w_c11 : (Jvm.Cond.code ({ cls := "java/util/Objects", name := "checkIndex", desc := "(II)I" } : Jvm.MethodName) jdk_31_method_17_code (2 : Nat) (Option.some Jvm.ClassFile.FieldType.int)).before args0 about1 = true := code_word (m := ⟨20, 2⟩) (meth := k20m2) (c := k20c2) (by decide +kernel) rfl rfl rfl (by decide +kernel)
set_option maxRecDepth 65536 in
theorem w_c12 : (Jvm.Cond.code ({ cls := "jdk/internal/util/Preconditions", name := "checkIndex", desc := "(IILjava/util/function/BiFunction;)I" } : Jvm.MethodName) jdk_41_method_11_code (3 : Nat) (Option.some Jvm.ClassFile.FieldType.int)).before args0 about1 = true := code_word (m := ⟨21, 1⟩) (meth := k21m1) (c := k21c1) (by decide +kernel) rfl rfl rfl (by decide +kernel)
set_option maxRecDepth 65536 in
theorem w_c13 : (Jvm.Cond.code ({ cls := "corbel/structures/ArrayStack", name := "elementAt", desc := "(I)Ljava/lang/Object;" } : Jvm.MethodName) prog_1_method_15_code (2 : Nat) (Option.some (Jvm.ClassFile.FieldType.object "java/lang/Object"))).before args0 about1 = true := code_word (m := ⟨10, 5⟩) (meth := k10m5) (c := k10c5) (by decide +kernel) rfl rfl rfl (by decide +kernel)
set_option maxRecDepth 65536 in
theorem w_c14 : (Jvm.Cond.code ({ cls := "java/lang/Integer", name := "intValue", desc := "()I" } : Jvm.MethodName) jdk_33_method_27_code (1 : Nat) (Option.some Jvm.ClassFile.FieldType.int)).before args0 about1 = true := code_word (m := ⟨16, 2⟩) (meth := k16m2) (c := k16c2) (by decide +kernel) rfl rfl rfl (by decide +kernel)
set_option maxRecDepth 65536 in
theorem w_c15 : (Jvm.Cond.code ({ cls := "java/util/Arrays", name := "copyOf", desc := "([Ljava/lang/Object;I)[Ljava/lang/Object;" } : Jvm.MethodName) jdk_65_method_119_code (2 : Nat) (Option.some (Jvm.ClassFile.FieldType.array (Jvm.ClassFile.FieldType.object "java/lang/Object")))).before args0 about1 = true := code_word (m := ⟨22, 1⟩) (meth := k22m1) (c := k22c1) (by decide +kernel) rfl rfl rfl (by decide +kernel)
set_option maxRecDepth 65536 in
theorem w_c16 : (Jvm.Cond.code ({ cls := "java/util/Arrays", name := "copyOf", desc := "([Ljava/lang/Object;ILjava/lang/Class;)[Ljava/lang/Object;" } : Jvm.MethodName) jdk_65_method_120_code (4 : Nat) (Option.some (Jvm.ClassFile.FieldType.array (Jvm.ClassFile.FieldType.object "java/lang/Object")))).before args0 about1 = true := code_word (m := ⟨22, 2⟩) (meth := k22m2) (c := k22c2) (by decide +kernel) rfl rfl rfl (by decide +kernel)
set_option maxRecDepth 65536 in
theorem w_c17 : (Jvm.Cond.code ({ cls := "java/lang/Math", name := "min", desc := "(II)I" } : Jvm.MethodName) jdk_29_method_69_code (2 : Nat) (Option.some Jvm.ClassFile.FieldType.int)).before args0 about1 = true := code_word (m := ⟨23, 1⟩) (meth := k23m1) (c := k23c1) (by decide +kernel) rfl rfl rfl (by decide +kernel)
set_option maxRecDepth 65536 in
theorem w_c18 : (Jvm.Cond.code ({ cls := "corbel/structures/ArrayStack", name := "pop", desc := "()Ljava/lang/Object;" } : Jvm.MethodName) prog_1_method_4_code (1 : Nat) (Option.some (Jvm.ClassFile.FieldType.object "java/lang/Object"))).before args0 about1 = true := code_word (m := ⟨10, 1⟩) (meth := k10m1) (c := k10c1) (by decide +kernel) rfl rfl rfl (by decide +kernel)
set_option maxRecDepth 65536 in
theorem w_c19 : (Jvm.Cond.code ({ cls := "corbel/structures/ArrayStack", name := "remove", desc := "(I)Ljava/lang/Object;" } : Jvm.MethodName) prog_1_method_11_code (3 : Nat) (Option.some (Jvm.ClassFile.FieldType.object "java/lang/Object"))).before args0 about1 = true := code_word (m := ⟨10, 4⟩) (meth := k10m4) (c := k10c4) (by decide +kernel) rfl rfl rfl (by decide +kernel)
set_option maxRecDepth 65536 in
theorem w_c20 : (Jvm.Cond.code ({ cls := "corbel/structures/ArrayStack", name := "shrinkIfSparse", desc := "()V" } : Jvm.MethodName) prog_1_method_19_code (1 : Nat) (Option.none : Option Jvm.ClassFile.FieldType)).before args0 about1 = true := code_word (m := ⟨10, 7⟩) (meth := k10m7) (c := k10c7) (by decide +kernel) rfl rfl rfl (by decide +kernel)
set_option maxRecDepth 65536 in
theorem w_c21 : (Jvm.Cond.code ({ cls := "java/lang/Integer", name := "<init>", desc := "(I)V" } : Jvm.MethodName) jdk_33_method_23_code (2 : Nat) (Option.none : Option Jvm.ClassFile.FieldType)).before args0 about1 = true := code_word (m := ⟨16, 1⟩) (meth := k16m1) (c := k16c1) (by decide +kernel) rfl rfl rfl (by decide +kernel)
set_option maxRecDepth 65536 in
theorem w_c22 : (Jvm.Cond.code ({ cls := "java/lang/Number", name := "<init>", desc := "()V" } : Jvm.MethodName) jdk_18_method_1_code (1 : Nat) (Option.none : Option Jvm.ClassFile.FieldType)).before args0 about1 = true := code_word (m := ⟨12, 0⟩) (meth := k12m0) (c := k12c0) (by decide +kernel) rfl rfl rfl (by decide +kernel)
def codes1 : List Jvm.Cond := [Jvm.Cond.code x code maxLocals ret, Jvm.Cond.code ({ cls := "corbel/structures/ArrayStack", name := "<init>", desc := "()V" } : Jvm.MethodName) prog_1_method_1_code (1 : Nat) (Option.none : Option Jvm.ClassFile.FieldType), Jvm.Cond.code ({ cls := "corbel/structures/IndexedList", name := "<init>", desc := "()V" } : Jvm.MethodName) prog_15_method_1_code (1 : Nat) (Option.none : Option Jvm.ClassFile.FieldType), Jvm.Cond.code ({ cls := "java/util/AbstractList", name := "<init>", desc := "()V" } : Jvm.MethodName) jdk_39_method_1_code (1 : Nat) (Option.none : Option Jvm.ClassFile.FieldType), Jvm.Cond.code ({ cls := "java/util/AbstractCollection", name := "<init>", desc := "()V" } : Jvm.MethodName) jdk_22_method_1_code (1 : Nat) (Option.none : Option Jvm.ClassFile.FieldType), Jvm.Cond.code ({ cls := "java/lang/Object", name := "<init>", desc := "()V" } : Jvm.MethodName) object_method_1_code (1 : Nat) (Option.none : Option Jvm.ClassFile.FieldType), Jvm.Cond.code ({ cls := "java/lang/Integer", name := "valueOf", desc := "(I)Ljava/lang/Integer;" } : Jvm.MethodName) jdk_33_method_22_code (1 : Nat) (Option.some (Jvm.ClassFile.FieldType.object "java/lang/Integer")), Jvm.Cond.code ({ cls := "corbel/structures/ArrayStack", name := "add", desc := "(Ljava/lang/Object;)Z" } : Jvm.MethodName) prog_1_method_8_code (2 : Nat) (Option.some Jvm.ClassFile.FieldType.boolean), Jvm.Cond.code ({ cls := "java/util/Objects", name := "requireNonNull", desc := "(Ljava/lang/Object;Ljava/lang/String;)Ljava/lang/Object;" } : Jvm.MethodName) jdk_31_method_11_code (2 : Nat) (Option.some (Jvm.ClassFile.FieldType.object "java/lang/Object")), Jvm.Cond.code ({ cls := "corbel/structures/ArrayStack", name := "growFor", desc := "(I)V" } : Jvm.MethodName) prog_1_method_18_code (6 : Nat) (Option.none : Option Jvm.ClassFile.FieldType), Jvm.Cond.code ({ cls := "corbel/structures/ArrayStack", name := "get", desc := "(I)Ljava/lang/Object;" } : Jvm.MethodName) prog_1_method_6_code (2 : Nat) (Option.some (Jvm.ClassFile.FieldType.object "java/lang/Object")), Jvm.Cond.code ({ cls := "java/util/Objects", name := "checkIndex", desc := "(II)I" } : Jvm.MethodName) jdk_31_method_17_code (2 : Nat) (Option.some Jvm.ClassFile.FieldType.int), Jvm.Cond.code ({ cls := "jdk/internal/util/Preconditions", name := "checkIndex", desc := "(IILjava/util/function/BiFunction;)I" } : Jvm.MethodName) jdk_41_method_11_code (3 : Nat) (Option.some Jvm.ClassFile.FieldType.int), Jvm.Cond.code ({ cls := "corbel/structures/ArrayStack", name := "elementAt", desc := "(I)Ljava/lang/Object;" } : Jvm.MethodName) prog_1_method_15_code (2 : Nat) (Option.some (Jvm.ClassFile.FieldType.object "java/lang/Object")), Jvm.Cond.code ({ cls := "java/lang/Integer", name := "intValue", desc := "()I" } : Jvm.MethodName) jdk_33_method_27_code (1 : Nat) (Option.some Jvm.ClassFile.FieldType.int), Jvm.Cond.code ({ cls := "java/util/Arrays", name := "copyOf", desc := "([Ljava/lang/Object;I)[Ljava/lang/Object;" } : Jvm.MethodName) jdk_65_method_119_code (2 : Nat) (Option.some (Jvm.ClassFile.FieldType.array (Jvm.ClassFile.FieldType.object "java/lang/Object"))), Jvm.Cond.code ({ cls := "java/util/Arrays", name := "copyOf", desc := "([Ljava/lang/Object;ILjava/lang/Class;)[Ljava/lang/Object;" } : Jvm.MethodName) jdk_65_method_120_code (4 : Nat) (Option.some (Jvm.ClassFile.FieldType.array (Jvm.ClassFile.FieldType.object "java/lang/Object"))), Jvm.Cond.code ({ cls := "java/lang/Math", name := "min", desc := "(II)I" } : Jvm.MethodName) jdk_29_method_69_code (2 : Nat) (Option.some Jvm.ClassFile.FieldType.int), Jvm.Cond.code ({ cls := "corbel/structures/ArrayStack", name := "pop", desc := "()Ljava/lang/Object;" } : Jvm.MethodName) prog_1_method_4_code (1 : Nat) (Option.some (Jvm.ClassFile.FieldType.object "java/lang/Object")), Jvm.Cond.code ({ cls := "corbel/structures/ArrayStack", name := "remove", desc := "(I)Ljava/lang/Object;" } : Jvm.MethodName) prog_1_method_11_code (3 : Nat) (Option.some (Jvm.ClassFile.FieldType.object "java/lang/Object")), Jvm.Cond.code ({ cls := "corbel/structures/ArrayStack", name := "shrinkIfSparse", desc := "()V" } : Jvm.MethodName) prog_1_method_19_code (1 : Nat) (Option.none : Option Jvm.ClassFile.FieldType), Jvm.Cond.code ({ cls := "java/lang/Integer", name := "<init>", desc := "(I)V" } : Jvm.MethodName) jdk_33_method_23_code (2 : Nat) (Option.none : Option Jvm.ClassFile.FieldType), Jvm.Cond.code ({ cls := "java/lang/Number", name := "<init>", desc := "()V" } : Jvm.MethodName) jdk_18_method_1_code (1 : Nat) (Option.none : Option Jvm.ClassFile.FieldType)]
set_option maxRecDepth 65536 in
theorem codes_eq : words1.filter isCode = codes1 := rfl
theorem w_codes : ∀ c ∈ words1.filter isCode, c.before args0 about1 = true := by
  rw [codes_eq]
  intro c hc
  simp only [codes1, List.mem_cons, List.not_mem_nil, or_false] at hc
  rcases hc with rfl | rfl | rfl | rfl | rfl | rfl | rfl | rfl | rfl | rfl | rfl | rfl | rfl | rfl | rfl | rfl | rfl | rfl | rfl | rfl | rfl | rfl | rfl
  · exact w_c0
  · exact w_c1
  · exact w_c2
  · exact w_c3
  · exact w_c4
  · exact w_c5
  · exact w_c6
  · exact w_c7
  · exact w_c8
  · exact w_c9
  · exact w_c10
  · exact w_c11
  · exact w_c12
  · exact w_c13
  · exact w_c14
  · exact w_c15
  · exact w_c16
  · exact w_c17
  · exact w_c18
  · exact w_c19
  · exact w_c20
  · exact w_c21
  · exact w_c22
set_option maxRecDepth 65536 in
theorem w_t1 : (words1.take 24).all (fun c => isCode c || c.before args0 about1) = true := by decide +kernel
set_option maxRecDepth 65536 in
theorem w_t2 : ((words1.drop 24).take 24).all (fun c => isCode c || c.before args0 about1) = true := by decide +kernel
set_option maxRecDepth 65536 in
theorem w_t3 : (((words1.drop 24).drop 24).take 24).all (fun c => isCode c || c.before args0 about1) = true := by decide +kernel
set_option maxRecDepth 65536 in
theorem w_t4 : ((((words1.drop 24).drop 24).drop 24).take 24).all (fun c => isCode c || c.before args0 about1) = true := by decide +kernel
set_option maxRecDepth 65536 in
theorem w_t5 : (((((words1.drop 24).drop 24).drop 24).drop 24).take 24).all (fun c => isCode c || c.before args0 about1) = true := by decide +kernel
set_option maxRecDepth 65536 in
theorem w_t6 : (((((words1.drop 24).drop 24).drop 24).drop 24).drop 24).all (fun c => isCode c || c.before args0 about1) = true := by decide +kernel
theorem w_tables : (allAtoms (Jvm.Cond.code x code maxLocals ret :: tables_1)).before args0 about1 = true := by
  rw [allAtoms_all]
  show words1.all (fun c => c.before args0 about1) = true
  refine all_split ?_ w_codes
  rw [← List.take_append_drop 24 words1, List.all_append, w_t1, ← List.take_append_drop 24 (words1.drop 24), List.all_append, w_t2, ← List.take_append_drop 24 ((words1.drop 24).drop 24), List.all_append, w_t3, ← List.take_append_drop 24 (((words1.drop 24).drop 24).drop 24), List.all_append, w_t4, ← List.take_append_drop 24 ((((words1.drop 24).drop 24).drop 24).drop 24), List.all_append, w_t5, w_t6]
  rfl
set_option maxRecDepth 65536 in
theorem w_rest : rest_1_c.before args0 about1 = true := by decide +kernel
set_option maxRecDepth 65536 in
theorem w_case : (Jvm.Cond.and given_1 narrow_1).before args0 about1 = true := by decide +kernel
theorem w_applies : (headSpec (Jvm.Cond.code x code maxLocals ret :: tables_1) room_1).applies x e0.platform about1 = true :=
  (Spec.applies_iff w_frames).mpr ⟨w_running, w_runnable, w_alone, w_named, w_hears, w_ripe, w_room, w_tables⟩
set_option maxRecDepth 65536 in
theorem atStart : AtStart classFile x code maxLocals ret World_1 tables_1 room_1 Calls_1 rest_1 Pre_1 launch0 p0 e0 about1 theMethod args0 below0 :=
  ⟨lists_1, trivial, launch0.admits_env _ _ _, launch0.least_env, fairChoices_fair.cas, fairChoices_fair.clock, w_frames, w_args, w_heap, w_applies, ⟨⟨32, k32, 1, by decide +kernel, rfl, rfl, _, rfl, rfl⟩, trivial⟩, w_rest, w_case⟩
end start1
theorem witness_1 : WitnessClaimed_1 := ⟨start1.p0, start1.e0, start1.about1, start1.theMethod, start1.args0, start1.below0, start1.atStart⟩
end Jvm.Pilot.@@N@@
