import JvmDerived
import JvmDerived.Pilot.@@N@@Statement
import JvmDerived.Pilot.@@N@@Code
set_option linter.unusedVariables false
set_option linter.unusedSimpArgs false
@@BLOCK:NumsL.lean.txt@@
namespace Jvm.Pilot.@@N@@
open Jvm Jvm.ClassFile Sem Op Lib Jvm.Free Jvm.Stand Jvm.LawKit Jvm.RoadKit Bundle Jvm.Pilot.@@N@@.Jvm.D
section OwnKit
variable {p : Program} {l : Launch} {e : Env} {R : Room} {s : State} {m : MethodId} {args : Array Value} {below : List Frame} {meth : Method} {c : Code} {T T' : State} {locs : List Loc} {cells slots : Nat} {Z : State} {a0 : Array Value} {h h' : Heap} {g g' : JFrame} {K : Outcome → State → Prop} {a b : Addr}
/-- from the frame g over T the run comes home with K -/
def Goes (p : Program) (e : Env) (below : List Frame) (K : Outcome → State → Prop) (T : State) (g : JFrame) : Prop :=
  ∃ s₂ o, Steps p.tables e below (T.setTop g) s₂ ∧ s₂.status = .running ∧ Ended s₂ below o ∧ K o s₂
theorem Goes.of (f : ∀ t, Steps p.tables e below (T'.setTop g') t → Steps p.tables e below (T.setTop g) t) (h : Goes p e below K T' g') : Goes p e below K T g := by
  obtain ⟨s₂, o, h1, h2⟩ := h; exact ⟨s₂, o, f _ h1, h2⟩
theorem Goes.tr (f : Steps p.tables e below (T.setTop g) (T'.setTop g')) (h : Goes p e below K T' g') : Goes p e below K T g := by
  obtain ⟨s₂, o, h1, h2⟩ := h; exact ⟨s₂, o, f.trans h1, h2⟩
theorem Goes.cast (q : g = g') (h : Goes p e below K T g') : Goes p e below K T g := q ▸ h
def OwnK (s : State) (Q : Option Value → Heap → List Loc → Prop) (C S : Nat) : Outcome → State → Prop := fun o U' => ∃ v L, o = .returned v ∧ Q v U'.heap L ∧ FrameEnd s o U' L C S
section Ret
variable {Q : Option Value → Heap → List Loc → Prop} {C S pc : Nat} {Ls : Array Slot} {rest : List Value}
theorem Goes.retInt (X : Stand p l e R s m args below meth c T locs cells slots) (hx : p.tables.exec = Jvm.exec) (hlk : meth.locks = false) {z : Int32} (hret : meth.sig.returnType = some .int) (hd : decode c.code pc = .ok (.ireturn, 1)) (hQ : Q (some (.int z)) T.heap locs) (hc : cells ≤ C) (hs : slots ≤ S) :
    Goes p e below (OwnK s Q C S) T (mkF m pc Ls (.int z :: rest)) := by
  obtain ⟨fs, hr, hrun, hended, hW, hsame⟩ := X.leave (v := some (.int z)) (fun h => by rw [hret] at h; cases h) hlk
  exact ⟨_, _, retOut X hx hret rfl (Or.inl ⟨rfl, Or.inl rfl, z, rfl⟩) hd hr, hrun, hended, _, _, rfl, hQ, ⟨_, rfl⟩, hW, hsame.mono hc hs⟩
theorem Goes.retNar (X : Stand p l e R s m args below meth c T locs cells slots) (hx : p.tables.exec = Jvm.exec) (hlk : meth.locks = false) {t : FieldType} {z : Int32} (ht : t = .boolean ∨ t = .byte ∨ t = .char ∨ t = .short) (hret : meth.sig.returnType = some t) (hd : decode c.code pc = .ok (.ireturn, 1)) (hQ : Q (some (.int (nar t z))) T.heap locs) (hc : cells ≤ C) (hs : slots ≤ S) :
    Goes p e below (OwnK s Q C S) T (mkF m pc Ls (.int z :: rest)) := by
  obtain ⟨fs, hr, hrun, hended, hW, hsame⟩ := X.leave (v := some (.int (nar t z))) (fun h => by rw [hret] at h; cases h) hlk
  exact ⟨_, _, retN X hx hret ht hd hr, hrun, hended, _, _, rfl, hQ, ⟨_, rfl⟩, hW, hsame.mono hc hs⟩
theorem Goes.retLong (X : Stand p l e R s m args below meth c T locs cells slots) (hx : p.tables.exec = Jvm.exec) (hlk : meth.locks = false) {z : Int64} (hret : meth.sig.returnType = some .long) (hd : decode c.code pc = .ok (.lreturn, 1)) (hQ : Q (some (.long z)) T.heap locs) (hc : cells ≤ C) (hs : slots ≤ S) :
    Goes p e below (OwnK s Q C S) T (mkF m pc Ls (.long z :: rest)) := by
  obtain ⟨fs, hr, hrun, hended, hW, hsame⟩ := X.leave (v := some (.long z)) (fun h => by rw [hret] at h; cases h) hlk
  exact ⟨_, _, retOut X hx hret rfl (Or.inr (Or.inl ⟨rfl, rfl, z, rfl⟩)) hd hr, hrun, hended, _, _, rfl, hQ, ⟨_, rfl⟩, hW, hsame.mono hc hs⟩
theorem Goes.retRef (X : Stand p l e R s m args below meth c T locs cells slots) (hx : p.tables.exec = Jvm.exec) (hlk : meth.locks = false) {t : FieldType} {w : Value} (hw : w.isRef = true) (ht : t.isReference = true) (hret : meth.sig.returnType = some t) (hd : decode c.code pc = .ok (.areturn, 1)) (hQ : Q (some w) T.heap locs) (hc : cells ≤ C) (hs : slots ≤ S) :
    Goes p e below (OwnK s Q C S) T (mkF m pc Ls (w :: rest)) := by
  obtain ⟨fs, hr, hrun, hended, hW, hsame⟩ := X.leave (v := some w) (fun h => by rw [hret] at h; cases h) hlk
  have hn : narrow t w = w := by cases t <;> first | (cases ht; done) | (cases w <;> first | (cases hw; done) | rfl)
  exact ⟨_, _, retOut X hx hret hn (Or.inr (Or.inr (Or.inr (Or.inr ⟨rfl, ht, hw⟩)))) hd hr, hrun, hended, _, _, rfl, hQ, ⟨_, rfl⟩, hW, hsame.mono hc hs⟩
theorem Goes.retVoid (X : Stand p l e R s m args below meth c T locs cells slots) (hx : p.tables.exec = Jvm.exec) (hlk : meth.locks = false) (hret : meth.sig.returnType = none) (hd : decode c.code pc = .ok (.return_, 1)) (hQ : Q none T.heap locs) (hc : cells ≤ C) (hs : slots ≤ S) :
    Goes p e below (OwnK s Q C S) T (mkF m pc Ls []) := by
  obtain ⟨fs, hr, hrun, hended, hW, hsame⟩ := X.leave (v := none) (fun _ => rfl) hlk
  exact ⟨_, _, X.returnOut hx hret hd hr, hrun, hended, _, _, rfl, hQ, ⟨_, rfl⟩, hW, hsame.mono hc hs⟩
end Ret
/-- an array of ints, chars, bytes (not of booleans): all of its elements -/
def AI (Z : State) (h : Heap) (a : Addr) (ty : FieldType) (xs : List Int32) : Prop := ∃ cl : Cell, Arr Z h a cl ty ∧ cl.slots.toList = xs.map Value.int ∧ xs.length < 2 ^ 31 ∧ ∀ x ∈ xs, fits ty (.int x) = true
section Arrs
variable {ty : FieldType} {xs : List Int32} {sl : Nat} {v : Value} {ws : List Addr} {j x : Int32} {i : Nat} {rest : List Value}
theorem AI.lt (F : AI Z h a ty xs) : a < h.size := by obtain ⟨cl, A, -⟩ := F; exact A.lt
theorem AI.ext (F : AI Z h a ty xs) (E : Ext h h') : AI Z h' a ty xs := by obtain ⟨cl, A, r⟩ := F; exact ⟨cl, A.ext E, r⟩
theorem AI.other (F : AI Z h b ty xs) (W : Wr h h' a sl v) (q : b ≠ a) : AI Z h' b ty xs := by obtain ⟨cl, A, r⟩ := F; exact ⟨cl, A.other W q, r⟩
theorem AI.keep (F : AI Z h a ty xs) (K : Keep h h' ws) (q : a ∉ ws) : AI Z h' a ty xs := by obtain ⟨cl, A, r⟩ := F; exact ⟨cl, ⟨K.2.1 a cl A.1 q, A.2⟩, r⟩
theorem own_idx {cl : Cell} (hsz : cl.slots.toList = xs.map Value.int) (hj : j.toInt = (i : Int)) (hi : i < xs.length) : ¬ (j < 0 ∨ cl.slots.size ≤ j.toNatClampNeg) ∧ j.toNatClampNeg = i := by
  have hl : cl.slots.size = xs.length := by rw [← Array.length_toList, hsz, List.length_map]
  have hn : j.toNatClampNeg = i := by simp only [Int32.toNatClampNeg, hj]; rfl
  refine ⟨?_, hn⟩
  rw [hn, hl, Int32.lt_iff_toInt_lt, hj]
  have e0 : (0 : Int32).toInt = 0 := rfl
  omega
theorem own_at {cl : Cell} (hsz : cl.slots.toList = xs.map Value.int) (hi : xs[i]? = some x) : cl.slots[i]? = some (.int x) := by
  rw [← Array.getElem?_toList, hsz, List.getElem?_map, hi]; rfl
theorem AI.iaload (X : Stand p l e R s m args below meth c T locs cells slots) (hx : p.tables.exec = Jvm.exec) (hZ : Z.Warmed39 s.vm) (eT : T.heap = h) (A : AI Z h a .int xs) (hj : j.toInt = (i : Int)) (hi : xs[i]? = some x) (hg : g.method = m) (hs : g.stack = .int j :: .ref a :: rest) (hd : decode c.code g.pc = .ok (.iaload, 1)) :
    ∀ t, Steps p.tables e below (T.setTop { g with pc := g.pc + 1, stack := .int x :: rest }) t → Steps p.tables e below (T.setTop g) t := by
  obtain ⟨cl, A1, h1, h2, h3⟩ := A
  obtain ⟨q1, q2⟩ := own_idx h1 hj (List.getElem?_eq_some_iff.mp hi).1
  exact X.iaload hx (by rw [eT]; exact A1.1) (State.isArrayOf_alike hZ.alike A1.2.1) A1.2.2 q1 (by rw [q2]; exact own_at h1 hi) hg hs hd
theorem AI.caload (X : Stand p l e R s m args below meth c T locs cells slots) (hx : p.tables.exec = Jvm.exec) (hZ : Z.Warmed39 s.vm) (eT : T.heap = h) (A : AI Z h a .char xs) (hj : j.toInt = (i : Int)) (hi : xs[i]? = some x) (hg : g.method = m) (hs : g.stack = .int j :: .ref a :: rest) (hd : decode c.code g.pc = .ok (.caload, 1)) :
    ∀ t, Steps p.tables e below (T.setTop { g with pc := g.pc + 1, stack := .int x :: rest }) t → Steps p.tables e below (T.setTop g) t := by
  obtain ⟨cl, A1, h1, h2, h3⟩ := A
  obtain ⟨q1, q2⟩ := own_idx h1 hj (List.getElem?_eq_some_iff.mp hi).1
  exact X.caload hx (by rw [eT]; exact A1.1) (State.isArrayOf_alike hZ.alike A1.2.1) A1.2.2 q1 (by rw [q2]; exact own_at h1 hi) hg hs hd
theorem AI.baload (X : Stand p l e R s m args below meth c T locs cells slots) (hx : p.tables.exec = Jvm.exec) (hZ : Z.Warmed39 s.vm) (eT : T.heap = h) (A : AI Z h a .byte xs) (hj : j.toInt = (i : Int)) (hi : xs[i]? = some x) (hg : g.method = m) (hs : g.stack = .int j :: .ref a :: rest) (hd : decode c.code g.pc = .ok (.baload, 1)) :
    ∀ t, Steps p.tables e below (T.setTop { g with pc := g.pc + 1, stack := .int x :: rest }) t → Steps p.tables e below (T.setTop g) t := by
  obtain ⟨cl, A1, h1, h2, h3⟩ := A
  obtain ⟨q1, q2⟩ := own_idx h1 hj (List.getElem?_eq_some_iff.mp hi).1
  exact X.baloadBytes hx (by rw [eT]; exact A1.1) (State.isArrayOf_alike hZ.alike A1.2.1) A1.2.2 q1 (by rw [q2]; exact own_at h1 hi) hg hs hd
theorem AI.arraylength (X : Stand p l e R s m args below meth c T locs cells slots) (hx : p.tables.exec = Jvm.exec) (hZ : Z.Warmed39 s.vm) (eT : T.heap = h) (A : AI Z h a ty xs) (hj : j.toInt = (xs.length : Int)) (hg : g.method = m) (hs : g.stack = .ref a :: rest) (hd : decode c.code g.pc = .ok (.arraylength, 1)) :
    ∀ t, Steps p.tables e below (T.setTop { g with pc := g.pc + 1, stack := .int j :: rest }) t → Steps p.tables e below (T.setTop g) t := by
  obtain ⟨cl, A1, h1, h2, h3⟩ := A
  intro t k
  have hl : cl.slots.size = xs.length := by rw [← Array.length_toList, h1, List.length_map]
  have ej : cl.slots.size.toInt32 = j := by
    rw [hl]
    apply Int32.toInt_inj.mp
    rw [hj]; exact len_toInt h2
  refine X.arraylength hx (by rw [eT]; exact A1.1) (State.isArrayOf_alike hZ.alike A1.2.1) hg hs hd t ?_
  rw [ej]; exact k
theorem own_set {cl : Cell} (A : Arr Z h a cl ty) (h1 : cl.slots.toList = xs.map Value.int) (h2 : xs.length < 2 ^ 31) (h3 : ∀ x ∈ xs, fits ty (.int x) = true) (hf : fits ty (.int x) = true) (W : Wr h h' a i (.int x)) : AI Z h' a ty (xs.set i x) :=
  ⟨_, A.same W, by simp [Cell.setSlot, h1, List.map_set], by rw [List.length_set]; exact h2, fun y hy => by
    rcases List.mem_or_eq_of_mem_set hy with q | q
    · exact h3 y q
    · rw [q]; exact hf⟩
theorem AI.iastore (X : Stand p l e R s m args below meth c T locs cells slots) (hx : p.tables.exec = Jvm.exec) (hZ : Z.Warmed39 s.vm) (eT : T.heap = h) (A : AI Z h a .int xs) (hj : j.toInt = (i : Int)) (hi : i < xs.length) (hg : g.method = m) (hs : g.stack = .int x :: .int j :: .ref a :: rest) (hd : decode c.code g.pc = .ok (.iastore, 1)) :
    ∃ T' h', Stand p l e R s m args below meth c T' (locs ++ [⟨a, i⟩]) cells slots ∧ T'.heap = h' ∧ Wr h h' a i (.int x) ∧ AI Z h' a .int (xs.set i x) ∧ ∀ target, Steps p.tables e below (T'.setTop { g with pc := g.pc + 1, stack := rest }) target → Steps p.tables e below (T.setTop g) target := by
  obtain ⟨cl, A1, h1, h2, h3⟩ := A
  obtain ⟨q1, q2⟩ := own_idx h1 hj hi
  obtain ⟨T', h', X', e', W', st⟩ := stI X hx hZ eT A1 q1 hg hs hd
  rw [q2] at X' W'
  exact ⟨T', h', X', e', W', own_set A1 h1 h2 h3 rfl W', st⟩
theorem AI.castore (X : Stand p l e R s m args below meth c T locs cells slots) (hx : p.tables.exec = Jvm.exec) (hZ : Z.Warmed39 s.vm) (eT : T.heap = h) (A : AI Z h a .char xs) (hj : j.toInt = (i : Int)) (hi : i < xs.length) (hg : g.method = m) (hs : g.stack = .int x :: .int j :: .ref a :: rest) (hd : decode c.code g.pc = .ok (.castore, 1)) :
    ∃ T' h', Stand p l e R s m args below meth c T' (locs ++ [⟨a, i⟩]) cells slots ∧ T'.heap = h' ∧ Wr h h' a i (.int (nar .char x)) ∧ AI Z h' a .char (xs.set i (nar .char x)) ∧ ∀ target, Steps p.tables e below (T'.setTop { g with pc := g.pc + 1, stack := rest }) target → Steps p.tables e below (T.setTop g) target := by
  obtain ⟨cl, A1, h1, h2, h3⟩ := A
  obtain ⟨q1, q2⟩ := own_idx h1 hj hi
  obtain ⟨T', h', X', e', W', st⟩ := stC X hx hZ eT A1 q1 hg hs hd
  rw [q2] at X' W'
  exact ⟨T', h', X', e', W', own_set A1 h1 h2 h3 (fits_nar_char _) W', st⟩
theorem AI.bastore (X : Stand p l e R s m args below meth c T locs cells slots) (hx : p.tables.exec = Jvm.exec) (hZ : Z.Warmed39 s.vm) (eT : T.heap = h) (A : AI Z h a .byte xs) (hj : j.toInt = (i : Int)) (hi : i < xs.length) (hg : g.method = m) (hs : g.stack = .int x :: .int j :: .ref a :: rest) (hd : decode c.code g.pc = .ok (.bastore, 1)) :
    ∃ T' h', Stand p l e R s m args below meth c T' (locs ++ [⟨a, i⟩]) cells slots ∧ T'.heap = h' ∧ Wr h h' a i (.int (nar .byte x)) ∧ AI Z h' a .byte (xs.set i (nar .byte x)) ∧ ∀ target, Steps p.tables e below (T'.setTop { g with pc := g.pc + 1, stack := rest }) target → Steps p.tables e below (T.setTop g) target := by
  obtain ⟨cl, A1, h1, h2, h3⟩ := A
  obtain ⟨q1, q2⟩ := own_idx h1 hj hi
  obtain ⟨T', h', X', e', W', st⟩ := stB X hx hZ eT A1 q1 hg hs hd
  rw [q2] at X' W'
  exact ⟨T', h', X', e', W', own_set A1 h1 h2 h3 (fits_nar_byte _) W', st⟩
theorem AI.fresh {cA : ClassId} {n : Int32} {k : Nat} (ht : ty = .int ∨ ty = .char ∨ ty = .byte ∨ ty = .short) (hn : n.toInt = (k : Int)) (A : Arr Z h a (newA cA ty n) ty) : AI Z h a ty (List.replicate k 0) := by
  have e : n.toNatClampNeg = k := by simp only [Int32.toNatClampNeg, hn]; rfl
  have hk := n.toInt_lt
  refine ⟨_, A, ?_, ?_, ?_⟩
  · rcases ht with rfl | rfl | rfl | rfl <;> simp [newA, e, defaultValue]
  · rw [List.length_replicate]; omega
  · intro x hx
    obtain rfl := List.eq_of_mem_replicate hx
    rcases ht with rfl | rfl | rfl | rfl <;> rfl
end Arrs
end OwnKit
section OwnKit2
variable {p : Program} {l : Launch} {e : Env} {R : Room} {s : State} {m : MethodId} {args : Array Value} {below : List Frame} {meth : Method} {c : Code} {T T' : State} {locs : List Loc} {cells slots : Nat} {Z : State} {a0 : Array Value} {h h' : Heap} {g g' : JFrame} {a b : Addr} {ty : FieldType} {xs : List Int32}
theorem AI.arv (F : AI Z h a ty xs) {n : Int32} (hn : n.toInt = (xs.length : Int)) : ∃ k, Arv Z h a k ty n (xs.map Value.int) (.int 0) := by
  obtain ⟨cl, A, h1, h2, h3⟩ := F
  have e : n.toNatClampNeg = xs.length := by simp only [Int32.toNatClampNeg, hn]; rfl
  have hl : cl.slots.size = xs.length := by rw [← Array.length_toList, h1, List.length_map]
  refine ⟨cl.cls, cl, A, rfl, by rw [hl, e], by rw [Int32.lt_iff_toInt_lt, hn]; have z : (0 : Int32).toInt = 0 := rfl; omega, fun i hi => ?_, fun i hi => ?_⟩
  · rw [← Array.getElem?_toList, h1, List.getD_eq_getElem?_getD]
    rw [hl] at hi
    rw [List.getElem?_map, List.getElem?_eq_getElem hi]; rfl
  · rw [hl] at hi
    rw [List.getD_eq_getElem?_getD, List.getElem?_map, List.getElem?_eq_getElem hi]
    exact h3 _ (List.getElem_mem hi)
theorem AI.ofArv {k : ClassId} {n : Int32} {vs : List Value} {d : Value} (F : Arv Z h a k ty n vs d) (hn : n.toInt = (xs.length : Int)) (hv : vs = xs.map Value.int) : AI Z h a ty xs := by
  obtain ⟨cl, A, -, S, q, H, G⟩ := F
  have e : n.toNatClampNeg = xs.length := by simp only [Int32.toNatClampNeg, hn]; rfl
  have hl : cl.slots.size = xs.length := by rw [S, e]
  have hk := n.toInt_lt
  refine ⟨cl, A, ?_, by omega, ?_⟩
  · apply List.ext_getElem?
    intro i
    by_cases hi : i < xs.length
    · rw [Array.getElem?_toList, H i (by rw [hl]; exact hi), hv, List.getD_eq_getElem?_getD, List.getElem?_map, List.getElem?_eq_getElem hi]; rfl
    · rw [List.getElem?_eq_none (by rw [Array.length_toList, hl]; omega), List.getElem?_eq_none (by rw [List.length_map]; omega)]
  · intro x hx
    obtain ⟨i, hi, rfl⟩ := List.getElem_of_mem hx
    have := G i (by rw [hl]; exact hi)
    rw [hv, List.getD_eq_getElem?_getD, List.getElem?_map, List.getElem?_eq_getElem hi] at this
    exact this
theorem AI.clone (X : Stand p l e R s m args below meth c T locs cells slots) (hx : p.tables.exec = Jvm.exec) (hZ : Z.Warmed39 s.vm) {own ad : String} {index : Nat} (hown : s.vm.findClass own = some m.cls)
    (w1 : (Cond.methodLink own index ⟨ad, "clone", "()Ljava/lang/Object;"⟩).before a0 Z = true) (w2 : (Cond.sameMethod ad "java/lang/Object" "clone" "()Ljava/lang/Object;").before a0 Z = true) (w3 : (Cond.native ⟨"java/lang/Object", "clone", "()Ljava/lang/Object;"⟩).before a0 Z = true)
    (w4 : (Cond.instanceMethod ⟨"java/lang/Object", "clone", "()Ljava/lang/Object;"⟩).before a0 Z = true) (w5 : (Cond.selects ad ⟨ad, "clone", "()Ljava/lang/Object;"⟩ ⟨"java/lang/Object", "clone", "()Ljava/lang/Object;"⟩).before a0 Z = true) (w6 : (Cond.castable ad "java/lang/Cloneable").before a0 Z = true)
    (eT : T.heap = h) (F : AI Z h a ty xs) (E : Exa Z h a ad) (hg : g.method = m) (hsize : g.locals.size = c.maxLocals) {rest : List Value} (hst : g.stack = .ref a :: rest) (hd : decode c.code g.pc = .ok (.invokevirtual index, 3))
    (hf : 1 ≤ R.frames) {W cap : Nat} (hW : 2 * g.monitorRoom + (rest.map fun v => v.category).sum ≤ W) (hl : W + 14 ≤ R.locals) (hcap : xs.length ≤ cap) (hc : cells + 1 ≤ R.cells) (hsl : slots + cap ≤ R.slots) :
    ∃ T' h', Stand p l e R s m args below meth c T' locs (cells + 1) (slots + cap) ∧ T'.heap = h' ∧ Ext h h' ∧ AI Z h' h.size ty xs ∧ Exa Z h' h.size ad ∧
      ∀ target, Steps p.tables e below (T'.setTop { g with pc := g.pc + 3, stack := .ref h.size :: rest }) target → Steps p.tables e below (T.setTop g) target := by
  obtain ⟨cl, A, h1, h2, h3⟩ := F
  have hlen : cl.slots.size = xs.length := by rw [← Array.length_toList, h1, List.length_map]
  have FC : FitC Z cl := fitC_of A fun i hi v hv => by
    rw [← Array.getElem?_toList, h1, List.getElem?_map] at hv
    rw [hlen] at hi
    rw [List.getElem?_eq_getElem hi] at hv
    cases hv
    exact h3 _ (List.getElem_mem hi)
  obtain ⟨T', h', X', e', ex, A', E', st⟩ := cloneA X hx hZ hown w1 w2 w3 w4 w5 w6 eT A E FC hg hsize hst hd hf hW hl (by rw [hlen]; exact hcap) hc hsl
  exact ⟨T', h', X', e', ex, ⟨cloneOf cl, A', h1, h2, h3⟩, E', st⟩
theorem AI.copy (X : Stand p l e R s m args below meth c T locs cells slots) (hx : p.tables.exec = Jvm.exec) (hZ : Z.Warmed39 s.vm) {own : String} {index : Nat} (hown : s.vm.findClass own = some m.cls)
    (w1 : (Cond.methodLink own index Jvm.Stand.acN).before a0 Z = true) (w2 : (Cond.native Jvm.Stand.acN).before a0 Z = true) (w3 : (Cond.static Jvm.Stand.acN).before a0 Z = true) (w4 : (Cond.initialized "java/lang/System").before a0 Z = true) (eT : T.heap = h)
    {ys : List Int32} {sp dp nn : Int32} {i j k : Nat} (A : AI Z h a ty xs) (B : AI Z h b ty ys) (hty : refKind ty = false) (hi : sp.toInt = (i : Int)) (hj : dp.toInt = (j : Int)) (hk : nn.toInt = (k : Int)) (h4 : i + k ≤ xs.length) (h5 : j + k ≤ ys.length) {n0 : Nat} (N : Fr n0 locs) (ge : n0 ≤ b)
    (hg : g.method = m) (hsize : g.locals.size = c.maxLocals) {rest : List Value} (hs : g.stack = .int nn :: .int dp :: .ref b :: .int sp :: .ref a :: rest) (hd : decode c.code g.pc = .ok (.invokestatic index, 3))
    (hf : 1 ≤ R.frames) {W : Nat} (hW : 2 * g.monitorRoom + (rest.map fun v => v.category).sum ≤ W) (hlo : W + (nativeFrameWords "java/lang/System" "arraycopy" 5 + 11) ≤ R.locals) :
    ∃ T' h' L, Stand p l e R s m args below meth c T' L cells slots ∧ T'.heap = h' ∧ Fr n0 L ∧ Keep h h' [b] ∧ AI Z h' b ty (ys.take j ++ (xs.drop i).take k ++ ys.drop (j + k)) ∧
      ∀ target, Steps p.tables e below (T'.setTop { g with pc := g.pc + 3, stack := rest }) target → Steps p.tables e below (T.setTop g) target := by
  have lx : xs.length < 2 ^ 31 := by obtain ⟨_, _, _, q, _⟩ := A; exact q
  have ly : ys.length < 2 ^ 31 := by obtain ⟨_, _, _, q, _⟩ := B; exact q
  have ex : (xs.length.toInt32).toInt = (xs.length : Int) := len_toInt lx
  have ey : (ys.length.toInt32).toInt = (ys.length : Int) := len_toInt ly
  obtain ⟨k1, A1⟩ := A.arv ex
  obtain ⟨k2, B1⟩ := B.arv ey
  have cl : ∀ {x : Int32} {q : Nat}, x.toInt = (q : Int) → x.toNatClampNeg = q := fun {x q} r => by simp only [Int32.toNatClampNeg, r]; rfl
  have ng : ∀ {x : Int32} {q : Nat}, x.toInt = (q : Int) → ¬ x < 0 := fun {x q} r => by rw [Int32.lt_iff_toInt_lt, r]; have z : (0 : Int32).toInt = 0 := rfl; omega
  obtain ⟨T', h', L, X', e', N', K', V', st⟩ := cpA X hx hZ hown w1 w2 w3 w4 eT A1 B1 (Or.inl ⟨rfl, hty⟩) (ng hi) (ng hj) (ng hk) (by rw [cl hi, cl hk, cl ex]; exact h4) (by rw [cl hj, cl hk, cl ey]; exact h5) rfl (by rw [cl hj, cl hk, List.length_map]; exact h5) N ge hg hsize hs hd hf hW hlo
  refine ⟨T', h', L, X', e', N', K', AI.ofArv V' ?_ ?_, st⟩
  · rw [ey]
    simp only [List.length_append, List.length_take, List.length_drop]
    omega
  · rw [cl hi, cl hj, cl hk, List.map_append, List.map_append, List.map_take, List.map_drop, List.map_take, List.map_drop]
    congr 2
    apply List.ext_getElem?
    intro q
    by_cases hq : q < k
    · rw [List.getElem?_map, List.getElem?_range hq, List.getElem?_take_of_lt hq, List.getElem?_drop, List.getElem?_map]
      simp only [Option.map_some, List.getD_eq_getElem?_getD, List.getElem?_map]
      rw [List.getElem?_eq_getElem (show i + q < xs.length by omega)]; rfl
    · rw [List.getElem?_eq_none (by simp only [List.length_map, List.length_range]; omega), List.getElem?_eq_none (by simp only [List.length_take, List.length_drop, List.length_map]; omega)]
end OwnKit2
def putL (xs : List Int32) (i : Nat) (v k : Int32) : List Int32 := if i < xs.length then xs.set i (if (i : Int) < (xs.length : Int) - k.toInt then nar .byte v else -1) else xs
theorem putL_len (xs : List Int32) (i : Nat) (v k : Int32) : (putL xs i v k).length = xs.length := by unfold putL; split <;> simp
def fillL (xs : List Int32) (a b k : Int32) : List Int32 := putL (putL (putL (putL (putL xs 0 (XT.ushr a 24).toInt8.toInt32 k) 1 (XT.ushr a 16).toInt8.toInt32 k) 2 (XT.ushr a 8).toInt8.toInt32 k) 3 a.toInt8.toInt32 k) 4 b.toInt8.toInt32 k
theorem fillL_len (xs : List Int32) (a b k : Int32) : (fillL xs a b k).length = xs.length := by unfold fillL; simp only [putL_len]
def LastS (xs : List Int32) (r : Int32) : Prop := (r = -1 ∧ ∀ j, j < xs.length → xs[j]? = some (-1)) ∨ ∃ (m : Nat) (y : Int32), r.toInt = (m : Int) ∧ m < xs.length ∧ xs[m]? = some y ∧ y ≠ -1 ∧ ∀ j, m < j → j < xs.length → xs[j]? = some (-1)
theorem d1_0 : decode method_3_code 0 = .ok (.iload_n 0, 1) := by decide +kernel
theorem d1_1 : decode method_3_code 1 = .ok (.iconst 1, 1) := by decide +kernel
theorem d1_2 : decode method_3_code 2 = .ok (.if_icmp .ne 7, 3) := by decide +kernel
theorem d1_5 : decode method_3_code 5 = .ok (.iconst 1, 1) := by decide +kernel
theorem d1_6 : decode method_3_code 6 = .ok (.newarray .byte, 2) := by decide +kernel
theorem d1_8 : decode method_3_code 8 = .ok (.areturn, 1) := by decide +kernel
theorem d1_9 : decode method_3_code 9 = .ok (.iload_n 0, 1) := by decide +kernel
theorem d1_10 : decode method_3_code 10 = .ok (.iconst 2, 1) := by decide +kernel
theorem d1_11 : decode method_3_code 11 = .ok (.if_icmp .ne 7, 3) := by decide +kernel
theorem d1_14 : decode method_3_code 14 = .ok (.iconst 2, 1) := by decide +kernel
theorem d1_15 : decode method_3_code 15 = .ok (.newarray .byte, 2) := by decide +kernel
theorem d1_17 : decode method_3_code 17 = .ok (.areturn, 1) := by decide +kernel
theorem d1_18 : decode method_3_code 18 = .ok (.iload_n 0, 1) := by decide +kernel
theorem d1_19 : decode method_3_code 19 = .ok (.iconst 3, 1) := by decide +kernel
theorem d1_20 : decode method_3_code 20 = .ok (.if_icmp .ne 7, 3) := by decide +kernel
theorem d1_23 : decode method_3_code 23 = .ok (.iconst 3, 1) := by decide +kernel
theorem d1_24 : decode method_3_code 24 = .ok (.newarray .byte, 2) := by decide +kernel
theorem d1_26 : decode method_3_code 26 = .ok (.areturn, 1) := by decide +kernel
theorem d1_27 : decode method_3_code 27 = .ok (.iload_n 0, 1) := by decide +kernel
theorem d1_28 : decode method_3_code 28 = .ok (.iconst 4, 1) := by decide +kernel
theorem d1_29 : decode method_3_code 29 = .ok (.if_icmp .ne 7, 3) := by decide +kernel
theorem d1_32 : decode method_3_code 32 = .ok (.iconst 4, 1) := by decide +kernel
theorem d1_33 : decode method_3_code 33 = .ok (.newarray .byte, 2) := by decide +kernel
theorem d1_35 : decode method_3_code 35 = .ok (.areturn, 1) := by decide +kernel
theorem d1_36 : decode method_3_code 36 = .ok (.iconst 5, 1) := by decide +kernel
theorem d1_37 : decode method_3_code 37 = .ok (.newarray .byte, 2) := by decide +kernel
theorem d1_39 : decode method_3_code 39 = .ok (.areturn, 1) := by decide +kernel
theorem pn_1 : plainFor (⟨"com/example/iocd/iocd/store/RecordKeysAfterPinLaw", "make", "(I)[B"⟩ : MethodName) = true := plainFor_of_name (by first | (simp [plainName, overriddenIn]; done) | decide +kernel)
theorem ef_1 (m : MethodId) (x0 : Int32) : entryFrame m #[(.int x0)] 1 = mkF m 0 #[.val (.int x0)] [] := by first | (simp [entryFrame, mkF, argsToLocals, Value.category]; done) | rfl
def Q1 (Z : State) (p1 : Int32) (k : Nat) (h0 : Heap) (n0 : Nat) (v : Option Value) (h : Heap) (L : List Loc) : Prop := ∃ b, v = some (.ref b) ∧ Fr n0 L ∧ Keep h0 h [] ∧ h0.size ≤ b ∧ AI Z h b .byte (List.replicate k (0 : Int32)) ∧ Exa Z h b "[B"
set_option maxRecDepth 65536 in
set_option maxHeartbeats 40000000 in
theorem rm1 (l : Launch) (Z : State) (a0 : Array Value) (hw : ∀ d ∈ tables_1, d.before a0 Z = true) (ws : List Jvm.Cond) (p1 : Int32) (k : Nat) (h0 : Heap) (n0 : Nat) (Z0 : n0 ≤ h0.size) (hk0 : p1.toInt = (k : Int)) (hk1 : 1 ≤ k) (hk2 : k ≤ 5) :
    MetFree l (⟨"com/example/iocd/iocd/store/RecordKeysAfterPinLaw", "make", "(I)[B"⟩ : MethodName) (head1 (Jvm.Cond.code (⟨"com/example/iocd/iocd/store/RecordKeysAfterPinLaw", "make", "(I)[B"⟩ : MethodName) method_3_code 1 (some (.array .byte)) :: ws) ({ frames := 0, cells := 1, slots := 5, locals := 0 } : Room)) (fun a U => a = #[(.int p1)] ∧ Z.Warmed39 U.vm ∧ U.heap = h0) (fun _ _ _ _ _ => True) (fun _ U o U' => ∃ v L, o = .returned v ∧ Q1 Z p1 k h0 n0 v U'.heap L ∧ FrameEnd U o U' L ({ frames := 0, cells := 1, slots := 5, locals := 0 } : Room).cells ({ frames := 0, cells := 1, slots := 5, locals := 0 } : Room).slots) := by
  refine MetFree.of_bodySF pn_1 hisR ?_
  intro p e s m args below meth c s₁ Bd hml0 hP hK
  obtain ⟨rfl, hZ, hh⟩ := hP
  have hx := Bd.exec
  have hby := Bd.bytes
  have hml : c.maxLocals = 1 := hml0
  have hown : s.vm.findClass "com/example/iocd/iocd/store/RecordKeysAfterPinLaw" = some m.cls := findClass_of_methodNamed Bd.named
  have hnm := (name_of_methodNamed Bd.named Bd.method).1
  have hlk : meth.locks = false := BodyLoose.notSynchronized Bd
  have X0 : Stand p l e ({ frames := 0, cells := 1, slots := 5, locals := 0 } : Room) s m #[(.int p1)] below meth c s₁ [] 0 0 := Stand.of_body Bd
  have e0 : s₁.heap = h0 := by rw [← hh, Bd.state]; rfl
  have N0 := Fr.nil n0
  show Goes p e below (OwnK s (Q1 Z p1 k h0 n0) ({ frames := 0, cells := 1, slots := 5, locals := 0 } : Room).cells ({ frames := 0, cells := 1, slots := 5, locals := 0 } : Room).slots) s₁ (entryFrame m #[(.int p1)] 1)
  refine Goes.cast (ef_1 m p1) ?_
  generalize hKK : OwnK s (Q1 Z p1 k h0 n0) ({ frames := 0, cells := 1, slots := 5, locals := 0 } : Room).cells ({ frames := 0, cells := 1, slots := 5, locals := 0 } : Room).slots = KK
  show Goes p e below KK s₁ (mkF m 0 #[.val (.int p1)] [])
  have w_5 := hw _ (List.mem_of_getElem? (i := 5) rfl)
  refine Goes.of (fun t => XS.iloadN X0.here hx rfl (hb hby d1_0) rfl) ?_
  show Goes p e below KK s₁ (mkF m 1 #[.val (.int p1)] [(.int p1)])
  refine Goes.of (fun t => XS.iconst X0.here hx rfl (hb hby d1_1)) ?_
  show Goes p e below KK s₁ (mkF m 2 #[.val (.int p1)] [(.int (1 : Int32)), (.int p1)])
  by_cases hc2 : p1 = (1 : Int32)
  · refine Goes.of (fun t => XS.icmpNo X0.here hx rfl (hb hby d1_2) rfl (teq hc2).2) ?_
    show Goes p e below KK s₁ (mkF m 5 #[.val (.int p1)] [])
    refine Goes.of (fun t => XS.iconst X0.here hx rfl (hb hby d1_5)) ?_
    show Goes p e below KK s₁ (mkF m 6 #[.val (.int p1)] [(.int (1 : Int32))])
    obtain ⟨T1, h1, k1, X1, e1, E1, A1, B1, st1⟩ := newPE (aty := .byte) X0 hx hZ w_5 e0 (g := (mkF m 6 #[.val (.int p1)] [(.int (1 : Int32))])) rfl (hb hby d1_6) rfl (by decide) (cap := 1) (by decide) (by decide) (by decide) (by decide) (ad := "[B") (by decide)
    obtain ⟨b1, g1⟩ : ∃ z, z = h0.size := ⟨_, rfl⟩
    rw [← g1] at A1 B1 st1
    refine Goes.of (st1) ?_
    have g_b1 : n0 ≤ b1 := Nat.le_trans Z0 (Nat.le_of_eq g1.symm)
    have sz_b1 : h0.size ≤ b1 := Nat.le_trans (Keep.refl h0 []).1 (Nat.le_of_eq g1.symm)
    have K1 : Keep h0 h1 [] := (Keep.refl h0 []).ext E1
    have Z1 : n0 ≤ h1.size := Nat.le_trans Z0 E1.1
    have V_b1 : AI Z h1 b1 .byte (List.replicate 1 (0 : Int32)) := AI.fresh (k := 1) (by simp) (rfl) A1
    show Goes p e below KK T1 (mkF m 8 #[.val (.int p1)] [(.ref b1)])
    have hkk : k = 1 := by
      have z1 : (1 : Int32).toInt = 1 := rfl
      have z2 : (2 : Int32).toInt = 2 := rfl
      have z3 : (3 : Int32).toInt = 3 := rfl
      have z4 : (4 : Int32).toInt = 4 := rfl
      have z5 : (5 : Int32).toInt = 5 := rfl
      have qhc2 := congrArg Int32.toInt hc2
      omega
    subst hkk
    rw [← hKK]
    refine Goes.retRef X1 hx hlk rfl rfl Bd.returns (hb hby d1_8) ?_ (by decide) (by decide)
    rw [e1]
    exact ⟨b1, rfl, N0, K1, sz_b1, V_b1, B1⟩
  · refine Goes.of (fun t => XS.icmpYes X0.here hx rfl (pc0 := 2) (pc' := 9) rfl (hb hby d1_2) rfl (feq hc2).2 (by decide) (by decide)) ?_
    show Goes p e below KK s₁ (mkF m 9 #[.val (.int p1)] [])
    refine Goes.of (fun t => XS.iloadN X0.here hx rfl (hb hby d1_9) rfl) ?_
    show Goes p e below KK s₁ (mkF m 10 #[.val (.int p1)] [(.int p1)])
    refine Goes.of (fun t => XS.iconst X0.here hx rfl (hb hby d1_10)) ?_
    show Goes p e below KK s₁ (mkF m 11 #[.val (.int p1)] [(.int (2 : Int32)), (.int p1)])
    by_cases hc11 : p1 = (2 : Int32)
    · refine Goes.of (fun t => XS.icmpNo X0.here hx rfl (hb hby d1_11) rfl (teq hc11).2) ?_
      show Goes p e below KK s₁ (mkF m 14 #[.val (.int p1)] [])
      refine Goes.of (fun t => XS.iconst X0.here hx rfl (hb hby d1_14)) ?_
      show Goes p e below KK s₁ (mkF m 15 #[.val (.int p1)] [(.int (2 : Int32))])
      obtain ⟨T2, h2, k2, X2, e2, E2, A2, B2, st2⟩ := newPE (aty := .byte) X0 hx hZ w_5 e0 (g := (mkF m 15 #[.val (.int p1)] [(.int (2 : Int32))])) rfl (hb hby d1_15) rfl (by decide) (cap := 2) (by decide) (by decide) (by decide) (by decide) (ad := "[B") (by decide)
      obtain ⟨b2, g2⟩ : ∃ z, z = h0.size := ⟨_, rfl⟩
      rw [← g2] at A2 B2 st2
      refine Goes.of (st2) ?_
      have g_b2 : n0 ≤ b2 := Nat.le_trans Z0 (Nat.le_of_eq g2.symm)
      have sz_b2 : h0.size ≤ b2 := Nat.le_trans (Keep.refl h0 []).1 (Nat.le_of_eq g2.symm)
      have K2 : Keep h0 h2 [] := (Keep.refl h0 []).ext E2
      have Z2 : n0 ≤ h2.size := Nat.le_trans Z0 E2.1
      have V_b2 : AI Z h2 b2 .byte (List.replicate 2 (0 : Int32)) := AI.fresh (k := 2) (by simp) (rfl) A2
      show Goes p e below KK T2 (mkF m 17 #[.val (.int p1)] [(.ref b2)])
      have hkk : k = 2 := by
        have z1 : (1 : Int32).toInt = 1 := rfl
        have z2 : (2 : Int32).toInt = 2 := rfl
        have z3 : (3 : Int32).toInt = 3 := rfl
        have z4 : (4 : Int32).toInt = 4 := rfl
        have z5 : (5 : Int32).toInt = 5 := rfl
        have qhc2 : ¬ p1.toInt = (1 : Int32).toInt := fun q => hc2 (Int32.toInt_inj.mp q)
        have qhc11 := congrArg Int32.toInt hc11
        omega
      subst hkk
      rw [← hKK]
      refine Goes.retRef X2 hx hlk rfl rfl Bd.returns (hb hby d1_17) ?_ (by decide) (by decide)
      rw [e2]
      exact ⟨b2, rfl, N0, K2, sz_b2, V_b2, B2⟩
    · refine Goes.of (fun t => XS.icmpYes X0.here hx rfl (pc0 := 11) (pc' := 18) rfl (hb hby d1_11) rfl (feq hc11).2 (by decide) (by decide)) ?_
      show Goes p e below KK s₁ (mkF m 18 #[.val (.int p1)] [])
      refine Goes.of (fun t => XS.iloadN X0.here hx rfl (hb hby d1_18) rfl) ?_
      show Goes p e below KK s₁ (mkF m 19 #[.val (.int p1)] [(.int p1)])
      refine Goes.of (fun t => XS.iconst X0.here hx rfl (hb hby d1_19)) ?_
      show Goes p e below KK s₁ (mkF m 20 #[.val (.int p1)] [(.int (3 : Int32)), (.int p1)])
      by_cases hc20 : p1 = (3 : Int32)
      · refine Goes.of (fun t => XS.icmpNo X0.here hx rfl (hb hby d1_20) rfl (teq hc20).2) ?_
        show Goes p e below KK s₁ (mkF m 23 #[.val (.int p1)] [])
        refine Goes.of (fun t => XS.iconst X0.here hx rfl (hb hby d1_23)) ?_
        show Goes p e below KK s₁ (mkF m 24 #[.val (.int p1)] [(.int (3 : Int32))])
        obtain ⟨T3, h3, k3, X3, e3, E3, A3, B3, st3⟩ := newPE (aty := .byte) X0 hx hZ w_5 e0 (g := (mkF m 24 #[.val (.int p1)] [(.int (3 : Int32))])) rfl (hb hby d1_24) rfl (by decide) (cap := 3) (by decide) (by decide) (by decide) (by decide) (ad := "[B") (by decide)
        obtain ⟨b3, g3⟩ : ∃ z, z = h0.size := ⟨_, rfl⟩
        rw [← g3] at A3 B3 st3
        refine Goes.of (st3) ?_
        have g_b3 : n0 ≤ b3 := Nat.le_trans Z0 (Nat.le_of_eq g3.symm)
        have sz_b3 : h0.size ≤ b3 := Nat.le_trans (Keep.refl h0 []).1 (Nat.le_of_eq g3.symm)
        have K3 : Keep h0 h3 [] := (Keep.refl h0 []).ext E3
        have Z3 : n0 ≤ h3.size := Nat.le_trans Z0 E3.1
        have V_b3 : AI Z h3 b3 .byte (List.replicate 3 (0 : Int32)) := AI.fresh (k := 3) (by simp) (rfl) A3
        show Goes p e below KK T3 (mkF m 26 #[.val (.int p1)] [(.ref b3)])
        have hkk : k = 3 := by
          have z1 : (1 : Int32).toInt = 1 := rfl
          have z2 : (2 : Int32).toInt = 2 := rfl
          have z3 : (3 : Int32).toInt = 3 := rfl
          have z4 : (4 : Int32).toInt = 4 := rfl
          have z5 : (5 : Int32).toInt = 5 := rfl
          have qhc2 : ¬ p1.toInt = (1 : Int32).toInt := fun q => hc2 (Int32.toInt_inj.mp q)
          have qhc11 : ¬ p1.toInt = (2 : Int32).toInt := fun q => hc11 (Int32.toInt_inj.mp q)
          have qhc20 := congrArg Int32.toInt hc20
          omega
        subst hkk
        rw [← hKK]
        refine Goes.retRef X3 hx hlk rfl rfl Bd.returns (hb hby d1_26) ?_ (by decide) (by decide)
        rw [e3]
        exact ⟨b3, rfl, N0, K3, sz_b3, V_b3, B3⟩
      · refine Goes.of (fun t => XS.icmpYes X0.here hx rfl (pc0 := 20) (pc' := 27) rfl (hb hby d1_20) rfl (feq hc20).2 (by decide) (by decide)) ?_
        show Goes p e below KK s₁ (mkF m 27 #[.val (.int p1)] [])
        refine Goes.of (fun t => XS.iloadN X0.here hx rfl (hb hby d1_27) rfl) ?_
        show Goes p e below KK s₁ (mkF m 28 #[.val (.int p1)] [(.int p1)])
        refine Goes.of (fun t => XS.iconst X0.here hx rfl (hb hby d1_28)) ?_
        show Goes p e below KK s₁ (mkF m 29 #[.val (.int p1)] [(.int (4 : Int32)), (.int p1)])
        by_cases hc29 : p1 = (4 : Int32)
        · refine Goes.of (fun t => XS.icmpNo X0.here hx rfl (hb hby d1_29) rfl (teq hc29).2) ?_
          show Goes p e below KK s₁ (mkF m 32 #[.val (.int p1)] [])
          refine Goes.of (fun t => XS.iconst X0.here hx rfl (hb hby d1_32)) ?_
          show Goes p e below KK s₁ (mkF m 33 #[.val (.int p1)] [(.int (4 : Int32))])
          obtain ⟨T4, h4, k4, X4, e4, E4, A4, B4, st4⟩ := newPE (aty := .byte) X0 hx hZ w_5 e0 (g := (mkF m 33 #[.val (.int p1)] [(.int (4 : Int32))])) rfl (hb hby d1_33) rfl (by decide) (cap := 4) (by decide) (by decide) (by decide) (by decide) (ad := "[B") (by decide)
          obtain ⟨b4, g4⟩ : ∃ z, z = h0.size := ⟨_, rfl⟩
          rw [← g4] at A4 B4 st4
          refine Goes.of (st4) ?_
          have g_b4 : n0 ≤ b4 := Nat.le_trans Z0 (Nat.le_of_eq g4.symm)
          have sz_b4 : h0.size ≤ b4 := Nat.le_trans (Keep.refl h0 []).1 (Nat.le_of_eq g4.symm)
          have K4 : Keep h0 h4 [] := (Keep.refl h0 []).ext E4
          have Z4 : n0 ≤ h4.size := Nat.le_trans Z0 E4.1
          have V_b4 : AI Z h4 b4 .byte (List.replicate 4 (0 : Int32)) := AI.fresh (k := 4) (by simp) (rfl) A4
          show Goes p e below KK T4 (mkF m 35 #[.val (.int p1)] [(.ref b4)])
          have hkk : k = 4 := by
            have z1 : (1 : Int32).toInt = 1 := rfl
            have z2 : (2 : Int32).toInt = 2 := rfl
            have z3 : (3 : Int32).toInt = 3 := rfl
            have z4 : (4 : Int32).toInt = 4 := rfl
            have z5 : (5 : Int32).toInt = 5 := rfl
            have qhc2 : ¬ p1.toInt = (1 : Int32).toInt := fun q => hc2 (Int32.toInt_inj.mp q)
            have qhc11 : ¬ p1.toInt = (2 : Int32).toInt := fun q => hc11 (Int32.toInt_inj.mp q)
            have qhc20 : ¬ p1.toInt = (3 : Int32).toInt := fun q => hc20 (Int32.toInt_inj.mp q)
            have qhc29 := congrArg Int32.toInt hc29
            omega
          subst hkk
          rw [← hKK]
          refine Goes.retRef X4 hx hlk rfl rfl Bd.returns (hb hby d1_35) ?_ (by decide) (by decide)
          rw [e4]
          exact ⟨b4, rfl, N0, K4, sz_b4, V_b4, B4⟩
        · refine Goes.of (fun t => XS.icmpYes X0.here hx rfl (pc0 := 29) (pc' := 36) rfl (hb hby d1_29) rfl (feq hc29).2 (by decide) (by decide)) ?_
          show Goes p e below KK s₁ (mkF m 36 #[.val (.int p1)] [])
          refine Goes.of (fun t => XS.iconst X0.here hx rfl (hb hby d1_36)) ?_
          show Goes p e below KK s₁ (mkF m 37 #[.val (.int p1)] [(.int (5 : Int32))])
          obtain ⟨T5, h5, k5, X5, e5, E5, A5, B5, st5⟩ := newPE (aty := .byte) X0 hx hZ w_5 e0 (g := (mkF m 37 #[.val (.int p1)] [(.int (5 : Int32))])) rfl (hb hby d1_37) rfl (by decide) (cap := 5) (by decide) (by decide) (by decide) (by decide) (ad := "[B") (by decide)
          obtain ⟨b5, g5⟩ : ∃ z, z = h0.size := ⟨_, rfl⟩
          rw [← g5] at A5 B5 st5
          refine Goes.of (st5) ?_
          have g_b5 : n0 ≤ b5 := Nat.le_trans Z0 (Nat.le_of_eq g5.symm)
          have sz_b5 : h0.size ≤ b5 := Nat.le_trans (Keep.refl h0 []).1 (Nat.le_of_eq g5.symm)
          have K5 : Keep h0 h5 [] := (Keep.refl h0 []).ext E5
          have Z5 : n0 ≤ h5.size := Nat.le_trans Z0 E5.1
          have V_b5 : AI Z h5 b5 .byte (List.replicate 5 (0 : Int32)) := AI.fresh (k := 5) (by simp) (rfl) A5
          show Goes p e below KK T5 (mkF m 39 #[.val (.int p1)] [(.ref b5)])
          have hkk : k = 5 := by
            have z1 : (1 : Int32).toInt = 1 := rfl
            have z2 : (2 : Int32).toInt = 2 := rfl
            have z3 : (3 : Int32).toInt = 3 := rfl
            have z4 : (4 : Int32).toInt = 4 := rfl
            have z5 : (5 : Int32).toInt = 5 := rfl
            have qhc2 : ¬ p1.toInt = (1 : Int32).toInt := fun q => hc2 (Int32.toInt_inj.mp q)
            have qhc11 : ¬ p1.toInt = (2 : Int32).toInt := fun q => hc11 (Int32.toInt_inj.mp q)
            have qhc20 : ¬ p1.toInt = (3 : Int32).toInt := fun q => hc20 (Int32.toInt_inj.mp q)
            have qhc29 : ¬ p1.toInt = (4 : Int32).toInt := fun q => hc29 (Int32.toInt_inj.mp q)
            omega
          subst hkk
          rw [← hKK]
          refine Goes.retRef X5 hx hlk rfl rfl Bd.returns (hb hby d1_39) ?_ (by decide) (by decide)
          rw [e5]
          exact ⟨b5, rfl, N0, K5, sz_b5, V_b5, B5⟩
theorem d3_0 : decode method_5_code 0 = .ok (.iload_n 1, 1) := by decide +kernel
theorem d3_1 : decode method_5_code 1 = .ok (.aload_n 0, 1) := by decide +kernel
theorem d3_2 : decode method_5_code 2 = .ok (.arraylength, 1) := by decide +kernel
theorem d3_3 : decode method_5_code 3 = .ok (.if_icmp .ge 22, 3) := by decide +kernel
theorem d3_6 : decode method_5_code 6 = .ok (.iload_n 1, 1) := by decide +kernel
theorem d3_7 : decode method_5_code 7 = .ok (.aload_n 0, 1) := by decide +kernel
theorem d3_8 : decode method_5_code 8 = .ok (.arraylength, 1) := by decide +kernel
theorem d3_9 : decode method_5_code 9 = .ok (.iload_n 3, 1) := by decide +kernel
theorem d3_10 : decode method_5_code 10 = .ok (.isub, 1) := by decide +kernel
theorem d3_11 : decode method_5_code 11 = .ok (.if_icmp .lt 10, 3) := by decide +kernel
theorem d3_14 : decode method_5_code 14 = .ok (.aload_n 0, 1) := by decide +kernel
theorem d3_15 : decode method_5_code 15 = .ok (.iload_n 1, 1) := by decide +kernel
theorem d3_16 : decode method_5_code 16 = .ok (.iconst (-1), 1) := by decide +kernel
theorem d3_17 : decode method_5_code 17 = .ok (.bastore, 1) := by decide +kernel
theorem d3_18 : decode method_5_code 18 = .ok (.goto 7, 3) := by decide +kernel
theorem d3_21 : decode method_5_code 21 = .ok (.aload_n 0, 1) := by decide +kernel
theorem d3_22 : decode method_5_code 22 = .ok (.iload_n 1, 1) := by decide +kernel
theorem d3_23 : decode method_5_code 23 = .ok (.iload_n 2, 1) := by decide +kernel
theorem d3_24 : decode method_5_code 24 = .ok (.bastore, 1) := by decide +kernel
theorem d3_25 : decode method_5_code 25 = .ok (.return_, 1) := by decide +kernel
theorem pn_3 : plainFor (⟨"com/example/iocd/iocd/store/RecordKeysAfterPinLaw", "put", "([BIBI)V"⟩ : MethodName) = true := plainFor_of_name (by first | (simp [plainName, overriddenIn]; done) | decide +kernel)
theorem ef_3 (m : MethodId) (x0 : Addr) (x1 : Int32) (x2 : Int32) (x3 : Int32) : entryFrame m #[(.ref x0), (.int x1), (.int x2), (.int x3)] 4 = mkF m 0 #[.val (.ref x0), .val (.int x1), .val (.int x2), .val (.int x3)] [] := by first | (simp [entryFrame, mkF, argsToLocals, Value.category]; done) | rfl
def Q3 (Z : State) (a1 : Addr) (p2 : Int32) (p3 : Int32) (p4 : Int32) (xs : List Int32) (i : Nat) (n : Int32) (h0 : Heap) (n0 : Nat) (v : Option Value) (h : Heap) (L : List Loc) : Prop := v = none ∧ Fr n0 L ∧ Keep h0 h [a1] ∧ AI Z h a1 .byte (putL xs i p3 p4)
set_option maxRecDepth 65536 in
set_option maxHeartbeats 40000000 in
theorem rm3 (l : Launch) (Z : State) (a0 : Array Value) (hw : ∀ d ∈ tables_1, d.before a0 Z = true) (ws : List Jvm.Cond) (a1 : Addr) (p2 : Int32) (p3 : Int32) (p4 : Int32) (xs : List Int32) (i : Nat) (n : Int32) (h0 : Heap) (n0 : Nat) (Z0 : n0 ≤ h0.size) (V_a1 : AI Z h0 a1 .byte xs) (g_a1 : n0 ≤ a1) (hn : n.toInt = (xs.length : Int)) (hn5 : xs.length ≤ 5) (hi : p2.toInt = (i : Int)) (hk0 : 0 ≤ p4.toInt) (hk1 : p4.toInt ≤ 5) :
    MetFree l (⟨"com/example/iocd/iocd/store/RecordKeysAfterPinLaw", "put", "([BIBI)V"⟩ : MethodName) (head1 (Jvm.Cond.code (⟨"com/example/iocd/iocd/store/RecordKeysAfterPinLaw", "put", "([BIBI)V"⟩ : MethodName) method_5_code 4 none :: ws) ({ frames := 0, cells := 0, slots := 0, locals := 0 } : Room)) (fun a U => a = #[(.ref a1), (.int p2), (.int p3), (.int p4)] ∧ Z.Warmed39 U.vm ∧ U.heap = h0) (fun _ _ _ _ _ => True) (fun _ U o U' => ∃ v L, o = .returned v ∧ Q3 Z a1 p2 p3 p4 xs i n h0 n0 v U'.heap L ∧ FrameEnd U o U' L ({ frames := 0, cells := 0, slots := 0, locals := 0 } : Room).cells ({ frames := 0, cells := 0, slots := 0, locals := 0 } : Room).slots) := by
  refine MetFree.of_bodySF pn_3 hisR ?_
  intro p e s m args below meth c s₁ Bd hml0 hP hK
  obtain ⟨rfl, hZ, hh⟩ := hP
  have hx := Bd.exec
  have hby := Bd.bytes
  have hml : c.maxLocals = 4 := hml0
  have hown : s.vm.findClass "com/example/iocd/iocd/store/RecordKeysAfterPinLaw" = some m.cls := findClass_of_methodNamed Bd.named
  have hnm := (name_of_methodNamed Bd.named Bd.method).1
  have hlk : meth.locks = false := BodyLoose.notSynchronized Bd
  have X0 : Stand p l e ({ frames := 0, cells := 0, slots := 0, locals := 0 } : Room) s m #[(.ref a1), (.int p2), (.int p3), (.int p4)] below meth c s₁ [] 0 0 := Stand.of_body Bd
  have e0 : s₁.heap = h0 := by rw [← hh, Bd.state]; rfl
  have N0 := Fr.nil n0
  show Goes p e below (OwnK s (Q3 Z a1 p2 p3 p4 xs i n h0 n0) ({ frames := 0, cells := 0, slots := 0, locals := 0 } : Room).cells ({ frames := 0, cells := 0, slots := 0, locals := 0 } : Room).slots) s₁ (entryFrame m #[(.ref a1), (.int p2), (.int p3), (.int p4)] 4)
  refine Goes.cast (ef_3 m a1 p2 p3 p4) ?_
  generalize hKK : OwnK s (Q3 Z a1 p2 p3 p4 xs i n h0 n0) ({ frames := 0, cells := 0, slots := 0, locals := 0 } : Room).cells ({ frames := 0, cells := 0, slots := 0, locals := 0 } : Room).slots = KK
  show Goes p e below KK s₁ (mkF m 0 #[.val (.ref a1), .val (.int p2), .val (.int p3), .val (.int p4)] [])
  refine Goes.of (fun t => XS.iloadN X0.here hx rfl (hb hby d3_0) rfl) ?_
  show Goes p e below KK s₁ (mkF m 1 #[.val (.ref a1), .val (.int p2), .val (.int p3), .val (.int p4)] [(.int p2)])
  refine Goes.of (fun t => XS.aloadN X0.here hx rfl (hb hby d3_1) rfl rfl) ?_
  show Goes p e below KK s₁ (mkF m 2 #[.val (.ref a1), .val (.int p2), .val (.int p3), .val (.int p4)] [(.ref a1), (.int p2)])
  refine Goes.of (AI.arraylength X0 hx hZ e0 V_a1 (j := n) (hn) (g := (mkF m 2 #[.val (.ref a1), .val (.int p2), .val (.int p3), .val (.int p4)] [(.ref a1), (.int p2)])) rfl rfl (hb hby d3_2)) ?_
  show Goes p e below KK s₁ (mkF m 3 #[.val (.ref a1), .val (.int p2), .val (.int p3), .val (.int p4)] [(.int n), (.int p2)])
  by_cases hc3 : p2 < n
  · refine Goes.of (fun t => XS.icmpNo X0.here hx rfl (hb hby d3_3) rfl (tlt hc3).2.1) ?_
    show Goes p e below KK s₁ (mkF m 6 #[.val (.ref a1), .val (.int p2), .val (.int p3), .val (.int p4)] [])
    refine Goes.of (fun t => XS.iloadN X0.here hx rfl (hb hby d3_6) rfl) ?_
    show Goes p e below KK s₁ (mkF m 7 #[.val (.ref a1), .val (.int p2), .val (.int p3), .val (.int p4)] [(.int p2)])
    refine Goes.of (fun t => XS.aloadN X0.here hx rfl (hb hby d3_7) rfl rfl) ?_
    show Goes p e below KK s₁ (mkF m 8 #[.val (.ref a1), .val (.int p2), .val (.int p3), .val (.int p4)] [(.ref a1), (.int p2)])
    refine Goes.of (AI.arraylength X0 hx hZ e0 V_a1 (j := n) (hn) (g := (mkF m 8 #[.val (.ref a1), .val (.int p2), .val (.int p3), .val (.int p4)] [(.ref a1), (.int p2)])) rfl rfl (hb hby d3_8)) ?_
    show Goes p e below KK s₁ (mkF m 9 #[.val (.ref a1), .val (.int p2), .val (.int p3), .val (.int p4)] [(.int n), (.int p2)])
    refine Goes.of (fun t => XS.iloadN X0.here hx rfl (hb hby d3_9) rfl) ?_
    show Goes p e below KK s₁ (mkF m 10 #[.val (.ref a1), .val (.int p2), .val (.int p3), .val (.int p4)] [(.int p4), (.int n), (.int p2)])
    refine Goes.of (fun t => XS.isub X0.here hx rfl (hb hby d3_10) rfl) ?_
    show Goes p e below KK s₁ (mkF m 11 #[.val (.ref a1), .val (.int p2), .val (.int p3), .val (.int p4)] [(.int (n - p4)), (.int p2)])
    by_cases hc11 : p2 < (n - p4)
    · refine Goes.of (fun t => XS.icmpYes X0.here hx rfl (pc0 := 11) (pc' := 21) rfl (hb hby d3_11) rfl (tlt hc11).1 (by decide) (by decide)) ?_
      show Goes p e below KK s₁ (mkF m 21 #[.val (.ref a1), .val (.int p2), .val (.int p3), .val (.int p4)] [])
      refine Goes.of (fun t => XS.aloadN X0.here hx rfl (hb hby d3_21) rfl rfl) ?_
      show Goes p e below KK s₁ (mkF m 22 #[.val (.ref a1), .val (.int p2), .val (.int p3), .val (.int p4)] [(.ref a1)])
      refine Goes.of (fun t => XS.iloadN X0.here hx rfl (hb hby d3_22) rfl) ?_
      show Goes p e below KK s₁ (mkF m 23 #[.val (.ref a1), .val (.int p2), .val (.int p3), .val (.int p4)] [(.int p2), (.ref a1)])
      refine Goes.of (fun t => XS.iloadN X0.here hx rfl (hb hby d3_23) rfl) ?_
      show Goes p e below KK s₁ (mkF m 24 #[.val (.ref a1), .val (.int p2), .val (.int p3), .val (.int p4)] [(.int p3), (.int p2), (.ref a1)])
      have hi2 : i < xs.length := by rw [Int32.lt_iff_toInt_lt, hi, hn] at hc3; omega
      have hs : (n - p4).toInt = n.toInt - p4.toInt := Jvm.Kit.i32_sub (by omega) (by omega)
      have hi4 : ((i : Int) < (xs.length : Int) - p4.toInt) := by rw [Int32.lt_iff_toInt_lt, hi, hs, hn] at hc11; exact hc11
      obtain ⟨T6, h6, X6, e6, W6, V6, st6⟩ := AI.bastore X0 hx hZ e0 V_a1 (i := i) (j := p2) (hi) (hi2) (g := (mkF m 24 #[.val (.ref a1), .val (.int p2), .val (.int p3), .val (.int p4)] [(.int p3), (.int p2), (.ref a1)])) rfl rfl (hb hby d3_24)
      refine Goes.of (st6) ?_
      have K6 : Keep h0 h6 [a1] := (Keep.refl h0 [a1]).wr W6 (Or.inl (List.mem_of_getElem? (i := 0) rfl))
      have Z6 : n0 ≤ h6.size := Nat.le_trans Z0 (Keep.of_wr W6).1
      have N6 := Fr.snoc X6 N0 g_a1
      have V_a1_6 : AI Z h6 a1 .byte (xs.set i (nar .byte p3)) := V6
      show Goes p e below KK T6 (mkF m 25 #[.val (.ref a1), .val (.int p2), .val (.int p3), .val (.int p4)] [])
      rw [← hKK]
      refine Goes.retVoid X6 hx hlk Bd.returns (hb hby d3_25) ?_ (by decide) (by decide)
      rw [e6]
      exact ⟨rfl, N6, K6, by unfold putL; rw [if_pos hi2, if_pos hi4]; exact V_a1_6⟩
    · refine Goes.of (fun t => XS.icmpNo X0.here hx rfl (hb hby d3_11) rfl (flt hc11).1) ?_
      show Goes p e below KK s₁ (mkF m 14 #[.val (.ref a1), .val (.int p2), .val (.int p3), .val (.int p4)] [])
      refine Goes.of (fun t => XS.aloadN X0.here hx rfl (hb hby d3_14) rfl rfl) ?_
      show Goes p e below KK s₁ (mkF m 15 #[.val (.ref a1), .val (.int p2), .val (.int p3), .val (.int p4)] [(.ref a1)])
      refine Goes.of (fun t => XS.iloadN X0.here hx rfl (hb hby d3_15) rfl) ?_
      show Goes p e below KK s₁ (mkF m 16 #[.val (.ref a1), .val (.int p2), .val (.int p3), .val (.int p4)] [(.int p2), (.ref a1)])
      refine Goes.of (fun t => XS.iconst X0.here hx rfl (hb hby d3_16)) ?_
      show Goes p e below KK s₁ (mkF m 17 #[.val (.ref a1), .val (.int p2), .val (.int p3), .val (.int p4)] [(.int (-1 : Int32)), (.int p2), (.ref a1)])
      have hi2 : i < xs.length := by rw [Int32.lt_iff_toInt_lt, hi, hn] at hc3; omega
      have hs : (n - p4).toInt = n.toInt - p4.toInt := Jvm.Kit.i32_sub (by omega) (by omega)
      have hi4 : ¬ ((i : Int) < (xs.length : Int) - p4.toInt) := by rw [Int32.lt_iff_toInt_lt, hi, hs, hn] at hc11; exact hc11
      obtain ⟨T7, h7, X7, e7, W7, V7, st7⟩ := AI.bastore X0 hx hZ e0 V_a1 (i := i) (j := p2) (hi) (hi2) (g := (mkF m 17 #[.val (.ref a1), .val (.int p2), .val (.int p3), .val (.int p4)] [(.int (-1 : Int32)), (.int p2), (.ref a1)])) rfl rfl (hb hby d3_17)
      refine Goes.of (st7) ?_
      have K7 : Keep h0 h7 [a1] := (Keep.refl h0 [a1]).wr W7 (Or.inl (List.mem_of_getElem? (i := 0) rfl))
      have Z7 : n0 ≤ h7.size := Nat.le_trans Z0 (Keep.of_wr W7).1
      have N7 := Fr.snoc X7 N0 g_a1
      have V_a1_7 : AI Z h7 a1 .byte (xs.set i (nar .byte (-1 : Int32))) := V7
      show Goes p e below KK T7 (mkF m 18 #[.val (.ref a1), .val (.int p2), .val (.int p3), .val (.int p4)] [])
      refine Goes.of (fun t => XS.goto X7.here hx rfl (pc0 := 18) (pc' := 25) rfl (hb hby d3_18) (by decide) (by decide)) ?_
      show Goes p e below KK T7 (mkF m 25 #[.val (.ref a1), .val (.int p2), .val (.int p3), .val (.int p4)] [])
      rw [← hKK]
      refine Goes.retVoid X7 hx hlk Bd.returns (hb hby d3_25) ?_ (by decide) (by decide)
      rw [e7]
      exact ⟨rfl, N7, K7, by unfold putL; rw [if_pos hi2, if_neg hi4]; exact V_a1_7⟩
  · refine Goes.of (fun t => XS.icmpYes X0.here hx rfl (pc0 := 3) (pc' := 25) rfl (hb hby d3_3) rfl (flt hc3).2.1 (by decide) (by decide)) ?_
    show Goes p e below KK s₁ (mkF m 25 #[.val (.ref a1), .val (.int p2), .val (.int p3), .val (.int p4)] [])
    have hi3 : ¬ i < xs.length := by rw [Int32.lt_iff_toInt_lt, hi, hn] at hc3; omega
    rw [← hKK]
    refine Goes.retVoid X0 hx hlk Bd.returns (hb hby d3_25) ?_ (by decide) (by decide)
    rw [e0]
    exact ⟨rfl, N0, (Keep.refl h0 [a1]), by unfold putL; rw [if_neg hi3]; exact V_a1⟩
theorem d2_0 : decode method_4_code 0 = .ok (.aload_n 0, 1) := by decide +kernel
theorem d2_1 : decode method_4_code 1 = .ok (.iconst 0, 1) := by decide +kernel
theorem d2_2 : decode method_4_code 2 = .ok (.iload_n 1, 1) := by decide +kernel
theorem d2_3 : decode method_4_code 3 = .ok (.bipush 24, 2) := by decide +kernel
theorem d2_5 : decode method_4_code 5 = .ok (.iushr, 1) := by decide +kernel
theorem d2_6 : decode method_4_code 6 = .ok (.i2b, 1) := by decide +kernel
theorem d2_7 : decode method_4_code 7 = .ok (.iload_n 3, 1) := by decide +kernel
theorem d2_8 : decode method_4_code 8 = .ok (.invokestatic 36, 3) := by decide +kernel
theorem d2_11 : decode method_4_code 11 = .ok (.aload_n 0, 1) := by decide +kernel
theorem d2_12 : decode method_4_code 12 = .ok (.iconst 1, 1) := by decide +kernel
theorem d2_13 : decode method_4_code 13 = .ok (.iload_n 1, 1) := by decide +kernel
theorem d2_14 : decode method_4_code 14 = .ok (.bipush 16, 2) := by decide +kernel
theorem d2_16 : decode method_4_code 16 = .ok (.iushr, 1) := by decide +kernel
theorem d2_17 : decode method_4_code 17 = .ok (.i2b, 1) := by decide +kernel
theorem d2_18 : decode method_4_code 18 = .ok (.iload_n 3, 1) := by decide +kernel
theorem d2_19 : decode method_4_code 19 = .ok (.invokestatic 36, 3) := by decide +kernel
theorem d2_22 : decode method_4_code 22 = .ok (.aload_n 0, 1) := by decide +kernel
theorem d2_23 : decode method_4_code 23 = .ok (.iconst 2, 1) := by decide +kernel
theorem d2_24 : decode method_4_code 24 = .ok (.iload_n 1, 1) := by decide +kernel
theorem d2_25 : decode method_4_code 25 = .ok (.bipush 8, 2) := by decide +kernel
theorem d2_27 : decode method_4_code 27 = .ok (.iushr, 1) := by decide +kernel
theorem d2_28 : decode method_4_code 28 = .ok (.i2b, 1) := by decide +kernel
theorem d2_29 : decode method_4_code 29 = .ok (.iload_n 3, 1) := by decide +kernel
theorem d2_30 : decode method_4_code 30 = .ok (.invokestatic 36, 3) := by decide +kernel
theorem d2_33 : decode method_4_code 33 = .ok (.aload_n 0, 1) := by decide +kernel
theorem d2_34 : decode method_4_code 34 = .ok (.iconst 3, 1) := by decide +kernel
theorem d2_35 : decode method_4_code 35 = .ok (.iload_n 1, 1) := by decide +kernel
theorem d2_36 : decode method_4_code 36 = .ok (.i2b, 1) := by decide +kernel
theorem d2_37 : decode method_4_code 37 = .ok (.iload_n 3, 1) := by decide +kernel
theorem d2_38 : decode method_4_code 38 = .ok (.invokestatic 36, 3) := by decide +kernel
theorem d2_41 : decode method_4_code 41 = .ok (.aload_n 0, 1) := by decide +kernel
theorem d2_42 : decode method_4_code 42 = .ok (.iconst 4, 1) := by decide +kernel
theorem d2_43 : decode method_4_code 43 = .ok (.iload_n 2, 1) := by decide +kernel
theorem d2_44 : decode method_4_code 44 = .ok (.i2b, 1) := by decide +kernel
theorem d2_45 : decode method_4_code 45 = .ok (.iload_n 3, 1) := by decide +kernel
theorem d2_46 : decode method_4_code 46 = .ok (.invokestatic 36, 3) := by decide +kernel
theorem d2_49 : decode method_4_code 49 = .ok (.return_, 1) := by decide +kernel
theorem pn_2 : plainFor (⟨"com/example/iocd/iocd/store/RecordKeysAfterPinLaw", "fill", "([BIII)V"⟩ : MethodName) = true := plainFor_of_name (by first | (simp [plainName, overriddenIn]; done) | decide +kernel)
theorem pd_2 : parseMethodDescriptor "([BIBI)V" = some ⟨[(.array .byte), .int, .byte, .int], none⟩ := by decide +kernel
theorem ef_2 (m : MethodId) (x0 : Addr) (x1 : Int32) (x2 : Int32) (x3 : Int32) : entryFrame m #[(.ref x0), (.int x1), (.int x2), (.int x3)] 4 = mkF m 0 #[.val (.ref x0), .val (.int x1), .val (.int x2), .val (.int x3)] [] := by first | (simp [entryFrame, mkF, argsToLocals, Value.category]; done) | rfl
def Q2 (Z : State) (a1 : Addr) (p2 : Int32) (p3 : Int32) (p4 : Int32) (xs : List Int32) (n : Int32) (h0 : Heap) (n0 : Nat) (v : Option Value) (h : Heap) (L : List Loc) : Prop := v = none ∧ Fr n0 L ∧ Keep h0 h [a1] ∧ AI Z h a1 .byte (fillL xs p2 p3 p4)
set_option maxRecDepth 65536 in
set_option maxHeartbeats 40000000 in
theorem rm2 (l : Launch) (Z : State) (a0 : Array Value) (hw : ∀ d ∈ tables_1, d.before a0 Z = true) (ws : List Jvm.Cond) (a1 : Addr) (p2 : Int32) (p3 : Int32) (p4 : Int32) (xs : List Int32) (n : Int32) (h0 : Heap) (n0 : Nat) (Z0 : n0 ≤ h0.size) (V_a1 : AI Z h0 a1 .byte xs) (g_a1 : n0 ≤ a1) (hn : n.toInt = (xs.length : Int)) (hn5 : xs.length ≤ 5) (hk0 : 0 ≤ p4.toInt) (hk1 : p4.toInt ≤ 5) :
    MetFree l (⟨"com/example/iocd/iocd/store/RecordKeysAfterPinLaw", "fill", "([BIII)V"⟩ : MethodName) (head1 (Jvm.Cond.code (⟨"com/example/iocd/iocd/store/RecordKeysAfterPinLaw", "fill", "([BIII)V"⟩ : MethodName) method_4_code 4 none :: ws) ({ frames := 1, cells := 0, slots := 0, locals := 15 } : Room)) (fun a U => a = #[(.ref a1), (.int p2), (.int p3), (.int p4)] ∧ Z.Warmed39 U.vm ∧ U.heap = h0) (fun _ _ _ _ _ => True) (fun _ U o U' => ∃ v L, o = .returned v ∧ Q2 Z a1 p2 p3 p4 xs n h0 n0 v U'.heap L ∧ FrameEnd U o U' L ({ frames := 1, cells := 0, slots := 0, locals := 15 } : Room).cells ({ frames := 1, cells := 0, slots := 0, locals := 15 } : Room).slots) := by
  refine MetFree.of_bodySF pn_2 hisR ?_
  intro p e s m args below meth c s₁ Bd hml0 hP hK
  obtain ⟨rfl, hZ, hh⟩ := hP
  have hx := Bd.exec
  have hby := Bd.bytes
  have hml : c.maxLocals = 4 := hml0
  have hown : s.vm.findClass "com/example/iocd/iocd/store/RecordKeysAfterPinLaw" = some m.cls := findClass_of_methodNamed Bd.named
  have hnm := (name_of_methodNamed Bd.named Bd.method).1
  have hlk : meth.locks = false := BodyLoose.notSynchronized Bd
  have X0 : Stand p l e ({ frames := 1, cells := 0, slots := 0, locals := 15 } : Room) s m #[(.ref a1), (.int p2), (.int p3), (.int p4)] below meth c s₁ [] 0 0 := Stand.of_body Bd
  have e0 : s₁.heap = h0 := by rw [← hh, Bd.state]; rfl
  have N0 := Fr.nil n0
  show Goes p e below (OwnK s (Q2 Z a1 p2 p3 p4 xs n h0 n0) ({ frames := 1, cells := 0, slots := 0, locals := 15 } : Room).cells ({ frames := 1, cells := 0, slots := 0, locals := 15 } : Room).slots) s₁ (entryFrame m #[(.ref a1), (.int p2), (.int p3), (.int p4)] 4)
  refine Goes.cast (ef_2 m a1 p2 p3 p4) ?_
  generalize hKK : OwnK s (Q2 Z a1 p2 p3 p4 xs n h0 n0) ({ frames := 1, cells := 0, slots := 0, locals := 15 } : Room).cells ({ frames := 1, cells := 0, slots := 0, locals := 15 } : Room).slots = KK
  show Goes p e below KK s₁ (mkF m 0 #[.val (.ref a1), .val (.int p2), .val (.int p3), .val (.int p4)] [])
  have w_3 := hw _ (List.mem_of_getElem? (i := 3) rfl)
  have w_9 := hw _ (List.mem_of_getElem? (i := 9) rfl)
  have w_10 := hw _ (List.mem_of_getElem? (i := 10) rfl)
  have w_11 := hw _ (List.mem_of_getElem? (i := 11) rfl)
  refine Goes.of (fun t => XS.aloadN X0.here hx rfl (hb hby d2_0) rfl rfl) ?_
  show Goes p e below KK s₁ (mkF m 1 #[.val (.ref a1), .val (.int p2), .val (.int p3), .val (.int p4)] [(.ref a1)])
  refine Goes.of (fun t => XS.iconst X0.here hx rfl (hb hby d2_1)) ?_
  show Goes p e below KK s₁ (mkF m 2 #[.val (.ref a1), .val (.int p2), .val (.int p3), .val (.int p4)] [(.int (0 : Int32)), (.ref a1)])
  refine Goes.of (fun t => XS.iloadN X0.here hx rfl (hb hby d2_2) rfl) ?_
  show Goes p e below KK s₁ (mkF m 3 #[.val (.ref a1), .val (.int p2), .val (.int p3), .val (.int p4)] [(.int p2), (.int (0 : Int32)), (.ref a1)])
  refine Goes.of (fun t => XS.bipush X0.here hx rfl (hb hby d2_3)) ?_
  show Goes p e below KK s₁ (mkF m 5 #[.val (.ref a1), .val (.int p2), .val (.int p3), .val (.int p4)] [(.int (24 : Int32)), (.int p2), (.int (0 : Int32)), (.ref a1)])
  refine Goes.of (fun t => XT.iushr X0.here hx rfl (hb hby d2_5) rfl) ?_
  show Goes p e below KK s₁ (mkF m 6 #[.val (.ref a1), .val (.int p2), .val (.int p3), .val (.int p4)] [(.int (XT.ushr p2 (24 : Int32))), (.int (0 : Int32)), (.ref a1)])
  refine Goes.of (fun t => XT.i2b X0.here hx rfl (hb hby d2_6) rfl) ?_
  show Goes p e below KK s₁ (mkF m 7 #[.val (.ref a1), .val (.int p2), .val (.int p3), .val (.int p4)] [(.int ((XT.ushr p2 (24 : Int32)).toInt8.toInt32)), (.int (0 : Int32)), (.ref a1)])
  refine Goes.of (fun t => XS.iloadN X0.here hx rfl (hb hby d2_7) rfl) ?_
  show Goes p e below KK s₁ (mkF m 8 #[.val (.ref a1), .val (.int p2), .val (.int p3), .val (.int p4)] [(.int p4), (.int ((XT.ushr p2 (24 : Int32)).toInt8.toInt32)), (.int (0 : Int32)), (.ref a1)])
  obtain ⟨_, _, ⟨T8, L8, k8, n8⟩, -, X8, ⟨Lc8, hQ8, l8, y8, z8⟩, st8⟩ := Jvm.LawKit.callS X0 hx (y := (⟨"com/example/iocd/iocd/store/RecordKeysAfterPinLaw", "put", "([BIBI)V"⟩ : MethodName)) hown (mvT hZ w_9) (mvT hZ w_10) (mvT hZ w_3) (mvT hZ w_11) (by decide) (backOf (W := 0) (rm3 l Z a0 hw [] a1 (0 : Int32) ((XT.ushr p2 (24 : Int32)).toInt8.toInt32) p4 xs 0 n h0 n0 Z0 V_a1 g_a1 (by first | exact hn | (simp only [putL_len]; exact hn)) (by first | exact hn5 | (simp only [putL_len]; exact hn5)) rfl hk0 hk1) hZ w_11 w_3 (by decide) (by decide)) (g := (mkF m 8 #[.val (.ref a1), .val (.int p2), .val (.int p3), .val (.int p4)] [(.int p4), (.int ((XT.ushr p2 (24 : Int32)).toInt8.toInt32)), (.int (0 : Int32)), (.ref a1)])) rfl (by rw [hml]; rfl) (argsL := [(.ref a1), (.int (0 : Int32)), (.int ((XT.ushr p2 (24 : Int32)).toInt8.toInt32)), (.int p4)]) (rest := []) (lenOf pd_2 rfl) rfl (by show 2 * 0 + _ ≤ _; exact Nat.le_of_eq rfl) (hb hby d2_8) (fun _ _ => ⟨rfl, e0, (by decide : 0 + 0 ≤ _), (by decide : 0 + 0 ≤ _)⟩)
  dsimp only [Pt.U, Pt.locs, Pt.cells, Pt.slots] at X8 l8 y8 z8 st8 hQ8
  subst l8 y8 z8
  obtain ⟨rfl, N8q, Kc8, V8⟩ := hQ8
  have N8 := Fr.app N0 N8q
  have K8 : Keep h0 T8.heap [a1] := (Keep.refl h0 [a1]).trans Kc8 (allS (Or.inl (List.mem_of_getElem? (i := 0) rfl)) all0)
  have Z8 : n0 ≤ T8.heap.size := Nat.le_trans Z0 Kc8.1
  have e8 : T8.heap = T8.heap := rfl
  refine Goes.of st8 ?_
  show Goes p e below KK T8 (mkF m 11 #[.val (.ref a1), .val (.int p2), .val (.int p3), .val (.int p4)] [])
  refine Goes.of (fun t => XS.aloadN X8.here hx rfl (hb hby d2_11) rfl rfl) ?_
  show Goes p e below KK T8 (mkF m 12 #[.val (.ref a1), .val (.int p2), .val (.int p3), .val (.int p4)] [(.ref a1)])
  refine Goes.of (fun t => XS.iconst X8.here hx rfl (hb hby d2_12)) ?_
  show Goes p e below KK T8 (mkF m 13 #[.val (.ref a1), .val (.int p2), .val (.int p3), .val (.int p4)] [(.int (1 : Int32)), (.ref a1)])
  refine Goes.of (fun t => XS.iloadN X8.here hx rfl (hb hby d2_13) rfl) ?_
  show Goes p e below KK T8 (mkF m 14 #[.val (.ref a1), .val (.int p2), .val (.int p3), .val (.int p4)] [(.int p2), (.int (1 : Int32)), (.ref a1)])
  refine Goes.of (fun t => XS.bipush X8.here hx rfl (hb hby d2_14)) ?_
  show Goes p e below KK T8 (mkF m 16 #[.val (.ref a1), .val (.int p2), .val (.int p3), .val (.int p4)] [(.int (16 : Int32)), (.int p2), (.int (1 : Int32)), (.ref a1)])
  refine Goes.of (fun t => XT.iushr X8.here hx rfl (hb hby d2_16) rfl) ?_
  show Goes p e below KK T8 (mkF m 17 #[.val (.ref a1), .val (.int p2), .val (.int p3), .val (.int p4)] [(.int (XT.ushr p2 (16 : Int32))), (.int (1 : Int32)), (.ref a1)])
  refine Goes.of (fun t => XT.i2b X8.here hx rfl (hb hby d2_17) rfl) ?_
  show Goes p e below KK T8 (mkF m 18 #[.val (.ref a1), .val (.int p2), .val (.int p3), .val (.int p4)] [(.int ((XT.ushr p2 (16 : Int32)).toInt8.toInt32)), (.int (1 : Int32)), (.ref a1)])
  refine Goes.of (fun t => XS.iloadN X8.here hx rfl (hb hby d2_18) rfl) ?_
  show Goes p e below KK T8 (mkF m 19 #[.val (.ref a1), .val (.int p2), .val (.int p3), .val (.int p4)] [(.int p4), (.int ((XT.ushr p2 (16 : Int32)).toInt8.toInt32)), (.int (1 : Int32)), (.ref a1)])
  obtain ⟨_, _, ⟨T9, L9, k9, n9⟩, -, X9, ⟨Lc9, hQ9, l9, y9, z9⟩, st9⟩ := Jvm.LawKit.callS X8 hx (y := (⟨"com/example/iocd/iocd/store/RecordKeysAfterPinLaw", "put", "([BIBI)V"⟩ : MethodName)) hown (mvT hZ w_9) (mvT hZ w_10) (mvT hZ w_3) (mvT hZ w_11) (by decide) (backOf (W := 0) (rm3 l Z a0 hw [] a1 (1 : Int32) ((XT.ushr p2 (16 : Int32)).toInt8.toInt32) p4 (putL xs 0 ((XT.ushr p2 (24 : Int32)).toInt8.toInt32) p4) 1 n T8.heap n0 Z8 V8 g_a1 (by first | exact hn | (simp only [putL_len]; exact hn)) (by first | exact hn5 | (simp only [putL_len]; exact hn5)) rfl hk0 hk1) hZ w_11 w_3 (by decide) (by decide)) (g := (mkF m 19 #[.val (.ref a1), .val (.int p2), .val (.int p3), .val (.int p4)] [(.int p4), (.int ((XT.ushr p2 (16 : Int32)).toInt8.toInt32)), (.int (1 : Int32)), (.ref a1)])) rfl (by rw [hml]; rfl) (argsL := [(.ref a1), (.int (1 : Int32)), (.int ((XT.ushr p2 (16 : Int32)).toInt8.toInt32)), (.int p4)]) (rest := []) (lenOf pd_2 rfl) rfl (by show 2 * 0 + _ ≤ _; exact Nat.le_of_eq rfl) (hb hby d2_19) (fun _ _ => ⟨rfl, e8, (by decide : 0 + 0 ≤ _), (by decide : 0 + 0 ≤ _)⟩)
  dsimp only [Pt.U, Pt.locs, Pt.cells, Pt.slots] at X9 l9 y9 z9 st9 hQ9
  subst l9 y9 z9
  obtain ⟨rfl, N9q, Kc9, V9⟩ := hQ9
  have N9 := Fr.app N8 N9q
  have K9 : Keep h0 T9.heap [a1] := K8.trans Kc9 (allS (Or.inl (List.mem_of_getElem? (i := 0) rfl)) all0)
  have Z9 : n0 ≤ T9.heap.size := Nat.le_trans Z8 Kc9.1
  have e9 : T9.heap = T9.heap := rfl
  refine Goes.of st9 ?_
  show Goes p e below KK T9 (mkF m 22 #[.val (.ref a1), .val (.int p2), .val (.int p3), .val (.int p4)] [])
  refine Goes.of (fun t => XS.aloadN X9.here hx rfl (hb hby d2_22) rfl rfl) ?_
  show Goes p e below KK T9 (mkF m 23 #[.val (.ref a1), .val (.int p2), .val (.int p3), .val (.int p4)] [(.ref a1)])
  refine Goes.of (fun t => XS.iconst X9.here hx rfl (hb hby d2_23)) ?_
  show Goes p e below KK T9 (mkF m 24 #[.val (.ref a1), .val (.int p2), .val (.int p3), .val (.int p4)] [(.int (2 : Int32)), (.ref a1)])
  refine Goes.of (fun t => XS.iloadN X9.here hx rfl (hb hby d2_24) rfl) ?_
  show Goes p e below KK T9 (mkF m 25 #[.val (.ref a1), .val (.int p2), .val (.int p3), .val (.int p4)] [(.int p2), (.int (2 : Int32)), (.ref a1)])
  refine Goes.of (fun t => XS.bipush X9.here hx rfl (hb hby d2_25)) ?_
  show Goes p e below KK T9 (mkF m 27 #[.val (.ref a1), .val (.int p2), .val (.int p3), .val (.int p4)] [(.int (8 : Int32)), (.int p2), (.int (2 : Int32)), (.ref a1)])
  refine Goes.of (fun t => XT.iushr X9.here hx rfl (hb hby d2_27) rfl) ?_
  show Goes p e below KK T9 (mkF m 28 #[.val (.ref a1), .val (.int p2), .val (.int p3), .val (.int p4)] [(.int (XT.ushr p2 (8 : Int32))), (.int (2 : Int32)), (.ref a1)])
  refine Goes.of (fun t => XT.i2b X9.here hx rfl (hb hby d2_28) rfl) ?_
  show Goes p e below KK T9 (mkF m 29 #[.val (.ref a1), .val (.int p2), .val (.int p3), .val (.int p4)] [(.int ((XT.ushr p2 (8 : Int32)).toInt8.toInt32)), (.int (2 : Int32)), (.ref a1)])
  refine Goes.of (fun t => XS.iloadN X9.here hx rfl (hb hby d2_29) rfl) ?_
  show Goes p e below KK T9 (mkF m 30 #[.val (.ref a1), .val (.int p2), .val (.int p3), .val (.int p4)] [(.int p4), (.int ((XT.ushr p2 (8 : Int32)).toInt8.toInt32)), (.int (2 : Int32)), (.ref a1)])
  obtain ⟨_, _, ⟨T10, L10, k10, n10⟩, -, X10, ⟨Lc10, hQ10, l10, y10, z10⟩, st10⟩ := Jvm.LawKit.callS X9 hx (y := (⟨"com/example/iocd/iocd/store/RecordKeysAfterPinLaw", "put", "([BIBI)V"⟩ : MethodName)) hown (mvT hZ w_9) (mvT hZ w_10) (mvT hZ w_3) (mvT hZ w_11) (by decide) (backOf (W := 0) (rm3 l Z a0 hw [] a1 (2 : Int32) ((XT.ushr p2 (8 : Int32)).toInt8.toInt32) p4 (putL (putL xs 0 ((XT.ushr p2 (24 : Int32)).toInt8.toInt32) p4) 1 ((XT.ushr p2 (16 : Int32)).toInt8.toInt32) p4) 2 n T9.heap n0 Z9 V9 g_a1 (by first | exact hn | (simp only [putL_len]; exact hn)) (by first | exact hn5 | (simp only [putL_len]; exact hn5)) rfl hk0 hk1) hZ w_11 w_3 (by decide) (by decide)) (g := (mkF m 30 #[.val (.ref a1), .val (.int p2), .val (.int p3), .val (.int p4)] [(.int p4), (.int ((XT.ushr p2 (8 : Int32)).toInt8.toInt32)), (.int (2 : Int32)), (.ref a1)])) rfl (by rw [hml]; rfl) (argsL := [(.ref a1), (.int (2 : Int32)), (.int ((XT.ushr p2 (8 : Int32)).toInt8.toInt32)), (.int p4)]) (rest := []) (lenOf pd_2 rfl) rfl (by show 2 * 0 + _ ≤ _; exact Nat.le_of_eq rfl) (hb hby d2_30) (fun _ _ => ⟨rfl, e9, (by decide : 0 + 0 ≤ _), (by decide : 0 + 0 ≤ _)⟩)
  dsimp only [Pt.U, Pt.locs, Pt.cells, Pt.slots] at X10 l10 y10 z10 st10 hQ10
  subst l10 y10 z10
  obtain ⟨rfl, N10q, Kc10, V10⟩ := hQ10
  have N10 := Fr.app N9 N10q
  have K10 : Keep h0 T10.heap [a1] := K9.trans Kc10 (allS (Or.inl (List.mem_of_getElem? (i := 0) rfl)) all0)
  have Z10 : n0 ≤ T10.heap.size := Nat.le_trans Z9 Kc10.1
  have e10 : T10.heap = T10.heap := rfl
  refine Goes.of st10 ?_
  show Goes p e below KK T10 (mkF m 33 #[.val (.ref a1), .val (.int p2), .val (.int p3), .val (.int p4)] [])
  refine Goes.of (fun t => XS.aloadN X10.here hx rfl (hb hby d2_33) rfl rfl) ?_
  show Goes p e below KK T10 (mkF m 34 #[.val (.ref a1), .val (.int p2), .val (.int p3), .val (.int p4)] [(.ref a1)])
  refine Goes.of (fun t => XS.iconst X10.here hx rfl (hb hby d2_34)) ?_
  show Goes p e below KK T10 (mkF m 35 #[.val (.ref a1), .val (.int p2), .val (.int p3), .val (.int p4)] [(.int (3 : Int32)), (.ref a1)])
  refine Goes.of (fun t => XS.iloadN X10.here hx rfl (hb hby d2_35) rfl) ?_
  show Goes p e below KK T10 (mkF m 36 #[.val (.ref a1), .val (.int p2), .val (.int p3), .val (.int p4)] [(.int p2), (.int (3 : Int32)), (.ref a1)])
  refine Goes.of (fun t => XT.i2b X10.here hx rfl (hb hby d2_36) rfl) ?_
  show Goes p e below KK T10 (mkF m 37 #[.val (.ref a1), .val (.int p2), .val (.int p3), .val (.int p4)] [(.int (p2.toInt8.toInt32)), (.int (3 : Int32)), (.ref a1)])
  refine Goes.of (fun t => XS.iloadN X10.here hx rfl (hb hby d2_37) rfl) ?_
  show Goes p e below KK T10 (mkF m 38 #[.val (.ref a1), .val (.int p2), .val (.int p3), .val (.int p4)] [(.int p4), (.int (p2.toInt8.toInt32)), (.int (3 : Int32)), (.ref a1)])
  obtain ⟨_, _, ⟨T11, L11, k11, n11⟩, -, X11, ⟨Lc11, hQ11, l11, y11, z11⟩, st11⟩ := Jvm.LawKit.callS X10 hx (y := (⟨"com/example/iocd/iocd/store/RecordKeysAfterPinLaw", "put", "([BIBI)V"⟩ : MethodName)) hown (mvT hZ w_9) (mvT hZ w_10) (mvT hZ w_3) (mvT hZ w_11) (by decide) (backOf (W := 0) (rm3 l Z a0 hw [] a1 (3 : Int32) (p2.toInt8.toInt32) p4 (putL (putL (putL xs 0 ((XT.ushr p2 (24 : Int32)).toInt8.toInt32) p4) 1 ((XT.ushr p2 (16 : Int32)).toInt8.toInt32) p4) 2 ((XT.ushr p2 (8 : Int32)).toInt8.toInt32) p4) 3 n T10.heap n0 Z10 V10 g_a1 (by first | exact hn | (simp only [putL_len]; exact hn)) (by first | exact hn5 | (simp only [putL_len]; exact hn5)) rfl hk0 hk1) hZ w_11 w_3 (by decide) (by decide)) (g := (mkF m 38 #[.val (.ref a1), .val (.int p2), .val (.int p3), .val (.int p4)] [(.int p4), (.int (p2.toInt8.toInt32)), (.int (3 : Int32)), (.ref a1)])) rfl (by rw [hml]; rfl) (argsL := [(.ref a1), (.int (3 : Int32)), (.int (p2.toInt8.toInt32)), (.int p4)]) (rest := []) (lenOf pd_2 rfl) rfl (by show 2 * 0 + _ ≤ _; exact Nat.le_of_eq rfl) (hb hby d2_38) (fun _ _ => ⟨rfl, e10, (by decide : 0 + 0 ≤ _), (by decide : 0 + 0 ≤ _)⟩)
  dsimp only [Pt.U, Pt.locs, Pt.cells, Pt.slots] at X11 l11 y11 z11 st11 hQ11
  subst l11 y11 z11
  obtain ⟨rfl, N11q, Kc11, V11⟩ := hQ11
  have N11 := Fr.app N10 N11q
  have K11 : Keep h0 T11.heap [a1] := K10.trans Kc11 (allS (Or.inl (List.mem_of_getElem? (i := 0) rfl)) all0)
  have Z11 : n0 ≤ T11.heap.size := Nat.le_trans Z10 Kc11.1
  have e11 : T11.heap = T11.heap := rfl
  refine Goes.of st11 ?_
  show Goes p e below KK T11 (mkF m 41 #[.val (.ref a1), .val (.int p2), .val (.int p3), .val (.int p4)] [])
  refine Goes.of (fun t => XS.aloadN X11.here hx rfl (hb hby d2_41) rfl rfl) ?_
  show Goes p e below KK T11 (mkF m 42 #[.val (.ref a1), .val (.int p2), .val (.int p3), .val (.int p4)] [(.ref a1)])
  refine Goes.of (fun t => XS.iconst X11.here hx rfl (hb hby d2_42)) ?_
  show Goes p e below KK T11 (mkF m 43 #[.val (.ref a1), .val (.int p2), .val (.int p3), .val (.int p4)] [(.int (4 : Int32)), (.ref a1)])
  refine Goes.of (fun t => XS.iloadN X11.here hx rfl (hb hby d2_43) rfl) ?_
  show Goes p e below KK T11 (mkF m 44 #[.val (.ref a1), .val (.int p2), .val (.int p3), .val (.int p4)] [(.int p3), (.int (4 : Int32)), (.ref a1)])
  refine Goes.of (fun t => XT.i2b X11.here hx rfl (hb hby d2_44) rfl) ?_
  show Goes p e below KK T11 (mkF m 45 #[.val (.ref a1), .val (.int p2), .val (.int p3), .val (.int p4)] [(.int (p3.toInt8.toInt32)), (.int (4 : Int32)), (.ref a1)])
  refine Goes.of (fun t => XS.iloadN X11.here hx rfl (hb hby d2_45) rfl) ?_
  show Goes p e below KK T11 (mkF m 46 #[.val (.ref a1), .val (.int p2), .val (.int p3), .val (.int p4)] [(.int p4), (.int (p3.toInt8.toInt32)), (.int (4 : Int32)), (.ref a1)])
  obtain ⟨_, _, ⟨T12, L12, k12, n12⟩, -, X12, ⟨Lc12, hQ12, l12, y12, z12⟩, st12⟩ := Jvm.LawKit.callS X11 hx (y := (⟨"com/example/iocd/iocd/store/RecordKeysAfterPinLaw", "put", "([BIBI)V"⟩ : MethodName)) hown (mvT hZ w_9) (mvT hZ w_10) (mvT hZ w_3) (mvT hZ w_11) (by decide) (backOf (W := 0) (rm3 l Z a0 hw [] a1 (4 : Int32) (p3.toInt8.toInt32) p4 (putL (putL (putL (putL xs 0 ((XT.ushr p2 (24 : Int32)).toInt8.toInt32) p4) 1 ((XT.ushr p2 (16 : Int32)).toInt8.toInt32) p4) 2 ((XT.ushr p2 (8 : Int32)).toInt8.toInt32) p4) 3 (p2.toInt8.toInt32) p4) 4 n T11.heap n0 Z11 V11 g_a1 (by first | exact hn | (simp only [putL_len]; exact hn)) (by first | exact hn5 | (simp only [putL_len]; exact hn5)) rfl hk0 hk1) hZ w_11 w_3 (by decide) (by decide)) (g := (mkF m 46 #[.val (.ref a1), .val (.int p2), .val (.int p3), .val (.int p4)] [(.int p4), (.int (p3.toInt8.toInt32)), (.int (4 : Int32)), (.ref a1)])) rfl (by rw [hml]; rfl) (argsL := [(.ref a1), (.int (4 : Int32)), (.int (p3.toInt8.toInt32)), (.int p4)]) (rest := []) (lenOf pd_2 rfl) rfl (by show 2 * 0 + _ ≤ _; exact Nat.le_of_eq rfl) (hb hby d2_46) (fun _ _ => ⟨rfl, e11, (by decide : 0 + 0 ≤ _), (by decide : 0 + 0 ≤ _)⟩)
  dsimp only [Pt.U, Pt.locs, Pt.cells, Pt.slots] at X12 l12 y12 z12 st12 hQ12
  subst l12 y12 z12
  obtain ⟨rfl, N12q, Kc12, V12⟩ := hQ12
  have N12 := Fr.app N11 N12q
  have K12 : Keep h0 T12.heap [a1] := K11.trans Kc12 (allS (Or.inl (List.mem_of_getElem? (i := 0) rfl)) all0)
  have Z12 : n0 ≤ T12.heap.size := Nat.le_trans Z11 Kc12.1
  have e12 : T12.heap = T12.heap := rfl
  refine Goes.of st12 ?_
  show Goes p e below KK T12 (mkF m 49 #[.val (.ref a1), .val (.int p2), .val (.int p3), .val (.int p4)] [])
  rw [← hKK]
  refine Goes.retVoid X12 hx hlk Bd.returns (hb hby d2_49) ?_ (by decide) (by decide)
  rw [e12]
  exact ⟨rfl, N12, K12, V12⟩
theorem d4_0 : decode method_6_code 0 = .ok (.aload_n 0, 1) := by decide +kernel
theorem d4_1 : decode method_6_code 1 = .ok (.arraylength, 1) := by decide +kernel
theorem d4_2 : decode method_6_code 2 = .ok (.istore_n 1, 1) := by decide +kernel
theorem d4_3 : decode method_6_code 3 = .ok (.iload_n 1, 1) := by decide +kernel
theorem d4_4 : decode method_6_code 4 = .ok (.iconst 4, 1) := by decide +kernel
theorem d4_5 : decode method_6_code 5 = .ok (.if_icmp .le 12, 3) := by decide +kernel
theorem d4_8 : decode method_6_code 8 = .ok (.aload_n 0, 1) := by decide +kernel
theorem d4_9 : decode method_6_code 9 = .ok (.iconst 4, 1) := by decide +kernel
theorem d4_10 : decode method_6_code 10 = .ok (.baload, 1) := by decide +kernel
theorem d4_11 : decode method_6_code 11 = .ok (.iconst (-1), 1) := by decide +kernel
theorem d4_12 : decode method_6_code 12 = .ok (.if_icmp .eq 5, 3) := by decide +kernel
theorem d4_15 : decode method_6_code 15 = .ok (.iconst 4, 1) := by decide +kernel
theorem d4_16 : decode method_6_code 16 = .ok (.ireturn, 1) := by decide +kernel
theorem d4_17 : decode method_6_code 17 = .ok (.iload_n 1, 1) := by decide +kernel
theorem d4_18 : decode method_6_code 18 = .ok (.iconst 3, 1) := by decide +kernel
theorem d4_19 : decode method_6_code 19 = .ok (.if_icmp .le 12, 3) := by decide +kernel
theorem d4_22 : decode method_6_code 22 = .ok (.aload_n 0, 1) := by decide +kernel
theorem d4_23 : decode method_6_code 23 = .ok (.iconst 3, 1) := by decide +kernel
theorem d4_24 : decode method_6_code 24 = .ok (.baload, 1) := by decide +kernel
theorem d4_25 : decode method_6_code 25 = .ok (.iconst (-1), 1) := by decide +kernel
theorem d4_26 : decode method_6_code 26 = .ok (.if_icmp .eq 5, 3) := by decide +kernel
theorem d4_29 : decode method_6_code 29 = .ok (.iconst 3, 1) := by decide +kernel
theorem d4_30 : decode method_6_code 30 = .ok (.ireturn, 1) := by decide +kernel
theorem d4_31 : decode method_6_code 31 = .ok (.iload_n 1, 1) := by decide +kernel
theorem d4_32 : decode method_6_code 32 = .ok (.iconst 2, 1) := by decide +kernel
theorem d4_33 : decode method_6_code 33 = .ok (.if_icmp .le 12, 3) := by decide +kernel
theorem d4_36 : decode method_6_code 36 = .ok (.aload_n 0, 1) := by decide +kernel
theorem d4_37 : decode method_6_code 37 = .ok (.iconst 2, 1) := by decide +kernel
theorem d4_38 : decode method_6_code 38 = .ok (.baload, 1) := by decide +kernel
theorem d4_39 : decode method_6_code 39 = .ok (.iconst (-1), 1) := by decide +kernel
theorem d4_40 : decode method_6_code 40 = .ok (.if_icmp .eq 5, 3) := by decide +kernel
theorem d4_43 : decode method_6_code 43 = .ok (.iconst 2, 1) := by decide +kernel
theorem d4_44 : decode method_6_code 44 = .ok (.ireturn, 1) := by decide +kernel
theorem d4_45 : decode method_6_code 45 = .ok (.iload_n 1, 1) := by decide +kernel
theorem d4_46 : decode method_6_code 46 = .ok (.iconst 1, 1) := by decide +kernel
theorem d4_47 : decode method_6_code 47 = .ok (.if_icmp .le 12, 3) := by decide +kernel
theorem d4_50 : decode method_6_code 50 = .ok (.aload_n 0, 1) := by decide +kernel
theorem d4_51 : decode method_6_code 51 = .ok (.iconst 1, 1) := by decide +kernel
theorem d4_52 : decode method_6_code 52 = .ok (.baload, 1) := by decide +kernel
theorem d4_53 : decode method_6_code 53 = .ok (.iconst (-1), 1) := by decide +kernel
theorem d4_54 : decode method_6_code 54 = .ok (.if_icmp .eq 5, 3) := by decide +kernel
theorem d4_57 : decode method_6_code 57 = .ok (.iconst 1, 1) := by decide +kernel
theorem d4_58 : decode method_6_code 58 = .ok (.ireturn, 1) := by decide +kernel
theorem d4_59 : decode method_6_code 59 = .ok (.aload_n 0, 1) := by decide +kernel
theorem d4_60 : decode method_6_code 60 = .ok (.iconst 0, 1) := by decide +kernel
theorem d4_61 : decode method_6_code 61 = .ok (.baload, 1) := by decide +kernel
theorem d4_62 : decode method_6_code 62 = .ok (.iconst (-1), 1) := by decide +kernel
theorem d4_63 : decode method_6_code 63 = .ok (.if_icmp .eq 5, 3) := by decide +kernel
theorem d4_66 : decode method_6_code 66 = .ok (.iconst 0, 1) := by decide +kernel
theorem d4_67 : decode method_6_code 67 = .ok (.ireturn, 1) := by decide +kernel
theorem d4_68 : decode method_6_code 68 = .ok (.iconst (-1), 1) := by decide +kernel
theorem d4_69 : decode method_6_code 69 = .ok (.ireturn, 1) := by decide +kernel
theorem pn_4 : plainFor (⟨"com/example/iocd/iocd/store/RecordKeysAfterPinLaw", "lastNon", "([B)I"⟩ : MethodName) = true := plainFor_of_name (by first | (simp [plainName, overriddenIn]; done) | decide +kernel)
theorem ef_4 (m : MethodId) (x0 : Addr) : entryFrame m #[(.ref x0)] 2 = mkF m 0 #[.val (.ref x0), .unset] [] := by first | (simp [entryFrame, mkF, argsToLocals, Value.category]; done) | rfl
def Q4 (Z : State) (a1 : Addr) (xs : List Int32) (n : Int32) (h0 : Heap) (n0 : Nat) (v : Option Value) (h : Heap) (L : List Loc) : Prop := ∃ r, v = some (.int r) ∧ LastS xs r ∧ Fr n0 L ∧ h = h0
set_option maxRecDepth 65536 in
set_option maxHeartbeats 40000000 in
theorem rm4 (l : Launch) (Z : State) (a0 : Array Value) (hw : ∀ d ∈ tables_1, d.before a0 Z = true) (ws : List Jvm.Cond) (a1 : Addr) (xs : List Int32) (n : Int32) (h0 : Heap) (n0 : Nat) (Z0 : n0 ≤ h0.size) (V_a1 : AI Z h0 a1 .byte xs) (hn : n.toInt = (xs.length : Int)) (hn5 : xs.length ≤ 5) (hpos : 0 < xs.length) :
    MetFree l (⟨"com/example/iocd/iocd/store/RecordKeysAfterPinLaw", "lastNon", "([B)I"⟩ : MethodName) (head1 (Jvm.Cond.code (⟨"com/example/iocd/iocd/store/RecordKeysAfterPinLaw", "lastNon", "([B)I"⟩ : MethodName) method_6_code 2 (some .int) :: ws) ({ frames := 0, cells := 0, slots := 0, locals := 0 } : Room)) (fun a U => a = #[(.ref a1)] ∧ Z.Warmed39 U.vm ∧ U.heap = h0) (fun _ _ _ _ _ => True) (fun _ U o U' => ∃ v L, o = .returned v ∧ Q4 Z a1 xs n h0 n0 v U'.heap L ∧ FrameEnd U o U' L ({ frames := 0, cells := 0, slots := 0, locals := 0 } : Room).cells ({ frames := 0, cells := 0, slots := 0, locals := 0 } : Room).slots) := by
  refine MetFree.of_bodySF pn_4 hisR ?_
  intro p e s m args below meth c s₁ Bd hml0 hP hK
  obtain ⟨rfl, hZ, hh⟩ := hP
  have hx := Bd.exec
  have hby := Bd.bytes
  have hml : c.maxLocals = 2 := hml0
  have hown : s.vm.findClass "com/example/iocd/iocd/store/RecordKeysAfterPinLaw" = some m.cls := findClass_of_methodNamed Bd.named
  have hnm := (name_of_methodNamed Bd.named Bd.method).1
  have hlk : meth.locks = false := BodyLoose.notSynchronized Bd
  have X0 : Stand p l e ({ frames := 0, cells := 0, slots := 0, locals := 0 } : Room) s m #[(.ref a1)] below meth c s₁ [] 0 0 := Stand.of_body Bd
  have e0 : s₁.heap = h0 := by rw [← hh, Bd.state]; rfl
  have N0 := Fr.nil n0
  show Goes p e below (OwnK s (Q4 Z a1 xs n h0 n0) ({ frames := 0, cells := 0, slots := 0, locals := 0 } : Room).cells ({ frames := 0, cells := 0, slots := 0, locals := 0 } : Room).slots) s₁ (entryFrame m #[(.ref a1)] 2)
  refine Goes.cast (ef_4 m a1) ?_
  generalize hKK : OwnK s (Q4 Z a1 xs n h0 n0) ({ frames := 0, cells := 0, slots := 0, locals := 0 } : Room).cells ({ frames := 0, cells := 0, slots := 0, locals := 0 } : Room).slots = KK
  show Goes p e below KK s₁ (mkF m 0 #[.val (.ref a1), .unset] [])
  refine Goes.of (fun t => XS.aloadN X0.here hx rfl (hb hby d4_0) rfl rfl) ?_
  show Goes p e below KK s₁ (mkF m 1 #[.val (.ref a1), .unset] [(.ref a1)])
  refine Goes.of (AI.arraylength X0 hx hZ e0 V_a1 (j := n) (hn) (g := (mkF m 1 #[.val (.ref a1), .unset] [(.ref a1)])) rfl rfl (hb hby d4_1)) ?_
  show Goes p e below KK s₁ (mkF m 2 #[.val (.ref a1), .unset] [(.int n)])
  refine Goes.of (fun t => XS.istoreN X0.here hx rfl (hb hby d4_2) rfl (l' := #[.val (.ref a1), .val (.int n)]) rfl) ?_
  show Goes p e below KK s₁ (mkF m 3 #[.val (.ref a1), .val (.int n)] [])
  have c13 : (∀ j, 4 ≤ j → j < xs.length → xs[j]? = some (-1 : Int32)) → Goes p e below KK s₁ (mkF m 17 #[.val (.ref a1), .val (.int n)] []) := by
    intro u4
    have c14 : (∀ j, 3 ≤ j → j < xs.length → xs[j]? = some (-1 : Int32)) → Goes p e below KK s₁ (mkF m 31 #[.val (.ref a1), .val (.int n)] []) := by
      intro u3
      have c15 : (∀ j, 2 ≤ j → j < xs.length → xs[j]? = some (-1 : Int32)) → Goes p e below KK s₁ (mkF m 45 #[.val (.ref a1), .val (.int n)] []) := by
        intro u2
        have c16 : (∀ j, 1 ≤ j → j < xs.length → xs[j]? = some (-1 : Int32)) → Goes p e below KK s₁ (mkF m 59 #[.val (.ref a1), .val (.int n)] []) := by
          intro u1
          refine Goes.of (fun t => XS.aloadN X0.here hx rfl (hb hby d4_59) rfl rfl) ?_
          show Goes p e below KK s₁ (mkF m 60 #[.val (.ref a1), .val (.int n)] [(.ref a1)])
          refine Goes.of (fun t => XS.iconst X0.here hx rfl (hb hby d4_60)) ?_
          show Goes p e below KK s₁ (mkF m 61 #[.val (.ref a1), .val (.int n)] [(.int (0 : Int32)), (.ref a1)])
          have hin0 : 0 < xs.length := hpos
          obtain ⟨y0, hy0⟩ : ∃ y, xs[0]? = some y := ⟨_, List.getElem?_eq_getElem hin0⟩
          refine Goes.of (AI.baload X0 hx hZ e0 V_a1 (i := 0) (j := (0 : Int32)) (x := y0) (rfl) (hy0) (g := (mkF m 61 #[.val (.ref a1), .val (.int n)] [(.int (0 : Int32)), (.ref a1)])) rfl rfl (hb hby d4_61)) ?_
          show Goes p e below KK s₁ (mkF m 62 #[.val (.ref a1), .val (.int n)] [(.int y0)])
          refine Goes.of (fun t => XS.iconst X0.here hx rfl (hb hby d4_62)) ?_
          show Goes p e below KK s₁ (mkF m 63 #[.val (.ref a1), .val (.int n)] [(.int (-1 : Int32)), (.int y0)])
          by_cases hc63 : y0 = (-1 : Int32)
          · refine Goes.of (fun t => XS.icmpYes X0.here hx rfl (pc0 := 63) (pc' := 68) rfl (hb hby d4_63) rfl (teq hc63).1 (by decide) (by decide)) ?_
            show Goes p e below KK s₁ (mkF m 68 #[.val (.ref a1), .val (.int n)] [])
            refine Goes.of (fun t => XS.iconst X0.here hx rfl (hb hby d4_68)) ?_
            show Goes p e below KK s₁ (mkF m 69 #[.val (.ref a1), .val (.int n)] [(.int (-1 : Int32))])
            have ua : ∀ j, j < xs.length → xs[j]? = some (-1 : Int32) := by
              intro j q
              rcases Nat.eq_zero_or_pos j with rfl | q1
              · rw [hy0, hc63]
              · exact u1 j q1 q
            rw [← hKK]
            refine Goes.retInt X0 hx hlk Bd.returns (hb hby d4_69) ?_ (by decide) (by decide)
            rw [e0]
            exact ⟨_, rfl, Or.inl ⟨rfl, ua⟩, N0, rfl⟩
          · refine Goes.of (fun t => XS.icmpNo X0.here hx rfl (hb hby d4_63) rfl (feq hc63).1) ?_
            show Goes p e below KK s₁ (mkF m 66 #[.val (.ref a1), .val (.int n)] [])
            refine Goes.of (fun t => XS.iconst X0.here hx rfl (hb hby d4_66)) ?_
            show Goes p e below KK s₁ (mkF m 67 #[.val (.ref a1), .val (.int n)] [(.int (0 : Int32))])
            rw [← hKK]
            refine Goes.retInt X0 hx hlk Bd.returns (hb hby d4_67) ?_ (by decide) (by decide)
            rw [e0]
            exact ⟨_, rfl, Or.inr ⟨0, y0, rfl, hin0, hy0, hc63, fun j q1 q2 => u1 j q1 q2⟩, N0, rfl⟩
        refine Goes.of (fun t => XS.iloadN X0.here hx rfl (hb hby d4_45) rfl) ?_
        show Goes p e below KK s₁ (mkF m 46 #[.val (.ref a1), .val (.int n)] [(.int n)])
        refine Goes.of (fun t => XS.iconst X0.here hx rfl (hb hby d4_46)) ?_
        show Goes p e below KK s₁ (mkF m 47 #[.val (.ref a1), .val (.int n)] [(.int (1 : Int32)), (.int n)])
        by_cases hc47 : (1 : Int32) < n
        · refine Goes.of (fun t => XS.icmpNo X0.here hx rfl (hb hby d4_47) rfl (tlt hc47).2.2.2) ?_
          show Goes p e below KK s₁ (mkF m 50 #[.val (.ref a1), .val (.int n)] [])
          refine Goes.of (fun t => XS.aloadN X0.here hx rfl (hb hby d4_50) rfl rfl) ?_
          show Goes p e below KK s₁ (mkF m 51 #[.val (.ref a1), .val (.int n)] [(.ref a1)])
          refine Goes.of (fun t => XS.iconst X0.here hx rfl (hb hby d4_51)) ?_
          show Goes p e below KK s₁ (mkF m 52 #[.val (.ref a1), .val (.int n)] [(.int (1 : Int32)), (.ref a1)])
          have hin1 : 1 < xs.length := by rw [Int32.lt_iff_toInt_lt, hn] at hc47; have z : (1 : Int32).toInt = 1 := rfl; omega
          obtain ⟨y1, hy1⟩ : ∃ y, xs[1]? = some y := ⟨_, List.getElem?_eq_getElem hin1⟩
          refine Goes.of (AI.baload X0 hx hZ e0 V_a1 (i := 1) (j := (1 : Int32)) (x := y1) (rfl) (hy1) (g := (mkF m 52 #[.val (.ref a1), .val (.int n)] [(.int (1 : Int32)), (.ref a1)])) rfl rfl (hb hby d4_52)) ?_
          show Goes p e below KK s₁ (mkF m 53 #[.val (.ref a1), .val (.int n)] [(.int y1)])
          refine Goes.of (fun t => XS.iconst X0.here hx rfl (hb hby d4_53)) ?_
          show Goes p e below KK s₁ (mkF m 54 #[.val (.ref a1), .val (.int n)] [(.int (-1 : Int32)), (.int y1)])
          by_cases hc54 : y1 = (-1 : Int32)
          · refine Goes.of (fun t => XS.icmpYes X0.here hx rfl (pc0 := 54) (pc' := 59) rfl (hb hby d4_54) rfl (teq hc54).1 (by decide) (by decide)) ?_
            show Goes p e below KK s₁ (mkF m 59 #[.val (.ref a1), .val (.int n)] [])
            have uu : ∀ j, 1 ≤ j → j < xs.length → xs[j]? = some (-1 : Int32) := by
              intro j q1 q2
              rcases Nat.lt_or_ge 1 j with q | q
              · exact u2 j q q2
              · obtain rfl : j = 1 := by omega
                rw [hy1, hc54]
            exact c16 (uu)
          · refine Goes.of (fun t => XS.icmpNo X0.here hx rfl (hb hby d4_54) rfl (feq hc54).1) ?_
            show Goes p e below KK s₁ (mkF m 57 #[.val (.ref a1), .val (.int n)] [])
            refine Goes.of (fun t => XS.iconst X0.here hx rfl (hb hby d4_57)) ?_
            show Goes p e below KK s₁ (mkF m 58 #[.val (.ref a1), .val (.int n)] [(.int (1 : Int32))])
            rw [← hKK]
            refine Goes.retInt X0 hx hlk Bd.returns (hb hby d4_58) ?_ (by decide) (by decide)
            rw [e0]
            exact ⟨_, rfl, Or.inr ⟨1, y1, rfl, hin1, hy1, hc54, fun j q1 q2 => u2 j q1 q2⟩, N0, rfl⟩
        · refine Goes.of (fun t => XS.icmpYes X0.here hx rfl (pc0 := 47) (pc' := 59) rfl (hb hby d4_47) rfl (flt hc47).2.2.2 (by decide) (by decide)) ?_
          show Goes p e below KK s₁ (mkF m 59 #[.val (.ref a1), .val (.int n)] [])
          have uu : ∀ j, 1 ≤ j → j < xs.length → xs[j]? = some (-1 : Int32) := by
            intro j q1 q2
            rw [Int32.lt_iff_toInt_lt, hn] at hc47
            have zz : (1 : Int32).toInt = 1 := rfl
            exact u2 j (by omega) q2
          exact c16 (uu)
      refine Goes.of (fun t => XS.iloadN X0.here hx rfl (hb hby d4_31) rfl) ?_
      show Goes p e below KK s₁ (mkF m 32 #[.val (.ref a1), .val (.int n)] [(.int n)])
      refine Goes.of (fun t => XS.iconst X0.here hx rfl (hb hby d4_32)) ?_
      show Goes p e below KK s₁ (mkF m 33 #[.val (.ref a1), .val (.int n)] [(.int (2 : Int32)), (.int n)])
      by_cases hc33 : (2 : Int32) < n
      · refine Goes.of (fun t => XS.icmpNo X0.here hx rfl (hb hby d4_33) rfl (tlt hc33).2.2.2) ?_
        show Goes p e below KK s₁ (mkF m 36 #[.val (.ref a1), .val (.int n)] [])
        refine Goes.of (fun t => XS.aloadN X0.here hx rfl (hb hby d4_36) rfl rfl) ?_
        show Goes p e below KK s₁ (mkF m 37 #[.val (.ref a1), .val (.int n)] [(.ref a1)])
        refine Goes.of (fun t => XS.iconst X0.here hx rfl (hb hby d4_37)) ?_
        show Goes p e below KK s₁ (mkF m 38 #[.val (.ref a1), .val (.int n)] [(.int (2 : Int32)), (.ref a1)])
        have hin2 : 2 < xs.length := by rw [Int32.lt_iff_toInt_lt, hn] at hc33; have z : (2 : Int32).toInt = 2 := rfl; omega
        obtain ⟨y2, hy2⟩ : ∃ y, xs[2]? = some y := ⟨_, List.getElem?_eq_getElem hin2⟩
        refine Goes.of (AI.baload X0 hx hZ e0 V_a1 (i := 2) (j := (2 : Int32)) (x := y2) (rfl) (hy2) (g := (mkF m 38 #[.val (.ref a1), .val (.int n)] [(.int (2 : Int32)), (.ref a1)])) rfl rfl (hb hby d4_38)) ?_
        show Goes p e below KK s₁ (mkF m 39 #[.val (.ref a1), .val (.int n)] [(.int y2)])
        refine Goes.of (fun t => XS.iconst X0.here hx rfl (hb hby d4_39)) ?_
        show Goes p e below KK s₁ (mkF m 40 #[.val (.ref a1), .val (.int n)] [(.int (-1 : Int32)), (.int y2)])
        by_cases hc40 : y2 = (-1 : Int32)
        · refine Goes.of (fun t => XS.icmpYes X0.here hx rfl (pc0 := 40) (pc' := 45) rfl (hb hby d4_40) rfl (teq hc40).1 (by decide) (by decide)) ?_
          show Goes p e below KK s₁ (mkF m 45 #[.val (.ref a1), .val (.int n)] [])
          have uu : ∀ j, 2 ≤ j → j < xs.length → xs[j]? = some (-1 : Int32) := by
            intro j q1 q2
            rcases Nat.lt_or_ge 2 j with q | q
            · exact u3 j q q2
            · obtain rfl : j = 2 := by omega
              rw [hy2, hc40]
          exact c15 (uu)
        · refine Goes.of (fun t => XS.icmpNo X0.here hx rfl (hb hby d4_40) rfl (feq hc40).1) ?_
          show Goes p e below KK s₁ (mkF m 43 #[.val (.ref a1), .val (.int n)] [])
          refine Goes.of (fun t => XS.iconst X0.here hx rfl (hb hby d4_43)) ?_
          show Goes p e below KK s₁ (mkF m 44 #[.val (.ref a1), .val (.int n)] [(.int (2 : Int32))])
          rw [← hKK]
          refine Goes.retInt X0 hx hlk Bd.returns (hb hby d4_44) ?_ (by decide) (by decide)
          rw [e0]
          exact ⟨_, rfl, Or.inr ⟨2, y2, rfl, hin2, hy2, hc40, fun j q1 q2 => u3 j q1 q2⟩, N0, rfl⟩
      · refine Goes.of (fun t => XS.icmpYes X0.here hx rfl (pc0 := 33) (pc' := 45) rfl (hb hby d4_33) rfl (flt hc33).2.2.2 (by decide) (by decide)) ?_
        show Goes p e below KK s₁ (mkF m 45 #[.val (.ref a1), .val (.int n)] [])
        have uu : ∀ j, 2 ≤ j → j < xs.length → xs[j]? = some (-1 : Int32) := by
          intro j q1 q2
          rw [Int32.lt_iff_toInt_lt, hn] at hc33
          have zz : (2 : Int32).toInt = 2 := rfl
          exact u3 j (by omega) q2
        exact c15 (uu)
    refine Goes.of (fun t => XS.iloadN X0.here hx rfl (hb hby d4_17) rfl) ?_
    show Goes p e below KK s₁ (mkF m 18 #[.val (.ref a1), .val (.int n)] [(.int n)])
    refine Goes.of (fun t => XS.iconst X0.here hx rfl (hb hby d4_18)) ?_
    show Goes p e below KK s₁ (mkF m 19 #[.val (.ref a1), .val (.int n)] [(.int (3 : Int32)), (.int n)])
    by_cases hc19 : (3 : Int32) < n
    · refine Goes.of (fun t => XS.icmpNo X0.here hx rfl (hb hby d4_19) rfl (tlt hc19).2.2.2) ?_
      show Goes p e below KK s₁ (mkF m 22 #[.val (.ref a1), .val (.int n)] [])
      refine Goes.of (fun t => XS.aloadN X0.here hx rfl (hb hby d4_22) rfl rfl) ?_
      show Goes p e below KK s₁ (mkF m 23 #[.val (.ref a1), .val (.int n)] [(.ref a1)])
      refine Goes.of (fun t => XS.iconst X0.here hx rfl (hb hby d4_23)) ?_
      show Goes p e below KK s₁ (mkF m 24 #[.val (.ref a1), .val (.int n)] [(.int (3 : Int32)), (.ref a1)])
      have hin3 : 3 < xs.length := by rw [Int32.lt_iff_toInt_lt, hn] at hc19; have z : (3 : Int32).toInt = 3 := rfl; omega
      obtain ⟨y3, hy3⟩ : ∃ y, xs[3]? = some y := ⟨_, List.getElem?_eq_getElem hin3⟩
      refine Goes.of (AI.baload X0 hx hZ e0 V_a1 (i := 3) (j := (3 : Int32)) (x := y3) (rfl) (hy3) (g := (mkF m 24 #[.val (.ref a1), .val (.int n)] [(.int (3 : Int32)), (.ref a1)])) rfl rfl (hb hby d4_24)) ?_
      show Goes p e below KK s₁ (mkF m 25 #[.val (.ref a1), .val (.int n)] [(.int y3)])
      refine Goes.of (fun t => XS.iconst X0.here hx rfl (hb hby d4_25)) ?_
      show Goes p e below KK s₁ (mkF m 26 #[.val (.ref a1), .val (.int n)] [(.int (-1 : Int32)), (.int y3)])
      by_cases hc26 : y3 = (-1 : Int32)
      · refine Goes.of (fun t => XS.icmpYes X0.here hx rfl (pc0 := 26) (pc' := 31) rfl (hb hby d4_26) rfl (teq hc26).1 (by decide) (by decide)) ?_
        show Goes p e below KK s₁ (mkF m 31 #[.val (.ref a1), .val (.int n)] [])
        have uu : ∀ j, 3 ≤ j → j < xs.length → xs[j]? = some (-1 : Int32) := by
          intro j q1 q2
          rcases Nat.lt_or_ge 3 j with q | q
          · exact u4 j q q2
          · obtain rfl : j = 3 := by omega
            rw [hy3, hc26]
        exact c14 (uu)
      · refine Goes.of (fun t => XS.icmpNo X0.here hx rfl (hb hby d4_26) rfl (feq hc26).1) ?_
        show Goes p e below KK s₁ (mkF m 29 #[.val (.ref a1), .val (.int n)] [])
        refine Goes.of (fun t => XS.iconst X0.here hx rfl (hb hby d4_29)) ?_
        show Goes p e below KK s₁ (mkF m 30 #[.val (.ref a1), .val (.int n)] [(.int (3 : Int32))])
        rw [← hKK]
        refine Goes.retInt X0 hx hlk Bd.returns (hb hby d4_30) ?_ (by decide) (by decide)
        rw [e0]
        exact ⟨_, rfl, Or.inr ⟨3, y3, rfl, hin3, hy3, hc26, fun j q1 q2 => u4 j q1 q2⟩, N0, rfl⟩
    · refine Goes.of (fun t => XS.icmpYes X0.here hx rfl (pc0 := 19) (pc' := 31) rfl (hb hby d4_19) rfl (flt hc19).2.2.2 (by decide) (by decide)) ?_
      show Goes p e below KK s₁ (mkF m 31 #[.val (.ref a1), .val (.int n)] [])
      have uu : ∀ j, 3 ≤ j → j < xs.length → xs[j]? = some (-1 : Int32) := by
        intro j q1 q2
        rw [Int32.lt_iff_toInt_lt, hn] at hc19
        have zz : (3 : Int32).toInt = 3 := rfl
        exact u4 j (by omega) q2
      exact c14 (uu)
  refine Goes.of (fun t => XS.iloadN X0.here hx rfl (hb hby d4_3) rfl) ?_
  show Goes p e below KK s₁ (mkF m 4 #[.val (.ref a1), .val (.int n)] [(.int n)])
  refine Goes.of (fun t => XS.iconst X0.here hx rfl (hb hby d4_4)) ?_
  show Goes p e below KK s₁ (mkF m 5 #[.val (.ref a1), .val (.int n)] [(.int (4 : Int32)), (.int n)])
  by_cases hc5 : (4 : Int32) < n
  · refine Goes.of (fun t => XS.icmpNo X0.here hx rfl (hb hby d4_5) rfl (tlt hc5).2.2.2) ?_
    show Goes p e below KK s₁ (mkF m 8 #[.val (.ref a1), .val (.int n)] [])
    refine Goes.of (fun t => XS.aloadN X0.here hx rfl (hb hby d4_8) rfl rfl) ?_
    show Goes p e below KK s₁ (mkF m 9 #[.val (.ref a1), .val (.int n)] [(.ref a1)])
    refine Goes.of (fun t => XS.iconst X0.here hx rfl (hb hby d4_9)) ?_
    show Goes p e below KK s₁ (mkF m 10 #[.val (.ref a1), .val (.int n)] [(.int (4 : Int32)), (.ref a1)])
    have hin4 : 4 < xs.length := by rw [Int32.lt_iff_toInt_lt, hn] at hc5; have z : (4 : Int32).toInt = 4 := rfl; omega
    obtain ⟨y4, hy4⟩ : ∃ y, xs[4]? = some y := ⟨_, List.getElem?_eq_getElem hin4⟩
    refine Goes.of (AI.baload X0 hx hZ e0 V_a1 (i := 4) (j := (4 : Int32)) (x := y4) (rfl) (hy4) (g := (mkF m 10 #[.val (.ref a1), .val (.int n)] [(.int (4 : Int32)), (.ref a1)])) rfl rfl (hb hby d4_10)) ?_
    show Goes p e below KK s₁ (mkF m 11 #[.val (.ref a1), .val (.int n)] [(.int y4)])
    refine Goes.of (fun t => XS.iconst X0.here hx rfl (hb hby d4_11)) ?_
    show Goes p e below KK s₁ (mkF m 12 #[.val (.ref a1), .val (.int n)] [(.int (-1 : Int32)), (.int y4)])
    by_cases hc12 : y4 = (-1 : Int32)
    · refine Goes.of (fun t => XS.icmpYes X0.here hx rfl (pc0 := 12) (pc' := 17) rfl (hb hby d4_12) rfl (teq hc12).1 (by decide) (by decide)) ?_
      show Goes p e below KK s₁ (mkF m 17 #[.val (.ref a1), .val (.int n)] [])
      have uu : ∀ j, 4 ≤ j → j < xs.length → xs[j]? = some (-1 : Int32) := by
        intro j q1 q2
        rcases Nat.lt_or_ge 4 j with q | q
        · omega
        · obtain rfl : j = 4 := by omega
          rw [hy4, hc12]
      exact c13 (uu)
    · refine Goes.of (fun t => XS.icmpNo X0.here hx rfl (hb hby d4_12) rfl (feq hc12).1) ?_
      show Goes p e below KK s₁ (mkF m 15 #[.val (.ref a1), .val (.int n)] [])
      refine Goes.of (fun t => XS.iconst X0.here hx rfl (hb hby d4_15)) ?_
      show Goes p e below KK s₁ (mkF m 16 #[.val (.ref a1), .val (.int n)] [(.int (4 : Int32))])
      rw [← hKK]
      refine Goes.retInt X0 hx hlk Bd.returns (hb hby d4_16) ?_ (by decide) (by decide)
      rw [e0]
      exact ⟨_, rfl, Or.inr ⟨4, y4, rfl, hin4, hy4, hc12, fun j q1 q2 => by omega⟩, N0, rfl⟩
  · refine Goes.of (fun t => XS.icmpYes X0.here hx rfl (pc0 := 5) (pc' := 17) rfl (hb hby d4_5) rfl (flt hc5).2.2.2 (by decide) (by decide)) ?_
    show Goes p e below KK s₁ (mkF m 17 #[.val (.ref a1), .val (.int n)] [])
    have uu : ∀ j, 4 ≤ j → j < xs.length → xs[j]? = some (-1 : Int32) := by
      intro j q1 q2
      rw [Int32.lt_iff_toInt_lt, hn] at hc5
      have zz : (4 : Int32).toInt = 4 := rfl
      omega
    exact c13 (uu)
def f7 (p1 : Int32) (p2 : Int32) : Int32 := if p2 < p1 then p2 else p1
theorem d7_0 : decode jdk_29_method_69_code 0 = .ok (.iload_n 0, 1) := by decide +kernel
theorem d7_1 : decode jdk_29_method_69_code 1 = .ok (.iload_n 1, 1) := by decide +kernel
theorem d7_2 : decode jdk_29_method_69_code 2 = .ok (.if_icmp .gt 7, 3) := by decide +kernel
theorem d7_5 : decode jdk_29_method_69_code 5 = .ok (.iload_n 0, 1) := by decide +kernel
theorem d7_6 : decode jdk_29_method_69_code 6 = .ok (.goto 4, 3) := by decide +kernel
theorem d7_9 : decode jdk_29_method_69_code 9 = .ok (.iload_n 1, 1) := by decide +kernel
theorem d7_10 : decode jdk_29_method_69_code 10 = .ok (.ireturn, 1) := by decide +kernel
theorem pn_7 : plainFor (⟨"java/lang/Math", "min", "(II)I"⟩ : MethodName) = true := Jvm.Free.JP.mathPlain rfl (by decide +kernel)
theorem ef_7 (m : MethodId) (x0 : Int32) (x1 : Int32) : entryFrame m #[(.int x0), (.int x1)] 2 = mkF m 0 #[.val (.int x0), .val (.int x1)] [] := by first | (simp [entryFrame, mkF, argsToLocals, Value.category]; done) | rfl
def Q7 (Z : State) (p1 : Int32) (p2 : Int32) (h0 : Heap) (n0 : Nat) (v : Option Value) (h : Heap) (L : List Loc) : Prop := v = some (.int (f7 p1 p2)) ∧ Fr n0 L ∧ h = h0
set_option maxRecDepth 65536 in
set_option maxHeartbeats 40000000 in
theorem rm7 (l : Launch) (Z : State) (a0 : Array Value) (hw : ∀ d ∈ tables_1, d.before a0 Z = true) (ws : List Jvm.Cond) (p1 : Int32) (p2 : Int32) (h0 : Heap) (n0 : Nat) (Z0 : n0 ≤ h0.size) :
    MetFree l (⟨"java/lang/Math", "min", "(II)I"⟩ : MethodName) (head1 (Jvm.Cond.code (⟨"java/lang/Math", "min", "(II)I"⟩ : MethodName) jdk_29_method_69_code 2 (some .int) :: ws) ({ frames := 0, cells := 0, slots := 0, locals := 0 } : Room)) (fun a U => a = #[(.int p1), (.int p2)] ∧ Z.Warmed39 U.vm ∧ U.heap = h0) (fun _ _ _ _ _ => True) (fun _ U o U' => ∃ v L, o = .returned v ∧ Q7 Z p1 p2 h0 n0 v U'.heap L ∧ FrameEnd U o U' L ({ frames := 0, cells := 0, slots := 0, locals := 0 } : Room).cells ({ frames := 0, cells := 0, slots := 0, locals := 0 } : Room).slots) := by
  refine MetFree.of_bodySF pn_7 hisR ?_
  intro p e s m args below meth c s₁ Bd hml0 hP hK
  obtain ⟨rfl, hZ, hh⟩ := hP
  have hx := Bd.exec
  have hby := Bd.bytes
  have hml : c.maxLocals = 2 := hml0
  have hown : s.vm.findClass "java/lang/Math" = some m.cls := findClass_of_methodNamed Bd.named
  have hnm := (name_of_methodNamed Bd.named Bd.method).1
  have hlk : meth.locks = false := BodyLoose.notSynchronized Bd
  have X0 : Stand p l e ({ frames := 0, cells := 0, slots := 0, locals := 0 } : Room) s m #[(.int p1), (.int p2)] below meth c s₁ [] 0 0 := Stand.of_body Bd
  have e0 : s₁.heap = h0 := by rw [← hh, Bd.state]; rfl
  have N0 := Fr.nil n0
  show Goes p e below (OwnK s (Q7 Z p1 p2 h0 n0) ({ frames := 0, cells := 0, slots := 0, locals := 0 } : Room).cells ({ frames := 0, cells := 0, slots := 0, locals := 0 } : Room).slots) s₁ (entryFrame m #[(.int p1), (.int p2)] 2)
  refine Goes.cast (ef_7 m p1 p2) ?_
  generalize hKK : OwnK s (Q7 Z p1 p2 h0 n0) ({ frames := 0, cells := 0, slots := 0, locals := 0 } : Room).cells ({ frames := 0, cells := 0, slots := 0, locals := 0 } : Room).slots = KK
  show Goes p e below KK s₁ (mkF m 0 #[.val (.int p1), .val (.int p2)] [])
  refine Goes.of (fun t => XS.iloadN X0.here hx rfl (hb hby d7_0) rfl) ?_
  show Goes p e below KK s₁ (mkF m 1 #[.val (.int p1), .val (.int p2)] [(.int p1)])
  refine Goes.of (fun t => XS.iloadN X0.here hx rfl (hb hby d7_1) rfl) ?_
  show Goes p e below KK s₁ (mkF m 2 #[.val (.int p1), .val (.int p2)] [(.int p2), (.int p1)])
  by_cases hc2 : p2 < p1
  · refine Goes.of (fun t => XS.icmpYes X0.here hx rfl (pc0 := 2) (pc' := 9) rfl (hb hby d7_2) rfl (tlt hc2).2.2.1 (by decide) (by decide)) ?_
    show Goes p e below KK s₁ (mkF m 9 #[.val (.int p1), .val (.int p2)] [])
    refine Goes.of (fun t => XS.iloadN X0.here hx rfl (hb hby d7_9) rfl) ?_
    show Goes p e below KK s₁ (mkF m 10 #[.val (.int p1), .val (.int p2)] [(.int p2)])
    rw [← hKK]
    refine Goes.retInt X0 hx hlk Bd.returns (hb hby d7_10) ?_ (by decide) (by decide)
    rw [e0]
    exact ⟨by unfold f7; rw [if_pos hc2] <;> rfl, N0, rfl⟩
  · refine Goes.of (fun t => XS.icmpNo X0.here hx rfl (hb hby d7_2) rfl (flt hc2).2.2.1) ?_
    show Goes p e below KK s₁ (mkF m 5 #[.val (.int p1), .val (.int p2)] [])
    refine Goes.of (fun t => XS.iloadN X0.here hx rfl (hb hby d7_5) rfl) ?_
    show Goes p e below KK s₁ (mkF m 6 #[.val (.int p1), .val (.int p2)] [(.int p1)])
    refine Goes.of (fun t => XS.goto X0.here hx rfl (pc0 := 6) (pc' := 10) rfl (hb hby d7_6) (by decide) (by decide)) ?_
    show Goes p e below KK s₁ (mkF m 10 #[.val (.int p1), .val (.int p2)] [(.int p1)])
    rw [← hKK]
    refine Goes.retInt X0 hx hlk Bd.returns (hb hby d7_10) ?_ (by decide) (by decide)
    rw [e0]
    exact ⟨by unfold f7; rw [if_neg hc2] <;> rfl, N0, rfl⟩
theorem own_min (x y : Int32) (h : y.toInt ≤ x.toInt) : (f7 x y).toInt = y.toInt := by
  unfold f7
  split
  · rfl
  · rename_i q; rw [Int32.lt_iff_toInt_lt] at q; omega
theorem d6_0 : decode jdk_65_method_121_code 0 = .ok (.iload_n 1, 1) := by decide +kernel
theorem d6_1 : decode jdk_65_method_121_code 1 = .ok (.aload_n 0, 1) := by decide +kernel
theorem d6_2 : decode jdk_65_method_121_code 2 = .ok (.arraylength, 1) := by decide +kernel
theorem d6_3 : decode jdk_65_method_121_code 3 = .ok (.if_icmp .ne 11, 3) := by decide +kernel
theorem d6_6 : decode jdk_65_method_121_code 6 = .ok (.aload_n 0, 1) := by decide +kernel
theorem d6_7 : decode jdk_65_method_121_code 7 = .ok (.invokevirtual 310, 3) := by decide +kernel
theorem d6_10 : decode jdk_65_method_121_code 10 = .ok (.checkcast 311, 3) := by decide +kernel
theorem d6_13 : decode jdk_65_method_121_code 13 = .ok (.areturn, 1) := by decide +kernel
theorem d6_14 : decode jdk_65_method_121_code 14 = .ok (.iload_n 1, 1) := by decide +kernel
theorem d6_15 : decode jdk_65_method_121_code 15 = .ok (.newarray .byte, 2) := by decide +kernel
theorem d6_17 : decode jdk_65_method_121_code 17 = .ok (.astore_n 2, 1) := by decide +kernel
theorem d6_18 : decode jdk_65_method_121_code 18 = .ok (.aload_n 0, 1) := by decide +kernel
theorem d6_19 : decode jdk_65_method_121_code 19 = .ok (.iconst 0, 1) := by decide +kernel
theorem d6_20 : decode jdk_65_method_121_code 20 = .ok (.aload_n 2, 1) := by decide +kernel
theorem d6_21 : decode jdk_65_method_121_code 21 = .ok (.iconst 0, 1) := by decide +kernel
theorem d6_22 : decode jdk_65_method_121_code 22 = .ok (.aload_n 0, 1) := by decide +kernel
theorem d6_23 : decode jdk_65_method_121_code 23 = .ok (.arraylength, 1) := by decide +kernel
theorem d6_24 : decode jdk_65_method_121_code 24 = .ok (.iload_n 1, 1) := by decide +kernel
theorem d6_25 : decode jdk_65_method_121_code 25 = .ok (.invokestatic 304, 3) := by decide +kernel
theorem d6_28 : decode jdk_65_method_121_code 28 = .ok (.invokestatic 150, 3) := by decide +kernel
theorem d6_31 : decode jdk_65_method_121_code 31 = .ok (.aload_n 2, 1) := by decide +kernel
theorem d6_32 : decode jdk_65_method_121_code 32 = .ok (.areturn, 1) := by decide +kernel
theorem pn_6 : plainFor (⟨"java/util/Arrays", "copyOf", "([BI)[B"⟩ : MethodName) = true := plainFor_of_name (by first | (simp [plainName, overriddenIn]; done) | decide +kernel)
theorem pd_7 : parseMethodDescriptor "(II)I" = some ⟨[.int, .int], some .int⟩ := by decide +kernel
theorem ef_6 (m : MethodId) (x0 : Addr) (x1 : Int32) : entryFrame m #[(.ref x0), (.int x1)] 3 = mkF m 0 #[.val (.ref x0), .val (.int x1), .unset] [] := by first | (simp [entryFrame, mkF, argsToLocals, Value.category]; done) | rfl
def Q6 (Z : State) (a1 : Addr) (p2 : Int32) (xs : List Int32) (k : Nat) (n : Int32) (h0 : Heap) (n0 : Nat) (v : Option Value) (h : Heap) (L : List Loc) : Prop := ∃ b, v = some (.ref b) ∧ Fr n0 L ∧ Keep h0 h [] ∧ h0.size ≤ b ∧ AI Z h b .byte (xs.take k)
set_option maxRecDepth 65536 in
set_option maxHeartbeats 40000000 in
theorem rm6 (l : Launch) (Z : State) (a0 : Array Value) (hw : ∀ d ∈ tables_1, d.before a0 Z = true) (ws : List Jvm.Cond) (a1 : Addr) (p2 : Int32) (xs : List Int32) (k : Nat) (n : Int32) (h0 : Heap) (n0 : Nat) (Z0 : n0 ≤ h0.size) (V_a1 : AI Z h0 a1 .byte xs) (E_a1 : Exa Z h0 a1 "[B") (hn : n.toInt = (xs.length : Int)) (hn5 : xs.length ≤ 5) (hk : p2.toInt = (k : Int)) (hkl : k ≤ xs.length) :
    MetFree l (⟨"java/util/Arrays", "copyOf", "([BI)[B"⟩ : MethodName) (head1 (Jvm.Cond.code (⟨"java/util/Arrays", "copyOf", "([BI)[B"⟩ : MethodName) jdk_65_method_121_code 3 (some (.array .byte)) :: ws) ({ frames := 1, cells := 1, slots := 5, locals := 40 } : Room)) (fun a U => a = #[(.ref a1), (.int p2)] ∧ Z.Warmed39 U.vm ∧ U.heap = h0) (fun _ _ _ _ _ => True) (fun _ U o U' => ∃ v L, o = .returned v ∧ Q6 Z a1 p2 xs k n h0 n0 v U'.heap L ∧ FrameEnd U o U' L ({ frames := 1, cells := 1, slots := 5, locals := 40 } : Room).cells ({ frames := 1, cells := 1, slots := 5, locals := 40 } : Room).slots) := by
  refine MetFree.of_bodySF pn_6 hisR ?_
  intro p e s m args below meth c s₁ Bd hml0 hP hK
  obtain ⟨rfl, hZ, hh⟩ := hP
  have hx := Bd.exec
  have hby := Bd.bytes
  have hml : c.maxLocals = 3 := hml0
  have hown : s.vm.findClass "java/util/Arrays" = some m.cls := findClass_of_methodNamed Bd.named
  have hnm := (name_of_methodNamed Bd.named Bd.method).1
  have hlk : meth.locks = false := BodyLoose.notSynchronized Bd
  have X0 : Stand p l e ({ frames := 1, cells := 1, slots := 5, locals := 40 } : Room) s m #[(.ref a1), (.int p2)] below meth c s₁ [] 0 0 := Stand.of_body Bd
  have e0 : s₁.heap = h0 := by rw [← hh, Bd.state]; rfl
  have N0 := Fr.nil n0
  show Goes p e below (OwnK s (Q6 Z a1 p2 xs k n h0 n0) ({ frames := 1, cells := 1, slots := 5, locals := 40 } : Room).cells ({ frames := 1, cells := 1, slots := 5, locals := 40 } : Room).slots) s₁ (entryFrame m #[(.ref a1), (.int p2)] 3)
  refine Goes.cast (ef_6 m a1 p2) ?_
  generalize hKK : OwnK s (Q6 Z a1 p2 xs k n h0 n0) ({ frames := 1, cells := 1, slots := 5, locals := 40 } : Room).cells ({ frames := 1, cells := 1, slots := 5, locals := 40 } : Room).slots = KK
  show Goes p e below KK s₁ (mkF m 0 #[.val (.ref a1), .val (.int p2), .unset] [])
  have w_5 := hw _ (List.mem_of_getElem? (i := 5) rfl)
  have w_23 := hw _ (List.mem_of_getElem? (i := 23) rfl)
  have w_24 := hw _ (List.mem_of_getElem? (i := 24) rfl)
  have w_25 := hw _ (List.mem_of_getElem? (i := 25) rfl)
  have w_26 := hw _ (List.mem_of_getElem? (i := 26) rfl)
  have w_27 := hw _ (List.mem_of_getElem? (i := 27) rfl)
  have w_28 := hw _ (List.mem_of_getElem? (i := 28) rfl)
  have w_29 := hw _ (List.mem_of_getElem? (i := 29) rfl)
  have w_30 := hw _ (List.mem_of_getElem? (i := 30) rfl)
  have w_37 := hw _ (List.mem_of_getElem? (i := 37) rfl)
  have w_38 := hw _ (List.mem_of_getElem? (i := 38) rfl)
  have w_40 := hw _ (List.mem_of_getElem? (i := 40) rfl)
  have w_41 := hw _ (List.mem_of_getElem? (i := 41) rfl)
  have w_42 := hw _ (List.mem_of_getElem? (i := 42) rfl)
  have w_43 := hw _ (List.mem_of_getElem? (i := 43) rfl)
  have w_44 := hw _ (List.mem_of_getElem? (i := 44) rfl)
  refine Goes.of (fun t => XS.iloadN X0.here hx rfl (hb hby d6_0) rfl) ?_
  show Goes p e below KK s₁ (mkF m 1 #[.val (.ref a1), .val (.int p2), .unset] [(.int p2)])
  refine Goes.of (fun t => XS.aloadN X0.here hx rfl (hb hby d6_1) rfl rfl) ?_
  show Goes p e below KK s₁ (mkF m 2 #[.val (.ref a1), .val (.int p2), .unset] [(.ref a1), (.int p2)])
  refine Goes.of (AI.arraylength X0 hx hZ e0 V_a1 (j := n) (hn) (g := (mkF m 2 #[.val (.ref a1), .val (.int p2), .unset] [(.ref a1), (.int p2)])) rfl rfl (hb hby d6_2)) ?_
  show Goes p e below KK s₁ (mkF m 3 #[.val (.ref a1), .val (.int p2), .unset] [(.int n), (.int p2)])
  by_cases hc3 : p2 = n
  · refine Goes.of (fun t => XS.icmpNo X0.here hx rfl (hb hby d6_3) rfl (teq hc3).2) ?_
    show Goes p e below KK s₁ (mkF m 6 #[.val (.ref a1), .val (.int p2), .unset] [])
    refine Goes.of (fun t => XS.aloadN X0.here hx rfl (hb hby d6_6) rfl rfl) ?_
    show Goes p e below KK s₁ (mkF m 7 #[.val (.ref a1), .val (.int p2), .unset] [(.ref a1)])
    obtain ⟨T17, h17, X17, e17, E17, V17, B17, st17⟩ := AI.clone X0 hx hZ hown w_37 w_38 w_42 w_40 w_41 w_43 e0 V_a1 E_a1 (g := (mkF m 7 #[.val (.ref a1), .val (.int p2), .unset] [(.ref a1)])) rfl (by rw [hml]; rfl) rfl (hb hby d6_7) (by decide) (W := 0) (cap := 5) (by show 2 * 0 + _ ≤ _; exact Nat.le_of_eq rfl) (by decide) hn5 (by decide) (by decide)
    obtain ⟨b17, g17⟩ : ∃ z, z = h0.size := ⟨_, rfl⟩
    rw [← g17] at V17 B17 st17
    refine Goes.of (st17) ?_
    have ne_a1_b17 : a1 ≠ b17 := Nat.ne_of_lt (Nat.lt_of_lt_of_le V_a1.lt (Nat.le_of_eq g17.symm))
    have g_b17 : n0 ≤ b17 := Nat.le_trans Z0 (Nat.le_of_eq g17.symm)
    have sz_b17 : h0.size ≤ b17 := Nat.le_trans (Keep.refl h0 []).1 (Nat.le_of_eq g17.symm)
    have V_a1_17 : AI Z h17 a1 .byte xs := V_a1.ext E17
    have E_a1_17 : Exa Z h17 a1 "[B" := E_a1.ext E17
    have K17 : Keep h0 h17 [] := (Keep.refl h0 []).ext E17
    have Z17 : n0 ≤ h17.size := Nat.le_trans Z0 E17.1
    show Goes p e below KK T17 (mkF m 10 #[.val (.ref a1), .val (.int p2), .unset] [(.ref b17)])
    obtain ⟨T18, X18, e18, st18⟩ := castY X17 hx hZ hown w_44 e17 (Ins.self B17) (g := (mkF m 10 #[.val (.ref a1), .val (.int p2), .unset] [(.ref b17)])) rfl rfl (hb hby d6_10)
    refine Goes.of (st18) ?_
    show Goes p e below KK T18 (mkF m 13 #[.val (.ref a1), .val (.int p2), .unset] [(.ref b17)])
    rw [← hKK]
    refine Goes.retRef X18 hx hlk rfl rfl Bd.returns (hb hby d6_13) ?_ (by decide) (by decide)
    rw [e18]
    exact ⟨b17, rfl, N0, K17, sz_b17, by rw [List.take_of_length_le (by have q := congrArg Int32.toInt hc3; omega)]; exact V17⟩
  · refine Goes.of (fun t => XS.icmpYes X0.here hx rfl (pc0 := 3) (pc' := 14) rfl (hb hby d6_3) rfl (feq hc3).2 (by decide) (by decide)) ?_
    show Goes p e below KK s₁ (mkF m 14 #[.val (.ref a1), .val (.int p2), .unset] [])
    refine Goes.of (fun t => XS.iloadN X0.here hx rfl (hb hby d6_14) rfl) ?_
    show Goes p e below KK s₁ (mkF m 15 #[.val (.ref a1), .val (.int p2), .unset] [(.int p2)])
    obtain ⟨T19, h19, k19, X19, e19, E19, A19, B19, st19⟩ := newPE (aty := .byte) X0 hx hZ w_5 e0 (g := (mkF m 15 #[.val (.ref a1), .val (.int p2), .unset] [(.int p2)])) rfl (hb hby d6_15) rfl (fun q => by rw [Int32.lt_iff_toInt_lt, hk] at q; have z : (0 : Int32).toInt = 0 := rfl; omega) (cap := 5) (by have z : p2.toNatClampNeg = p2.toInt.toNat := rfl; omega) (by decide) (by decide) (by decide) (ad := "[B") (by decide)
    obtain ⟨b19, g19⟩ : ∃ z, z = h0.size := ⟨_, rfl⟩
    rw [← g19] at A19 B19 st19
    refine Goes.of (st19) ?_
    have ne_a1_b19 : a1 ≠ b19 := Nat.ne_of_lt (Nat.lt_of_lt_of_le V_a1.lt (Nat.le_of_eq g19.symm))
    have g_b19 : n0 ≤ b19 := Nat.le_trans Z0 (Nat.le_of_eq g19.symm)
    have sz_b19 : h0.size ≤ b19 := Nat.le_trans (Keep.refl h0 []).1 (Nat.le_of_eq g19.symm)
    have V_a1_19 : AI Z h19 a1 .byte xs := V_a1.ext E19
    have E_a1_19 : Exa Z h19 a1 "[B" := E_a1.ext E19
    have K19 : Keep h0 h19 [] := (Keep.refl h0 []).ext E19
    have Z19 : n0 ≤ h19.size := Nat.le_trans Z0 E19.1
    have V_b19 : AI Z h19 b19 .byte (List.replicate k (0 : Int32)) := AI.fresh (k := k) (by simp) (hk) A19
    show Goes p e below KK T19 (mkF m 17 #[.val (.ref a1), .val (.int p2), .unset] [(.ref b19)])
    refine Goes.of (fun t => XS.astoreN X19.here hx rfl (hb hby d6_17) rfl rfl (l' := #[.val (.ref a1), .val (.int p2), .val (.ref b19)]) rfl) ?_
    show Goes p e below KK T19 (mkF m 18 #[.val (.ref a1), .val (.int p2), .val (.ref b19)] [])
    refine Goes.of (fun t => XS.aloadN X19.here hx rfl (hb hby d6_18) rfl rfl) ?_
    show Goes p e below KK T19 (mkF m 19 #[.val (.ref a1), .val (.int p2), .val (.ref b19)] [(.ref a1)])
    refine Goes.of (fun t => XS.iconst X19.here hx rfl (hb hby d6_19)) ?_
    show Goes p e below KK T19 (mkF m 20 #[.val (.ref a1), .val (.int p2), .val (.ref b19)] [(.int (0 : Int32)), (.ref a1)])
    refine Goes.of (fun t => XS.aloadN X19.here hx rfl (hb hby d6_20) rfl rfl) ?_
    show Goes p e below KK T19 (mkF m 21 #[.val (.ref a1), .val (.int p2), .val (.ref b19)] [(.ref b19), (.int (0 : Int32)), (.ref a1)])
    refine Goes.of (fun t => XS.iconst X19.here hx rfl (hb hby d6_21)) ?_
    show Goes p e below KK T19 (mkF m 22 #[.val (.ref a1), .val (.int p2), .val (.ref b19)] [(.int (0 : Int32)), (.ref b19), (.int (0 : Int32)), (.ref a1)])
    refine Goes.of (fun t => XS.aloadN X19.here hx rfl (hb hby d6_22) rfl rfl) ?_
    show Goes p e below KK T19 (mkF m 23 #[.val (.ref a1), .val (.int p2), .val (.ref b19)] [(.ref a1), (.int (0 : Int32)), (.ref b19), (.int (0 : Int32)), (.ref a1)])
    refine Goes.of (AI.arraylength X19 hx hZ e19 V_a1_19 (j := n) (hn) (g := (mkF m 23 #[.val (.ref a1), .val (.int p2), .val (.ref b19)] [(.ref a1), (.int (0 : Int32)), (.ref b19), (.int (0 : Int32)), (.ref a1)])) rfl rfl (hb hby d6_23)) ?_
    show Goes p e below KK T19 (mkF m 24 #[.val (.ref a1), .val (.int p2), .val (.ref b19)] [(.int n), (.int (0 : Int32)), (.ref b19), (.int (0 : Int32)), (.ref a1)])
    refine Goes.of (fun t => XS.iloadN X19.here hx rfl (hb hby d6_24) rfl) ?_
    show Goes p e below KK T19 (mkF m 25 #[.val (.ref a1), .val (.int p2), .val (.ref b19)] [(.int p2), (.int n), (.int (0 : Int32)), (.ref b19), (.int (0 : Int32)), (.ref a1)])
    obtain ⟨_, _, ⟨T20, L20, k20, n20⟩, -, X20, ⟨Lc20, hQ20, l20, y20, z20⟩, st20⟩ := Jvm.LawKit.callS X19 hx (y := (⟨"java/lang/Math", "min", "(II)I"⟩ : MethodName)) hown (mvT hZ w_23) (mvT hZ w_24) (mvT hZ w_25) (mvT hZ w_26) (by decide) (backOf (W := 4) (rm7 l Z a0 hw [] n p2  h19 n0 Z19 ) hZ w_26 w_25 (by decide) (by decide)) (g := (mkF m 25 #[.val (.ref a1), .val (.int p2), .val (.ref b19)] [(.int p2), (.int n), (.int (0 : Int32)), (.ref b19), (.int (0 : Int32)), (.ref a1)])) rfl (by rw [hml]; rfl) (argsL := [(.int n), (.int p2)]) (rest := [(.int (0 : Int32)), (.ref b19), (.int (0 : Int32)), (.ref a1)]) (lenOf pd_7 rfl) rfl (by show 2 * 0 + _ ≤ _; exact Nat.le_of_eq rfl) (hb hby d6_25) (fun _ _ => ⟨rfl, e19, (by decide : 1 + 0 ≤ _), (by decide : 5 + 0 ≤ _)⟩)
    dsimp only [Pt.U, Pt.locs, Pt.cells, Pt.slots] at X20 l20 y20 z20 st20 hQ20
    subst l20 y20 z20
    obtain ⟨rfl, N20q, e20⟩ := hQ20
    have N20 := Fr.app N0 N20q
    refine Goes.of st20 ?_
    show Goes p e below KK T20 (mkF m 28 #[.val (.ref a1), .val (.int p2), .val (.ref b19)] [(.int (f7 n p2)), (.int (0 : Int32)), (.ref b19), (.int (0 : Int32)), (.ref a1)])
    have hmn : (f7 n p2).toInt = (k : Int) := by rw [own_min n p2 (by omega)]; exact hk
    obtain ⟨T21, h21, L21, X21, e21, N21, Kw21, V21, st21⟩ := AI.copy X20 hx hZ hown w_27 w_30 w_28 w_29 e20 V_a1_19 V_b19 rfl (i := 0) (j := 0) (k := k) rfl rfl hmn (by omega) (by rw [List.length_replicate]; omega) N20 g_b19 (g := (mkF m 28 #[.val (.ref a1), .val (.int p2), .val (.ref b19)] [(.int (f7 n p2)), (.int (0 : Int32)), (.ref b19), (.int (0 : Int32)), (.ref a1)])) rfl (by rw [hml]; rfl) rfl (hb hby d6_28) (by decide) (W := 0) (by show 2 * 0 + _ ≤ _; exact Nat.le_of_eq rfl) (by decide)
    refine Goes.of (st21) ?_
    have V_a1_19_21 : AI Z h21 a1 .byte xs := V_a1_19.keep Kw21 (ninS ne_a1_b19 nin0)
    have E_a1_19_21 : Exa Z h21 a1 "[B" := E_a1_19.keep Kw21
    have B19_21 : Exa Z h21 b19 "[B" := B19.keep Kw21
    have K21 : Keep h0 h21 [] := K19.trans Kw21 (allS (Or.inr sz_b19) all0)
    have Z21 : n0 ≤ h21.size := Nat.le_trans Z19 Kw21.1
    have Vc21 : AI Z h21 b19 .byte (xs.take k) := by simpa using V21
    show Goes p e below KK T21 (mkF m 31 #[.val (.ref a1), .val (.int p2), .val (.ref b19)] [])
    refine Goes.of (fun t => XS.aloadN X21.here hx rfl (hb hby d6_31) rfl rfl) ?_
    show Goes p e below KK T21 (mkF m 32 #[.val (.ref a1), .val (.int p2), .val (.ref b19)] [(.ref b19)])
    rw [← hKK]
    refine Goes.retRef X21 hx hlk rfl rfl Bd.returns (hb hby d6_32) ?_ (by decide) (by decide)
    rw [e21]
    exact ⟨b19, rfl, N21, K21, sz_b19, Vc21⟩
theorem d5_0 : decode prog_20_method_5_code 0 = .ok (.aload_n 0, 1) := by decide +kernel
theorem d5_1 : decode prog_20_method_5_code 1 = .ok (.arraylength, 1) := by decide +kernel
theorem d5_2 : decode prog_20_method_5_code 2 = .ok (.iconst 1, 1) := by decide +kernel
theorem d5_3 : decode prog_20_method_5_code 3 = .ok (.isub, 1) := by decide +kernel
theorem d5_4 : decode prog_20_method_5_code 4 = .ok (.istore_n 1, 1) := by decide +kernel
theorem d5_5 : decode prog_20_method_5_code 5 = .ok (.aload_n 0, 1) := by decide +kernel
theorem d5_6 : decode prog_20_method_5_code 6 = .ok (.iload_n 1, 1) := by decide +kernel
theorem d5_7 : decode prog_20_method_5_code 7 = .ok (.baload, 1) := by decide +kernel
theorem d5_8 : decode prog_20_method_5_code 8 = .ok (.iconst (-1), 1) := by decide +kernel
theorem d5_9 : decode prog_20_method_5_code 9 = .ok (.if_icmp .ne 9, 3) := by decide +kernel
theorem d5_12 : decode prog_20_method_5_code 12 = .ok (.iinc 1 (-1), 3) := by decide +kernel
theorem d5_15 : decode prog_20_method_5_code 15 = .ok (.goto (-10), 3) := by decide +kernel
theorem d5_18 : decode prog_20_method_5_code 18 = .ok (.aload_n 0, 1) := by decide +kernel
theorem d5_19 : decode prog_20_method_5_code 19 = .ok (.iload_n 1, 1) := by decide +kernel
theorem d5_20 : decode prog_20_method_5_code 20 = .ok (.iconst 1, 1) := by decide +kernel
theorem d5_21 : decode prog_20_method_5_code 21 = .ok (.iadd, 1) := by decide +kernel
theorem d5_22 : decode prog_20_method_5_code 22 = .ok (.invokestatic 48, 3) := by decide +kernel
theorem d5_25 : decode prog_20_method_5_code 25 = .ok (.astore_n 2, 1) := by decide +kernel
theorem d5_26 : decode prog_20_method_5_code 26 = .ok (.aload_n 2, 1) := by decide +kernel
theorem d5_27 : decode prog_20_method_5_code 27 = .ok (.iload_n 1, 1) := by decide +kernel
theorem d5_28 : decode prog_20_method_5_code 28 = .ok (.dup2, 1) := by decide +kernel
theorem d5_29 : decode prog_20_method_5_code 29 = .ok (.baload, 1) := by decide +kernel
theorem d5_30 : decode prog_20_method_5_code 30 = .ok (.iconst 1, 1) := by decide +kernel
theorem d5_31 : decode prog_20_method_5_code 31 = .ok (.iadd, 1) := by decide +kernel
theorem d5_32 : decode prog_20_method_5_code 32 = .ok (.i2b, 1) := by decide +kernel
theorem d5_33 : decode prog_20_method_5_code 33 = .ok (.bastore, 1) := by decide +kernel
theorem d5_34 : decode prog_20_method_5_code 34 = .ok (.aload_n 2, 1) := by decide +kernel
theorem d5_35 : decode prog_20_method_5_code 35 = .ok (.areturn, 1) := by decide +kernel
theorem pn_5 : plainFor (⟨"com/example/iocd/iocd/store/RecordKeys", "after", "([B)[B"⟩ : MethodName) = true := plainFor_of_name (by first | (simp [plainName, overriddenIn]; done) | decide +kernel)
theorem pd_9 : parseMethodDescriptor "([BI)[B" = some ⟨[(.array .byte), .int], some (.array .byte)⟩ := by decide +kernel
theorem ef_5 (m : MethodId) (x0 : Addr) : entryFrame m #[(.ref x0)] 3 = mkF m 0 #[.val (.ref x0), .unset, .unset] [] := by first | (simp [entryFrame, mkF, argsToLocals, Value.category]; done) | rfl
def Q5 (Z : State) (a1 : Addr) (xs : List Int32) (n : Int32) (mm : Nat) (y : Int32) (h0 : Heap) (n0 : Nat) (v : Option Value) (h : Heap) (L : List Loc) : Prop := ∃ b, v = some (.ref b) ∧ Fr n0 L ∧ Keep h0 h [] ∧ h0.size ≤ b ∧ AI Z h b .byte ((xs.take (mm + 1)).set mm (nar .byte ((y + (1 : Int32)).toInt8.toInt32)))
set_option maxRecDepth 65536 in
set_option maxHeartbeats 40000000 in
theorem rm5 (l : Launch) (Z : State) (a0 : Array Value) (hw : ∀ d ∈ tables_1, d.before a0 Z = true) (ws : List Jvm.Cond) (a1 : Addr) (xs : List Int32) (n : Int32) (mm : Nat) (y : Int32) (h0 : Heap) (n0 : Nat) (Z0 : n0 ≤ h0.size) (V_a1 : AI Z h0 a1 .byte xs) (E_a1 : Exa Z h0 a1 "[B") (hn : n.toInt = (xs.length : Int)) (hn5 : xs.length ≤ 5) (hm : mm < xs.length) (hy : xs[mm]? = some y) (hyn : y ≠ -1) (hup : ∀ j, mm < j → j < xs.length → xs[j]? = some (-1)) :
    MetFree l (⟨"com/example/iocd/iocd/store/RecordKeys", "after", "([B)[B"⟩ : MethodName) (head1 (Jvm.Cond.code (⟨"com/example/iocd/iocd/store/RecordKeys", "after", "([B)[B"⟩ : MethodName) prog_20_method_5_code 3 (some (.array .byte)) :: ws) ({ frames := 2, cells := 1, slots := 5, locals := 54 } : Room)) (fun a U => a = #[(.ref a1)] ∧ Z.Warmed39 U.vm ∧ U.heap = h0) (fun _ _ _ _ _ => True) (fun _ U o U' => ∃ v L, o = .returned v ∧ Q5 Z a1 xs n mm y h0 n0 v U'.heap L ∧ FrameEnd U o U' L ({ frames := 2, cells := 1, slots := 5, locals := 54 } : Room).cells ({ frames := 2, cells := 1, slots := 5, locals := 54 } : Room).slots) := by
  refine MetFree.of_bodySF pn_5 hisR ?_
  intro p e s m args below meth c s₁ Bd hml0 hP hK
  obtain ⟨rfl, hZ, hh⟩ := hP
  have hx := Bd.exec
  have hby := Bd.bytes
  have hml : c.maxLocals = 3 := hml0
  have hown : s.vm.findClass "com/example/iocd/iocd/store/RecordKeys" = some m.cls := findClass_of_methodNamed Bd.named
  have hnm := (name_of_methodNamed Bd.named Bd.method).1
  have hlk : meth.locks = false := BodyLoose.notSynchronized Bd
  have X0 : Stand p l e ({ frames := 2, cells := 1, slots := 5, locals := 54 } : Room) s m #[(.ref a1)] below meth c s₁ [] 0 0 := Stand.of_body Bd
  have e0 : s₁.heap = h0 := by rw [← hh, Bd.state]; rfl
  have N0 := Fr.nil n0
  show Goes p e below (OwnK s (Q5 Z a1 xs n mm y h0 n0) ({ frames := 2, cells := 1, slots := 5, locals := 54 } : Room).cells ({ frames := 2, cells := 1, slots := 5, locals := 54 } : Room).slots) s₁ (entryFrame m #[(.ref a1)] 3)
  refine Goes.cast (ef_5 m a1) ?_
  generalize hKK : OwnK s (Q5 Z a1 xs n mm y h0 n0) ({ frames := 2, cells := 1, slots := 5, locals := 54 } : Room).cells ({ frames := 2, cells := 1, slots := 5, locals := 54 } : Room).slots = KK
  show Goes p e below KK s₁ (mkF m 0 #[.val (.ref a1), .unset, .unset] [])
  have w_19 := hw _ (List.mem_of_getElem? (i := 19) rfl)
  have w_20 := hw _ (List.mem_of_getElem? (i := 20) rfl)
  have w_21 := hw _ (List.mem_of_getElem? (i := 21) rfl)
  have w_22 := hw _ (List.mem_of_getElem? (i := 22) rfl)
  refine Goes.of (fun t => XS.aloadN X0.here hx rfl (hb hby d5_0) rfl rfl) ?_
  show Goes p e below KK s₁ (mkF m 1 #[.val (.ref a1), .unset, .unset] [(.ref a1)])
  refine Goes.of (AI.arraylength X0 hx hZ e0 V_a1 (j := n) (hn) (g := (mkF m 1 #[.val (.ref a1), .unset, .unset] [(.ref a1)])) rfl rfl (hb hby d5_1)) ?_
  show Goes p e below KK s₁ (mkF m 2 #[.val (.ref a1), .unset, .unset] [(.int n)])
  refine Goes.of (fun t => XS.iconst X0.here hx rfl (hb hby d5_2)) ?_
  show Goes p e below KK s₁ (mkF m 3 #[.val (.ref a1), .unset, .unset] [(.int (1 : Int32)), (.int n)])
  refine Goes.of (fun t => XS.isub X0.here hx rfl (hb hby d5_3) rfl) ?_
  show Goes p e below KK s₁ (mkF m 4 #[.val (.ref a1), .unset, .unset] [(.int (n - (1 : Int32)))])
  refine Goes.of (fun t => XS.istoreN X0.here hx rfl (hb hby d5_4) rfl (l' := #[.val (.ref a1), .val (.int (n - (1 : Int32))), .unset]) rfl) ?_
  show Goes p e below KK s₁ (mkF m 5 #[.val (.ref a1), .val (.int (n - (1 : Int32))), .unset] [])
  obtain ⟨lz, hz⟩ : ∃ lz : Int32, lz.toInt = (mm : Int) := ⟨mm.toInt32, len_toInt (by omega)⟩
  have lp : ∀ (d : Nat) (zz : Int32), zz.toInt = ((mm + d : Nat) : Int) → mm + d < xs.length → ∀ t, Steps p.tables e below (s₁.setTop (mkF m 18 #[.val (.ref a1), .val (.int lz), .unset] [])) t → Steps p.tables e below (s₁.setTop (mkF m 5 #[.val (.ref a1), .val (.int zz), .unset] [])) t := by
    intro d
    induction d with
    | zero =>
      intro zz hzz hlt t k
      obtain rfl : lz = zz := Int32.toInt_inj.mp (by rw [hzz, hz]; rfl)
      refine XS.aloadN X0.here hx rfl (hb hby d5_5) rfl rfl ?_
      show Steps p.tables e below (s₁.setTop (mkF m 6 #[.val (.ref a1), .val (.int lz), .unset] [(.ref a1)])) _
      refine XS.iloadN X0.here hx rfl (hb hby d5_6) rfl ?_
      show Steps p.tables e below (s₁.setTop (mkF m 7 #[.val (.ref a1), .val (.int lz), .unset] [(.int lz), (.ref a1)])) _
      refine (AI.baload X0 hx hZ e0 V_a1 (i := mm) (j := lz) (x := y) (hz) (hy) (g := (mkF m 7 #[.val (.ref a1), .val (.int lz), .unset] [(.int lz), (.ref a1)])) rfl rfl (hb hby d5_7)) _ ?_
      show Steps p.tables e below (s₁.setTop (mkF m 8 #[.val (.ref a1), .val (.int lz), .unset] [(.int y)])) _
      refine XS.iconst X0.here hx rfl (hb hby d5_8) ?_
      show Steps p.tables e below (s₁.setTop (mkF m 9 #[.val (.ref a1), .val (.int lz), .unset] [(.int (-1 : Int32)), (.int y)])) _
      refine XS.icmpYes X0.here hx rfl (pc0 := 9) (pc' := 18) rfl (hb hby d5_9) rfl (feq (show ¬ (y = (-1 : Int32)) from hyn)).2 (by decide) (by decide) ?_
      show Steps p.tables e below (s₁.setTop (mkF m 18 #[.val (.ref a1), .val (.int lz), .unset] [])) _
      exact k
    | succ d ih =>
      intro zz hzz hlt t k
      refine XS.aloadN X0.here hx rfl (hb hby d5_5) rfl rfl ?_
      show Steps p.tables e below (s₁.setTop (mkF m 6 #[.val (.ref a1), .val (.int zz), .unset] [(.ref a1)])) _
      refine XS.iloadN X0.here hx rfl (hb hby d5_6) rfl ?_
      show Steps p.tables e below (s₁.setTop (mkF m 7 #[.val (.ref a1), .val (.int zz), .unset] [(.int zz), (.ref a1)])) _
      refine (AI.baload X0 hx hZ e0 V_a1 (i := (mm + (d + 1))) (j := zz) (x := (-1 : Int32)) (hzz) (hup (mm + (d + 1)) (by omega) hlt) (g := (mkF m 7 #[.val (.ref a1), .val (.int zz), .unset] [(.int zz), (.ref a1)])) rfl rfl (hb hby d5_7)) _ ?_
      show Steps p.tables e below (s₁.setTop (mkF m 8 #[.val (.ref a1), .val (.int zz), .unset] [(.int (-1 : Int32))])) _
      refine XS.iconst X0.here hx rfl (hb hby d5_8) ?_
      show Steps p.tables e below (s₁.setTop (mkF m 9 #[.val (.ref a1), .val (.int zz), .unset] [(.int (-1 : Int32)), (.int (-1 : Int32))])) _
      refine XS.icmpNo X0.here hx rfl (hb hby d5_9) rfl (teq (show (-1 : Int32) = (-1 : Int32) from rfl)).2 ?_
      show Steps p.tables e below (s₁.setTop (mkF m 12 #[.val (.ref a1), .val (.int zz), .unset] [])) _
      refine XS.iinc X0.here hx rfl (hb hby d5_12) rfl (l' := #[.val (.ref a1), .val (.int (zz + (-1 : Int32))), .unset]) rfl ?_
      show Steps p.tables e below (s₁.setTop (mkF m 15 #[.val (.ref a1), .val (.int (zz + (-1 : Int32))), .unset] [])) _
      refine XS.goto X0.here hx rfl (pc0 := 15) (pc' := 5) rfl (hb hby d5_15) (by decide) (by decide) ?_
      show Steps p.tables e below (s₁.setTop (mkF m 5 #[.val (.ref a1), .val (.int (zz + (-1 : Int32))), .unset] [])) _
      refine ih _ ?_ (by omega) _ k
      rw [Jvm.Kit.i32_add (by rw [hzz]; show -2 ^ 31 ≤ ((mm + (d + 1) : Nat) : Int) + (-1); omega) (by rw [hzz]; show ((mm + (d + 1) : Nat) : Int) + (-1) < 2 ^ 31; omega), hzz]
      show ((mm + (d + 1) : Nat) : Int) + (-1) = _
      omega
  refine Goes.of (lp (xs.length - 1 - mm) _ ?_ (by omega)) ?_
  · rw [Jvm.Kit.i32_sub (by rw [hn]; show -2 ^ 31 ≤ (xs.length : Int) - 1; omega) (by rw [hn]; show (xs.length : Int) - 1 < 2 ^ 31; omega), hn]
    show (xs.length : Int) - 1 = _
    omega
  show Goes p e below KK s₁ (mkF m 18 #[.val (.ref a1), .val (.int lz), .unset] [])
  refine Goes.of (fun t => XS.aloadN X0.here hx rfl (hb hby d5_18) rfl rfl) ?_
  show Goes p e below KK s₁ (mkF m 19 #[.val (.ref a1), .val (.int lz), .unset] [(.ref a1)])
  refine Goes.of (fun t => XS.iloadN X0.here hx rfl (hb hby d5_19) rfl) ?_
  show Goes p e below KK s₁ (mkF m 20 #[.val (.ref a1), .val (.int lz), .unset] [(.int lz), (.ref a1)])
  refine Goes.of (fun t => XS.iconst X0.here hx rfl (hb hby d5_20)) ?_
  show Goes p e below KK s₁ (mkF m 21 #[.val (.ref a1), .val (.int lz), .unset] [(.int (1 : Int32)), (.int lz), (.ref a1)])
  refine Goes.of (fun t => XS.iadd X0.here hx rfl (hb hby d5_21) rfl) ?_
  show Goes p e below KK s₁ (mkF m 22 #[.val (.ref a1), .val (.int lz), .unset] [(.int (lz + (1 : Int32))), (.ref a1)])
  obtain ⟨_, _, ⟨T22, L22, k22, n22⟩, -, X22, ⟨Lc22, hQ22, l22, y22, z22⟩, st22⟩ := Jvm.LawKit.callS X0 hx (y := (⟨"java/util/Arrays", "copyOf", "([BI)[B"⟩ : MethodName)) hown (mvT hZ w_19) (mvT hZ w_20) (mvT hZ w_21) (mvT hZ w_22) (by decide) (backOf (W := 0) (rm6 l Z a0 hw [] a1 (lz + (1 : Int32)) xs (mm + 1) n h0 n0 Z0 V_a1 E_a1 hn hn5 (by rw [Jvm.Kit.i32_add (by rw [hz]; show -2 ^ 31 ≤ (mm : Int) + 1; omega) (by rw [hz]; show (mm : Int) + 1 < 2 ^ 31; omega), hz]; rfl) (by omega)) hZ w_22 w_21 (by decide) (by decide)) (g := (mkF m 22 #[.val (.ref a1), .val (.int lz), .unset] [(.int (lz + (1 : Int32))), (.ref a1)])) rfl (by rw [hml]; rfl) (argsL := [(.ref a1), (.int (lz + (1 : Int32)))]) (rest := []) (lenOf pd_9 rfl) rfl (by show 2 * 0 + _ ≤ _; exact Nat.le_of_eq rfl) (hb hby d5_22) (fun _ _ => ⟨rfl, e0, (by decide : 0 + 1 ≤ _), (by decide : 0 + 5 ≤ _)⟩)
  dsimp only [Pt.U, Pt.locs, Pt.cells, Pt.slots] at X22 l22 y22 z22 st22 hQ22
  subst l22 y22 z22
  obtain ⟨r22, rfl, N22q, Kc22, hb22, V22⟩ := hQ22
  have N22 := Fr.app N0 N22q
  have ne_a1_r22 : a1 ≠ r22 := Nat.ne_of_lt (Nat.lt_of_lt_of_le V_a1.lt hb22)
  have g_r22 : n0 ≤ r22 := Nat.le_trans Z0 hb22
  have sz_r22 : h0.size ≤ r22 := Nat.le_trans (Keep.refl h0 []).1 hb22
  have V_a1_22 : AI Z T22.heap a1 .byte xs := V_a1.keep Kc22 nin0
  have E_a1_22 : Exa Z T22.heap a1 "[B" := E_a1.keep Kc22
  have K22 : Keep h0 T22.heap [] := (Keep.refl h0 []).trans Kc22 all0
  have Z22 : n0 ≤ T22.heap.size := Nat.le_trans Z0 Kc22.1
  have e22 : T22.heap = T22.heap := rfl
  refine Goes.of st22 ?_
  show Goes p e below KK T22 (mkF m 25 #[.val (.ref a1), .val (.int lz), .unset] [(.ref r22)])
  refine Goes.of (fun t => XS.astoreN X22.here hx rfl (hb hby d5_25) rfl rfl (l' := #[.val (.ref a1), .val (.int lz), .val (.ref r22)]) rfl) ?_
  show Goes p e below KK T22 (mkF m 26 #[.val (.ref a1), .val (.int lz), .val (.ref r22)] [])
  refine Goes.of (fun t => XS.aloadN X22.here hx rfl (hb hby d5_26) rfl rfl) ?_
  show Goes p e below KK T22 (mkF m 27 #[.val (.ref a1), .val (.int lz), .val (.ref r22)] [(.ref r22)])
  refine Goes.of (fun t => XS.iloadN X22.here hx rfl (hb hby d5_27) rfl) ?_
  show Goes p e below KK T22 (mkF m 28 #[.val (.ref a1), .val (.int lz), .val (.ref r22)] [(.int lz), (.ref r22)])
  refine Goes.of (fun t => XT.dup2 X22.here hx rfl (hb hby d5_28) rfl rfl rfl) ?_
  show Goes p e below KK T22 (mkF m 29 #[.val (.ref a1), .val (.int lz), .val (.ref r22)] [(.int lz), (.ref r22), (.int lz), (.ref r22)])
  refine Goes.of (AI.baload X22 hx hZ e22 V22 (i := mm) (j := lz) (x := y) (hz) (by rw [List.getElem?_take_of_lt (by omega)]; exact hy) (g := (mkF m 29 #[.val (.ref a1), .val (.int lz), .val (.ref r22)] [(.int lz), (.ref r22), (.int lz), (.ref r22)])) rfl rfl (hb hby d5_29)) ?_
  show Goes p e below KK T22 (mkF m 30 #[.val (.ref a1), .val (.int lz), .val (.ref r22)] [(.int y), (.int lz), (.ref r22)])
  refine Goes.of (fun t => XS.iconst X22.here hx rfl (hb hby d5_30)) ?_
  show Goes p e below KK T22 (mkF m 31 #[.val (.ref a1), .val (.int lz), .val (.ref r22)] [(.int (1 : Int32)), (.int y), (.int lz), (.ref r22)])
  refine Goes.of (fun t => XS.iadd X22.here hx rfl (hb hby d5_31) rfl) ?_
  show Goes p e below KK T22 (mkF m 32 #[.val (.ref a1), .val (.int lz), .val (.ref r22)] [(.int (y + (1 : Int32))), (.int lz), (.ref r22)])
  refine Goes.of (fun t => XT.i2b X22.here hx rfl (hb hby d5_32) rfl) ?_
  show Goes p e below KK T22 (mkF m 33 #[.val (.ref a1), .val (.int lz), .val (.ref r22)] [(.int ((y + (1 : Int32)).toInt8.toInt32)), (.int lz), (.ref r22)])
  obtain ⟨T23, h23, X23, e23, W23, V23, st23⟩ := AI.bastore X22 hx hZ e22 V22 (i := mm) (j := lz) (hz) (by rw [List.length_take]; omega) (g := (mkF m 33 #[.val (.ref a1), .val (.int lz), .val (.ref r22)] [(.int ((y + (1 : Int32)).toInt8.toInt32)), (.int lz), (.ref r22)])) rfl rfl (hb hby d5_33)
  refine Goes.of (st23) ?_
  have V_a1_22_23 : AI Z h23 a1 .byte xs := V_a1_22.other W23 ne_a1_r22
  have E_a1_22_23 : Exa Z h23 a1 "[B" := E_a1_22.wr W23
  have K23 : Keep h0 h23 [] := K22.wr W23 (Or.inr sz_r22)
  have Z23 : n0 ≤ h23.size := Nat.le_trans Z22 (Keep.of_wr W23).1
  have N23 := Fr.snoc X23 N22 g_r22
  have V_r22_23 : AI Z h23 r22 .byte ((xs.take (mm + 1)).set mm (nar .byte ((y + (1 : Int32)).toInt8.toInt32))) := V23
  show Goes p e below KK T23 (mkF m 34 #[.val (.ref a1), .val (.int lz), .val (.ref r22)] [])
  refine Goes.of (fun t => XS.aloadN X23.here hx rfl (hb hby d5_34) rfl rfl) ?_
  show Goes p e below KK T23 (mkF m 35 #[.val (.ref a1), .val (.int lz), .val (.ref r22)] [(.ref r22)])
  rw [← hKK]
  refine Goes.retRef X23 hx hlk rfl rfl Bd.returns (hb hby d5_35) ?_ (by decide) (by decide)
  rw [e23]
  exact ⟨r22, rfl, N23, K23, sz_r22, V_r22_23⟩
theorem d8_0 : decode method_7_code 0 = .ok (.iload_n 2, 1) := by decide +kernel
theorem d8_1 : decode method_7_code 1 = .ok (.ifCond .le 14, 3) := by decide +kernel
theorem d8_4 : decode method_7_code 4 = .ok (.aload_n 0, 1) := by decide +kernel
theorem d8_5 : decode method_7_code 5 = .ok (.iconst 0, 1) := by decide +kernel
theorem d8_6 : decode method_7_code 6 = .ok (.baload, 1) := by decide +kernel
theorem d8_7 : decode method_7_code 7 = .ok (.aload_n 1, 1) := by decide +kernel
theorem d8_8 : decode method_7_code 8 = .ok (.iconst 0, 1) := by decide +kernel
theorem d8_9 : decode method_7_code 9 = .ok (.baload, 1) := by decide +kernel
theorem d8_10 : decode method_7_code 10 = .ok (.if_icmp .eq 5, 3) := by decide +kernel
theorem d8_13 : decode method_7_code 13 = .ok (.iconst 0, 1) := by decide +kernel
theorem d8_14 : decode method_7_code 14 = .ok (.ireturn, 1) := by decide +kernel
theorem d8_15 : decode method_7_code 15 = .ok (.iload_n 2, 1) := by decide +kernel
theorem d8_16 : decode method_7_code 16 = .ok (.iconst 1, 1) := by decide +kernel
theorem d8_17 : decode method_7_code 17 = .ok (.if_icmp .le 14, 3) := by decide +kernel
theorem d8_20 : decode method_7_code 20 = .ok (.aload_n 0, 1) := by decide +kernel
theorem d8_21 : decode method_7_code 21 = .ok (.iconst 1, 1) := by decide +kernel
theorem d8_22 : decode method_7_code 22 = .ok (.baload, 1) := by decide +kernel
theorem d8_23 : decode method_7_code 23 = .ok (.aload_n 1, 1) := by decide +kernel
theorem d8_24 : decode method_7_code 24 = .ok (.iconst 1, 1) := by decide +kernel
theorem d8_25 : decode method_7_code 25 = .ok (.baload, 1) := by decide +kernel
theorem d8_26 : decode method_7_code 26 = .ok (.if_icmp .eq 5, 3) := by decide +kernel
theorem d8_29 : decode method_7_code 29 = .ok (.iconst 0, 1) := by decide +kernel
theorem d8_30 : decode method_7_code 30 = .ok (.ireturn, 1) := by decide +kernel
theorem d8_31 : decode method_7_code 31 = .ok (.iload_n 2, 1) := by decide +kernel
theorem d8_32 : decode method_7_code 32 = .ok (.iconst 2, 1) := by decide +kernel
theorem d8_33 : decode method_7_code 33 = .ok (.if_icmp .le 14, 3) := by decide +kernel
theorem d8_36 : decode method_7_code 36 = .ok (.aload_n 0, 1) := by decide +kernel
theorem d8_37 : decode method_7_code 37 = .ok (.iconst 2, 1) := by decide +kernel
theorem d8_38 : decode method_7_code 38 = .ok (.baload, 1) := by decide +kernel
theorem d8_39 : decode method_7_code 39 = .ok (.aload_n 1, 1) := by decide +kernel
theorem d8_40 : decode method_7_code 40 = .ok (.iconst 2, 1) := by decide +kernel
theorem d8_41 : decode method_7_code 41 = .ok (.baload, 1) := by decide +kernel
theorem d8_42 : decode method_7_code 42 = .ok (.if_icmp .eq 5, 3) := by decide +kernel
theorem d8_45 : decode method_7_code 45 = .ok (.iconst 0, 1) := by decide +kernel
theorem d8_46 : decode method_7_code 46 = .ok (.ireturn, 1) := by decide +kernel
theorem d8_47 : decode method_7_code 47 = .ok (.iload_n 2, 1) := by decide +kernel
theorem d8_48 : decode method_7_code 48 = .ok (.iconst 3, 1) := by decide +kernel
theorem d8_49 : decode method_7_code 49 = .ok (.if_icmp .le 14, 3) := by decide +kernel
theorem d8_52 : decode method_7_code 52 = .ok (.aload_n 0, 1) := by decide +kernel
theorem d8_53 : decode method_7_code 53 = .ok (.iconst 3, 1) := by decide +kernel
theorem d8_54 : decode method_7_code 54 = .ok (.baload, 1) := by decide +kernel
theorem d8_55 : decode method_7_code 55 = .ok (.aload_n 1, 1) := by decide +kernel
theorem d8_56 : decode method_7_code 56 = .ok (.iconst 3, 1) := by decide +kernel
theorem d8_57 : decode method_7_code 57 = .ok (.baload, 1) := by decide +kernel
theorem d8_58 : decode method_7_code 58 = .ok (.if_icmp .eq 5, 3) := by decide +kernel
theorem d8_61 : decode method_7_code 61 = .ok (.iconst 0, 1) := by decide +kernel
theorem d8_62 : decode method_7_code 62 = .ok (.ireturn, 1) := by decide +kernel
theorem d8_63 : decode method_7_code 63 = .ok (.iconst 1, 1) := by decide +kernel
theorem d8_64 : decode method_7_code 64 = .ok (.ireturn, 1) := by decide +kernel
theorem pn_8 : plainFor (⟨"com/example/iocd/iocd/store/RecordKeysAfterPinLaw", "samePrefix", "([B[BI)Z"⟩ : MethodName) = true := plainFor_of_name (by first | (simp [plainName, overriddenIn]; done) | decide +kernel)
theorem ef_8 (m : MethodId) (x0 : Addr) (x1 : Addr) (x2 : Int32) : entryFrame m #[(.ref x0), (.ref x1), (.int x2)] 3 = mkF m 0 #[.val (.ref x0), .val (.ref x1), .val (.int x2)] [] := by first | (simp [entryFrame, mkF, argsToLocals, Value.category]; done) | rfl
def Q8 (Z : State) (a1 : Addr) (a2 : Addr) (p3 : Int32) (rs : List Int32) (ys : List Int32) (mm : Nat) (h0 : Heap) (n0 : Nat) (v : Option Value) (h : Heap) (L : List Loc) : Prop := v = some (.int 1) ∧ Fr n0 L ∧ h = h0
set_option maxRecDepth 65536 in
set_option maxHeartbeats 40000000 in
theorem rm8 (l : Launch) (Z : State) (a0 : Array Value) (hw : ∀ d ∈ tables_1, d.before a0 Z = true) (ws : List Jvm.Cond) (a1 : Addr) (a2 : Addr) (p3 : Int32) (rs : List Int32) (ys : List Int32) (mm : Nat) (h0 : Heap) (n0 : Nat) (Z0 : n0 ≤ h0.size) (V_a1 : AI Z h0 a1 .byte rs) (V_a2 : AI Z h0 a2 .byte ys) (hl : p3.toInt = (mm : Int)) (hm : mm < ys.length) (hj : ∀ j, j < mm → rs[j]? = ys[j]?) :
    MetFree l (⟨"com/example/iocd/iocd/store/RecordKeysAfterPinLaw", "samePrefix", "([B[BI)Z"⟩ : MethodName) (head1 (Jvm.Cond.code (⟨"com/example/iocd/iocd/store/RecordKeysAfterPinLaw", "samePrefix", "([B[BI)Z"⟩ : MethodName) method_7_code 3 (some .boolean) :: ws) ({ frames := 0, cells := 0, slots := 0, locals := 0 } : Room)) (fun a U => a = #[(.ref a1), (.ref a2), (.int p3)] ∧ Z.Warmed39 U.vm ∧ U.heap = h0) (fun _ _ _ _ _ => True) (fun _ U o U' => ∃ v L, o = .returned v ∧ Q8 Z a1 a2 p3 rs ys mm h0 n0 v U'.heap L ∧ FrameEnd U o U' L ({ frames := 0, cells := 0, slots := 0, locals := 0 } : Room).cells ({ frames := 0, cells := 0, slots := 0, locals := 0 } : Room).slots) := by
  refine MetFree.of_bodySF pn_8 hisR ?_
  intro p e s m args below meth c s₁ Bd hml0 hP hK
  obtain ⟨rfl, hZ, hh⟩ := hP
  have hx := Bd.exec
  have hby := Bd.bytes
  have hml : c.maxLocals = 3 := hml0
  have hown : s.vm.findClass "com/example/iocd/iocd/store/RecordKeysAfterPinLaw" = some m.cls := findClass_of_methodNamed Bd.named
  have hnm := (name_of_methodNamed Bd.named Bd.method).1
  have hlk : meth.locks = false := BodyLoose.notSynchronized Bd
  have X0 : Stand p l e ({ frames := 0, cells := 0, slots := 0, locals := 0 } : Room) s m #[(.ref a1), (.ref a2), (.int p3)] below meth c s₁ [] 0 0 := Stand.of_body Bd
  have e0 : s₁.heap = h0 := by rw [← hh, Bd.state]; rfl
  have N0 := Fr.nil n0
  show Goes p e below (OwnK s (Q8 Z a1 a2 p3 rs ys mm h0 n0) ({ frames := 0, cells := 0, slots := 0, locals := 0 } : Room).cells ({ frames := 0, cells := 0, slots := 0, locals := 0 } : Room).slots) s₁ (entryFrame m #[(.ref a1), (.ref a2), (.int p3)] 3)
  refine Goes.cast (ef_8 m a1 a2 p3) ?_
  generalize hKK : OwnK s (Q8 Z a1 a2 p3 rs ys mm h0 n0) ({ frames := 0, cells := 0, slots := 0, locals := 0 } : Room).cells ({ frames := 0, cells := 0, slots := 0, locals := 0 } : Room).slots = KK
  show Goes p e below KK s₁ (mkF m 0 #[.val (.ref a1), .val (.ref a2), .val (.int p3)] [])
  have j24 : ∀ t, Steps p.tables e below (s₁.setTop (mkF m 15 #[.val (.ref a1), .val (.ref a2), .val (.int p3)] [])) t → Steps p.tables e below (s₁.setTop (mkF m 0 #[.val (.ref a1), .val (.ref a2), .val (.int p3)] [])) t := by
    intro t k
    refine XS.iloadN X0.here hx rfl (hb hby d8_0) rfl ?_
    show Steps p.tables e below (s₁.setTop (mkF m 1 #[.val (.ref a1), .val (.ref a2), .val (.int p3)] [(.int p3)])) _
    by_cases hc1 : (0 : Int32) < p3
    · refine XS.ifNo X0.here hx rfl (hb hby d8_1) rfl ((if0 _ _).trans (tlt hc1).2.2.2) ?_
      show Steps p.tables e below (s₁.setTop (mkF m 4 #[.val (.ref a1), .val (.ref a2), .val (.int p3)] [])) _
      refine XS.aloadN X0.here hx rfl (hb hby d8_4) rfl rfl ?_
      show Steps p.tables e below (s₁.setTop (mkF m 5 #[.val (.ref a1), .val (.ref a2), .val (.int p3)] [(.ref a1)])) _
      refine XS.iconst X0.here hx rfl (hb hby d8_5) ?_
      show Steps p.tables e below (s₁.setTop (mkF m 6 #[.val (.ref a1), .val (.ref a2), .val (.int p3)] [(.int (0 : Int32)), (.ref a1)])) _
      obtain ⟨x0, hx0⟩ : ∃ y, ys[0]? = some y := ⟨_, List.getElem?_eq_getElem (by rw [Int32.lt_iff_toInt_lt, hl] at hc1; have z : (0 : Int32).toInt = 0 := rfl; omega)⟩
      refine (AI.baload X0 hx hZ e0 V_a1 (i := 0) (j := (0 : Int32)) (x := x0) (rfl) (by rw [hj 0 (by rw [Int32.lt_iff_toInt_lt, hl] at hc1; have z : (0 : Int32).toInt = 0 := rfl; omega)]; exact hx0) (g := (mkF m 6 #[.val (.ref a1), .val (.ref a2), .val (.int p3)] [(.int (0 : Int32)), (.ref a1)])) rfl rfl (hb hby d8_6)) _ ?_
      show Steps p.tables e below (s₁.setTop (mkF m 7 #[.val (.ref a1), .val (.ref a2), .val (.int p3)] [(.int x0)])) _
      refine XS.aloadN X0.here hx rfl (hb hby d8_7) rfl rfl ?_
      show Steps p.tables e below (s₁.setTop (mkF m 8 #[.val (.ref a1), .val (.ref a2), .val (.int p3)] [(.ref a2), (.int x0)])) _
      refine XS.iconst X0.here hx rfl (hb hby d8_8) ?_
      show Steps p.tables e below (s₁.setTop (mkF m 9 #[.val (.ref a1), .val (.ref a2), .val (.int p3)] [(.int (0 : Int32)), (.ref a2), (.int x0)])) _
      refine (AI.baload X0 hx hZ e0 V_a2 (i := 0) (j := (0 : Int32)) (x := x0) (rfl) (hx0) (g := (mkF m 9 #[.val (.ref a1), .val (.ref a2), .val (.int p3)] [(.int (0 : Int32)), (.ref a2), (.int x0)])) rfl rfl (hb hby d8_9)) _ ?_
      show Steps p.tables e below (s₁.setTop (mkF m 10 #[.val (.ref a1), .val (.ref a2), .val (.int p3)] [(.int x0), (.int x0)])) _
      refine XS.icmpYes X0.here hx rfl (pc0 := 10) (pc' := 15) rfl (hb hby d8_10) rfl (teq (show x0 = x0 from rfl)).1 (by decide) (by decide) ?_
      show Steps p.tables e below (s₁.setTop (mkF m 15 #[.val (.ref a1), .val (.ref a2), .val (.int p3)] [])) _
      try rw [if_pos hc1] at k
      exact k
    · refine XS.ifYes X0.here hx rfl (pc0 := 1) (pc' := 15) rfl (hb hby d8_1) rfl ((if0 _ _).trans (flt hc1).2.2.2) (by decide) (by decide) ?_
      show Steps p.tables e below (s₁.setTop (mkF m 15 #[.val (.ref a1), .val (.ref a2), .val (.int p3)] [])) _
      try rw [if_neg hc1] at k
      exact k
  refine Goes.of j24 ?_
  show Goes p e below KK s₁ (mkF m 15 #[.val (.ref a1), .val (.ref a2), .val (.int p3)] [])
  have j25 : ∀ t, Steps p.tables e below (s₁.setTop (mkF m 31 #[.val (.ref a1), .val (.ref a2), .val (.int p3)] [])) t → Steps p.tables e below (s₁.setTop (mkF m 15 #[.val (.ref a1), .val (.ref a2), .val (.int p3)] [])) t := by
    intro t k
    refine XS.iloadN X0.here hx rfl (hb hby d8_15) rfl ?_
    show Steps p.tables e below (s₁.setTop (mkF m 16 #[.val (.ref a1), .val (.ref a2), .val (.int p3)] [(.int p3)])) _
    refine XS.iconst X0.here hx rfl (hb hby d8_16) ?_
    show Steps p.tables e below (s₁.setTop (mkF m 17 #[.val (.ref a1), .val (.ref a2), .val (.int p3)] [(.int (1 : Int32)), (.int p3)])) _
    by_cases hc17 : (1 : Int32) < p3
    · refine XS.icmpNo X0.here hx rfl (hb hby d8_17) rfl (tlt hc17).2.2.2 ?_
      show Steps p.tables e below (s₁.setTop (mkF m 20 #[.val (.ref a1), .val (.ref a2), .val (.int p3)] [])) _
      refine XS.aloadN X0.here hx rfl (hb hby d8_20) rfl rfl ?_
      show Steps p.tables e below (s₁.setTop (mkF m 21 #[.val (.ref a1), .val (.ref a2), .val (.int p3)] [(.ref a1)])) _
      refine XS.iconst X0.here hx rfl (hb hby d8_21) ?_
      show Steps p.tables e below (s₁.setTop (mkF m 22 #[.val (.ref a1), .val (.ref a2), .val (.int p3)] [(.int (1 : Int32)), (.ref a1)])) _
      obtain ⟨x1, hx1⟩ : ∃ y, ys[1]? = some y := ⟨_, List.getElem?_eq_getElem (by rw [Int32.lt_iff_toInt_lt, hl] at hc17; have z : (1 : Int32).toInt = 1 := rfl; omega)⟩
      refine (AI.baload X0 hx hZ e0 V_a1 (i := 1) (j := (1 : Int32)) (x := x1) (rfl) (by rw [hj 1 (by rw [Int32.lt_iff_toInt_lt, hl] at hc17; have z : (1 : Int32).toInt = 1 := rfl; omega)]; exact hx1) (g := (mkF m 22 #[.val (.ref a1), .val (.ref a2), .val (.int p3)] [(.int (1 : Int32)), (.ref a1)])) rfl rfl (hb hby d8_22)) _ ?_
      show Steps p.tables e below (s₁.setTop (mkF m 23 #[.val (.ref a1), .val (.ref a2), .val (.int p3)] [(.int x1)])) _
      refine XS.aloadN X0.here hx rfl (hb hby d8_23) rfl rfl ?_
      show Steps p.tables e below (s₁.setTop (mkF m 24 #[.val (.ref a1), .val (.ref a2), .val (.int p3)] [(.ref a2), (.int x1)])) _
      refine XS.iconst X0.here hx rfl (hb hby d8_24) ?_
      show Steps p.tables e below (s₁.setTop (mkF m 25 #[.val (.ref a1), .val (.ref a2), .val (.int p3)] [(.int (1 : Int32)), (.ref a2), (.int x1)])) _
      refine (AI.baload X0 hx hZ e0 V_a2 (i := 1) (j := (1 : Int32)) (x := x1) (rfl) (hx1) (g := (mkF m 25 #[.val (.ref a1), .val (.ref a2), .val (.int p3)] [(.int (1 : Int32)), (.ref a2), (.int x1)])) rfl rfl (hb hby d8_25)) _ ?_
      show Steps p.tables e below (s₁.setTop (mkF m 26 #[.val (.ref a1), .val (.ref a2), .val (.int p3)] [(.int x1), (.int x1)])) _
      refine XS.icmpYes X0.here hx rfl (pc0 := 26) (pc' := 31) rfl (hb hby d8_26) rfl (teq (show x1 = x1 from rfl)).1 (by decide) (by decide) ?_
      show Steps p.tables e below (s₁.setTop (mkF m 31 #[.val (.ref a1), .val (.ref a2), .val (.int p3)] [])) _
      try rw [if_pos hc17] at k
      exact k
    · refine XS.icmpYes X0.here hx rfl (pc0 := 17) (pc' := 31) rfl (hb hby d8_17) rfl (flt hc17).2.2.2 (by decide) (by decide) ?_
      show Steps p.tables e below (s₁.setTop (mkF m 31 #[.val (.ref a1), .val (.ref a2), .val (.int p3)] [])) _
      try rw [if_neg hc17] at k
      exact k
  refine Goes.of j25 ?_
  show Goes p e below KK s₁ (mkF m 31 #[.val (.ref a1), .val (.ref a2), .val (.int p3)] [])
  have j26 : ∀ t, Steps p.tables e below (s₁.setTop (mkF m 47 #[.val (.ref a1), .val (.ref a2), .val (.int p3)] [])) t → Steps p.tables e below (s₁.setTop (mkF m 31 #[.val (.ref a1), .val (.ref a2), .val (.int p3)] [])) t := by
    intro t k
    refine XS.iloadN X0.here hx rfl (hb hby d8_31) rfl ?_
    show Steps p.tables e below (s₁.setTop (mkF m 32 #[.val (.ref a1), .val (.ref a2), .val (.int p3)] [(.int p3)])) _
    refine XS.iconst X0.here hx rfl (hb hby d8_32) ?_
    show Steps p.tables e below (s₁.setTop (mkF m 33 #[.val (.ref a1), .val (.ref a2), .val (.int p3)] [(.int (2 : Int32)), (.int p3)])) _
    by_cases hc33 : (2 : Int32) < p3
    · refine XS.icmpNo X0.here hx rfl (hb hby d8_33) rfl (tlt hc33).2.2.2 ?_
      show Steps p.tables e below (s₁.setTop (mkF m 36 #[.val (.ref a1), .val (.ref a2), .val (.int p3)] [])) _
      refine XS.aloadN X0.here hx rfl (hb hby d8_36) rfl rfl ?_
      show Steps p.tables e below (s₁.setTop (mkF m 37 #[.val (.ref a1), .val (.ref a2), .val (.int p3)] [(.ref a1)])) _
      refine XS.iconst X0.here hx rfl (hb hby d8_37) ?_
      show Steps p.tables e below (s₁.setTop (mkF m 38 #[.val (.ref a1), .val (.ref a2), .val (.int p3)] [(.int (2 : Int32)), (.ref a1)])) _
      obtain ⟨x2, hx2⟩ : ∃ y, ys[2]? = some y := ⟨_, List.getElem?_eq_getElem (by rw [Int32.lt_iff_toInt_lt, hl] at hc33; have z : (2 : Int32).toInt = 2 := rfl; omega)⟩
      refine (AI.baload X0 hx hZ e0 V_a1 (i := 2) (j := (2 : Int32)) (x := x2) (rfl) (by rw [hj 2 (by rw [Int32.lt_iff_toInt_lt, hl] at hc33; have z : (2 : Int32).toInt = 2 := rfl; omega)]; exact hx2) (g := (mkF m 38 #[.val (.ref a1), .val (.ref a2), .val (.int p3)] [(.int (2 : Int32)), (.ref a1)])) rfl rfl (hb hby d8_38)) _ ?_
      show Steps p.tables e below (s₁.setTop (mkF m 39 #[.val (.ref a1), .val (.ref a2), .val (.int p3)] [(.int x2)])) _
      refine XS.aloadN X0.here hx rfl (hb hby d8_39) rfl rfl ?_
      show Steps p.tables e below (s₁.setTop (mkF m 40 #[.val (.ref a1), .val (.ref a2), .val (.int p3)] [(.ref a2), (.int x2)])) _
      refine XS.iconst X0.here hx rfl (hb hby d8_40) ?_
      show Steps p.tables e below (s₁.setTop (mkF m 41 #[.val (.ref a1), .val (.ref a2), .val (.int p3)] [(.int (2 : Int32)), (.ref a2), (.int x2)])) _
      refine (AI.baload X0 hx hZ e0 V_a2 (i := 2) (j := (2 : Int32)) (x := x2) (rfl) (hx2) (g := (mkF m 41 #[.val (.ref a1), .val (.ref a2), .val (.int p3)] [(.int (2 : Int32)), (.ref a2), (.int x2)])) rfl rfl (hb hby d8_41)) _ ?_
      show Steps p.tables e below (s₁.setTop (mkF m 42 #[.val (.ref a1), .val (.ref a2), .val (.int p3)] [(.int x2), (.int x2)])) _
      refine XS.icmpYes X0.here hx rfl (pc0 := 42) (pc' := 47) rfl (hb hby d8_42) rfl (teq (show x2 = x2 from rfl)).1 (by decide) (by decide) ?_
      show Steps p.tables e below (s₁.setTop (mkF m 47 #[.val (.ref a1), .val (.ref a2), .val (.int p3)] [])) _
      try rw [if_pos hc33] at k
      exact k
    · refine XS.icmpYes X0.here hx rfl (pc0 := 33) (pc' := 47) rfl (hb hby d8_33) rfl (flt hc33).2.2.2 (by decide) (by decide) ?_
      show Steps p.tables e below (s₁.setTop (mkF m 47 #[.val (.ref a1), .val (.ref a2), .val (.int p3)] [])) _
      try rw [if_neg hc33] at k
      exact k
  refine Goes.of j26 ?_
  show Goes p e below KK s₁ (mkF m 47 #[.val (.ref a1), .val (.ref a2), .val (.int p3)] [])
  have j27 : ∀ t, Steps p.tables e below (s₁.setTop (mkF m 63 #[.val (.ref a1), .val (.ref a2), .val (.int p3)] [])) t → Steps p.tables e below (s₁.setTop (mkF m 47 #[.val (.ref a1), .val (.ref a2), .val (.int p3)] [])) t := by
    intro t k
    refine XS.iloadN X0.here hx rfl (hb hby d8_47) rfl ?_
    show Steps p.tables e below (s₁.setTop (mkF m 48 #[.val (.ref a1), .val (.ref a2), .val (.int p3)] [(.int p3)])) _
    refine XS.iconst X0.here hx rfl (hb hby d8_48) ?_
    show Steps p.tables e below (s₁.setTop (mkF m 49 #[.val (.ref a1), .val (.ref a2), .val (.int p3)] [(.int (3 : Int32)), (.int p3)])) _
    by_cases hc49 : (3 : Int32) < p3
    · refine XS.icmpNo X0.here hx rfl (hb hby d8_49) rfl (tlt hc49).2.2.2 ?_
      show Steps p.tables e below (s₁.setTop (mkF m 52 #[.val (.ref a1), .val (.ref a2), .val (.int p3)] [])) _
      refine XS.aloadN X0.here hx rfl (hb hby d8_52) rfl rfl ?_
      show Steps p.tables e below (s₁.setTop (mkF m 53 #[.val (.ref a1), .val (.ref a2), .val (.int p3)] [(.ref a1)])) _
      refine XS.iconst X0.here hx rfl (hb hby d8_53) ?_
      show Steps p.tables e below (s₁.setTop (mkF m 54 #[.val (.ref a1), .val (.ref a2), .val (.int p3)] [(.int (3 : Int32)), (.ref a1)])) _
      obtain ⟨x3, hx3⟩ : ∃ y, ys[3]? = some y := ⟨_, List.getElem?_eq_getElem (by rw [Int32.lt_iff_toInt_lt, hl] at hc49; have z : (3 : Int32).toInt = 3 := rfl; omega)⟩
      refine (AI.baload X0 hx hZ e0 V_a1 (i := 3) (j := (3 : Int32)) (x := x3) (rfl) (by rw [hj 3 (by rw [Int32.lt_iff_toInt_lt, hl] at hc49; have z : (3 : Int32).toInt = 3 := rfl; omega)]; exact hx3) (g := (mkF m 54 #[.val (.ref a1), .val (.ref a2), .val (.int p3)] [(.int (3 : Int32)), (.ref a1)])) rfl rfl (hb hby d8_54)) _ ?_
      show Steps p.tables e below (s₁.setTop (mkF m 55 #[.val (.ref a1), .val (.ref a2), .val (.int p3)] [(.int x3)])) _
      refine XS.aloadN X0.here hx rfl (hb hby d8_55) rfl rfl ?_
      show Steps p.tables e below (s₁.setTop (mkF m 56 #[.val (.ref a1), .val (.ref a2), .val (.int p3)] [(.ref a2), (.int x3)])) _
      refine XS.iconst X0.here hx rfl (hb hby d8_56) ?_
      show Steps p.tables e below (s₁.setTop (mkF m 57 #[.val (.ref a1), .val (.ref a2), .val (.int p3)] [(.int (3 : Int32)), (.ref a2), (.int x3)])) _
      refine (AI.baload X0 hx hZ e0 V_a2 (i := 3) (j := (3 : Int32)) (x := x3) (rfl) (hx3) (g := (mkF m 57 #[.val (.ref a1), .val (.ref a2), .val (.int p3)] [(.int (3 : Int32)), (.ref a2), (.int x3)])) rfl rfl (hb hby d8_57)) _ ?_
      show Steps p.tables e below (s₁.setTop (mkF m 58 #[.val (.ref a1), .val (.ref a2), .val (.int p3)] [(.int x3), (.int x3)])) _
      refine XS.icmpYes X0.here hx rfl (pc0 := 58) (pc' := 63) rfl (hb hby d8_58) rfl (teq (show x3 = x3 from rfl)).1 (by decide) (by decide) ?_
      show Steps p.tables e below (s₁.setTop (mkF m 63 #[.val (.ref a1), .val (.ref a2), .val (.int p3)] [])) _
      try rw [if_pos hc49] at k
      exact k
    · refine XS.icmpYes X0.here hx rfl (pc0 := 49) (pc' := 63) rfl (hb hby d8_49) rfl (flt hc49).2.2.2 (by decide) (by decide) ?_
      show Steps p.tables e below (s₁.setTop (mkF m 63 #[.val (.ref a1), .val (.ref a2), .val (.int p3)] [])) _
      try rw [if_neg hc49] at k
      exact k
  refine Goes.of j27 ?_
  show Goes p e below KK s₁ (mkF m 63 #[.val (.ref a1), .val (.ref a2), .val (.int p3)] [])
  refine Goes.of (fun t => XS.iconst X0.here hx rfl (hb hby d8_63)) ?_
  show Goes p e below KK s₁ (mkF m 64 #[.val (.ref a1), .val (.ref a2), .val (.int p3)] [(.int (1 : Int32))])
  rw [← hKK]
  refine Goes.retNar X0 hx hlk (t := .boolean) (by simp) Bd.returns (hb hby d8_64) ?_ (by decide) (by decide)
  rw [e0]
  exact ⟨rfl, N0, rfl⟩
theorem d9_0 : decode method_8_code 0 = .ok (.aload_n 0, 1) := by decide +kernel
theorem d9_1 : decode method_8_code 1 = .ok (.arraylength, 1) := by decide +kernel
theorem d9_2 : decode method_8_code 2 = .ok (.istore_n 2, 1) := by decide +kernel
theorem d9_3 : decode method_8_code 3 = .ok (.iload_n 2, 1) := by decide +kernel
theorem d9_4 : decode method_8_code 4 = .ok (.aload_n 1, 1) := by decide +kernel
theorem d9_5 : decode method_8_code 5 = .ok (.arraylength, 1) := by decide +kernel
theorem d9_6 : decode method_8_code 6 = .ok (.if_icmp .eq 5, 3) := by decide +kernel
theorem d9_9 : decode method_8_code 9 = .ok (.iconst 0, 1) := by decide +kernel
theorem d9_10 : decode method_8_code 10 = .ok (.ireturn, 1) := by decide +kernel
theorem d9_11 : decode method_8_code 11 = .ok (.aload_n 0, 1) := by decide +kernel
theorem d9_12 : decode method_8_code 12 = .ok (.iconst 0, 1) := by decide +kernel
theorem d9_13 : decode method_8_code 13 = .ok (.baload, 1) := by decide +kernel
theorem d9_14 : decode method_8_code 14 = .ok (.aload_n 1, 1) := by decide +kernel
theorem d9_15 : decode method_8_code 15 = .ok (.iconst 0, 1) := by decide +kernel
theorem d9_16 : decode method_8_code 16 = .ok (.baload, 1) := by decide +kernel
theorem d9_17 : decode method_8_code 17 = .ok (.if_icmp .eq 5, 3) := by decide +kernel
theorem d9_20 : decode method_8_code 20 = .ok (.iconst 0, 1) := by decide +kernel
theorem d9_21 : decode method_8_code 21 = .ok (.ireturn, 1) := by decide +kernel
theorem d9_22 : decode method_8_code 22 = .ok (.iload_n 2, 1) := by decide +kernel
theorem d9_23 : decode method_8_code 23 = .ok (.iconst 1, 1) := by decide +kernel
theorem d9_24 : decode method_8_code 24 = .ok (.if_icmp .le 14, 3) := by decide +kernel
theorem d9_27 : decode method_8_code 27 = .ok (.aload_n 0, 1) := by decide +kernel
theorem d9_28 : decode method_8_code 28 = .ok (.iconst 1, 1) := by decide +kernel
theorem d9_29 : decode method_8_code 29 = .ok (.baload, 1) := by decide +kernel
theorem d9_30 : decode method_8_code 30 = .ok (.aload_n 1, 1) := by decide +kernel
theorem d9_31 : decode method_8_code 31 = .ok (.iconst 1, 1) := by decide +kernel
theorem d9_32 : decode method_8_code 32 = .ok (.baload, 1) := by decide +kernel
theorem d9_33 : decode method_8_code 33 = .ok (.if_icmp .eq 5, 3) := by decide +kernel
theorem d9_36 : decode method_8_code 36 = .ok (.iconst 0, 1) := by decide +kernel
theorem d9_37 : decode method_8_code 37 = .ok (.ireturn, 1) := by decide +kernel
theorem d9_38 : decode method_8_code 38 = .ok (.iload_n 2, 1) := by decide +kernel
theorem d9_39 : decode method_8_code 39 = .ok (.iconst 2, 1) := by decide +kernel
theorem d9_40 : decode method_8_code 40 = .ok (.if_icmp .le 14, 3) := by decide +kernel
theorem d9_43 : decode method_8_code 43 = .ok (.aload_n 0, 1) := by decide +kernel
theorem d9_44 : decode method_8_code 44 = .ok (.iconst 2, 1) := by decide +kernel
theorem d9_45 : decode method_8_code 45 = .ok (.baload, 1) := by decide +kernel
theorem d9_46 : decode method_8_code 46 = .ok (.aload_n 1, 1) := by decide +kernel
theorem d9_47 : decode method_8_code 47 = .ok (.iconst 2, 1) := by decide +kernel
theorem d9_48 : decode method_8_code 48 = .ok (.baload, 1) := by decide +kernel
theorem d9_49 : decode method_8_code 49 = .ok (.if_icmp .eq 5, 3) := by decide +kernel
theorem d9_52 : decode method_8_code 52 = .ok (.iconst 0, 1) := by decide +kernel
theorem d9_53 : decode method_8_code 53 = .ok (.ireturn, 1) := by decide +kernel
theorem d9_54 : decode method_8_code 54 = .ok (.iload_n 2, 1) := by decide +kernel
theorem d9_55 : decode method_8_code 55 = .ok (.iconst 3, 1) := by decide +kernel
theorem d9_56 : decode method_8_code 56 = .ok (.if_icmp .le 14, 3) := by decide +kernel
theorem d9_59 : decode method_8_code 59 = .ok (.aload_n 0, 1) := by decide +kernel
theorem d9_60 : decode method_8_code 60 = .ok (.iconst 3, 1) := by decide +kernel
theorem d9_61 : decode method_8_code 61 = .ok (.baload, 1) := by decide +kernel
theorem d9_62 : decode method_8_code 62 = .ok (.aload_n 1, 1) := by decide +kernel
theorem d9_63 : decode method_8_code 63 = .ok (.iconst 3, 1) := by decide +kernel
theorem d9_64 : decode method_8_code 64 = .ok (.baload, 1) := by decide +kernel
theorem d9_65 : decode method_8_code 65 = .ok (.if_icmp .eq 5, 3) := by decide +kernel
theorem d9_68 : decode method_8_code 68 = .ok (.iconst 0, 1) := by decide +kernel
theorem d9_69 : decode method_8_code 69 = .ok (.ireturn, 1) := by decide +kernel
theorem d9_70 : decode method_8_code 70 = .ok (.iload_n 2, 1) := by decide +kernel
theorem d9_71 : decode method_8_code 71 = .ok (.iconst 4, 1) := by decide +kernel
theorem d9_72 : decode method_8_code 72 = .ok (.if_icmp .le 14, 3) := by decide +kernel
theorem d9_75 : decode method_8_code 75 = .ok (.aload_n 0, 1) := by decide +kernel
theorem d9_76 : decode method_8_code 76 = .ok (.iconst 4, 1) := by decide +kernel
theorem d9_77 : decode method_8_code 77 = .ok (.baload, 1) := by decide +kernel
theorem d9_78 : decode method_8_code 78 = .ok (.aload_n 1, 1) := by decide +kernel
theorem d9_79 : decode method_8_code 79 = .ok (.iconst 4, 1) := by decide +kernel
theorem d9_80 : decode method_8_code 80 = .ok (.baload, 1) := by decide +kernel
theorem d9_81 : decode method_8_code 81 = .ok (.if_icmp .eq 5, 3) := by decide +kernel
theorem d9_84 : decode method_8_code 84 = .ok (.iconst 0, 1) := by decide +kernel
theorem d9_85 : decode method_8_code 85 = .ok (.ireturn, 1) := by decide +kernel
theorem d9_86 : decode method_8_code 86 = .ok (.iconst 1, 1) := by decide +kernel
theorem d9_87 : decode method_8_code 87 = .ok (.ireturn, 1) := by decide +kernel
theorem pn_9 : plainFor (⟨"com/example/iocd/iocd/store/RecordKeysAfterPinLaw", "same", "([B[B)Z"⟩ : MethodName) = true := plainFor_of_name (by first | (simp [plainName, overriddenIn]; done) | decide +kernel)
theorem ef_9 (m : MethodId) (x0 : Addr) (x1 : Addr) : entryFrame m #[(.ref x0), (.ref x1)] 3 = mkF m 0 #[.val (.ref x0), .val (.ref x1), .unset] [] := by first | (simp [entryFrame, mkF, argsToLocals, Value.category]; done) | rfl
def Q9 (Z : State) (a1 : Addr) (a2 : Addr) (xs : List Int32) (n : Int32) (h0 : Heap) (n0 : Nat) (v : Option Value) (h : Heap) (L : List Loc) : Prop := v = some (.int 1) ∧ Fr n0 L ∧ h = h0
set_option maxRecDepth 65536 in
set_option maxHeartbeats 40000000 in
theorem rm9 (l : Launch) (Z : State) (a0 : Array Value) (hw : ∀ d ∈ tables_1, d.before a0 Z = true) (ws : List Jvm.Cond) (a1 : Addr) (a2 : Addr) (xs : List Int32) (n : Int32) (h0 : Heap) (n0 : Nat) (Z0 : n0 ≤ h0.size) (V_a1 : AI Z h0 a1 .byte xs) (V_a2 : AI Z h0 a2 .byte xs) (hn : n.toInt = (xs.length : Int)) (hpos : 0 < xs.length) :
    MetFree l (⟨"com/example/iocd/iocd/store/RecordKeysAfterPinLaw", "same", "([B[B)Z"⟩ : MethodName) (head1 (Jvm.Cond.code (⟨"com/example/iocd/iocd/store/RecordKeysAfterPinLaw", "same", "([B[B)Z"⟩ : MethodName) method_8_code 3 (some .boolean) :: ws) ({ frames := 0, cells := 0, slots := 0, locals := 0 } : Room)) (fun a U => a = #[(.ref a1), (.ref a2)] ∧ Z.Warmed39 U.vm ∧ U.heap = h0) (fun _ _ _ _ _ => True) (fun _ U o U' => ∃ v L, o = .returned v ∧ Q9 Z a1 a2 xs n h0 n0 v U'.heap L ∧ FrameEnd U o U' L ({ frames := 0, cells := 0, slots := 0, locals := 0 } : Room).cells ({ frames := 0, cells := 0, slots := 0, locals := 0 } : Room).slots) := by
  refine MetFree.of_bodySF pn_9 hisR ?_
  intro p e s m args below meth c s₁ Bd hml0 hP hK
  obtain ⟨rfl, hZ, hh⟩ := hP
  have hx := Bd.exec
  have hby := Bd.bytes
  have hml : c.maxLocals = 3 := hml0
  have hown : s.vm.findClass "com/example/iocd/iocd/store/RecordKeysAfterPinLaw" = some m.cls := findClass_of_methodNamed Bd.named
  have hnm := (name_of_methodNamed Bd.named Bd.method).1
  have hlk : meth.locks = false := BodyLoose.notSynchronized Bd
  have X0 : Stand p l e ({ frames := 0, cells := 0, slots := 0, locals := 0 } : Room) s m #[(.ref a1), (.ref a2)] below meth c s₁ [] 0 0 := Stand.of_body Bd
  have e0 : s₁.heap = h0 := by rw [← hh, Bd.state]; rfl
  have N0 := Fr.nil n0
  show Goes p e below (OwnK s (Q9 Z a1 a2 xs n h0 n0) ({ frames := 0, cells := 0, slots := 0, locals := 0 } : Room).cells ({ frames := 0, cells := 0, slots := 0, locals := 0 } : Room).slots) s₁ (entryFrame m #[(.ref a1), (.ref a2)] 3)
  refine Goes.cast (ef_9 m a1 a2) ?_
  generalize hKK : OwnK s (Q9 Z a1 a2 xs n h0 n0) ({ frames := 0, cells := 0, slots := 0, locals := 0 } : Room).cells ({ frames := 0, cells := 0, slots := 0, locals := 0 } : Room).slots = KK
  show Goes p e below KK s₁ (mkF m 0 #[.val (.ref a1), .val (.ref a2), .unset] [])
  refine Goes.of (fun t => XS.aloadN X0.here hx rfl (hb hby d9_0) rfl rfl) ?_
  show Goes p e below KK s₁ (mkF m 1 #[.val (.ref a1), .val (.ref a2), .unset] [(.ref a1)])
  refine Goes.of (AI.arraylength X0 hx hZ e0 V_a1 (j := n) (hn) (g := (mkF m 1 #[.val (.ref a1), .val (.ref a2), .unset] [(.ref a1)])) rfl rfl (hb hby d9_1)) ?_
  show Goes p e below KK s₁ (mkF m 2 #[.val (.ref a1), .val (.ref a2), .unset] [(.int n)])
  refine Goes.of (fun t => XS.istoreN X0.here hx rfl (hb hby d9_2) rfl (l' := #[.val (.ref a1), .val (.ref a2), .val (.int n)]) rfl) ?_
  show Goes p e below KK s₁ (mkF m 3 #[.val (.ref a1), .val (.ref a2), .val (.int n)] [])
  refine Goes.of (fun t => XS.iloadN X0.here hx rfl (hb hby d9_3) rfl) ?_
  show Goes p e below KK s₁ (mkF m 4 #[.val (.ref a1), .val (.ref a2), .val (.int n)] [(.int n)])
  refine Goes.of (fun t => XS.aloadN X0.here hx rfl (hb hby d9_4) rfl rfl) ?_
  show Goes p e below KK s₁ (mkF m 5 #[.val (.ref a1), .val (.ref a2), .val (.int n)] [(.ref a2), (.int n)])
  refine Goes.of (AI.arraylength X0 hx hZ e0 V_a2 (j := n) (hn) (g := (mkF m 5 #[.val (.ref a1), .val (.ref a2), .val (.int n)] [(.ref a2), (.int n)])) rfl rfl (hb hby d9_5)) ?_
  show Goes p e below KK s₁ (mkF m 6 #[.val (.ref a1), .val (.ref a2), .val (.int n)] [(.int n), (.int n)])
  refine Goes.of (fun t => XS.icmpYes X0.here hx rfl (pc0 := 6) (pc' := 11) rfl (hb hby d9_6) rfl (teq (show n = n from rfl)).1 (by decide) (by decide)) ?_
  show Goes p e below KK s₁ (mkF m 11 #[.val (.ref a1), .val (.ref a2), .val (.int n)] [])
  refine Goes.of (fun t => XS.aloadN X0.here hx rfl (hb hby d9_11) rfl rfl) ?_
  show Goes p e below KK s₁ (mkF m 12 #[.val (.ref a1), .val (.ref a2), .val (.int n)] [(.ref a1)])
  refine Goes.of (fun t => XS.iconst X0.here hx rfl (hb hby d9_12)) ?_
  show Goes p e below KK s₁ (mkF m 13 #[.val (.ref a1), .val (.ref a2), .val (.int n)] [(.int (0 : Int32)), (.ref a1)])
  obtain ⟨x0, hx0⟩ : ∃ y, xs[0]? = some y := ⟨_, List.getElem?_eq_getElem hpos⟩
  refine Goes.of (AI.baload X0 hx hZ e0 V_a1 (i := 0) (j := (0 : Int32)) (x := x0) (rfl) (hx0) (g := (mkF m 13 #[.val (.ref a1), .val (.ref a2), .val (.int n)] [(.int (0 : Int32)), (.ref a1)])) rfl rfl (hb hby d9_13)) ?_
  show Goes p e below KK s₁ (mkF m 14 #[.val (.ref a1), .val (.ref a2), .val (.int n)] [(.int x0)])
  refine Goes.of (fun t => XS.aloadN X0.here hx rfl (hb hby d9_14) rfl rfl) ?_
  show Goes p e below KK s₁ (mkF m 15 #[.val (.ref a1), .val (.ref a2), .val (.int n)] [(.ref a2), (.int x0)])
  refine Goes.of (fun t => XS.iconst X0.here hx rfl (hb hby d9_15)) ?_
  show Goes p e below KK s₁ (mkF m 16 #[.val (.ref a1), .val (.ref a2), .val (.int n)] [(.int (0 : Int32)), (.ref a2), (.int x0)])
  refine Goes.of (AI.baload X0 hx hZ e0 V_a2 (i := 0) (j := (0 : Int32)) (x := x0) (rfl) (hx0) (g := (mkF m 16 #[.val (.ref a1), .val (.ref a2), .val (.int n)] [(.int (0 : Int32)), (.ref a2), (.int x0)])) rfl rfl (hb hby d9_16)) ?_
  show Goes p e below KK s₁ (mkF m 17 #[.val (.ref a1), .val (.ref a2), .val (.int n)] [(.int x0), (.int x0)])
  refine Goes.of (fun t => XS.icmpYes X0.here hx rfl (pc0 := 17) (pc' := 22) rfl (hb hby d9_17) rfl (teq (show x0 = x0 from rfl)).1 (by decide) (by decide)) ?_
  show Goes p e below KK s₁ (mkF m 22 #[.val (.ref a1), .val (.ref a2), .val (.int n)] [])
  have j28 : ∀ t, Steps p.tables e below (s₁.setTop (mkF m 38 #[.val (.ref a1), .val (.ref a2), .val (.int n)] [])) t → Steps p.tables e below (s₁.setTop (mkF m 22 #[.val (.ref a1), .val (.ref a2), .val (.int n)] [])) t := by
    intro t k
    refine XS.iloadN X0.here hx rfl (hb hby d9_22) rfl ?_
    show Steps p.tables e below (s₁.setTop (mkF m 23 #[.val (.ref a1), .val (.ref a2), .val (.int n)] [(.int n)])) _
    refine XS.iconst X0.here hx rfl (hb hby d9_23) ?_
    show Steps p.tables e below (s₁.setTop (mkF m 24 #[.val (.ref a1), .val (.ref a2), .val (.int n)] [(.int (1 : Int32)), (.int n)])) _
    by_cases hc24 : (1 : Int32) < n
    · refine XS.icmpNo X0.here hx rfl (hb hby d9_24) rfl (tlt hc24).2.2.2 ?_
      show Steps p.tables e below (s₁.setTop (mkF m 27 #[.val (.ref a1), .val (.ref a2), .val (.int n)] [])) _
      refine XS.aloadN X0.here hx rfl (hb hby d9_27) rfl rfl ?_
      show Steps p.tables e below (s₁.setTop (mkF m 28 #[.val (.ref a1), .val (.ref a2), .val (.int n)] [(.ref a1)])) _
      refine XS.iconst X0.here hx rfl (hb hby d9_28) ?_
      show Steps p.tables e below (s₁.setTop (mkF m 29 #[.val (.ref a1), .val (.ref a2), .val (.int n)] [(.int (1 : Int32)), (.ref a1)])) _
      obtain ⟨x1, hx1⟩ : ∃ y, xs[1]? = some y := ⟨_, List.getElem?_eq_getElem (by rw [Int32.lt_iff_toInt_lt, hn] at hc24; have z : (1 : Int32).toInt = 1 := rfl; omega)⟩
      refine (AI.baload X0 hx hZ e0 V_a1 (i := 1) (j := (1 : Int32)) (x := x1) (rfl) (hx1) (g := (mkF m 29 #[.val (.ref a1), .val (.ref a2), .val (.int n)] [(.int (1 : Int32)), (.ref a1)])) rfl rfl (hb hby d9_29)) _ ?_
      show Steps p.tables e below (s₁.setTop (mkF m 30 #[.val (.ref a1), .val (.ref a2), .val (.int n)] [(.int x1)])) _
      refine XS.aloadN X0.here hx rfl (hb hby d9_30) rfl rfl ?_
      show Steps p.tables e below (s₁.setTop (mkF m 31 #[.val (.ref a1), .val (.ref a2), .val (.int n)] [(.ref a2), (.int x1)])) _
      refine XS.iconst X0.here hx rfl (hb hby d9_31) ?_
      show Steps p.tables e below (s₁.setTop (mkF m 32 #[.val (.ref a1), .val (.ref a2), .val (.int n)] [(.int (1 : Int32)), (.ref a2), (.int x1)])) _
      refine (AI.baload X0 hx hZ e0 V_a2 (i := 1) (j := (1 : Int32)) (x := x1) (rfl) (hx1) (g := (mkF m 32 #[.val (.ref a1), .val (.ref a2), .val (.int n)] [(.int (1 : Int32)), (.ref a2), (.int x1)])) rfl rfl (hb hby d9_32)) _ ?_
      show Steps p.tables e below (s₁.setTop (mkF m 33 #[.val (.ref a1), .val (.ref a2), .val (.int n)] [(.int x1), (.int x1)])) _
      refine XS.icmpYes X0.here hx rfl (pc0 := 33) (pc' := 38) rfl (hb hby d9_33) rfl (teq (show x1 = x1 from rfl)).1 (by decide) (by decide) ?_
      show Steps p.tables e below (s₁.setTop (mkF m 38 #[.val (.ref a1), .val (.ref a2), .val (.int n)] [])) _
      try rw [if_pos hc24] at k
      exact k
    · refine XS.icmpYes X0.here hx rfl (pc0 := 24) (pc' := 38) rfl (hb hby d9_24) rfl (flt hc24).2.2.2 (by decide) (by decide) ?_
      show Steps p.tables e below (s₁.setTop (mkF m 38 #[.val (.ref a1), .val (.ref a2), .val (.int n)] [])) _
      try rw [if_neg hc24] at k
      exact k
  refine Goes.of j28 ?_
  show Goes p e below KK s₁ (mkF m 38 #[.val (.ref a1), .val (.ref a2), .val (.int n)] [])
  have j29 : ∀ t, Steps p.tables e below (s₁.setTop (mkF m 54 #[.val (.ref a1), .val (.ref a2), .val (.int n)] [])) t → Steps p.tables e below (s₁.setTop (mkF m 38 #[.val (.ref a1), .val (.ref a2), .val (.int n)] [])) t := by
    intro t k
    refine XS.iloadN X0.here hx rfl (hb hby d9_38) rfl ?_
    show Steps p.tables e below (s₁.setTop (mkF m 39 #[.val (.ref a1), .val (.ref a2), .val (.int n)] [(.int n)])) _
    refine XS.iconst X0.here hx rfl (hb hby d9_39) ?_
    show Steps p.tables e below (s₁.setTop (mkF m 40 #[.val (.ref a1), .val (.ref a2), .val (.int n)] [(.int (2 : Int32)), (.int n)])) _
    by_cases hc40 : (2 : Int32) < n
    · refine XS.icmpNo X0.here hx rfl (hb hby d9_40) rfl (tlt hc40).2.2.2 ?_
      show Steps p.tables e below (s₁.setTop (mkF m 43 #[.val (.ref a1), .val (.ref a2), .val (.int n)] [])) _
      refine XS.aloadN X0.here hx rfl (hb hby d9_43) rfl rfl ?_
      show Steps p.tables e below (s₁.setTop (mkF m 44 #[.val (.ref a1), .val (.ref a2), .val (.int n)] [(.ref a1)])) _
      refine XS.iconst X0.here hx rfl (hb hby d9_44) ?_
      show Steps p.tables e below (s₁.setTop (mkF m 45 #[.val (.ref a1), .val (.ref a2), .val (.int n)] [(.int (2 : Int32)), (.ref a1)])) _
      obtain ⟨x2, hx2⟩ : ∃ y, xs[2]? = some y := ⟨_, List.getElem?_eq_getElem (by rw [Int32.lt_iff_toInt_lt, hn] at hc40; have z : (2 : Int32).toInt = 2 := rfl; omega)⟩
      refine (AI.baload X0 hx hZ e0 V_a1 (i := 2) (j := (2 : Int32)) (x := x2) (rfl) (hx2) (g := (mkF m 45 #[.val (.ref a1), .val (.ref a2), .val (.int n)] [(.int (2 : Int32)), (.ref a1)])) rfl rfl (hb hby d9_45)) _ ?_
      show Steps p.tables e below (s₁.setTop (mkF m 46 #[.val (.ref a1), .val (.ref a2), .val (.int n)] [(.int x2)])) _
      refine XS.aloadN X0.here hx rfl (hb hby d9_46) rfl rfl ?_
      show Steps p.tables e below (s₁.setTop (mkF m 47 #[.val (.ref a1), .val (.ref a2), .val (.int n)] [(.ref a2), (.int x2)])) _
      refine XS.iconst X0.here hx rfl (hb hby d9_47) ?_
      show Steps p.tables e below (s₁.setTop (mkF m 48 #[.val (.ref a1), .val (.ref a2), .val (.int n)] [(.int (2 : Int32)), (.ref a2), (.int x2)])) _
      refine (AI.baload X0 hx hZ e0 V_a2 (i := 2) (j := (2 : Int32)) (x := x2) (rfl) (hx2) (g := (mkF m 48 #[.val (.ref a1), .val (.ref a2), .val (.int n)] [(.int (2 : Int32)), (.ref a2), (.int x2)])) rfl rfl (hb hby d9_48)) _ ?_
      show Steps p.tables e below (s₁.setTop (mkF m 49 #[.val (.ref a1), .val (.ref a2), .val (.int n)] [(.int x2), (.int x2)])) _
      refine XS.icmpYes X0.here hx rfl (pc0 := 49) (pc' := 54) rfl (hb hby d9_49) rfl (teq (show x2 = x2 from rfl)).1 (by decide) (by decide) ?_
      show Steps p.tables e below (s₁.setTop (mkF m 54 #[.val (.ref a1), .val (.ref a2), .val (.int n)] [])) _
      try rw [if_pos hc40] at k
      exact k
    · refine XS.icmpYes X0.here hx rfl (pc0 := 40) (pc' := 54) rfl (hb hby d9_40) rfl (flt hc40).2.2.2 (by decide) (by decide) ?_
      show Steps p.tables e below (s₁.setTop (mkF m 54 #[.val (.ref a1), .val (.ref a2), .val (.int n)] [])) _
      try rw [if_neg hc40] at k
      exact k
  refine Goes.of j29 ?_
  show Goes p e below KK s₁ (mkF m 54 #[.val (.ref a1), .val (.ref a2), .val (.int n)] [])
  have j30 : ∀ t, Steps p.tables e below (s₁.setTop (mkF m 70 #[.val (.ref a1), .val (.ref a2), .val (.int n)] [])) t → Steps p.tables e below (s₁.setTop (mkF m 54 #[.val (.ref a1), .val (.ref a2), .val (.int n)] [])) t := by
    intro t k
    refine XS.iloadN X0.here hx rfl (hb hby d9_54) rfl ?_
    show Steps p.tables e below (s₁.setTop (mkF m 55 #[.val (.ref a1), .val (.ref a2), .val (.int n)] [(.int n)])) _
    refine XS.iconst X0.here hx rfl (hb hby d9_55) ?_
    show Steps p.tables e below (s₁.setTop (mkF m 56 #[.val (.ref a1), .val (.ref a2), .val (.int n)] [(.int (3 : Int32)), (.int n)])) _
    by_cases hc56 : (3 : Int32) < n
    · refine XS.icmpNo X0.here hx rfl (hb hby d9_56) rfl (tlt hc56).2.2.2 ?_
      show Steps p.tables e below (s₁.setTop (mkF m 59 #[.val (.ref a1), .val (.ref a2), .val (.int n)] [])) _
      refine XS.aloadN X0.here hx rfl (hb hby d9_59) rfl rfl ?_
      show Steps p.tables e below (s₁.setTop (mkF m 60 #[.val (.ref a1), .val (.ref a2), .val (.int n)] [(.ref a1)])) _
      refine XS.iconst X0.here hx rfl (hb hby d9_60) ?_
      show Steps p.tables e below (s₁.setTop (mkF m 61 #[.val (.ref a1), .val (.ref a2), .val (.int n)] [(.int (3 : Int32)), (.ref a1)])) _
      obtain ⟨x3, hx3⟩ : ∃ y, xs[3]? = some y := ⟨_, List.getElem?_eq_getElem (by rw [Int32.lt_iff_toInt_lt, hn] at hc56; have z : (3 : Int32).toInt = 3 := rfl; omega)⟩
      refine (AI.baload X0 hx hZ e0 V_a1 (i := 3) (j := (3 : Int32)) (x := x3) (rfl) (hx3) (g := (mkF m 61 #[.val (.ref a1), .val (.ref a2), .val (.int n)] [(.int (3 : Int32)), (.ref a1)])) rfl rfl (hb hby d9_61)) _ ?_
      show Steps p.tables e below (s₁.setTop (mkF m 62 #[.val (.ref a1), .val (.ref a2), .val (.int n)] [(.int x3)])) _
      refine XS.aloadN X0.here hx rfl (hb hby d9_62) rfl rfl ?_
      show Steps p.tables e below (s₁.setTop (mkF m 63 #[.val (.ref a1), .val (.ref a2), .val (.int n)] [(.ref a2), (.int x3)])) _
      refine XS.iconst X0.here hx rfl (hb hby d9_63) ?_
      show Steps p.tables e below (s₁.setTop (mkF m 64 #[.val (.ref a1), .val (.ref a2), .val (.int n)] [(.int (3 : Int32)), (.ref a2), (.int x3)])) _
      refine (AI.baload X0 hx hZ e0 V_a2 (i := 3) (j := (3 : Int32)) (x := x3) (rfl) (hx3) (g := (mkF m 64 #[.val (.ref a1), .val (.ref a2), .val (.int n)] [(.int (3 : Int32)), (.ref a2), (.int x3)])) rfl rfl (hb hby d9_64)) _ ?_
      show Steps p.tables e below (s₁.setTop (mkF m 65 #[.val (.ref a1), .val (.ref a2), .val (.int n)] [(.int x3), (.int x3)])) _
      refine XS.icmpYes X0.here hx rfl (pc0 := 65) (pc' := 70) rfl (hb hby d9_65) rfl (teq (show x3 = x3 from rfl)).1 (by decide) (by decide) ?_
      show Steps p.tables e below (s₁.setTop (mkF m 70 #[.val (.ref a1), .val (.ref a2), .val (.int n)] [])) _
      try rw [if_pos hc56] at k
      exact k
    · refine XS.icmpYes X0.here hx rfl (pc0 := 56) (pc' := 70) rfl (hb hby d9_56) rfl (flt hc56).2.2.2 (by decide) (by decide) ?_
      show Steps p.tables e below (s₁.setTop (mkF m 70 #[.val (.ref a1), .val (.ref a2), .val (.int n)] [])) _
      try rw [if_neg hc56] at k
      exact k
  refine Goes.of j30 ?_
  show Goes p e below KK s₁ (mkF m 70 #[.val (.ref a1), .val (.ref a2), .val (.int n)] [])
  have j31 : ∀ t, Steps p.tables e below (s₁.setTop (mkF m 86 #[.val (.ref a1), .val (.ref a2), .val (.int n)] [])) t → Steps p.tables e below (s₁.setTop (mkF m 70 #[.val (.ref a1), .val (.ref a2), .val (.int n)] [])) t := by
    intro t k
    refine XS.iloadN X0.here hx rfl (hb hby d9_70) rfl ?_
    show Steps p.tables e below (s₁.setTop (mkF m 71 #[.val (.ref a1), .val (.ref a2), .val (.int n)] [(.int n)])) _
    refine XS.iconst X0.here hx rfl (hb hby d9_71) ?_
    show Steps p.tables e below (s₁.setTop (mkF m 72 #[.val (.ref a1), .val (.ref a2), .val (.int n)] [(.int (4 : Int32)), (.int n)])) _
    by_cases hc72 : (4 : Int32) < n
    · refine XS.icmpNo X0.here hx rfl (hb hby d9_72) rfl (tlt hc72).2.2.2 ?_
      show Steps p.tables e below (s₁.setTop (mkF m 75 #[.val (.ref a1), .val (.ref a2), .val (.int n)] [])) _
      refine XS.aloadN X0.here hx rfl (hb hby d9_75) rfl rfl ?_
      show Steps p.tables e below (s₁.setTop (mkF m 76 #[.val (.ref a1), .val (.ref a2), .val (.int n)] [(.ref a1)])) _
      refine XS.iconst X0.here hx rfl (hb hby d9_76) ?_
      show Steps p.tables e below (s₁.setTop (mkF m 77 #[.val (.ref a1), .val (.ref a2), .val (.int n)] [(.int (4 : Int32)), (.ref a1)])) _
      obtain ⟨x4, hx4⟩ : ∃ y, xs[4]? = some y := ⟨_, List.getElem?_eq_getElem (by rw [Int32.lt_iff_toInt_lt, hn] at hc72; have z : (4 : Int32).toInt = 4 := rfl; omega)⟩
      refine (AI.baload X0 hx hZ e0 V_a1 (i := 4) (j := (4 : Int32)) (x := x4) (rfl) (hx4) (g := (mkF m 77 #[.val (.ref a1), .val (.ref a2), .val (.int n)] [(.int (4 : Int32)), (.ref a1)])) rfl rfl (hb hby d9_77)) _ ?_
      show Steps p.tables e below (s₁.setTop (mkF m 78 #[.val (.ref a1), .val (.ref a2), .val (.int n)] [(.int x4)])) _
      refine XS.aloadN X0.here hx rfl (hb hby d9_78) rfl rfl ?_
      show Steps p.tables e below (s₁.setTop (mkF m 79 #[.val (.ref a1), .val (.ref a2), .val (.int n)] [(.ref a2), (.int x4)])) _
      refine XS.iconst X0.here hx rfl (hb hby d9_79) ?_
      show Steps p.tables e below (s₁.setTop (mkF m 80 #[.val (.ref a1), .val (.ref a2), .val (.int n)] [(.int (4 : Int32)), (.ref a2), (.int x4)])) _
      refine (AI.baload X0 hx hZ e0 V_a2 (i := 4) (j := (4 : Int32)) (x := x4) (rfl) (hx4) (g := (mkF m 80 #[.val (.ref a1), .val (.ref a2), .val (.int n)] [(.int (4 : Int32)), (.ref a2), (.int x4)])) rfl rfl (hb hby d9_80)) _ ?_
      show Steps p.tables e below (s₁.setTop (mkF m 81 #[.val (.ref a1), .val (.ref a2), .val (.int n)] [(.int x4), (.int x4)])) _
      refine XS.icmpYes X0.here hx rfl (pc0 := 81) (pc' := 86) rfl (hb hby d9_81) rfl (teq (show x4 = x4 from rfl)).1 (by decide) (by decide) ?_
      show Steps p.tables e below (s₁.setTop (mkF m 86 #[.val (.ref a1), .val (.ref a2), .val (.int n)] [])) _
      try rw [if_pos hc72] at k
      exact k
    · refine XS.icmpYes X0.here hx rfl (pc0 := 72) (pc' := 86) rfl (hb hby d9_72) rfl (flt hc72).2.2.2 (by decide) (by decide) ?_
      show Steps p.tables e below (s₁.setTop (mkF m 86 #[.val (.ref a1), .val (.ref a2), .val (.int n)] [])) _
      try rw [if_neg hc72] at k
      exact k
  refine Goes.of j31 ?_
  show Goes p e below KK s₁ (mkF m 86 #[.val (.ref a1), .val (.ref a2), .val (.int n)] [])
  refine Goes.of (fun t => XS.iconst X0.here hx rfl (hb hby d9_86)) ?_
  show Goes p e below KK s₁ (mkF m 87 #[.val (.ref a1), .val (.ref a2), .val (.int n)] [(.int (1 : Int32))])
  rw [← hKK]
  refine Goes.retNar X0 hx hlk (t := .boolean) (by simp) Bd.returns (hb hby d9_87) ?_ (by decide) (by decide)
  rw [e0]
  exact ⟨rfl, N0, rfl⟩
theorem own_nar (z : Int32) : nar .byte (z.toInt8.toInt32) = z.toInt8.toInt32 := by show (z.toInt8.toInt32).toInt8.toInt32 = _; rw [Int8.toInt8_toInt32]
theorem pn_0 : plainFor (⟨"com/example/iocd/iocd/store/RecordKeysAfterPinLaw", "law", "(IIII)Z"⟩ : MethodName) = true := plainFor_of_name (by first | (simp [plainName, overriddenIn]; done) | decide +kernel)
theorem pd_13 : parseMethodDescriptor "(I)[B" = some ⟨[.int], some (.array .byte)⟩ := by decide +kernel
theorem pd_14 : parseMethodDescriptor "([BIII)V" = some ⟨[(.array .byte), .int, .int, .int], none⟩ := by decide +kernel
theorem pd_15 : parseMethodDescriptor "([B)I" = some ⟨[(.array .byte)], some .int⟩ := by decide +kernel
theorem pd_16 : parseMethodDescriptor "([B)[B" = some ⟨[(.array .byte)], some (.array .byte)⟩ := by decide +kernel
theorem pd_17 : parseMethodDescriptor "([B[BI)Z" = some ⟨[(.array .byte), (.array .byte), .int], some .boolean⟩ := by decide +kernel
theorem pd_18 : parseMethodDescriptor "([B[B)Z" = some ⟨[(.array .byte), (.array .byte)], some .boolean⟩ := by decide +kernel
theorem ef_0 (m : MethodId) (x0 : Int32) (x1 : Int32) (x2 : Int32) (x3 : Int32) : entryFrame m #[(.int x0), (.int x1), (.int x2), (.int x3)] maxLocals = mkF m 0 #[.val (.int x0), .val (.int x1), .val (.int x2), .val (.int x3), .unset, .unset, .unset, .unset, .unset, .unset] [] := by first | (simp [entryFrame, mkF, argsToLocals, Value.category, maxLocals]; done) | rfl
def Q0 (Z : State) (p1 : Int32) (p2 : Int32) (p3 : Int32) (p4 : Int32) (h0 : Heap) (n0 : Nat) (v : Option Value) (h : Heap) (L : List Loc) : Prop := v = some (.int 1) ∧ Fr n0 L
set_option maxRecDepth 65536 in
set_option maxHeartbeats 40000000 in
theorem rm0 (l : Launch) (Z : State) (a0 : Array Value) (hw : ∀ d ∈ tables_1, d.before a0 Z = true) (ws : List Jvm.Cond) (p1 : Int32) (p2 : Int32) (p3 : Int32) (p4 : Int32) (h0 : Heap) (n0 : Nat) (Z0 : n0 ≤ h0.size) :
    MetFree l x (head1 (Jvm.Cond.code x code maxLocals ret :: ws) room_1) (fun a U => a = #[(.int p1), (.int p2), (.int p3), (.int p4)] ∧ Z.Warmed39 U.vm ∧ U.heap = h0) (fun _ _ _ _ _ => True) (fun _ U o U' => ∃ v L, o = .returned v ∧ Q0 Z p1 p2 p3 p4 h0 n0 v U'.heap L ∧ FrameEnd U o U' L room_1.cells room_1.slots) := by
  refine MetFree.of_bodySF pn_0 hisR ?_
  intro p e s m args below meth c s₁ Bd hml0 hP hK
  obtain ⟨rfl, hZ, hh⟩ := hP
  have hx := Bd.exec
  have hby := Bd.bytes
  have hml : c.maxLocals = 10 := hml0
  have hown : s.vm.findClass "com/example/iocd/iocd/store/RecordKeysAfterPinLaw" = some m.cls := findClass_of_methodNamed Bd.named
  have hnm := (name_of_methodNamed Bd.named Bd.method).1
  have hlk : meth.locks = false := BodyLoose.notSynchronized Bd
  have X0 : Stand p l e room_1 s m #[(.int p1), (.int p2), (.int p3), (.int p4)] below meth c s₁ [] 0 0 := Stand.of_body Bd
  have e0 : s₁.heap = h0 := by rw [← hh, Bd.state]; rfl
  have N0 := Fr.nil n0
  show Goes p e below (OwnK s (Q0 Z p1 p2 p3 p4 h0 n0) room_1.cells room_1.slots) s₁ (entryFrame m #[(.int p1), (.int p2), (.int p3), (.int p4)] maxLocals)
  refine Goes.cast (ef_0 m p1 p2 p3 p4) ?_
  generalize hKK : OwnK s (Q0 Z p1 p2 p3 p4 h0 n0) room_1.cells room_1.slots = KK
  show Goes p e below KK s₁ (mkF m 0 #[.val (.int p1), .val (.int p2), .val (.int p3), .val (.int p4), .unset, .unset, .unset, .unset, .unset, .unset] [])
  have w_0 := hw _ (List.mem_of_getElem? (i := 0) rfl)
  have w_1 := hw _ (List.mem_of_getElem? (i := 1) rfl)
  have w_2 := hw _ (List.mem_of_getElem? (i := 2) rfl)
  have w_3 := hw _ (List.mem_of_getElem? (i := 3) rfl)
  have w_4 := hw _ (List.mem_of_getElem? (i := 4) rfl)
  have w_6 := hw _ (List.mem_of_getElem? (i := 6) rfl)
  have w_7 := hw _ (List.mem_of_getElem? (i := 7) rfl)
  have w_8 := hw _ (List.mem_of_getElem? (i := 8) rfl)
  have w_12 := hw _ (List.mem_of_getElem? (i := 12) rfl)
  have w_13 := hw _ (List.mem_of_getElem? (i := 13) rfl)
  have w_14 := hw _ (List.mem_of_getElem? (i := 14) rfl)
  have w_15 := hw _ (List.mem_of_getElem? (i := 15) rfl)
  have w_16 := hw _ (List.mem_of_getElem? (i := 16) rfl)
  have w_17 := hw _ (List.mem_of_getElem? (i := 17) rfl)
  have w_18 := hw _ (List.mem_of_getElem? (i := 18) rfl)
  have w_31 := hw _ (List.mem_of_getElem? (i := 31) rfl)
  have w_32 := hw _ (List.mem_of_getElem? (i := 32) rfl)
  have w_33 := hw _ (List.mem_of_getElem? (i := 33) rfl)
  have w_34 := hw _ (List.mem_of_getElem? (i := 34) rfl)
  have w_35 := hw _ (List.mem_of_getElem? (i := 35) rfl)
  have w_36 := hw _ (List.mem_of_getElem? (i := 36) rfl)
  refine Goes.of (fun t => XS.iloadN X0.here hx rfl (hb hby at_0) rfl) ?_
  show Goes p e below KK s₁ (mkF m 1 #[.val (.int p1), .val (.int p2), .val (.int p3), .val (.int p4), .unset, .unset, .unset, .unset, .unset, .unset] [(.int p3)])
  refine Goes.of (X0.ldcInt hx hown (mvT hZ w_0) (g := (mkF m 1 #[.val (.int p1), .val (.int p2), .val (.int p3), .val (.int p4), .unset, .unset, .unset, .unset, .unset, .unset] [(.int p3)])) rfl (hb hby at_1)) ?_
  show Goes p e below KK s₁ (mkF m 3 #[.val (.int p1), .val (.int p2), .val (.int p3), .val (.int p4), .unset, .unset, .unset, .unset, .unset, .unset] [(.int (2147483647 : Int32)), (.int p3)])
  refine Goes.of (fun t => XS.iand X0.here hx rfl (hb hby at_3) rfl) ?_
  show Goes p e below KK s₁ (mkF m 4 #[.val (.int p1), .val (.int p2), .val (.int p3), .val (.int p4), .unset, .unset, .unset, .unset, .unset, .unset] [(.int (p3 &&& (2147483647 : Int32)))])
  refine Goes.of (fun t => XS.iconst X0.here hx rfl (hb hby at_4)) ?_
  show Goes p e below KK s₁ (mkF m 5 #[.val (.int p1), .val (.int p2), .val (.int p3), .val (.int p4), .unset, .unset, .unset, .unset, .unset, .unset] [(.int (5 : Int32)), (.int (p3 &&& (2147483647 : Int32)))])
  refine Goes.of (fun t => iremM X0 hx rfl (hb hby at_5) rfl (by decide)) ?_
  show Goes p e below KK s₁ (mkF m 6 #[.val (.int p1), .val (.int p2), .val (.int p3), .val (.int p4), .unset, .unset, .unset, .unset, .unset, .unset] [(.int ((p3 &&& (2147483647 : Int32)) % (5 : Int32)))])
  refine Goes.of (fun t => XS.iconst X0.here hx rfl (hb hby at_6)) ?_
  show Goes p e below KK s₁ (mkF m 7 #[.val (.int p1), .val (.int p2), .val (.int p3), .val (.int p4), .unset, .unset, .unset, .unset, .unset, .unset] [(.int (1 : Int32)), (.int ((p3 &&& (2147483647 : Int32)) % (5 : Int32)))])
  refine Goes.of (fun t => XS.iadd X0.here hx rfl (hb hby at_7) rfl) ?_
  show Goes p e below KK s₁ (mkF m 8 #[.val (.int p1), .val (.int p2), .val (.int p3), .val (.int p4), .unset, .unset, .unset, .unset, .unset, .unset] [(.int (((p3 &&& (2147483647 : Int32)) % (5 : Int32)) + (1 : Int32)))])
  generalize e_ln : (((p3 &&& (2147483647 : Int32)) % (5 : Int32)) + (1 : Int32)) = ln
  show Goes p e below KK s₁ (mkF m 8 #[.val (.int p1), .val (.int p2), .val (.int p3), .val (.int p4), .unset, .unset, .unset, .unset, .unset, .unset] [(.int ln)])
  have hl1 : (p3 &&& 2147483647).toInt = p3.toInt % 2 ^ 31 := Jvm.Kit.i32_mask p3 2147483647 (k := 31) (by decide) (by decide)
  have hl2 : ((p3 &&& 2147483647) % 5).toInt = (p3 &&& 2147483647).toInt % 5 := Jvm.Kit.i32_rem_nonneg (by omega)
  have z1 : (1 : Int32).toInt = 1 := rfl
  have hl3 : ln.toInt = (p3 &&& 2147483647).toInt % 5 + 1 := by rw [← e_ln, Jvm.Kit.i32_add (by omega) (by omega), hl2, z1]
  obtain ⟨nl, hnl⟩ : ∃ n : Nat, ln.toInt = (n : Int) := ⟨ln.toInt.toNat, by omega⟩
  have hnl1 : 1 ≤ nl := by omega
  have hnl2 : nl ≤ 5 := by omega
  refine Goes.of (fun t => XS.istore X0.here hx rfl (hb hby at_8) rfl (l' := #[.val (.int p1), .val (.int p2), .val (.int p3), .val (.int p4), .val (.int ln), .unset, .unset, .unset, .unset, .unset]) rfl) ?_
  show Goes p e below KK s₁ (mkF m 10 #[.val (.int p1), .val (.int p2), .val (.int p3), .val (.int p4), .val (.int ln), .unset, .unset, .unset, .unset, .unset] [])
  refine Goes.of (fun t => XS.iloadN X0.here hx rfl (hb hby at_10) rfl) ?_
  show Goes p e below KK s₁ (mkF m 11 #[.val (.int p1), .val (.int p2), .val (.int p3), .val (.int p4), .val (.int ln), .unset, .unset, .unset, .unset, .unset] [(.int p4)])
  refine Goes.of (X0.ldcInt hx hown (mvT hZ w_0) (g := (mkF m 11 #[.val (.int p1), .val (.int p2), .val (.int p3), .val (.int p4), .val (.int ln), .unset, .unset, .unset, .unset, .unset] [(.int p4)])) rfl (hb hby at_11)) ?_
  show Goes p e below KK s₁ (mkF m 13 #[.val (.int p1), .val (.int p2), .val (.int p3), .val (.int p4), .val (.int ln), .unset, .unset, .unset, .unset, .unset] [(.int (2147483647 : Int32)), (.int p4)])
  refine Goes.of (fun t => XS.iand X0.here hx rfl (hb hby at_13) rfl) ?_
  show Goes p e below KK s₁ (mkF m 14 #[.val (.int p1), .val (.int p2), .val (.int p3), .val (.int p4), .val (.int ln), .unset, .unset, .unset, .unset, .unset] [(.int (p4 &&& (2147483647 : Int32)))])
  refine Goes.of (fun t => XS.iload X0.here hx rfl (hb hby at_14) rfl) ?_
  show Goes p e below KK s₁ (mkF m 16 #[.val (.int p1), .val (.int p2), .val (.int p3), .val (.int p4), .val (.int ln), .unset, .unset, .unset, .unset, .unset] [(.int ln), (.int (p4 &&& (2147483647 : Int32)))])
  refine Goes.of (fun t => XS.iconst X0.here hx rfl (hb hby at_16)) ?_
  show Goes p e below KK s₁ (mkF m 17 #[.val (.int p1), .val (.int p2), .val (.int p3), .val (.int p4), .val (.int ln), .unset, .unset, .unset, .unset, .unset] [(.int (1 : Int32)), (.int ln), (.int (p4 &&& (2147483647 : Int32)))])
  refine Goes.of (fun t => XS.iadd X0.here hx rfl (hb hby at_17) rfl) ?_
  show Goes p e below KK s₁ (mkF m 18 #[.val (.int p1), .val (.int p2), .val (.int p3), .val (.int p4), .val (.int ln), .unset, .unset, .unset, .unset, .unset] [(.int (ln + (1 : Int32))), (.int (p4 &&& (2147483647 : Int32)))])
  have hp1 : (ln + 1).toInt = ln.toInt + 1 := by rw [Jvm.Kit.i32_add (by omega) (by omega), z1]
  have hnz : ¬ (ln + 1) = 0 := fun q => by rw [q] at hp1; have z0 : (0 : Int32).toInt = 0 := rfl; omega
  refine Goes.of (fun t => iremM X0 hx rfl (hb hby at_18) rfl hnz) ?_
  show Goes p e below KK s₁ (mkF m 19 #[.val (.int p1), .val (.int p2), .val (.int p3), .val (.int p4), .val (.int ln), .unset, .unset, .unset, .unset, .unset] [(.int ((p4 &&& (2147483647 : Int32)) % (ln + (1 : Int32))))])
  generalize e_kk : ((p4 &&& (2147483647 : Int32)) % (ln + (1 : Int32))) = kk
  show Goes p e below KK s₁ (mkF m 19 #[.val (.int p1), .val (.int p2), .val (.int p3), .val (.int p4), .val (.int ln), .unset, .unset, .unset, .unset, .unset] [(.int kk)])
  have hk1 : (p4 &&& 2147483647).toInt = p4.toInt % 2 ^ 31 := Jvm.Kit.i32_mask p4 2147483647 (k := 31) (by decide) (by decide)
  have hk2 : kk.toInt = (p4 &&& 2147483647).toInt % (ln + 1).toInt := by rw [← e_kk]; exact Jvm.Kit.i32_rem_nonneg (by omega)
  have hkk0 : 0 ≤ kk.toInt := by rw [hk2]; exact Int.emod_nonneg _ (by omega)
  have hkk1 : kk.toInt < ln.toInt + 1 := by rw [hk2, ← hp1]; exact Int.emod_lt_of_pos _ (by omega)
  refine Goes.of (fun t => XS.istore X0.here hx rfl (hb hby at_19) rfl (l' := #[.val (.int p1), .val (.int p2), .val (.int p3), .val (.int p4), .val (.int ln), .val (.int kk), .unset, .unset, .unset, .unset]) rfl) ?_
  show Goes p e below KK s₁ (mkF m 21 #[.val (.int p1), .val (.int p2), .val (.int p3), .val (.int p4), .val (.int ln), .val (.int kk), .unset, .unset, .unset, .unset] [])
  refine Goes.of (fun t => XS.iload X0.here hx rfl (hb hby at_21) rfl) ?_
  show Goes p e below KK s₁ (mkF m 23 #[.val (.int p1), .val (.int p2), .val (.int p3), .val (.int p4), .val (.int ln), .val (.int kk), .unset, .unset, .unset, .unset] [(.int ln)])
  obtain ⟨_, _, ⟨T32, L32, k32, n32⟩, -, X32, ⟨Lc32, hQ32, l32, y32, z32⟩, st32⟩ := Jvm.LawKit.callS X0 hx (y := (⟨"com/example/iocd/iocd/store/RecordKeysAfterPinLaw", "make", "(I)[B"⟩ : MethodName)) hown (mvT hZ w_1) (mvT hZ w_2) (mvT hZ w_3) (mvT hZ w_4) (by decide) (backOf (W := 0) (rm1 l Z a0 hw [] ln nl h0 n0 Z0 hnl hnl1 hnl2) hZ w_4 w_3 (by decide) (by decide)) (g := (mkF m 23 #[.val (.int p1), .val (.int p2), .val (.int p3), .val (.int p4), .val (.int ln), .val (.int kk), .unset, .unset, .unset, .unset] [(.int ln)])) rfl (by rw [hml]; rfl) (argsL := [(.int ln)]) (rest := []) (lenOf pd_13 rfl) rfl (by show 2 * 0 + _ ≤ _; exact Nat.le_of_eq rfl) (hb hby at_23) (fun _ _ => ⟨rfl, e0, (by decide : 0 + 1 ≤ _), (by decide : 0 + 5 ≤ _)⟩)
  dsimp only [Pt.U, Pt.locs, Pt.cells, Pt.slots] at X32 l32 y32 z32 st32 hQ32
  subst l32 y32 z32
  obtain ⟨r32, rfl, N32q, Kc32, hb32, V32, E32⟩ := hQ32
  have N32 := Fr.app N0 N32q
  have g_r32 : n0 ≤ r32 := Nat.le_trans Z0 hb32
  have sz_r32 : h0.size ≤ r32 := Nat.le_trans (Keep.refl h0 []).1 hb32
  have K32 : Keep h0 T32.heap [] := (Keep.refl h0 []).trans Kc32 all0
  have Z32 : n0 ≤ T32.heap.size := Nat.le_trans Z0 Kc32.1
  have e32 : T32.heap = T32.heap := rfl
  refine Goes.of st32 ?_
  show Goes p e below KK T32 (mkF m 26 #[.val (.int p1), .val (.int p2), .val (.int p3), .val (.int p4), .val (.int ln), .val (.int kk), .unset, .unset, .unset, .unset] [(.ref r32)])
  refine Goes.of (fun t => XS.astore X32.here hx rfl (hb hby at_26) rfl rfl (l' := #[.val (.int p1), .val (.int p2), .val (.int p3), .val (.int p4), .val (.int ln), .val (.int kk), .val (.ref r32), .unset, .unset, .unset]) rfl) ?_
  show Goes p e below KK T32 (mkF m 28 #[.val (.int p1), .val (.int p2), .val (.int p3), .val (.int p4), .val (.int ln), .val (.int kk), .val (.ref r32), .unset, .unset, .unset] [])
  refine Goes.of (fun t => XS.iload X32.here hx rfl (hb hby at_28) rfl) ?_
  show Goes p e below KK T32 (mkF m 30 #[.val (.int p1), .val (.int p2), .val (.int p3), .val (.int p4), .val (.int ln), .val (.int kk), .val (.ref r32), .unset, .unset, .unset] [(.int ln)])
  obtain ⟨_, _, ⟨T33, L33, k33, n33⟩, -, X33, ⟨Lc33, hQ33, l33, y33, z33⟩, st33⟩ := Jvm.LawKit.callS X32 hx (y := (⟨"com/example/iocd/iocd/store/RecordKeysAfterPinLaw", "make", "(I)[B"⟩ : MethodName)) hown (mvT hZ w_1) (mvT hZ w_2) (mvT hZ w_3) (mvT hZ w_4) (by decide) (backOf (W := 0) (rm1 l Z a0 hw [] ln nl T32.heap n0 Z32 hnl hnl1 hnl2) hZ w_4 w_3 (by decide) (by decide)) (g := (mkF m 30 #[.val (.int p1), .val (.int p2), .val (.int p3), .val (.int p4), .val (.int ln), .val (.int kk), .val (.ref r32), .unset, .unset, .unset] [(.int ln)])) rfl (by rw [hml]; rfl) (argsL := [(.int ln)]) (rest := []) (lenOf pd_13 rfl) rfl (by show 2 * 0 + _ ≤ _; exact Nat.le_of_eq rfl) (hb hby at_30) (fun _ _ => ⟨rfl, e32, (by decide : 1 + 1 ≤ _), (by decide : 5 + 5 ≤ _)⟩)
  dsimp only [Pt.U, Pt.locs, Pt.cells, Pt.slots] at X33 l33 y33 z33 st33 hQ33
  subst l33 y33 z33
  obtain ⟨r33, rfl, N33q, Kc33, hb33, V33, E33⟩ := hQ33
  have N33 := Fr.app N32 N33q
  have ne_r32_r33 : r32 ≠ r33 := Nat.ne_of_lt (Nat.lt_of_lt_of_le V32.lt hb33)
  have g_r33 : n0 ≤ r33 := Nat.le_trans Z32 hb33
  have sz_r33 : h0.size ≤ r33 := Nat.le_trans K32.1 hb33
  have V32_33 : AI Z T33.heap r32 .byte (List.replicate nl (0 : Int32)) := V32.keep Kc33 nin0
  have E32_33 : Exa Z T33.heap r32 "[B" := E32.keep Kc33
  have K33 : Keep h0 T33.heap [] := K32.trans Kc33 all0
  have Z33 : n0 ≤ T33.heap.size := Nat.le_trans Z32 Kc33.1
  have e33 : T33.heap = T33.heap := rfl
  refine Goes.of st33 ?_
  show Goes p e below KK T33 (mkF m 33 #[.val (.int p1), .val (.int p2), .val (.int p3), .val (.int p4), .val (.int ln), .val (.int kk), .val (.ref r32), .unset, .unset, .unset] [(.ref r33)])
  refine Goes.of (fun t => XS.astore X33.here hx rfl (hb hby at_33) rfl rfl (l' := #[.val (.int p1), .val (.int p2), .val (.int p3), .val (.int p4), .val (.int ln), .val (.int kk), .val (.ref r32), .val (.ref r33), .unset, .unset]) rfl) ?_
  show Goes p e below KK T33 (mkF m 35 #[.val (.int p1), .val (.int p2), .val (.int p3), .val (.int p4), .val (.int ln), .val (.int kk), .val (.ref r32), .val (.ref r33), .unset, .unset] [])
  refine Goes.of (fun t => XS.aload X33.here hx rfl (hb hby at_35) rfl rfl) ?_
  show Goes p e below KK T33 (mkF m 37 #[.val (.int p1), .val (.int p2), .val (.int p3), .val (.int p4), .val (.int ln), .val (.int kk), .val (.ref r32), .val (.ref r33), .unset, .unset] [(.ref r32)])
  refine Goes.of (fun t => XS.iloadN X33.here hx rfl (hb hby at_37) rfl) ?_
  show Goes p e below KK T33 (mkF m 38 #[.val (.int p1), .val (.int p2), .val (.int p3), .val (.int p4), .val (.int ln), .val (.int kk), .val (.ref r32), .val (.ref r33), .unset, .unset] [(.int p1), (.ref r32)])
  refine Goes.of (fun t => XS.iloadN X33.here hx rfl (hb hby at_38) rfl) ?_
  show Goes p e below KK T33 (mkF m 39 #[.val (.int p1), .val (.int p2), .val (.int p3), .val (.int p4), .val (.int ln), .val (.int kk), .val (.ref r32), .val (.ref r33), .unset, .unset] [(.int p2), (.int p1), (.ref r32)])
  refine Goes.of (fun t => XS.iload X33.here hx rfl (hb hby at_39) rfl) ?_
  show Goes p e below KK T33 (mkF m 41 #[.val (.int p1), .val (.int p2), .val (.int p3), .val (.int p4), .val (.int ln), .val (.int kk), .val (.ref r32), .val (.ref r33), .unset, .unset] [(.int kk), (.int p2), (.int p1), (.ref r32)])
  obtain ⟨ys, hys⟩ : ∃ ys, fillL (List.replicate nl (0 : Int32)) p1 p2 kk = ys := ⟨_, rfl⟩
  have hyl : ys.length = nl := by rw [← hys, fillL_len, List.length_replicate]
  obtain ⟨_, _, ⟨T34, L34, k34, n34⟩, -, X34, ⟨Lc34, hQ34, l34, y34, z34⟩, st34⟩ := Jvm.LawKit.callS X33 hx (y := (⟨"com/example/iocd/iocd/store/RecordKeysAfterPinLaw", "fill", "([BIII)V"⟩ : MethodName)) hown (mvT hZ w_6) (mvT hZ w_7) (mvT hZ w_3) (mvT hZ w_8) (by decide) (backOf (W := 0) (rm2 l Z a0 hw [] r32 p1 p2 kk (List.replicate nl (0 : Int32)) ln T33.heap n0 Z33 V32_33 g_r32 (by rw [List.length_replicate]; exact hnl) (by rw [List.length_replicate]; exact hnl2) hkk0 (by omega)) hZ w_8 w_3 (by decide) (by decide)) (g := (mkF m 41 #[.val (.int p1), .val (.int p2), .val (.int p3), .val (.int p4), .val (.int ln), .val (.int kk), .val (.ref r32), .val (.ref r33), .unset, .unset] [(.int kk), (.int p2), (.int p1), (.ref r32)])) rfl (by rw [hml]; rfl) (argsL := [(.ref r32), (.int p1), (.int p2), (.int kk)]) (rest := []) (lenOf pd_14 rfl) rfl (by show 2 * 0 + _ ≤ _; exact Nat.le_of_eq rfl) (hb hby at_41) (fun _ _ => ⟨rfl, e33, (by decide : 2 + 0 ≤ _), (by decide : 10 + 0 ≤ _)⟩)
  dsimp only [Pt.U, Pt.locs, Pt.cells, Pt.slots] at X34 l34 y34 z34 st34 hQ34
  subst l34 y34 z34
  obtain ⟨rfl, N34q, Kc34, V34⟩ := hQ34
  have N34 := Fr.app N33 N34q
  have E32_33_34 : Exa Z T34.heap r32 "[B" := E32_33.keep Kc34
  have V33_34 : AI Z T34.heap r33 .byte (List.replicate nl (0 : Int32)) := V33.keep Kc34 (ninS (Ne.symm ne_r32_r33) nin0)
  have E33_34 : Exa Z T34.heap r33 "[B" := E33.keep Kc34
  have K34 : Keep h0 T34.heap [] := K33.trans Kc34 (allS (Or.inr sz_r32) all0)
  have Z34 : n0 ≤ T34.heap.size := Nat.le_trans Z33 Kc34.1
  have e34 : T34.heap = T34.heap := rfl
  rw [hys] at V34
  refine Goes.of st34 ?_
  show Goes p e below KK T34 (mkF m 44 #[.val (.int p1), .val (.int p2), .val (.int p3), .val (.int p4), .val (.int ln), .val (.int kk), .val (.ref r32), .val (.ref r33), .unset, .unset] [])
  refine Goes.of (fun t => XS.aload X34.here hx rfl (hb hby at_44) rfl rfl) ?_
  show Goes p e below KK T34 (mkF m 46 #[.val (.int p1), .val (.int p2), .val (.int p3), .val (.int p4), .val (.int ln), .val (.int kk), .val (.ref r32), .val (.ref r33), .unset, .unset] [(.ref r33)])
  refine Goes.of (fun t => XS.iloadN X34.here hx rfl (hb hby at_46) rfl) ?_
  show Goes p e below KK T34 (mkF m 47 #[.val (.int p1), .val (.int p2), .val (.int p3), .val (.int p4), .val (.int ln), .val (.int kk), .val (.ref r32), .val (.ref r33), .unset, .unset] [(.int p1), (.ref r33)])
  refine Goes.of (fun t => XS.iloadN X34.here hx rfl (hb hby at_47) rfl) ?_
  show Goes p e below KK T34 (mkF m 48 #[.val (.int p1), .val (.int p2), .val (.int p3), .val (.int p4), .val (.int ln), .val (.int kk), .val (.ref r32), .val (.ref r33), .unset, .unset] [(.int p2), (.int p1), (.ref r33)])
  refine Goes.of (fun t => XS.iload X34.here hx rfl (hb hby at_48) rfl) ?_
  show Goes p e below KK T34 (mkF m 50 #[.val (.int p1), .val (.int p2), .val (.int p3), .val (.int p4), .val (.int ln), .val (.int kk), .val (.ref r32), .val (.ref r33), .unset, .unset] [(.int kk), (.int p2), (.int p1), (.ref r33)])
  obtain ⟨_, _, ⟨T35, L35, k35, n35⟩, -, X35, ⟨Lc35, hQ35, l35, y35, z35⟩, st35⟩ := Jvm.LawKit.callS X34 hx (y := (⟨"com/example/iocd/iocd/store/RecordKeysAfterPinLaw", "fill", "([BIII)V"⟩ : MethodName)) hown (mvT hZ w_6) (mvT hZ w_7) (mvT hZ w_3) (mvT hZ w_8) (by decide) (backOf (W := 0) (rm2 l Z a0 hw [] r33 p1 p2 kk (List.replicate nl (0 : Int32)) ln T34.heap n0 Z34 V33_34 g_r33 (by rw [List.length_replicate]; exact hnl) (by rw [List.length_replicate]; exact hnl2) hkk0 (by omega)) hZ w_8 w_3 (by decide) (by decide)) (g := (mkF m 50 #[.val (.int p1), .val (.int p2), .val (.int p3), .val (.int p4), .val (.int ln), .val (.int kk), .val (.ref r32), .val (.ref r33), .unset, .unset] [(.int kk), (.int p2), (.int p1), (.ref r33)])) rfl (by rw [hml]; rfl) (argsL := [(.ref r33), (.int p1), (.int p2), (.int kk)]) (rest := []) (lenOf pd_14 rfl) rfl (by show 2 * 0 + _ ≤ _; exact Nat.le_of_eq rfl) (hb hby at_50) (fun _ _ => ⟨rfl, e34, (by decide : 2 + 0 ≤ _), (by decide : 10 + 0 ≤ _)⟩)
  dsimp only [Pt.U, Pt.locs, Pt.cells, Pt.slots] at X35 l35 y35 z35 st35 hQ35
  subst l35 y35 z35
  obtain ⟨rfl, N35q, Kc35, V35⟩ := hQ35
  have N35 := Fr.app N34 N35q
  have E32_33_34_35 : Exa Z T35.heap r32 "[B" := E32_33_34.keep Kc35
  have E33_34_35 : Exa Z T35.heap r33 "[B" := E33_34.keep Kc35
  have V34_35 : AI Z T35.heap r32 .byte ys := V34.keep Kc35 (ninS ne_r32_r33 nin0)
  have K35 : Keep h0 T35.heap [] := K34.trans Kc35 (allS (Or.inr sz_r33) all0)
  have Z35 : n0 ≤ T35.heap.size := Nat.le_trans Z34 Kc35.1
  have e35 : T35.heap = T35.heap := rfl
  rw [hys] at V35
  refine Goes.of st35 ?_
  show Goes p e below KK T35 (mkF m 53 #[.val (.int p1), .val (.int p2), .val (.int p3), .val (.int p4), .val (.int ln), .val (.int kk), .val (.ref r32), .val (.ref r33), .unset, .unset] [])
  refine Goes.of (fun t => XS.aload X35.here hx rfl (hb hby at_53) rfl rfl) ?_
  show Goes p e below KK T35 (mkF m 55 #[.val (.int p1), .val (.int p2), .val (.int p3), .val (.int p4), .val (.int ln), .val (.int kk), .val (.ref r32), .val (.ref r33), .unset, .unset] [(.ref r32)])
  obtain ⟨_, _, ⟨T36, L36, k36, n36⟩, -, X36, ⟨Lc36, hQ36, l36, y36, z36⟩, st36⟩ := Jvm.LawKit.callS X35 hx (y := (⟨"com/example/iocd/iocd/store/RecordKeysAfterPinLaw", "lastNon", "([B)I"⟩ : MethodName)) hown (mvT hZ w_12) (mvT hZ w_13) (mvT hZ w_3) (mvT hZ w_14) (by decide) (backOf (W := 0) (rm4 l Z a0 hw [] r32 ys ln T35.heap n0 Z35 V34_35 (by rw [hyl]; exact hnl) (by omega) (by omega)) hZ w_14 w_3 (by decide) (by decide)) (g := (mkF m 55 #[.val (.int p1), .val (.int p2), .val (.int p3), .val (.int p4), .val (.int ln), .val (.int kk), .val (.ref r32), .val (.ref r33), .unset, .unset] [(.ref r32)])) rfl (by rw [hml]; rfl) (argsL := [(.ref r32)]) (rest := []) (lenOf pd_15 rfl) rfl (by show 2 * 0 + _ ≤ _; exact Nat.le_of_eq rfl) (hb hby at_55) (fun _ _ => ⟨rfl, e35, (by decide : 2 + 0 ≤ _), (by decide : 10 + 0 ≤ _)⟩)
  dsimp only [Pt.U, Pt.locs, Pt.cells, Pt.slots] at X36 l36 y36 z36 st36 hQ36
  subst l36 y36 z36
  obtain ⟨la, rfl, hla, N36q, e36⟩ := hQ36
  have N36 := Fr.app N35 N36q
  refine Goes.of st36 ?_
  show Goes p e below KK T36 (mkF m 58 #[.val (.int p1), .val (.int p2), .val (.int p3), .val (.int p4), .val (.int ln), .val (.int kk), .val (.ref r32), .val (.ref r33), .unset, .unset] [(.int la)])
  refine Goes.of (fun t => XS.istore X36.here hx rfl (hb hby at_58) rfl (l' := #[.val (.int p1), .val (.int p2), .val (.int p3), .val (.int p4), .val (.int ln), .val (.int kk), .val (.ref r32), .val (.ref r33), .val (.int la), .unset]) rfl) ?_
  show Goes p e below KK T36 (mkF m 60 #[.val (.int p1), .val (.int p2), .val (.int p3), .val (.int p4), .val (.int ln), .val (.int kk), .val (.ref r32), .val (.ref r33), .val (.int la), .unset] [])
  rcases hla with ⟨hla1, hla2⟩ | ⟨mm, y, hla1, hm, hy, hyn, hup⟩
  · subst hla1
    show Goes p e below KK T36 (mkF m 60 #[.val (.int p1), .val (.int p2), .val (.int p3), .val (.int p4), .val (.int ln), .val (.int kk), .val (.ref r32), .val (.ref r33), .val (.int (-1 : Int32)), .unset] [])
    refine Goes.of (fun t => XS.iload X36.here hx rfl (hb hby at_60) rfl) ?_
    show Goes p e below KK T36 (mkF m 62 #[.val (.int p1), .val (.int p2), .val (.int p3), .val (.int p4), .val (.int ln), .val (.int kk), .val (.ref r32), .val (.ref r33), .val (.int (-1 : Int32)), .unset] [(.int (-1 : Int32))])
    refine Goes.of (fun t => XS.ifNo X36.here hx rfl (hb hby at_62) rfl ((if0 _ _).trans (tlt (show (-1 : Int32) < (0 : Int32) from by decide)).2.1)) ?_
    show Goes p e below KK T36 (mkF m 65 #[.val (.int p1), .val (.int p2), .val (.int p3), .val (.int p4), .val (.int ln), .val (.int kk), .val (.ref r32), .val (.ref r33), .val (.int (-1 : Int32)), .unset] [])
    refine Goes.of (fun t => XS.iconst X36.here hx rfl (hb hby at_65)) ?_
    show Goes p e below KK T36 (mkF m 66 #[.val (.int p1), .val (.int p2), .val (.int p3), .val (.int p4), .val (.int ln), .val (.int kk), .val (.ref r32), .val (.ref r33), .val (.int (-1 : Int32)), .unset] [(.int (1 : Int32))])
    rw [← hKK]
    refine Goes.retNar X36 hx hlk (t := .boolean) (by simp) Bd.returns (hb hby at_66) ?_ (by decide) (by decide)
    rw [e36]
    exact ⟨rfl, N36⟩
  · show Goes p e below KK T36 (mkF m 60 #[.val (.int p1), .val (.int p2), .val (.int p3), .val (.int p4), .val (.int ln), .val (.int kk), .val (.ref r32), .val (.ref r33), .val (.int la), .unset] [])
    refine Goes.of (fun t => XS.iload X36.here hx rfl (hb hby at_60) rfl) ?_
    show Goes p e below KK T36 (mkF m 62 #[.val (.int p1), .val (.int p2), .val (.int p3), .val (.int p4), .val (.int ln), .val (.int kk), .val (.ref r32), .val (.ref r33), .val (.int la), .unset] [(.int la)])
    refine Goes.of (fun t => XS.ifYes X36.here hx rfl (pc0 := 62) (pc' := 67) rfl (hb hby at_62) rfl ((if0 _ _).trans (flt (show ¬ (la < (0 : Int32)) from fun q => by rw [Int32.lt_iff_toInt_lt, hla1] at q; have z0 : (0 : Int32).toInt = 0 := rfl; omega)).2.1) (by decide) (by decide)) ?_
    show Goes p e below KK T36 (mkF m 67 #[.val (.int p1), .val (.int p2), .val (.int p3), .val (.int p4), .val (.int ln), .val (.int kk), .val (.ref r32), .val (.ref r33), .val (.int la), .unset] [])
    refine Goes.of (fun t => XS.aload X36.here hx rfl (hb hby at_67) rfl rfl) ?_
    show Goes p e below KK T36 (mkF m 69 #[.val (.int p1), .val (.int p2), .val (.int p3), .val (.int p4), .val (.int ln), .val (.int kk), .val (.ref r32), .val (.ref r33), .val (.int la), .unset] [(.ref r32)])
    obtain ⟨_, _, ⟨T37, L37, k37, n37⟩, -, X37, ⟨Lc37, hQ37, l37, y37, z37⟩, st37⟩ := Jvm.LawKit.callS X36 hx (y := (⟨"com/example/iocd/iocd/store/RecordKeys", "after", "([B)[B"⟩ : MethodName)) hown (mvT hZ w_15) (mvT hZ w_16) (mvT hZ w_17) (mvT hZ w_18) (by decide) (backOf (W := 0) (rm5 l Z a0 hw [] r32 ys ln mm y T35.heap n0 Z35 V34_35 E32_33_34_35 (by rw [hyl]; exact hnl) (by omega) hm hy hyn hup) hZ w_18 w_17 (by decide) (by decide)) (g := (mkF m 69 #[.val (.int p1), .val (.int p2), .val (.int p3), .val (.int p4), .val (.int ln), .val (.int kk), .val (.ref r32), .val (.ref r33), .val (.int la), .unset] [(.ref r32)])) rfl (by rw [hml]; rfl) (argsL := [(.ref r32)]) (rest := []) (lenOf pd_16 rfl) rfl (by show 2 * 0 + _ ≤ _; exact Nat.le_of_eq rfl) (hb hby at_69) (fun _ _ => ⟨rfl, e36, (by decide : 2 + 1 ≤ _), (by decide : 10 + 5 ≤ _)⟩)
    dsimp only [Pt.U, Pt.locs, Pt.cells, Pt.slots] at X37 l37 y37 z37 st37 hQ37
    subst l37 y37 z37
    obtain ⟨r37, rfl, N37q, Kc37, hb37, V37⟩ := hQ37
    have N37 := Fr.app N36 N37q
    have ne_r32_r37 : r32 ≠ r37 := Nat.ne_of_lt (Nat.lt_of_lt_of_le E32_33_34_35.lt hb37)
    have ne_r33_r37 : r33 ≠ r37 := Nat.ne_of_lt (Nat.lt_of_lt_of_le E33_34_35.lt hb37)
    have g_r37 : n0 ≤ r37 := Nat.le_trans Z35 hb37
    have sz_r37 : h0.size ≤ r37 := Nat.le_trans K35.1 hb37
    have E32_33_34_35_37 : Exa Z T37.heap r32 "[B" := E32_33_34_35.keep Kc37
    have E33_34_35_37 : Exa Z T37.heap r33 "[B" := E33_34_35.keep Kc37
    have V34_35_37 : AI Z T37.heap r32 .byte ys := V34_35.keep Kc37 nin0
    have V35_37 : AI Z T37.heap r33 .byte ys := V35.keep Kc37 nin0
    have K37 : Keep h0 T37.heap [] := K35.trans Kc37 all0
    have Z37 : n0 ≤ T37.heap.size := Nat.le_trans Z35 Kc37.1
    have e37 : T37.heap = T37.heap := rfl
    obtain ⟨rs, hrs⟩ : ∃ rs, (ys.take (mm + 1)).set mm (nar .byte ((y + (1 : Int32)).toInt8.toInt32)) = rs := ⟨_, rfl⟩
    rw [hrs] at V37
    have hrl : rs.length = mm + 1 := by rw [← hrs, List.length_set, List.length_take]; omega
    have hrm : rs[mm]? = some (nar .byte ((y + (1 : Int32)).toInt8.toInt32)) := by rw [← hrs, List.getElem?_set_self (by rw [List.length_take]; omega)]
    have hrj : ∀ j, j < mm → rs[j]? = ys[j]? := fun j q => by rw [← hrs, List.getElem?_set_ne (by omega), List.getElem?_take_of_lt (by omega)]
    refine Goes.of st37 ?_
    show Goes p e below KK T37 (mkF m 72 #[.val (.int p1), .val (.int p2), .val (.int p3), .val (.int p4), .val (.int ln), .val (.int kk), .val (.ref r32), .val (.ref r33), .val (.int la), .unset] [(.ref r37)])
    refine Goes.of (fun t => XS.astore X37.here hx rfl (hb hby at_72) rfl rfl (l' := #[.val (.int p1), .val (.int p2), .val (.int p3), .val (.int p4), .val (.int ln), .val (.int kk), .val (.ref r32), .val (.ref r33), .val (.int la), .val (.ref r37)]) rfl) ?_
    show Goes p e below KK T37 (mkF m 74 #[.val (.int p1), .val (.int p2), .val (.int p3), .val (.int p4), .val (.int ln), .val (.int kk), .val (.ref r32), .val (.ref r33), .val (.int la), .val (.ref r37)] [])
    refine Goes.of (fun t => XS.aload X37.here hx rfl (hb hby at_74) rfl rfl) ?_
    show Goes p e below KK T37 (mkF m 76 #[.val (.int p1), .val (.int p2), .val (.int p3), .val (.int p4), .val (.int ln), .val (.int kk), .val (.ref r32), .val (.ref r33), .val (.int la), .val (.ref r37)] [(.ref r37)])
    refine Goes.of (AI.arraylength X37 hx hZ e37 V37 (j := (la + (1 : Int32))) (by rw [hrl, Jvm.Kit.i32_add (by rw [hla1]; show -2 ^ 31 ≤ (mm : Int) + 1; omega) (by rw [hla1]; show (mm : Int) + 1 < 2 ^ 31; omega), hla1]; rfl) (g := (mkF m 76 #[.val (.int p1), .val (.int p2), .val (.int p3), .val (.int p4), .val (.int ln), .val (.int kk), .val (.ref r32), .val (.ref r33), .val (.int la), .val (.ref r37)] [(.ref r37)])) rfl rfl (hb hby at_76)) ?_
    show Goes p e below KK T37 (mkF m 77 #[.val (.int p1), .val (.int p2), .val (.int p3), .val (.int p4), .val (.int ln), .val (.int kk), .val (.ref r32), .val (.ref r33), .val (.int la), .val (.ref r37)] [(.int (la + (1 : Int32)))])
    refine Goes.of (fun t => XS.iload X37.here hx rfl (hb hby at_77) rfl) ?_
    show Goes p e below KK T37 (mkF m 79 #[.val (.int p1), .val (.int p2), .val (.int p3), .val (.int p4), .val (.int ln), .val (.int kk), .val (.ref r32), .val (.ref r33), .val (.int la), .val (.ref r37)] [(.int la), (.int (la + (1 : Int32)))])
    refine Goes.of (fun t => XS.iconst X37.here hx rfl (hb hby at_79)) ?_
    show Goes p e below KK T37 (mkF m 80 #[.val (.int p1), .val (.int p2), .val (.int p3), .val (.int p4), .val (.int ln), .val (.int kk), .val (.ref r32), .val (.ref r33), .val (.int la), .val (.ref r37)] [(.int (1 : Int32)), (.int la), (.int (la + (1 : Int32)))])
    refine Goes.of (fun t => XS.iadd X37.here hx rfl (hb hby at_80) rfl) ?_
    show Goes p e below KK T37 (mkF m 81 #[.val (.int p1), .val (.int p2), .val (.int p3), .val (.int p4), .val (.int ln), .val (.int kk), .val (.ref r32), .val (.ref r33), .val (.int la), .val (.ref r37)] [(.int (la + (1 : Int32))), (.int (la + (1 : Int32)))])
    refine Goes.of (fun t => XS.icmpYes X37.here hx rfl (pc0 := 81) (pc' := 86) rfl (hb hby at_81) rfl (teq (show (la + (1 : Int32)) = (la + (1 : Int32)) from rfl)).1 (by decide) (by decide)) ?_
    show Goes p e below KK T37 (mkF m 86 #[.val (.int p1), .val (.int p2), .val (.int p3), .val (.int p4), .val (.int ln), .val (.int kk), .val (.ref r32), .val (.ref r33), .val (.int la), .val (.ref r37)] [])
    refine Goes.of (fun t => XS.aload X37.here hx rfl (hb hby at_86) rfl rfl) ?_
    show Goes p e below KK T37 (mkF m 88 #[.val (.int p1), .val (.int p2), .val (.int p3), .val (.int p4), .val (.int ln), .val (.int kk), .val (.ref r32), .val (.ref r33), .val (.int la), .val (.ref r37)] [(.ref r37)])
    refine Goes.of (fun t => XS.aload X37.here hx rfl (hb hby at_88) rfl rfl) ?_
    show Goes p e below KK T37 (mkF m 90 #[.val (.int p1), .val (.int p2), .val (.int p3), .val (.int p4), .val (.int ln), .val (.int kk), .val (.ref r32), .val (.ref r33), .val (.int la), .val (.ref r37)] [(.ref r33), (.ref r37)])
    refine Goes.of (fun t => XS.iload X37.here hx rfl (hb hby at_90) rfl) ?_
    show Goes p e below KK T37 (mkF m 92 #[.val (.int p1), .val (.int p2), .val (.int p3), .val (.int p4), .val (.int ln), .val (.int kk), .val (.ref r32), .val (.ref r33), .val (.int la), .val (.ref r37)] [(.int la), (.ref r33), (.ref r37)])
    obtain ⟨_, _, ⟨T38, L38, k38, n38⟩, -, X38, ⟨Lc38, hQ38, l38, y38, z38⟩, st38⟩ := Jvm.LawKit.callS X37 hx (y := (⟨"com/example/iocd/iocd/store/RecordKeysAfterPinLaw", "samePrefix", "([B[BI)Z"⟩ : MethodName)) hown (mvT hZ w_31) (mvT hZ w_32) (mvT hZ w_3) (mvT hZ w_33) (by decide) (backOf (W := 0) (rm8 l Z a0 hw [] r37 r33 la rs ys mm T37.heap n0 Z37 V37 V35_37 hla1 hm hrj) hZ w_33 w_3 (by decide) (by decide)) (g := (mkF m 92 #[.val (.int p1), .val (.int p2), .val (.int p3), .val (.int p4), .val (.int ln), .val (.int kk), .val (.ref r32), .val (.ref r33), .val (.int la), .val (.ref r37)] [(.int la), (.ref r33), (.ref r37)])) rfl (by rw [hml]; rfl) (argsL := [(.ref r37), (.ref r33), (.int la)]) (rest := []) (lenOf pd_17 rfl) rfl (by show 2 * 0 + _ ≤ _; exact Nat.le_of_eq rfl) (hb hby at_92) (fun _ _ => ⟨rfl, e37, (by decide : 3 + 0 ≤ _), (by decide : 15 + 0 ≤ _)⟩)
    dsimp only [Pt.U, Pt.locs, Pt.cells, Pt.slots] at X38 l38 y38 z38 st38 hQ38
    subst l38 y38 z38
    obtain ⟨rfl, N38q, e38⟩ := hQ38
    have N38 := Fr.app N37 N38q
    refine Goes.of st38 ?_
    show Goes p e below KK T38 (mkF m 95 #[.val (.int p1), .val (.int p2), .val (.int p3), .val (.int p4), .val (.int ln), .val (.int kk), .val (.ref r32), .val (.ref r33), .val (.int la), .val (.ref r37)] [(.int (1 : Int32))])
    refine Goes.of (fun t => XS.ifYes X38.here hx rfl (pc0 := 95) (pc' := 100) rfl (hb hby at_95) rfl ((if0 _ _).trans (feq (show ¬ ((1 : Int32) = (0 : Int32)) from by decide)).2) (by decide) (by decide)) ?_
    show Goes p e below KK T38 (mkF m 100 #[.val (.int p1), .val (.int p2), .val (.int p3), .val (.int p4), .val (.int ln), .val (.int kk), .val (.ref r32), .val (.ref r33), .val (.int la), .val (.ref r37)] [])
    refine Goes.of (fun t => XS.aload X38.here hx rfl (hb hby at_100) rfl rfl) ?_
    show Goes p e below KK T38 (mkF m 102 #[.val (.int p1), .val (.int p2), .val (.int p3), .val (.int p4), .val (.int ln), .val (.int kk), .val (.ref r32), .val (.ref r33), .val (.int la), .val (.ref r37)] [(.ref r37)])
    refine Goes.of (fun t => XS.iload X38.here hx rfl (hb hby at_102) rfl) ?_
    show Goes p e below KK T38 (mkF m 104 #[.val (.int p1), .val (.int p2), .val (.int p3), .val (.int p4), .val (.int ln), .val (.int kk), .val (.ref r32), .val (.ref r33), .val (.int la), .val (.ref r37)] [(.int la), (.ref r37)])
    refine Goes.of (AI.baload X38 hx hZ e38 V37 (i := mm) (j := la) (x := (nar .byte ((y + (1 : Int32)).toInt8.toInt32))) (hla1) (hrm) (g := (mkF m 104 #[.val (.int p1), .val (.int p2), .val (.int p3), .val (.int p4), .val (.int ln), .val (.int kk), .val (.ref r32), .val (.ref r33), .val (.int la), .val (.ref r37)] [(.int la), (.ref r37)])) rfl rfl (hb hby at_104)) ?_
    show Goes p e below KK T38 (mkF m 105 #[.val (.int p1), .val (.int p2), .val (.int p3), .val (.int p4), .val (.int ln), .val (.int kk), .val (.ref r32), .val (.ref r33), .val (.int la), .val (.ref r37)] [(.int (nar .byte ((y + (1 : Int32)).toInt8.toInt32)))])
    refine Goes.of (fun t => XS.aload X38.here hx rfl (hb hby at_105) rfl rfl) ?_
    show Goes p e below KK T38 (mkF m 107 #[.val (.int p1), .val (.int p2), .val (.int p3), .val (.int p4), .val (.int ln), .val (.int kk), .val (.ref r32), .val (.ref r33), .val (.int la), .val (.ref r37)] [(.ref r33), (.int (nar .byte ((y + (1 : Int32)).toInt8.toInt32)))])
    refine Goes.of (fun t => XS.iload X38.here hx rfl (hb hby at_107) rfl) ?_
    show Goes p e below KK T38 (mkF m 109 #[.val (.int p1), .val (.int p2), .val (.int p3), .val (.int p4), .val (.int ln), .val (.int kk), .val (.ref r32), .val (.ref r33), .val (.int la), .val (.ref r37)] [(.int la), (.ref r33), (.int (nar .byte ((y + (1 : Int32)).toInt8.toInt32)))])
    refine Goes.of (AI.baload X38 hx hZ e38 V35_37 (i := mm) (j := la) (x := y) (hla1) (hy) (g := (mkF m 109 #[.val (.int p1), .val (.int p2), .val (.int p3), .val (.int p4), .val (.int ln), .val (.int kk), .val (.ref r32), .val (.ref r33), .val (.int la), .val (.ref r37)] [(.int la), (.ref r33), (.int (nar .byte ((y + (1 : Int32)).toInt8.toInt32)))])) rfl rfl (hb hby at_109)) ?_
    show Goes p e below KK T38 (mkF m 110 #[.val (.int p1), .val (.int p2), .val (.int p3), .val (.int p4), .val (.int ln), .val (.int kk), .val (.ref r32), .val (.ref r33), .val (.int la), .val (.ref r37)] [(.int y), (.int (nar .byte ((y + (1 : Int32)).toInt8.toInt32)))])
    refine Goes.of (fun t => XS.iconst X38.here hx rfl (hb hby at_110)) ?_
    show Goes p e below KK T38 (mkF m 111 #[.val (.int p1), .val (.int p2), .val (.int p3), .val (.int p4), .val (.int ln), .val (.int kk), .val (.ref r32), .val (.ref r33), .val (.int la), .val (.ref r37)] [(.int (1 : Int32)), (.int y), (.int (nar .byte ((y + (1 : Int32)).toInt8.toInt32)))])
    refine Goes.of (fun t => XS.iadd X38.here hx rfl (hb hby at_111) rfl) ?_
    show Goes p e below KK T38 (mkF m 112 #[.val (.int p1), .val (.int p2), .val (.int p3), .val (.int p4), .val (.int ln), .val (.int kk), .val (.ref r32), .val (.ref r33), .val (.int la), .val (.ref r37)] [(.int (y + (1 : Int32))), (.int (nar .byte ((y + (1 : Int32)).toInt8.toInt32)))])
    refine Goes.of (fun t => XT.i2b X38.here hx rfl (hb hby at_112) rfl) ?_
    show Goes p e below KK T38 (mkF m 113 #[.val (.int p1), .val (.int p2), .val (.int p3), .val (.int p4), .val (.int ln), .val (.int kk), .val (.ref r32), .val (.ref r33), .val (.int la), .val (.ref r37)] [(.int ((y + (1 : Int32)).toInt8.toInt32)), (.int (nar .byte ((y + (1 : Int32)).toInt8.toInt32)))])
    refine Goes.of (fun t => XS.icmpYes X38.here hx rfl (pc0 := 113) (pc' := 118) rfl (hb hby at_113) rfl (teq (show (nar .byte ((y + (1 : Int32)).toInt8.toInt32)) = ((y + (1 : Int32)).toInt8.toInt32) from own_nar _)).1 (by decide) (by decide)) ?_
    show Goes p e below KK T38 (mkF m 118 #[.val (.int p1), .val (.int p2), .val (.int p3), .val (.int p4), .val (.int ln), .val (.int kk), .val (.ref r32), .val (.ref r33), .val (.int la), .val (.ref r37)] [])
    refine Goes.of (fun t => XS.aload X38.here hx rfl (hb hby at_118) rfl rfl) ?_
    show Goes p e below KK T38 (mkF m 120 #[.val (.int p1), .val (.int p2), .val (.int p3), .val (.int p4), .val (.int ln), .val (.int kk), .val (.ref r32), .val (.ref r33), .val (.int la), .val (.ref r37)] [(.ref r32)])
    refine Goes.of (fun t => XS.aload X38.here hx rfl (hb hby at_120) rfl rfl) ?_
    show Goes p e below KK T38 (mkF m 122 #[.val (.int p1), .val (.int p2), .val (.int p3), .val (.int p4), .val (.int ln), .val (.int kk), .val (.ref r32), .val (.ref r33), .val (.int la), .val (.ref r37)] [(.ref r33), (.ref r32)])
    obtain ⟨_, _, ⟨T39, L39, k39, n39⟩, -, X39, ⟨Lc39, hQ39, l39, y39, z39⟩, st39⟩ := Jvm.LawKit.callS X38 hx (y := (⟨"com/example/iocd/iocd/store/RecordKeysAfterPinLaw", "same", "([B[B)Z"⟩ : MethodName)) hown (mvT hZ w_34) (mvT hZ w_35) (mvT hZ w_3) (mvT hZ w_36) (by decide) (backOf (W := 0) (rm9 l Z a0 hw [] r32 r33 ys ln T37.heap n0 Z37 V34_35_37 V35_37 (by rw [hyl]; exact hnl) (by omega)) hZ w_36 w_3 (by decide) (by decide)) (g := (mkF m 122 #[.val (.int p1), .val (.int p2), .val (.int p3), .val (.int p4), .val (.int ln), .val (.int kk), .val (.ref r32), .val (.ref r33), .val (.int la), .val (.ref r37)] [(.ref r33), (.ref r32)])) rfl (by rw [hml]; rfl) (argsL := [(.ref r32), (.ref r33)]) (rest := []) (lenOf pd_18 rfl) rfl (by show 2 * 0 + _ ≤ _; exact Nat.le_of_eq rfl) (hb hby at_122) (fun _ _ => ⟨rfl, e38, (by decide : 3 + 0 ≤ _), (by decide : 15 + 0 ≤ _)⟩)
    dsimp only [Pt.U, Pt.locs, Pt.cells, Pt.slots] at X39 l39 y39 z39 st39 hQ39
    subst l39 y39 z39
    obtain ⟨rfl, N39q, e39⟩ := hQ39
    have N39 := Fr.app N38 N39q
    refine Goes.of st39 ?_
    show Goes p e below KK T39 (mkF m 125 #[.val (.int p1), .val (.int p2), .val (.int p3), .val (.int p4), .val (.int ln), .val (.int kk), .val (.ref r32), .val (.ref r33), .val (.int la), .val (.ref r37)] [(.int (1 : Int32))])
    rw [← hKK]
    refine Goes.retNar X39 hx hlk (t := .boolean) (by simp) Bd.returns (hb hby at_125) ?_ (by decide) (by decide)
    rw [e39]
    exact ⟨rfl, N39⟩
set_option maxRecDepth 65536 in
set_option maxHeartbeats 40000000 in
theorem comes_1 {Post : Tables → Env → Array Value → State → Outcome → State → Prop} (hpost : ∀ tb e args s v u, (limb_1_1.after args s (.returned v) u = true ∧ limb_1_2.after args s (.returned v) u = true ∧ True) → FrameEnd s (.returned v) u (Jvm.fieldLocs frame_1_writes args s ++ Jvm.arrayLocs frame_1_arrays args s ++ Jvm.staticLocs frame_1_statics s) 16 128 → Post tb e args s (.returned v) u) :
    ArmFor flags0 classFile x code maxLocals ret World_1 tables_1 room_1 Calls_1 rest_1 Pre_1 Post := by
  intro l hfl _ _ p e ha hc hk s m args below hf hA hF happ hP
  obtain ⟨hcalls, hrest, hpre⟩ := hP
  obtain ⟨-, -, -, hnamed, -, -, -, hat⟩ := (Spec.applies_iff hf).mp happ
  obtain ⟨hg, hn⟩ := and_e (Cond.before_iff.mp (show (Jvm.Cond.and given_1 narrow_1).before args s = true from hpre))
  obtain ⟨hgc, hr0⟩ := and_e hg
  obtain ⟨hg0, hr1⟩ := and_e hr0
  obtain ⟨hg1, hr2⟩ := and_e hr1
  obtain ⟨hg2, hr3⟩ := and_e hr2
  have hg3 := hr3
  obtain ⟨w0, w1, w2, w3, rfl⟩ : ∃ w0 w1 w2 w3 : Value, args = #[w0, w1, w2, w3] := by
    have hs : args.size = 4 := by simpa [Cond.value, given_1] using hgc
    obtain ⟨L⟩ := args
    match L, hs with
    | [w0, w1, w2, w3], _ => exact ⟨w0, w1, w2, w3, rfl⟩
  have hw := fun d (hd : d ∈ tables_1) => atoms_spec (ws := Jvm.Cond.code x code maxLocals ret :: tables_1) hat d (List.mem_cons_of_mem _ hd)
  have hfit : Fit s := fun {y c} hc i hi => by
    obtain ⟨ha, rfl⟩ := Array.getElem?_eq_some_iff.mp hc
    have q := List.all_eq_true.mp ((Array.all_eq_true_iff_forall_mem.mp hF) _ (Array.getElem_mem ha)) i (List.mem_range.mpr hi)
    simpa [Array.getElem?_eq_getElem hi] using q
  obtain ⟨i0, ei0⟩ := is_v hg0
  obtain rfl : w0 = (.int i0) := Option.some.inj ei0
  obtain ⟨i1, ei1⟩ := is_v hg1
  obtain rfl : w1 = (.int i1) := Option.some.inj ei1
  obtain ⟨i2, ei2⟩ := is_v hg2
  obtain rfl : w2 = (.int i2) := Option.some.inj ei2
  obtain ⟨i3, ei3⟩ := is_v hg3
  obtain rfl : w3 = (.int i3) := Option.some.inj ei3
  obtain ⟨n, o, h1, h2, h3, _, L, rfl, ⟨rfl, N⟩, hq⟩ := rm0 l s _ hw tables_1 i0 i1 i2 i3  s.heap s.heap.size (Nat.le_refl _)  p e ha hc hk s m _ below hf ((Spec.applies_iff_loose hf).mp happ).1 ⟨rfl, State.Warmed39.refl s, rfl⟩ trivial
  refine ⟨n, _, h1, h2, h3, hpost _ _ _ _ _ _ ⟨Cond.after_iff.mpr rfl, Cond.after_iff.mpr (eq_i res_at (Term.int_eval (1)) rfl), trivial⟩ ⟨hq.1, hq.2.1, (hq.2.2.sift fun y hy => Or.inr (N y hy)).mono (by decide) (by decide)⟩⟩
theorem main_1_1 : Claimed_1_1 := comes_1 fun _ _ _ _ _ _ h hF => ⟨h.1, hF⟩
theorem main_1_2 : Claimed_1_2 := comes_1 fun _ _ _ _ _ _ h hF => ⟨h.2.1, hF⟩
end Jvm.Pilot.@@N@@
namespace Jvm.Pilot.@@N@@
open Jvm Jvm.ClassFile Sem Op Lib Jvm.Free Jvm.Stand Jvm.Pilot.@@N@@.Jvm.D
/-! MADE BY PROGRAM (witnessworld.py) out of the Statement's table words and the real class files: 12 classes; the members and pool entries that the words name. The judged class is class 1, her method 1. -/
namespace start1
open Jvm.ClassFile
def u (s : String) : CpInfo := .utf8 (stringToUtf16 s)
/-- a pool by its gaps: so many unusable entries, then the entry; so many at the end -/
def gap : Nat → List CpInfo → List CpInfo
  | 0, r => r
  | n + 1, r => .unusable :: gap n r
def poolList (es : List (Nat × CpInfo)) (last : Nat) : List CpInfo := es.foldr (fun e r => gap e.1 (e.2 :: r)) (gap last [])
def pool (es : List (Nat × CpInfo)) (last : Nat) : Array CpInfo := ⟨poolList es last⟩
def fileOf (pool : Array CpInfo) (this : Nat) (attrs : Array Attribute := #[]) (ms : Array MethodInfo := #[]) (fl : Nat := 33) (sup : Nat := 0) (ifs : Array Nat := #[]) (fds : Array FieldInfo := #[]) : ClassFile where
  minorVersion := 0
  majorVersion := 65
  constantPool := pool
  accessFlags := fl
  thisClass := this
  superClass := sup
  interfaces := ifs
  fields := fds
  methods := ms
  attributes := attrs
def plain (name : String) (sup : Option ClassId) : Class where
  name := name
  kind := .ordinary
  loader := none
  accessFlags := 33
  super := sup
  interfaces := #[]
  cf := none
  fields := #[]
  methods := #[]
  instanceTypes := #[]
  staticTypes := #[]
  resolved := #[]
  callSites := []
  init := .initialized
  statics := none
  mirror := none

def pool0 : Array CpInfo := pool [(5, u "<init>"), (0, u "()V"), (1, .class_ 10), (1, u "java/lang/Object"), (85, u "clone"), (0, u "()Ljava/lang/Object;")] 26

def k0m0 : Method := { name := "<init>", desc := "()V", sig := { parameters := [], returnType := none }, accessFlags := 1, code := none }
def k0m1 : Method := { name := "clone", desc := "()Ljava/lang/Object;", sig := { parameters := [], returnType := some (.object "java/lang/Object") }, accessFlags := 260, code := none }
/-- java/lang/Object -/
def k0 : Class := { plain "java/lang/Object" none with
  accessFlags := 33
  interfaces := #[]
  cf := some (fileOf pool0 8 #[] #[{ accessFlags := 1, nameIndex := 5, descriptorIndex := 6, attributes := #[] }, { accessFlags := 260, nameIndex := 96, descriptorIndex := 97, attributes := #[] }] 33 0 #[] #[])
  fields := #[]
  methods := #[k0m0, k0m1]
  instanceTypes := #[]
  staticTypes := #[]
  resolved := Array.replicate 124 none
  statics := none }

def pool1 : Array CpInfo := pool [(2, .class_ 4), (1, u "java/lang/Object"), (0, u "<init>"), (0, u "()V"), (0, .integer 2147483647), (0, .methodref 9 10), (0, .class_ 11), (0, .nameAndType 12 13), (0, u "com/example/iocd/iocd/store/RecordKeysAfterPinLaw"), (0, u "make"), (0, u "(I)[B"), (0, .methodref 9 15), (0, .nameAndType 16 17), (0, u "fill"), (0, u "([BIII)V"), (0, .methodref 9 19), (0, .nameAndType 20 21), (0, u "lastNon"), (0, u "([B)I"), (0, .methodref 23 24), (0, .class_ 25), (0, .nameAndType 26 27), (0, u "com/example/iocd/iocd/store/RecordKeys"), (0, u "after"), (0, u "([B)[B"), (0, .methodref 9 29), (0, .nameAndType 30 31), (0, u "samePrefix"), (0, u "([B[BI)Z"), (0, .methodref 9 33), (0, .nameAndType 34 35), (0, u "same"), (0, u "([B[B)Z"), (0, .methodref 9 37), (0, .nameAndType 38 39), (0, u "put"), (0, u "([BIBI)V"), (2, u "law"), (0, u "(IIII)Z")] 5

def k1m0 : Method := { name := "<init>", desc := "()V", sig := { parameters := [], returnType := none }, accessFlags := 2, code := none }
def k1c1 : Code := { maxStack := 4, maxLocals := 10, code := code, exceptionTable := #[], attributes := #[] }
def k1m1 : Method := { name := "law", desc := "(IIII)Z", sig := { parameters := [.int, .int, .int, .int], returnType := some .boolean }, accessFlags := 9, code := some k1c1 }
def k1c2 : Code := { maxStack := 2, maxLocals := 1, code := method_3_code, exceptionTable := #[], attributes := #[] }
def k1m2 : Method := { name := "make", desc := "(I)[B", sig := { parameters := [.int], returnType := some (.array .byte) }, accessFlags := 10, code := some k1c2 }
def k1c3 : Code := { maxStack := 4, maxLocals := 4, code := method_4_code, exceptionTable := #[], attributes := #[] }
def k1m3 : Method := { name := "fill", desc := "([BIII)V", sig := { parameters := [(.array .byte), .int, .int, .int], returnType := none }, accessFlags := 10, code := some k1c3 }
def k1c4 : Code := { maxStack := 3, maxLocals := 4, code := method_5_code, exceptionTable := #[], attributes := #[] }
def k1m4 : Method := { name := "put", desc := "([BIBI)V", sig := { parameters := [(.array .byte), .int, .byte, .int], returnType := none }, accessFlags := 10, code := some k1c4 }
def k1c5 : Code := { maxStack := 2, maxLocals := 2, code := method_6_code, exceptionTable := #[], attributes := #[] }
def k1m5 : Method := { name := "lastNon", desc := "([B)I", sig := { parameters := [(.array .byte)], returnType := some .int }, accessFlags := 10, code := some k1c5 }
def k1c6 : Code := { maxStack := 3, maxLocals := 3, code := method_7_code, exceptionTable := #[], attributes := #[] }
def k1m6 : Method := { name := "samePrefix", desc := "([B[BI)Z", sig := { parameters := [(.array .byte), (.array .byte), .int], returnType := some .boolean }, accessFlags := 10, code := some k1c6 }
def k1c7 : Code := { maxStack := 3, maxLocals := 3, code := method_8_code, exceptionTable := #[], attributes := #[] }
def k1m7 : Method := { name := "same", desc := "([B[B)Z", sig := { parameters := [(.array .byte), (.array .byte)], returnType := some .boolean }, accessFlags := 10, code := some k1c7 }
/-- com/example/iocd/iocd/store/RecordKeysAfterPinLaw -/
def k1 : Class := { plain "com/example/iocd/iocd/store/RecordKeysAfterPinLaw" (some 0) with
  accessFlags := 49
  interfaces := #[]
  cf := some (fileOf pool1 9 #[] #[{ accessFlags := 2, nameIndex := 5, descriptorIndex := 6, attributes := #[] }, { accessFlags := 9, nameIndex := 42, descriptorIndex := 43, attributes := #[] }, { accessFlags := 10, nameIndex := 12, descriptorIndex := 13, attributes := #[] }, { accessFlags := 10, nameIndex := 16, descriptorIndex := 17, attributes := #[] }, { accessFlags := 10, nameIndex := 38, descriptorIndex := 39, attributes := #[] }, { accessFlags := 10, nameIndex := 20, descriptorIndex := 21, attributes := #[] }, { accessFlags := 10, nameIndex := 30, descriptorIndex := 31, attributes := #[] }, { accessFlags := 10, nameIndex := 34, descriptorIndex := 35, attributes := #[] }] 49 2 #[] #[])
  fields := #[]
  methods := #[k1m0, k1m1, k1m2, k1m3, k1m4, k1m5, k1m6, k1m7]
  instanceTypes := #[]
  staticTypes := #[]
  resolved := Array.replicate 49 none
  statics := none }

def pool2 : Array CpInfo := pool [(2, .class_ 4), (1, u "java/lang/Object"), (0, u "<init>"), (0, u "()V"), (32, .class_ 41), (1, u "com/example/iocd/iocd/store/RecordKeys"), (6, .methodref 49 50), (0, .class_ 51), (0, .nameAndType 52 53), (0, u "java/util/Arrays"), (0, u "copyOf"), (0, u "([BI)[B"), (27, u "after"), (0, u "([B)[B")] 10

def k2m0 : Method := { name := "<init>", desc := "()V", sig := { parameters := [], returnType := none }, accessFlags := 2, code := none }
def k2c1 : Code := { maxStack := 4, maxLocals := 3, code := prog_20_method_5_code, exceptionTable := #[], attributes := #[] }
def k2m1 : Method := { name := "after", desc := "([B)[B", sig := { parameters := [(.array .byte)], returnType := some (.array .byte) }, accessFlags := 8, code := some k2c1 }
/-- com/example/iocd/iocd/store/RecordKeys -/
def k2 : Class := { plain "com/example/iocd/iocd/store/RecordKeys" (some 0) with
  accessFlags := 48
  interfaces := #[]
  cf := some (fileOf pool2 39 #[] #[{ accessFlags := 2, nameIndex := 5, descriptorIndex := 6, attributes := #[] }, { accessFlags := 8, nameIndex := 81, descriptorIndex := 82, attributes := #[] }] 48 2 #[] #[])
  fields := #[]
  methods := #[k2m0, k2m1]
  instanceTypes := #[]
  staticTypes := #[]
  resolved := Array.replicate 93 none
  statics := none }

def pool3 : Array CpInfo := pool [(2, .class_ 4), (1, u "java/lang/Object"), (0, u "<init>"), (0, u "()V"), (7, .class_ 16), (1, u "java/util/Arrays"), (57, .class_ 76), (1, u "java/util/Arrays$NaturalOrder"), (32, u "()Ljava/lang/Object;"), (3, .class_ 115), (1, u "java/util/Arrays$LegacyMergeSort"), (1, u "Z"), (10, .nameAndType 129 109), (0, u "clone"), (20, .methodref 151 152), (0, .class_ 153), (0, .nameAndType 154 155), (0, u "java/lang/System"), (0, u "arraycopy"), (0, u "(Ljava/lang/Object;ILjava/lang/Object;II)V"), (146, u "copyOf"), (1, .methodref 305 306), (0, .class_ 307), (0, .nameAndType 308 309), (0, u "java/lang/Math"), (0, u "min"), (0, u "(II)I"), (0, .methodref 311 128), (0, .class_ 312), (0, u "[B"), (62, .class_ 376), (0, u "java/util/Arrays$ArrayList"), (68, u "$assertionsDisabled"), (269, u "MIN_ARRAY_SORT_GRAN"), (0, u "I"), (2, u "INSERTIONSORT_THRESHOLD"), (149, u "([BI)[B"), (105, .class_ 976), (0, u "java/util/Arrays$ArrayItr")] 52

def k3m0 : Method := { name := "<init>", desc := "()V", sig := { parameters := [], returnType := none }, accessFlags := 2, code := none }
def k3c1 : Code := { maxStack := 6, maxLocals := 3, code := jdk_65_method_121_code, exceptionTable := #[], attributes := #[] }
def k3m1 : Method := { name := "copyOf", desc := "([BI)[B", sig := { parameters := [(.array .byte), .int], returnType := some (.array .byte) }, accessFlags := 9, code := some k3c1 }
/-- java/util/Arrays -/
def k3 : Class := { plain "java/util/Arrays" (some 0) with
  accessFlags := 49
  interfaces := #[]
  cf := some (fileOf pool3 14 #[.nestMembers #[975, 375, 113, 74]] #[{ accessFlags := 2, nameIndex := 5, descriptorIndex := 6, attributes := #[] }, { accessFlags := 9, nameIndex := 302, descriptorIndex := 869, attributes := #[] }] 49 2 #[] #[{ accessFlags := 26, nameIndex := 715, descriptorIndex := 716, attributes := #[] }, { accessFlags := 26, nameIndex := 719, descriptorIndex := 716, attributes := #[] }, { accessFlags := 4120, nameIndex := 445, descriptorIndex := 117, attributes := #[] }])
  fields := #[{ name := "MIN_ARRAY_SORT_GRAN", type := .int, accessFlags := 26, slot := 0, constantValue := 0 }, { name := "INSERTIONSORT_THRESHOLD", type := .int, accessFlags := 26, slot := 1, constantValue := 0 }, { name := "$assertionsDisabled", type := .boolean, accessFlags := 4120, slot := 2, constantValue := 0 }]
  methods := #[k3m0, k3m1]
  instanceTypes := #[]
  staticTypes := #[.int, .int, .boolean]
  resolved := Array.replicate 1029 none
  statics := none }

def pool4 : Array CpInfo := pool [(1, .class_ 2), (0, u "java/lang/Math"), (1, .class_ 6), (1, u "java/lang/Object"), (0, u "<init>"), (0, u "()V"), (89, .class_ 100), (1, u "java/lang/Math$RandomNumberGeneratorHolder"), (71, u "negativeZeroFloatBits"), (0, u "J"), (2, u "negativeZeroDoubleBits"), (24, u "min"), (43, u "$assertionsDisabled"), (0, u "Z"), (88, u "(II)I"), (2, u "twoToTheDoubleScaleDown"), (0, u "D"), (4, u "twoToTheDoubleScaleUp"), (9, u "E"), (3, u "PI"), (2, u "TAU"), (2, u "DEGREES_TO_RADIANS"), (0, u "RADIANS_TO_DEGREES")] 94

def k4m0 : Method := { name := "<init>", desc := "()V", sig := { parameters := [], returnType := none }, accessFlags := 2, code := none }
def k4c1 : Code := { maxStack := 2, maxLocals := 2, code := jdk_29_method_69_code, exceptionTable := #[], attributes := #[] }
def k4m1 : Method := { name := "min", desc := "(II)I", sig := { parameters := [.int, .int], returnType := some .int }, accessFlags := 9, code := some k4c1 }
/-- java/lang/Math -/
def k4 : Class := { plain "java/lang/Math" (some 0) with
  accessFlags := 49
  interfaces := #[]
  cf := some (fileOf pool4 1 #[.nestMembers #[98]] #[{ accessFlags := 2, nameIndex := 7, descriptorIndex := 8, attributes := #[] }, { accessFlags := 9, nameIndex := 201, descriptorIndex := 335, attributes := #[] }] 49 4 #[] #[{ accessFlags := 25, nameIndex := 354, descriptorIndex := 339, attributes := #[] }, { accessFlags := 25, nameIndex := 358, descriptorIndex := 339, attributes := #[] }, { accessFlags := 25, nameIndex := 361, descriptorIndex := 339, attributes := #[] }, { accessFlags := 26, nameIndex := 364, descriptorIndex := 339, attributes := #[] }, { accessFlags := 26, nameIndex := 365, descriptorIndex := 339, attributes := #[] }, { accessFlags := 26, nameIndex := 172, descriptorIndex := 173, attributes := #[] }, { accessFlags := 26, nameIndex := 176, descriptorIndex := 173, attributes := #[] }, { accessFlags := 8, nameIndex := 344, descriptorIndex := 339, attributes := #[] }, { accessFlags := 8, nameIndex := 338, descriptorIndex := 339, attributes := #[] }, { accessFlags := 4120, nameIndex := 245, descriptorIndex := 246, attributes := #[] }])
  fields := #[{ name := "E", type := .double, accessFlags := 25, slot := 0, constantValue := 0 }, { name := "PI", type := .double, accessFlags := 25, slot := 1, constantValue := 0 }, { name := "TAU", type := .double, accessFlags := 25, slot := 2, constantValue := 0 }, { name := "DEGREES_TO_RADIANS", type := .double, accessFlags := 26, slot := 3, constantValue := 0 }, { name := "RADIANS_TO_DEGREES", type := .double, accessFlags := 26, slot := 4, constantValue := 0 }, { name := "negativeZeroFloatBits", type := .long, accessFlags := 26, slot := 5, constantValue := 0 }, { name := "negativeZeroDoubleBits", type := .long, accessFlags := 26, slot := 6, constantValue := 0 }, { name := "twoToTheDoubleScaleUp", type := .double, accessFlags := 8, slot := 7, constantValue := 0 }, { name := "twoToTheDoubleScaleDown", type := .double, accessFlags := 8, slot := 8, constantValue := 0 }, { name := "$assertionsDisabled", type := .boolean, accessFlags := 4120, slot := 9, constantValue := 0 }]
  methods := #[k4m0, k4m1]
  instanceTypes := #[]
  staticTypes := #[.double, .double, .double, .double, .double, .long, .long, .double, .double, .boolean]
  resolved := Array.replicate 460 none
  statics := none }

def pool5 : Array CpInfo := pool [(2, .class_ 4), (1, u "java/lang/Object"), (0, u "<init>"), (0, u "()V"), (1, .class_ 10), (1, u "java/lang/System"), (0, u "allowSecurityManager"), (0, u "I"), (16, u "cons"), (0, u "Ljava/io/Console;"), (77, .class_ 110), (1, u "java/lang/System$CallersHolder"), (43, u "initialErrStream"), (0, u "Ljava/io/PrintStream;"), (19, u "security"), (0, u "Ljava/lang/SecurityManager;"), (31, .class_ 209), (0, u "java/lang/System$1"), (7, u "props"), (0, u "Ljava/util/Properties;"), (2, u "lineSeparator"), (0, u "Ljava/lang/String;"), (96, .class_ 321), (1, u "java/lang/System$LoggerFinder"), (5, .class_ 328), (0, u "java/lang/System$Logger"), (67, u "err"), (2, u "out"), (91, u "notSupportedJnuEncoding"), (15, u "in"), (17, u "initialIn"), (0, u "Ljava/io/InputStream;"), (35, u "bootLayer"), (0, u "Ljava/lang/ModuleLayer;"), (99, .class_ 664), (0, u "java/lang/System$2"), (9, u "NEVER"), (2, u "MAYBE"), (49, u "arraycopy"), (0, u "(Ljava/lang/Object;ILjava/lang/Object;II)V"), (72, .class_ 802), (0, u "java/lang/System$Logger$Level")] 31

def k5m0 : Method := { name := "<init>", desc := "()V", sig := { parameters := [], returnType := none }, accessFlags := 2, code := none }
def k5m1 : Method := { name := "arraycopy", desc := "(Ljava/lang/Object;ILjava/lang/Object;II)V", sig := { parameters := [(.object "java/lang/Object"), .int, (.object "java/lang/Object"), .int, .int], returnType := none }, accessFlags := 265, code := none }
/-- java/lang/System -/
def k5 : Class := { plain "java/lang/System" (some 0) with
  accessFlags := 49
  interfaces := #[]
  cf := some (fileOf pool5 8 #[.nestMembers #[319, 327, 801, 108, 663, 208]] #[{ accessFlags := 2, nameIndex := 5, descriptorIndex := 6, attributes := #[] }, { accessFlags := 265, nameIndex := 727, descriptorIndex := 728, attributes := #[] }] 49 2 #[] #[{ accessFlags := 25, nameIndex := 507, descriptorIndex := 526, attributes := #[] }, { accessFlags := 25, nameIndex := 399, descriptorIndex := 155, attributes := #[] }, { accessFlags := 25, nameIndex := 396, descriptorIndex := 155, attributes := #[] }, { accessFlags := 10, nameIndex := 525, descriptorIndex := 526, attributes := #[] }, { accessFlags := 26, nameIndex := 674, descriptorIndex := 12, attributes := #[] }, { accessFlags := 26, nameIndex := 677, descriptorIndex := 12, attributes := #[] }, { accessFlags := 10, nameIndex := 11, descriptorIndex := 12, attributes := #[] }, { accessFlags := 74, nameIndex := 175, descriptorIndex := 176, attributes := #[] }, { accessFlags := 10, nameIndex := 491, descriptorIndex := 222, attributes := #[] }, { accessFlags := 74, nameIndex := 29, descriptorIndex := 30, attributes := #[] }, { accessFlags := 74, nameIndex := 154, descriptorIndex := 155, attributes := #[] }, { accessFlags := 10, nameIndex := 217, descriptorIndex := 218, attributes := #[] }, { accessFlags := 10, nameIndex := 221, descriptorIndex := 222, attributes := #[] }, { accessFlags := 8, nameIndex := 562, descriptorIndex := 563, attributes := #[] }])
  fields := #[{ name := "in", type := (.object "java/io/InputStream"), accessFlags := 25, slot := 0, constantValue := 0 }, { name := "out", type := (.object "java/io/PrintStream"), accessFlags := 25, slot := 1, constantValue := 0 }, { name := "err", type := (.object "java/io/PrintStream"), accessFlags := 25, slot := 2, constantValue := 0 }, { name := "initialIn", type := (.object "java/io/InputStream"), accessFlags := 10, slot := 3, constantValue := 0 }, { name := "NEVER", type := .int, accessFlags := 26, slot := 4, constantValue := 0 }, { name := "MAYBE", type := .int, accessFlags := 26, slot := 5, constantValue := 0 }, { name := "allowSecurityManager", type := .int, accessFlags := 10, slot := 6, constantValue := 0 }, { name := "security", type := (.object "java/lang/SecurityManager"), accessFlags := 74, slot := 7, constantValue := 0 }, { name := "notSupportedJnuEncoding", type := (.object "java/lang/String"), accessFlags := 10, slot := 8, constantValue := 0 }, { name := "cons", type := (.object "java/io/Console"), accessFlags := 74, slot := 9, constantValue := 0 }, { name := "initialErrStream", type := (.object "java/io/PrintStream"), accessFlags := 74, slot := 10, constantValue := 0 }, { name := "props", type := (.object "java/util/Properties"), accessFlags := 10, slot := 11, constantValue := 0 }, { name := "lineSeparator", type := (.object "java/lang/String"), accessFlags := 10, slot := 12, constantValue := 0 }, { name := "bootLayer", type := (.object "java/lang/ModuleLayer"), accessFlags := 8, slot := 13, constantValue := 0 }]
  methods := #[k5m0, k5m1]
  instanceTypes := #[]
  staticTypes := #[(.object "java/io/InputStream"), (.object "java/io/PrintStream"), (.object "java/io/PrintStream"), (.object "java/io/InputStream"), .int, .int, .int, (.object "java/lang/SecurityManager"), (.object "java/lang/String"), (.object "java/io/Console"), (.object "java/io/PrintStream"), (.object "java/util/Properties"), (.object "java/lang/String"), (.object "java/lang/ModuleLayer")]
  resolved := Array.replicate 834 none
  statics := none }

def pool6 : Array CpInfo := pool [(1, .class_ 2), (0, u "java/lang/Cloneable"), (0, .class_ 4), (0, u "java/lang/Object")] 2

/-- java/lang/Cloneable -/
def k6 : Class := { plain "java/lang/Cloneable" (some 0) with
  accessFlags := 1537
  interfaces := #[]
  cf := some (fileOf pool6 1 #[] #[] 1537 3 #[] #[])
  fields := #[]
  methods := #[]
  instanceTypes := #[]
  staticTypes := #[]
  resolved := Array.replicate 7 none
  statics := none }

def pool7 : Array CpInfo := pool [(1, u "java/io/Serializable"), (0, .class_ 1), (0, u "java/lang/Object"), (0, .class_ 3)] 3

/-- java/io/Serializable -/
def k7 : Class := { plain "java/io/Serializable" (some 0) with
  accessFlags := 1537
  interfaces := #[]
  cf := some (fileOf pool7 2 #[] #[] 1537 4 #[] #[])
  fields := #[]
  methods := #[]
  instanceTypes := #[]
  staticTypes := #[]
  resolved := Array.replicate 8 none
  statics := none }

/-- the primitive byte -/
def k8 : Class := { plain "byte" none with kind := .primitive 'B', accessFlags := 0x411 }
/-- [B -/
def k9 : Class := { plain "[B" (some 0) with kind := .array 8 .byte, interfaces := #[6, 7], accessFlags := 1041 }

/-- the primitive int -/
def k10 : Class := { plain "int" none with kind := .primitive 'I', accessFlags := 0x411 }
/-- [I -/
def k11 : Class := { plain "[I" (some 0) with kind := .array 10 .int, interfaces := #[6, 7], accessFlags := 1041 }

def heap : Heap := #[]
def classes : Array Class := #[k0, k1, k2, k3, k4, k5, k6, k7, k8, k9, k10, k11]
def interned : List (Array UInt16 × Addr) := []
def slotsUsed : Nat := 0
def theMethod : MethodId := ⟨1, 1⟩
def args0 : Array Value := #[.int 5, .int 3, .int 2, .int 1]
def aboutOver (below : List Frame) : State where
  vm := { classes := classes, interned := interned.toArray }
  heap := heap
  slotsUsed := slotsUsed
  threads := #[{ frames := .invoking theMethod args0 :: below }]
def below0 : List Frame := [.native { method := ⟨0, 0⟩, args := #[] }]
def about1 : State := aboutOver below0
def p0 : Program := .bare "" "" ""
def e0 : Env := launch0.env 0 0 0
theorem w_frames : about1.frames = Frame.invoking theMethod args0 :: below0 := rfl
set_option maxRecDepth 65536 in
theorem w_args : argsFit about1.vm theMethod args0 = true := by decide +kernel
set_option maxRecDepth 65536 in
theorem w_heap : heapFits about1 = true := by decide +kernel
set_option maxRecDepth 65536 in
theorem w_runnable : about1.curStatus? = some .runnable := by decide +kernel
set_option maxRecDepth 65536 in
theorem w_alone : about1.alone = true := by decide +kernel
set_option maxRecDepth 65536 in
theorem w_named : about1.methodNamed? x = some theMethod := by decide +kernel
set_option maxRecDepth 65536 in
theorem w_hears : about1.hears theMethod below0 = true := by decide +kernel
set_option maxRecDepth 65536 in
theorem w_ripe : about1.ripe theMethod args0 below0 = true := by decide +kernel
theorem w_running : about1.status = .running := rfl
set_option maxRecDepth 65536 in
theorem w_room : about1.hasRoom e0.platform room_1 = true :=
  launch0.hasRoom_least _ room_1 (by decide +kernel) (by decide +kernel) (by decide +kernel) (by decide +kernel) (by decide +kernel) (by decide +kernel)
theorem allAtoms_all (ts : List Jvm.Cond) (a : Array Jvm.Value) (st : Jvm.State) : (allAtoms ts).before a st = ts.all (fun c => c.before a st) := by
  induction ts with
  | nil => rfl
  | cons c t ih =>
    show (Jvm.Cond.and c (allAtoms t)).before a st = _
    rw [Jvm.Cond.before_and, ih, List.all_cons]
def words1 : List Jvm.Cond := Jvm.Cond.code x code maxLocals ret :: tables_1
/-- a 'code' word, met by the world's own term for the bytes: nothing is compared byte by byte -/
theorem code_word {y : MethodName} {bytes : ByteArray} {mx : Nat} {rt : Option FieldType} {a : Array Value} {s : State} {m : MethodId} {meth : Method} {c : Code} (h1 : s.methodNamed? y = some m) (h2 : s.vm.method? m = some meth) (h3 : meth.code = some c) (h4 : c.code = bytes)
    (h5 : (c.maxLocals == mx && c.exceptionTable.isEmpty && decide (c.maxStack ≤ mostOperands) && decide (meth.sig.returnType = rt) && !meth.locks && decide (parseMethodDescriptor y.desc = some meth.sig)) = true) : (Jvm.Cond.code y bytes mx rt).before a s = true := by
  simp only [Bool.and_eq_true, beq_iff_eq, Bool.not_eq_true', decide_eq_true_eq] at h5
  obtain ⟨⟨⟨⟨⟨g1, g2⟩, g3⟩, g4⟩, g5⟩, g6⟩ := h5
  simp [Cond.before, Cond.holds, Cond.value, h1, h2, h3, h4, g1, g2, g3, g4, g5, g6]
def isCode : Jvm.Cond → Bool
  | .code _ _ _ _ => true
  | _ => false
theorem all_split {L : List Jvm.Cond} {P : Jvm.Cond → Bool} (h1 : L.all (fun c => isCode c || P c) = true) (h2 : ∀ c ∈ L.filter isCode, P c = true) : L.all P = true := by
  refine List.all_eq_true.mpr fun c hc => ?_
  have h := List.all_eq_true.mp h1 c hc
  rcases Bool.eq_false_or_eq_true (isCode c) with hi | hi
  · exact h2 c (List.mem_filter.mpr ⟨hc, hi⟩)
  · simpa [hi] using h
set_option maxRecDepth 65536 in
theorem w_c0 : (Jvm.Cond.code x code maxLocals ret).before args0 about1 = true := code_word (m := ⟨1, 1⟩) (meth := k1m1) (c := k1c1) (by decide +kernel) rfl rfl rfl (by decide +kernel)
set_option maxRecDepth 65536 in
theorem w_c1 : (Jvm.Cond.code ({ cls := "com/example/iocd/iocd/store/RecordKeysAfterPinLaw", name := "make", desc := "(I)[B" } : Jvm.MethodName) method_3_code (1 : Nat) (Option.some (Jvm.ClassFile.FieldType.array Jvm.ClassFile.FieldType.byte))).before args0 about1 = true := code_word (m := ⟨1, 2⟩) (meth := k1m2) (c := k1c2) (by decide +kernel) rfl rfl rfl (by decide +kernel)
set_option maxRecDepth 65536 in
theorem w_c2 : (Jvm.Cond.code ({ cls := "com/example/iocd/iocd/store/RecordKeysAfterPinLaw", name := "fill", desc := "([BIII)V" } : Jvm.MethodName) method_4_code (4 : Nat) (Option.none : Option Jvm.ClassFile.FieldType)).before args0 about1 = true := code_word (m := ⟨1, 3⟩) (meth := k1m3) (c := k1c3) (by decide +kernel) rfl rfl rfl (by decide +kernel)
set_option maxRecDepth 65536 in
theorem w_c3 : (Jvm.Cond.code ({ cls := "com/example/iocd/iocd/store/RecordKeysAfterPinLaw", name := "put", desc := "([BIBI)V" } : Jvm.MethodName) method_5_code (4 : Nat) (Option.none : Option Jvm.ClassFile.FieldType)).before args0 about1 = true := code_word (m := ⟨1, 4⟩) (meth := k1m4) (c := k1c4) (by decide +kernel) rfl rfl rfl (by decide +kernel)
set_option maxRecDepth 65536 in
theorem w_c4 : (Jvm.Cond.code ({ cls := "com/example/iocd/iocd/store/RecordKeysAfterPinLaw", name := "lastNon", desc := "([B)I" } : Jvm.MethodName) method_6_code (2 : Nat) (Option.some Jvm.ClassFile.FieldType.int)).before args0 about1 = true := code_word (m := ⟨1, 5⟩) (meth := k1m5) (c := k1c5) (by decide +kernel) rfl rfl rfl (by decide +kernel)
set_option maxRecDepth 65536 in
theorem w_c5 : (Jvm.Cond.code ({ cls := "com/example/iocd/iocd/store/RecordKeys", name := "after", desc := "([B)[B" } : Jvm.MethodName) prog_20_method_5_code (3 : Nat) (Option.some (Jvm.ClassFile.FieldType.array Jvm.ClassFile.FieldType.byte))).before args0 about1 = true := code_word (m := ⟨2, 1⟩) (meth := k2m1) (c := k2c1) (by decide +kernel) rfl rfl rfl (by decide +kernel)
set_option maxRecDepth 65536 in
theorem w_c6 : (Jvm.Cond.code ({ cls := "java/util/Arrays", name := "copyOf", desc := "([BI)[B" } : Jvm.MethodName) jdk_65_method_121_code (3 : Nat) (Option.some (Jvm.ClassFile.FieldType.array Jvm.ClassFile.FieldType.byte))).before args0 about1 = true := code_word (m := ⟨3, 1⟩) (meth := k3m1) (c := k3c1) (by decide +kernel) rfl rfl rfl (by decide +kernel)
set_option maxRecDepth 65536 in
theorem w_c7 : (Jvm.Cond.code ({ cls := "java/lang/Math", name := "min", desc := "(II)I" } : Jvm.MethodName) jdk_29_method_69_code (2 : Nat) (Option.some Jvm.ClassFile.FieldType.int)).before args0 about1 = true := code_word (m := ⟨4, 1⟩) (meth := k4m1) (c := k4c1) (by decide +kernel) rfl rfl rfl (by decide +kernel)
set_option maxRecDepth 65536 in
theorem w_c8 : (Jvm.Cond.code ({ cls := "com/example/iocd/iocd/store/RecordKeysAfterPinLaw", name := "samePrefix", desc := "([B[BI)Z" } : Jvm.MethodName) method_7_code (3 : Nat) (Option.some Jvm.ClassFile.FieldType.boolean)).before args0 about1 = true := code_word (m := ⟨1, 6⟩) (meth := k1m6) (c := k1c6) (by decide +kernel) rfl rfl rfl (by decide +kernel)
set_option maxRecDepth 65536 in
theorem w_c9 : (Jvm.Cond.code ({ cls := "com/example/iocd/iocd/store/RecordKeysAfterPinLaw", name := "same", desc := "([B[B)Z" } : Jvm.MethodName) method_8_code (3 : Nat) (Option.some Jvm.ClassFile.FieldType.boolean)).before args0 about1 = true := code_word (m := ⟨1, 7⟩) (meth := k1m7) (c := k1c7) (by decide +kernel) rfl rfl rfl (by decide +kernel)
def codes1 : List Jvm.Cond := [Jvm.Cond.code x code maxLocals ret, Jvm.Cond.code ({ cls := "com/example/iocd/iocd/store/RecordKeysAfterPinLaw", name := "make", desc := "(I)[B" } : Jvm.MethodName) method_3_code (1 : Nat) (Option.some (Jvm.ClassFile.FieldType.array Jvm.ClassFile.FieldType.byte)), Jvm.Cond.code ({ cls := "com/example/iocd/iocd/store/RecordKeysAfterPinLaw", name := "fill", desc := "([BIII)V" } : Jvm.MethodName) method_4_code (4 : Nat) (Option.none : Option Jvm.ClassFile.FieldType), Jvm.Cond.code ({ cls := "com/example/iocd/iocd/store/RecordKeysAfterPinLaw", name := "put", desc := "([BIBI)V" } : Jvm.MethodName) method_5_code (4 : Nat) (Option.none : Option Jvm.ClassFile.FieldType), Jvm.Cond.code ({ cls := "com/example/iocd/iocd/store/RecordKeysAfterPinLaw", name := "lastNon", desc := "([B)I" } : Jvm.MethodName) method_6_code (2 : Nat) (Option.some Jvm.ClassFile.FieldType.int), Jvm.Cond.code ({ cls := "com/example/iocd/iocd/store/RecordKeys", name := "after", desc := "([B)[B" } : Jvm.MethodName) prog_20_method_5_code (3 : Nat) (Option.some (Jvm.ClassFile.FieldType.array Jvm.ClassFile.FieldType.byte)), Jvm.Cond.code ({ cls := "java/util/Arrays", name := "copyOf", desc := "([BI)[B" } : Jvm.MethodName) jdk_65_method_121_code (3 : Nat) (Option.some (Jvm.ClassFile.FieldType.array Jvm.ClassFile.FieldType.byte)), Jvm.Cond.code ({ cls := "java/lang/Math", name := "min", desc := "(II)I" } : Jvm.MethodName) jdk_29_method_69_code (2 : Nat) (Option.some Jvm.ClassFile.FieldType.int), Jvm.Cond.code ({ cls := "com/example/iocd/iocd/store/RecordKeysAfterPinLaw", name := "samePrefix", desc := "([B[BI)Z" } : Jvm.MethodName) method_7_code (3 : Nat) (Option.some Jvm.ClassFile.FieldType.boolean), Jvm.Cond.code ({ cls := "com/example/iocd/iocd/store/RecordKeysAfterPinLaw", name := "same", desc := "([B[B)Z" } : Jvm.MethodName) method_8_code (3 : Nat) (Option.some Jvm.ClassFile.FieldType.boolean)]
set_option maxRecDepth 65536 in
theorem codes_eq : words1.filter isCode = codes1 := rfl
theorem w_codes : ∀ c ∈ words1.filter isCode, c.before args0 about1 = true := by
  rw [codes_eq]
  intro c hc
  simp only [codes1, List.mem_cons, List.not_mem_nil, or_false] at hc
  rcases hc with rfl | rfl | rfl | rfl | rfl | rfl | rfl | rfl | rfl | rfl
  · exact w_c0
  · exact w_c1
  · exact w_c2
  · exact w_c3
  · exact w_c4
  · exact w_c5
  · exact w_c6
  · exact w_c7
  · exact w_c8
  · exact w_c9
set_option maxRecDepth 65536 in
theorem w_t1 : (words1.take 24).all (fun c => isCode c || c.before args0 about1) = true := by decide +kernel
set_option maxRecDepth 65536 in
theorem w_t2 : (words1.drop 24).all (fun c => isCode c || c.before args0 about1) = true := by decide +kernel
theorem w_tables : (allAtoms (Jvm.Cond.code x code maxLocals ret :: tables_1)).before args0 about1 = true := by
  rw [allAtoms_all]
  show words1.all (fun c => c.before args0 about1) = true
  refine all_split ?_ w_codes
  rw [← List.take_append_drop 24 words1, List.all_append, w_t1, w_t2]
  rfl
set_option maxRecDepth 65536 in
theorem w_case : (Jvm.Cond.and given_1 narrow_1).before args0 about1 = true := by decide +kernel
theorem w_applies : (headSpec (Jvm.Cond.code x code maxLocals ret :: tables_1) room_1).applies x e0.platform about1 = true :=
  (Spec.applies_iff w_frames).mpr ⟨w_running, w_runnable, w_alone, w_named, w_hears, w_ripe, w_room, w_tables⟩
theorem atStart : AtStart classFile x code maxLocals ret World_1 tables_1 room_1 Calls_1 rest_1 Pre_1 launch0 p0 e0 about1 theMethod args0 below0 :=
  ⟨lists_1, trivial, launch0.admits_env _ _ _, launch0.least_env, fairChoices_fair.cas, fairChoices_fair.clock, w_frames, w_args, w_heap, w_applies, trivial, trivial, w_case⟩
end start1
theorem witness_1 : WitnessClaimed_1 := ⟨start1.p0, start1.e0, start1.about1, start1.theMethod, start1.args0, start1.below0, start1.atStart⟩
end Jvm.Pilot.@@N@@
