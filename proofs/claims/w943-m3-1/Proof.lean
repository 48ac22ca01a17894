import JvmDerived
import JvmDerived.Pilot.@@N@@Statement
import JvmDerived.Pilot.@@N@@Code
set_option linter.unusedVariables false
set_option linter.unusedSimpArgs false
@@BLOCK:NumsL.lean.txt@@
namespace Jvm.Pilot.@@N@@
open Jvm Jvm.ClassFile Sem Op Lib Jvm.Free Jvm.Stand Jvm.LawKit Jvm.RoadKit Bundle Jvm.Pilot.@@N@@.Jvm.D
section OwnKit
variable {p : Program} {l : Launch} {e : Env} {R : Room} {s : State} {m : MethodId} {args : Array Value} {below : List Frame} {meth : Method} {c : Code} {T T' : State} {locs : List Loc} {cells slots : Nat} {Z : State} {a0 : Array Value} {h h' : Heap} {g g' : JFrame} {K : Outcome → State → Prop} {a b : Addr}
/-- from the frame g over T the run comes home with K -/
def Goes (p : Program) (e : Env) (below : List Frame) (K : Outcome → State → Prop) (T : State) (g : JFrame) : Prop :=
  ∃ s₂ o, Steps p.tables e below (T.setTop g) s₂ ∧ s₂.status = .running ∧ Ended s₂ below o ∧ K o s₂
theorem Goes.of (f : ∀ t, Steps p.tables e below (T'.setTop g') t → Steps p.tables e below (T.setTop g) t) (h : Goes p e below K T' g') : Goes p e below K T g := by
  obtain ⟨s₂, o, h1, h2⟩ := h; exact ⟨s₂, o, f _ h1, h2⟩
theorem Goes.tr (f : Steps p.tables e below (T.setTop g) (T'.setTop g')) (h : Goes p e below K T' g') : Goes p e below K T g := by
  obtain ⟨s₂, o, h1, h2⟩ := h; exact ⟨s₂, o, f.trans h1, h2⟩
theorem Goes.cast (q : g = g') (h : Goes p e below K T g') : Goes p e below K T g := q ▸ h
def OwnK (s : State) (Q : Option Value → Heap → List Loc → Prop) (C S : Nat) : Outcome → State → Prop := fun o U' => ∃ v L, o = .returned v ∧ Q v U'.heap L ∧ FrameEnd s o U' L C S
section Ret
variable {Q : Option Value → Heap → List Loc → Prop} {C S pc : Nat} {Ls : Array Slot} {rest : List Value}
theorem Goes.retInt (X : Stand p l e R s m args below meth c T locs cells slots) (hx : p.tables.exec = Jvm.exec) (hlk : meth.locks = false) {z : Int32} (hret : meth.sig.returnType = some .int) (hd : decode c.code pc = .ok (.ireturn, 1)) (hQ : Q (some (.int z)) T.heap locs) (hc : cells ≤ C) (hs : slots ≤ S) :
    Goes p e below (OwnK s Q C S) T (mkF m pc Ls (.int z :: rest)) := by
  obtain ⟨fs, hr, hrun, hended, hW, hsame⟩ := X.leave (v := some (.int z)) (fun h => by rw [hret] at h; cases h) hlk
  exact ⟨_, _, retOut X hx hret rfl (Or.inl ⟨rfl, Or.inl rfl, z, rfl⟩) hd hr, hrun, hended, _, _, rfl, hQ, ⟨_, rfl⟩, hW, hsame.mono hc hs⟩
theorem Goes.retNar (X : Stand p l e R s m args below meth c T locs cells slots) (hx : p.tables.exec = Jvm.exec) (hlk : meth.locks = false) {t : FieldType} {z : Int32} (ht : t = .boolean ∨ t = .byte ∨ t = .char ∨ t = .short) (hret : meth.sig.returnType = some t) (hd : decode c.code pc = .ok (.ireturn, 1)) (hQ : Q (some (.int (nar t z))) T.heap locs) (hc : cells ≤ C) (hs : slots ≤ S) :
    Goes p e below (OwnK s Q C S) T (mkF m pc Ls (.int z :: rest)) := by
  obtain ⟨fs, hr, hrun, hended, hW, hsame⟩ := X.leave (v := some (.int (nar t z))) (fun h => by rw [hret] at h; cases h) hlk
  exact ⟨_, _, retN X hx hret ht hd hr, hrun, hended, _, _, rfl, hQ, ⟨_, rfl⟩, hW, hsame.mono hc hs⟩
theorem Goes.retLong (X : Stand p l e R s m args below meth c T locs cells slots) (hx : p.tables.exec = Jvm.exec) (hlk : meth.locks = false) {z : Int64} (hret : meth.sig.returnType = some .long) (hd : decode c.code pc = .ok (.lreturn, 1)) (hQ : Q (some (.long z)) T.heap locs) (hc : cells ≤ C) (hs : slots ≤ S) :
    Goes p e below (OwnK s Q C S) T (mkF m pc Ls (.long z :: rest)) := by
  obtain ⟨fs, hr, hrun, hended, hW, hsame⟩ := X.leave (v := some (.long z)) (fun h => by rw [hret] at h; cases h) hlk
  exact ⟨_, _, retOut X hx hret rfl (Or.inr (Or.inl ⟨rfl, rfl, z, rfl⟩)) hd hr, hrun, hended, _, _, rfl, hQ, ⟨_, rfl⟩, hW, hsame.mono hc hs⟩
theorem Goes.retRef (X : Stand p l e R s m args below meth c T locs cells slots) (hx : p.tables.exec = Jvm.exec) (hlk : meth.locks = false) {t : FieldType} {w : Value} (hw : w.isRef = true) (ht : t.isReference = true) (hret : meth.sig.returnType = some t) (hd : decode c.code pc = .ok (.areturn, 1)) (hQ : Q (some w) T.heap locs) (hc : cells ≤ C) (hs : slots ≤ S) :
    Goes p e below (OwnK s Q C S) T (mkF m pc Ls (w :: rest)) := by
  obtain ⟨fs, hr, hrun, hended, hW, hsame⟩ := X.leave (v := some w) (fun h => by rw [hret] at h; cases h) hlk
  have hn : narrow t w = w := by cases t <;> first | (cases ht; done) | (cases w <;> first | (cases hw; done) | rfl)
  exact ⟨_, _, retOut X hx hret hn (Or.inr (Or.inr (Or.inr (Or.inr ⟨rfl, ht, hw⟩)))) hd hr, hrun, hended, _, _, rfl, hQ, ⟨_, rfl⟩, hW, hsame.mono hc hs⟩
theorem Goes.retVoid (X : Stand p l e R s m args below meth c T locs cells slots) (hx : p.tables.exec = Jvm.exec) (hlk : meth.locks = false) (hret : meth.sig.returnType = none) (hd : decode c.code pc = .ok (.return_, 1)) (hQ : Q none T.heap locs) (hc : cells ≤ C) (hs : slots ≤ S) :
    Goes p e below (OwnK s Q C S) T (mkF m pc Ls []) := by
  obtain ⟨fs, hr, hrun, hended, hW, hsame⟩ := X.leave (v := none) (fun _ => rfl) hlk
  exact ⟨_, _, X.returnOut hx hret hd hr, hrun, hended, _, _, rfl, hQ, ⟨_, rfl⟩, hW, hsame.mono hc hs⟩
end Ret
/-- an array of ints, chars, bytes (not of booleans): all of its elements -/
def AI (Z : State) (h : Heap) (a : Addr) (ty : FieldType) (xs : List Int32) : Prop := ∃ cl : Cell, Arr Z h a cl ty ∧ cl.slots.toList = xs.map Value.int ∧ xs.length < 2 ^ 31 ∧ ∀ x ∈ xs, fits ty (.int x) = true
section Arrs
variable {ty : FieldType} {xs : List Int32} {sl : Nat} {v : Value} {ws : List Addr} {j x : Int32} {i : Nat} {rest : List Value}
theorem AI.lt (F : AI Z h a ty xs) : a < h.size := by obtain ⟨cl, A, -⟩ := F; exact A.lt
theorem AI.ext (F : AI Z h a ty xs) (E : Ext h h') : AI Z h' a ty xs := by obtain ⟨cl, A, r⟩ := F; exact ⟨cl, A.ext E, r⟩
theorem AI.other (F : AI Z h b ty xs) (W : Wr h h' a sl v) (q : b ≠ a) : AI Z h' b ty xs := by obtain ⟨cl, A, r⟩ := F; exact ⟨cl, A.other W q, r⟩
theorem AI.keep (F : AI Z h a ty xs) (K : Keep h h' ws) (q : a ∉ ws) : AI Z h' a ty xs := by obtain ⟨cl, A, r⟩ := F; exact ⟨cl, ⟨K.2.1 a cl A.1 q, A.2⟩, r⟩
theorem own_idx {cl : Cell} (hsz : cl.slots.toList = xs.map Value.int) (hj : j.toInt = (i : Int)) (hi : i < xs.length) : ¬ (j < 0 ∨ cl.slots.size ≤ j.toNatClampNeg) ∧ j.toNatClampNeg = i := by
  have hl : cl.slots.size = xs.length := by rw [← Array.length_toList, hsz, List.length_map]
  have hn : j.toNatClampNeg = i := by simp only [Int32.toNatClampNeg, hj]; rfl
  refine ⟨?_, hn⟩
  rw [hn, hl, Int32.lt_iff_toInt_lt, hj]
  have e0 : (0 : Int32).toInt = 0 := rfl
  omega
theorem own_at {cl : Cell} (hsz : cl.slots.toList = xs.map Value.int) (hi : xs[i]? = some x) : cl.slots[i]? = some (.int x) := by
  rw [← Array.getElem?_toList, hsz, List.getElem?_map, hi]; rfl
theorem AI.iaload (X : Stand p l e R s m args below meth c T locs cells slots) (hx : p.tables.exec = Jvm.exec) (hZ : Z.Warmed39 s.vm) (eT : T.heap = h) (A : AI Z h a .int xs) (hj : j.toInt = (i : Int)) (hi : xs[i]? = some x) (hg : g.method = m) (hs : g.stack = .int j :: .ref a :: rest) (hd : decode c.code g.pc = .ok (.iaload, 1)) :
    ∀ t, Steps p.tables e below (T.setTop { g with pc := g.pc + 1, stack := .int x :: rest }) t → Steps p.tables e below (T.setTop g) t := by
  obtain ⟨cl, A1, h1, h2, h3⟩ := A
  obtain ⟨q1, q2⟩ := own_idx h1 hj (List.getElem?_eq_some_iff.mp hi).1
  exact X.iaload hx (by rw [eT]; exact A1.1) (State.isArrayOf_alike hZ.alike A1.2.1) A1.2.2 q1 (by rw [q2]; exact own_at h1 hi) hg hs hd
theorem AI.caload (X : Stand p l e R s m args below meth c T locs cells slots) (hx : p.tables.exec = Jvm.exec) (hZ : Z.Warmed39 s.vm) (eT : T.heap = h) (A : AI Z h a .char xs) (hj : j.toInt = (i : Int)) (hi : xs[i]? = some x) (hg : g.method = m) (hs : g.stack = .int j :: .ref a :: rest) (hd : decode c.code g.pc = .ok (.caload, 1)) :
    ∀ t, Steps p.tables e below (T.setTop { g with pc := g.pc + 1, stack := .int x :: rest }) t → Steps p.tables e below (T.setTop g) t := by
  obtain ⟨cl, A1, h1, h2, h3⟩ := A
  obtain ⟨q1, q2⟩ := own_idx h1 hj (List.getElem?_eq_some_iff.mp hi).1
  exact X.caload hx (by rw [eT]; exact A1.1) (State.isArrayOf_alike hZ.alike A1.2.1) A1.2.2 q1 (by rw [q2]; exact own_at h1 hi) hg hs hd
theorem AI.baload (X : Stand p l e R s m args below meth c T locs cells slots) (hx : p.tables.exec = Jvm.exec) (hZ : Z.Warmed39 s.vm) (eT : T.heap = h) (A : AI Z h a .byte xs) (hj : j.toInt = (i : Int)) (hi : xs[i]? = some x) (hg : g.method = m) (hs : g.stack = .int j :: .ref a :: rest) (hd : decode c.code g.pc = .ok (.baload, 1)) :
    ∀ t, Steps p.tables e below (T.setTop { g with pc := g.pc + 1, stack := .int x :: rest }) t → Steps p.tables e below (T.setTop g) t := by
  obtain ⟨cl, A1, h1, h2, h3⟩ := A
  obtain ⟨q1, q2⟩ := own_idx h1 hj (List.getElem?_eq_some_iff.mp hi).1
  exact X.baloadBytes hx (by rw [eT]; exact A1.1) (State.isArrayOf_alike hZ.alike A1.2.1) A1.2.2 q1 (by rw [q2]; exact own_at h1 hi) hg hs hd
theorem AI.arraylength (X : Stand p l e R s m args below meth c T locs cells slots) (hx : p.tables.exec = Jvm.exec) (hZ : Z.Warmed39 s.vm) (eT : T.heap = h) (A : AI Z h a ty xs) (hj : j.toInt = (xs.length : Int)) (hg : g.method = m) (hs : g.stack = .ref a :: rest) (hd : decode c.code g.pc = .ok (.arraylength, 1)) :
    ∀ t, Steps p.tables e below (T.setTop { g with pc := g.pc + 1, stack := .int j :: rest }) t → Steps p.tables e below (T.setTop g) t := by
  obtain ⟨cl, A1, h1, h2, h3⟩ := A
  intro t k
  have hl : cl.slots.size = xs.length := by rw [← Array.length_toList, h1, List.length_map]
  have ej : cl.slots.size.toInt32 = j := by
    rw [hl]
    apply Int32.toInt_inj.mp
    rw [hj]; exact len_toInt h2
  refine X.arraylength hx (by rw [eT]; exact A1.1) (State.isArrayOf_alike hZ.alike A1.2.1) hg hs hd t ?_
  rw [ej]; exact k
theorem own_set {cl : Cell} (A : Arr Z h a cl ty) (h1 : cl.slots.toList = xs.map Value.int) (h2 : xs.length < 2 ^ 31) (h3 : ∀ x ∈ xs, fits ty (.int x) = true) (hf : fits ty (.int x) = true) (W : Wr h h' a i (.int x)) : AI Z h' a ty (xs.set i x) :=
  ⟨_, A.same W, by simp [Cell.setSlot, h1, List.map_set], by rw [List.length_set]; exact h2, fun y hy => by
    rcases List.mem_or_eq_of_mem_set hy with q | q
    · exact h3 y q
    · rw [q]; exact hf⟩
theorem AI.iastore (X : Stand p l e R s m args below meth c T locs cells slots) (hx : p.tables.exec = Jvm.exec) (hZ : Z.Warmed39 s.vm) (eT : T.heap = h) (A : AI Z h a .int xs) (hj : j.toInt = (i : Int)) (hi : i < xs.length) (hg : g.method = m) (hs : g.stack = .int x :: .int j :: .ref a :: rest) (hd : decode c.code g.pc = .ok (.iastore, 1)) :
    ∃ T' h', Stand p l e R s m args below meth c T' (locs ++ [⟨a, i⟩]) cells slots ∧ T'.heap = h' ∧ Wr h h' a i (.int x) ∧ AI Z h' a .int (xs.set i x) ∧ ∀ target, Steps p.tables e below (T'.setTop { g with pc := g.pc + 1, stack := rest }) target → Steps p.tables e below (T.setTop g) target := by
  obtain ⟨cl, A1, h1, h2, h3⟩ := A
  obtain ⟨q1, q2⟩ := own_idx h1 hj hi
  obtain ⟨T', h', X', e', W', st⟩ := stI X hx hZ eT A1 q1 hg hs hd
  rw [q2] at X' W'
  exact ⟨T', h', X', e', W', own_set A1 h1 h2 h3 rfl W', st⟩
theorem AI.castore (X : Stand p l e R s m args below meth c T locs cells slots) (hx : p.tables.exec = Jvm.exec) (hZ : Z.Warmed39 s.vm) (eT : T.heap = h) (A : AI Z h a .char xs) (hj : j.toInt = (i : Int)) (hi : i < xs.length) (hg : g.method = m) (hs : g.stack = .int x :: .int j :: .ref a :: rest) (hd : decode c.code g.pc = .ok (.castore, 1)) :
    ∃ T' h', Stand p l e R s m args below meth c T' (locs ++ [⟨a, i⟩]) cells slots ∧ T'.heap = h' ∧ Wr h h' a i (.int (nar .char x)) ∧ AI Z h' a .char (xs.set i (nar .char x)) ∧ ∀ target, Steps p.tables e below (T'.setTop { g with pc := g.pc + 1, stack := rest }) target → Steps p.tables e below (T.setTop g) target := by
  obtain ⟨cl, A1, h1, h2, h3⟩ := A
  obtain ⟨q1, q2⟩ := own_idx h1 hj hi
  obtain ⟨T', h', X', e', W', st⟩ := stC X hx hZ eT A1 q1 hg hs hd
  rw [q2] at X' W'
  exact ⟨T', h', X', e', W', own_set A1 h1 h2 h3 (fits_nar_char _) W', st⟩
theorem AI.bastore (X : Stand p l e R s m args below meth c T locs cells slots) (hx : p.tables.exec = Jvm.exec) (hZ : Z.Warmed39 s.vm) (eT : T.heap = h) (A : AI Z h a .byte xs) (hj : j.toInt = (i : Int)) (hi : i < xs.length) (hg : g.method = m) (hs : g.stack = .int x :: .int j :: .ref a :: rest) (hd : decode c.code g.pc = .ok (.bastore, 1)) :
    ∃ T' h', Stand p l e R s m args below meth c T' (locs ++ [⟨a, i⟩]) cells slots ∧ T'.heap = h' ∧ Wr h h' a i (.int (nar .byte x)) ∧ AI Z h' a .byte (xs.set i (nar .byte x)) ∧ ∀ target, Steps p.tables e below (T'.setTop { g with pc := g.pc + 1, stack := rest }) target → Steps p.tables e below (T.setTop g) target := by
  obtain ⟨cl, A1, h1, h2, h3⟩ := A
  obtain ⟨q1, q2⟩ := own_idx h1 hj hi
  obtain ⟨T', h', X', e', W', st⟩ := stB X hx hZ eT A1 q1 hg hs hd
  rw [q2] at X' W'
  exact ⟨T', h', X', e', W', own_set A1 h1 h2 h3 (fits_nar_byte _) W', st⟩
theorem AI.fresh {cA : ClassId} {n : Int32} {k : Nat} (ht : ty = .int ∨ ty = .char ∨ ty = .byte ∨ ty = .short) (hn : n.toInt = (k : Int)) (A : Arr Z h a (newA cA ty n) ty) : AI Z h a ty (List.replicate k 0) := by
  have e : n.toNatClampNeg = k := by simp only [Int32.toNatClampNeg, hn]; rfl
  have hk := n.toInt_lt
  refine ⟨_, A, ?_, ?_, ?_⟩
  · rcases ht with rfl | rfl | rfl | rfl <;> simp [newA, e, defaultValue]
  · rw [List.length_replicate]; omega
  · intro x hx
    obtain rfl := List.eq_of_mem_replicate hx
    rcases ht with rfl | rfl | rfl | rfl <;> rfl
end Arrs
end OwnKit
def f1 (p1 : Int32) (p2 : Int32) : Int32 := if p1 < p2 then p2 else p1
theorem d1_0 : decode jdk_29_method_65_code 0 = .ok (.iload_n 0, 1) := by decide +kernel
theorem d1_1 : decode jdk_29_method_65_code 1 = .ok (.iload_n 1, 1) := by decide +kernel
theorem d1_2 : decode jdk_29_method_65_code 2 = .ok (.if_icmp .lt 7, 3) := by decide +kernel
theorem d1_5 : decode jdk_29_method_65_code 5 = .ok (.iload_n 0, 1) := by decide +kernel
theorem d1_6 : decode jdk_29_method_65_code 6 = .ok (.goto 4, 3) := by decide +kernel
theorem d1_9 : decode jdk_29_method_65_code 9 = .ok (.iload_n 1, 1) := by decide +kernel
theorem d1_10 : decode jdk_29_method_65_code 10 = .ok (.ireturn, 1) := by decide +kernel
theorem pn_1 : plainFor (⟨"java/lang/Math", "max", "(II)I"⟩ : MethodName) = true := Jvm.Free.JP.mathPlain rfl (by decide +kernel)
theorem ef_1 (m : MethodId) (x0 : Int32) (x1 : Int32) : entryFrame m #[(.int x0), (.int x1)] 2 = mkF m 0 #[.val (.int x0), .val (.int x1)] [] := by first | (simp [entryFrame, mkF, argsToLocals, Value.category]; done) | rfl
def Q1 (Z : State) (p1 : Int32) (p2 : Int32) (h0 : Heap) (n0 : Nat) (v : Option Value) (h : Heap) (L : List Loc) : Prop := v = some (.int (f1 p1 p2)) ∧ Fr n0 L ∧ h = h0
set_option maxRecDepth 65536 in
set_option maxHeartbeats 40000000 in
theorem rm1 (l : Launch) (Z : State) (a0 : Array Value) (hw : ∀ d ∈ tables_1, d.before a0 Z = true) (ws : List Jvm.Cond) (p1 : Int32) (p2 : Int32) (h0 : Heap) (n0 : Nat) (Z0 : n0 ≤ h0.size) :
    MetFree l (⟨"java/lang/Math", "max", "(II)I"⟩ : MethodName) (head1 (Jvm.Cond.code (⟨"java/lang/Math", "max", "(II)I"⟩ : MethodName) jdk_29_method_65_code 2 (some .int) :: ws) ({ frames := 0, cells := 0, slots := 0, locals := 0 } : Room)) (fun a U => a = #[(.int p1), (.int p2)] ∧ Z.Warmed39 U.vm ∧ U.heap = h0) (fun _ _ _ _ _ => True) (fun _ U o U' => ∃ v L, o = .returned v ∧ Q1 Z p1 p2 h0 n0 v U'.heap L ∧ FrameEnd U o U' L ({ frames := 0, cells := 0, slots := 0, locals := 0 } : Room).cells ({ frames := 0, cells := 0, slots := 0, locals := 0 } : Room).slots) := by
  refine MetFree.of_bodySF pn_1 hisR ?_
  intro p e s m args below meth c s₁ Bd hml0 hP hK
  obtain ⟨rfl, hZ, hh⟩ := hP
  have hx := Bd.exec
  have hby := Bd.bytes
  have hml : c.maxLocals = 2 := hml0
  have hown : s.vm.findClass "java/lang/Math" = some m.cls := findClass_of_methodNamed Bd.named
  have hnm := (name_of_methodNamed Bd.named Bd.method).1
  have hlk : meth.locks = false := BodyLoose.notSynchronized Bd
  have X0 : Stand p l e ({ frames := 0, cells := 0, slots := 0, locals := 0 } : Room) s m #[(.int p1), (.int p2)] below meth c s₁ [] 0 0 := Stand.of_body Bd
  have e0 : s₁.heap = h0 := by rw [← hh, Bd.state]; rfl
  have N0 := Fr.nil n0
  show Goes p e below (OwnK s (Q1 Z p1 p2 h0 n0) ({ frames := 0, cells := 0, slots := 0, locals := 0 } : Room).cells ({ frames := 0, cells := 0, slots := 0, locals := 0 } : Room).slots) s₁ (entryFrame m #[(.int p1), (.int p2)] 2)
  refine Goes.cast (ef_1 m p1 p2) ?_
  generalize hKK : OwnK s (Q1 Z p1 p2 h0 n0) ({ frames := 0, cells := 0, slots := 0, locals := 0 } : Room).cells ({ frames := 0, cells := 0, slots := 0, locals := 0 } : Room).slots = KK
  show Goes p e below KK s₁ (mkF m 0 #[.val (.int p1), .val (.int p2)] [])
  refine Goes.of (fun t => XS.iloadN X0.here hx rfl (hb hby d1_0) rfl) ?_
  show Goes p e below KK s₁ (mkF m 1 #[.val (.int p1), .val (.int p2)] [(.int p1)])
  refine Goes.of (fun t => XS.iloadN X0.here hx rfl (hb hby d1_1) rfl) ?_
  show Goes p e below KK s₁ (mkF m 2 #[.val (.int p1), .val (.int p2)] [(.int p2), (.int p1)])
  by_cases hc2 : p1 < p2
  · refine Goes.of (fun t => XS.icmpYes X0.here hx rfl (pc0 := 2) (pc' := 9) rfl (hb hby d1_2) rfl (tlt hc2).1 (by decide) (by decide)) ?_
    show Goes p e below KK s₁ (mkF m 9 #[.val (.int p1), .val (.int p2)] [])
    refine Goes.of (fun t => XS.iloadN X0.here hx rfl (hb hby d1_9) rfl) ?_
    show Goes p e below KK s₁ (mkF m 10 #[.val (.int p1), .val (.int p2)] [(.int p2)])
    rw [← hKK]
    refine Goes.retInt X0 hx hlk Bd.returns (hb hby d1_10) ?_ (by decide) (by decide)
    rw [e0]
    exact ⟨by unfold f1; rw [if_pos hc2] <;> rfl, N0, rfl⟩
  · refine Goes.of (fun t => XS.icmpNo X0.here hx rfl (hb hby d1_2) rfl (flt hc2).1) ?_
    show Goes p e below KK s₁ (mkF m 5 #[.val (.int p1), .val (.int p2)] [])
    refine Goes.of (fun t => XS.iloadN X0.here hx rfl (hb hby d1_5) rfl) ?_
    show Goes p e below KK s₁ (mkF m 6 #[.val (.int p1), .val (.int p2)] [(.int p1)])
    refine Goes.of (fun t => XS.goto X0.here hx rfl (pc0 := 6) (pc' := 10) rfl (hb hby d1_6) (by decide) (by decide)) ?_
    show Goes p e below KK s₁ (mkF m 10 #[.val (.int p1), .val (.int p2)] [(.int p1)])
    rw [← hKK]
    refine Goes.retInt X0 hx hlk Bd.returns (hb hby d1_10) ?_ (by decide) (by decide)
    rw [e0]
    exact ⟨by unfold f1; rw [if_neg hc2] <;> rfl, N0, rfl⟩
def f7 (p1 : Int32) (p2 : Int32) : Int32 := if p2 < p1 then p2 else p1
theorem d7_0 : decode jdk_29_method_69_code 0 = .ok (.iload_n 0, 1) := by decide +kernel
theorem d7_1 : decode jdk_29_method_69_code 1 = .ok (.iload_n 1, 1) := by decide +kernel
theorem d7_2 : decode jdk_29_method_69_code 2 = .ok (.if_icmp .gt 7, 3) := by decide +kernel
theorem d7_5 : decode jdk_29_method_69_code 5 = .ok (.iload_n 0, 1) := by decide +kernel
theorem d7_6 : decode jdk_29_method_69_code 6 = .ok (.goto 4, 3) := by decide +kernel
theorem d7_9 : decode jdk_29_method_69_code 9 = .ok (.iload_n 1, 1) := by decide +kernel
theorem d7_10 : decode jdk_29_method_69_code 10 = .ok (.ireturn, 1) := by decide +kernel
theorem pn_7 : plainFor (⟨"java/lang/Math", "min", "(II)I"⟩ : MethodName) = true := Jvm.Free.JP.mathPlain rfl (by decide +kernel)
theorem ef_7 (m : MethodId) (x0 : Int32) (x1 : Int32) : entryFrame m #[(.int x0), (.int x1)] 2 = mkF m 0 #[.val (.int x0), .val (.int x1)] [] := by first | (simp [entryFrame, mkF, argsToLocals, Value.category]; done) | rfl
def Q7 (Z : State) (p1 : Int32) (p2 : Int32) (h0 : Heap) (n0 : Nat) (v : Option Value) (h : Heap) (L : List Loc) : Prop := v = some (.int (f7 p1 p2)) ∧ Fr n0 L ∧ h = h0
set_option maxRecDepth 65536 in
set_option maxHeartbeats 40000000 in
theorem rm7 (l : Launch) (Z : State) (a0 : Array Value) (hw : ∀ d ∈ tables_1, d.before a0 Z = true) (ws : List Jvm.Cond) (p1 : Int32) (p2 : Int32) (h0 : Heap) (n0 : Nat) (Z0 : n0 ≤ h0.size) :
    MetFree l (⟨"java/lang/Math", "min", "(II)I"⟩ : MethodName) (head1 (Jvm.Cond.code (⟨"java/lang/Math", "min", "(II)I"⟩ : MethodName) jdk_29_method_69_code 2 (some .int) :: ws) ({ frames := 0, cells := 0, slots := 0, locals := 0 } : Room)) (fun a U => a = #[(.int p1), (.int p2)] ∧ Z.Warmed39 U.vm ∧ U.heap = h0) (fun _ _ _ _ _ => True) (fun _ U o U' => ∃ v L, o = .returned v ∧ Q7 Z p1 p2 h0 n0 v U'.heap L ∧ FrameEnd U o U' L ({ frames := 0, cells := 0, slots := 0, locals := 0 } : Room).cells ({ frames := 0, cells := 0, slots := 0, locals := 0 } : Room).slots) := by
  refine MetFree.of_bodySF pn_7 hisR ?_
  intro p e s m args below meth c s₁ Bd hml0 hP hK
  obtain ⟨rfl, hZ, hh⟩ := hP
  have hx := Bd.exec
  have hby := Bd.bytes
  have hml : c.maxLocals = 2 := hml0
  have hown : s.vm.findClass "java/lang/Math" = some m.cls := findClass_of_methodNamed Bd.named
  have hnm := (name_of_methodNamed Bd.named Bd.method).1
  have hlk : meth.locks = false := BodyLoose.notSynchronized Bd
  have X0 : Stand p l e ({ frames := 0, cells := 0, slots := 0, locals := 0 } : Room) s m #[(.int p1), (.int p2)] below meth c s₁ [] 0 0 := Stand.of_body Bd
  have e0 : s₁.heap = h0 := by rw [← hh, Bd.state]; rfl
  have N0 := Fr.nil n0
  show Goes p e below (OwnK s (Q7 Z p1 p2 h0 n0) ({ frames := 0, cells := 0, slots := 0, locals := 0 } : Room).cells ({ frames := 0, cells := 0, slots := 0, locals := 0 } : Room).slots) s₁ (entryFrame m #[(.int p1), (.int p2)] 2)
  refine Goes.cast (ef_7 m p1 p2) ?_
  generalize hKK : OwnK s (Q7 Z p1 p2 h0 n0) ({ frames := 0, cells := 0, slots := 0, locals := 0 } : Room).cells ({ frames := 0, cells := 0, slots := 0, locals := 0 } : Room).slots = KK
  show Goes p e below KK s₁ (mkF m 0 #[.val (.int p1), .val (.int p2)] [])
  refine Goes.of (fun t => XS.iloadN X0.here hx rfl (hb hby d7_0) rfl) ?_
  show Goes p e below KK s₁ (mkF m 1 #[.val (.int p1), .val (.int p2)] [(.int p1)])
  refine Goes.of (fun t => XS.iloadN X0.here hx rfl (hb hby d7_1) rfl) ?_
  show Goes p e below KK s₁ (mkF m 2 #[.val (.int p1), .val (.int p2)] [(.int p2), (.int p1)])
  by_cases hc2 : p2 < p1
  · refine Goes.of (fun t => XS.icmpYes X0.here hx rfl (pc0 := 2) (pc' := 9) rfl (hb hby d7_2) rfl (tlt hc2).2.2.1 (by decide) (by decide)) ?_
    show Goes p e below KK s₁ (mkF m 9 #[.val (.int p1), .val (.int p2)] [])
    refine Goes.of (fun t => XS.iloadN X0.here hx rfl (hb hby d7_9) rfl) ?_
    show Goes p e below KK s₁ (mkF m 10 #[.val (.int p1), .val (.int p2)] [(.int p2)])
    rw [← hKK]
    refine Goes.retInt X0 hx hlk Bd.returns (hb hby d7_10) ?_ (by decide) (by decide)
    rw [e0]
    exact ⟨by unfold f7; rw [if_pos hc2] <;> rfl, N0, rfl⟩
  · refine Goes.of (fun t => XS.icmpNo X0.here hx rfl (hb hby d7_2) rfl (flt hc2).2.2.1) ?_
    show Goes p e below KK s₁ (mkF m 5 #[.val (.int p1), .val (.int p2)] [])
    refine Goes.of (fun t => XS.iloadN X0.here hx rfl (hb hby d7_5) rfl) ?_
    show Goes p e below KK s₁ (mkF m 6 #[.val (.int p1), .val (.int p2)] [(.int p1)])
    refine Goes.of (fun t => XS.goto X0.here hx rfl (pc0 := 6) (pc' := 10) rfl (hb hby d7_6) (by decide) (by decide)) ?_
    show Goes p e below KK s₁ (mkF m 10 #[.val (.int p1), .val (.int p2)] [(.int p1)])
    rw [← hKK]
    refine Goes.retInt X0 hx hlk Bd.returns (hb hby d7_10) ?_ (by decide) (by decide)
    rw [e0]
    exact ⟨by unfold f7; rw [if_neg hc2] <;> rfl, N0, rfl⟩
theorem d2_0 : decode prog_12_method_1_code 0 = .ok (.aload_n 0, 1) := by decide +kernel
theorem d2_1 : decode prog_12_method_1_code 1 = .ok (.invokespecial 1, 3) := by decide +kernel
theorem d2_4 : decode prog_12_method_1_code 4 = .ok (.aload_n 0, 1) := by decide +kernel
theorem d2_5 : decode prog_12_method_1_code 5 = .ok (.iload_n 1, 1) := by decide +kernel
theorem d2_6 : decode prog_12_method_1_code 6 = .ok (.putfield 7, 3) := by decide +kernel
theorem d2_9 : decode prog_12_method_1_code 9 = .ok (.aload_n 0, 1) := by decide +kernel
theorem d2_10 : decode prog_12_method_1_code 10 = .ok (.iload_n 2, 1) := by decide +kernel
theorem d2_11 : decode prog_12_method_1_code 11 = .ok (.putfield 13, 3) := by decide +kernel
theorem d2_14 : decode prog_12_method_1_code 14 = .ok (.aload_n 0, 1) := by decide +kernel
theorem d2_15 : decode prog_12_method_1_code 15 = .ok (.iload_n 1, 1) := by decide +kernel
theorem d2_16 : decode prog_12_method_1_code 16 = .ok (.iconst 1, 1) := by decide +kernel
theorem d2_17 : decode prog_12_method_1_code 17 = .ok (.isub, 1) := by decide +kernel
theorem d2_18 : decode prog_12_method_1_code 18 = .ok (.iload_n 2, 1) := by decide +kernel
theorem d2_19 : decode prog_12_method_1_code 19 = .ok (.idiv, 1) := by decide +kernel
theorem d2_20 : decode prog_12_method_1_code 20 = .ok (.iconst 1, 1) := by decide +kernel
theorem d2_21 : decode prog_12_method_1_code 21 = .ok (.iadd, 1) := by decide +kernel
theorem d2_22 : decode prog_12_method_1_code 22 = .ok (.putfield 16, 3) := by decide +kernel
theorem d2_25 : decode prog_12_method_1_code 25 = .ok (.aload_n 0, 1) := by decide +kernel
theorem d2_26 : decode prog_12_method_1_code 26 = .ok (.aload_n 0, 1) := by decide +kernel
theorem d2_27 : decode prog_12_method_1_code 27 = .ok (.getfield 16, 3) := by decide +kernel
theorem d2_30 : decode prog_12_method_1_code 30 = .ok (.iload_n 2, 1) := by decide +kernel
theorem d2_31 : decode prog_12_method_1_code 31 = .ok (.iadd, 1) := by decide +kernel
theorem d2_32 : decode prog_12_method_1_code 32 = .ok (.iconst 3, 1) := by decide +kernel
theorem d2_33 : decode prog_12_method_1_code 33 = .ok (.isub, 1) := by decide +kernel
theorem d2_34 : decode prog_12_method_1_code 34 = .ok (.iload_n 2, 1) := by decide +kernel
theorem d2_35 : decode prog_12_method_1_code 35 = .ok (.iconst 1, 1) := by decide +kernel
theorem d2_36 : decode prog_12_method_1_code 36 = .ok (.isub, 1) := by decide +kernel
theorem d2_37 : decode prog_12_method_1_code 37 = .ok (.idiv, 1) := by decide +kernel
theorem d2_38 : decode prog_12_method_1_code 38 = .ok (.putfield 19, 3) := by decide +kernel
theorem d2_41 : decode prog_12_method_1_code 41 = .ok (.return_, 1) := by decide +kernel
theorem pn_2 : plainFor (⟨"com/example/coalesce/coalesce/combining/TreeShape", "<init>", "(II)V"⟩ : MethodName) = true := plainFor_of_name (by first | (simp [plainName, overriddenIn]; done) | decide +kernel)
theorem ef_2 (m : MethodId) (x0 : Addr) (x1 : Int32) (x2 : Int32) : entryFrame m #[(.ref x0), (.int x1), (.int x2)] 3 = mkF m 0 #[.val (.ref x0), .val (.int x1), .val (.int x2)] [] := by first | (simp [entryFrame, mkF, argsToLocals, Value.category]; done) | rfl
def Q2 (Z : State) (a1 : Addr) (p2 : Int32) (p3 : Int32) (h0 : Heap) (n0 : Nat) (v : Option Value) (h : Heap) (L : List Loc) : Prop := v = none ∧ Fr n0 L ∧ Keep h0 h [a1] ∧ Exa Z h a1 "com/example/coalesce/coalesce/combining/TreeShape" ∧ Fld Z h a1 "com/example/coalesce/coalesce/combining/TreeShape" "width" "I" (.int p2) ∧ Fld Z h a1 "com/example/coalesce/coalesce/combining/TreeShape" "arity" "I" (.int p3) ∧ Fld Z h a1 "com/example/coalesce/coalesce/combining/TreeShape" "leafCount" "I" (.int (((p2 - (1 : Int32)) / p3) + (1 : Int32))) ∧ Fld Z h a1 "com/example/coalesce/coalesce/combining/TreeShape" "innerCount" "I" (.int ((((((p2 - (1 : Int32)) / p3) + (1 : Int32)) + p3) - (3 : Int32)) / (p3 - (1 : Int32))))
set_option maxRecDepth 65536 in
set_option maxHeartbeats 40000000 in
theorem rm2 (l : Launch) (Z : State) (a0 : Array Value) (hw : ∀ d ∈ tables_1, d.before a0 Z = true) (ws : List Jvm.Cond) (a1 : Addr) (p2 : Int32) (p3 : Int32) (h0 : Heap) (n0 : Nat) (Z0 : n0 ≤ h0.size) (E_a1 : Exa Z h0 a1 "com/example/coalesce/coalesce/combining/TreeShape") (F_width_a1 : Fld Z h0 a1 "com/example/coalesce/coalesce/combining/TreeShape" "width" "I" (.int (0 : Int32))) (F_arity_a1 : Fld Z h0 a1 "com/example/coalesce/coalesce/combining/TreeShape" "arity" "I" (.int (0 : Int32))) (F_leafCount_a1 : Fld Z h0 a1 "com/example/coalesce/coalesce/combining/TreeShape" "leafCount" "I" (.int (0 : Int32))) (F_innerCount_a1 : Fld Z h0 a1 "com/example/coalesce/coalesce/combining/TreeShape" "innerCount" "I" (.int (0 : Int32))) (g_a1 : n0 ≤ a1) (nz1 : ¬ p3 = 0) (nz2 : ¬ (p3 - 1) = 0) :
    MetFree l (⟨"com/example/coalesce/coalesce/combining/TreeShape", "<init>", "(II)V"⟩ : MethodName) (head1 (Jvm.Cond.code (⟨"com/example/coalesce/coalesce/combining/TreeShape", "<init>", "(II)V"⟩ : MethodName) prog_12_method_1_code 3 none :: ws) ({ frames := 1, cells := 0, slots := 0, locals := 12 } : Room)) (fun a U => a = #[(.ref a1), (.int p2), (.int p3)] ∧ Z.Warmed39 U.vm ∧ U.heap = h0) (fun _ _ _ _ _ => True) (fun _ U o U' => ∃ v L, o = .returned v ∧ Q2 Z a1 p2 p3 h0 n0 v U'.heap L ∧ FrameEnd U o U' L ({ frames := 1, cells := 0, slots := 0, locals := 12 } : Room).cells ({ frames := 1, cells := 0, slots := 0, locals := 12 } : Room).slots) := by
  refine MetFree.of_bodySF pn_2 hisR ?_
  intro p e s m args below meth c s₁ Bd hml0 hP hK
  obtain ⟨rfl, hZ, hh⟩ := hP
  have hx := Bd.exec
  have hby := Bd.bytes
  have hml : c.maxLocals = 3 := hml0
  have hown : s.vm.findClass "com/example/coalesce/coalesce/combining/TreeShape" = some m.cls := findClass_of_methodNamed Bd.named
  have hnm := (name_of_methodNamed Bd.named Bd.method).1
  have hlk : meth.locks = false := BodyLoose.notSynchronized Bd
  have X0 : Stand p l e ({ frames := 1, cells := 0, slots := 0, locals := 12 } : Room) s m #[(.ref a1), (.int p2), (.int p3)] below meth c s₁ [] 0 0 := Stand.of_body Bd
  have e0 : s₁.heap = h0 := by rw [← hh, Bd.state]; rfl
  have N0 := Fr.nil n0
  show Goes p e below (OwnK s (Q2 Z a1 p2 p3 h0 n0) ({ frames := 1, cells := 0, slots := 0, locals := 12 } : Room).cells ({ frames := 1, cells := 0, slots := 0, locals := 12 } : Room).slots) s₁ (entryFrame m #[(.ref a1), (.int p2), (.int p3)] 3)
  refine Goes.cast (ef_2 m a1 p2 p3) ?_
  generalize hKK : OwnK s (Q2 Z a1 p2 p3 h0 n0) ({ frames := 1, cells := 0, slots := 0, locals := 12 } : Room).cells ({ frames := 1, cells := 0, slots := 0, locals := 12 } : Room).slots = KK
  show Goes p e below KK s₁ (mkF m 0 #[.val (.ref a1), .val (.int p2), .val (.int p3)] [])
  have w_6 := hw _ (List.mem_of_getElem? (i := 6) rfl)
  have w_11 := hw _ (List.mem_of_getElem? (i := 11) rfl)
  have w_12 := hw _ (List.mem_of_getElem? (i := 12) rfl)
  have w_13 := hw _ (List.mem_of_getElem? (i := 13) rfl)
  have w_14 := hw _ (List.mem_of_getElem? (i := 14) rfl)
  have w_15 := hw _ (List.mem_of_getElem? (i := 15) rfl)
  have w_16 := hw _ (List.mem_of_getElem? (i := 16) rfl)
  have w_17 := hw _ (List.mem_of_getElem? (i := 17) rfl)
  have w_18 := hw _ (List.mem_of_getElem? (i := 18) rfl)
  have w_19 := hw _ (List.mem_of_getElem? (i := 19) rfl)
  have w_20 := hw _ (List.mem_of_getElem? (i := 20) rfl)
  have w_21 := hw _ (List.mem_of_getElem? (i := 21) rfl)
  refine Goes.of (fun t => XS.aloadN X0.here hx rfl (hb hby d2_0) rfl rfl) ?_
  show Goes p e below KK s₁ (mkF m 1 #[.val (.ref a1), .val (.int p2), .val (.int p3)] [(.ref a1)])
  obtain ⟨T1, X1, e1, st1⟩ := initO X0 hx hZ hown w_11 w_12 w_13 e0 (g := (mkF m 1 #[.val (.ref a1), .val (.int p2), .val (.int p3)] [(.ref a1)])) rfl (by rw [hml]; rfl) rfl (hb hby d2_1) (by decide) (W := 0) (by show 2 * 0 + _ ≤ _; exact Nat.le_of_eq rfl) (by decide)
  refine Goes.of (st1) ?_
  show Goes p e below KK T1 (mkF m 4 #[.val (.ref a1), .val (.int p2), .val (.int p3)] [])
  refine Goes.of (fun t => XS.aloadN X1.here hx rfl (hb hby d2_4) rfl rfl) ?_
  show Goes p e below KK T1 (mkF m 5 #[.val (.ref a1), .val (.int p2), .val (.int p3)] [(.ref a1)])
  refine Goes.of (fun t => XS.iloadN X1.here hx rfl (hb hby d2_5) rfl) ?_
  show Goes p e below KK T1 (mkF m 6 #[.val (.ref a1), .val (.int p2), .val (.int p3)] [(.int p2), (.ref a1)])
  obtain ⟨T2, h2, X2, e2, W2, st2⟩ := putF X1 hx hZ hown (host := "") (Or.inl w_14) Via.refl e1 F_width_a1 E_a1 (Or.inr ⟨w_15, rfl, hnm⟩) w_6 (ty := .int) (by decide) rfl rfl (g := (mkF m 6 #[.val (.ref a1), .val (.int p2), .val (.int p3)] [(.int p2), (.ref a1)])) rfl rfl (hb hby d2_6)
  refine Goes.of (st2) ?_
  have E_a1_2 : Exa Z h2 a1 "com/example/coalesce/coalesce/combining/TreeShape" := E_a1.wr W2
  have F_arity_a1_2 : Fld Z h2 a1 "com/example/coalesce/coalesce/combining/TreeShape" "arity" "I" (.int (0 : Int32)) := F_arity_a1.other W2 (Or.inr (slot_ne (Or.inr w_17) (Or.inr w_15) (by decide) (t := .int) (t' := .int) (by decide) (by decide)))
  have F_leafCount_a1_2 : Fld Z h2 a1 "com/example/coalesce/coalesce/combining/TreeShape" "leafCount" "I" (.int (0 : Int32)) := F_leafCount_a1.other W2 (Or.inr (slot_ne (Or.inr w_19) (Or.inr w_15) (by decide) (t := .int) (t' := .int) (by decide) (by decide)))
  have F_innerCount_a1_2 : Fld Z h2 a1 "com/example/coalesce/coalesce/combining/TreeShape" "innerCount" "I" (.int (0 : Int32)) := F_innerCount_a1.other W2 (Or.inr (slot_ne (Or.inr w_21) (Or.inr w_15) (by decide) (t := .int) (t' := .int) (by decide) (by decide)))
  have K2 : Keep h0 h2 [a1] := (Keep.refl h0 [a1]).wr W2 (Or.inl (List.mem_of_getElem? (i := 0) rfl))
  have Z2 : n0 ≤ h2.size := Nat.le_trans Z0 (Keep.of_wr W2).1
  have N2 := Fr.snoc X2 N0 g_a1
  have F_width_a1_2 : Fld Z h2 a1 "com/example/coalesce/coalesce/combining/TreeShape" "width" "I" (.int p2) := F_width_a1.same W2
  show Goes p e below KK T2 (mkF m 9 #[.val (.ref a1), .val (.int p2), .val (.int p3)] [])
  refine Goes.of (fun t => XS.aloadN X2.here hx rfl (hb hby d2_9) rfl rfl) ?_
  show Goes p e below KK T2 (mkF m 10 #[.val (.ref a1), .val (.int p2), .val (.int p3)] [(.ref a1)])
  refine Goes.of (fun t => XS.iloadN X2.here hx rfl (hb hby d2_10) rfl) ?_
  show Goes p e below KK T2 (mkF m 11 #[.val (.ref a1), .val (.int p2), .val (.int p3)] [(.int p3), (.ref a1)])
  obtain ⟨T3, h3, X3, e3, W3, st3⟩ := putF X2 hx hZ hown (host := "") (Or.inl w_16) Via.refl e2 F_arity_a1_2 E_a1_2 (Or.inr ⟨w_17, rfl, hnm⟩) w_6 (ty := .int) (by decide) rfl rfl (g := (mkF m 11 #[.val (.ref a1), .val (.int p2), .val (.int p3)] [(.int p3), (.ref a1)])) rfl rfl (hb hby d2_11)
  refine Goes.of (st3) ?_
  have E_a1_2_3 : Exa Z h3 a1 "com/example/coalesce/coalesce/combining/TreeShape" := E_a1_2.wr W3
  have F_width_a1_2_3 : Fld Z h3 a1 "com/example/coalesce/coalesce/combining/TreeShape" "width" "I" (.int p2) := F_width_a1_2.other W3 (Or.inr (slot_ne (Or.inr w_15) (Or.inr w_17) (by decide) (t := .int) (t' := .int) (by decide) (by decide)))
  have F_leafCount_a1_2_3 : Fld Z h3 a1 "com/example/coalesce/coalesce/combining/TreeShape" "leafCount" "I" (.int (0 : Int32)) := F_leafCount_a1_2.other W3 (Or.inr (slot_ne (Or.inr w_19) (Or.inr w_17) (by decide) (t := .int) (t' := .int) (by decide) (by decide)))
  have F_innerCount_a1_2_3 : Fld Z h3 a1 "com/example/coalesce/coalesce/combining/TreeShape" "innerCount" "I" (.int (0 : Int32)) := F_innerCount_a1_2.other W3 (Or.inr (slot_ne (Or.inr w_21) (Or.inr w_17) (by decide) (t := .int) (t' := .int) (by decide) (by decide)))
  have K3 : Keep h0 h3 [a1] := K2.wr W3 (Or.inl (List.mem_of_getElem? (i := 0) rfl))
  have Z3 : n0 ≤ h3.size := Nat.le_trans Z2 (Keep.of_wr W3).1
  have N3 := Fr.snoc X3 N2 g_a1
  have F_arity_a1_3 : Fld Z h3 a1 "com/example/coalesce/coalesce/combining/TreeShape" "arity" "I" (.int p3) := F_arity_a1_2.same W3
  show Goes p e below KK T3 (mkF m 14 #[.val (.ref a1), .val (.int p2), .val (.int p3)] [])
  refine Goes.of (fun t => XS.aloadN X3.here hx rfl (hb hby d2_14) rfl rfl) ?_
  show Goes p e below KK T3 (mkF m 15 #[.val (.ref a1), .val (.int p2), .val (.int p3)] [(.ref a1)])
  refine Goes.of (fun t => XS.iloadN X3.here hx rfl (hb hby d2_15) rfl) ?_
  show Goes p e below KK T3 (mkF m 16 #[.val (.ref a1), .val (.int p2), .val (.int p3)] [(.int p2), (.ref a1)])
  refine Goes.of (fun t => XS.iconst X3.here hx rfl (hb hby d2_16)) ?_
  show Goes p e below KK T3 (mkF m 17 #[.val (.ref a1), .val (.int p2), .val (.int p3)] [(.int (1 : Int32)), (.int p2), (.ref a1)])
  refine Goes.of (fun t => XS.isub X3.here hx rfl (hb hby d2_17) rfl) ?_
  show Goes p e below KK T3 (mkF m 18 #[.val (.ref a1), .val (.int p2), .val (.int p3)] [(.int (p2 - (1 : Int32))), (.ref a1)])
  refine Goes.of (fun t => XS.iloadN X3.here hx rfl (hb hby d2_18) rfl) ?_
  show Goes p e below KK T3 (mkF m 19 #[.val (.ref a1), .val (.int p2), .val (.int p3)] [(.int p3), (.int (p2 - (1 : Int32))), (.ref a1)])
  refine Goes.of (fun t => XS.idiv X3.here hx rfl (hb hby d2_19) rfl nz1) ?_
  show Goes p e below KK T3 (mkF m 20 #[.val (.ref a1), .val (.int p2), .val (.int p3)] [(.int ((p2 - (1 : Int32)) / p3)), (.ref a1)])
  refine Goes.of (fun t => XS.iconst X3.here hx rfl (hb hby d2_20)) ?_
  show Goes p e below KK T3 (mkF m 21 #[.val (.ref a1), .val (.int p2), .val (.int p3)] [(.int (1 : Int32)), (.int ((p2 - (1 : Int32)) / p3)), (.ref a1)])
  refine Goes.of (fun t => XS.iadd X3.here hx rfl (hb hby d2_21) rfl) ?_
  show Goes p e below KK T3 (mkF m 22 #[.val (.ref a1), .val (.int p2), .val (.int p3)] [(.int (((p2 - (1 : Int32)) / p3) + (1 : Int32))), (.ref a1)])
  obtain ⟨T4, h4, X4, e4, W4, st4⟩ := putF X3 hx hZ hown (host := "") (Or.inl w_18) Via.refl e3 F_leafCount_a1_2_3 E_a1_2_3 (Or.inr ⟨w_19, rfl, hnm⟩) w_6 (ty := .int) (by decide) rfl rfl (g := (mkF m 22 #[.val (.ref a1), .val (.int p2), .val (.int p3)] [(.int (((p2 - (1 : Int32)) / p3) + (1 : Int32))), (.ref a1)])) rfl rfl (hb hby d2_22)
  refine Goes.of (st4) ?_
  have E_a1_2_3_4 : Exa Z h4 a1 "com/example/coalesce/coalesce/combining/TreeShape" := E_a1_2_3.wr W4
  have F_width_a1_2_3_4 : Fld Z h4 a1 "com/example/coalesce/coalesce/combining/TreeShape" "width" "I" (.int p2) := F_width_a1_2_3.other W4 (Or.inr (slot_ne (Or.inr w_15) (Or.inr w_19) (by decide) (t := .int) (t' := .int) (by decide) (by decide)))
  have F_arity_a1_3_4 : Fld Z h4 a1 "com/example/coalesce/coalesce/combining/TreeShape" "arity" "I" (.int p3) := F_arity_a1_3.other W4 (Or.inr (slot_ne (Or.inr w_17) (Or.inr w_19) (by decide) (t := .int) (t' := .int) (by decide) (by decide)))
  have F_innerCount_a1_2_3_4 : Fld Z h4 a1 "com/example/coalesce/coalesce/combining/TreeShape" "innerCount" "I" (.int (0 : Int32)) := F_innerCount_a1_2_3.other W4 (Or.inr (slot_ne (Or.inr w_21) (Or.inr w_19) (by decide) (t := .int) (t' := .int) (by decide) (by decide)))
  have K4 : Keep h0 h4 [a1] := K3.wr W4 (Or.inl (List.mem_of_getElem? (i := 0) rfl))
  have Z4 : n0 ≤ h4.size := Nat.le_trans Z3 (Keep.of_wr W4).1
  have N4 := Fr.snoc X4 N3 g_a1
  have F_leafCount_a1_4 : Fld Z h4 a1 "com/example/coalesce/coalesce/combining/TreeShape" "leafCount" "I" (.int (((p2 - (1 : Int32)) / p3) + (1 : Int32))) := F_leafCount_a1_2_3.same W4
  show Goes p e below KK T4 (mkF m 25 #[.val (.ref a1), .val (.int p2), .val (.int p3)] [])
  refine Goes.of (fun t => XS.aloadN X4.here hx rfl (hb hby d2_25) rfl rfl) ?_
  show Goes p e below KK T4 (mkF m 26 #[.val (.ref a1), .val (.int p2), .val (.int p3)] [(.ref a1)])
  refine Goes.of (fun t => XS.aloadN X4.here hx rfl (hb hby d2_26) rfl rfl) ?_
  show Goes p e below KK T4 (mkF m 27 #[.val (.ref a1), .val (.int p2), .val (.int p3)] [(.ref a1), (.ref a1)])
  obtain ⟨T5, X5, e5, st5⟩ := getF X4 hx hZ hown (host := "") (Or.inl w_18) Via.refl e4 F_leafCount_a1_4 (g := (mkF m 27 #[.val (.ref a1), .val (.int p2), .val (.int p3)] [(.ref a1), (.ref a1)])) rfl rfl (hb hby d2_27)
  refine Goes.of (st5) ?_
  show Goes p e below KK T5 (mkF m 30 #[.val (.ref a1), .val (.int p2), .val (.int p3)] [(.int (((p2 - (1 : Int32)) / p3) + (1 : Int32))), (.ref a1)])
  refine Goes.of (fun t => XS.iloadN X5.here hx rfl (hb hby d2_30) rfl) ?_
  show Goes p e below KK T5 (mkF m 31 #[.val (.ref a1), .val (.int p2), .val (.int p3)] [(.int p3), (.int (((p2 - (1 : Int32)) / p3) + (1 : Int32))), (.ref a1)])
  refine Goes.of (fun t => XS.iadd X5.here hx rfl (hb hby d2_31) rfl) ?_
  show Goes p e below KK T5 (mkF m 32 #[.val (.ref a1), .val (.int p2), .val (.int p3)] [(.int ((((p2 - (1 : Int32)) / p3) + (1 : Int32)) + p3)), (.ref a1)])
  refine Goes.of (fun t => XS.iconst X5.here hx rfl (hb hby d2_32)) ?_
  show Goes p e below KK T5 (mkF m 33 #[.val (.ref a1), .val (.int p2), .val (.int p3)] [(.int (3 : Int32)), (.int ((((p2 - (1 : Int32)) / p3) + (1 : Int32)) + p3)), (.ref a1)])
  refine Goes.of (fun t => XS.isub X5.here hx rfl (hb hby d2_33) rfl) ?_
  show Goes p e below KK T5 (mkF m 34 #[.val (.ref a1), .val (.int p2), .val (.int p3)] [(.int (((((p2 - (1 : Int32)) / p3) + (1 : Int32)) + p3) - (3 : Int32))), (.ref a1)])
  refine Goes.of (fun t => XS.iloadN X5.here hx rfl (hb hby d2_34) rfl) ?_
  show Goes p e below KK T5 (mkF m 35 #[.val (.ref a1), .val (.int p2), .val (.int p3)] [(.int p3), (.int (((((p2 - (1 : Int32)) / p3) + (1 : Int32)) + p3) - (3 : Int32))), (.ref a1)])
  refine Goes.of (fun t => XS.iconst X5.here hx rfl (hb hby d2_35)) ?_
  show Goes p e below KK T5 (mkF m 36 #[.val (.ref a1), .val (.int p2), .val (.int p3)] [(.int (1 : Int32)), (.int p3), (.int (((((p2 - (1 : Int32)) / p3) + (1 : Int32)) + p3) - (3 : Int32))), (.ref a1)])
  refine Goes.of (fun t => XS.isub X5.here hx rfl (hb hby d2_36) rfl) ?_
  show Goes p e below KK T5 (mkF m 37 #[.val (.ref a1), .val (.int p2), .val (.int p3)] [(.int (p3 - (1 : Int32))), (.int (((((p2 - (1 : Int32)) / p3) + (1 : Int32)) + p3) - (3 : Int32))), (.ref a1)])
  refine Goes.of (fun t => XS.idiv X5.here hx rfl (hb hby d2_37) rfl nz2) ?_
  show Goes p e below KK T5 (mkF m 38 #[.val (.ref a1), .val (.int p2), .val (.int p3)] [(.int ((((((p2 - (1 : Int32)) / p3) + (1 : Int32)) + p3) - (3 : Int32)) / (p3 - (1 : Int32)))), (.ref a1)])
  obtain ⟨T6, h6, X6, e6, W6, st6⟩ := putF X5 hx hZ hown (host := "") (Or.inl w_20) Via.refl e5 F_innerCount_a1_2_3_4 E_a1_2_3_4 (Or.inr ⟨w_21, rfl, hnm⟩) w_6 (ty := .int) (by decide) rfl rfl (g := (mkF m 38 #[.val (.ref a1), .val (.int p2), .val (.int p3)] [(.int ((((((p2 - (1 : Int32)) / p3) + (1 : Int32)) + p3) - (3 : Int32)) / (p3 - (1 : Int32)))), (.ref a1)])) rfl rfl (hb hby d2_38)
  refine Goes.of (st6) ?_
  have E_a1_2_3_4_6 : Exa Z h6 a1 "com/example/coalesce/coalesce/combining/TreeShape" := E_a1_2_3_4.wr W6
  have F_width_a1_2_3_4_6 : Fld Z h6 a1 "com/example/coalesce/coalesce/combining/TreeShape" "width" "I" (.int p2) := F_width_a1_2_3_4.other W6 (Or.inr (slot_ne (Or.inr w_15) (Or.inr w_21) (by decide) (t := .int) (t' := .int) (by decide) (by decide)))
  have F_arity_a1_3_4_6 : Fld Z h6 a1 "com/example/coalesce/coalesce/combining/TreeShape" "arity" "I" (.int p3) := F_arity_a1_3_4.other W6 (Or.inr (slot_ne (Or.inr w_17) (Or.inr w_21) (by decide) (t := .int) (t' := .int) (by decide) (by decide)))
  have F_leafCount_a1_4_6 : Fld Z h6 a1 "com/example/coalesce/coalesce/combining/TreeShape" "leafCount" "I" (.int (((p2 - (1 : Int32)) / p3) + (1 : Int32))) := F_leafCount_a1_4.other W6 (Or.inr (slot_ne (Or.inr w_19) (Or.inr w_21) (by decide) (t := .int) (t' := .int) (by decide) (by decide)))
  have K6 : Keep h0 h6 [a1] := K4.wr W6 (Or.inl (List.mem_of_getElem? (i := 0) rfl))
  have Z6 : n0 ≤ h6.size := Nat.le_trans Z4 (Keep.of_wr W6).1
  have N6 := Fr.snoc X6 N4 g_a1
  have F_innerCount_a1_6 : Fld Z h6 a1 "com/example/coalesce/coalesce/combining/TreeShape" "innerCount" "I" (.int ((((((p2 - (1 : Int32)) / p3) + (1 : Int32)) + p3) - (3 : Int32)) / (p3 - (1 : Int32)))) := F_innerCount_a1_2_3_4.same W6
  show Goes p e below KK T6 (mkF m 41 #[.val (.ref a1), .val (.int p2), .val (.int p3)] [])
  rw [← hKK]
  refine Goes.retVoid X6 hx hlk Bd.returns (hb hby d2_41) ?_ (by decide) (by decide)
  rw [e6]
  exact ⟨rfl, N6, K6, E_a1_2_3_4_6, F_width_a1_2_3_4_6, F_arity_a1_3_4_6, F_leafCount_a1_4_6, F_innerCount_a1_6⟩
theorem d4_0 : decode prog_12_method_2_code 0 = .ok (.aload_n 0, 1) := by decide +kernel
theorem d4_1 : decode prog_12_method_2_code 1 = .ok (.getfield 19, 3) := by decide +kernel
theorem d4_4 : decode prog_12_method_2_code 4 = .ok (.aload_n 0, 1) := by decide +kernel
theorem d4_5 : decode prog_12_method_2_code 5 = .ok (.getfield 16, 3) := by decide +kernel
theorem d4_8 : decode prog_12_method_2_code 8 = .ok (.iadd, 1) := by decide +kernel
theorem d4_9 : decode prog_12_method_2_code 9 = .ok (.ireturn, 1) := by decide +kernel
theorem pn_4 : plainFor (⟨"com/example/coalesce/coalesce/combining/TreeShape", "size", "()I"⟩ : MethodName) = true := plainFor_of_name (by first | (simp [plainName, overriddenIn]; done) | decide +kernel)
theorem ef_4 (m : MethodId) (x0 : Addr) : entryFrame m #[(.ref x0)] 1 = mkF m 0 #[.val (.ref x0)] [] := by first | (simp [entryFrame, mkF, argsToLocals, Value.category]; done) | rfl
def Q4 (Z : State) (a1 : Addr) (lc : Int32) (ic : Int32) (h0 : Heap) (n0 : Nat) (v : Option Value) (h : Heap) (L : List Loc) : Prop := v = some (.int (ic + lc)) ∧ Fr n0 L ∧ h = h0
set_option maxRecDepth 65536 in
set_option maxHeartbeats 40000000 in
theorem rm4 (l : Launch) (Z : State) (a0 : Array Value) (hw : ∀ d ∈ tables_1, d.before a0 Z = true) (ws : List Jvm.Cond) (a1 : Addr) (lc : Int32) (ic : Int32) (h0 : Heap) (n0 : Nat) (Z0 : n0 ≤ h0.size) (Fl : Fld Z h0 a1 "com/example/coalesce/coalesce/combining/TreeShape" "leafCount" "I" (.int lc)) (Fi : Fld Z h0 a1 "com/example/coalesce/coalesce/combining/TreeShape" "innerCount" "I" (.int ic)) :
    MetFree l (⟨"com/example/coalesce/coalesce/combining/TreeShape", "size", "()I"⟩ : MethodName) (head1 (Jvm.Cond.code (⟨"com/example/coalesce/coalesce/combining/TreeShape", "size", "()I"⟩ : MethodName) prog_12_method_2_code 1 (some .int) :: ws) ({ frames := 0, cells := 0, slots := 0, locals := 0 } : Room)) (fun a U => a = #[(.ref a1)] ∧ Z.Warmed39 U.vm ∧ U.heap = h0) (fun _ _ _ _ _ => True) (fun _ U o U' => ∃ v L, o = .returned v ∧ Q4 Z a1 lc ic h0 n0 v U'.heap L ∧ FrameEnd U o U' L ({ frames := 0, cells := 0, slots := 0, locals := 0 } : Room).cells ({ frames := 0, cells := 0, slots := 0, locals := 0 } : Room).slots) := by
  refine MetFree.of_bodySF pn_4 hisR ?_
  intro p e s m args below meth c s₁ Bd hml0 hP hK
  obtain ⟨rfl, hZ, hh⟩ := hP
  have hx := Bd.exec
  have hby := Bd.bytes
  have hml : c.maxLocals = 1 := hml0
  have hown : s.vm.findClass "com/example/coalesce/coalesce/combining/TreeShape" = some m.cls := findClass_of_methodNamed Bd.named
  have hnm := (name_of_methodNamed Bd.named Bd.method).1
  have hlk : meth.locks = false := BodyLoose.notSynchronized Bd
  have X0 : Stand p l e ({ frames := 0, cells := 0, slots := 0, locals := 0 } : Room) s m #[(.ref a1)] below meth c s₁ [] 0 0 := Stand.of_body Bd
  have e0 : s₁.heap = h0 := by rw [← hh, Bd.state]; rfl
  have N0 := Fr.nil n0
  show Goes p e below (OwnK s (Q4 Z a1 lc ic h0 n0) ({ frames := 0, cells := 0, slots := 0, locals := 0 } : Room).cells ({ frames := 0, cells := 0, slots := 0, locals := 0 } : Room).slots) s₁ (entryFrame m #[(.ref a1)] 1)
  refine Goes.cast (ef_4 m a1) ?_
  generalize hKK : OwnK s (Q4 Z a1 lc ic h0 n0) ({ frames := 0, cells := 0, slots := 0, locals := 0 } : Room).cells ({ frames := 0, cells := 0, slots := 0, locals := 0 } : Room).slots = KK
  show Goes p e below KK s₁ (mkF m 0 #[.val (.ref a1)] [])
  have w_18 := hw _ (List.mem_of_getElem? (i := 18) rfl)
  have w_20 := hw _ (List.mem_of_getElem? (i := 20) rfl)
  refine Goes.of (fun t => XS.aloadN X0.here hx rfl (hb hby d4_0) rfl rfl) ?_
  show Goes p e below KK s₁ (mkF m 1 #[.val (.ref a1)] [(.ref a1)])
  obtain ⟨T7, X7, e7, st7⟩ := getF X0 hx hZ hown (host := "") (Or.inl w_20) Via.refl e0 Fi (g := (mkF m 1 #[.val (.ref a1)] [(.ref a1)])) rfl rfl (hb hby d4_1)
  refine Goes.of (st7) ?_
  show Goes p e below KK T7 (mkF m 4 #[.val (.ref a1)] [(.int ic)])
  refine Goes.of (fun t => XS.aloadN X7.here hx rfl (hb hby d4_4) rfl rfl) ?_
  show Goes p e below KK T7 (mkF m 5 #[.val (.ref a1)] [(.ref a1), (.int ic)])
  obtain ⟨T8, X8, e8, st8⟩ := getF X7 hx hZ hown (host := "") (Or.inl w_18) Via.refl e7 Fl (g := (mkF m 5 #[.val (.ref a1)] [(.ref a1), (.int ic)])) rfl rfl (hb hby d4_5)
  refine Goes.of (st8) ?_
  show Goes p e below KK T8 (mkF m 8 #[.val (.ref a1)] [(.int lc), (.int ic)])
  refine Goes.of (fun t => XS.iadd X8.here hx rfl (hb hby d4_8) rfl) ?_
  show Goes p e below KK T8 (mkF m 9 #[.val (.ref a1)] [(.int (ic + lc))])
  rw [← hKK]
  refine Goes.retInt X8 hx hlk Bd.returns (hb hby d4_9) ?_ (by decide) (by decide)
  rw [e8]
  exact ⟨rfl, N0, rfl⟩
theorem d5_0 : decode prog_12_method_3_code 0 = .ok (.aload_n 0, 1) := by decide +kernel
theorem d5_1 : decode prog_12_method_3_code 1 = .ok (.getfield 19, 3) := by decide +kernel
theorem d5_4 : decode prog_12_method_3_code 4 = .ok (.ireturn, 1) := by decide +kernel
theorem pn_5 : plainFor (⟨"com/example/coalesce/coalesce/combining/TreeShape", "innerCount", "()I"⟩ : MethodName) = true := plainFor_of_name (by first | (simp [plainName, overriddenIn]; done) | decide +kernel)
theorem ef_5 (m : MethodId) (x0 : Addr) : entryFrame m #[(.ref x0)] 1 = mkF m 0 #[.val (.ref x0)] [] := by first | (simp [entryFrame, mkF, argsToLocals, Value.category]; done) | rfl
def Q5 (Z : State) (a1 : Addr) (ic : Int32) (h0 : Heap) (n0 : Nat) (v : Option Value) (h : Heap) (L : List Loc) : Prop := v = some (.int ic) ∧ Fr n0 L ∧ h = h0
set_option maxRecDepth 65536 in
set_option maxHeartbeats 40000000 in
theorem rm5 (l : Launch) (Z : State) (a0 : Array Value) (hw : ∀ d ∈ tables_1, d.before a0 Z = true) (ws : List Jvm.Cond) (a1 : Addr) (ic : Int32) (h0 : Heap) (n0 : Nat) (Z0 : n0 ≤ h0.size) (Fi : Fld Z h0 a1 "com/example/coalesce/coalesce/combining/TreeShape" "innerCount" "I" (.int ic)) :
    MetFree l (⟨"com/example/coalesce/coalesce/combining/TreeShape", "innerCount", "()I"⟩ : MethodName) (head1 (Jvm.Cond.code (⟨"com/example/coalesce/coalesce/combining/TreeShape", "innerCount", "()I"⟩ : MethodName) prog_12_method_3_code 1 (some .int) :: ws) ({ frames := 0, cells := 0, slots := 0, locals := 0 } : Room)) (fun a U => a = #[(.ref a1)] ∧ Z.Warmed39 U.vm ∧ U.heap = h0) (fun _ _ _ _ _ => True) (fun _ U o U' => ∃ v L, o = .returned v ∧ Q5 Z a1 ic h0 n0 v U'.heap L ∧ FrameEnd U o U' L ({ frames := 0, cells := 0, slots := 0, locals := 0 } : Room).cells ({ frames := 0, cells := 0, slots := 0, locals := 0 } : Room).slots) := by
  refine MetFree.of_bodySF pn_5 hisR ?_
  intro p e s m args below meth c s₁ Bd hml0 hP hK
  obtain ⟨rfl, hZ, hh⟩ := hP
  have hx := Bd.exec
  have hby := Bd.bytes
  have hml : c.maxLocals = 1 := hml0
  have hown : s.vm.findClass "com/example/coalesce/coalesce/combining/TreeShape" = some m.cls := findClass_of_methodNamed Bd.named
  have hnm := (name_of_methodNamed Bd.named Bd.method).1
  have hlk : meth.locks = false := BodyLoose.notSynchronized Bd
  have X0 : Stand p l e ({ frames := 0, cells := 0, slots := 0, locals := 0 } : Room) s m #[(.ref a1)] below meth c s₁ [] 0 0 := Stand.of_body Bd
  have e0 : s₁.heap = h0 := by rw [← hh, Bd.state]; rfl
  have N0 := Fr.nil n0
  show Goes p e below (OwnK s (Q5 Z a1 ic h0 n0) ({ frames := 0, cells := 0, slots := 0, locals := 0 } : Room).cells ({ frames := 0, cells := 0, slots := 0, locals := 0 } : Room).slots) s₁ (entryFrame m #[(.ref a1)] 1)
  refine Goes.cast (ef_5 m a1) ?_
  generalize hKK : OwnK s (Q5 Z a1 ic h0 n0) ({ frames := 0, cells := 0, slots := 0, locals := 0 } : Room).cells ({ frames := 0, cells := 0, slots := 0, locals := 0 } : Room).slots = KK
  show Goes p e below KK s₁ (mkF m 0 #[.val (.ref a1)] [])
  have w_20 := hw _ (List.mem_of_getElem? (i := 20) rfl)
  refine Goes.of (fun t => XS.aloadN X0.here hx rfl (hb hby d5_0) rfl rfl) ?_
  show Goes p e below KK s₁ (mkF m 1 #[.val (.ref a1)] [(.ref a1)])
  obtain ⟨T9, X9, e9, st9⟩ := getF X0 hx hZ hown (host := "") (Or.inl w_20) Via.refl e0 Fi (g := (mkF m 1 #[.val (.ref a1)] [(.ref a1)])) rfl rfl (hb hby d5_1)
  refine Goes.of (st9) ?_
  show Goes p e below KK T9 (mkF m 4 #[.val (.ref a1)] [(.int ic)])
  rw [← hKK]
  refine Goes.retInt X9 hx hlk Bd.returns (hb hby d5_4) ?_ (by decide) (by decide)
  rw [e9]
  exact ⟨rfl, N0, rfl⟩
def f6 (p2 wd ar lc ic : Int32) : Int32 := if p2 < ic then f7 ar (((ic + lc) - 1) - (p2 * ar)) else f7 ar (wd - ((p2 - ic) * ar))
theorem d6_0 : decode prog_12_method_6_code 0 = .ok (.iload_n 1, 1) := by decide +kernel
theorem d6_1 : decode prog_12_method_6_code 1 = .ok (.aload_n 0, 1) := by decide +kernel
theorem d6_2 : decode prog_12_method_6_code 2 = .ok (.getfield 19, 3) := by decide +kernel
theorem d6_5 : decode prog_12_method_6_code 5 = .ok (.if_icmp .ge 24, 3) := by decide +kernel
theorem d6_8 : decode prog_12_method_6_code 8 = .ok (.aload_n 0, 1) := by decide +kernel
theorem d6_9 : decode prog_12_method_6_code 9 = .ok (.getfield 13, 3) := by decide +kernel
theorem d6_12 : decode prog_12_method_6_code 12 = .ok (.aload_n 0, 1) := by decide +kernel
theorem d6_13 : decode prog_12_method_6_code 13 = .ok (.invokevirtual 22, 3) := by decide +kernel
theorem d6_16 : decode prog_12_method_6_code 16 = .ok (.iconst 1, 1) := by decide +kernel
theorem d6_17 : decode prog_12_method_6_code 17 = .ok (.isub, 1) := by decide +kernel
theorem d6_18 : decode prog_12_method_6_code 18 = .ok (.iload_n 1, 1) := by decide +kernel
theorem d6_19 : decode prog_12_method_6_code 19 = .ok (.aload_n 0, 1) := by decide +kernel
theorem d6_20 : decode prog_12_method_6_code 20 = .ok (.getfield 13, 3) := by decide +kernel
theorem d6_23 : decode prog_12_method_6_code 23 = .ok (.imul, 1) := by decide +kernel
theorem d6_24 : decode prog_12_method_6_code 24 = .ok (.isub, 1) := by decide +kernel
theorem d6_25 : decode prog_12_method_6_code 25 = .ok (.invokestatic 26, 3) := by decide +kernel
theorem d6_28 : decode prog_12_method_6_code 28 = .ok (.ireturn, 1) := by decide +kernel
theorem d6_29 : decode prog_12_method_6_code 29 = .ok (.aload_n 0, 1) := by decide +kernel
theorem d6_30 : decode prog_12_method_6_code 30 = .ok (.getfield 13, 3) := by decide +kernel
theorem d6_33 : decode prog_12_method_6_code 33 = .ok (.aload_n 0, 1) := by decide +kernel
theorem d6_34 : decode prog_12_method_6_code 34 = .ok (.getfield 7, 3) := by decide +kernel
theorem d6_37 : decode prog_12_method_6_code 37 = .ok (.iload_n 1, 1) := by decide +kernel
theorem d6_38 : decode prog_12_method_6_code 38 = .ok (.aload_n 0, 1) := by decide +kernel
theorem d6_39 : decode prog_12_method_6_code 39 = .ok (.getfield 19, 3) := by decide +kernel
theorem d6_42 : decode prog_12_method_6_code 42 = .ok (.isub, 1) := by decide +kernel
theorem d6_43 : decode prog_12_method_6_code 43 = .ok (.aload_n 0, 1) := by decide +kernel
theorem d6_44 : decode prog_12_method_6_code 44 = .ok (.getfield 13, 3) := by decide +kernel
theorem d6_47 : decode prog_12_method_6_code 47 = .ok (.imul, 1) := by decide +kernel
theorem d6_48 : decode prog_12_method_6_code 48 = .ok (.isub, 1) := by decide +kernel
theorem d6_49 : decode prog_12_method_6_code 49 = .ok (.invokestatic 26, 3) := by decide +kernel
theorem d6_52 : decode prog_12_method_6_code 52 = .ok (.ireturn, 1) := by decide +kernel
theorem pn_6 : plainFor (⟨"com/example/coalesce/coalesce/combining/TreeShape", "fanIn", "(I)I"⟩ : MethodName) = true := plainFor_of_name (by first | (simp [plainName, overriddenIn]; done) | decide +kernel)
theorem pd_7 : parseMethodDescriptor "()I" = some ⟨[], some .int⟩ := by decide +kernel
theorem pd_8 : parseMethodDescriptor "(II)I" = some ⟨[.int, .int], some .int⟩ := by decide +kernel
theorem ef_6 (m : MethodId) (x0 : Addr) (x1 : Int32) : entryFrame m #[(.ref x0), (.int x1)] 2 = mkF m 0 #[.val (.ref x0), .val (.int x1)] [] := by first | (simp [entryFrame, mkF, argsToLocals, Value.category]; done) | rfl
def Q6 (Z : State) (a1 : Addr) (p2 : Int32) (wd : Int32) (ar : Int32) (lc : Int32) (ic : Int32) (h0 : Heap) (n0 : Nat) (v : Option Value) (h : Heap) (L : List Loc) : Prop := v = some (.int (f6 p2 wd ar lc ic)) ∧ Fr n0 L ∧ h = h0
set_option maxRecDepth 65536 in
set_option maxHeartbeats 40000000 in
theorem rm6 (l : Launch) (Z : State) (a0 : Array Value) (hw : ∀ d ∈ tables_1, d.before a0 Z = true) (ws : List Jvm.Cond) (a1 : Addr) (p2 : Int32) (wd : Int32) (ar : Int32) (lc : Int32) (ic : Int32) (h0 : Heap) (n0 : Nat) (Z0 : n0 ≤ h0.size) (E_a1 : Exa Z h0 a1 "com/example/coalesce/coalesce/combining/TreeShape") (F_width_a1 : Fld Z h0 a1 "com/example/coalesce/coalesce/combining/TreeShape" "width" "I" (.int wd)) (F_arity_a1 : Fld Z h0 a1 "com/example/coalesce/coalesce/combining/TreeShape" "arity" "I" (.int ar)) (F_leafCount_a1 : Fld Z h0 a1 "com/example/coalesce/coalesce/combining/TreeShape" "leafCount" "I" (.int lc)) (F_innerCount_a1 : Fld Z h0 a1 "com/example/coalesce/coalesce/combining/TreeShape" "innerCount" "I" (.int ic)) :
    MetFree l (⟨"com/example/coalesce/coalesce/combining/TreeShape", "fanIn", "(I)I"⟩ : MethodName) (head1 (Jvm.Cond.code (⟨"com/example/coalesce/coalesce/combining/TreeShape", "fanIn", "(I)I"⟩ : MethodName) prog_12_method_6_code 2 (some .int) :: ws) ({ frames := 1, cells := 0, slots := 0, locals := 13 } : Room)) (fun a U => a = #[(.ref a1), (.int p2)] ∧ Z.Warmed39 U.vm ∧ U.heap = h0) (fun _ _ _ _ _ => True) (fun _ U o U' => ∃ v L, o = .returned v ∧ Q6 Z a1 p2 wd ar lc ic h0 n0 v U'.heap L ∧ FrameEnd U o U' L ({ frames := 1, cells := 0, slots := 0, locals := 13 } : Room).cells ({ frames := 1, cells := 0, slots := 0, locals := 13 } : Room).slots) := by
  refine MetFree.of_bodySF pn_6 hisR ?_
  intro p e s m args below meth c s₁ Bd hml0 hP hK
  obtain ⟨rfl, hZ, hh⟩ := hP
  have hx := Bd.exec
  have hby := Bd.bytes
  have hml : c.maxLocals = 2 := hml0
  have hown : s.vm.findClass "com/example/coalesce/coalesce/combining/TreeShape" = some m.cls := findClass_of_methodNamed Bd.named
  have hnm := (name_of_methodNamed Bd.named Bd.method).1
  have hlk : meth.locks = false := BodyLoose.notSynchronized Bd
  have X0 : Stand p l e ({ frames := 1, cells := 0, slots := 0, locals := 13 } : Room) s m #[(.ref a1), (.int p2)] below meth c s₁ [] 0 0 := Stand.of_body Bd
  have e0 : s₁.heap = h0 := by rw [← hh, Bd.state]; rfl
  have N0 := Fr.nil n0
  show Goes p e below (OwnK s (Q6 Z a1 p2 wd ar lc ic h0 n0) ({ frames := 1, cells := 0, slots := 0, locals := 13 } : Room).cells ({ frames := 1, cells := 0, slots := 0, locals := 13 } : Room).slots) s₁ (entryFrame m #[(.ref a1), (.int p2)] 2)
  refine Goes.cast (ef_6 m a1 p2) ?_
  generalize hKK : OwnK s (Q6 Z a1 p2 wd ar lc ic h0 n0) ({ frames := 1, cells := 0, slots := 0, locals := 13 } : Room).cells ({ frames := 1, cells := 0, slots := 0, locals := 13 } : Room).slots = KK
  show Goes p e below KK s₁ (mkF m 0 #[.val (.ref a1), .val (.int p2)] [])
  have w_3 := hw _ (List.mem_of_getElem? (i := 3) rfl)
  have w_7 := hw _ (List.mem_of_getElem? (i := 7) rfl)
  have w_14 := hw _ (List.mem_of_getElem? (i := 14) rfl)
  have w_16 := hw _ (List.mem_of_getElem? (i := 16) rfl)
  have w_20 := hw _ (List.mem_of_getElem? (i := 20) rfl)
  have w_23 := hw _ (List.mem_of_getElem? (i := 23) rfl)
  have w_24 := hw _ (List.mem_of_getElem? (i := 24) rfl)
  have w_25 := hw _ (List.mem_of_getElem? (i := 25) rfl)
  have w_26 := hw _ (List.mem_of_getElem? (i := 26) rfl)
  have w_37 := hw _ (List.mem_of_getElem? (i := 37) rfl)
  have w_38 := hw _ (List.mem_of_getElem? (i := 38) rfl)
  have w_39 := hw _ (List.mem_of_getElem? (i := 39) rfl)
  have w_40 := hw _ (List.mem_of_getElem? (i := 40) rfl)
  refine Goes.of (fun t => XS.iloadN X0.here hx rfl (hb hby d6_0) rfl) ?_
  show Goes p e below KK s₁ (mkF m 1 #[.val (.ref a1), .val (.int p2)] [(.int p2)])
  refine Goes.of (fun t => XS.aloadN X0.here hx rfl (hb hby d6_1) rfl rfl) ?_
  show Goes p e below KK s₁ (mkF m 2 #[.val (.ref a1), .val (.int p2)] [(.ref a1), (.int p2)])
  obtain ⟨T10, X10, e10, st10⟩ := getF X0 hx hZ hown (host := "") (Or.inl w_20) Via.refl e0 F_innerCount_a1 (g := (mkF m 2 #[.val (.ref a1), .val (.int p2)] [(.ref a1), (.int p2)])) rfl rfl (hb hby d6_2)
  refine Goes.of (st10) ?_
  show Goes p e below KK T10 (mkF m 5 #[.val (.ref a1), .val (.int p2)] [(.int ic), (.int p2)])
  by_cases hc5 : p2 < ic
  · refine Goes.of (fun t => XS.icmpNo X10.here hx rfl (hb hby d6_5) rfl (tlt hc5).2.1) ?_
    show Goes p e below KK T10 (mkF m 8 #[.val (.ref a1), .val (.int p2)] [])
    refine Goes.of (fun t => XS.aloadN X10.here hx rfl (hb hby d6_8) rfl rfl) ?_
    show Goes p e below KK T10 (mkF m 9 #[.val (.ref a1), .val (.int p2)] [(.ref a1)])
    obtain ⟨T11, X11, e11, st11⟩ := getF X10 hx hZ hown (host := "") (Or.inl w_16) Via.refl e10 F_arity_a1 (g := (mkF m 9 #[.val (.ref a1), .val (.int p2)] [(.ref a1)])) rfl rfl (hb hby d6_9)
    refine Goes.of (st11) ?_
    show Goes p e below KK T11 (mkF m 12 #[.val (.ref a1), .val (.int p2)] [(.int ar)])
    refine Goes.of (fun t => XS.aloadN X11.here hx rfl (hb hby d6_12) rfl rfl) ?_
    show Goes p e below KK T11 (mkF m 13 #[.val (.ref a1), .val (.int p2)] [(.ref a1), (.int ar)])
    obtain ⟨cq12, kq12, q12a, q12b, q12c⟩ := isOf hZ e11 E_a1
    obtain ⟨_, _, ⟨T12, L12, k12, n12⟩, -, X12, ⟨Lc12, hQ12, l12, y12, z12⟩, st12⟩ := X11.virtualBack hx (y := (⟨"com/example/coalesce/coalesce/combining/TreeShape", "size", "()I"⟩ : MethodName)) (z := (⟨"com/example/coalesce/coalesce/combining/TreeShape", "size", "()I"⟩ : MethodName)) hown (mvT hZ w_40) (mvT hZ w_23) (notFace_of_selects (args := #[]) (mvT hZ w_25)) (mvT hZ w_25) (mvT hZ w_24) (by decide) (backOf (W := 1) (rm4 l Z a0 hw [] a1 lc ic h0 n0 Z0 F_leafCount_a1 F_innerCount_a1) hZ w_26 w_7 (by decide) (by decide)) q12a q12c (g := (mkF m 13 #[.val (.ref a1), .val (.int p2)] [(.ref a1), (.int ar)])) rfl (by rw [hml]; rfl) (Steps.refl _) (argsL := []) (rest := [(.int ar)]) (lenOf pd_7 rfl) rfl (by show 2 * 0 + _ ≤ _; exact Nat.le_of_eq rfl) (hb hby d6_13) (fun _ _ => ⟨rfl, e11, (by decide : 0 + 0 ≤ _), (by decide : 0 + 0 ≤ _)⟩)
    dsimp only [Pt.U, Pt.locs, Pt.cells, Pt.slots] at X12 l12 y12 z12 st12 hQ12
    subst l12 y12 z12
    obtain ⟨rfl, N12q, e12⟩ := hQ12
    have N12 := Fr.app N0 N12q
    refine Goes.tr st12 ?_
    show Goes p e below KK T12 (mkF m 16 #[.val (.ref a1), .val (.int p2)] [(.int (ic + lc)), (.int ar)])
    refine Goes.of (fun t => XS.iconst X12.here hx rfl (hb hby d6_16)) ?_
    show Goes p e below KK T12 (mkF m 17 #[.val (.ref a1), .val (.int p2)] [(.int (1 : Int32)), (.int (ic + lc)), (.int ar)])
    refine Goes.of (fun t => XS.isub X12.here hx rfl (hb hby d6_17) rfl) ?_
    show Goes p e below KK T12 (mkF m 18 #[.val (.ref a1), .val (.int p2)] [(.int ((ic + lc) - (1 : Int32))), (.int ar)])
    refine Goes.of (fun t => XS.iloadN X12.here hx rfl (hb hby d6_18) rfl) ?_
    show Goes p e below KK T12 (mkF m 19 #[.val (.ref a1), .val (.int p2)] [(.int p2), (.int ((ic + lc) - (1 : Int32))), (.int ar)])
    refine Goes.of (fun t => XS.aloadN X12.here hx rfl (hb hby d6_19) rfl rfl) ?_
    show Goes p e below KK T12 (mkF m 20 #[.val (.ref a1), .val (.int p2)] [(.ref a1), (.int p2), (.int ((ic + lc) - (1 : Int32))), (.int ar)])
    obtain ⟨T13, X13, e13, st13⟩ := getF X12 hx hZ hown (host := "") (Or.inl w_16) Via.refl e12 F_arity_a1 (g := (mkF m 20 #[.val (.ref a1), .val (.int p2)] [(.ref a1), (.int p2), (.int ((ic + lc) - (1 : Int32))), (.int ar)])) rfl rfl (hb hby d6_20)
    refine Goes.of (st13) ?_
    show Goes p e below KK T13 (mkF m 23 #[.val (.ref a1), .val (.int p2)] [(.int ar), (.int p2), (.int ((ic + lc) - (1 : Int32))), (.int ar)])
    refine Goes.of (fun t => XS.imul X13.here hx rfl (hb hby d6_23) rfl) ?_
    show Goes p e below KK T13 (mkF m 24 #[.val (.ref a1), .val (.int p2)] [(.int (p2 * ar)), (.int ((ic + lc) - (1 : Int32))), (.int ar)])
    refine Goes.of (fun t => XS.isub X13.here hx rfl (hb hby d6_24) rfl) ?_
    show Goes p e below KK T13 (mkF m 25 #[.val (.ref a1), .val (.int p2)] [(.int (((ic + lc) - (1 : Int32)) - (p2 * ar))), (.int ar)])
    obtain ⟨_, _, ⟨T14, L14, k14, n14⟩, -, X14, ⟨Lc14, hQ14, l14, y14, z14⟩, st14⟩ := Jvm.LawKit.callS X13 hx (y := (⟨"java/lang/Math", "min", "(II)I"⟩ : MethodName)) hown (mvT hZ w_37) (mvT hZ w_38) (mvT hZ w_3) (mvT hZ w_39) (by decide) (backOf (W := 0) (rm7 l Z a0 hw [] ar (((ic + lc) - (1 : Int32)) - (p2 * ar))  h0 n0 Z0 ) hZ w_39 w_3 (by decide) (by decide)) (g := (mkF m 25 #[.val (.ref a1), .val (.int p2)] [(.int (((ic + lc) - (1 : Int32)) - (p2 * ar))), (.int ar)])) rfl (by rw [hml]; rfl) (argsL := [(.int ar), (.int (((ic + lc) - (1 : Int32)) - (p2 * ar)))]) (rest := []) (lenOf pd_8 rfl) rfl (by show 2 * 0 + _ ≤ _; exact Nat.le_of_eq rfl) (hb hby d6_25) (fun _ _ => ⟨rfl, e13, (by decide : 0 + 0 ≤ _), (by decide : 0 + 0 ≤ _)⟩)
    dsimp only [Pt.U, Pt.locs, Pt.cells, Pt.slots] at X14 l14 y14 z14 st14 hQ14
    subst l14 y14 z14
    obtain ⟨rfl, N14q, e14⟩ := hQ14
    have N14 := Fr.app N12 N14q
    refine Goes.of st14 ?_
    show Goes p e below KK T14 (mkF m 28 #[.val (.ref a1), .val (.int p2)] [(.int (f7 ar (((ic + lc) - (1 : Int32)) - (p2 * ar))))])
    rw [← hKK]
    refine Goes.retInt X14 hx hlk Bd.returns (hb hby d6_28) ?_ (by decide) (by decide)
    rw [e14]
    exact ⟨by unfold f6; rw [if_pos hc5], N14, rfl⟩
  · refine Goes.of (fun t => XS.icmpYes X10.here hx rfl (pc0 := 5) (pc' := 29) rfl (hb hby d6_5) rfl (flt hc5).2.1 (by decide) (by decide)) ?_
    show Goes p e below KK T10 (mkF m 29 #[.val (.ref a1), .val (.int p2)] [])
    refine Goes.of (fun t => XS.aloadN X10.here hx rfl (hb hby d6_29) rfl rfl) ?_
    show Goes p e below KK T10 (mkF m 30 #[.val (.ref a1), .val (.int p2)] [(.ref a1)])
    obtain ⟨T15, X15, e15, st15⟩ := getF X10 hx hZ hown (host := "") (Or.inl w_16) Via.refl e10 F_arity_a1 (g := (mkF m 30 #[.val (.ref a1), .val (.int p2)] [(.ref a1)])) rfl rfl (hb hby d6_30)
    refine Goes.of (st15) ?_
    show Goes p e below KK T15 (mkF m 33 #[.val (.ref a1), .val (.int p2)] [(.int ar)])
    refine Goes.of (fun t => XS.aloadN X15.here hx rfl (hb hby d6_33) rfl rfl) ?_
    show Goes p e below KK T15 (mkF m 34 #[.val (.ref a1), .val (.int p2)] [(.ref a1), (.int ar)])
    obtain ⟨T16, X16, e16, st16⟩ := getF X15 hx hZ hown (host := "") (Or.inl w_14) Via.refl e15 F_width_a1 (g := (mkF m 34 #[.val (.ref a1), .val (.int p2)] [(.ref a1), (.int ar)])) rfl rfl (hb hby d6_34)
    refine Goes.of (st16) ?_
    show Goes p e below KK T16 (mkF m 37 #[.val (.ref a1), .val (.int p2)] [(.int wd), (.int ar)])
    refine Goes.of (fun t => XS.iloadN X16.here hx rfl (hb hby d6_37) rfl) ?_
    show Goes p e below KK T16 (mkF m 38 #[.val (.ref a1), .val (.int p2)] [(.int p2), (.int wd), (.int ar)])
    refine Goes.of (fun t => XS.aloadN X16.here hx rfl (hb hby d6_38) rfl rfl) ?_
    show Goes p e below KK T16 (mkF m 39 #[.val (.ref a1), .val (.int p2)] [(.ref a1), (.int p2), (.int wd), (.int ar)])
    obtain ⟨T17, X17, e17, st17⟩ := getF X16 hx hZ hown (host := "") (Or.inl w_20) Via.refl e16 F_innerCount_a1 (g := (mkF m 39 #[.val (.ref a1), .val (.int p2)] [(.ref a1), (.int p2), (.int wd), (.int ar)])) rfl rfl (hb hby d6_39)
    refine Goes.of (st17) ?_
    show Goes p e below KK T17 (mkF m 42 #[.val (.ref a1), .val (.int p2)] [(.int ic), (.int p2), (.int wd), (.int ar)])
    refine Goes.of (fun t => XS.isub X17.here hx rfl (hb hby d6_42) rfl) ?_
    show Goes p e below KK T17 (mkF m 43 #[.val (.ref a1), .val (.int p2)] [(.int (p2 - ic)), (.int wd), (.int ar)])
    refine Goes.of (fun t => XS.aloadN X17.here hx rfl (hb hby d6_43) rfl rfl) ?_
    show Goes p e below KK T17 (mkF m 44 #[.val (.ref a1), .val (.int p2)] [(.ref a1), (.int (p2 - ic)), (.int wd), (.int ar)])
    obtain ⟨T18, X18, e18, st18⟩ := getF X17 hx hZ hown (host := "") (Or.inl w_16) Via.refl e17 F_arity_a1 (g := (mkF m 44 #[.val (.ref a1), .val (.int p2)] [(.ref a1), (.int (p2 - ic)), (.int wd), (.int ar)])) rfl rfl (hb hby d6_44)
    refine Goes.of (st18) ?_
    show Goes p e below KK T18 (mkF m 47 #[.val (.ref a1), .val (.int p2)] [(.int ar), (.int (p2 - ic)), (.int wd), (.int ar)])
    refine Goes.of (fun t => XS.imul X18.here hx rfl (hb hby d6_47) rfl) ?_
    show Goes p e below KK T18 (mkF m 48 #[.val (.ref a1), .val (.int p2)] [(.int ((p2 - ic) * ar)), (.int wd), (.int ar)])
    refine Goes.of (fun t => XS.isub X18.here hx rfl (hb hby d6_48) rfl) ?_
    show Goes p e below KK T18 (mkF m 49 #[.val (.ref a1), .val (.int p2)] [(.int (wd - ((p2 - ic) * ar))), (.int ar)])
    obtain ⟨_, _, ⟨T19, L19, k19, n19⟩, -, X19, ⟨Lc19, hQ19, l19, y19, z19⟩, st19⟩ := Jvm.LawKit.callS X18 hx (y := (⟨"java/lang/Math", "min", "(II)I"⟩ : MethodName)) hown (mvT hZ w_37) (mvT hZ w_38) (mvT hZ w_3) (mvT hZ w_39) (by decide) (backOf (W := 0) (rm7 l Z a0 hw [] ar (wd - ((p2 - ic) * ar))  h0 n0 Z0 ) hZ w_39 w_3 (by decide) (by decide)) (g := (mkF m 49 #[.val (.ref a1), .val (.int p2)] [(.int (wd - ((p2 - ic) * ar))), (.int ar)])) rfl (by rw [hml]; rfl) (argsL := [(.int ar), (.int (wd - ((p2 - ic) * ar)))]) (rest := []) (lenOf pd_8 rfl) rfl (by show 2 * 0 + _ ≤ _; exact Nat.le_of_eq rfl) (hb hby d6_49) (fun _ _ => ⟨rfl, e18, (by decide : 0 + 0 ≤ _), (by decide : 0 + 0 ≤ _)⟩)
    dsimp only [Pt.U, Pt.locs, Pt.cells, Pt.slots] at X19 l19 y19 z19 st19 hQ19
    subst l19 y19 z19
    obtain ⟨rfl, N19q, e19⟩ := hQ19
    have N19 := Fr.app N0 N19q
    refine Goes.of st19 ?_
    show Goes p e below KK T19 (mkF m 52 #[.val (.ref a1), .val (.int p2)] [(.int (f7 ar (wd - ((p2 - ic) * ar))))])
    rw [← hKK]
    refine Goes.retInt X19 hx hlk Bd.returns (hb hby d6_52) ?_ (by decide) (by decide)
    rw [e19]
    exact ⟨by unfold f6; rw [if_neg hc5], N19, rfl⟩
theorem own_cgt (x y : Int64) : 0 < XT.cmpL x y ↔ y.toInt < x.toInt := by
  unfold XT.cmpL
  rw [← Int64.lt_iff_toInt_lt]
  split
  · rename_i h; exact ⟨fun _ => h, fun _ => by decide⟩
  · rename_i h
    split
    · exact ⟨fun q => absurd q (by decide), fun q => absurd q h⟩
    · exact ⟨fun q => absurd q (by decide), fun q => absurd q h⟩
theorem own_clt (x y : Int64) : XT.cmpL x y < 0 ↔ x.toInt < y.toInt := by
  unfold XT.cmpL
  split
  · rename_i h; rw [Int64.lt_iff_toInt_lt] at h; exact ⟨fun q => absurd q (by decide), fun q => by omega⟩
  · rename_i h
    rw [Int64.lt_iff_toInt_lt] at h
    split
    · rename_i h2; subst h2; exact ⟨fun q => absurd q (by decide), fun q => by omega⟩
    · rename_i h2
      have : x.toInt ≠ y.toInt := fun q => h2 (Int64.toInt_inj.mp q)
      exact ⟨fun _ => by omega, fun _ => by decide⟩
/-- the shape in plain integers -/
theorem own_plain (w a l i : Int) (hw : 1 ≤ w) (ha : 2 ≤ a) (hl : l = (w - 1) / a + 1) (hi : i = (l + a - 3) / (a - 1)) :
    1 ≤ l ∧ (l - 1) * a ≤ w - 1 ∧ 0 ≤ i ∧ (i - 1) * (a - 1) ≤ l - 2 ∧ i ≤ l - 1 ∧ l + i ≤ w := by
  have q0 : 0 ≤ (w - 1) / a := Int.ediv_nonneg (by omega) (by omega)
  have q1 : (w - 1) / a * a ≤ w - 1 := Int.ediv_mul_le _ (by omega)
  have r0 : 0 ≤ (l + a - 3) / (a - 1) := Int.ediv_nonneg (by omega) (by omega)
  have r1 : (l + a - 3) / (a - 1) * (a - 1) ≤ l + a - 3 := Int.ediv_mul_le _ (by omega)
  have e1 : l - 1 = (w - 1) / a := by omega
  rw [← e1] at q0 q1
  rw [← hi] at r0 r1
  have s1 : (i - 1) * (a - 1) ≤ l - 2 := by rw [Int.sub_mul]; omega
  have s2 : i ≤ l - 1 := by
    apply Int.not_lt.mp
    intro hc
    have m1 : l * (a - 1) ≤ i * (a - 1) := Int.mul_le_mul_of_nonneg_right (by omega) (by omega)
    have m2 : 0 ≤ (l - 1) * (a - 2) := Int.mul_nonneg (by omega) (by omega)
    have m3 : (l - 1) * (a - 2) = l * (a - 1) - l - a + 2 := by
      rw [Int.sub_mul, Int.mul_sub, Int.mul_sub, Int.mul_sub]; omega
    omega
  have s3 : (l - 1) * 2 ≤ (l - 1) * a := Int.mul_le_mul_of_nonneg_left ha q0
  refine ⟨by omega, q1, r0, s1, s2, by omega⟩
theorem own_shape (W A LC IC : Int32) (hW : 1 ≤ W.toInt) (hA : 2 ≤ A.toInt) (e1 : (W - 1) / A + 1 = LC) (e2 : (LC + A - 3) / (A - 1) = IC) :
    LC.toInt = (W.toInt - 1) / A.toInt + 1 ∧ IC.toInt = (LC.toInt + A.toInt - 3) / (A.toInt - 1) := by
  have W1 := W.toInt_lt; have A1 := A.toInt_lt
  have k1 : (1 : Int32).toInt = 1 := rfl
  have k3 : (3 : Int32).toInt = 3 := rfl
  have a1 : (W - 1).toInt = W.toInt - 1 := by rw [Jvm.Kit.i32_sub (by omega) (by omega), k1]
  have q0 : 0 ≤ (W.toInt - 1) / A.toInt := Int.ediv_nonneg (by omega) (by omega)
  have q1 : (W.toInt - 1) / A.toInt ≤ W.toInt - 1 := Int.ediv_le_self _ (by omega)
  have a2 : ((W - 1) / A).toInt = (W.toInt - 1) / A.toInt := by
    rw [Jvm.Kit.i32_div (by omega), a1, Int.tdiv_eq_ediv_of_nonneg (by omega)]
  have a3 : LC.toInt = (W.toInt - 1) / A.toInt + 1 := by rw [← e1, Jvm.Kit.i32_add (by omega) (by omega), a2, k1]
  refine ⟨a3, ?_⟩
  have q2 : (W.toInt - 1) / A.toInt * A.toInt ≤ W.toInt - 1 := Int.ediv_mul_le _ (by omega)
  have q3 : 0 ≤ ((W.toInt - 1) / A.toInt) * (A.toInt - 2) := Int.mul_nonneg q0 (by omega)
  have q4 : ((W.toInt - 1) / A.toInt) * (A.toInt - 2) = (W.toInt - 1) / A.toInt * A.toInt - (W.toInt - 1) / A.toInt * 2 := Int.mul_sub _ _ _
  have q5 : LC.toInt + A.toInt - 3 < 2 ^ 31 := by
    by_cases hz : (W.toInt - 1) / A.toInt = 0
    · omega
    · have : A.toInt ≤ W.toInt - 1 := by
        apply Int.not_lt.mp; intro hc; exact hz (Int.ediv_eq_zero_of_lt (by omega) hc)
      have m1 : 0 ≤ ((W.toInt - 1) / A.toInt - 1) * (A.toInt - 2) := Int.mul_nonneg (by omega) (by omega)
      have m2 : ((W.toInt - 1) / A.toInt - 1) * (A.toInt - 2) = ((W.toInt - 1) / A.toInt) * (A.toInt - 2) - (A.toInt - 2) := by rw [Int.sub_mul, Int.one_mul]
      omega
  have a4 : (A - 3).toInt = A.toInt - 3 := by rw [Jvm.Kit.i32_sub (by omega) (by omega), k3]
  have a5 : (LC + A - 3).toInt = LC.toInt + A.toInt - 3 := by
    rw [show LC + A - 3 = LC + (A - 3) from by rw [Int32.sub_eq_add_neg, Int32.sub_eq_add_neg, Int32.add_assoc]]
    rw [Jvm.Kit.i32_add (by omega) (by omega), a4]; omega
  have a6 : (A - 1).toInt = A.toInt - 1 := by rw [Jvm.Kit.i32_sub (by omega) (by omega), k1]
  rw [← e2, Jvm.Kit.i32_div (by omega), a5, a6, Int.tdiv_eq_ediv_of_nonneg (by omega)]
theorem own_min (x y : Int32) : (f7 x y).toInt ≤ x.toInt ∧ (f7 x y).toInt ≤ y.toInt ∧ (f7 x y = x ∨ f7 x y = y) := by
  unfold f7
  split
  · rename_i h; rw [Int32.lt_iff_toInt_lt] at h; exact ⟨by omega, by omega, Or.inr rfl⟩
  · rename_i h; rw [Int32.lt_iff_toInt_lt] at h; exact ⟨by omega, by omega, Or.inl rfl⟩
theorem own_fan (W A LC IC nd f : Int32) (hA : 2 ≤ A.toInt) (P : 1 ≤ LC.toInt ∧ (LC.toInt - 1) * A.toInt ≤ W.toInt - 1 ∧ 0 ≤ IC.toInt ∧ (IC.toInt - 1) * (A.toInt - 1) ≤ LC.toInt - 2 ∧ IC.toInt ≤ LC.toInt - 1 ∧ LC.toInt + IC.toInt ≤ W.toInt)
    (h0 : 0 ≤ nd.toInt) (h1 : nd.toInt < IC.toInt + LC.toInt) (hf : f6 nd W A LC IC = f) :
    1 ≤ f.toInt ∧ f.toInt ≤ A.toInt ∧ (nd < IC → 2 ≤ f.toInt ∧ 0 ≤ nd.toInt * A.toInt ∧ nd.toInt * A.toInt + f.toInt ≤ IC.toInt + LC.toInt - 1 ∧ (¬ f = A → IC.toInt + LC.toInt ≤ nd.toInt * A.toInt + f.toInt + 1)) ∧
      (¬ nd < IC → 0 ≤ (nd.toInt - IC.toInt) * A.toInt ∧ (nd.toInt - IC.toInt) * A.toInt + f.toInt ≤ W.toInt ∧ (¬ f = A → W.toInt ≤ (nd.toInt - IC.toInt) * A.toInt + f.toInt)) := by
  obtain ⟨p1, p2, p3, p4, p5, p6⟩ := P
  have W1 := W.toInt_lt
  have k1 : (1 : Int32).toInt = 1 := rfl
  unfold f6 at hf
  by_cases hc : nd < IC
  · rw [if_pos hc] at hf
    have hc' := hc
    rw [Int32.lt_iff_toInt_lt] at hc'
    have m1 : nd.toInt * (A.toInt - 1) ≤ (IC.toInt - 1) * (A.toInt - 1) := Int.mul_le_mul_of_nonneg_right (by omega) (by omega)
    have m2 : nd.toInt * (A.toInt - 1) = nd.toInt * A.toInt - nd.toInt := by rw [Int.mul_sub, Int.mul_one]
    have m3 : 0 ≤ nd.toInt * A.toInt := Int.mul_nonneg h0 (by omega)
    have a1 : (IC + LC).toInt = IC.toInt + LC.toInt := Jvm.Kit.i32_add (by omega) (by omega)
    have a2 : ((IC + LC) - 1).toInt = IC.toInt + LC.toInt - 1 := by rw [Jvm.Kit.i32_sub (by omega) (by omega), a1, k1]
    have a3 : (nd * A).toInt = nd.toInt * A.toInt := Jvm.Kit.i32_mul (by omega) (by omega)
    have a4 : (((IC + LC) - 1) - (nd * A)).toInt = IC.toInt + LC.toInt - 1 - nd.toInt * A.toInt := by rw [Jvm.Kit.i32_sub (by omega) (by omega), a2, a3]
    obtain ⟨n1, n2, n3⟩ := own_min A (((IC + LC) - 1) - (nd * A))
    rw [hf] at n1 n2 n3
    have n4 : 2 ≤ f.toInt := by
      rcases n3 with q | q
      · rw [q]; exact hA
      · rw [q, a4]; omega
    refine ⟨by omega, n1, fun _ => ⟨n4, m3, by omega, fun q => ?_⟩, fun q => absurd hc q⟩
    have := n3.resolve_left q
    have e := congrArg Int32.toInt this
    rw [a4] at e; omega
  · rw [if_neg hc] at hf
    have hc' := hc
    rw [Int32.lt_iff_toInt_lt] at hc'
    have a1 : (nd - IC).toInt = nd.toInt - IC.toInt := Jvm.Kit.i32_sub (by omega) (by omega)
    have m1 : (nd.toInt - IC.toInt) * A.toInt ≤ (LC.toInt - 1) * A.toInt := Int.mul_le_mul_of_nonneg_right (by omega) (by omega)
    have m3 : 0 ≤ (nd.toInt - IC.toInt) * A.toInt := Int.mul_nonneg (by omega) (by omega)
    have a3 : ((nd - IC) * A).toInt = (nd.toInt - IC.toInt) * A.toInt := by rw [Jvm.Kit.i32_mul (by rw [a1]; omega) (by rw [a1]; omega), a1]
    have a4 : (W - ((nd - IC) * A)).toInt = W.toInt - (nd.toInt - IC.toInt) * A.toInt := by rw [Jvm.Kit.i32_sub (by omega) (by omega), a3]
    obtain ⟨n1, n2, n3⟩ := own_min A (W - ((nd - IC) * A))
    rw [hf] at n1 n2 n3
    have n4 : 1 ≤ f.toInt := by
      rcases n3 with q | q
      · rw [q]; omega
      · rw [q, a4]; omega
    refine ⟨n4, n1, fun q => absurd q hc, fun _ => ⟨m3, by omega, fun q => ?_⟩⟩
    have := n3.resolve_left q
    have e := congrArg Int32.toInt this
    rw [a4] at e; omega
theorem own_max (k x : Int32) (hk : 0 ≤ k.toInt) : k.toInt ≤ (f1 k x).toInt := by
  unfold f1
  split
  · rename_i h; rw [Int32.lt_iff_toInt_lt] at h; omega
  · omega
theorem pn_0 : plainFor (⟨"com/example/coalesce/coalesce/combining/TreeShapeFanInPinLaw", "law", "(III)Z"⟩ : MethodName) = true := plainFor_of_name (by first | (simp [plainName, overriddenIn]; done) | decide +kernel)
theorem pd_10 : parseMethodDescriptor "(II)V" = some ⟨[.int, .int], none⟩ := by decide +kernel
theorem pd_11 : parseMethodDescriptor "(I)I" = some ⟨[.int], some .int⟩ := by decide +kernel
theorem ef_0 (m : MethodId) (x0 : Int32) (x1 : Int32) (x2 : Int32) : entryFrame m #[(.int x0), (.int x1), (.int x2)] maxLocals = mkF m 0 #[.val (.int x0), .val (.int x1), .val (.int x2), .unset, .unset, .unset, .unset, .unset, .unset, .unset, .unset, .unset, .unset, .unset, .unset, .unset, .unset, .unset] [] := by first | (simp [entryFrame, mkF, argsToLocals, Value.category, maxLocals]; done) | rfl
def Q0 (Z : State) (p1 : Int32) (p2 : Int32) (p3 : Int32) (h0 : Heap) (n0 : Nat) (v : Option Value) (h : Heap) (L : List Loc) : Prop := v = some (.int 1) ∧ Fr n0 L
set_option maxRecDepth 65536 in
set_option maxHeartbeats 40000000 in
theorem rm0 (l : Launch) (Z : State) (a0 : Array Value) (hw : ∀ d ∈ tables_1, d.before a0 Z = true) (ws : List Jvm.Cond) (p1 : Int32) (p2 : Int32) (p3 : Int32) (h0 : Heap) (n0 : Nat) (Z0 : n0 ≤ h0.size) :
    MetFree l x (head1 (Jvm.Cond.code x code maxLocals ret :: ws) room_1) (fun a U => a = #[(.int p1), (.int p2), (.int p3)] ∧ Z.Warmed39 U.vm ∧ U.heap = h0) (fun _ _ _ _ _ => True) (fun _ U o U' => ∃ v L, o = .returned v ∧ Q0 Z p1 p2 p3 h0 n0 v U'.heap L ∧ FrameEnd U o U' L room_1.cells room_1.slots) := by
  refine MetFree.of_bodySF pn_0 hisR ?_
  intro p e s m args below meth c s₁ Bd hml0 hP hK
  obtain ⟨rfl, hZ, hh⟩ := hP
  have hx := Bd.exec
  have hby := Bd.bytes
  have hml : c.maxLocals = 18 := hml0
  have hown : s.vm.findClass "com/example/coalesce/coalesce/combining/TreeShapeFanInPinLaw" = some m.cls := findClass_of_methodNamed Bd.named
  have hnm := (name_of_methodNamed Bd.named Bd.method).1
  have hlk : meth.locks = false := BodyLoose.notSynchronized Bd
  have X0 : Stand p l e room_1 s m #[(.int p1), (.int p2), (.int p3)] below meth c s₁ [] 0 0 := Stand.of_body Bd
  have e0 : s₁.heap = h0 := by rw [← hh, Bd.state]; rfl
  have N0 := Fr.nil n0
  show Goes p e below (OwnK s (Q0 Z p1 p2 p3 h0 n0) room_1.cells room_1.slots) s₁ (entryFrame m #[(.int p1), (.int p2), (.int p3)] maxLocals)
  refine Goes.cast (ef_0 m p1 p2 p3) ?_
  generalize hKK : OwnK s (Q0 Z p1 p2 p3 h0 n0) room_1.cells room_1.slots = KK
  show Goes p e below KK s₁ (mkF m 0 #[.val (.int p1), .val (.int p2), .val (.int p3), .unset, .unset, .unset, .unset, .unset, .unset, .unset, .unset, .unset, .unset, .unset, .unset, .unset, .unset, .unset] [])
  have w_0 := hw _ (List.mem_of_getElem? (i := 0) rfl)
  have w_1 := hw _ (List.mem_of_getElem? (i := 1) rfl)
  have w_2 := hw _ (List.mem_of_getElem? (i := 2) rfl)
  have w_3 := hw _ (List.mem_of_getElem? (i := 3) rfl)
  have w_4 := hw _ (List.mem_of_getElem? (i := 4) rfl)
  have w_5 := hw _ (List.mem_of_getElem? (i := 5) rfl)
  have w_6 := hw _ (List.mem_of_getElem? (i := 6) rfl)
  have w_7 := hw _ (List.mem_of_getElem? (i := 7) rfl)
  have w_8 := hw _ (List.mem_of_getElem? (i := 8) rfl)
  have w_9 := hw _ (List.mem_of_getElem? (i := 9) rfl)
  have w_10 := hw _ (List.mem_of_getElem? (i := 10) rfl)
  have w_15 := hw _ (List.mem_of_getElem? (i := 15) rfl)
  have w_17 := hw _ (List.mem_of_getElem? (i := 17) rfl)
  have w_19 := hw _ (List.mem_of_getElem? (i := 19) rfl)
  have w_21 := hw _ (List.mem_of_getElem? (i := 21) rfl)
  have w_22 := hw _ (List.mem_of_getElem? (i := 22) rfl)
  have w_23 := hw _ (List.mem_of_getElem? (i := 23) rfl)
  have w_24 := hw _ (List.mem_of_getElem? (i := 24) rfl)
  have w_25 := hw _ (List.mem_of_getElem? (i := 25) rfl)
  have w_26 := hw _ (List.mem_of_getElem? (i := 26) rfl)
  have w_27 := hw _ (List.mem_of_getElem? (i := 27) rfl)
  have w_28 := hw _ (List.mem_of_getElem? (i := 28) rfl)
  have w_29 := hw _ (List.mem_of_getElem? (i := 29) rfl)
  have w_30 := hw _ (List.mem_of_getElem? (i := 30) rfl)
  have w_31 := hw _ (List.mem_of_getElem? (i := 31) rfl)
  have w_32 := hw _ (List.mem_of_getElem? (i := 32) rfl)
  have w_33 := hw _ (List.mem_of_getElem? (i := 33) rfl)
  have w_34 := hw _ (List.mem_of_getElem? (i := 34) rfl)
  have w_35 := hw _ (List.mem_of_getElem? (i := 35) rfl)
  have w_36 := hw _ (List.mem_of_getElem? (i := 36) rfl)
  refine Goes.of (fun t => XS.iconst X0.here hx rfl (hb hby at_0)) ?_
  show Goes p e below KK s₁ (mkF m 1 #[.val (.int p1), .val (.int p2), .val (.int p3), .unset, .unset, .unset, .unset, .unset, .unset, .unset, .unset, .unset, .unset, .unset, .unset, .unset, .unset, .unset] [(.int (1 : Int32))])
  refine Goes.of (fun t => XS.iloadN X0.here hx rfl (hb hby at_1) rfl) ?_
  show Goes p e below KK s₁ (mkF m 2 #[.val (.int p1), .val (.int p2), .val (.int p3), .unset, .unset, .unset, .unset, .unset, .unset, .unset, .unset, .unset, .unset, .unset, .unset, .unset, .unset, .unset] [(.int p1), (.int (1 : Int32))])
  refine Goes.of (X0.ldcInt hx hown (mvT hZ w_0) (g := (mkF m 2 #[.val (.int p1), .val (.int p2), .val (.int p3), .unset, .unset, .unset, .unset, .unset, .unset, .unset, .unset, .unset, .unset, .unset, .unset, .unset, .unset, .unset] [(.int p1), (.int (1 : Int32))])) rfl (hb hby at_2)) ?_
  show Goes p e below KK s₁ (mkF m 4 #[.val (.int p1), .val (.int p2), .val (.int p3), .unset, .unset, .unset, .unset, .unset, .unset, .unset, .unset, .unset, .unset, .unset, .unset, .unset, .unset, .unset] [(.int (2147483647 : Int32)), (.int p1), (.int (1 : Int32))])
  refine Goes.of (fun t => XS.iand X0.here hx rfl (hb hby at_4) rfl) ?_
  show Goes p e below KK s₁ (mkF m 5 #[.val (.int p1), .val (.int p2), .val (.int p3), .unset, .unset, .unset, .unset, .unset, .unset, .unset, .unset, .unset, .unset, .unset, .unset, .unset, .unset, .unset] [(.int (p1 &&& (2147483647 : Int32))), (.int (1 : Int32))])
  obtain ⟨_, _, ⟨T20, L20, k20, n20⟩, -, X20, ⟨Lc20, hQ20, l20, y20, z20⟩, st20⟩ := Jvm.LawKit.callS X0 hx (y := (⟨"java/lang/Math", "max", "(II)I"⟩ : MethodName)) hown (mvT hZ w_1) (mvT hZ w_2) (mvT hZ w_3) (mvT hZ w_4) (by decide) (backOf (W := 0) (rm1 l Z a0 hw [] (1 : Int32) (p1 &&& (2147483647 : Int32))  h0 n0 Z0 ) hZ w_4 w_3 (by decide) (by decide)) (g := (mkF m 5 #[.val (.int p1), .val (.int p2), .val (.int p3), .unset, .unset, .unset, .unset, .unset, .unset, .unset, .unset, .unset, .unset, .unset, .unset, .unset, .unset, .unset] [(.int (p1 &&& (2147483647 : Int32))), (.int (1 : Int32))])) rfl (by rw [hml]; rfl) (argsL := [(.int (1 : Int32)), (.int (p1 &&& (2147483647 : Int32)))]) (rest := []) (lenOf pd_8 rfl) rfl (by show 2 * 0 + _ ≤ _; exact Nat.le_of_eq rfl) (hb hby at_5) (fun _ _ => ⟨rfl, e0, (by decide : 0 + 0 ≤ _), (by decide : 0 + 0 ≤ _)⟩)
  dsimp only [Pt.U, Pt.locs, Pt.cells, Pt.slots] at X20 l20 y20 z20 st20 hQ20
  subst l20 y20 z20
  obtain ⟨rfl, N20q, e20⟩ := hQ20
  have N20 := Fr.app N0 N20q
  refine Goes.of st20 ?_
  show Goes p e below KK T20 (mkF m 8 #[.val (.int p1), .val (.int p2), .val (.int p3), .unset, .unset, .unset, .unset, .unset, .unset, .unset, .unset, .unset, .unset, .unset, .unset, .unset, .unset, .unset] [(.int (f1 (1 : Int32) (p1 &&& (2147483647 : Int32))))])
  generalize e_W : (f1 (1 : Int32) (p1 &&& (2147483647 : Int32))) = W
  show Goes p e below KK T20 (mkF m 8 #[.val (.int p1), .val (.int p2), .val (.int p3), .unset, .unset, .unset, .unset, .unset, .unset, .unset, .unset, .unset, .unset, .unset, .unset, .unset, .unset, .unset] [(.int W)])
  have hW : 1 ≤ W.toInt := by rw [← e_W]; exact own_max 1 _ (by decide)
  have hW2 := W.toInt_lt
  show Goes p e below KK T20 (mkF m 8 #[.val (.int p1), .val (.int p2), .val (.int p3), .unset, .unset, .unset, .unset, .unset, .unset, .unset, .unset, .unset, .unset, .unset, .unset, .unset, .unset, .unset] [(.int W)])
  refine Goes.of (fun t => XS.istoreN X20.here hx rfl (hb hby at_8) rfl (l' := #[.val (.int p1), .val (.int p2), .val (.int p3), .val (.int W), .unset, .unset, .unset, .unset, .unset, .unset, .unset, .unset, .unset, .unset, .unset, .unset, .unset, .unset]) rfl) ?_
  show Goes p e below KK T20 (mkF m 9 #[.val (.int p1), .val (.int p2), .val (.int p3), .val (.int W), .unset, .unset, .unset, .unset, .unset, .unset, .unset, .unset, .unset, .unset, .unset, .unset, .unset, .unset] [])
  refine Goes.of (fun t => XS.iconst X20.here hx rfl (hb hby at_9)) ?_
  show Goes p e below KK T20 (mkF m 10 #[.val (.int p1), .val (.int p2), .val (.int p3), .val (.int W), .unset, .unset, .unset, .unset, .unset, .unset, .unset, .unset, .unset, .unset, .unset, .unset, .unset, .unset] [(.int (2 : Int32))])
  refine Goes.of (fun t => XS.iloadN X20.here hx rfl (hb hby at_10) rfl) ?_
  show Goes p e below KK T20 (mkF m 11 #[.val (.int p1), .val (.int p2), .val (.int p3), .val (.int W), .unset, .unset, .unset, .unset, .unset, .unset, .unset, .unset, .unset, .unset, .unset, .unset, .unset, .unset] [(.int p2), (.int (2 : Int32))])
  refine Goes.of (X20.ldcInt hx hown (mvT hZ w_0) (g := (mkF m 11 #[.val (.int p1), .val (.int p2), .val (.int p3), .val (.int W), .unset, .unset, .unset, .unset, .unset, .unset, .unset, .unset, .unset, .unset, .unset, .unset, .unset, .unset] [(.int p2), (.int (2 : Int32))])) rfl (hb hby at_11)) ?_
  show Goes p e below KK T20 (mkF m 13 #[.val (.int p1), .val (.int p2), .val (.int p3), .val (.int W), .unset, .unset, .unset, .unset, .unset, .unset, .unset, .unset, .unset, .unset, .unset, .unset, .unset, .unset] [(.int (2147483647 : Int32)), (.int p2), (.int (2 : Int32))])
  refine Goes.of (fun t => XS.iand X20.here hx rfl (hb hby at_13) rfl) ?_
  show Goes p e below KK T20 (mkF m 14 #[.val (.int p1), .val (.int p2), .val (.int p3), .val (.int W), .unset, .unset, .unset, .unset, .unset, .unset, .unset, .unset, .unset, .unset, .unset, .unset, .unset, .unset] [(.int (p2 &&& (2147483647 : Int32))), (.int (2 : Int32))])
  obtain ⟨_, _, ⟨T21, L21, k21, n21⟩, -, X21, ⟨Lc21, hQ21, l21, y21, z21⟩, st21⟩ := Jvm.LawKit.callS X20 hx (y := (⟨"java/lang/Math", "max", "(II)I"⟩ : MethodName)) hown (mvT hZ w_1) (mvT hZ w_2) (mvT hZ w_3) (mvT hZ w_4) (by decide) (backOf (W := 0) (rm1 l Z a0 hw [] (2 : Int32) (p2 &&& (2147483647 : Int32))  h0 n0 Z0 ) hZ w_4 w_3 (by decide) (by decide)) (g := (mkF m 14 #[.val (.int p1), .val (.int p2), .val (.int p3), .val (.int W), .unset, .unset, .unset, .unset, .unset, .unset, .unset, .unset, .unset, .unset, .unset, .unset, .unset, .unset] [(.int (p2 &&& (2147483647 : Int32))), (.int (2 : Int32))])) rfl (by rw [hml]; rfl) (argsL := [(.int (2 : Int32)), (.int (p2 &&& (2147483647 : Int32)))]) (rest := []) (lenOf pd_8 rfl) rfl (by show 2 * 0 + _ ≤ _; exact Nat.le_of_eq rfl) (hb hby at_14) (fun _ _ => ⟨rfl, e20, (by decide : 0 + 0 ≤ _), (by decide : 0 + 0 ≤ _)⟩)
  dsimp only [Pt.U, Pt.locs, Pt.cells, Pt.slots] at X21 l21 y21 z21 st21 hQ21
  subst l21 y21 z21
  obtain ⟨rfl, N21q, e21⟩ := hQ21
  have N21 := Fr.app N20 N21q
  refine Goes.of st21 ?_
  show Goes p e below KK T21 (mkF m 17 #[.val (.int p1), .val (.int p2), .val (.int p3), .val (.int W), .unset, .unset, .unset, .unset, .unset, .unset, .unset, .unset, .unset, .unset, .unset, .unset, .unset, .unset] [(.int (f1 (2 : Int32) (p2 &&& (2147483647 : Int32))))])
  generalize e_A : (f1 (2 : Int32) (p2 &&& (2147483647 : Int32))) = A
  show Goes p e below KK T21 (mkF m 17 #[.val (.int p1), .val (.int p2), .val (.int p3), .val (.int W), .unset, .unset, .unset, .unset, .unset, .unset, .unset, .unset, .unset, .unset, .unset, .unset, .unset, .unset] [(.int A)])
  have hA : 2 ≤ A.toInt := by rw [← e_A]; exact own_max 2 _ (by decide)
  have hA2 := A.toInt_lt
  have hnz1 : ¬ A = 0 := fun q => by rw [q] at hA; exact absurd hA (by decide)
  have hA1 : (A - 1).toInt = A.toInt - 1 := by rw [Jvm.Kit.i32_sub (by show -2 ^ 31 ≤ A.toInt - 1; omega) (by show A.toInt - 1 < 2 ^ 31; omega)]; rfl
  have hnz2 : ¬ (A - 1) = 0 := fun q => by rw [q] at hA1; have z : (0 : Int32).toInt = 0 := rfl; omega
  show Goes p e below KK T21 (mkF m 17 #[.val (.int p1), .val (.int p2), .val (.int p3), .val (.int W), .unset, .unset, .unset, .unset, .unset, .unset, .unset, .unset, .unset, .unset, .unset, .unset, .unset, .unset] [(.int A)])
  refine Goes.of (fun t => XS.istore X21.here hx rfl (hb hby at_17) rfl (l' := #[.val (.int p1), .val (.int p2), .val (.int p3), .val (.int W), .val (.int A), .unset, .unset, .unset, .unset, .unset, .unset, .unset, .unset, .unset, .unset, .unset, .unset, .unset]) rfl) ?_
  show Goes p e below KK T21 (mkF m 19 #[.val (.int p1), .val (.int p2), .val (.int p3), .val (.int W), .val (.int A), .unset, .unset, .unset, .unset, .unset, .unset, .unset, .unset, .unset, .unset, .unset, .unset, .unset] [])
  obtain ⟨T22, h22, X22, e22, E22, A22, D22, -, st22⟩ := newO X21 hx hZ hown w_5 w_6 w_7 e21 (g := (mkF m 19 #[.val (.int p1), .val (.int p2), .val (.int p3), .val (.int W), .val (.int A), .unset, .unset, .unset, .unset, .unset, .unset, .unset, .unset, .unset, .unset, .unset, .unset, .unset] [])) rfl (hb hby at_19) (by decide) (by decide)
  obtain ⟨b22, g22⟩ : ∃ z, z = h0.size := ⟨_, rfl⟩
  rw [← g22] at A22 D22 st22
  refine Goes.of (st22) ?_
  have g_b22 : n0 ≤ b22 := Nat.le_trans Z0 (Nat.le_of_eq g22.symm)
  have sz_b22 : h0.size ≤ b22 := Nat.le_trans (Keep.refl h0 []).1 (Nat.le_of_eq g22.symm)
  have K22 : Keep h0 h22 [] := (Keep.refl h0 []).ext E22
  have Z22 : n0 ≤ h22.size := Nat.le_trans Z0 E22.1
  have F_width_b22 : Fld Z h22 b22 "com/example/coalesce/coalesce/combining/TreeShape" "width" "I" (.int (0 : Int32)) := D22 (Or.inr w_15) (ty := .int) (by decide)
  have F_arity_b22 : Fld Z h22 b22 "com/example/coalesce/coalesce/combining/TreeShape" "arity" "I" (.int (0 : Int32)) := D22 (Or.inr w_17) (ty := .int) (by decide)
  have F_leafCount_b22 : Fld Z h22 b22 "com/example/coalesce/coalesce/combining/TreeShape" "leafCount" "I" (.int (0 : Int32)) := D22 (Or.inr w_19) (ty := .int) (by decide)
  have F_innerCount_b22 : Fld Z h22 b22 "com/example/coalesce/coalesce/combining/TreeShape" "innerCount" "I" (.int (0 : Int32)) := D22 (Or.inr w_21) (ty := .int) (by decide)
  show Goes p e below KK T22 (mkF m 22 #[.val (.int p1), .val (.int p2), .val (.int p3), .val (.int W), .val (.int A), .unset, .unset, .unset, .unset, .unset, .unset, .unset, .unset, .unset, .unset, .unset, .unset, .unset] [(.ref b22)])
  refine Goes.of (fun t => XS.dup X22.here hx rfl (hb hby at_22) rfl rfl) ?_
  show Goes p e below KK T22 (mkF m 23 #[.val (.int p1), .val (.int p2), .val (.int p3), .val (.int W), .val (.int A), .unset, .unset, .unset, .unset, .unset, .unset, .unset, .unset, .unset, .unset, .unset, .unset, .unset] [(.ref b22), (.ref b22)])
  refine Goes.of (fun t => XS.iloadN X22.here hx rfl (hb hby at_23) rfl) ?_
  show Goes p e below KK T22 (mkF m 24 #[.val (.int p1), .val (.int p2), .val (.int p3), .val (.int W), .val (.int A), .unset, .unset, .unset, .unset, .unset, .unset, .unset, .unset, .unset, .unset, .unset, .unset, .unset] [(.int W), (.ref b22), (.ref b22)])
  refine Goes.of (fun t => XS.iload X22.here hx rfl (hb hby at_24) rfl) ?_
  show Goes p e below KK T22 (mkF m 26 #[.val (.int p1), .val (.int p2), .val (.int p3), .val (.int W), .val (.int A), .unset, .unset, .unset, .unset, .unset, .unset, .unset, .unset, .unset, .unset, .unset, .unset, .unset] [(.int A), (.int W), (.ref b22), (.ref b22)])
  obtain ⟨_, _, ⟨T23, L23, k23, n23⟩, -, X23, ⟨Lc23, hQ23, l23, y23, z23⟩, st23⟩ := X22.specialBack hx (y := (⟨"com/example/coalesce/coalesce/combining/TreeShape", "<init>", "(II)V"⟩ : MethodName)) rfl hown (mvT hZ w_8) (mvT hZ w_9) (mvT hZ w_10) (by decide) (backOf (W := 1) (rm2 l Z a0 hw [] b22 W A  h22 n0 Z22 A22 F_width_b22 F_arity_b22 F_leafCount_b22 F_innerCount_b22 g_b22 hnz1 hnz2) hZ w_10 w_7 (by decide) (by decide)) (g := (mkF m 26 #[.val (.int p1), .val (.int p2), .val (.int p3), .val (.int W), .val (.int A), .unset, .unset, .unset, .unset, .unset, .unset, .unset, .unset, .unset, .unset, .unset, .unset, .unset] [(.int A), (.int W), (.ref b22), (.ref b22)])) rfl (by rw [hml]; rfl) (Steps.refl _) (a := b22) (argsL := [(.int W), (.int A)]) (rest := [(.ref b22)]) (lenOf pd_10 rfl) rfl (by show 2 * 0 + _ ≤ _; exact Nat.le_of_eq rfl) (hb hby at_26) (fun _ _ => ⟨rfl, e22, (by decide : 1 + 0 ≤ _), (by decide : 4 + 0 ≤ _)⟩)
  dsimp only [Pt.U, Pt.locs, Pt.cells, Pt.slots] at X23 l23 y23 z23 st23 hQ23
  subst l23 y23 z23
  obtain ⟨rfl, N23q, Kc23, Ec23, Fw23, Fa23, Fl23, Fi23⟩ := hQ23
  have N23 := Fr.app N21 N23q
  have K23 : Keep h0 T23.heap [] := K22.trans Kc23 (allS (Or.inr sz_b22) all0)
  have Z23 : n0 ≤ T23.heap.size := Nat.le_trans Z22 Kc23.1
  have e23 : T23.heap = T23.heap := rfl
  generalize e_LC : (((W - (1 : Int32)) / A) + (1 : Int32)) = LC at Fl23 Fi23
  generalize e_IC : (((LC + A) - (3 : Int32)) / (A - (1 : Int32))) = IC at Fi23
  refine Goes.tr st23 ?_
  show Goes p e below KK T23 (mkF m 29 #[.val (.int p1), .val (.int p2), .val (.int p3), .val (.int W), .val (.int A), .unset, .unset, .unset, .unset, .unset, .unset, .unset, .unset, .unset, .unset, .unset, .unset, .unset] [(.ref b22)])
  obtain ⟨sh1, sh2⟩ := own_shape W A LC IC hW hA e_LC e_IC
  have hP := own_plain W.toInt A.toInt LC.toInt IC.toInt hW hA sh1 sh2
  obtain ⟨P1, P2, P3, P4, P5, P6⟩ := hP
  show Goes p e below KK T23 (mkF m 29 #[.val (.int p1), .val (.int p2), .val (.int p3), .val (.int W), .val (.int A), .unset, .unset, .unset, .unset, .unset, .unset, .unset, .unset, .unset, .unset, .unset, .unset, .unset] [(.ref b22)])
  refine Goes.of (fun t => XS.astore X23.here hx rfl (hb hby at_29) rfl rfl (l' := #[.val (.int p1), .val (.int p2), .val (.int p3), .val (.int W), .val (.int A), .val (.ref b22), .unset, .unset, .unset, .unset, .unset, .unset, .unset, .unset, .unset, .unset, .unset, .unset]) rfl) ?_
  show Goes p e below KK T23 (mkF m 31 #[.val (.int p1), .val (.int p2), .val (.int p3), .val (.int W), .val (.int A), .val (.ref b22), .unset, .unset, .unset, .unset, .unset, .unset, .unset, .unset, .unset, .unset, .unset, .unset] [])
  refine Goes.of (fun t => XS.aload X23.here hx rfl (hb hby at_31) rfl rfl) ?_
  show Goes p e below KK T23 (mkF m 33 #[.val (.int p1), .val (.int p2), .val (.int p3), .val (.int W), .val (.int A), .val (.ref b22), .unset, .unset, .unset, .unset, .unset, .unset, .unset, .unset, .unset, .unset, .unset, .unset] [(.ref b22)])
  obtain ⟨cq24, kq24, q24a, q24b, q24c⟩ := isOf hZ e23 Ec23
  obtain ⟨_, _, ⟨T24, L24, k24, n24⟩, -, X24, ⟨Lc24, hQ24, l24, y24, z24⟩, st24⟩ := X23.virtualBack hx (y := (⟨"com/example/coalesce/coalesce/combining/TreeShape", "size", "()I"⟩ : MethodName)) (z := (⟨"com/example/coalesce/coalesce/combining/TreeShape", "size", "()I"⟩ : MethodName)) hown (mvT hZ w_22) (mvT hZ w_23) (notFace_of_selects (args := #[]) (mvT hZ w_25)) (mvT hZ w_25) (mvT hZ w_24) (by decide) (backOf (W := 0) (rm4 l Z a0 hw [] b22 LC IC T23.heap n0 Z23 Fl23 Fi23) hZ w_26 w_7 (by decide) (by decide)) q24a q24c (g := (mkF m 33 #[.val (.int p1), .val (.int p2), .val (.int p3), .val (.int W), .val (.int A), .val (.ref b22), .unset, .unset, .unset, .unset, .unset, .unset, .unset, .unset, .unset, .unset, .unset, .unset] [(.ref b22)])) rfl (by rw [hml]; rfl) (Steps.refl _) (argsL := []) (rest := []) (lenOf pd_7 rfl) rfl (by show 2 * 0 + _ ≤ _; exact Nat.le_of_eq rfl) (hb hby at_33) (fun _ _ => ⟨rfl, e23, (by decide : 1 + 0 ≤ _), (by decide : 4 + 0 ≤ _)⟩)
  dsimp only [Pt.U, Pt.locs, Pt.cells, Pt.slots] at X24 l24 y24 z24 st24 hQ24
  subst l24 y24 z24
  obtain ⟨rfl, N24q, e24⟩ := hQ24
  have N24 := Fr.app N23 N24q
  refine Goes.tr st24 ?_
  show Goes p e below KK T24 (mkF m 36 #[.val (.int p1), .val (.int p2), .val (.int p3), .val (.int W), .val (.int A), .val (.ref b22), .unset, .unset, .unset, .unset, .unset, .unset, .unset, .unset, .unset, .unset, .unset, .unset] [(.int (IC + LC))])
  generalize e_sz : (IC + LC) = sz
  show Goes p e below KK T24 (mkF m 36 #[.val (.int p1), .val (.int p2), .val (.int p3), .val (.int W), .val (.int A), .val (.ref b22), .unset, .unset, .unset, .unset, .unset, .unset, .unset, .unset, .unset, .unset, .unset, .unset] [(.int sz)])
  show Goes p e below KK T24 (mkF m 36 #[.val (.int p1), .val (.int p2), .val (.int p3), .val (.int W), .val (.int A), .val (.ref b22), .unset, .unset, .unset, .unset, .unset, .unset, .unset, .unset, .unset, .unset, .unset, .unset] [(.int sz)])
  refine Goes.of (fun t => XS.istore X24.here hx rfl (hb hby at_36) rfl (l' := #[.val (.int p1), .val (.int p2), .val (.int p3), .val (.int W), .val (.int A), .val (.ref b22), .val (.int sz), .unset, .unset, .unset, .unset, .unset, .unset, .unset, .unset, .unset, .unset, .unset]) rfl) ?_
  show Goes p e below KK T24 (mkF m 38 #[.val (.int p1), .val (.int p2), .val (.int p3), .val (.int W), .val (.int A), .val (.ref b22), .val (.int sz), .unset, .unset, .unset, .unset, .unset, .unset, .unset, .unset, .unset, .unset, .unset] [])
  refine Goes.of (fun t => XS.aload X24.here hx rfl (hb hby at_38) rfl rfl) ?_
  show Goes p e below KK T24 (mkF m 40 #[.val (.int p1), .val (.int p2), .val (.int p3), .val (.int W), .val (.int A), .val (.ref b22), .val (.int sz), .unset, .unset, .unset, .unset, .unset, .unset, .unset, .unset, .unset, .unset, .unset] [(.ref b22)])
  obtain ⟨cq25, kq25, q25a, q25b, q25c⟩ := isOf hZ e24 Ec23
  obtain ⟨_, _, ⟨T25, L25, k25, n25⟩, -, X25, ⟨Lc25, hQ25, l25, y25, z25⟩, st25⟩ := X24.virtualBack hx (y := (⟨"com/example/coalesce/coalesce/combining/TreeShape", "innerCount", "()I"⟩ : MethodName)) (z := (⟨"com/example/coalesce/coalesce/combining/TreeShape", "innerCount", "()I"⟩ : MethodName)) hown (mvT hZ w_27) (mvT hZ w_28) (notFace_of_selects (args := #[]) (mvT hZ w_30)) (mvT hZ w_30) (mvT hZ w_29) (by decide) (backOf (W := 0) (rm5 l Z a0 hw [] b22 IC T23.heap n0 Z23 Fi23) hZ w_31 w_7 (by decide) (by decide)) q25a q25c (g := (mkF m 40 #[.val (.int p1), .val (.int p2), .val (.int p3), .val (.int W), .val (.int A), .val (.ref b22), .val (.int sz), .unset, .unset, .unset, .unset, .unset, .unset, .unset, .unset, .unset, .unset, .unset] [(.ref b22)])) rfl (by rw [hml]; rfl) (Steps.refl _) (argsL := []) (rest := []) (lenOf pd_7 rfl) rfl (by show 2 * 0 + _ ≤ _; exact Nat.le_of_eq rfl) (hb hby at_40) (fun _ _ => ⟨rfl, e24, (by decide : 1 + 0 ≤ _), (by decide : 4 + 0 ≤ _)⟩)
  dsimp only [Pt.U, Pt.locs, Pt.cells, Pt.slots] at X25 l25 y25 z25 st25 hQ25
  subst l25 y25 z25
  obtain ⟨rfl, N25q, e25⟩ := hQ25
  have N25 := Fr.app N24 N25q
  refine Goes.tr st25 ?_
  show Goes p e below KK T25 (mkF m 43 #[.val (.int p1), .val (.int p2), .val (.int p3), .val (.int W), .val (.int A), .val (.ref b22), .val (.int sz), .unset, .unset, .unset, .unset, .unset, .unset, .unset, .unset, .unset, .unset, .unset] [(.int IC)])
  refine Goes.of (fun t => XS.istore X25.here hx rfl (hb hby at_43) rfl (l' := #[.val (.int p1), .val (.int p2), .val (.int p3), .val (.int W), .val (.int A), .val (.ref b22), .val (.int sz), .val (.int IC), .unset, .unset, .unset, .unset, .unset, .unset, .unset, .unset, .unset, .unset]) rfl) ?_
  show Goes p e below KK T25 (mkF m 45 #[.val (.int p1), .val (.int p2), .val (.int p3), .val (.int W), .val (.int A), .val (.ref b22), .val (.int sz), .val (.int IC), .unset, .unset, .unset, .unset, .unset, .unset, .unset, .unset, .unset, .unset] [])
  refine Goes.of (fun t => XS.iloadN X25.here hx rfl (hb hby at_45) rfl) ?_
  show Goes p e below KK T25 (mkF m 46 #[.val (.int p1), .val (.int p2), .val (.int p3), .val (.int W), .val (.int A), .val (.ref b22), .val (.int sz), .val (.int IC), .unset, .unset, .unset, .unset, .unset, .unset, .unset, .unset, .unset, .unset] [(.int p3)])
  refine Goes.of (X25.ldcInt hx hown (mvT hZ w_0) (g := (mkF m 46 #[.val (.int p1), .val (.int p2), .val (.int p3), .val (.int W), .val (.int A), .val (.ref b22), .val (.int sz), .val (.int IC), .unset, .unset, .unset, .unset, .unset, .unset, .unset, .unset, .unset, .unset] [(.int p3)])) rfl (hb hby at_46)) ?_
  show Goes p e below KK T25 (mkF m 48 #[.val (.int p1), .val (.int p2), .val (.int p3), .val (.int W), .val (.int A), .val (.ref b22), .val (.int sz), .val (.int IC), .unset, .unset, .unset, .unset, .unset, .unset, .unset, .unset, .unset, .unset] [(.int (2147483647 : Int32)), (.int p3)])
  refine Goes.of (fun t => XS.iand X25.here hx rfl (hb hby at_48) rfl) ?_
  show Goes p e below KK T25 (mkF m 49 #[.val (.int p1), .val (.int p2), .val (.int p3), .val (.int W), .val (.int A), .val (.ref b22), .val (.int sz), .val (.int IC), .unset, .unset, .unset, .unset, .unset, .unset, .unset, .unset, .unset, .unset] [(.int (p3 &&& (2147483647 : Int32)))])
  refine Goes.of (fun t => XS.iload X25.here hx rfl (hb hby at_49) rfl) ?_
  show Goes p e below KK T25 (mkF m 51 #[.val (.int p1), .val (.int p2), .val (.int p3), .val (.int W), .val (.int A), .val (.ref b22), .val (.int sz), .val (.int IC), .unset, .unset, .unset, .unset, .unset, .unset, .unset, .unset, .unset, .unset] [(.int sz), (.int (p3 &&& (2147483647 : Int32)))])
  have hsz : sz.toInt = IC.toInt + LC.toInt := by rw [← e_sz]; exact Jvm.Kit.i32_add (by omega) (by omega)
  have hsz0 : ¬ sz = 0 := fun q => by rw [q] at hsz; have z : (0 : Int32).toInt = 0 := rfl; omega
  refine Goes.of (fun t => iremM X25 hx rfl (hb hby at_51) rfl hsz0) ?_
  show Goes p e below KK T25 (mkF m 52 #[.val (.int p1), .val (.int p2), .val (.int p3), .val (.int W), .val (.int A), .val (.ref b22), .val (.int sz), .val (.int IC), .unset, .unset, .unset, .unset, .unset, .unset, .unset, .unset, .unset, .unset] [(.int ((p3 &&& (2147483647 : Int32)) % sz))])
  generalize e_nd : ((p3 &&& (2147483647 : Int32)) % sz) = nd
  show Goes p e below KK T25 (mkF m 52 #[.val (.int p1), .val (.int p2), .val (.int p3), .val (.int W), .val (.int A), .val (.ref b22), .val (.int sz), .val (.int IC), .unset, .unset, .unset, .unset, .unset, .unset, .unset, .unset, .unset, .unset] [(.int nd)])
  refine Goes.of (fun t => XS.istore X25.here hx rfl (hb hby at_52) rfl (l' := #[.val (.int p1), .val (.int p2), .val (.int p3), .val (.int W), .val (.int A), .val (.ref b22), .val (.int sz), .val (.int IC), .val (.int nd), .unset, .unset, .unset, .unset, .unset, .unset, .unset, .unset, .unset]) rfl) ?_
  show Goes p e below KK T25 (mkF m 54 #[.val (.int p1), .val (.int p2), .val (.int p3), .val (.int W), .val (.int A), .val (.ref b22), .val (.int sz), .val (.int IC), .val (.int nd), .unset, .unset, .unset, .unset, .unset, .unset, .unset, .unset, .unset] [])
  refine Goes.of (fun t => XS.aload X25.here hx rfl (hb hby at_54) rfl rfl) ?_
  show Goes p e below KK T25 (mkF m 56 #[.val (.int p1), .val (.int p2), .val (.int p3), .val (.int W), .val (.int A), .val (.ref b22), .val (.int sz), .val (.int IC), .val (.int nd), .unset, .unset, .unset, .unset, .unset, .unset, .unset, .unset, .unset] [(.ref b22)])
  refine Goes.of (fun t => XS.iload X25.here hx rfl (hb hby at_56) rfl) ?_
  show Goes p e below KK T25 (mkF m 58 #[.val (.int p1), .val (.int p2), .val (.int p3), .val (.int W), .val (.int A), .val (.ref b22), .val (.int sz), .val (.int IC), .val (.int nd), .unset, .unset, .unset, .unset, .unset, .unset, .unset, .unset, .unset] [(.int nd), (.ref b22)])
  obtain ⟨cq26, kq26, q26a, q26b, q26c⟩ := isOf hZ e25 Ec23
  obtain ⟨_, _, ⟨T26, L26, k26, n26⟩, -, X26, ⟨Lc26, hQ26, l26, y26, z26⟩, st26⟩ := X25.virtualBack hx (y := (⟨"com/example/coalesce/coalesce/combining/TreeShape", "fanIn", "(I)I"⟩ : MethodName)) (z := (⟨"com/example/coalesce/coalesce/combining/TreeShape", "fanIn", "(I)I"⟩ : MethodName)) hown (mvT hZ w_32) (mvT hZ w_33) (notFace_of_selects (args := #[]) (mvT hZ w_35)) (mvT hZ w_35) (mvT hZ w_34) (by decide) (backOf (W := 0) (rm6 l Z a0 hw [] b22 nd W A LC IC T23.heap n0 Z23 Ec23 Fw23 Fa23 Fl23 Fi23) hZ w_36 w_7 (by decide) (by decide)) q26a q26c (g := (mkF m 58 #[.val (.int p1), .val (.int p2), .val (.int p3), .val (.int W), .val (.int A), .val (.ref b22), .val (.int sz), .val (.int IC), .val (.int nd), .unset, .unset, .unset, .unset, .unset, .unset, .unset, .unset, .unset] [(.int nd), (.ref b22)])) rfl (by rw [hml]; rfl) (Steps.refl _) (argsL := [(.int nd)]) (rest := []) (lenOf pd_11 rfl) rfl (by show 2 * 0 + _ ≤ _; exact Nat.le_of_eq rfl) (hb hby at_58) (fun _ _ => ⟨rfl, e25, (by decide : 1 + 0 ≤ _), (by decide : 4 + 0 ≤ _)⟩)
  dsimp only [Pt.U, Pt.locs, Pt.cells, Pt.slots] at X26 l26 y26 z26 st26 hQ26
  subst l26 y26 z26
  obtain ⟨rfl, N26q, e26⟩ := hQ26
  have N26 := Fr.app N25 N26q
  refine Goes.tr st26 ?_
  show Goes p e below KK T26 (mkF m 61 #[.val (.int p1), .val (.int p2), .val (.int p3), .val (.int W), .val (.int A), .val (.ref b22), .val (.int sz), .val (.int IC), .val (.int nd), .unset, .unset, .unset, .unset, .unset, .unset, .unset, .unset, .unset] [(.int (f6 nd W A LC IC))])
  generalize e_ff : (f6 nd W A LC IC) = ff
  show Goes p e below KK T26 (mkF m 61 #[.val (.int p1), .val (.int p2), .val (.int p3), .val (.int W), .val (.int A), .val (.ref b22), .val (.int sz), .val (.int IC), .val (.int nd), .unset, .unset, .unset, .unset, .unset, .unset, .unset, .unset, .unset] [(.int ff)])
  have hn1 : (p3 &&& 2147483647).toInt = p3.toInt % 2 ^ 31 := Jvm.Kit.i32_mask p3 2147483647 (k := 31) (by decide) (by decide)
  have hn2 : nd.toInt = (p3 &&& 2147483647).toInt % sz.toInt := by rw [← e_nd]; exact Jvm.Kit.i32_rem_nonneg (by omega)
  have hn3 : 0 ≤ nd.toInt := by rw [hn2]; exact Int.emod_nonneg _ (by omega)
  have hn4 : nd.toInt < sz.toInt := by rw [hn2]; exact Int.emod_lt_of_pos _ (by omega)
  obtain ⟨hf1, hf2, hf3, hf4⟩ := own_fan W A LC IC nd ff hA ⟨P1, P2, P3, P4, P5, P6⟩ hn3 (by omega) e_ff
  have k1 : (1 : Int32).toInt = 1 := rfl
  have k2 : (2 : Int32).toInt = 2 := rfl
  show Goes p e below KK T26 (mkF m 61 #[.val (.int p1), .val (.int p2), .val (.int p3), .val (.int W), .val (.int A), .val (.ref b22), .val (.int sz), .val (.int IC), .val (.int nd), .unset, .unset, .unset, .unset, .unset, .unset, .unset, .unset, .unset] [(.int ff)])
  refine Goes.of (fun t => XS.istore X26.here hx rfl (hb hby at_61) rfl (l' := #[.val (.int p1), .val (.int p2), .val (.int p3), .val (.int W), .val (.int A), .val (.ref b22), .val (.int sz), .val (.int IC), .val (.int nd), .val (.int ff), .unset, .unset, .unset, .unset, .unset, .unset, .unset, .unset]) rfl) ?_
  show Goes p e below KK T26 (mkF m 63 #[.val (.int p1), .val (.int p2), .val (.int p3), .val (.int W), .val (.int A), .val (.ref b22), .val (.int sz), .val (.int IC), .val (.int nd), .val (.int ff), .unset, .unset, .unset, .unset, .unset, .unset, .unset, .unset] [])
  refine Goes.of (fun t => XS.iload X26.here hx rfl (hb hby at_63) rfl) ?_
  show Goes p e below KK T26 (mkF m 65 #[.val (.int p1), .val (.int p2), .val (.int p3), .val (.int W), .val (.int A), .val (.ref b22), .val (.int sz), .val (.int IC), .val (.int nd), .val (.int ff), .unset, .unset, .unset, .unset, .unset, .unset, .unset, .unset] [(.int ff)])
  refine Goes.of (fun t => XS.iconst X26.here hx rfl (hb hby at_65)) ?_
  show Goes p e below KK T26 (mkF m 66 #[.val (.int p1), .val (.int p2), .val (.int p3), .val (.int W), .val (.int A), .val (.ref b22), .val (.int sz), .val (.int IC), .val (.int nd), .val (.int ff), .unset, .unset, .unset, .unset, .unset, .unset, .unset, .unset] [(.int (1 : Int32)), (.int ff)])
  refine Goes.of (fun t => XS.icmpNo X26.here hx rfl (hb hby at_66) rfl (flt (show ¬ (ff < (1 : Int32)) from fun q => by rw [Int32.lt_iff_toInt_lt] at q; omega)).1) ?_
  show Goes p e below KK T26 (mkF m 69 #[.val (.int p1), .val (.int p2), .val (.int p3), .val (.int W), .val (.int A), .val (.ref b22), .val (.int sz), .val (.int IC), .val (.int nd), .val (.int ff), .unset, .unset, .unset, .unset, .unset, .unset, .unset, .unset] [])
  refine Goes.of (fun t => XS.iload X26.here hx rfl (hb hby at_69) rfl) ?_
  show Goes p e below KK T26 (mkF m 71 #[.val (.int p1), .val (.int p2), .val (.int p3), .val (.int W), .val (.int A), .val (.ref b22), .val (.int sz), .val (.int IC), .val (.int nd), .val (.int ff), .unset, .unset, .unset, .unset, .unset, .unset, .unset, .unset] [(.int ff)])
  refine Goes.of (fun t => XS.iload X26.here hx rfl (hb hby at_71) rfl) ?_
  show Goes p e below KK T26 (mkF m 73 #[.val (.int p1), .val (.int p2), .val (.int p3), .val (.int W), .val (.int A), .val (.ref b22), .val (.int sz), .val (.int IC), .val (.int nd), .val (.int ff), .unset, .unset, .unset, .unset, .unset, .unset, .unset, .unset] [(.int A), (.int ff)])
  refine Goes.of (fun t => XS.icmpYes X26.here hx rfl (pc0 := 73) (pc' := 78) rfl (hb hby at_73) rfl (flt (show ¬ (A < ff) from fun q => by rw [Int32.lt_iff_toInt_lt] at q; omega)).2.2.2 (by decide) (by decide)) ?_
  show Goes p e below KK T26 (mkF m 78 #[.val (.int p1), .val (.int p2), .val (.int p3), .val (.int W), .val (.int A), .val (.ref b22), .val (.int sz), .val (.int IC), .val (.int nd), .val (.int ff), .unset, .unset, .unset, .unset, .unset, .unset, .unset, .unset] [])
  refine Goes.of (fun t => XS.iload X26.here hx rfl (hb hby at_78) rfl) ?_
  show Goes p e below KK T26 (mkF m 80 #[.val (.int p1), .val (.int p2), .val (.int p3), .val (.int W), .val (.int A), .val (.ref b22), .val (.int sz), .val (.int IC), .val (.int nd), .val (.int ff), .unset, .unset, .unset, .unset, .unset, .unset, .unset, .unset] [(.int nd)])
  refine Goes.of (fun t => XS.iload X26.here hx rfl (hb hby at_80) rfl) ?_
  show Goes p e below KK T26 (mkF m 82 #[.val (.int p1), .val (.int p2), .val (.int p3), .val (.int W), .val (.int A), .val (.ref b22), .val (.int sz), .val (.int IC), .val (.int nd), .val (.int ff), .unset, .unset, .unset, .unset, .unset, .unset, .unset, .unset] [(.int IC), (.int nd)])
  by_cases hc82 : nd < IC
  · refine Goes.of (fun t => XS.icmpNo X26.here hx rfl (hb hby at_82) rfl (tlt hc82).2.1) ?_
    show Goes p e below KK T26 (mkF m 85 #[.val (.int p1), .val (.int p2), .val (.int p3), .val (.int W), .val (.int A), .val (.ref b22), .val (.int sz), .val (.int IC), .val (.int nd), .val (.int ff), .unset, .unset, .unset, .unset, .unset, .unset, .unset, .unset] [])
    refine Goes.of (fun t => XS.iload X26.here hx rfl (hb hby at_85) rfl) ?_
    show Goes p e below KK T26 (mkF m 87 #[.val (.int p1), .val (.int p2), .val (.int p3), .val (.int W), .val (.int A), .val (.ref b22), .val (.int sz), .val (.int IC), .val (.int nd), .val (.int ff), .unset, .unset, .unset, .unset, .unset, .unset, .unset, .unset] [(.int nd)])
    refine Goes.of (fun t => XT.i2l X26.here hx rfl (hb hby at_87) rfl) ?_
    show Goes p e below KK T26 (mkF m 88 #[.val (.int p1), .val (.int p2), .val (.int p3), .val (.int W), .val (.int A), .val (.ref b22), .val (.int sz), .val (.int IC), .val (.int nd), .val (.int ff), .unset, .unset, .unset, .unset, .unset, .unset, .unset, .unset] [(.long (nd.toInt64))])
    refine Goes.of (fun t => XS.iload X26.here hx rfl (hb hby at_88) rfl) ?_
    show Goes p e below KK T26 (mkF m 90 #[.val (.int p1), .val (.int p2), .val (.int p3), .val (.int W), .val (.int A), .val (.ref b22), .val (.int sz), .val (.int IC), .val (.int nd), .val (.int ff), .unset, .unset, .unset, .unset, .unset, .unset, .unset, .unset] [(.int A), (.long (nd.toInt64))])
    refine Goes.of (fun t => XT.i2l X26.here hx rfl (hb hby at_90) rfl) ?_
    show Goes p e below KK T26 (mkF m 91 #[.val (.int p1), .val (.int p2), .val (.int p3), .val (.int W), .val (.int A), .val (.ref b22), .val (.int sz), .val (.int IC), .val (.int nd), .val (.int ff), .unset, .unset, .unset, .unset, .unset, .unset, .unset, .unset] [(.long (A.toInt64)), (.long (nd.toInt64))])
    refine Goes.of (fun t => XT.lmul X26.here hx rfl (hb hby at_91) rfl) ?_
    show Goes p e below KK T26 (mkF m 92 #[.val (.int p1), .val (.int p2), .val (.int p3), .val (.int W), .val (.int A), .val (.ref b22), .val (.int sz), .val (.int IC), .val (.int nd), .val (.int ff), .unset, .unset, .unset, .unset, .unset, .unset, .unset, .unset] [(.long ((nd.toInt64) * (A.toInt64)))])
    refine Goes.of (fun t => XT.lconst X26.here hx rfl (hb hby at_92)) ?_
    show Goes p e below KK T26 (mkF m 93 #[.val (.int p1), .val (.int p2), .val (.int p3), .val (.int W), .val (.int A), .val (.ref b22), .val (.int sz), .val (.int IC), .val (.int nd), .val (.int ff), .unset, .unset, .unset, .unset, .unset, .unset, .unset, .unset] [(.long (1 : Int64)), (.long ((nd.toInt64) * (A.toInt64)))])
    refine Goes.of (fun t => XT.ladd X26.here hx rfl (hb hby at_93) rfl) ?_
    show Goes p e below KK T26 (mkF m 94 #[.val (.int p1), .val (.int p2), .val (.int p3), .val (.int W), .val (.int A), .val (.ref b22), .val (.int sz), .val (.int IC), .val (.int nd), .val (.int ff), .unset, .unset, .unset, .unset, .unset, .unset, .unset, .unset] [(.long (((nd.toInt64) * (A.toInt64)) + (1 : Int64)))])
    generalize e_fs : (((nd.toInt64) * (A.toInt64)) + (1 : Int64)) = fs
    show Goes p e below KK T26 (mkF m 94 #[.val (.int p1), .val (.int p2), .val (.int p3), .val (.int W), .val (.int A), .val (.ref b22), .val (.int sz), .val (.int IC), .val (.int nd), .val (.int ff), .unset, .unset, .unset, .unset, .unset, .unset, .unset, .unset] [(.long fs)])
    refine Goes.of (fun t => XT.lstore X26.here hx rfl (hb hby at_94) rfl (l' := #[.val (.int p1), .val (.int p2), .val (.int p3), .val (.int W), .val (.int A), .val (.ref b22), .val (.int sz), .val (.int IC), .val (.int nd), .val (.int ff), .val (.long fs), .second, .unset, .unset, .unset, .unset, .unset, .unset]) rfl) ?_
    show Goes p e below KK T26 (mkF m 96 #[.val (.int p1), .val (.int p2), .val (.int p3), .val (.int W), .val (.int A), .val (.ref b22), .val (.int sz), .val (.int IC), .val (.int nd), .val (.int ff), .val (.long fs), .second, .unset, .unset, .unset, .unset, .unset, .unset] [])
    refine Goes.of (fun t => XT.lload X26.here hx rfl (hb hby at_96) rfl) ?_
    show Goes p e below KK T26 (mkF m 98 #[.val (.int p1), .val (.int p2), .val (.int p3), .val (.int W), .val (.int A), .val (.ref b22), .val (.int sz), .val (.int IC), .val (.int nd), .val (.int ff), .val (.long fs), .second, .unset, .unset, .unset, .unset, .unset, .unset] [(.long fs)])
    refine Goes.of (fun t => XS.iload X26.here hx rfl (hb hby at_98) rfl) ?_
    show Goes p e below KK T26 (mkF m 100 #[.val (.int p1), .val (.int p2), .val (.int p3), .val (.int W), .val (.int A), .val (.ref b22), .val (.int sz), .val (.int IC), .val (.int nd), .val (.int ff), .val (.long fs), .second, .unset, .unset, .unset, .unset, .unset, .unset] [(.int ff), (.long fs)])
    refine Goes.of (fun t => XT.i2l X26.here hx rfl (hb hby at_100) rfl) ?_
    show Goes p e below KK T26 (mkF m 101 #[.val (.int p1), .val (.int p2), .val (.int p3), .val (.int W), .val (.int A), .val (.ref b22), .val (.int sz), .val (.int IC), .val (.int nd), .val (.int ff), .val (.long fs), .second, .unset, .unset, .unset, .unset, .unset, .unset] [(.long (ff.toInt64)), (.long fs)])
    refine Goes.of (fun t => XT.ladd X26.here hx rfl (hb hby at_101) rfl) ?_
    show Goes p e below KK T26 (mkF m 102 #[.val (.int p1), .val (.int p2), .val (.int p3), .val (.int W), .val (.int A), .val (.ref b22), .val (.int sz), .val (.int IC), .val (.int nd), .val (.int ff), .val (.long fs), .second, .unset, .unset, .unset, .unset, .unset, .unset] [(.long (fs + (ff.toInt64)))])
    refine Goes.of (fun t => XT.lconst X26.here hx rfl (hb hby at_102)) ?_
    show Goes p e below KK T26 (mkF m 103 #[.val (.int p1), .val (.int p2), .val (.int p3), .val (.int W), .val (.int A), .val (.ref b22), .val (.int sz), .val (.int IC), .val (.int nd), .val (.int ff), .val (.long fs), .second, .unset, .unset, .unset, .unset, .unset, .unset] [(.long (1 : Int64)), (.long (fs + (ff.toInt64)))])
    refine Goes.of (fun t => XT.lsub X26.here hx rfl (hb hby at_103) rfl) ?_
    show Goes p e below KK T26 (mkF m 104 #[.val (.int p1), .val (.int p2), .val (.int p3), .val (.int W), .val (.int A), .val (.ref b22), .val (.int sz), .val (.int IC), .val (.int nd), .val (.int ff), .val (.long fs), .second, .unset, .unset, .unset, .unset, .unset, .unset] [(.long ((fs + (ff.toInt64)) - (1 : Int64)))])
    generalize e_la : ((fs + (ff.toInt64)) - (1 : Int64)) = la
    show Goes p e below KK T26 (mkF m 104 #[.val (.int p1), .val (.int p2), .val (.int p3), .val (.int W), .val (.int A), .val (.ref b22), .val (.int sz), .val (.int IC), .val (.int nd), .val (.int ff), .val (.long fs), .second, .unset, .unset, .unset, .unset, .unset, .unset] [(.long la)])
    refine Goes.of (fun t => XT.lstore X26.here hx rfl (hb hby at_104) rfl (l' := #[.val (.int p1), .val (.int p2), .val (.int p3), .val (.int W), .val (.int A), .val (.ref b22), .val (.int sz), .val (.int IC), .val (.int nd), .val (.int ff), .val (.long fs), .second, .val (.long la), .second, .unset, .unset, .unset, .unset]) rfl) ?_
    show Goes p e below KK T26 (mkF m 106 #[.val (.int p1), .val (.int p2), .val (.int p3), .val (.int W), .val (.int A), .val (.ref b22), .val (.int sz), .val (.int IC), .val (.int nd), .val (.int ff), .val (.long fs), .second, .val (.long la), .second, .unset, .unset, .unset, .unset] [])
    refine Goes.of (fun t => XT.lload X26.here hx rfl (hb hby at_106) rfl) ?_
    show Goes p e below KK T26 (mkF m 108 #[.val (.int p1), .val (.int p2), .val (.int p3), .val (.int W), .val (.int A), .val (.ref b22), .val (.int sz), .val (.int IC), .val (.int nd), .val (.int ff), .val (.long fs), .second, .val (.long la), .second, .unset, .unset, .unset, .unset] [(.long la)])
    refine Goes.of (fun t => XS.iload X26.here hx rfl (hb hby at_108) rfl) ?_
    show Goes p e below KK T26 (mkF m 110 #[.val (.int p1), .val (.int p2), .val (.int p3), .val (.int W), .val (.int A), .val (.ref b22), .val (.int sz), .val (.int IC), .val (.int nd), .val (.int ff), .val (.long fs), .second, .val (.long la), .second, .unset, .unset, .unset, .unset] [(.int sz), (.long la)])
    refine Goes.of (fun t => XT.i2l X26.here hx rfl (hb hby at_110) rfl) ?_
    show Goes p e below KK T26 (mkF m 111 #[.val (.int p1), .val (.int p2), .val (.int p3), .val (.int W), .val (.int A), .val (.ref b22), .val (.int sz), .val (.int IC), .val (.int nd), .val (.int ff), .val (.long fs), .second, .val (.long la), .second, .unset, .unset, .unset, .unset] [(.long (sz.toInt64)), (.long la)])
    refine Goes.of (fun t => XT.lconst X26.here hx rfl (hb hby at_111)) ?_
    show Goes p e below KK T26 (mkF m 112 #[.val (.int p1), .val (.int p2), .val (.int p3), .val (.int W), .val (.int A), .val (.ref b22), .val (.int sz), .val (.int IC), .val (.int nd), .val (.int ff), .val (.long fs), .second, .val (.long la), .second, .unset, .unset, .unset, .unset] [(.long (1 : Int64)), (.long (sz.toInt64)), (.long la)])
    refine Goes.of (fun t => XT.lsub X26.here hx rfl (hb hby at_112) rfl) ?_
    show Goes p e below KK T26 (mkF m 113 #[.val (.int p1), .val (.int p2), .val (.int p3), .val (.int W), .val (.int A), .val (.ref b22), .val (.int sz), .val (.int IC), .val (.int nd), .val (.int ff), .val (.long fs), .second, .val (.long la), .second, .unset, .unset, .unset, .unset] [(.long ((sz.toInt64) - (1 : Int64))), (.long la)])
    refine Goes.of (fun t => XT.lcmp X26.here hx rfl (hb hby at_113) rfl) ?_
    show Goes p e below KK T26 (mkF m 114 #[.val (.int p1), .val (.int p2), .val (.int p3), .val (.int W), .val (.int A), .val (.ref b22), .val (.int sz), .val (.int IC), .val (.int nd), .val (.int ff), .val (.long fs), .second, .val (.long la), .second, .unset, .unset, .unset, .unset] [(.int (XT.cmpL la ((sz.toInt64) - (1 : Int64))))])
    obtain ⟨d1, d2, d3, d4⟩ := hf3 hc82
    have k64 : (1 : Int64).toInt = 1 := rfl
    have l1 : (nd.toInt64 * A.toInt64).toInt = nd.toInt * A.toInt := by rw [Jvm.Kit.i64_mul (by rw [Jvm.Kit.i64_of_i32, Jvm.Kit.i64_of_i32]; omega) (by rw [Jvm.Kit.i64_of_i32, Jvm.Kit.i64_of_i32]; omega), Jvm.Kit.i64_of_i32, Jvm.Kit.i64_of_i32]
    have l2 : fs.toInt = nd.toInt * A.toInt + 1 := by rw [← e_fs, Jvm.Kit.i64_add (by omega) (by omega), l1, k64]
    have l3 : (fs + ff.toInt64).toInt = nd.toInt * A.toInt + 1 + ff.toInt := by rw [Jvm.Kit.i64_add (by rw [Jvm.Kit.i64_of_i32]; omega) (by rw [Jvm.Kit.i64_of_i32]; omega), l2, Jvm.Kit.i64_of_i32]
    have l4 : la.toInt = nd.toInt * A.toInt + ff.toInt := by rw [← e_la, Jvm.Kit.i64_sub (by omega) (by omega), l3, k64]; omega
    have l5 : (sz.toInt64 - 1).toInt = sz.toInt - 1 := by rw [Jvm.Kit.i64_sub (by rw [Jvm.Kit.i64_of_i32]; omega) (by rw [Jvm.Kit.i64_of_i32]; omega), Jvm.Kit.i64_of_i32, k64]
    have l6 : (la + 1).toInt = la.toInt + 1 := by rw [Jvm.Kit.i64_add (by omega) (by omega), k64]
    refine Goes.of (fun t => XS.ifNo X26.here hx rfl (hb hby at_114) rfl ((if0 _ _).trans (flt (show ¬ ((0 : Int32) < (XT.cmpL la ((sz.toInt64) - (1 : Int64)))) from fun q => by rw [own_cgt, l5, l4] at q; omega)).2.2.1)) ?_
    show Goes p e below KK T26 (mkF m 117 #[.val (.int p1), .val (.int p2), .val (.int p3), .val (.int W), .val (.int A), .val (.ref b22), .val (.int sz), .val (.int IC), .val (.int nd), .val (.int ff), .val (.long fs), .second, .val (.long la), .second, .unset, .unset, .unset, .unset] [])
    refine Goes.of (fun t => XS.iconst X26.here hx rfl (hb hby at_117)) ?_
    show Goes p e below KK T26 (mkF m 118 #[.val (.int p1), .val (.int p2), .val (.int p3), .val (.int W), .val (.int A), .val (.ref b22), .val (.int sz), .val (.int IC), .val (.int nd), .val (.int ff), .val (.long fs), .second, .val (.long la), .second, .unset, .unset, .unset, .unset] [(.int (1 : Int32))])
    refine Goes.of (fun t => XS.goto X26.here hx rfl (pc0 := 118) (pc' := 122) rfl (hb hby at_118) (by decide) (by decide)) ?_
    show Goes p e below KK T26 (mkF m 122 #[.val (.int p1), .val (.int p2), .val (.int p3), .val (.int W), .val (.int A), .val (.ref b22), .val (.int sz), .val (.int IC), .val (.int nd), .val (.int ff), .val (.long fs), .second, .val (.long la), .second, .unset, .unset, .unset, .unset] [(.int (1 : Int32))])
    refine Goes.of (fun t => XS.istore X26.here hx rfl (hb hby at_122) rfl (l' := #[.val (.int p1), .val (.int p2), .val (.int p3), .val (.int W), .val (.int A), .val (.ref b22), .val (.int sz), .val (.int IC), .val (.int nd), .val (.int ff), .val (.long fs), .second, .val (.long la), .second, .val (.int (1 : Int32)), .unset, .unset, .unset]) rfl) ?_
    show Goes p e below KK T26 (mkF m 124 #[.val (.int p1), .val (.int p2), .val (.int p3), .val (.int W), .val (.int A), .val (.ref b22), .val (.int sz), .val (.int IC), .val (.int nd), .val (.int ff), .val (.long fs), .second, .val (.long la), .second, .val (.int (1 : Int32)), .unset, .unset, .unset] [])
    refine Goes.of (fun t => XS.iload X26.here hx rfl (hb hby at_124) rfl) ?_
    show Goes p e below KK T26 (mkF m 126 #[.val (.int p1), .val (.int p2), .val (.int p3), .val (.int W), .val (.int A), .val (.ref b22), .val (.int sz), .val (.int IC), .val (.int nd), .val (.int ff), .val (.long fs), .second, .val (.long la), .second, .val (.int (1 : Int32)), .unset, .unset, .unset] [(.int ff)])
    refine Goes.of (fun t => XS.iload X26.here hx rfl (hb hby at_126) rfl) ?_
    show Goes p e below KK T26 (mkF m 128 #[.val (.int p1), .val (.int p2), .val (.int p3), .val (.int W), .val (.int A), .val (.ref b22), .val (.int sz), .val (.int IC), .val (.int nd), .val (.int ff), .val (.long fs), .second, .val (.long la), .second, .val (.int (1 : Int32)), .unset, .unset, .unset] [(.int A), (.int ff)])
    by_cases hc128 : ff = A
    · refine Goes.of (fun t => XS.icmpYes X26.here hx rfl (pc0 := 128) (pc' := 142) rfl (hb hby at_128) rfl (teq hc128).1 (by decide) (by decide)) ?_
      show Goes p e below KK T26 (mkF m 142 #[.val (.int p1), .val (.int p2), .val (.int p3), .val (.int W), .val (.int A), .val (.ref b22), .val (.int sz), .val (.int IC), .val (.int nd), .val (.int ff), .val (.long fs), .second, .val (.long la), .second, .val (.int (1 : Int32)), .unset, .unset, .unset] [])
      refine Goes.of (fun t => XS.iconst X26.here hx rfl (hb hby at_142)) ?_
      show Goes p e below KK T26 (mkF m 143 #[.val (.int p1), .val (.int p2), .val (.int p3), .val (.int W), .val (.int A), .val (.ref b22), .val (.int sz), .val (.int IC), .val (.int nd), .val (.int ff), .val (.long fs), .second, .val (.long la), .second, .val (.int (1 : Int32)), .unset, .unset, .unset] [(.int (1 : Int32))])
      refine Goes.of (fun t => XS.goto X26.here hx rfl (pc0 := 143) (pc' := 147) rfl (hb hby at_143) (by decide) (by decide)) ?_
      show Goes p e below KK T26 (mkF m 147 #[.val (.int p1), .val (.int p2), .val (.int p3), .val (.int W), .val (.int A), .val (.ref b22), .val (.int sz), .val (.int IC), .val (.int nd), .val (.int ff), .val (.long fs), .second, .val (.long la), .second, .val (.int (1 : Int32)), .unset, .unset, .unset] [(.int (1 : Int32))])
      refine Goes.of (fun t => XS.istore X26.here hx rfl (hb hby at_147) rfl (l' := #[.val (.int p1), .val (.int p2), .val (.int p3), .val (.int W), .val (.int A), .val (.ref b22), .val (.int sz), .val (.int IC), .val (.int nd), .val (.int ff), .val (.long fs), .second, .val (.long la), .second, .val (.int (1 : Int32)), .val (.int (1 : Int32)), .unset, .unset]) rfl) ?_
      show Goes p e below KK T26 (mkF m 149 #[.val (.int p1), .val (.int p2), .val (.int p3), .val (.int W), .val (.int A), .val (.ref b22), .val (.int sz), .val (.int IC), .val (.int nd), .val (.int ff), .val (.long fs), .second, .val (.long la), .second, .val (.int (1 : Int32)), .val (.int (1 : Int32)), .unset, .unset] [])
      refine Goes.of (fun t => XS.iload X26.here hx rfl (hb hby at_149) rfl) ?_
      show Goes p e below KK T26 (mkF m 151 #[.val (.int p1), .val (.int p2), .val (.int p3), .val (.int W), .val (.int A), .val (.ref b22), .val (.int sz), .val (.int IC), .val (.int nd), .val (.int ff), .val (.long fs), .second, .val (.long la), .second, .val (.int (1 : Int32)), .val (.int (1 : Int32)), .unset, .unset] [(.int ff)])
      refine Goes.of (fun t => XS.iconst X26.here hx rfl (hb hby at_151)) ?_
      show Goes p e below KK T26 (mkF m 152 #[.val (.int p1), .val (.int p2), .val (.int p3), .val (.int W), .val (.int A), .val (.ref b22), .val (.int sz), .val (.int IC), .val (.int nd), .val (.int ff), .val (.long fs), .second, .val (.long la), .second, .val (.int (1 : Int32)), .val (.int (1 : Int32)), .unset, .unset] [(.int (2 : Int32)), (.int ff)])
      refine Goes.of (fun t => XS.icmpNo X26.here hx rfl (hb hby at_152) rfl (flt (show ¬ (ff < (2 : Int32)) from fun q => by rw [Int32.lt_iff_toInt_lt] at q; omega)).1) ?_
      show Goes p e below KK T26 (mkF m 155 #[.val (.int p1), .val (.int p2), .val (.int p3), .val (.int W), .val (.int A), .val (.ref b22), .val (.int sz), .val (.int IC), .val (.int nd), .val (.int ff), .val (.long fs), .second, .val (.long la), .second, .val (.int (1 : Int32)), .val (.int (1 : Int32)), .unset, .unset] [])
      refine Goes.of (fun t => XS.iload X26.here hx rfl (hb hby at_155) rfl) ?_
      show Goes p e below KK T26 (mkF m 157 #[.val (.int p1), .val (.int p2), .val (.int p3), .val (.int W), .val (.int A), .val (.ref b22), .val (.int sz), .val (.int IC), .val (.int nd), .val (.int ff), .val (.long fs), .second, .val (.long la), .second, .val (.int (1 : Int32)), .val (.int (1 : Int32)), .unset, .unset] [(.int (1 : Int32))])
      refine Goes.of (fun t => XS.ifNo X26.here hx rfl (hb hby at_157) rfl ((if0 _ _).trans (feq (show ¬ ((1 : Int32) = (0 : Int32)) from by decide)).1)) ?_
      show Goes p e below KK T26 (mkF m 160 #[.val (.int p1), .val (.int p2), .val (.int p3), .val (.int W), .val (.int A), .val (.ref b22), .val (.int sz), .val (.int IC), .val (.int nd), .val (.int ff), .val (.long fs), .second, .val (.long la), .second, .val (.int (1 : Int32)), .val (.int (1 : Int32)), .unset, .unset] [])
      refine Goes.of (fun t => XS.iload X26.here hx rfl (hb hby at_160) rfl) ?_
      show Goes p e below KK T26 (mkF m 162 #[.val (.int p1), .val (.int p2), .val (.int p3), .val (.int W), .val (.int A), .val (.ref b22), .val (.int sz), .val (.int IC), .val (.int nd), .val (.int ff), .val (.long fs), .second, .val (.long la), .second, .val (.int (1 : Int32)), .val (.int (1 : Int32)), .unset, .unset] [(.int (1 : Int32))])
      refine Goes.of (fun t => XS.ifNo X26.here hx rfl (hb hby at_162) rfl ((if0 _ _).trans (feq (show ¬ ((1 : Int32) = (0 : Int32)) from by decide)).1)) ?_
      show Goes p e below KK T26 (mkF m 165 #[.val (.int p1), .val (.int p2), .val (.int p3), .val (.int W), .val (.int A), .val (.ref b22), .val (.int sz), .val (.int IC), .val (.int nd), .val (.int ff), .val (.long fs), .second, .val (.long la), .second, .val (.int (1 : Int32)), .val (.int (1 : Int32)), .unset, .unset] [])
      refine Goes.of (fun t => XS.iconst X26.here hx rfl (hb hby at_165)) ?_
      show Goes p e below KK T26 (mkF m 166 #[.val (.int p1), .val (.int p2), .val (.int p3), .val (.int W), .val (.int A), .val (.ref b22), .val (.int sz), .val (.int IC), .val (.int nd), .val (.int ff), .val (.long fs), .second, .val (.long la), .second, .val (.int (1 : Int32)), .val (.int (1 : Int32)), .unset, .unset] [(.int (1 : Int32))])
      refine Goes.of (fun t => XS.goto X26.here hx rfl (pc0 := 166) (pc' := 170) rfl (hb hby at_166) (by decide) (by decide)) ?_
      show Goes p e below KK T26 (mkF m 170 #[.val (.int p1), .val (.int p2), .val (.int p3), .val (.int W), .val (.int A), .val (.ref b22), .val (.int sz), .val (.int IC), .val (.int nd), .val (.int ff), .val (.long fs), .second, .val (.long la), .second, .val (.int (1 : Int32)), .val (.int (1 : Int32)), .unset, .unset] [(.int (1 : Int32))])
      rw [← hKK]
      refine Goes.retNar X26 hx hlk (t := .boolean) (by simp) Bd.returns (hb hby at_170) ?_ (by decide) (by decide)
      rw [e26]
      exact ⟨rfl, N26⟩
    · refine Goes.of (fun t => XS.icmpNo X26.here hx rfl (hb hby at_128) rfl (feq hc128).1) ?_
      show Goes p e below KK T26 (mkF m 131 #[.val (.int p1), .val (.int p2), .val (.int p3), .val (.int W), .val (.int A), .val (.ref b22), .val (.int sz), .val (.int IC), .val (.int nd), .val (.int ff), .val (.long fs), .second, .val (.long la), .second, .val (.int (1 : Int32)), .unset, .unset, .unset] [])
      refine Goes.of (fun t => XT.lload X26.here hx rfl (hb hby at_131) rfl) ?_
      show Goes p e below KK T26 (mkF m 133 #[.val (.int p1), .val (.int p2), .val (.int p3), .val (.int W), .val (.int A), .val (.ref b22), .val (.int sz), .val (.int IC), .val (.int nd), .val (.int ff), .val (.long fs), .second, .val (.long la), .second, .val (.int (1 : Int32)), .unset, .unset, .unset] [(.long la)])
      refine Goes.of (fun t => XT.lconst X26.here hx rfl (hb hby at_133)) ?_
      show Goes p e below KK T26 (mkF m 134 #[.val (.int p1), .val (.int p2), .val (.int p3), .val (.int W), .val (.int A), .val (.ref b22), .val (.int sz), .val (.int IC), .val (.int nd), .val (.int ff), .val (.long fs), .second, .val (.long la), .second, .val (.int (1 : Int32)), .unset, .unset, .unset] [(.long (1 : Int64)), (.long la)])
      refine Goes.of (fun t => XT.ladd X26.here hx rfl (hb hby at_134) rfl) ?_
      show Goes p e below KK T26 (mkF m 135 #[.val (.int p1), .val (.int p2), .val (.int p3), .val (.int W), .val (.int A), .val (.ref b22), .val (.int sz), .val (.int IC), .val (.int nd), .val (.int ff), .val (.long fs), .second, .val (.long la), .second, .val (.int (1 : Int32)), .unset, .unset, .unset] [(.long (la + (1 : Int64)))])
      refine Goes.of (fun t => XS.iload X26.here hx rfl (hb hby at_135) rfl) ?_
      show Goes p e below KK T26 (mkF m 137 #[.val (.int p1), .val (.int p2), .val (.int p3), .val (.int W), .val (.int A), .val (.ref b22), .val (.int sz), .val (.int IC), .val (.int nd), .val (.int ff), .val (.long fs), .second, .val (.long la), .second, .val (.int (1 : Int32)), .unset, .unset, .unset] [(.int sz), (.long (la + (1 : Int64)))])
      refine Goes.of (fun t => XT.i2l X26.here hx rfl (hb hby at_137) rfl) ?_
      show Goes p e below KK T26 (mkF m 138 #[.val (.int p1), .val (.int p2), .val (.int p3), .val (.int W), .val (.int A), .val (.ref b22), .val (.int sz), .val (.int IC), .val (.int nd), .val (.int ff), .val (.long fs), .second, .val (.long la), .second, .val (.int (1 : Int32)), .unset, .unset, .unset] [(.long (sz.toInt64)), (.long (la + (1 : Int64)))])
      refine Goes.of (fun t => XT.lcmp X26.here hx rfl (hb hby at_138) rfl) ?_
      show Goes p e below KK T26 (mkF m 139 #[.val (.int p1), .val (.int p2), .val (.int p3), .val (.int W), .val (.int A), .val (.ref b22), .val (.int sz), .val (.int IC), .val (.int nd), .val (.int ff), .val (.long fs), .second, .val (.long la), .second, .val (.int (1 : Int32)), .unset, .unset, .unset] [(.int (XT.cmpL (la + (1 : Int64)) (sz.toInt64)))])
      refine Goes.of (fun t => XS.ifNo X26.here hx rfl (hb hby at_139) rfl ((if0 _ _).trans (flt (show ¬ ((XT.cmpL (la + (1 : Int64)) (sz.toInt64)) < (0 : Int32)) from fun q => by rw [own_clt, l6, l4, Jvm.Kit.i64_of_i32] at q; have := d4 hc128; omega)).1)) ?_
      show Goes p e below KK T26 (mkF m 142 #[.val (.int p1), .val (.int p2), .val (.int p3), .val (.int W), .val (.int A), .val (.ref b22), .val (.int sz), .val (.int IC), .val (.int nd), .val (.int ff), .val (.long fs), .second, .val (.long la), .second, .val (.int (1 : Int32)), .unset, .unset, .unset] [])
      refine Goes.of (fun t => XS.iconst X26.here hx rfl (hb hby at_142)) ?_
      show Goes p e below KK T26 (mkF m 143 #[.val (.int p1), .val (.int p2), .val (.int p3), .val (.int W), .val (.int A), .val (.ref b22), .val (.int sz), .val (.int IC), .val (.int nd), .val (.int ff), .val (.long fs), .second, .val (.long la), .second, .val (.int (1 : Int32)), .unset, .unset, .unset] [(.int (1 : Int32))])
      refine Goes.of (fun t => XS.goto X26.here hx rfl (pc0 := 143) (pc' := 147) rfl (hb hby at_143) (by decide) (by decide)) ?_
      show Goes p e below KK T26 (mkF m 147 #[.val (.int p1), .val (.int p2), .val (.int p3), .val (.int W), .val (.int A), .val (.ref b22), .val (.int sz), .val (.int IC), .val (.int nd), .val (.int ff), .val (.long fs), .second, .val (.long la), .second, .val (.int (1 : Int32)), .unset, .unset, .unset] [(.int (1 : Int32))])
      refine Goes.of (fun t => XS.istore X26.here hx rfl (hb hby at_147) rfl (l' := #[.val (.int p1), .val (.int p2), .val (.int p3), .val (.int W), .val (.int A), .val (.ref b22), .val (.int sz), .val (.int IC), .val (.int nd), .val (.int ff), .val (.long fs), .second, .val (.long la), .second, .val (.int (1 : Int32)), .val (.int (1 : Int32)), .unset, .unset]) rfl) ?_
      show Goes p e below KK T26 (mkF m 149 #[.val (.int p1), .val (.int p2), .val (.int p3), .val (.int W), .val (.int A), .val (.ref b22), .val (.int sz), .val (.int IC), .val (.int nd), .val (.int ff), .val (.long fs), .second, .val (.long la), .second, .val (.int (1 : Int32)), .val (.int (1 : Int32)), .unset, .unset] [])
      refine Goes.of (fun t => XS.iload X26.here hx rfl (hb hby at_149) rfl) ?_
      show Goes p e below KK T26 (mkF m 151 #[.val (.int p1), .val (.int p2), .val (.int p3), .val (.int W), .val (.int A), .val (.ref b22), .val (.int sz), .val (.int IC), .val (.int nd), .val (.int ff), .val (.long fs), .second, .val (.long la), .second, .val (.int (1 : Int32)), .val (.int (1 : Int32)), .unset, .unset] [(.int ff)])
      refine Goes.of (fun t => XS.iconst X26.here hx rfl (hb hby at_151)) ?_
      show Goes p e below KK T26 (mkF m 152 #[.val (.int p1), .val (.int p2), .val (.int p3), .val (.int W), .val (.int A), .val (.ref b22), .val (.int sz), .val (.int IC), .val (.int nd), .val (.int ff), .val (.long fs), .second, .val (.long la), .second, .val (.int (1 : Int32)), .val (.int (1 : Int32)), .unset, .unset] [(.int (2 : Int32)), (.int ff)])
      refine Goes.of (fun t => XS.icmpNo X26.here hx rfl (hb hby at_152) rfl (flt (show ¬ (ff < (2 : Int32)) from fun q => by rw [Int32.lt_iff_toInt_lt] at q; omega)).1) ?_
      show Goes p e below KK T26 (mkF m 155 #[.val (.int p1), .val (.int p2), .val (.int p3), .val (.int W), .val (.int A), .val (.ref b22), .val (.int sz), .val (.int IC), .val (.int nd), .val (.int ff), .val (.long fs), .second, .val (.long la), .second, .val (.int (1 : Int32)), .val (.int (1 : Int32)), .unset, .unset] [])
      refine Goes.of (fun t => XS.iload X26.here hx rfl (hb hby at_155) rfl) ?_
      show Goes p e below KK T26 (mkF m 157 #[.val (.int p1), .val (.int p2), .val (.int p3), .val (.int W), .val (.int A), .val (.ref b22), .val (.int sz), .val (.int IC), .val (.int nd), .val (.int ff), .val (.long fs), .second, .val (.long la), .second, .val (.int (1 : Int32)), .val (.int (1 : Int32)), .unset, .unset] [(.int (1 : Int32))])
      refine Goes.of (fun t => XS.ifNo X26.here hx rfl (hb hby at_157) rfl ((if0 _ _).trans (feq (show ¬ ((1 : Int32) = (0 : Int32)) from by decide)).1)) ?_
      show Goes p e below KK T26 (mkF m 160 #[.val (.int p1), .val (.int p2), .val (.int p3), .val (.int W), .val (.int A), .val (.ref b22), .val (.int sz), .val (.int IC), .val (.int nd), .val (.int ff), .val (.long fs), .second, .val (.long la), .second, .val (.int (1 : Int32)), .val (.int (1 : Int32)), .unset, .unset] [])
      refine Goes.of (fun t => XS.iload X26.here hx rfl (hb hby at_160) rfl) ?_
      show Goes p e below KK T26 (mkF m 162 #[.val (.int p1), .val (.int p2), .val (.int p3), .val (.int W), .val (.int A), .val (.ref b22), .val (.int sz), .val (.int IC), .val (.int nd), .val (.int ff), .val (.long fs), .second, .val (.long la), .second, .val (.int (1 : Int32)), .val (.int (1 : Int32)), .unset, .unset] [(.int (1 : Int32))])
      refine Goes.of (fun t => XS.ifNo X26.here hx rfl (hb hby at_162) rfl ((if0 _ _).trans (feq (show ¬ ((1 : Int32) = (0 : Int32)) from by decide)).1)) ?_
      show Goes p e below KK T26 (mkF m 165 #[.val (.int p1), .val (.int p2), .val (.int p3), .val (.int W), .val (.int A), .val (.ref b22), .val (.int sz), .val (.int IC), .val (.int nd), .val (.int ff), .val (.long fs), .second, .val (.long la), .second, .val (.int (1 : Int32)), .val (.int (1 : Int32)), .unset, .unset] [])
      refine Goes.of (fun t => XS.iconst X26.here hx rfl (hb hby at_165)) ?_
      show Goes p e below KK T26 (mkF m 166 #[.val (.int p1), .val (.int p2), .val (.int p3), .val (.int W), .val (.int A), .val (.ref b22), .val (.int sz), .val (.int IC), .val (.int nd), .val (.int ff), .val (.long fs), .second, .val (.long la), .second, .val (.int (1 : Int32)), .val (.int (1 : Int32)), .unset, .unset] [(.int (1 : Int32))])
      refine Goes.of (fun t => XS.goto X26.here hx rfl (pc0 := 166) (pc' := 170) rfl (hb hby at_166) (by decide) (by decide)) ?_
      show Goes p e below KK T26 (mkF m 170 #[.val (.int p1), .val (.int p2), .val (.int p3), .val (.int W), .val (.int A), .val (.ref b22), .val (.int sz), .val (.int IC), .val (.int nd), .val (.int ff), .val (.long fs), .second, .val (.long la), .second, .val (.int (1 : Int32)), .val (.int (1 : Int32)), .unset, .unset] [(.int (1 : Int32))])
      rw [← hKK]
      refine Goes.retNar X26 hx hlk (t := .boolean) (by simp) Bd.returns (hb hby at_170) ?_ (by decide) (by decide)
      rw [e26]
      exact ⟨rfl, N26⟩
  · refine Goes.of (fun t => XS.icmpYes X26.here hx rfl (pc0 := 82) (pc' := 171) rfl (hb hby at_82) rfl (flt hc82).2.1 (by decide) (by decide)) ?_
    show Goes p e below KK T26 (mkF m 171 #[.val (.int p1), .val (.int p2), .val (.int p3), .val (.int W), .val (.int A), .val (.ref b22), .val (.int sz), .val (.int IC), .val (.int nd), .val (.int ff), .unset, .unset, .unset, .unset, .unset, .unset, .unset, .unset] [])
    refine Goes.of (fun t => XS.iload X26.here hx rfl (hb hby at_171) rfl) ?_
    show Goes p e below KK T26 (mkF m 173 #[.val (.int p1), .val (.int p2), .val (.int p3), .val (.int W), .val (.int A), .val (.ref b22), .val (.int sz), .val (.int IC), .val (.int nd), .val (.int ff), .unset, .unset, .unset, .unset, .unset, .unset, .unset, .unset] [(.int nd)])
    refine Goes.of (fun t => XT.i2l X26.here hx rfl (hb hby at_173) rfl) ?_
    show Goes p e below KK T26 (mkF m 174 #[.val (.int p1), .val (.int p2), .val (.int p3), .val (.int W), .val (.int A), .val (.ref b22), .val (.int sz), .val (.int IC), .val (.int nd), .val (.int ff), .unset, .unset, .unset, .unset, .unset, .unset, .unset, .unset] [(.long (nd.toInt64))])
    refine Goes.of (fun t => XS.iload X26.here hx rfl (hb hby at_174) rfl) ?_
    show Goes p e below KK T26 (mkF m 176 #[.val (.int p1), .val (.int p2), .val (.int p3), .val (.int W), .val (.int A), .val (.ref b22), .val (.int sz), .val (.int IC), .val (.int nd), .val (.int ff), .unset, .unset, .unset, .unset, .unset, .unset, .unset, .unset] [(.int IC), (.long (nd.toInt64))])
    refine Goes.of (fun t => XT.i2l X26.here hx rfl (hb hby at_176) rfl) ?_
    show Goes p e below KK T26 (mkF m 177 #[.val (.int p1), .val (.int p2), .val (.int p3), .val (.int W), .val (.int A), .val (.ref b22), .val (.int sz), .val (.int IC), .val (.int nd), .val (.int ff), .unset, .unset, .unset, .unset, .unset, .unset, .unset, .unset] [(.long (IC.toInt64)), (.long (nd.toInt64))])
    refine Goes.of (fun t => XT.lsub X26.here hx rfl (hb hby at_177) rfl) ?_
    show Goes p e below KK T26 (mkF m 178 #[.val (.int p1), .val (.int p2), .val (.int p3), .val (.int W), .val (.int A), .val (.ref b22), .val (.int sz), .val (.int IC), .val (.int nd), .val (.int ff), .unset, .unset, .unset, .unset, .unset, .unset, .unset, .unset] [(.long ((nd.toInt64) - (IC.toInt64)))])
    generalize e_jj : ((nd.toInt64) - (IC.toInt64)) = jj
    show Goes p e below KK T26 (mkF m 178 #[.val (.int p1), .val (.int p2), .val (.int p3), .val (.int W), .val (.int A), .val (.ref b22), .val (.int sz), .val (.int IC), .val (.int nd), .val (.int ff), .unset, .unset, .unset, .unset, .unset, .unset, .unset, .unset] [(.long jj)])
    refine Goes.of (fun t => XT.lstore X26.here hx rfl (hb hby at_178) rfl (l' := #[.val (.int p1), .val (.int p2), .val (.int p3), .val (.int W), .val (.int A), .val (.ref b22), .val (.int sz), .val (.int IC), .val (.int nd), .val (.int ff), .val (.long jj), .second, .unset, .unset, .unset, .unset, .unset, .unset]) rfl) ?_
    show Goes p e below KK T26 (mkF m 180 #[.val (.int p1), .val (.int p2), .val (.int p3), .val (.int W), .val (.int A), .val (.ref b22), .val (.int sz), .val (.int IC), .val (.int nd), .val (.int ff), .val (.long jj), .second, .unset, .unset, .unset, .unset, .unset, .unset] [])
    refine Goes.of (fun t => XT.lload X26.here hx rfl (hb hby at_180) rfl) ?_
    show Goes p e below KK T26 (mkF m 182 #[.val (.int p1), .val (.int p2), .val (.int p3), .val (.int W), .val (.int A), .val (.ref b22), .val (.int sz), .val (.int IC), .val (.int nd), .val (.int ff), .val (.long jj), .second, .unset, .unset, .unset, .unset, .unset, .unset] [(.long jj)])
    refine Goes.of (fun t => XS.iload X26.here hx rfl (hb hby at_182) rfl) ?_
    show Goes p e below KK T26 (mkF m 184 #[.val (.int p1), .val (.int p2), .val (.int p3), .val (.int W), .val (.int A), .val (.ref b22), .val (.int sz), .val (.int IC), .val (.int nd), .val (.int ff), .val (.long jj), .second, .unset, .unset, .unset, .unset, .unset, .unset] [(.int A), (.long jj)])
    refine Goes.of (fun t => XT.i2l X26.here hx rfl (hb hby at_184) rfl) ?_
    show Goes p e below KK T26 (mkF m 185 #[.val (.int p1), .val (.int p2), .val (.int p3), .val (.int W), .val (.int A), .val (.ref b22), .val (.int sz), .val (.int IC), .val (.int nd), .val (.int ff), .val (.long jj), .second, .unset, .unset, .unset, .unset, .unset, .unset] [(.long (A.toInt64)), (.long jj)])
    refine Goes.of (fun t => XT.lmul X26.here hx rfl (hb hby at_185) rfl) ?_
    show Goes p e below KK T26 (mkF m 186 #[.val (.int p1), .val (.int p2), .val (.int p3), .val (.int W), .val (.int A), .val (.ref b22), .val (.int sz), .val (.int IC), .val (.int nd), .val (.int ff), .val (.long jj), .second, .unset, .unset, .unset, .unset, .unset, .unset] [(.long (jj * (A.toInt64)))])
    generalize e_fz : (jj * (A.toInt64)) = fz
    show Goes p e below KK T26 (mkF m 186 #[.val (.int p1), .val (.int p2), .val (.int p3), .val (.int W), .val (.int A), .val (.ref b22), .val (.int sz), .val (.int IC), .val (.int nd), .val (.int ff), .val (.long jj), .second, .unset, .unset, .unset, .unset, .unset, .unset] [(.long fz)])
    refine Goes.of (fun t => XT.lstore X26.here hx rfl (hb hby at_186) rfl (l' := #[.val (.int p1), .val (.int p2), .val (.int p3), .val (.int W), .val (.int A), .val (.ref b22), .val (.int sz), .val (.int IC), .val (.int nd), .val (.int ff), .val (.long jj), .second, .val (.long fz), .second, .unset, .unset, .unset, .unset]) rfl) ?_
    show Goes p e below KK T26 (mkF m 188 #[.val (.int p1), .val (.int p2), .val (.int p3), .val (.int W), .val (.int A), .val (.ref b22), .val (.int sz), .val (.int IC), .val (.int nd), .val (.int ff), .val (.long jj), .second, .val (.long fz), .second, .unset, .unset, .unset, .unset] [])
    refine Goes.of (fun t => XT.lload X26.here hx rfl (hb hby at_188) rfl) ?_
    show Goes p e below KK T26 (mkF m 190 #[.val (.int p1), .val (.int p2), .val (.int p3), .val (.int W), .val (.int A), .val (.ref b22), .val (.int sz), .val (.int IC), .val (.int nd), .val (.int ff), .val (.long jj), .second, .val (.long fz), .second, .unset, .unset, .unset, .unset] [(.long fz)])
    refine Goes.of (fun t => XS.iload X26.here hx rfl (hb hby at_190) rfl) ?_
    show Goes p e below KK T26 (mkF m 192 #[.val (.int p1), .val (.int p2), .val (.int p3), .val (.int W), .val (.int A), .val (.ref b22), .val (.int sz), .val (.int IC), .val (.int nd), .val (.int ff), .val (.long jj), .second, .val (.long fz), .second, .unset, .unset, .unset, .unset] [(.int ff), (.long fz)])
    refine Goes.of (fun t => XT.i2l X26.here hx rfl (hb hby at_192) rfl) ?_
    show Goes p e below KK T26 (mkF m 193 #[.val (.int p1), .val (.int p2), .val (.int p3), .val (.int W), .val (.int A), .val (.ref b22), .val (.int sz), .val (.int IC), .val (.int nd), .val (.int ff), .val (.long jj), .second, .val (.long fz), .second, .unset, .unset, .unset, .unset] [(.long (ff.toInt64)), (.long fz)])
    refine Goes.of (fun t => XT.ladd X26.here hx rfl (hb hby at_193) rfl) ?_
    show Goes p e below KK T26 (mkF m 194 #[.val (.int p1), .val (.int p2), .val (.int p3), .val (.int W), .val (.int A), .val (.ref b22), .val (.int sz), .val (.int IC), .val (.int nd), .val (.int ff), .val (.long jj), .second, .val (.long fz), .second, .unset, .unset, .unset, .unset] [(.long (fz + (ff.toInt64)))])
    generalize e_en : (fz + (ff.toInt64)) = en
    show Goes p e below KK T26 (mkF m 194 #[.val (.int p1), .val (.int p2), .val (.int p3), .val (.int W), .val (.int A), .val (.ref b22), .val (.int sz), .val (.int IC), .val (.int nd), .val (.int ff), .val (.long jj), .second, .val (.long fz), .second, .unset, .unset, .unset, .unset] [(.long en)])
    refine Goes.of (fun t => XT.lstore X26.here hx rfl (hb hby at_194) rfl (l' := #[.val (.int p1), .val (.int p2), .val (.int p3), .val (.int W), .val (.int A), .val (.ref b22), .val (.int sz), .val (.int IC), .val (.int nd), .val (.int ff), .val (.long jj), .second, .val (.long fz), .second, .val (.long en), .second, .unset, .unset]) rfl) ?_
    show Goes p e below KK T26 (mkF m 196 #[.val (.int p1), .val (.int p2), .val (.int p3), .val (.int W), .val (.int A), .val (.ref b22), .val (.int sz), .val (.int IC), .val (.int nd), .val (.int ff), .val (.long jj), .second, .val (.long fz), .second, .val (.long en), .second, .unset, .unset] [])
    refine Goes.of (fun t => XT.lload X26.here hx rfl (hb hby at_196) rfl) ?_
    show Goes p e below KK T26 (mkF m 198 #[.val (.int p1), .val (.int p2), .val (.int p3), .val (.int W), .val (.int A), .val (.ref b22), .val (.int sz), .val (.int IC), .val (.int nd), .val (.int ff), .val (.long jj), .second, .val (.long fz), .second, .val (.long en), .second, .unset, .unset] [(.long en)])
    refine Goes.of (fun t => XS.iloadN X26.here hx rfl (hb hby at_198) rfl) ?_
    show Goes p e below KK T26 (mkF m 199 #[.val (.int p1), .val (.int p2), .val (.int p3), .val (.int W), .val (.int A), .val (.ref b22), .val (.int sz), .val (.int IC), .val (.int nd), .val (.int ff), .val (.long jj), .second, .val (.long fz), .second, .val (.long en), .second, .unset, .unset] [(.int W), (.long en)])
    refine Goes.of (fun t => XT.i2l X26.here hx rfl (hb hby at_199) rfl) ?_
    show Goes p e below KK T26 (mkF m 200 #[.val (.int p1), .val (.int p2), .val (.int p3), .val (.int W), .val (.int A), .val (.ref b22), .val (.int sz), .val (.int IC), .val (.int nd), .val (.int ff), .val (.long jj), .second, .val (.long fz), .second, .val (.long en), .second, .unset, .unset] [(.long (W.toInt64)), (.long en)])
    refine Goes.of (fun t => XT.lcmp X26.here hx rfl (hb hby at_200) rfl) ?_
    show Goes p e below KK T26 (mkF m 201 #[.val (.int p1), .val (.int p2), .val (.int p3), .val (.int W), .val (.int A), .val (.ref b22), .val (.int sz), .val (.int IC), .val (.int nd), .val (.int ff), .val (.long jj), .second, .val (.long fz), .second, .val (.long en), .second, .unset, .unset] [(.int (XT.cmpL en (W.toInt64)))])
    obtain ⟨d1, d2, d3⟩ := hf4 hc82
    have l1 : jj.toInt = nd.toInt - IC.toInt := by rw [← e_jj, Jvm.Kit.i64_sub (by rw [Jvm.Kit.i64_of_i32, Jvm.Kit.i64_of_i32]; omega) (by rw [Jvm.Kit.i64_of_i32, Jvm.Kit.i64_of_i32]; omega), Jvm.Kit.i64_of_i32, Jvm.Kit.i64_of_i32]
    have l2 : fz.toInt = (nd.toInt - IC.toInt) * A.toInt := by rw [← e_fz, Jvm.Kit.i64_mul (by rw [l1, Jvm.Kit.i64_of_i32]; omega) (by rw [l1, Jvm.Kit.i64_of_i32]; omega), l1, Jvm.Kit.i64_of_i32]
    have l3 : en.toInt = (nd.toInt - IC.toInt) * A.toInt + ff.toInt := by rw [← e_en, Jvm.Kit.i64_add (by rw [l2, Jvm.Kit.i64_of_i32]; omega) (by rw [l2, Jvm.Kit.i64_of_i32]; omega), l2, Jvm.Kit.i64_of_i32]
    refine Goes.of (fun t => XS.ifNo X26.here hx rfl (hb hby at_201) rfl ((if0 _ _).trans (flt (show ¬ ((0 : Int32) < (XT.cmpL en (W.toInt64))) from fun q => by rw [own_cgt, l3, Jvm.Kit.i64_of_i32] at q; omega)).2.2.1)) ?_
    show Goes p e below KK T26 (mkF m 204 #[.val (.int p1), .val (.int p2), .val (.int p3), .val (.int W), .val (.int A), .val (.ref b22), .val (.int sz), .val (.int IC), .val (.int nd), .val (.int ff), .val (.long jj), .second, .val (.long fz), .second, .val (.long en), .second, .unset, .unset] [])
    refine Goes.of (fun t => XS.iconst X26.here hx rfl (hb hby at_204)) ?_
    show Goes p e below KK T26 (mkF m 205 #[.val (.int p1), .val (.int p2), .val (.int p3), .val (.int W), .val (.int A), .val (.ref b22), .val (.int sz), .val (.int IC), .val (.int nd), .val (.int ff), .val (.long jj), .second, .val (.long fz), .second, .val (.long en), .second, .unset, .unset] [(.int (1 : Int32))])
    refine Goes.of (fun t => XS.goto X26.here hx rfl (pc0 := 205) (pc' := 209) rfl (hb hby at_205) (by decide) (by decide)) ?_
    show Goes p e below KK T26 (mkF m 209 #[.val (.int p1), .val (.int p2), .val (.int p3), .val (.int W), .val (.int A), .val (.ref b22), .val (.int sz), .val (.int IC), .val (.int nd), .val (.int ff), .val (.long jj), .second, .val (.long fz), .second, .val (.long en), .second, .unset, .unset] [(.int (1 : Int32))])
    refine Goes.of (fun t => XS.istore X26.here hx rfl (hb hby at_209) rfl (l' := #[.val (.int p1), .val (.int p2), .val (.int p3), .val (.int W), .val (.int A), .val (.ref b22), .val (.int sz), .val (.int IC), .val (.int nd), .val (.int ff), .val (.long jj), .second, .val (.long fz), .second, .val (.long en), .second, .val (.int (1 : Int32)), .unset]) rfl) ?_
    show Goes p e below KK T26 (mkF m 211 #[.val (.int p1), .val (.int p2), .val (.int p3), .val (.int W), .val (.int A), .val (.ref b22), .val (.int sz), .val (.int IC), .val (.int nd), .val (.int ff), .val (.long jj), .second, .val (.long fz), .second, .val (.long en), .second, .val (.int (1 : Int32)), .unset] [])
    refine Goes.of (fun t => XS.iload X26.here hx rfl (hb hby at_211) rfl) ?_
    show Goes p e below KK T26 (mkF m 213 #[.val (.int p1), .val (.int p2), .val (.int p3), .val (.int W), .val (.int A), .val (.ref b22), .val (.int sz), .val (.int IC), .val (.int nd), .val (.int ff), .val (.long jj), .second, .val (.long fz), .second, .val (.long en), .second, .val (.int (1 : Int32)), .unset] [(.int ff)])
    refine Goes.of (fun t => XS.iload X26.here hx rfl (hb hby at_213) rfl) ?_
    show Goes p e below KK T26 (mkF m 215 #[.val (.int p1), .val (.int p2), .val (.int p3), .val (.int W), .val (.int A), .val (.ref b22), .val (.int sz), .val (.int IC), .val (.int nd), .val (.int ff), .val (.long jj), .second, .val (.long fz), .second, .val (.long en), .second, .val (.int (1 : Int32)), .unset] [(.int A), (.int ff)])
    by_cases hc215 : ff = A
    · refine Goes.of (fun t => XS.icmpYes X26.here hx rfl (pc0 := 215) (pc' := 226) rfl (hb hby at_215) rfl (teq hc215).1 (by decide) (by decide)) ?_
      show Goes p e below KK T26 (mkF m 226 #[.val (.int p1), .val (.int p2), .val (.int p3), .val (.int W), .val (.int A), .val (.ref b22), .val (.int sz), .val (.int IC), .val (.int nd), .val (.int ff), .val (.long jj), .second, .val (.long fz), .second, .val (.long en), .second, .val (.int (1 : Int32)), .unset] [])
      refine Goes.of (fun t => XS.iconst X26.here hx rfl (hb hby at_226)) ?_
      show Goes p e below KK T26 (mkF m 227 #[.val (.int p1), .val (.int p2), .val (.int p3), .val (.int W), .val (.int A), .val (.ref b22), .val (.int sz), .val (.int IC), .val (.int nd), .val (.int ff), .val (.long jj), .second, .val (.long fz), .second, .val (.long en), .second, .val (.int (1 : Int32)), .unset] [(.int (1 : Int32))])
      refine Goes.of (fun t => XS.goto X26.here hx rfl (pc0 := 227) (pc' := 231) rfl (hb hby at_227) (by decide) (by decide)) ?_
      show Goes p e below KK T26 (mkF m 231 #[.val (.int p1), .val (.int p2), .val (.int p3), .val (.int W), .val (.int A), .val (.ref b22), .val (.int sz), .val (.int IC), .val (.int nd), .val (.int ff), .val (.long jj), .second, .val (.long fz), .second, .val (.long en), .second, .val (.int (1 : Int32)), .unset] [(.int (1 : Int32))])
      refine Goes.of (fun t => XS.istore X26.here hx rfl (hb hby at_231) rfl (l' := #[.val (.int p1), .val (.int p2), .val (.int p3), .val (.int W), .val (.int A), .val (.ref b22), .val (.int sz), .val (.int IC), .val (.int nd), .val (.int ff), .val (.long jj), .second, .val (.long fz), .second, .val (.long en), .second, .val (.int (1 : Int32)), .val (.int (1 : Int32))]) rfl) ?_
      show Goes p e below KK T26 (mkF m 233 #[.val (.int p1), .val (.int p2), .val (.int p3), .val (.int W), .val (.int A), .val (.ref b22), .val (.int sz), .val (.int IC), .val (.int nd), .val (.int ff), .val (.long jj), .second, .val (.long fz), .second, .val (.long en), .second, .val (.int (1 : Int32)), .val (.int (1 : Int32))] [])
      refine Goes.of (fun t => XS.iload X26.here hx rfl (hb hby at_233) rfl) ?_
      show Goes p e below KK T26 (mkF m 235 #[.val (.int p1), .val (.int p2), .val (.int p3), .val (.int W), .val (.int A), .val (.ref b22), .val (.int sz), .val (.int IC), .val (.int nd), .val (.int ff), .val (.long jj), .second, .val (.long fz), .second, .val (.long en), .second, .val (.int (1 : Int32)), .val (.int (1 : Int32))] [(.int (1 : Int32))])
      refine Goes.of (fun t => XS.ifNo X26.here hx rfl (hb hby at_235) rfl ((if0 _ _).trans (feq (show ¬ ((1 : Int32) = (0 : Int32)) from by decide)).1)) ?_
      show Goes p e below KK T26 (mkF m 238 #[.val (.int p1), .val (.int p2), .val (.int p3), .val (.int W), .val (.int A), .val (.ref b22), .val (.int sz), .val (.int IC), .val (.int nd), .val (.int ff), .val (.long jj), .second, .val (.long fz), .second, .val (.long en), .second, .val (.int (1 : Int32)), .val (.int (1 : Int32))] [])
      refine Goes.of (fun t => XS.iload X26.here hx rfl (hb hby at_238) rfl) ?_
      show Goes p e below KK T26 (mkF m 240 #[.val (.int p1), .val (.int p2), .val (.int p3), .val (.int W), .val (.int A), .val (.ref b22), .val (.int sz), .val (.int IC), .val (.int nd), .val (.int ff), .val (.long jj), .second, .val (.long fz), .second, .val (.long en), .second, .val (.int (1 : Int32)), .val (.int (1 : Int32))] [(.int (1 : Int32))])
      refine Goes.of (fun t => XS.ifNo X26.here hx rfl (hb hby at_240) rfl ((if0 _ _).trans (feq (show ¬ ((1 : Int32) = (0 : Int32)) from by decide)).1)) ?_
      show Goes p e below KK T26 (mkF m 243 #[.val (.int p1), .val (.int p2), .val (.int p3), .val (.int W), .val (.int A), .val (.ref b22), .val (.int sz), .val (.int IC), .val (.int nd), .val (.int ff), .val (.long jj), .second, .val (.long fz), .second, .val (.long en), .second, .val (.int (1 : Int32)), .val (.int (1 : Int32))] [])
      refine Goes.of (fun t => XS.iconst X26.here hx rfl (hb hby at_243)) ?_
      show Goes p e below KK T26 (mkF m 244 #[.val (.int p1), .val (.int p2), .val (.int p3), .val (.int W), .val (.int A), .val (.ref b22), .val (.int sz), .val (.int IC), .val (.int nd), .val (.int ff), .val (.long jj), .second, .val (.long fz), .second, .val (.long en), .second, .val (.int (1 : Int32)), .val (.int (1 : Int32))] [(.int (1 : Int32))])
      refine Goes.of (fun t => XS.goto X26.here hx rfl (pc0 := 244) (pc' := 248) rfl (hb hby at_244) (by decide) (by decide)) ?_
      show Goes p e below KK T26 (mkF m 248 #[.val (.int p1), .val (.int p2), .val (.int p3), .val (.int W), .val (.int A), .val (.ref b22), .val (.int sz), .val (.int IC), .val (.int nd), .val (.int ff), .val (.long jj), .second, .val (.long fz), .second, .val (.long en), .second, .val (.int (1 : Int32)), .val (.int (1 : Int32))] [(.int (1 : Int32))])
      rw [← hKK]
      refine Goes.retNar X26 hx hlk (t := .boolean) (by simp) Bd.returns (hb hby at_248) ?_ (by decide) (by decide)
      rw [e26]
      exact ⟨rfl, N26⟩
    · refine Goes.of (fun t => XS.icmpNo X26.here hx rfl (hb hby at_215) rfl (feq hc215).1) ?_
      show Goes p e below KK T26 (mkF m 218 #[.val (.int p1), .val (.int p2), .val (.int p3), .val (.int W), .val (.int A), .val (.ref b22), .val (.int sz), .val (.int IC), .val (.int nd), .val (.int ff), .val (.long jj), .second, .val (.long fz), .second, .val (.long en), .second, .val (.int (1 : Int32)), .unset] [])
      refine Goes.of (fun t => XT.lload X26.here hx rfl (hb hby at_218) rfl) ?_
      show Goes p e below KK T26 (mkF m 220 #[.val (.int p1), .val (.int p2), .val (.int p3), .val (.int W), .val (.int A), .val (.ref b22), .val (.int sz), .val (.int IC), .val (.int nd), .val (.int ff), .val (.long jj), .second, .val (.long fz), .second, .val (.long en), .second, .val (.int (1 : Int32)), .unset] [(.long en)])
      refine Goes.of (fun t => XS.iloadN X26.here hx rfl (hb hby at_220) rfl) ?_
      show Goes p e below KK T26 (mkF m 221 #[.val (.int p1), .val (.int p2), .val (.int p3), .val (.int W), .val (.int A), .val (.ref b22), .val (.int sz), .val (.int IC), .val (.int nd), .val (.int ff), .val (.long jj), .second, .val (.long fz), .second, .val (.long en), .second, .val (.int (1 : Int32)), .unset] [(.int W), (.long en)])
      refine Goes.of (fun t => XT.i2l X26.here hx rfl (hb hby at_221) rfl) ?_
      show Goes p e below KK T26 (mkF m 222 #[.val (.int p1), .val (.int p2), .val (.int p3), .val (.int W), .val (.int A), .val (.ref b22), .val (.int sz), .val (.int IC), .val (.int nd), .val (.int ff), .val (.long jj), .second, .val (.long fz), .second, .val (.long en), .second, .val (.int (1 : Int32)), .unset] [(.long (W.toInt64)), (.long en)])
      refine Goes.of (fun t => XT.lcmp X26.here hx rfl (hb hby at_222) rfl) ?_
      show Goes p e below KK T26 (mkF m 223 #[.val (.int p1), .val (.int p2), .val (.int p3), .val (.int W), .val (.int A), .val (.ref b22), .val (.int sz), .val (.int IC), .val (.int nd), .val (.int ff), .val (.long jj), .second, .val (.long fz), .second, .val (.long en), .second, .val (.int (1 : Int32)), .unset] [(.int (XT.cmpL en (W.toInt64)))])
      refine Goes.of (fun t => XS.ifNo X26.here hx rfl (hb hby at_223) rfl ((if0 _ _).trans (flt (show ¬ ((XT.cmpL en (W.toInt64)) < (0 : Int32)) from fun q => by rw [own_clt, l3, Jvm.Kit.i64_of_i32] at q; have := d3 hc215; omega)).1)) ?_
      show Goes p e below KK T26 (mkF m 226 #[.val (.int p1), .val (.int p2), .val (.int p3), .val (.int W), .val (.int A), .val (.ref b22), .val (.int sz), .val (.int IC), .val (.int nd), .val (.int ff), .val (.long jj), .second, .val (.long fz), .second, .val (.long en), .second, .val (.int (1 : Int32)), .unset] [])
      refine Goes.of (fun t => XS.iconst X26.here hx rfl (hb hby at_226)) ?_
      show Goes p e below KK T26 (mkF m 227 #[.val (.int p1), .val (.int p2), .val (.int p3), .val (.int W), .val (.int A), .val (.ref b22), .val (.int sz), .val (.int IC), .val (.int nd), .val (.int ff), .val (.long jj), .second, .val (.long fz), .second, .val (.long en), .second, .val (.int (1 : Int32)), .unset] [(.int (1 : Int32))])
      refine Goes.of (fun t => XS.goto X26.here hx rfl (pc0 := 227) (pc' := 231) rfl (hb hby at_227) (by decide) (by decide)) ?_
      show Goes p e below KK T26 (mkF m 231 #[.val (.int p1), .val (.int p2), .val (.int p3), .val (.int W), .val (.int A), .val (.ref b22), .val (.int sz), .val (.int IC), .val (.int nd), .val (.int ff), .val (.long jj), .second, .val (.long fz), .second, .val (.long en), .second, .val (.int (1 : Int32)), .unset] [(.int (1 : Int32))])
      refine Goes.of (fun t => XS.istore X26.here hx rfl (hb hby at_231) rfl (l' := #[.val (.int p1), .val (.int p2), .val (.int p3), .val (.int W), .val (.int A), .val (.ref b22), .val (.int sz), .val (.int IC), .val (.int nd), .val (.int ff), .val (.long jj), .second, .val (.long fz), .second, .val (.long en), .second, .val (.int (1 : Int32)), .val (.int (1 : Int32))]) rfl) ?_
      show Goes p e below KK T26 (mkF m 233 #[.val (.int p1), .val (.int p2), .val (.int p3), .val (.int W), .val (.int A), .val (.ref b22), .val (.int sz), .val (.int IC), .val (.int nd), .val (.int ff), .val (.long jj), .second, .val (.long fz), .second, .val (.long en), .second, .val (.int (1 : Int32)), .val (.int (1 : Int32))] [])
      refine Goes.of (fun t => XS.iload X26.here hx rfl (hb hby at_233) rfl) ?_
      show Goes p e below KK T26 (mkF m 235 #[.val (.int p1), .val (.int p2), .val (.int p3), .val (.int W), .val (.int A), .val (.ref b22), .val (.int sz), .val (.int IC), .val (.int nd), .val (.int ff), .val (.long jj), .second, .val (.long fz), .second, .val (.long en), .second, .val (.int (1 : Int32)), .val (.int (1 : Int32))] [(.int (1 : Int32))])
      refine Goes.of (fun t => XS.ifNo X26.here hx rfl (hb hby at_235) rfl ((if0 _ _).trans (feq (show ¬ ((1 : Int32) = (0 : Int32)) from by decide)).1)) ?_
      show Goes p e below KK T26 (mkF m 238 #[.val (.int p1), .val (.int p2), .val (.int p3), .val (.int W), .val (.int A), .val (.ref b22), .val (.int sz), .val (.int IC), .val (.int nd), .val (.int ff), .val (.long jj), .second, .val (.long fz), .second, .val (.long en), .second, .val (.int (1 : Int32)), .val (.int (1 : Int32))] [])
      refine Goes.of (fun t => XS.iload X26.here hx rfl (hb hby at_238) rfl) ?_
      show Goes p e below KK T26 (mkF m 240 #[.val (.int p1), .val (.int p2), .val (.int p3), .val (.int W), .val (.int A), .val (.ref b22), .val (.int sz), .val (.int IC), .val (.int nd), .val (.int ff), .val (.long jj), .second, .val (.long fz), .second, .val (.long en), .second, .val (.int (1 : Int32)), .val (.int (1 : Int32))] [(.int (1 : Int32))])
      refine Goes.of (fun t => XS.ifNo X26.here hx rfl (hb hby at_240) rfl ((if0 _ _).trans (feq (show ¬ ((1 : Int32) = (0 : Int32)) from by decide)).1)) ?_
      show Goes p e below KK T26 (mkF m 243 #[.val (.int p1), .val (.int p2), .val (.int p3), .val (.int W), .val (.int A), .val (.ref b22), .val (.int sz), .val (.int IC), .val (.int nd), .val (.int ff), .val (.long jj), .second, .val (.long fz), .second, .val (.long en), .second, .val (.int (1 : Int32)), .val (.int (1 : Int32))] [])
      refine Goes.of (fun t => XS.iconst X26.here hx rfl (hb hby at_243)) ?_
      show Goes p e below KK T26 (mkF m 244 #[.val (.int p1), .val (.int p2), .val (.int p3), .val (.int W), .val (.int A), .val (.ref b22), .val (.int sz), .val (.int IC), .val (.int nd), .val (.int ff), .val (.long jj), .second, .val (.long fz), .second, .val (.long en), .second, .val (.int (1 : Int32)), .val (.int (1 : Int32))] [(.int (1 : Int32))])
      refine Goes.of (fun t => XS.goto X26.here hx rfl (pc0 := 244) (pc' := 248) rfl (hb hby at_244) (by decide) (by decide)) ?_
      show Goes p e below KK T26 (mkF m 248 #[.val (.int p1), .val (.int p2), .val (.int p3), .val (.int W), .val (.int A), .val (.ref b22), .val (.int sz), .val (.int IC), .val (.int nd), .val (.int ff), .val (.long jj), .second, .val (.long fz), .second, .val (.long en), .second, .val (.int (1 : Int32)), .val (.int (1 : Int32))] [(.int (1 : Int32))])
      rw [← hKK]
      refine Goes.retNar X26 hx hlk (t := .boolean) (by simp) Bd.returns (hb hby at_248) ?_ (by decide) (by decide)
      rw [e26]
      exact ⟨rfl, N26⟩
set_option maxRecDepth 65536 in
set_option maxHeartbeats 40000000 in
theorem comes_1 {Post : Tables → Env → Array Value → State → Outcome → State → Prop} (hpost : ∀ tb e args s v u, (limb_1_1.after args s (.returned v) u = true ∧ limb_1_2.after args s (.returned v) u = true ∧ True) → FrameEnd s (.returned v) u (Jvm.fieldLocs frame_1_writes args s ++ Jvm.arrayLocs frame_1_arrays args s ++ Jvm.staticLocs frame_1_statics s) 16 128 → Post tb e args s (.returned v) u) :
    ArmFor flags0 classFile x code maxLocals ret World_1 tables_1 room_1 Calls_1 rest_1 Pre_1 Post := by
  intro l hfl _ _ p e ha hc hk s m args below hf hA hF happ hP
  obtain ⟨hcalls, hrest, hpre⟩ := hP
  obtain ⟨-, -, -, hnamed, -, -, -, hat⟩ := (Spec.applies_iff hf).mp happ
  obtain ⟨hg, hn⟩ := and_e (Cond.before_iff.mp (show (Jvm.Cond.and given_1 narrow_1).before args s = true from hpre))
  obtain ⟨hgc, hr0⟩ := and_e hg
  obtain ⟨hg0, hr1⟩ := and_e hr0
  obtain ⟨hg1, hr2⟩ := and_e hr1
  have hg2 := hr2
  obtain ⟨w0, w1, w2, rfl⟩ : ∃ w0 w1 w2 : Value, args = #[w0, w1, w2] := by
    have hs : args.size = 3 := by simpa [Cond.value, given_1] using hgc
    obtain ⟨L⟩ := args
    match L, hs with
    | [w0, w1, w2], _ => exact ⟨w0, w1, w2, rfl⟩
  have hw := fun d (hd : d ∈ tables_1) => atoms_spec (ws := Jvm.Cond.code x code maxLocals ret :: tables_1) hat d (List.mem_cons_of_mem _ hd)
  have hfit : Fit s := fun {y c} hc i hi => by
    obtain ⟨ha, rfl⟩ := Array.getElem?_eq_some_iff.mp hc
    have q := List.all_eq_true.mp ((Array.all_eq_true_iff_forall_mem.mp hF) _ (Array.getElem_mem ha)) i (List.mem_range.mpr hi)
    simpa [Array.getElem?_eq_getElem hi] using q
  obtain ⟨i0, ei0⟩ := is_v hg0
  obtain rfl : w0 = (.int i0) := Option.some.inj ei0
  obtain ⟨i1, ei1⟩ := is_v hg1
  obtain rfl : w1 = (.int i1) := Option.some.inj ei1
  obtain ⟨i2, ei2⟩ := is_v hg2
  obtain rfl : w2 = (.int i2) := Option.some.inj ei2
  obtain ⟨n, o, h1, h2, h3, _, L, rfl, ⟨rfl, N⟩, hq⟩ := rm0 l s _ hw tables_1 i0 i1 i2  s.heap s.heap.size (Nat.le_refl _)  p e ha hc hk s m _ below hf ((Spec.applies_iff_loose hf).mp happ).1 ⟨rfl, State.Warmed39.refl s, rfl⟩ trivial
  refine ⟨n, _, h1, h2, h3, hpost _ _ _ _ _ _ ⟨Cond.after_iff.mpr rfl, Cond.after_iff.mpr (eq_i res_at (Term.int_eval (1)) rfl), trivial⟩ ⟨hq.1, hq.2.1, (hq.2.2.sift fun y hy => Or.inr (N y hy)).mono (by decide) (by decide)⟩⟩
theorem main_1_1 : Claimed_1_1 := comes_1 fun _ _ _ _ _ _ h hF => ⟨h.1, hF⟩
theorem main_1_2 : Claimed_1_2 := comes_1 fun _ _ _ _ _ _ h hF => ⟨h.2.1, hF⟩
end Jvm.Pilot.@@N@@
namespace Jvm.Pilot.@@N@@
open Jvm Jvm.ClassFile Sem Op Lib Jvm.Free Jvm.Stand Jvm.Pilot.@@N@@.Jvm.D
/-! MADE BY PROGRAM (witnessworld.py) out of the Statement's table words and the real class files: 10 classes; the members and pool entries that the words name. The judged class is class 1, her method 1. -/
namespace start1
open Jvm.ClassFile
def u (s : String) : CpInfo := .utf8 (stringToUtf16 s)
/-- a pool by its gaps: so many unusable entries, then the entry; so many at the end -/
def gap : Nat → List CpInfo → List CpInfo
  | 0, r => r
  | n + 1, r => .unusable :: gap n r
def poolList (es : List (Nat × CpInfo)) (last : Nat) : List CpInfo := es.foldr (fun e r => gap e.1 (e.2 :: r)) (gap last [])
def pool (es : List (Nat × CpInfo)) (last : Nat) : Array CpInfo := ⟨poolList es last⟩
def fileOf (pool : Array CpInfo) (this : Nat) (attrs : Array Attribute := #[]) (ms : Array MethodInfo := #[]) (fl : Nat := 33) (sup : Nat := 0) (ifs : Array Nat := #[]) (fds : Array FieldInfo := #[]) : ClassFile where
  minorVersion := 0
  majorVersion := 65
  constantPool := pool
  accessFlags := fl
  thisClass := this
  superClass := sup
  interfaces := ifs
  fields := fds
  methods := ms
  attributes := attrs
def plain (name : String) (sup : Option ClassId) : Class where
  name := name
  kind := .ordinary
  loader := none
  accessFlags := 33
  super := sup
  interfaces := #[]
  cf := none
  fields := #[]
  methods := #[]
  instanceTypes := #[]
  staticTypes := #[]
  resolved := #[]
  callSites := []
  init := .initialized
  statics := none
  mirror := none

def pool0 : Array CpInfo := pool [(5, u "<init>"), (0, u "()V"), (1, .class_ 10), (1, u "java/lang/Object")] 113

def k0c0 : Code := { maxStack := 0, maxLocals := 1, code := object_method_1_code, exceptionTable := #[], attributes := #[] }
def k0m0 : Method := { name := "<init>", desc := "()V", sig := { parameters := [], returnType := none }, accessFlags := 1, code := some k0c0 }
/-- java/lang/Object -/
def k0 : Class := { plain "java/lang/Object" none with
  accessFlags := 33
  interfaces := #[]
  cf := some (fileOf pool0 8 #[] #[{ accessFlags := 1, nameIndex := 5, descriptorIndex := 6, attributes := #[] }] 33 0 #[] #[])
  fields := #[]
  methods := #[k0m0]
  instanceTypes := #[]
  staticTypes := #[]
  resolved := Array.replicate 124 none
  statics := none }

def pool1 : Array CpInfo := pool [(2, .class_ 4), (1, u "java/lang/Object"), (0, u "<init>"), (0, u "()V"), (0, .integer 2147483647), (0, .methodref 9 10), (0, .class_ 11), (0, .nameAndType 12 13), (0, u "java/lang/Math"), (0, u "max"), (0, u "(II)I"), (0, .class_ 15), (0, u "com/example/coalesce/coalesce/combining/TreeShape"), (0, .methodref 14 17), (0, .nameAndType 5 18), (0, u "(II)V"), (0, .methodref 14 20), (0, .nameAndType 21 22), (0, u "size"), (0, u "()I"), (0, .methodref 14 24), (0, .nameAndType 25 22), (0, u "innerCount"), (0, .methodref 14 27), (0, .nameAndType 28 29), (0, u "fanIn"), (0, u "(I)I"), (0, .class_ 31), (0, u "com/example/coalesce/coalesce/combining/TreeShapeFanInPinLaw"), (2, u "law"), (0, u "(III)Z")] 3

def k1m0 : Method := { name := "<init>", desc := "()V", sig := { parameters := [], returnType := none }, accessFlags := 2, code := none }
def k1c1 : Code := { maxStack := 6, maxLocals := 18, code := code, exceptionTable := #[], attributes := #[] }
def k1m1 : Method := { name := "law", desc := "(III)Z", sig := { parameters := [.int, .int, .int], returnType := some .boolean }, accessFlags := 9, code := some k1c1 }
/-- com/example/coalesce/coalesce/combining/TreeShapeFanInPinLaw -/
def k1 : Class := { plain "com/example/coalesce/coalesce/combining/TreeShapeFanInPinLaw" (some 0) with
  accessFlags := 49
  interfaces := #[]
  cf := some (fileOf pool1 30 #[] #[{ accessFlags := 2, nameIndex := 5, descriptorIndex := 6, attributes := #[] }, { accessFlags := 9, nameIndex := 34, descriptorIndex := 35, attributes := #[] }] 49 2 #[] #[])
  fields := #[]
  methods := #[k1m0, k1m1]
  instanceTypes := #[]
  staticTypes := #[]
  resolved := Array.replicate 39 none
  statics := none }

def pool2 : Array CpInfo := pool [(1, .class_ 2), (0, u "java/lang/Math"), (1, .class_ 6), (1, u "java/lang/Object"), (0, u "<init>"), (0, u "()V"), (89, .class_ 100), (1, u "java/lang/Math$RandomNumberGeneratorHolder"), (71, u "negativeZeroFloatBits"), (0, u "J"), (2, u "negativeZeroDoubleBits"), (21, u "max"), (2, u "min"), (43, u "$assertionsDisabled"), (0, u "Z"), (88, u "(II)I"), (2, u "twoToTheDoubleScaleDown"), (0, u "D"), (4, u "twoToTheDoubleScaleUp"), (9, u "E"), (3, u "PI"), (2, u "TAU"), (2, u "DEGREES_TO_RADIANS"), (0, u "RADIANS_TO_DEGREES")] 94

def k2m0 : Method := { name := "<init>", desc := "()V", sig := { parameters := [], returnType := none }, accessFlags := 2, code := none }
def k2c1 : Code := { maxStack := 2, maxLocals := 2, code := jdk_29_method_65_code, exceptionTable := #[], attributes := #[] }
def k2m1 : Method := { name := "max", desc := "(II)I", sig := { parameters := [.int, .int], returnType := some .int }, accessFlags := 9, code := some k2c1 }
def k2c2 : Code := { maxStack := 2, maxLocals := 2, code := jdk_29_method_69_code, exceptionTable := #[], attributes := #[] }
def k2m2 : Method := { name := "min", desc := "(II)I", sig := { parameters := [.int, .int], returnType := some .int }, accessFlags := 9, code := some k2c2 }
/-- java/lang/Math -/
def k2 : Class := { plain "java/lang/Math" (some 0) with
  accessFlags := 49
  interfaces := #[]
  cf := some (fileOf pool2 1 #[.nestMembers #[98]] #[{ accessFlags := 2, nameIndex := 7, descriptorIndex := 8, attributes := #[] }, { accessFlags := 9, nameIndex := 198, descriptorIndex := 335, attributes := #[] }, { accessFlags := 9, nameIndex := 201, descriptorIndex := 335, attributes := #[] }] 49 4 #[] #[{ accessFlags := 25, nameIndex := 354, descriptorIndex := 339, attributes := #[] }, { accessFlags := 25, nameIndex := 358, descriptorIndex := 339, attributes := #[] }, { accessFlags := 25, nameIndex := 361, descriptorIndex := 339, attributes := #[] }, { accessFlags := 26, nameIndex := 364, descriptorIndex := 339, attributes := #[] }, { accessFlags := 26, nameIndex := 365, descriptorIndex := 339, attributes := #[] }, { accessFlags := 26, nameIndex := 172, descriptorIndex := 173, attributes := #[] }, { accessFlags := 26, nameIndex := 176, descriptorIndex := 173, attributes := #[] }, { accessFlags := 8, nameIndex := 344, descriptorIndex := 339, attributes := #[] }, { accessFlags := 8, nameIndex := 338, descriptorIndex := 339, attributes := #[] }, { accessFlags := 4120, nameIndex := 245, descriptorIndex := 246, attributes := #[] }])
  fields := #[{ name := "E", type := .double, accessFlags := 25, slot := 0, constantValue := 0 }, { name := "PI", type := .double, accessFlags := 25, slot := 1, constantValue := 0 }, { name := "TAU", type := .double, accessFlags := 25, slot := 2, constantValue := 0 }, { name := "DEGREES_TO_RADIANS", type := .double, accessFlags := 26, slot := 3, constantValue := 0 }, { name := "RADIANS_TO_DEGREES", type := .double, accessFlags := 26, slot := 4, constantValue := 0 }, { name := "negativeZeroFloatBits", type := .long, accessFlags := 26, slot := 5, constantValue := 0 }, { name := "negativeZeroDoubleBits", type := .long, accessFlags := 26, slot := 6, constantValue := 0 }, { name := "twoToTheDoubleScaleUp", type := .double, accessFlags := 8, slot := 7, constantValue := 0 }, { name := "twoToTheDoubleScaleDown", type := .double, accessFlags := 8, slot := 8, constantValue := 0 }, { name := "$assertionsDisabled", type := .boolean, accessFlags := 4120, slot := 9, constantValue := 0 }]
  methods := #[k2m0, k2m1, k2m2]
  instanceTypes := #[]
  staticTypes := #[.double, .double, .double, .double, .double, .long, .long, .double, .double, .boolean]
  resolved := Array.replicate 460 none
  statics := none }

def pool3 : Array CpInfo := pool [(1, .methodref 2 3), (0, .class_ 4), (0, .nameAndType 5 6), (0, u "java/lang/Object"), (0, u "<init>"), (0, u "()V"), (0, .fieldref 8 9), (0, .class_ 10), (0, .nameAndType 11 12), (0, u "com/example/coalesce/coalesce/combining/TreeShape"), (0, u "width"), (0, u "I"), (0, .fieldref 8 14), (0, .nameAndType 15 12), (0, u "arity"), (0, .fieldref 8 17), (0, .nameAndType 18 12), (0, u "leafCount"), (0, .fieldref 8 20), (0, .nameAndType 21 12), (0, u "innerCount"), (0, .methodref 8 23), (0, .nameAndType 24 25), (0, u "size"), (0, u "()I"), (0, .methodref 27 28), (0, .class_ 29), (0, .nameAndType 30 31), (0, u "java/lang/Math"), (0, u "min"), (0, u "(II)I"), (5, u "(I)I"), (0, u "(II)V"), (3, u "fanIn")] 4

def k3c0 : Code := { maxStack := 4, maxLocals := 3, code := prog_12_method_1_code, exceptionTable := #[], attributes := #[] }
def k3m0 : Method := { name := "<init>", desc := "(II)V", sig := { parameters := [.int, .int], returnType := none }, accessFlags := 0, code := some k3c0 }
def k3c1 : Code := { maxStack := 2, maxLocals := 1, code := prog_12_method_2_code, exceptionTable := #[], attributes := #[] }
def k3m1 : Method := { name := "size", desc := "()I", sig := { parameters := [], returnType := some .int }, accessFlags := 0, code := some k3c1 }
def k3c2 : Code := { maxStack := 1, maxLocals := 1, code := prog_12_method_3_code, exceptionTable := #[], attributes := #[] }
def k3m2 : Method := { name := "innerCount", desc := "()I", sig := { parameters := [], returnType := some .int }, accessFlags := 0, code := some k3c2 }
def k3c3 : Code := { maxStack := 4, maxLocals := 2, code := prog_12_method_6_code, exceptionTable := #[], attributes := #[] }
def k3m3 : Method := { name := "fanIn", desc := "(I)I", sig := { parameters := [.int], returnType := some .int }, accessFlags := 0, code := some k3c3 }
/-- com/example/coalesce/coalesce/combining/TreeShape -/
def k3 : Class := { plain "com/example/coalesce/coalesce/combining/TreeShape" (some 0) with
  accessFlags := 48
  interfaces := #[]
  cf := some (fileOf pool3 8 #[] #[{ accessFlags := 0, nameIndex := 5, descriptorIndex := 38, attributes := #[] }, { accessFlags := 0, nameIndex := 24, descriptorIndex := 25, attributes := #[] }, { accessFlags := 0, nameIndex := 21, descriptorIndex := 25, attributes := #[] }, { accessFlags := 0, nameIndex := 42, descriptorIndex := 37, attributes := #[] }] 48 2 #[] #[{ accessFlags := 18, nameIndex := 11, descriptorIndex := 12, attributes := #[] }, { accessFlags := 18, nameIndex := 15, descriptorIndex := 12, attributes := #[] }, { accessFlags := 18, nameIndex := 21, descriptorIndex := 12, attributes := #[] }, { accessFlags := 18, nameIndex := 18, descriptorIndex := 12, attributes := #[] }])
  fields := #[{ name := "width", type := .int, accessFlags := 18, slot := 0, constantValue := 0 }, { name := "arity", type := .int, accessFlags := 18, slot := 1, constantValue := 0 }, { name := "innerCount", type := .int, accessFlags := 18, slot := 2, constantValue := 0 }, { name := "leafCount", type := .int, accessFlags := 18, slot := 3, constantValue := 0 }]
  methods := #[k3m0, k3m1, k3m2, k3m3]
  instanceTypes := #[.int, .int, .int, .int]
  staticTypes := #[]
  resolved := Array.replicate 47 none
  statics := none }

def pool4 : Array CpInfo := pool [(1, u "java/lang/Cloneable"), (0, .class_ 1), (0, u "java/lang/Object"), (0, .class_ 3)] 3

/-- java/lang/Cloneable -/
def k4 : Class := { plain "java/lang/Cloneable" (some 0) with
  accessFlags := 1537
  interfaces := #[]
  cf := some (fileOf pool4 2 #[] #[] 1537 4 #[] #[])
  fields := #[]
  methods := #[]
  instanceTypes := #[]
  staticTypes := #[]
  resolved := Array.replicate 8 none
  statics := none }

def pool5 : Array CpInfo := pool [(1, u "java/io/Serializable"), (0, .class_ 1), (0, u "java/lang/Object"), (0, .class_ 3)] 3

/-- java/io/Serializable -/
def k5 : Class := { plain "java/io/Serializable" (some 0) with
  accessFlags := 1537
  interfaces := #[]
  cf := some (fileOf pool5 2 #[] #[] 1537 4 #[] #[])
  fields := #[]
  methods := #[]
  instanceTypes := #[]
  staticTypes := #[]
  resolved := Array.replicate 8 none
  statics := none }

/-- the primitive byte -/
def k6 : Class := { plain "byte" none with kind := .primitive 'B', accessFlags := 0x411 }
/-- [B -/
def k7 : Class := { plain "[B" (some 0) with kind := .array 6 .byte, interfaces := #[4, 5], accessFlags := 1041 }

/-- the primitive int -/
def k8 : Class := { plain "int" none with kind := .primitive 'I', accessFlags := 0x411 }
/-- [I -/
def k9 : Class := { plain "[I" (some 0) with kind := .array 8 .int, interfaces := #[4, 5], accessFlags := 1041 }

def heap : Heap := #[]
def classes : Array Class := #[k0, k1, k2, k3, k4, k5, k6, k7, k8, k9]
def interned : List (Array UInt16 × Addr) := []
def slotsUsed : Nat := 0
def theMethod : MethodId := ⟨1, 1⟩
def args0 : Array Value := #[.int 5, .int 3, .int 2]
def aboutOver (below : List Frame) : State where
  vm := { classes := classes, interned := interned.toArray }
  heap := heap
  slotsUsed := slotsUsed
  threads := #[{ frames := .invoking theMethod args0 :: below }]
def below0 : List Frame := [.native { method := ⟨0, 0⟩, args := #[] }]
def about1 : State := aboutOver below0
def p0 : Program := .bare "" "" ""
def e0 : Env := launch0.env 0 0 0
theorem w_frames : about1.frames = Frame.invoking theMethod args0 :: below0 := rfl
set_option maxRecDepth 65536 in
theorem w_args : argsFit about1.vm theMethod args0 = true := by decide +kernel
set_option maxRecDepth 65536 in
theorem w_heap : heapFits about1 = true := by decide +kernel
set_option maxRecDepth 65536 in
theorem w_runnable : about1.curStatus? = some .runnable := by decide +kernel
set_option maxRecDepth 65536 in
theorem w_alone : about1.alone = true := by decide +kernel
set_option maxRecDepth 65536 in
theorem w_named : about1.methodNamed? x = some theMethod := by decide +kernel
set_option maxRecDepth 65536 in
theorem w_hears : about1.hears theMethod below0 = true := by decide +kernel
set_option maxRecDepth 65536 in
theorem w_ripe : about1.ripe theMethod args0 below0 = true := by decide +kernel
theorem w_running : about1.status = .running := rfl
set_option maxRecDepth 65536 in
theorem w_room : about1.hasRoom e0.platform room_1 = true :=
  launch0.hasRoom_least _ room_1 (by decide +kernel) (by decide +kernel) (by decide +kernel) (by decide +kernel) (by decide +kernel) (by decide +kernel)
theorem allAtoms_all (ts : List Jvm.Cond) (a : Array Jvm.Value) (st : Jvm.State) : (allAtoms ts).before a st = ts.all (fun c => c.before a st) := by
  induction ts with
  | nil => rfl
  | cons c t ih =>
    show (Jvm.Cond.and c (allAtoms t)).before a st = _
    rw [Jvm.Cond.before_and, ih, List.all_cons]
def words1 : List Jvm.Cond := Jvm.Cond.code x code maxLocals ret :: tables_1
/-- a 'code' word, met by the world's own term for the bytes: nothing is compared byte by byte -/
theorem code_word {y : MethodName} {bytes : ByteArray} {mx : Nat} {rt : Option FieldType} {a : Array Value} {s : State} {m : MethodId} {meth : Method} {c : Code} (h1 : s.methodNamed? y = some m) (h2 : s.vm.method? m = some meth) (h3 : meth.code = some c) (h4 : c.code = bytes)
    (h5 : (c.maxLocals == mx && c.exceptionTable.isEmpty && decide (c.maxStack ≤ mostOperands) && decide (meth.sig.returnType = rt) && !meth.locks && decide (parseMethodDescriptor y.desc = some meth.sig)) = true) : (Jvm.Cond.code y bytes mx rt).before a s = true := by
  simp only [Bool.and_eq_true, beq_iff_eq, Bool.not_eq_true', decide_eq_true_eq] at h5
  obtain ⟨⟨⟨⟨⟨g1, g2⟩, g3⟩, g4⟩, g5⟩, g6⟩ := h5
  simp [Cond.before, Cond.holds, Cond.value, h1, h2, h3, h4, g1, g2, g3, g4, g5, g6]
def isCode : Jvm.Cond → Bool
  | .code _ _ _ _ => true
  | _ => false
theorem all_split {L : List Jvm.Cond} {P : Jvm.Cond → Bool} (h1 : L.all (fun c => isCode c || P c) = true) (h2 : ∀ c ∈ L.filter isCode, P c = true) : L.all P = true := by
  refine List.all_eq_true.mpr fun c hc => ?_
  have h := List.all_eq_true.mp h1 c hc
  rcases Bool.eq_false_or_eq_true (isCode c) with hi | hi
  · exact h2 c (List.mem_filter.mpr ⟨hc, hi⟩)
  · simpa [hi] using h
set_option maxRecDepth 65536 in
theorem w_c0 : (Jvm.Cond.code x code maxLocals ret).before args0 about1 = true := code_word (m := ⟨1, 1⟩) (meth := k1m1) (c := k1c1) (by decide +kernel) rfl rfl rfl (by decide +kernel)
set_option maxRecDepth 65536 in
theorem w_c1 : (Jvm.Cond.code ({ cls := "java/lang/Math", name := "max", desc := "(II)I" } : Jvm.MethodName) jdk_29_method_65_code (2 : Nat) (Option.some Jvm.ClassFile.FieldType.int)).before args0 about1 = true := code_word (m := ⟨2, 1⟩) (meth := k2m1) (c := k2c1) (by decide +kernel) rfl rfl rfl (by decide +kernel)
set_option maxRecDepth 65536 in
theorem w_c2 : (Jvm.Cond.code ({ cls := "com/example/coalesce/coalesce/combining/TreeShape", name := "<init>", desc := "(II)V" } : Jvm.MethodName) prog_12_method_1_code (3 : Nat) (Option.none : Option Jvm.ClassFile.FieldType)).before args0 about1 = true := code_word (m := ⟨3, 0⟩) (meth := k3m0) (c := k3c0) (by decide +kernel) rfl rfl rfl (by decide +kernel)
set_option maxRecDepth 65536 in
theorem w_c3 : (Jvm.Cond.code ({ cls := "java/lang/Object", name := "<init>", desc := "()V" } : Jvm.MethodName) object_method_1_code (1 : Nat) (Option.none : Option Jvm.ClassFile.FieldType)).before args0 about1 = true := code_word (m := ⟨0, 0⟩) (meth := k0m0) (c := k0c0) (by decide +kernel) rfl rfl rfl (by decide +kernel)
set_option maxRecDepth 65536 in
theorem w_c4 : (Jvm.Cond.code ({ cls := "com/example/coalesce/coalesce/combining/TreeShape", name := "size", desc := "()I" } : Jvm.MethodName) prog_12_method_2_code (1 : Nat) (Option.some Jvm.ClassFile.FieldType.int)).before args0 about1 = true := code_word (m := ⟨3, 1⟩) (meth := k3m1) (c := k3c1) (by decide +kernel) rfl rfl rfl (by decide +kernel)
set_option maxRecDepth 65536 in
theorem w_c5 : (Jvm.Cond.code ({ cls := "com/example/coalesce/coalesce/combining/TreeShape", name := "innerCount", desc := "()I" } : Jvm.MethodName) prog_12_method_3_code (1 : Nat) (Option.some Jvm.ClassFile.FieldType.int)).before args0 about1 = true := code_word (m := ⟨3, 2⟩) (meth := k3m2) (c := k3c2) (by decide +kernel) rfl rfl rfl (by decide +kernel)
set_option maxRecDepth 65536 in
theorem w_c6 : (Jvm.Cond.code ({ cls := "com/example/coalesce/coalesce/combining/TreeShape", name := "fanIn", desc := "(I)I" } : Jvm.MethodName) prog_12_method_6_code (2 : Nat) (Option.some Jvm.ClassFile.FieldType.int)).before args0 about1 = true := code_word (m := ⟨3, 3⟩) (meth := k3m3) (c := k3c3) (by decide +kernel) rfl rfl rfl (by decide +kernel)
set_option maxRecDepth 65536 in
theorem w_c7 : (Jvm.Cond.code ({ cls := "java/lang/Math", name := "min", desc := "(II)I" } : Jvm.MethodName) jdk_29_method_69_code (2 : Nat) (Option.some Jvm.ClassFile.FieldType.int)).before args0 about1 = true := code_word (m := ⟨2, 2⟩) (meth := k2m2) (c := k2c2) (by decide +kernel) rfl rfl rfl (by decide +kernel)
def codes1 : List Jvm.Cond := [Jvm.Cond.code x code maxLocals ret, Jvm.Cond.code ({ cls := "java/lang/Math", name := "max", desc := "(II)I" } : Jvm.MethodName) jdk_29_method_65_code (2 : Nat) (Option.some Jvm.ClassFile.FieldType.int), Jvm.Cond.code ({ cls := "com/example/coalesce/coalesce/combining/TreeShape", name := "<init>", desc := "(II)V" } : Jvm.MethodName) prog_12_method_1_code (3 : Nat) (Option.none : Option Jvm.ClassFile.FieldType), Jvm.Cond.code ({ cls := "java/lang/Object", name := "<init>", desc := "()V" } : Jvm.MethodName) object_method_1_code (1 : Nat) (Option.none : Option Jvm.ClassFile.FieldType), Jvm.Cond.code ({ cls := "com/example/coalesce/coalesce/combining/TreeShape", name := "size", desc := "()I" } : Jvm.MethodName) prog_12_method_2_code (1 : Nat) (Option.some Jvm.ClassFile.FieldType.int), Jvm.Cond.code ({ cls := "com/example/coalesce/coalesce/combining/TreeShape", name := "innerCount", desc := "()I" } : Jvm.MethodName) prog_12_method_3_code (1 : Nat) (Option.some Jvm.ClassFile.FieldType.int), Jvm.Cond.code ({ cls := "com/example/coalesce/coalesce/combining/TreeShape", name := "fanIn", desc := "(I)I" } : Jvm.MethodName) prog_12_method_6_code (2 : Nat) (Option.some Jvm.ClassFile.FieldType.int), Jvm.Cond.code ({ cls := "java/lang/Math", name := "min", desc := "(II)I" } : Jvm.MethodName) jdk_29_method_69_code (2 : Nat) (Option.some Jvm.ClassFile.FieldType.int)]
set_option maxRecDepth 65536 in
theorem codes_eq : words1.filter isCode = codes1 := rfl
theorem w_codes : ∀ c ∈ words1.filter isCode, c.before args0 about1 = true := by
  rw [codes_eq]
  intro c hc
  simp only [codes1, List.mem_cons, List.not_mem_nil, or_false] at hc
  rcases hc with rfl | rfl | rfl | rfl | rfl | rfl | rfl | rfl
  · exact w_c0
  · exact w_c1
  · exact w_c2
  · exact w_c3
  · exact w_c4
  · exact w_c5
  · exact w_c6
  · exact w_c7
set_option maxRecDepth 65536 in
theorem w_t1 : (words1.take 24).all (fun c => isCode c || c.before args0 about1) = true := by decide +kernel
set_option maxRecDepth 65536 in
theorem w_t2 : (words1.drop 24).all (fun c => isCode c || c.before args0 about1) = true := by decide +kernel
theorem w_tables : (allAtoms (Jvm.Cond.code x code maxLocals ret :: tables_1)).before args0 about1 = true := by
  rw [allAtoms_all]
  show words1.all (fun c => c.before args0 about1) = true
  refine all_split ?_ w_codes
  rw [← List.take_append_drop 24 words1, List.all_append, w_t1, w_t2]
  rfl
set_option maxRecDepth 65536 in
theorem w_case : (Jvm.Cond.and given_1 narrow_1).before args0 about1 = true := by decide +kernel
theorem w_applies : (headSpec (Jvm.Cond.code x code maxLocals ret :: tables_1) room_1).applies x e0.platform about1 = true :=
  (Spec.applies_iff w_frames).mpr ⟨w_running, w_runnable, w_alone, w_named, w_hears, w_ripe, w_room, w_tables⟩
theorem atStart : AtStart classFile x code maxLocals ret World_1 tables_1 room_1 Calls_1 rest_1 Pre_1 launch0 p0 e0 about1 theMethod args0 below0 :=
  ⟨lists_1, trivial, launch0.admits_env _ _ _, launch0.least_env, fairChoices_fair.cas, fairChoices_fair.clock, w_frames, w_args, w_heap, w_applies, trivial, trivial, w_case⟩
end start1
theorem witness_1 : WitnessClaimed_1 := ⟨start1.p0, start1.e0, start1.about1, start1.theMethod, start1.args0, start1.below0, start1.atStart⟩
end Jvm.Pilot.@@N@@
