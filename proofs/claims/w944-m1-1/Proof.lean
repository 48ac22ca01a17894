import JvmDerived
import JvmDerived.Pilot.@@N@@Statement
import JvmDerived.Pilot.@@N@@Code
set_option linter.unusedVariables false
set_option linter.unusedSimpArgs false
@@BLOCK:NumsL.lean.txt@@
namespace Jvm.Pilot.@@N@@
open Jvm Jvm.ClassFile Sem Op Lib Jvm.Free Jvm.Stand Jvm.LawKit Jvm.RoadKit Bundle Jvm.Pilot.@@N@@.Jvm.D
section OwnKit
variable {p : Program} {l : Launch} {e : Env} {R : Room} {s : State} {m : MethodId} {args : Array Value} {below : List Frame} {meth : Method} {c : Code} {T T' : State} {locs : List Loc} {cells slots : Nat} {Z : State} {a0 : Array Value} {h h' : Heap} {g g' : JFrame} {K : Outcome → State → Prop} {a b : Addr}
/-- from the frame g over T the run comes home with K -/
def Goes (p : Program) (e : Env) (below : List Frame) (K : Outcome → State → Prop) (T : State) (g : JFrame) : Prop :=
  ∃ s₂ o, Steps p.tables e below (T.setTop g) s₂ ∧ s₂.status = .running ∧ Ended s₂ below o ∧ K o s₂
theorem Goes.of (f : ∀ t, Steps p.tables e below (T'.setTop g') t → Steps p.tables e below (T.setTop g) t) (h : Goes p e below K T' g') : Goes p e below K T g := by
  obtain ⟨s₂, o, h1, h2⟩ := h; exact ⟨s₂, o, f _ h1, h2⟩
theorem Goes.tr (f : Steps p.tables e below (T.setTop g) (T'.setTop g')) (h : Goes p e below K T' g') : Goes p e below K T g := by
  obtain ⟨s₂, o, h1, h2⟩ := h; exact ⟨s₂, o, f.trans h1, h2⟩
theorem Goes.cast (q : g = g') (h : Goes p e below K T g') : Goes p e below K T g := q ▸ h
def OwnK (s : State) (Q : Option Value → Heap → List Loc → Prop) (C S : Nat) : Outcome → State → Prop := fun o U' => ∃ v L, o = .returned v ∧ Q v U'.heap L ∧ FrameEnd s o U' L C S
section Ret
variable {Q : Option Value → Heap → List Loc → Prop} {C S pc : Nat} {Ls : Array Slot} {rest : List Value}
theorem Goes.retInt (X : Stand p l e R s m args below meth c T locs cells slots) (hx : p.tables.exec = Jvm.exec) (hlk : meth.locks = false) {z : Int32} (hret : meth.sig.returnType = some .int) (hd : decode c.code pc = .ok (.ireturn, 1)) (hQ : Q (some (.int z)) T.heap locs) (hc : cells ≤ C) (hs : slots ≤ S) :
    Goes p e below (OwnK s Q C S) T (mkF m pc Ls (.int z :: rest)) := by
  obtain ⟨fs, hr, hrun, hended, hW, hsame⟩ := X.leave (v := some (.int z)) (fun h => by rw [hret] at h; cases h) hlk
  exact ⟨_, _, retOut X hx hret rfl (Or.inl ⟨rfl, Or.inl rfl, z, rfl⟩) hd hr, hrun, hended, _, _, rfl, hQ, ⟨_, rfl⟩, hW, hsame.mono hc hs⟩
theorem Goes.retNar (X : Stand p l e R s m args below meth c T locs cells slots) (hx : p.tables.exec = Jvm.exec) (hlk : meth.locks = false) {t : FieldType} {z : Int32} (ht : t = .boolean ∨ t = .byte ∨ t = .char ∨ t = .short) (hret : meth.sig.returnType = some t) (hd : decode c.code pc = .ok (.ireturn, 1)) (hQ : Q (some (.int (nar t z))) T.heap locs) (hc : cells ≤ C) (hs : slots ≤ S) :
    Goes p e below (OwnK s Q C S) T (mkF m pc Ls (.int z :: rest)) := by
  obtain ⟨fs, hr, hrun, hended, hW, hsame⟩ := X.leave (v := some (.int (nar t z))) (fun h => by rw [hret] at h; cases h) hlk
  exact ⟨_, _, retN X hx hret ht hd hr, hrun, hended, _, _, rfl, hQ, ⟨_, rfl⟩, hW, hsame.mono hc hs⟩
theorem Goes.retLong (X : Stand p l e R s m args below meth c T locs cells slots) (hx : p.tables.exec = Jvm.exec) (hlk : meth.locks = false) {z : Int64} (hret : meth.sig.returnType = some .long) (hd : decode c.code pc = .ok (.lreturn, 1)) (hQ : Q (some (.long z)) T.heap locs) (hc : cells ≤ C) (hs : slots ≤ S) :
    Goes p e below (OwnK s Q C S) T (mkF m pc Ls (.long z :: rest)) := by
  obtain ⟨fs, hr, hrun, hended, hW, hsame⟩ := X.leave (v := some (.long z)) (fun h => by rw [hret] at h; cases h) hlk
  exact ⟨_, _, retOut X hx hret rfl (Or.inr (Or.inl ⟨rfl, rfl, z, rfl⟩)) hd hr, hrun, hended, _, _, rfl, hQ, ⟨_, rfl⟩, hW, hsame.mono hc hs⟩
theorem Goes.retRef (X : Stand p l e R s m args below meth c T locs cells slots) (hx : p.tables.exec = Jvm.exec) (hlk : meth.locks = false) {t : FieldType} {w : Value} (hw : w.isRef = true) (ht : t.isReference = true) (hret : meth.sig.returnType = some t) (hd : decode c.code pc = .ok (.areturn, 1)) (hQ : Q (some w) T.heap locs) (hc : cells ≤ C) (hs : slots ≤ S) :
    Goes p e below (OwnK s Q C S) T (mkF m pc Ls (w :: rest)) := by
  obtain ⟨fs, hr, hrun, hended, hW, hsame⟩ := X.leave (v := some w) (fun h => by rw [hret] at h; cases h) hlk
  have hn : narrow t w = w := by cases t <;> first | (cases ht; done) | (cases w <;> first | (cases hw; done) | rfl)
  exact ⟨_, _, retOut X hx hret hn (Or.inr (Or.inr (Or.inr (Or.inr ⟨rfl, ht, hw⟩)))) hd hr, hrun, hended, _, _, rfl, hQ, ⟨_, rfl⟩, hW, hsame.mono hc hs⟩
theorem Goes.retVoid (X : Stand p l e R s m args below meth c T locs cells slots) (hx : p.tables.exec = Jvm.exec) (hlk : meth.locks = false) (hret : meth.sig.returnType = none) (hd : decode c.code pc = .ok (.return_, 1)) (hQ : Q none T.heap locs) (hc : cells ≤ C) (hs : slots ≤ S) :
    Goes p e below (OwnK s Q C S) T (mkF m pc Ls []) := by
  obtain ⟨fs, hr, hrun, hended, hW, hsame⟩ := X.leave (v := none) (fun _ => rfl) hlk
  exact ⟨_, _, X.returnOut hx hret hd hr, hrun, hended, _, _, rfl, hQ, ⟨_, rfl⟩, hW, hsame.mono hc hs⟩
end Ret
/-- an array of ints, chars, bytes (not of booleans): all of its elements -/
def AI (Z : State) (h : Heap) (a : Addr) (ty : FieldType) (xs : List Int32) : Prop := ∃ cl : Cell, Arr Z h a cl ty ∧ cl.slots.toList = xs.map Value.int ∧ xs.length < 2 ^ 31 ∧ ∀ x ∈ xs, fits ty (.int x) = true
section Arrs
variable {ty : FieldType} {xs : List Int32} {sl : Nat} {v : Value} {ws : List Addr} {j x : Int32} {i : Nat} {rest : List Value}
theorem AI.lt (F : AI Z h a ty xs) : a < h.size := by obtain ⟨cl, A, -⟩ := F; exact A.lt
theorem AI.ext (F : AI Z h a ty xs) (E : Ext h h') : AI Z h' a ty xs := by obtain ⟨cl, A, r⟩ := F; exact ⟨cl, A.ext E, r⟩
theorem AI.other (F : AI Z h b ty xs) (W : Wr h h' a sl v) (q : b ≠ a) : AI Z h' b ty xs := by obtain ⟨cl, A, r⟩ := F; exact ⟨cl, A.other W q, r⟩
theorem AI.keep (F : AI Z h a ty xs) (K : Keep h h' ws) (q : a ∉ ws) : AI Z h' a ty xs := by obtain ⟨cl, A, r⟩ := F; exact ⟨cl, ⟨K.2.1 a cl A.1 q, A.2⟩, r⟩
theorem own_idx {cl : Cell} (hsz : cl.slots.toList = xs.map Value.int) (hj : j.toInt = (i : Int)) (hi : i < xs.length) : ¬ (j < 0 ∨ cl.slots.size ≤ j.toNatClampNeg) ∧ j.toNatClampNeg = i := by
  have hl : cl.slots.size = xs.length := by rw [← Array.length_toList, hsz, List.length_map]
  have hn : j.toNatClampNeg = i := by simp only [Int32.toNatClampNeg, hj]; rfl
  refine ⟨?_, hn⟩
  rw [hn, hl, Int32.lt_iff_toInt_lt, hj]
  have e0 : (0 : Int32).toInt = 0 := rfl
  omega
theorem own_at {cl : Cell} (hsz : cl.slots.toList = xs.map Value.int) (hi : xs[i]? = some x) : cl.slots[i]? = some (.int x) := by
  rw [← Array.getElem?_toList, hsz, List.getElem?_map, hi]; rfl
theorem AI.iaload (X : Stand p l e R s m args below meth c T locs cells slots) (hx : p.tables.exec = Jvm.exec) (hZ : Z.Warmed39 s.vm) (eT : T.heap = h) (A : AI Z h a .int xs) (hj : j.toInt = (i : Int)) (hi : xs[i]? = some x) (hg : g.method = m) (hs : g.stack = .int j :: .ref a :: rest) (hd : decode c.code g.pc = .ok (.iaload, 1)) :
    ∀ t, Steps p.tables e below (T.setTop { g with pc := g.pc + 1, stack := .int x :: rest }) t → Steps p.tables e below (T.setTop g) t := by
  obtain ⟨cl, A1, h1, h2, h3⟩ := A
  obtain ⟨q1, q2⟩ := own_idx h1 hj (List.getElem?_eq_some_iff.mp hi).1
  exact X.iaload hx (by rw [eT]; exact A1.1) (State.isArrayOf_alike hZ.alike A1.2.1) A1.2.2 q1 (by rw [q2]; exact own_at h1 hi) hg hs hd
theorem AI.caload (X : Stand p l e R s m args below meth c T locs cells slots) (hx : p.tables.exec = Jvm.exec) (hZ : Z.Warmed39 s.vm) (eT : T.heap = h) (A : AI Z h a .char xs) (hj : j.toInt = (i : Int)) (hi : xs[i]? = some x) (hg : g.method = m) (hs : g.stack = .int j :: .ref a :: rest) (hd : decode c.code g.pc = .ok (.caload, 1)) :
    ∀ t, Steps p.tables e below (T.setTop { g with pc := g.pc + 1, stack := .int x :: rest }) t → Steps p.tables e below (T.setTop g) t := by
  obtain ⟨cl, A1, h1, h2, h3⟩ := A
  obtain ⟨q1, q2⟩ := own_idx h1 hj (List.getElem?_eq_some_iff.mp hi).1
  exact X.caload hx (by rw [eT]; exact A1.1) (State.isArrayOf_alike hZ.alike A1.2.1) A1.2.2 q1 (by rw [q2]; exact own_at h1 hi) hg hs hd
theorem AI.baload (X : Stand p l e R s m args below meth c T locs cells slots) (hx : p.tables.exec = Jvm.exec) (hZ : Z.Warmed39 s.vm) (eT : T.heap = h) (A : AI Z h a .byte xs) (hj : j.toInt = (i : Int)) (hi : xs[i]? = some x) (hg : g.method = m) (hs : g.stack = .int j :: .ref a :: rest) (hd : decode c.code g.pc = .ok (.baload, 1)) :
    ∀ t, Steps p.tables e below (T.setTop { g with pc := g.pc + 1, stack := .int x :: rest }) t → Steps p.tables e below (T.setTop g) t := by
  obtain ⟨cl, A1, h1, h2, h3⟩ := A
  obtain ⟨q1, q2⟩ := own_idx h1 hj (List.getElem?_eq_some_iff.mp hi).1
  exact X.baloadBytes hx (by rw [eT]; exact A1.1) (State.isArrayOf_alike hZ.alike A1.2.1) A1.2.2 q1 (by rw [q2]; exact own_at h1 hi) hg hs hd
theorem AI.arraylength (X : Stand p l e R s m args below meth c T locs cells slots) (hx : p.tables.exec = Jvm.exec) (hZ : Z.Warmed39 s.vm) (eT : T.heap = h) (A : AI Z h a ty xs) (hj : j.toInt = (xs.length : Int)) (hg : g.method = m) (hs : g.stack = .ref a :: rest) (hd : decode c.code g.pc = .ok (.arraylength, 1)) :
    ∀ t, Steps p.tables e below (T.setTop { g with pc := g.pc + 1, stack := .int j :: rest }) t → Steps p.tables e below (T.setTop g) t := by
  obtain ⟨cl, A1, h1, h2, h3⟩ := A
  intro t k
  have hl : cl.slots.size = xs.length := by rw [← Array.length_toList, h1, List.length_map]
  have ej : cl.slots.size.toInt32 = j := by
    rw [hl]
    apply Int32.toInt_inj.mp
    rw [hj]; exact len_toInt h2
  refine X.arraylength hx (by rw [eT]; exact A1.1) (State.isArrayOf_alike hZ.alike A1.2.1) hg hs hd t ?_
  rw [ej]; exact k
theorem own_set {cl : Cell} (A : Arr Z h a cl ty) (h1 : cl.slots.toList = xs.map Value.int) (h2 : xs.length < 2 ^ 31) (h3 : ∀ x ∈ xs, fits ty (.int x) = true) (hf : fits ty (.int x) = true) (W : Wr h h' a i (.int x)) : AI Z h' a ty (xs.set i x) :=
  ⟨_, A.same W, by simp [Cell.setSlot, h1, List.map_set], by rw [List.length_set]; exact h2, fun y hy => by
    rcases List.mem_or_eq_of_mem_set hy with q | q
    · exact h3 y q
    · rw [q]; exact hf⟩
theorem AI.iastore (X : Stand p l e R s m args below meth c T locs cells slots) (hx : p.tables.exec = Jvm.exec) (hZ : Z.Warmed39 s.vm) (eT : T.heap = h) (A : AI Z h a .int xs) (hj : j.toInt = (i : Int)) (hi : i < xs.length) (hg : g.method = m) (hs : g.stack = .int x :: .int j :: .ref a :: rest) (hd : decode c.code g.pc = .ok (.iastore, 1)) :
    ∃ T' h', Stand p l e R s m args below meth c T' (locs ++ [⟨a, i⟩]) cells slots ∧ T'.heap = h' ∧ Wr h h' a i (.int x) ∧ AI Z h' a .int (xs.set i x) ∧ ∀ target, Steps p.tables e below (T'.setTop { g with pc := g.pc + 1, stack := rest }) target → Steps p.tables e below (T.setTop g) target := by
  obtain ⟨cl, A1, h1, h2, h3⟩ := A
  obtain ⟨q1, q2⟩ := own_idx h1 hj hi
  obtain ⟨T', h', X', e', W', st⟩ := stI X hx hZ eT A1 q1 hg hs hd
  rw [q2] at X' W'
  exact ⟨T', h', X', e', W', own_set A1 h1 h2 h3 rfl W', st⟩
theorem AI.castore (X : Stand p l e R s m args below meth c T locs cells slots) (hx : p.tables.exec = Jvm.exec) (hZ : Z.Warmed39 s.vm) (eT : T.heap = h) (A : AI Z h a .char xs) (hj : j.toInt = (i : Int)) (hi : i < xs.length) (hg : g.method = m) (hs : g.stack = .int x :: .int j :: .ref a :: rest) (hd : decode c.code g.pc = .ok (.castore, 1)) :
    ∃ T' h', Stand p l e R s m args below meth c T' (locs ++ [⟨a, i⟩]) cells slots ∧ T'.heap = h' ∧ Wr h h' a i (.int (nar .char x)) ∧ AI Z h' a .char (xs.set i (nar .char x)) ∧ ∀ target, Steps p.tables e below (T'.setTop { g with pc := g.pc + 1, stack := rest }) target → Steps p.tables e below (T.setTop g) target := by
  obtain ⟨cl, A1, h1, h2, h3⟩ := A
  obtain ⟨q1, q2⟩ := own_idx h1 hj hi
  obtain ⟨T', h', X', e', W', st⟩ := stC X hx hZ eT A1 q1 hg hs hd
  rw [q2] at X' W'
  exact ⟨T', h', X', e', W', own_set A1 h1 h2 h3 (fits_nar_char _) W', st⟩
theorem AI.bastore (X : Stand p l e R s m args below meth c T locs cells slots) (hx : p.tables.exec = Jvm.exec) (hZ : Z.Warmed39 s.vm) (eT : T.heap = h) (A : AI Z h a .byte xs) (hj : j.toInt = (i : Int)) (hi : i < xs.length) (hg : g.method = m) (hs : g.stack = .int x :: .int j :: .ref a :: rest) (hd : decode c.code g.pc = .ok (.bastore, 1)) :
    ∃ T' h', Stand p l e R s m args below meth c T' (locs ++ [⟨a, i⟩]) cells slots ∧ T'.heap = h' ∧ Wr h h' a i (.int (nar .byte x)) ∧ AI Z h' a .byte (xs.set i (nar .byte x)) ∧ ∀ target, Steps p.tables e below (T'.setTop { g with pc := g.pc + 1, stack := rest }) target → Steps p.tables e below (T.setTop g) target := by
  obtain ⟨cl, A1, h1, h2, h3⟩ := A
  obtain ⟨q1, q2⟩ := own_idx h1 hj hi
  obtain ⟨T', h', X', e', W', st⟩ := stB X hx hZ eT A1 q1 hg hs hd
  rw [q2] at X' W'
  exact ⟨T', h', X', e', W', own_set A1 h1 h2 h3 (fits_nar_byte _) W', st⟩
theorem AI.fresh {cA : ClassId} {n : Int32} {k : Nat} (ht : ty = .int ∨ ty = .char ∨ ty = .byte ∨ ty = .short) (hn : n.toInt = (k : Int)) (A : Arr Z h a (newA cA ty n) ty) : AI Z h a ty (List.replicate k 0) := by
  have e : n.toNatClampNeg = k := by simp only [Int32.toNatClampNeg, hn]; rfl
  have hk := n.toInt_lt
  refine ⟨_, A, ?_, ?_, ?_⟩
  · rcases ht with rfl | rfl | rfl | rfl <;> simp [newA, e, defaultValue]
  · rw [List.length_replicate]; omega
  · intro x hx
    obtain rfl := List.eq_of_mem_replicate hx
    rcases ht with rfl | rfl | rfl | rfl <;> rfl
end Arrs
end OwnKit
def f1 (p1 : Int32) (p2 : Int32) : Int32 := if p2 = (0 : Int32) then ((p1 % (7 : Int32)) + (5 : Int32)) else p1
theorem d1_0 : decode method_2_code 0 = .ok (.iload_n 1, 1) := by decide +kernel
theorem d1_1 : decode method_2_code 1 = .ok (.ifCond .eq 7, 3) := by decide +kernel
theorem d1_4 : decode method_2_code 4 = .ok (.iload_n 0, 1) := by decide +kernel
theorem d1_5 : decode method_2_code 5 = .ok (.goto 9, 3) := by decide +kernel
theorem d1_8 : decode method_2_code 8 = .ok (.iload_n 0, 1) := by decide +kernel
theorem d1_9 : decode method_2_code 9 = .ok (.bipush 7, 2) := by decide +kernel
theorem d1_11 : decode method_2_code 11 = .ok (.irem, 1) := by decide +kernel
theorem d1_12 : decode method_2_code 12 = .ok (.iconst 5, 1) := by decide +kernel
theorem d1_13 : decode method_2_code 13 = .ok (.iadd, 1) := by decide +kernel
theorem d1_14 : decode method_2_code 14 = .ok (.ireturn, 1) := by decide +kernel
theorem pn_1 : plainFor (⟨"com/example/turnwire/turnwire/glendy/CellIsOnBoardPinLaw", "coord", "(IZ)I"⟩ : MethodName) = true := plainFor_of_name (by first | (simp [plainName, overriddenIn]; done) | decide +kernel)
theorem ef_1 (m : MethodId) (x0 : Int32) (x1 : Int32) : entryFrame m #[(.int x0), (.int x1)] 2 = mkF m 0 #[.val (.int x0), .val (.int x1)] [] := by first | (simp [entryFrame, mkF, argsToLocals, Value.category]; done) | rfl
def Q1 (Z : State) (p1 : Int32) (p2 : Int32) (h0 : Heap) (n0 : Nat) (v : Option Value) (h : Heap) (L : List Loc) : Prop := v = some (.int (f1 p1 p2)) ∧ Fr n0 L ∧ h = h0
set_option maxRecDepth 65536 in
set_option maxHeartbeats 40000000 in
theorem rm1 (l : Launch) (Z : State) (a0 : Array Value) (hw : ∀ d ∈ tables_1, d.before a0 Z = true) (ws : List Jvm.Cond) (p1 : Int32) (p2 : Int32) (h0 : Heap) (n0 : Nat) (Z0 : n0 ≤ h0.size) :
    MetFree l (⟨"com/example/turnwire/turnwire/glendy/CellIsOnBoardPinLaw", "coord", "(IZ)I"⟩ : MethodName) (head1 (Jvm.Cond.code (⟨"com/example/turnwire/turnwire/glendy/CellIsOnBoardPinLaw", "coord", "(IZ)I"⟩ : MethodName) method_2_code 2 (some .int) :: ws) ({ frames := 0, cells := 0, slots := 0, locals := 0 } : Room)) (fun a U => a = #[(.int p1), (.int p2)] ∧ Z.Warmed39 U.vm ∧ U.heap = h0) (fun _ _ _ _ _ => True) (fun _ U o U' => ∃ v L, o = .returned v ∧ Q1 Z p1 p2 h0 n0 v U'.heap L ∧ FrameEnd U o U' L ({ frames := 0, cells := 0, slots := 0, locals := 0 } : Room).cells ({ frames := 0, cells := 0, slots := 0, locals := 0 } : Room).slots) := by
  refine MetFree.of_bodySF pn_1 hisR ?_
  intro p e s m args below meth c s₁ Bd hml0 hP hK
  obtain ⟨rfl, hZ, hh⟩ := hP
  have hx := Bd.exec
  have hby := Bd.bytes
  have hml : c.maxLocals = 2 := hml0
  have hown : s.vm.findClass "com/example/turnwire/turnwire/glendy/CellIsOnBoardPinLaw" = some m.cls := findClass_of_methodNamed Bd.named
  have hnm := (name_of_methodNamed Bd.named Bd.method).1
  have hlk : meth.locks = false := BodyLoose.notSynchronized Bd
  have X0 : Stand p l e ({ frames := 0, cells := 0, slots := 0, locals := 0 } : Room) s m #[(.int p1), (.int p2)] below meth c s₁ [] 0 0 := Stand.of_body Bd
  have e0 : s₁.heap = h0 := by rw [← hh, Bd.state]; rfl
  have N0 := Fr.nil n0
  show Goes p e below (OwnK s (Q1 Z p1 p2 h0 n0) ({ frames := 0, cells := 0, slots := 0, locals := 0 } : Room).cells ({ frames := 0, cells := 0, slots := 0, locals := 0 } : Room).slots) s₁ (entryFrame m #[(.int p1), (.int p2)] 2)
  refine Goes.cast (ef_1 m p1 p2) ?_
  generalize hKK : OwnK s (Q1 Z p1 p2 h0 n0) ({ frames := 0, cells := 0, slots := 0, locals := 0 } : Room).cells ({ frames := 0, cells := 0, slots := 0, locals := 0 } : Room).slots = KK
  show Goes p e below KK s₁ (mkF m 0 #[.val (.int p1), .val (.int p2)] [])
  refine Goes.of (fun t => XS.iloadN X0.here hx rfl (hb hby d1_0) rfl) ?_
  show Goes p e below KK s₁ (mkF m 1 #[.val (.int p1), .val (.int p2)] [(.int p2)])
  by_cases hc1 : p2 = (0 : Int32)
  · refine Goes.of (fun t => XS.ifYes X0.here hx rfl (pc0 := 1) (pc' := 8) rfl (hb hby d1_1) rfl ((if0 _ _).trans (teq hc1).1) (by decide) (by decide)) ?_
    show Goes p e below KK s₁ (mkF m 8 #[.val (.int p1), .val (.int p2)] [])
    refine Goes.of (fun t => XS.iloadN X0.here hx rfl (hb hby d1_8) rfl) ?_
    show Goes p e below KK s₁ (mkF m 9 #[.val (.int p1), .val (.int p2)] [(.int p1)])
    refine Goes.of (fun t => XS.bipush X0.here hx rfl (hb hby d1_9)) ?_
    show Goes p e below KK s₁ (mkF m 11 #[.val (.int p1), .val (.int p2)] [(.int (7 : Int32)), (.int p1)])
    refine Goes.of (fun t => iremM X0 hx rfl (hb hby d1_11) rfl (by decide)) ?_
    show Goes p e below KK s₁ (mkF m 12 #[.val (.int p1), .val (.int p2)] [(.int (p1 % (7 : Int32)))])
    refine Goes.of (fun t => XS.iconst X0.here hx rfl (hb hby d1_12)) ?_
    show Goes p e below KK s₁ (mkF m 13 #[.val (.int p1), .val (.int p2)] [(.int (5 : Int32)), (.int (p1 % (7 : Int32)))])
    refine Goes.of (fun t => XS.iadd X0.here hx rfl (hb hby d1_13) rfl) ?_
    show Goes p e below KK s₁ (mkF m 14 #[.val (.int p1), .val (.int p2)] [(.int ((p1 % (7 : Int32)) + (5 : Int32)))])
    rw [← hKK]
    refine Goes.retInt X0 hx hlk Bd.returns (hb hby d1_14) ?_ (by decide) (by decide)
    rw [e0]
    exact ⟨by unfold f1; rw [if_pos hc1] <;> rfl, N0, rfl⟩
  · refine Goes.of (fun t => XS.ifNo X0.here hx rfl (hb hby d1_1) rfl ((if0 _ _).trans (feq hc1).1)) ?_
    show Goes p e below KK s₁ (mkF m 4 #[.val (.int p1), .val (.int p2)] [])
    refine Goes.of (fun t => XS.iloadN X0.here hx rfl (hb hby d1_4) rfl) ?_
    show Goes p e below KK s₁ (mkF m 5 #[.val (.int p1), .val (.int p2)] [(.int p1)])
    refine Goes.of (fun t => XS.goto X0.here hx rfl (pc0 := 5) (pc' := 14) rfl (hb hby d1_5) (by decide) (by decide)) ?_
    show Goes p e below KK s₁ (mkF m 14 #[.val (.int p1), .val (.int p2)] [(.int p1)])
    rw [← hKK]
    refine Goes.retInt X0 hx hlk Bd.returns (hb hby d1_14) ?_ (by decide) (by decide)
    rw [e0]
    exact ⟨by unfold f1; rw [if_neg hc1] <;> rfl, N0, rfl⟩
def f5 (p1 : Int32) : Int32 := if (XT.cmpL ((p1.toInt64) &&& (4294967295 : Int64)) (11 : Int64)) < (0 : Int32) then (1 : Int32) else (0 : Int32)
theorem d5_0 : decode method_3_code 0 = .ok (.iload_n 0, 1) := by decide +kernel
theorem d5_1 : decode method_3_code 1 = .ok (.i2l, 1) := by decide +kernel
theorem d5_2 : decode method_3_code 2 = .ok (.ldc2_w 7, 3) := by decide +kernel
theorem d5_5 : decode method_3_code 5 = .ok (.land, 1) := by decide +kernel
theorem d5_6 : decode method_3_code 6 = .ok (.ldc2_w 9, 3) := by decide +kernel
theorem d5_9 : decode method_3_code 9 = .ok (.lcmp, 1) := by decide +kernel
theorem d5_10 : decode method_3_code 10 = .ok (.ifCond .ge 7, 3) := by decide +kernel
theorem d5_13 : decode method_3_code 13 = .ok (.iconst 1, 1) := by decide +kernel
theorem d5_14 : decode method_3_code 14 = .ok (.goto 4, 3) := by decide +kernel
theorem d5_17 : decode method_3_code 17 = .ok (.iconst 0, 1) := by decide +kernel
theorem d5_18 : decode method_3_code 18 = .ok (.ireturn, 1) := by decide +kernel
theorem pn_5 : plainFor (⟨"com/example/turnwire/turnwire/glendy/CellIsOnBoardPinLaw", "inSide", "(I)Z"⟩ : MethodName) = true := plainFor_of_name (by first | (simp [plainName, overriddenIn]; done) | decide +kernel)
theorem ef_5 (m : MethodId) (x0 : Int32) : entryFrame m #[(.int x0)] 1 = mkF m 0 #[.val (.int x0)] [] := by first | (simp [entryFrame, mkF, argsToLocals, Value.category]; done) | rfl
def Q5 (Z : State) (p1 : Int32) (h0 : Heap) (n0 : Nat) (v : Option Value) (h : Heap) (L : List Loc) : Prop := v = some (.int (f5 p1)) ∧ Fr n0 L ∧ h = h0
set_option maxRecDepth 65536 in
set_option maxHeartbeats 40000000 in
theorem rm5 (l : Launch) (Z : State) (a0 : Array Value) (hw : ∀ d ∈ tables_1, d.before a0 Z = true) (ws : List Jvm.Cond) (p1 : Int32) (h0 : Heap) (n0 : Nat) (Z0 : n0 ≤ h0.size) :
    MetFree l (⟨"com/example/turnwire/turnwire/glendy/CellIsOnBoardPinLaw", "inSide", "(I)Z"⟩ : MethodName) (head1 (Jvm.Cond.code (⟨"com/example/turnwire/turnwire/glendy/CellIsOnBoardPinLaw", "inSide", "(I)Z"⟩ : MethodName) method_3_code 1 (some .boolean) :: ws) ({ frames := 0, cells := 0, slots := 0, locals := 0 } : Room)) (fun a U => a = #[(.int p1)] ∧ Z.Warmed39 U.vm ∧ U.heap = h0) (fun _ _ _ _ _ => True) (fun _ U o U' => ∃ v L, o = .returned v ∧ Q5 Z p1 h0 n0 v U'.heap L ∧ FrameEnd U o U' L ({ frames := 0, cells := 0, slots := 0, locals := 0 } : Room).cells ({ frames := 0, cells := 0, slots := 0, locals := 0 } : Room).slots) := by
  refine MetFree.of_bodySF pn_5 hisR ?_
  intro p e s m args below meth c s₁ Bd hml0 hP hK
  obtain ⟨rfl, hZ, hh⟩ := hP
  have hx := Bd.exec
  have hby := Bd.bytes
  have hml : c.maxLocals = 1 := hml0
  have hown : s.vm.findClass "com/example/turnwire/turnwire/glendy/CellIsOnBoardPinLaw" = some m.cls := findClass_of_methodNamed Bd.named
  have hnm := (name_of_methodNamed Bd.named Bd.method).1
  have hlk : meth.locks = false := BodyLoose.notSynchronized Bd
  have X0 : Stand p l e ({ frames := 0, cells := 0, slots := 0, locals := 0 } : Room) s m #[(.int p1)] below meth c s₁ [] 0 0 := Stand.of_body Bd
  have e0 : s₁.heap = h0 := by rw [← hh, Bd.state]; rfl
  have N0 := Fr.nil n0
  show Goes p e below (OwnK s (Q5 Z p1 h0 n0) ({ frames := 0, cells := 0, slots := 0, locals := 0 } : Room).cells ({ frames := 0, cells := 0, slots := 0, locals := 0 } : Room).slots) s₁ (entryFrame m #[(.int p1)] 1)
  refine Goes.cast (ef_5 m p1) ?_
  generalize hKK : OwnK s (Q5 Z p1 h0 n0) ({ frames := 0, cells := 0, slots := 0, locals := 0 } : Room).cells ({ frames := 0, cells := 0, slots := 0, locals := 0 } : Room).slots = KK
  show Goes p e below KK s₁ (mkF m 0 #[.val (.int p1)] [])
  have w_25 := hw _ (List.mem_of_getElem? (i := 25) rfl)
  have w_26 := hw _ (List.mem_of_getElem? (i := 26) rfl)
  refine Goes.of (fun t => XS.iloadN X0.here hx rfl (hb hby d5_0) rfl) ?_
  show Goes p e below KK s₁ (mkF m 1 #[.val (.int p1)] [(.int p1)])
  refine Goes.of (fun t => XT.i2l X0.here hx rfl (hb hby d5_1) rfl) ?_
  show Goes p e below KK s₁ (mkF m 2 #[.val (.int p1)] [(.long (p1.toInt64))])
  refine Goes.of (X0.ldc2Long hx hown (mvT hZ w_25) (g := (mkF m 2 #[.val (.int p1)] [(.long (p1.toInt64))])) rfl (hb hby d5_2)) ?_
  show Goes p e below KK s₁ (mkF m 5 #[.val (.int p1)] [(.long (4294967295 : Int64)), (.long (p1.toInt64))])
  refine Goes.of (fun t => XT.land X0.here hx rfl (hb hby d5_5) rfl) ?_
  show Goes p e below KK s₁ (mkF m 6 #[.val (.int p1)] [(.long ((p1.toInt64) &&& (4294967295 : Int64)))])
  refine Goes.of (X0.ldc2Long hx hown (mvT hZ w_26) (g := (mkF m 6 #[.val (.int p1)] [(.long ((p1.toInt64) &&& (4294967295 : Int64)))])) rfl (hb hby d5_6)) ?_
  show Goes p e below KK s₁ (mkF m 9 #[.val (.int p1)] [(.long (11 : Int64)), (.long ((p1.toInt64) &&& (4294967295 : Int64)))])
  refine Goes.of (fun t => XT.lcmp X0.here hx rfl (hb hby d5_9) rfl) ?_
  show Goes p e below KK s₁ (mkF m 10 #[.val (.int p1)] [(.int (XT.cmpL ((p1.toInt64) &&& (4294967295 : Int64)) (11 : Int64)))])
  by_cases hc10 : (XT.cmpL ((p1.toInt64) &&& (4294967295 : Int64)) (11 : Int64)) < (0 : Int32)
  · refine Goes.of (fun t => XS.ifNo X0.here hx rfl (hb hby d5_10) rfl ((if0 _ _).trans (tlt hc10).2.1)) ?_
    show Goes p e below KK s₁ (mkF m 13 #[.val (.int p1)] [])
    refine Goes.of (fun t => XS.iconst X0.here hx rfl (hb hby d5_13)) ?_
    show Goes p e below KK s₁ (mkF m 14 #[.val (.int p1)] [(.int (1 : Int32))])
    refine Goes.of (fun t => XS.goto X0.here hx rfl (pc0 := 14) (pc' := 18) rfl (hb hby d5_14) (by decide) (by decide)) ?_
    show Goes p e below KK s₁ (mkF m 18 #[.val (.int p1)] [(.int (1 : Int32))])
    rw [← hKK]
    refine Goes.retNar X0 hx hlk (t := .boolean) (by simp) Bd.returns (hb hby d5_18) ?_ (by decide) (by decide)
    rw [e0]
    exact ⟨by unfold f5; rw [if_pos hc10] <;> rfl, N0, rfl⟩
  · refine Goes.of (fun t => XS.ifYes X0.here hx rfl (pc0 := 10) (pc' := 17) rfl (hb hby d5_10) rfl ((if0 _ _).trans (flt hc10).2.1) (by decide) (by decide)) ?_
    show Goes p e below KK s₁ (mkF m 17 #[.val (.int p1)] [])
    refine Goes.of (fun t => XS.iconst X0.here hx rfl (hb hby d5_17)) ?_
    show Goes p e below KK s₁ (mkF m 18 #[.val (.int p1)] [(.int (0 : Int32))])
    rw [← hKK]
    refine Goes.retNar X0 hx hlk (t := .boolean) (by simp) Bd.returns (hb hby d5_18) ?_ (by decide) (by decide)
    rw [e0]
    exact ⟨by unfold f5; rw [if_neg hc10] <;> rfl, N0, rfl⟩
theorem d3_0 : decode jdk_30_method_1_code 0 = .ok (.aload_n 0, 1) := by decide +kernel
theorem d3_1 : decode jdk_30_method_1_code 1 = .ok (.invokespecial 1, 3) := by decide +kernel
theorem d3_4 : decode jdk_30_method_1_code 4 = .ok (.return_, 1) := by decide +kernel
theorem pn_3 : plainFor (⟨"java/lang/Record", "<init>", "()V"⟩ : MethodName) = true := plainFor_of_name (by first | (simp [plainName, overriddenIn]; done) | decide +kernel)
theorem ef_3 (m : MethodId) (x0 : Addr) : entryFrame m #[(.ref x0)] 1 = mkF m 0 #[.val (.ref x0)] [] := by first | (simp [entryFrame, mkF, argsToLocals, Value.category]; done) | rfl
def Q3 (Z : State) (a1 : Addr) (h0 : Heap) (n0 : Nat) (v : Option Value) (h : Heap) (L : List Loc) : Prop := v = none ∧ Fr n0 L ∧ h = h0
set_option maxRecDepth 65536 in
set_option maxHeartbeats 40000000 in
theorem rm3 (l : Launch) (Z : State) (a0 : Array Value) (hw : ∀ d ∈ tables_1, d.before a0 Z = true) (ws : List Jvm.Cond) (a1 : Addr) (h0 : Heap) (n0 : Nat) (Z0 : n0 ≤ h0.size) :
    MetFree l (⟨"java/lang/Record", "<init>", "()V"⟩ : MethodName) (head1 (Jvm.Cond.code (⟨"java/lang/Record", "<init>", "()V"⟩ : MethodName) jdk_30_method_1_code 1 none :: ws) ({ frames := 1, cells := 0, slots := 0, locals := 12 } : Room)) (fun a U => a = #[(.ref a1)] ∧ Z.Warmed39 U.vm ∧ U.heap = h0) (fun _ _ _ _ _ => True) (fun _ U o U' => ∃ v L, o = .returned v ∧ Q3 Z a1 h0 n0 v U'.heap L ∧ FrameEnd U o U' L ({ frames := 1, cells := 0, slots := 0, locals := 12 } : Room).cells ({ frames := 1, cells := 0, slots := 0, locals := 12 } : Room).slots) := by
  refine MetFree.of_bodySF pn_3 hisR ?_
  intro p e s m args below meth c s₁ Bd hml0 hP hK
  obtain ⟨rfl, hZ, hh⟩ := hP
  have hx := Bd.exec
  have hby := Bd.bytes
  have hml : c.maxLocals = 1 := hml0
  have hown : s.vm.findClass "java/lang/Record" = some m.cls := findClass_of_methodNamed Bd.named
  have hnm := (name_of_methodNamed Bd.named Bd.method).1
  have hlk : meth.locks = false := BodyLoose.notSynchronized Bd
  have X0 : Stand p l e ({ frames := 1, cells := 0, slots := 0, locals := 12 } : Room) s m #[(.ref a1)] below meth c s₁ [] 0 0 := Stand.of_body Bd
  have e0 : s₁.heap = h0 := by rw [← hh, Bd.state]; rfl
  have N0 := Fr.nil n0
  show Goes p e below (OwnK s (Q3 Z a1 h0 n0) ({ frames := 1, cells := 0, slots := 0, locals := 12 } : Room).cells ({ frames := 1, cells := 0, slots := 0, locals := 12 } : Room).slots) s₁ (entryFrame m #[(.ref a1)] 1)
  refine Goes.cast (ef_3 m a1) ?_
  generalize hKK : OwnK s (Q3 Z a1 h0 n0) ({ frames := 1, cells := 0, slots := 0, locals := 12 } : Room).cells ({ frames := 1, cells := 0, slots := 0, locals := 12 } : Room).slots = KK
  show Goes p e below KK s₁ (mkF m 0 #[.val (.ref a1)] [])
  have w_15 := hw _ (List.mem_of_getElem? (i := 15) rfl)
  have w_16 := hw _ (List.mem_of_getElem? (i := 16) rfl)
  have w_17 := hw _ (List.mem_of_getElem? (i := 17) rfl)
  refine Goes.of (fun t => XS.aloadN X0.here hx rfl (hb hby d3_0) rfl rfl) ?_
  show Goes p e below KK s₁ (mkF m 1 #[.val (.ref a1)] [(.ref a1)])
  obtain ⟨T1, X1, e1, st1⟩ := initO X0 hx hZ hown w_15 w_16 w_17 e0 (g := (mkF m 1 #[.val (.ref a1)] [(.ref a1)])) rfl (by rw [hml]; rfl) rfl (hb hby d3_1) (by decide) (W := 0) (by show 2 * 0 + _ ≤ _; exact Nat.le_of_eq rfl) (by decide)
  refine Goes.of (st1) ?_
  show Goes p e below KK T1 (mkF m 4 #[.val (.ref a1)] [])
  rw [← hKK]
  refine Goes.retVoid X1 hx hlk Bd.returns (hb hby d3_4) ?_ (by decide) (by decide)
  rw [e1]
  exact ⟨rfl, N0, rfl⟩
theorem d2_0 : decode prog_16_method_1_code 0 = .ok (.aload_n 0, 1) := by decide +kernel
theorem d2_1 : decode prog_16_method_1_code 1 = .ok (.invokespecial 1, 3) := by decide +kernel
theorem d2_4 : decode prog_16_method_1_code 4 = .ok (.aload_n 0, 1) := by decide +kernel
theorem d2_5 : decode prog_16_method_1_code 5 = .ok (.iload_n 1, 1) := by decide +kernel
theorem d2_6 : decode prog_16_method_1_code 6 = .ok (.putfield 7, 3) := by decide +kernel
theorem d2_9 : decode prog_16_method_1_code 9 = .ok (.aload_n 0, 1) := by decide +kernel
theorem d2_10 : decode prog_16_method_1_code 10 = .ok (.iload_n 2, 1) := by decide +kernel
theorem d2_11 : decode prog_16_method_1_code 11 = .ok (.putfield 13, 3) := by decide +kernel
theorem d2_14 : decode prog_16_method_1_code 14 = .ok (.return_, 1) := by decide +kernel
theorem pn_2 : plainFor (⟨"com/example/turnwire/turnwire/glendy/Cell", "<init>", "(II)V"⟩ : MethodName) = true := plainFor_of_name (by first | (simp [plainName, overriddenIn]; done) | decide +kernel)
theorem pd_3 : parseMethodDescriptor "()V" = some ⟨[], none⟩ := by decide +kernel
theorem ef_2 (m : MethodId) (x0 : Addr) (x1 : Int32) (x2 : Int32) : entryFrame m #[(.ref x0), (.int x1), (.int x2)] 3 = mkF m 0 #[.val (.ref x0), .val (.int x1), .val (.int x2)] [] := by first | (simp [entryFrame, mkF, argsToLocals, Value.category]; done) | rfl
def Q2 (Z : State) (a1 : Addr) (p2 : Int32) (p3 : Int32) (h0 : Heap) (n0 : Nat) (v : Option Value) (h : Heap) (L : List Loc) : Prop := v = none ∧ Fr n0 L ∧ Keep h0 h [a1] ∧ Exa Z h a1 "com/example/turnwire/turnwire/glendy/Cell" ∧ Fld Z h a1 "com/example/turnwire/turnwire/glendy/Cell" "x" "I" (.int p2) ∧ Fld Z h a1 "com/example/turnwire/turnwire/glendy/Cell" "y" "I" (.int p3)
set_option maxRecDepth 65536 in
set_option maxHeartbeats 40000000 in
theorem rm2 (l : Launch) (Z : State) (a0 : Array Value) (hw : ∀ d ∈ tables_1, d.before a0 Z = true) (ws : List Jvm.Cond) (a1 : Addr) (p2 : Int32) (p3 : Int32) (h0 : Heap) (n0 : Nat) (Z0 : n0 ≤ h0.size) (E_a1 : Exa Z h0 a1 "com/example/turnwire/turnwire/glendy/Cell") (F_x_a1 : Fld Z h0 a1 "com/example/turnwire/turnwire/glendy/Cell" "x" "I" (.int (0 : Int32))) (F_y_a1 : Fld Z h0 a1 "com/example/turnwire/turnwire/glendy/Cell" "y" "I" (.int (0 : Int32))) (g_a1 : n0 ≤ a1) :
    MetFree l (⟨"com/example/turnwire/turnwire/glendy/Cell", "<init>", "(II)V"⟩ : MethodName) (head1 (Jvm.Cond.code (⟨"com/example/turnwire/turnwire/glendy/Cell", "<init>", "(II)V"⟩ : MethodName) prog_16_method_1_code 3 none :: ws) ({ frames := 2, cells := 0, slots := 0, locals := 24 } : Room)) (fun a U => a = #[(.ref a1), (.int p2), (.int p3)] ∧ Z.Warmed39 U.vm ∧ U.heap = h0) (fun _ _ _ _ _ => True) (fun _ U o U' => ∃ v L, o = .returned v ∧ Q2 Z a1 p2 p3 h0 n0 v U'.heap L ∧ FrameEnd U o U' L ({ frames := 2, cells := 0, slots := 0, locals := 24 } : Room).cells ({ frames := 2, cells := 0, slots := 0, locals := 24 } : Room).slots) := by
  refine MetFree.of_bodySF pn_2 hisR ?_
  intro p e s m args below meth c s₁ Bd hml0 hP hK
  obtain ⟨rfl, hZ, hh⟩ := hP
  have hx := Bd.exec
  have hby := Bd.bytes
  have hml : c.maxLocals = 3 := hml0
  have hown : s.vm.findClass "com/example/turnwire/turnwire/glendy/Cell" = some m.cls := findClass_of_methodNamed Bd.named
  have hnm := (name_of_methodNamed Bd.named Bd.method).1
  have hlk : meth.locks = false := BodyLoose.notSynchronized Bd
  have X0 : Stand p l e ({ frames := 2, cells := 0, slots := 0, locals := 24 } : Room) s m #[(.ref a1), (.int p2), (.int p3)] below meth c s₁ [] 0 0 := Stand.of_body Bd
  have e0 : s₁.heap = h0 := by rw [← hh, Bd.state]; rfl
  have N0 := Fr.nil n0
  show Goes p e below (OwnK s (Q2 Z a1 p2 p3 h0 n0) ({ frames := 2, cells := 0, slots := 0, locals := 24 } : Room).cells ({ frames := 2, cells := 0, slots := 0, locals := 24 } : Room).slots) s₁ (entryFrame m #[(.ref a1), (.int p2), (.int p3)] 3)
  refine Goes.cast (ef_2 m a1 p2 p3) ?_
  generalize hKK : OwnK s (Q2 Z a1 p2 p3 h0 n0) ({ frames := 2, cells := 0, slots := 0, locals := 24 } : Room).cells ({ frames := 2, cells := 0, slots := 0, locals := 24 } : Room).slots = KK
  show Goes p e below KK s₁ (mkF m 0 #[.val (.ref a1), .val (.int p2), .val (.int p3)] [])
  have w_5 := hw _ (List.mem_of_getElem? (i := 5) rfl)
  have w_10 := hw _ (List.mem_of_getElem? (i := 10) rfl)
  have w_11 := hw _ (List.mem_of_getElem? (i := 11) rfl)
  have w_13 := hw _ (List.mem_of_getElem? (i := 13) rfl)
  have w_14 := hw _ (List.mem_of_getElem? (i := 14) rfl)
  have w_18 := hw _ (List.mem_of_getElem? (i := 18) rfl)
  have w_19 := hw _ (List.mem_of_getElem? (i := 19) rfl)
  have w_20 := hw _ (List.mem_of_getElem? (i := 20) rfl)
  have w_21 := hw _ (List.mem_of_getElem? (i := 21) rfl)
  refine Goes.of (fun t => XS.aloadN X0.here hx rfl (hb hby d2_0) rfl rfl) ?_
  show Goes p e below KK s₁ (mkF m 1 #[.val (.ref a1), .val (.int p2), .val (.int p3)] [(.ref a1)])
  obtain ⟨_, _, ⟨T2, L2, k2, n2⟩, -, X2, ⟨Lc2, hQ2, l2, y2, z2⟩, st2⟩ := X0.specialBack hx (y := (⟨"java/lang/Record", "<init>", "()V"⟩ : MethodName)) rfl hown (mvT hZ w_10) (mvT hZ w_11) (mvT hZ w_14) (by decide) (backOf (W := 0) (rm3 l Z a0 hw [] a1  h0 n0 Z0 ) hZ w_14 w_13 (by decide) (by decide)) (g := (mkF m 1 #[.val (.ref a1), .val (.int p2), .val (.int p3)] [(.ref a1)])) rfl (by rw [hml]; rfl) (Steps.refl _) (a := a1) (argsL := []) (rest := []) (lenOf pd_3 rfl) rfl (by show 2 * 0 + _ ≤ _; exact Nat.le_of_eq rfl) (hb hby d2_1) (fun _ _ => ⟨rfl, e0, (by decide : 0 + 0 ≤ _), (by decide : 0 + 0 ≤ _)⟩)
  dsimp only [Pt.U, Pt.locs, Pt.cells, Pt.slots] at X2 l2 y2 z2 st2 hQ2
  subst l2 y2 z2
  obtain ⟨rfl, N2q, e2⟩ := hQ2
  have N2 := Fr.app N0 N2q
  refine Goes.tr st2 ?_
  show Goes p e below KK T2 (mkF m 4 #[.val (.ref a1), .val (.int p2), .val (.int p3)] [])
  refine Goes.of (fun t => XS.aloadN X2.here hx rfl (hb hby d2_4) rfl rfl) ?_
  show Goes p e below KK T2 (mkF m 5 #[.val (.ref a1), .val (.int p2), .val (.int p3)] [(.ref a1)])
  refine Goes.of (fun t => XS.iloadN X2.here hx rfl (hb hby d2_5) rfl) ?_
  show Goes p e below KK T2 (mkF m 6 #[.val (.ref a1), .val (.int p2), .val (.int p3)] [(.int p2), (.ref a1)])
  obtain ⟨T3, h3, X3, e3, W3, st3⟩ := putF X2 hx hZ hown (host := "") (Or.inl w_18) Via.refl e2 F_x_a1 E_a1 (Or.inr ⟨w_19, rfl, hnm⟩) w_5 (ty := .int) (by decide) rfl rfl (g := (mkF m 6 #[.val (.ref a1), .val (.int p2), .val (.int p3)] [(.int p2), (.ref a1)])) rfl rfl (hb hby d2_6)
  refine Goes.of (st3) ?_
  have E_a1_3 : Exa Z h3 a1 "com/example/turnwire/turnwire/glendy/Cell" := E_a1.wr W3
  have F_y_a1_3 : Fld Z h3 a1 "com/example/turnwire/turnwire/glendy/Cell" "y" "I" (.int (0 : Int32)) := F_y_a1.other W3 (Or.inr (slot_ne (Or.inr w_21) (Or.inr w_19) (by decide) (t := .int) (t' := .int) (by decide) (by decide)))
  have K3 : Keep h0 h3 [a1] := (Keep.refl h0 [a1]).wr W3 (Or.inl (List.mem_of_getElem? (i := 0) rfl))
  have Z3 : n0 ≤ h3.size := Nat.le_trans Z0 (Keep.of_wr W3).1
  have N3 := Fr.snoc X3 N2 g_a1
  have F_x_a1_3 : Fld Z h3 a1 "com/example/turnwire/turnwire/glendy/Cell" "x" "I" (.int p2) := F_x_a1.same W3
  show Goes p e below KK T3 (mkF m 9 #[.val (.ref a1), .val (.int p2), .val (.int p3)] [])
  refine Goes.of (fun t => XS.aloadN X3.here hx rfl (hb hby d2_9) rfl rfl) ?_
  show Goes p e below KK T3 (mkF m 10 #[.val (.ref a1), .val (.int p2), .val (.int p3)] [(.ref a1)])
  refine Goes.of (fun t => XS.iloadN X3.here hx rfl (hb hby d2_10) rfl) ?_
  show Goes p e below KK T3 (mkF m 11 #[.val (.ref a1), .val (.int p2), .val (.int p3)] [(.int p3), (.ref a1)])
  obtain ⟨T4, h4, X4, e4, W4, st4⟩ := putF X3 hx hZ hown (host := "") (Or.inl w_20) Via.refl e3 F_y_a1_3 E_a1_3 (Or.inr ⟨w_21, rfl, hnm⟩) w_5 (ty := .int) (by decide) rfl rfl (g := (mkF m 11 #[.val (.ref a1), .val (.int p2), .val (.int p3)] [(.int p3), (.ref a1)])) rfl rfl (hb hby d2_11)
  refine Goes.of (st4) ?_
  have E_a1_3_4 : Exa Z h4 a1 "com/example/turnwire/turnwire/glendy/Cell" := E_a1_3.wr W4
  have F_x_a1_3_4 : Fld Z h4 a1 "com/example/turnwire/turnwire/glendy/Cell" "x" "I" (.int p2) := F_x_a1_3.other W4 (Or.inr (slot_ne (Or.inr w_19) (Or.inr w_21) (by decide) (t := .int) (t' := .int) (by decide) (by decide)))
  have K4 : Keep h0 h4 [a1] := K3.wr W4 (Or.inl (List.mem_of_getElem? (i := 0) rfl))
  have Z4 : n0 ≤ h4.size := Nat.le_trans Z3 (Keep.of_wr W4).1
  have N4 := Fr.snoc X4 N3 g_a1
  have F_y_a1_4 : Fld Z h4 a1 "com/example/turnwire/turnwire/glendy/Cell" "y" "I" (.int p3) := F_y_a1_3.same W4
  show Goes p e below KK T4 (mkF m 14 #[.val (.ref a1), .val (.int p2), .val (.int p3)] [])
  rw [← hKK]
  refine Goes.retVoid X4 hx hlk Bd.returns (hb hby d2_14) ?_ (by decide) (by decide)
  rw [e4]
  exact ⟨rfl, N4, K4, E_a1_3_4, F_x_a1_3_4, F_y_a1_4⟩
def f6 (p2 : Int32) (p3 : Int32) : Int32 := if p2 < (0 : Int32) then (0 : Int32) else if p2 < (11 : Int32) then if p3 < (0 : Int32) then (0 : Int32) else if p3 < (11 : Int32) then (1 : Int32) else (0 : Int32) else (0 : Int32)
theorem d6_0 : decode prog_16_method_2_code 0 = .ok (.aload_n 0, 1) := by decide +kernel
theorem d6_1 : decode prog_16_method_2_code 1 = .ok (.getfield 7, 3) := by decide +kernel
theorem d6_4 : decode prog_16_method_2_code 4 = .ok (.ifCond .lt 32, 3) := by decide +kernel
theorem d6_7 : decode prog_16_method_2_code 7 = .ok (.aload_n 0, 1) := by decide +kernel
theorem d6_8 : decode prog_16_method_2_code 8 = .ok (.getfield 7, 3) := by decide +kernel
theorem d6_11 : decode prog_16_method_2_code 11 = .ok (.bipush 11, 2) := by decide +kernel
theorem d6_13 : decode prog_16_method_2_code 13 = .ok (.if_icmp .ge 23, 3) := by decide +kernel
theorem d6_16 : decode prog_16_method_2_code 16 = .ok (.aload_n 0, 1) := by decide +kernel
theorem d6_17 : decode prog_16_method_2_code 17 = .ok (.getfield 13, 3) := by decide +kernel
theorem d6_20 : decode prog_16_method_2_code 20 = .ok (.ifCond .lt 16, 3) := by decide +kernel
theorem d6_23 : decode prog_16_method_2_code 23 = .ok (.aload_n 0, 1) := by decide +kernel
theorem d6_24 : decode prog_16_method_2_code 24 = .ok (.getfield 13, 3) := by decide +kernel
theorem d6_27 : decode prog_16_method_2_code 27 = .ok (.bipush 11, 2) := by decide +kernel
theorem d6_29 : decode prog_16_method_2_code 29 = .ok (.if_icmp .ge 7, 3) := by decide +kernel
theorem d6_32 : decode prog_16_method_2_code 32 = .ok (.iconst 1, 1) := by decide +kernel
theorem d6_33 : decode prog_16_method_2_code 33 = .ok (.goto 4, 3) := by decide +kernel
theorem d6_36 : decode prog_16_method_2_code 36 = .ok (.iconst 0, 1) := by decide +kernel
theorem d6_37 : decode prog_16_method_2_code 37 = .ok (.ireturn, 1) := by decide +kernel
theorem pn_6 : plainFor (⟨"com/example/turnwire/turnwire/glendy/Cell", "isOnBoard", "()Z"⟩ : MethodName) = true := plainFor_of_name (by first | (simp [plainName, overriddenIn]; done) | decide +kernel)
theorem ef_6 (m : MethodId) (x0 : Addr) : entryFrame m #[(.ref x0)] 1 = mkF m 0 #[.val (.ref x0)] [] := by first | (simp [entryFrame, mkF, argsToLocals, Value.category]; done) | rfl
def Q6 (Z : State) (a1 : Addr) (p2 : Int32) (p3 : Int32) (h0 : Heap) (n0 : Nat) (v : Option Value) (h : Heap) (L : List Loc) : Prop := v = some (.int (f6 p2 p3)) ∧ Fr n0 L ∧ h = h0
set_option maxRecDepth 65536 in
set_option maxHeartbeats 40000000 in
theorem rm6 (l : Launch) (Z : State) (a0 : Array Value) (hw : ∀ d ∈ tables_1, d.before a0 Z = true) (ws : List Jvm.Cond) (a1 : Addr) (p2 : Int32) (p3 : Int32) (h0 : Heap) (n0 : Nat) (Z0 : n0 ≤ h0.size) (F_x_a1 : Fld Z h0 a1 "com/example/turnwire/turnwire/glendy/Cell" "x" "I" (.int p2)) (F_y_a1 : Fld Z h0 a1 "com/example/turnwire/turnwire/glendy/Cell" "y" "I" (.int p3)) :
    MetFree l (⟨"com/example/turnwire/turnwire/glendy/Cell", "isOnBoard", "()Z"⟩ : MethodName) (head1 (Jvm.Cond.code (⟨"com/example/turnwire/turnwire/glendy/Cell", "isOnBoard", "()Z"⟩ : MethodName) prog_16_method_2_code 1 (some .boolean) :: ws) ({ frames := 0, cells := 0, slots := 0, locals := 0 } : Room)) (fun a U => a = #[(.ref a1)] ∧ Z.Warmed39 U.vm ∧ U.heap = h0) (fun _ _ _ _ _ => True) (fun _ U o U' => ∃ v L, o = .returned v ∧ Q6 Z a1 p2 p3 h0 n0 v U'.heap L ∧ FrameEnd U o U' L ({ frames := 0, cells := 0, slots := 0, locals := 0 } : Room).cells ({ frames := 0, cells := 0, slots := 0, locals := 0 } : Room).slots) := by
  refine MetFree.of_bodySF pn_6 hisR ?_
  intro p e s m args below meth c s₁ Bd hml0 hP hK
  obtain ⟨rfl, hZ, hh⟩ := hP
  have hx := Bd.exec
  have hby := Bd.bytes
  have hml : c.maxLocals = 1 := hml0
  have hown : s.vm.findClass "com/example/turnwire/turnwire/glendy/Cell" = some m.cls := findClass_of_methodNamed Bd.named
  have hnm := (name_of_methodNamed Bd.named Bd.method).1
  have hlk : meth.locks = false := BodyLoose.notSynchronized Bd
  have X0 : Stand p l e ({ frames := 0, cells := 0, slots := 0, locals := 0 } : Room) s m #[(.ref a1)] below meth c s₁ [] 0 0 := Stand.of_body Bd
  have e0 : s₁.heap = h0 := by rw [← hh, Bd.state]; rfl
  have N0 := Fr.nil n0
  show Goes p e below (OwnK s (Q6 Z a1 p2 p3 h0 n0) ({ frames := 0, cells := 0, slots := 0, locals := 0 } : Room).cells ({ frames := 0, cells := 0, slots := 0, locals := 0 } : Room).slots) s₁ (entryFrame m #[(.ref a1)] 1)
  refine Goes.cast (ef_6 m a1) ?_
  generalize hKK : OwnK s (Q6 Z a1 p2 p3 h0 n0) ({ frames := 0, cells := 0, slots := 0, locals := 0 } : Room).cells ({ frames := 0, cells := 0, slots := 0, locals := 0 } : Room).slots = KK
  show Goes p e below KK s₁ (mkF m 0 #[.val (.ref a1)] [])
  have w_18 := hw _ (List.mem_of_getElem? (i := 18) rfl)
  have w_20 := hw _ (List.mem_of_getElem? (i := 20) rfl)
  refine Goes.of (fun t => XS.aloadN X0.here hx rfl (hb hby d6_0) rfl rfl) ?_
  show Goes p e below KK s₁ (mkF m 1 #[.val (.ref a1)] [(.ref a1)])
  obtain ⟨T5, X5, e5, st5⟩ := getF X0 hx hZ hown (host := "") (Or.inl w_18) Via.refl e0 F_x_a1 (g := (mkF m 1 #[.val (.ref a1)] [(.ref a1)])) rfl rfl (hb hby d6_1)
  refine Goes.of (st5) ?_
  show Goes p e below KK T5 (mkF m 4 #[.val (.ref a1)] [(.int p2)])
  by_cases hc4 : p2 < (0 : Int32)
  · refine Goes.of (fun t => XS.ifYes X5.here hx rfl (pc0 := 4) (pc' := 36) rfl (hb hby d6_4) rfl ((if0 _ _).trans (tlt hc4).1) (by decide) (by decide)) ?_
    show Goes p e below KK T5 (mkF m 36 #[.val (.ref a1)] [])
    refine Goes.of (fun t => XS.iconst X5.here hx rfl (hb hby d6_36)) ?_
    show Goes p e below KK T5 (mkF m 37 #[.val (.ref a1)] [(.int (0 : Int32))])
    rw [← hKK]
    refine Goes.retNar X5 hx hlk (t := .boolean) (by simp) Bd.returns (hb hby d6_37) ?_ (by decide) (by decide)
    rw [e5]
    exact ⟨by unfold f6; rw [if_pos hc4]; rfl, N0, rfl⟩
  · refine Goes.of (fun t => XS.ifNo X5.here hx rfl (hb hby d6_4) rfl ((if0 _ _).trans (flt hc4).1)) ?_
    show Goes p e below KK T5 (mkF m 7 #[.val (.ref a1)] [])
    refine Goes.of (fun t => XS.aloadN X5.here hx rfl (hb hby d6_7) rfl rfl) ?_
    show Goes p e below KK T5 (mkF m 8 #[.val (.ref a1)] [(.ref a1)])
    obtain ⟨T6, X6, e6, st6⟩ := getF X5 hx hZ hown (host := "") (Or.inl w_18) Via.refl e5 F_x_a1 (g := (mkF m 8 #[.val (.ref a1)] [(.ref a1)])) rfl rfl (hb hby d6_8)
    refine Goes.of (st6) ?_
    show Goes p e below KK T6 (mkF m 11 #[.val (.ref a1)] [(.int p2)])
    refine Goes.of (fun t => XS.bipush X6.here hx rfl (hb hby d6_11)) ?_
    show Goes p e below KK T6 (mkF m 13 #[.val (.ref a1)] [(.int (11 : Int32)), (.int p2)])
    by_cases hc13 : p2 < (11 : Int32)
    · refine Goes.of (fun t => XS.icmpNo X6.here hx rfl (hb hby d6_13) rfl (tlt hc13).2.1) ?_
      show Goes p e below KK T6 (mkF m 16 #[.val (.ref a1)] [])
      refine Goes.of (fun t => XS.aloadN X6.here hx rfl (hb hby d6_16) rfl rfl) ?_
      show Goes p e below KK T6 (mkF m 17 #[.val (.ref a1)] [(.ref a1)])
      obtain ⟨T7, X7, e7, st7⟩ := getF X6 hx hZ hown (host := "") (Or.inl w_20) Via.refl e6 F_y_a1 (g := (mkF m 17 #[.val (.ref a1)] [(.ref a1)])) rfl rfl (hb hby d6_17)
      refine Goes.of (st7) ?_
      show Goes p e below KK T7 (mkF m 20 #[.val (.ref a1)] [(.int p3)])
      by_cases hc20 : p3 < (0 : Int32)
      · refine Goes.of (fun t => XS.ifYes X7.here hx rfl (pc0 := 20) (pc' := 36) rfl (hb hby d6_20) rfl ((if0 _ _).trans (tlt hc20).1) (by decide) (by decide)) ?_
        show Goes p e below KK T7 (mkF m 36 #[.val (.ref a1)] [])
        refine Goes.of (fun t => XS.iconst X7.here hx rfl (hb hby d6_36)) ?_
        show Goes p e below KK T7 (mkF m 37 #[.val (.ref a1)] [(.int (0 : Int32))])
        rw [← hKK]
        refine Goes.retNar X7 hx hlk (t := .boolean) (by simp) Bd.returns (hb hby d6_37) ?_ (by decide) (by decide)
        rw [e7]
        exact ⟨by unfold f6; rw [if_neg hc4, if_pos hc13, if_pos hc20]; rfl, N0, rfl⟩
      · refine Goes.of (fun t => XS.ifNo X7.here hx rfl (hb hby d6_20) rfl ((if0 _ _).trans (flt hc20).1)) ?_
        show Goes p e below KK T7 (mkF m 23 #[.val (.ref a1)] [])
        refine Goes.of (fun t => XS.aloadN X7.here hx rfl (hb hby d6_23) rfl rfl) ?_
        show Goes p e below KK T7 (mkF m 24 #[.val (.ref a1)] [(.ref a1)])
        obtain ⟨T8, X8, e8, st8⟩ := getF X7 hx hZ hown (host := "") (Or.inl w_20) Via.refl e7 F_y_a1 (g := (mkF m 24 #[.val (.ref a1)] [(.ref a1)])) rfl rfl (hb hby d6_24)
        refine Goes.of (st8) ?_
        show Goes p e below KK T8 (mkF m 27 #[.val (.ref a1)] [(.int p3)])
        refine Goes.of (fun t => XS.bipush X8.here hx rfl (hb hby d6_27)) ?_
        show Goes p e below KK T8 (mkF m 29 #[.val (.ref a1)] [(.int (11 : Int32)), (.int p3)])
        by_cases hc29 : p3 < (11 : Int32)
        · refine Goes.of (fun t => XS.icmpNo X8.here hx rfl (hb hby d6_29) rfl (tlt hc29).2.1) ?_
          show Goes p e below KK T8 (mkF m 32 #[.val (.ref a1)] [])
          refine Goes.of (fun t => XS.iconst X8.here hx rfl (hb hby d6_32)) ?_
          show Goes p e below KK T8 (mkF m 33 #[.val (.ref a1)] [(.int (1 : Int32))])
          refine Goes.of (fun t => XS.goto X8.here hx rfl (pc0 := 33) (pc' := 37) rfl (hb hby d6_33) (by decide) (by decide)) ?_
          show Goes p e below KK T8 (mkF m 37 #[.val (.ref a1)] [(.int (1 : Int32))])
          rw [← hKK]
          refine Goes.retNar X8 hx hlk (t := .boolean) (by simp) Bd.returns (hb hby d6_37) ?_ (by decide) (by decide)
          rw [e8]
          exact ⟨by unfold f6; rw [if_neg hc4, if_pos hc13, if_neg hc20, if_pos hc29]; rfl, N0, rfl⟩
        · refine Goes.of (fun t => XS.icmpYes X8.here hx rfl (pc0 := 29) (pc' := 36) rfl (hb hby d6_29) rfl (flt hc29).2.1 (by decide) (by decide)) ?_
          show Goes p e below KK T8 (mkF m 36 #[.val (.ref a1)] [])
          refine Goes.of (fun t => XS.iconst X8.here hx rfl (hb hby d6_36)) ?_
          show Goes p e below KK T8 (mkF m 37 #[.val (.ref a1)] [(.int (0 : Int32))])
          rw [← hKK]
          refine Goes.retNar X8 hx hlk (t := .boolean) (by simp) Bd.returns (hb hby d6_37) ?_ (by decide) (by decide)
          rw [e8]
          exact ⟨by unfold f6; rw [if_neg hc4, if_pos hc13, if_neg hc20, if_neg hc29]; rfl, N0, rfl⟩
    · refine Goes.of (fun t => XS.icmpYes X6.here hx rfl (pc0 := 13) (pc' := 36) rfl (hb hby d6_13) rfl (flt hc13).2.1 (by decide) (by decide)) ?_
      show Goes p e below KK T6 (mkF m 36 #[.val (.ref a1)] [])
      refine Goes.of (fun t => XS.iconst X6.here hx rfl (hb hby d6_36)) ?_
      show Goes p e below KK T6 (mkF m 37 #[.val (.ref a1)] [(.int (0 : Int32))])
      rw [← hKK]
      refine Goes.retNar X6 hx hlk (t := .boolean) (by simp) Bd.returns (hb hby d6_37) ?_ (by decide) (by decide)
      rw [e6]
      exact ⟨by unfold f6; rw [if_neg hc4, if_neg hc13]; rfl, N0, rfl⟩
theorem own_in (v : Int32) : f5 v = if v < 0 then 0 else if v < 11 then 1 else 0 := by
  have m1 : (v.toInt64 &&& 4294967295).toInt = v.toInt64.toInt % 2 ^ 32 := Jvm.Kit.i64_mask v.toInt64 4294967295 (k := 32) (by decide) (by decide)
  have m2 : v.toInt64.toInt = v.toInt := Jvm.Kit.i64_of_i32 v
  have a := v.toInt_lt; have b := v.le_toInt
  have z0 : (0 : Int32).toInt = 0 := rfl
  have z1 : (11 : Int32).toInt = 11 := rfl
  have z2 : (11 : Int64).toInt = 11 := rfl
  have hc : XT.cmpL (v.toInt64 &&& 4294967295) 11 < 0 ↔ (v.toInt64 &&& 4294967295).toInt < 11 := by
    unfold XT.cmpL
    rw [← z2, ← Int64.lt_iff_toInt_lt]
    generalize (v.toInt64 &&& 4294967295) = q
    split
    · rename_i h1; constructor
      · intro h; exact absurd h (by decide)
      · intro h; exact absurd h1 (by rw [Int64.lt_iff_toInt_lt] at h ⊢; omega)
    · split
      · rename_i h2; subst h2; constructor
        · intro h; exact absurd h (by decide)
        · intro h; exact absurd h (by decide)
      · rename_i h1 h2; constructor
        · intro _; rw [Int64.lt_iff_toInt_lt] at h1 ⊢; have : q.toInt ≠ (11 : Int64).toInt := fun e => h2 (Int64.toInt_inj.mp e); omega
        · intro _; decide
  unfold f5
  simp only [hc, m1, m2, Int32.lt_iff_toInt_lt, z0, z1]
  repeat' split
  all_goals first | rfl | omega
theorem own_law (x y : Int32) : f6 x y = if f5 x = 0 then 0 else if f5 y = 0 then 0 else 1 := by
  rw [own_in, own_in]
  have z0 : (0 : Int32).toInt = 0 := rfl
  have z1 : (11 : Int32).toInt = 11 := rfl
  unfold f6
  by_cases h1 : x < 0 <;> by_cases h2 : x < 11 <;> by_cases h3 : y < 0 <;> by_cases h4 : y < 11 <;> simp [h1, h2, h3, h4]
theorem pn_0 : plainFor (⟨"com/example/turnwire/turnwire/glendy/CellIsOnBoardPinLaw", "law", "(III)Z"⟩ : MethodName) = true := plainFor_of_name (by first | (simp [plainName, overriddenIn]; done) | decide +kernel)
theorem pd_6 : parseMethodDescriptor "(IZ)I" = some ⟨[.int, .boolean], some .int⟩ := by decide +kernel
theorem pd_7 : parseMethodDescriptor "(II)V" = some ⟨[.int, .int], none⟩ := by decide +kernel
theorem pd_8 : parseMethodDescriptor "(I)Z" = some ⟨[.int], some .boolean⟩ := by decide +kernel
theorem pd_9 : parseMethodDescriptor "()Z" = some ⟨[], some .boolean⟩ := by decide +kernel
theorem ef_0 (m : MethodId) (x0 : Int32) (x1 : Int32) (x2 : Int32) : entryFrame m #[(.int x0), (.int x1), (.int x2)] maxLocals = mkF m 0 #[.val (.int x0), .val (.int x1), .val (.int x2), .unset, .unset, .unset, .unset] [] := by first | (simp [entryFrame, mkF, argsToLocals, Value.category, maxLocals]; done) | rfl
def Q0 (Z : State) (p1 : Int32) (p2 : Int32) (p3 : Int32) (h0 : Heap) (n0 : Nat) (v : Option Value) (h : Heap) (L : List Loc) : Prop := v = some (.int 1) ∧ Fr n0 L
set_option maxRecDepth 65536 in
set_option maxHeartbeats 40000000 in
theorem rm0 (l : Launch) (Z : State) (a0 : Array Value) (hw : ∀ d ∈ tables_1, d.before a0 Z = true) (ws : List Jvm.Cond) (p1 : Int32) (p2 : Int32) (p3 : Int32) (h0 : Heap) (n0 : Nat) (Z0 : n0 ≤ h0.size) :
    MetFree l x (head1 (Jvm.Cond.code x code maxLocals ret :: ws) room_1) (fun a U => a = #[(.int p1), (.int p2), (.int p3)] ∧ Z.Warmed39 U.vm ∧ U.heap = h0) (fun _ _ _ _ _ => True) (fun _ U o U' => ∃ v L, o = .returned v ∧ Q0 Z p1 p2 p3 h0 n0 v U'.heap L ∧ FrameEnd U o U' L room_1.cells room_1.slots) := by
  refine MetFree.of_bodySF pn_0 hisR ?_
  intro p e s m args below meth c s₁ Bd hml0 hP hK
  obtain ⟨rfl, hZ, hh⟩ := hP
  have hx := Bd.exec
  have hby := Bd.bytes
  have hml : c.maxLocals = 7 := hml0
  have hown : s.vm.findClass "com/example/turnwire/turnwire/glendy/CellIsOnBoardPinLaw" = some m.cls := findClass_of_methodNamed Bd.named
  have hnm := (name_of_methodNamed Bd.named Bd.method).1
  have hlk : meth.locks = false := BodyLoose.notSynchronized Bd
  have X0 : Stand p l e room_1 s m #[(.int p1), (.int p2), (.int p3)] below meth c s₁ [] 0 0 := Stand.of_body Bd
  have e0 : s₁.heap = h0 := by rw [← hh, Bd.state]; rfl
  have N0 := Fr.nil n0
  show Goes p e below (OwnK s (Q0 Z p1 p2 p3 h0 n0) room_1.cells room_1.slots) s₁ (entryFrame m #[(.int p1), (.int p2), (.int p3)] maxLocals)
  refine Goes.cast (ef_0 m p1 p2 p3) ?_
  generalize hKK : OwnK s (Q0 Z p1 p2 p3 h0 n0) room_1.cells room_1.slots = KK
  show Goes p e below KK s₁ (mkF m 0 #[.val (.int p1), .val (.int p2), .val (.int p3), .unset, .unset, .unset, .unset] [])
  have w_0 := hw _ (List.mem_of_getElem? (i := 0) rfl)
  have w_1 := hw _ (List.mem_of_getElem? (i := 1) rfl)
  have w_2 := hw _ (List.mem_of_getElem? (i := 2) rfl)
  have w_3 := hw _ (List.mem_of_getElem? (i := 3) rfl)
  have w_4 := hw _ (List.mem_of_getElem? (i := 4) rfl)
  have w_5 := hw _ (List.mem_of_getElem? (i := 5) rfl)
  have w_6 := hw _ (List.mem_of_getElem? (i := 6) rfl)
  have w_7 := hw _ (List.mem_of_getElem? (i := 7) rfl)
  have w_8 := hw _ (List.mem_of_getElem? (i := 8) rfl)
  have w_9 := hw _ (List.mem_of_getElem? (i := 9) rfl)
  have w_19 := hw _ (List.mem_of_getElem? (i := 19) rfl)
  have w_21 := hw _ (List.mem_of_getElem? (i := 21) rfl)
  have w_22 := hw _ (List.mem_of_getElem? (i := 22) rfl)
  have w_23 := hw _ (List.mem_of_getElem? (i := 23) rfl)
  have w_24 := hw _ (List.mem_of_getElem? (i := 24) rfl)
  have w_27 := hw _ (List.mem_of_getElem? (i := 27) rfl)
  have w_28 := hw _ (List.mem_of_getElem? (i := 28) rfl)
  have w_29 := hw _ (List.mem_of_getElem? (i := 29) rfl)
  have w_30 := hw _ (List.mem_of_getElem? (i := 30) rfl)
  have w_31 := hw _ (List.mem_of_getElem? (i := 31) rfl)
  refine Goes.of (fun t => XS.iloadN X0.here hx rfl (hb hby at_0) rfl) ?_
  show Goes p e below KK s₁ (mkF m 1 #[.val (.int p1), .val (.int p2), .val (.int p3), .unset, .unset, .unset, .unset] [(.int p1)])
  refine Goes.of (fun t => XS.iloadN X0.here hx rfl (hb hby at_1) rfl) ?_
  show Goes p e below KK s₁ (mkF m 2 #[.val (.int p1), .val (.int p2), .val (.int p3), .unset, .unset, .unset, .unset] [(.int p3), (.int p1)])
  refine Goes.of (fun t => XS.iconst X0.here hx rfl (hb hby at_2)) ?_
  show Goes p e below KK s₁ (mkF m 3 #[.val (.int p1), .val (.int p2), .val (.int p3), .unset, .unset, .unset, .unset] [(.int (1 : Int32)), (.int p3), (.int p1)])
  refine Goes.of (fun t => XS.iand X0.here hx rfl (hb hby at_3) rfl) ?_
  show Goes p e below KK s₁ (mkF m 4 #[.val (.int p1), .val (.int p2), .val (.int p3), .unset, .unset, .unset, .unset] [(.int (p3 &&& (1 : Int32))), (.int p1)])
  have j9 : ∀ t, Steps p.tables e below (s₁.setTop (mkF m 12 #[.val (.int p1), .val (.int p2), .val (.int p3), .unset, .unset, .unset, .unset] [(.int (if (p3 &&& (1 : Int32)) = (0 : Int32) then (0 : Int32) else (1 : Int32))), (.int p1)])) t → Steps p.tables e below (s₁.setTop (mkF m 4 #[.val (.int p1), .val (.int p2), .val (.int p3), .unset, .unset, .unset, .unset] [(.int (p3 &&& (1 : Int32))), (.int p1)])) t := by
    intro t k
    by_cases hc4 : (p3 &&& (1 : Int32)) = (0 : Int32)
    · refine XS.ifYes X0.here hx rfl (pc0 := 4) (pc' := 11) rfl (hb hby at_4) rfl ((if0 _ _).trans (teq hc4).1) (by decide) (by decide) ?_
      show Steps p.tables e below (s₁.setTop (mkF m 11 #[.val (.int p1), .val (.int p2), .val (.int p3), .unset, .unset, .unset, .unset] [(.int p1)])) _
      refine XS.iconst X0.here hx rfl (hb hby at_11) ?_
      show Steps p.tables e below (s₁.setTop (mkF m 12 #[.val (.int p1), .val (.int p2), .val (.int p3), .unset, .unset, .unset, .unset] [(.int (0 : Int32)), (.int p1)])) _
      try rw [if_pos hc4] at k
      exact k
    · refine XS.ifNo X0.here hx rfl (hb hby at_4) rfl ((if0 _ _).trans (feq hc4).1) ?_
      show Steps p.tables e below (s₁.setTop (mkF m 7 #[.val (.int p1), .val (.int p2), .val (.int p3), .unset, .unset, .unset, .unset] [(.int p1)])) _
      refine XS.iconst X0.here hx rfl (hb hby at_7) ?_
      show Steps p.tables e below (s₁.setTop (mkF m 8 #[.val (.int p1), .val (.int p2), .val (.int p3), .unset, .unset, .unset, .unset] [(.int (1 : Int32)), (.int p1)])) _
      refine XS.goto X0.here hx rfl (pc0 := 8) (pc' := 12) rfl (hb hby at_8) (by decide) (by decide) ?_
      show Steps p.tables e below (s₁.setTop (mkF m 12 #[.val (.int p1), .val (.int p2), .val (.int p3), .unset, .unset, .unset, .unset] [(.int (1 : Int32)), (.int p1)])) _
      try rw [if_neg hc4] at k
      exact k
  refine Goes.of j9 ?_
  show Goes p e below KK s₁ (mkF m 12 #[.val (.int p1), .val (.int p2), .val (.int p3), .unset, .unset, .unset, .unset] [(.int (if (p3 &&& (1 : Int32)) = (0 : Int32) then (0 : Int32) else (1 : Int32))), (.int p1)])
  obtain ⟨_, _, ⟨T10, L10, k10, n10⟩, -, X10, ⟨Lc10, hQ10, l10, y10, z10⟩, st10⟩ := Jvm.LawKit.callS X0 hx (y := (⟨"com/example/turnwire/turnwire/glendy/CellIsOnBoardPinLaw", "coord", "(IZ)I"⟩ : MethodName)) hown (mvT hZ w_0) (mvT hZ w_1) (mvT hZ w_2) (mvT hZ w_3) (by decide) (backOf (W := 0) (rm1 l Z a0 hw [] p1 (if (p3 &&& (1 : Int32)) = (0 : Int32) then (0 : Int32) else (1 : Int32))  h0 n0 Z0 ) hZ w_3 w_2 (by decide) (by decide)) (g := (mkF m 12 #[.val (.int p1), .val (.int p2), .val (.int p3), .unset, .unset, .unset, .unset] [(.int (if (p3 &&& (1 : Int32)) = (0 : Int32) then (0 : Int32) else (1 : Int32))), (.int p1)])) rfl (by rw [hml]; rfl) (argsL := [(.int p1), (.int (if (p3 &&& (1 : Int32)) = (0 : Int32) then (0 : Int32) else (1 : Int32)))]) (rest := []) (lenOf pd_6 rfl) rfl (by show 2 * 0 + _ ≤ _; exact Nat.le_of_eq rfl) (hb hby at_12) (fun _ _ => ⟨rfl, e0, (by decide : 0 + 0 ≤ _), (by decide : 0 + 0 ≤ _)⟩)
  dsimp only [Pt.U, Pt.locs, Pt.cells, Pt.slots] at X10 l10 y10 z10 st10 hQ10
  subst l10 y10 z10
  obtain ⟨rfl, N10q, e10⟩ := hQ10
  have N10 := Fr.app N0 N10q
  refine Goes.of st10 ?_
  show Goes p e below KK T10 (mkF m 15 #[.val (.int p1), .val (.int p2), .val (.int p3), .unset, .unset, .unset, .unset] [(.int (f1 p1 (if (p3 &&& (1 : Int32)) = (0 : Int32) then (0 : Int32) else (1 : Int32))))])
  generalize e_xx : (f1 p1 (if (p3 &&& (1 : Int32)) = (0 : Int32) then (0 : Int32) else (1 : Int32))) = xx
  show Goes p e below KK T10 (mkF m 15 #[.val (.int p1), .val (.int p2), .val (.int p3), .unset, .unset, .unset, .unset] [(.int xx)])
  refine Goes.of (fun t => XS.istoreN X10.here hx rfl (hb hby at_15) rfl (l' := #[.val (.int p1), .val (.int p2), .val (.int p3), .val (.int xx), .unset, .unset, .unset]) rfl) ?_
  show Goes p e below KK T10 (mkF m 16 #[.val (.int p1), .val (.int p2), .val (.int p3), .val (.int xx), .unset, .unset, .unset] [])
  refine Goes.of (fun t => XS.iloadN X10.here hx rfl (hb hby at_16) rfl) ?_
  show Goes p e below KK T10 (mkF m 17 #[.val (.int p1), .val (.int p2), .val (.int p3), .val (.int xx), .unset, .unset, .unset] [(.int p2)])
  refine Goes.of (fun t => XS.iloadN X10.here hx rfl (hb hby at_17) rfl) ?_
  show Goes p e below KK T10 (mkF m 18 #[.val (.int p1), .val (.int p2), .val (.int p3), .val (.int xx), .unset, .unset, .unset] [(.int p3), (.int p2)])
  refine Goes.of (fun t => XS.iconst X10.here hx rfl (hb hby at_18)) ?_
  show Goes p e below KK T10 (mkF m 19 #[.val (.int p1), .val (.int p2), .val (.int p3), .val (.int xx), .unset, .unset, .unset] [(.int (2 : Int32)), (.int p3), (.int p2)])
  refine Goes.of (fun t => XS.iand X10.here hx rfl (hb hby at_19) rfl) ?_
  show Goes p e below KK T10 (mkF m 20 #[.val (.int p1), .val (.int p2), .val (.int p3), .val (.int xx), .unset, .unset, .unset] [(.int (p3 &&& (2 : Int32))), (.int p2)])
  have j11 : ∀ t, Steps p.tables e below (T10.setTop (mkF m 28 #[.val (.int p1), .val (.int p2), .val (.int p3), .val (.int xx), .unset, .unset, .unset] [(.int (if (p3 &&& (2 : Int32)) = (0 : Int32) then (0 : Int32) else (1 : Int32))), (.int p2)])) t → Steps p.tables e below (T10.setTop (mkF m 20 #[.val (.int p1), .val (.int p2), .val (.int p3), .val (.int xx), .unset, .unset, .unset] [(.int (p3 &&& (2 : Int32))), (.int p2)])) t := by
    intro t k
    by_cases hc20 : (p3 &&& (2 : Int32)) = (0 : Int32)
    · refine XS.ifYes X10.here hx rfl (pc0 := 20) (pc' := 27) rfl (hb hby at_20) rfl ((if0 _ _).trans (teq hc20).1) (by decide) (by decide) ?_
      show Steps p.tables e below (T10.setTop (mkF m 27 #[.val (.int p1), .val (.int p2), .val (.int p3), .val (.int xx), .unset, .unset, .unset] [(.int p2)])) _
      refine XS.iconst X10.here hx rfl (hb hby at_27) ?_
      show Steps p.tables e below (T10.setTop (mkF m 28 #[.val (.int p1), .val (.int p2), .val (.int p3), .val (.int xx), .unset, .unset, .unset] [(.int (0 : Int32)), (.int p2)])) _
      try rw [if_pos hc20] at k
      exact k
    · refine XS.ifNo X10.here hx rfl (hb hby at_20) rfl ((if0 _ _).trans (feq hc20).1) ?_
      show Steps p.tables e below (T10.setTop (mkF m 23 #[.val (.int p1), .val (.int p2), .val (.int p3), .val (.int xx), .unset, .unset, .unset] [(.int p2)])) _
      refine XS.iconst X10.here hx rfl (hb hby at_23) ?_
      show Steps p.tables e below (T10.setTop (mkF m 24 #[.val (.int p1), .val (.int p2), .val (.int p3), .val (.int xx), .unset, .unset, .unset] [(.int (1 : Int32)), (.int p2)])) _
      refine XS.goto X10.here hx rfl (pc0 := 24) (pc' := 28) rfl (hb hby at_24) (by decide) (by decide) ?_
      show Steps p.tables e below (T10.setTop (mkF m 28 #[.val (.int p1), .val (.int p2), .val (.int p3), .val (.int xx), .unset, .unset, .unset] [(.int (1 : Int32)), (.int p2)])) _
      try rw [if_neg hc20] at k
      exact k
  refine Goes.of j11 ?_
  show Goes p e below KK T10 (mkF m 28 #[.val (.int p1), .val (.int p2), .val (.int p3), .val (.int xx), .unset, .unset, .unset] [(.int (if (p3 &&& (2 : Int32)) = (0 : Int32) then (0 : Int32) else (1 : Int32))), (.int p2)])
  obtain ⟨_, _, ⟨T12, L12, k12, n12⟩, -, X12, ⟨Lc12, hQ12, l12, y12, z12⟩, st12⟩ := Jvm.LawKit.callS X10 hx (y := (⟨"com/example/turnwire/turnwire/glendy/CellIsOnBoardPinLaw", "coord", "(IZ)I"⟩ : MethodName)) hown (mvT hZ w_0) (mvT hZ w_1) (mvT hZ w_2) (mvT hZ w_3) (by decide) (backOf (W := 0) (rm1 l Z a0 hw [] p2 (if (p3 &&& (2 : Int32)) = (0 : Int32) then (0 : Int32) else (1 : Int32))  h0 n0 Z0 ) hZ w_3 w_2 (by decide) (by decide)) (g := (mkF m 28 #[.val (.int p1), .val (.int p2), .val (.int p3), .val (.int xx), .unset, .unset, .unset] [(.int (if (p3 &&& (2 : Int32)) = (0 : Int32) then (0 : Int32) else (1 : Int32))), (.int p2)])) rfl (by rw [hml]; rfl) (argsL := [(.int p2), (.int (if (p3 &&& (2 : Int32)) = (0 : Int32) then (0 : Int32) else (1 : Int32)))]) (rest := []) (lenOf pd_6 rfl) rfl (by show 2 * 0 + _ ≤ _; exact Nat.le_of_eq rfl) (hb hby at_28) (fun _ _ => ⟨rfl, e10, (by decide : 0 + 0 ≤ _), (by decide : 0 + 0 ≤ _)⟩)
  dsimp only [Pt.U, Pt.locs, Pt.cells, Pt.slots] at X12 l12 y12 z12 st12 hQ12
  subst l12 y12 z12
  obtain ⟨rfl, N12q, e12⟩ := hQ12
  have N12 := Fr.app N10 N12q
  refine Goes.of st12 ?_
  show Goes p e below KK T12 (mkF m 31 #[.val (.int p1), .val (.int p2), .val (.int p3), .val (.int xx), .unset, .unset, .unset] [(.int (f1 p2 (if (p3 &&& (2 : Int32)) = (0 : Int32) then (0 : Int32) else (1 : Int32))))])
  generalize e_yy : (f1 p2 (if (p3 &&& (2 : Int32)) = (0 : Int32) then (0 : Int32) else (1 : Int32))) = yy
  show Goes p e below KK T12 (mkF m 31 #[.val (.int p1), .val (.int p2), .val (.int p3), .val (.int xx), .unset, .unset, .unset] [(.int yy)])
  refine Goes.of (fun t => XS.istore X12.here hx rfl (hb hby at_31) rfl (l' := #[.val (.int p1), .val (.int p2), .val (.int p3), .val (.int xx), .val (.int yy), .unset, .unset]) rfl) ?_
  show Goes p e below KK T12 (mkF m 33 #[.val (.int p1), .val (.int p2), .val (.int p3), .val (.int xx), .val (.int yy), .unset, .unset] [])
  obtain ⟨T13, h13, X13, e13, E13, A13, D13, -, st13⟩ := newO X12 hx hZ hown w_4 w_5 w_6 e12 (g := (mkF m 33 #[.val (.int p1), .val (.int p2), .val (.int p3), .val (.int xx), .val (.int yy), .unset, .unset] [])) rfl (hb hby at_33) (by decide) (by decide)
  obtain ⟨b13, g13⟩ : ∃ z, z = h0.size := ⟨_, rfl⟩
  rw [← g13] at A13 D13 st13
  refine Goes.of (st13) ?_
  have g_b13 : n0 ≤ b13 := Nat.le_trans Z0 (Nat.le_of_eq g13.symm)
  have sz_b13 : h0.size ≤ b13 := Nat.le_trans (Keep.refl h0 []).1 (Nat.le_of_eq g13.symm)
  have K13 : Keep h0 h13 [] := (Keep.refl h0 []).ext E13
  have Z13 : n0 ≤ h13.size := Nat.le_trans Z0 E13.1
  have F_x_b13 : Fld Z h13 b13 "com/example/turnwire/turnwire/glendy/Cell" "x" "I" (.int (0 : Int32)) := D13 (Or.inr w_19) (ty := .int) (by decide)
  have F_y_b13 : Fld Z h13 b13 "com/example/turnwire/turnwire/glendy/Cell" "y" "I" (.int (0 : Int32)) := D13 (Or.inr w_21) (ty := .int) (by decide)
  show Goes p e below KK T13 (mkF m 36 #[.val (.int p1), .val (.int p2), .val (.int p3), .val (.int xx), .val (.int yy), .unset, .unset] [(.ref b13)])
  refine Goes.of (fun t => XS.dup X13.here hx rfl (hb hby at_36) rfl rfl) ?_
  show Goes p e below KK T13 (mkF m 37 #[.val (.int p1), .val (.int p2), .val (.int p3), .val (.int xx), .val (.int yy), .unset, .unset] [(.ref b13), (.ref b13)])
  refine Goes.of (fun t => XS.iloadN X13.here hx rfl (hb hby at_37) rfl) ?_
  show Goes p e below KK T13 (mkF m 38 #[.val (.int p1), .val (.int p2), .val (.int p3), .val (.int xx), .val (.int yy), .unset, .unset] [(.int xx), (.ref b13), (.ref b13)])
  refine Goes.of (fun t => XS.iload X13.here hx rfl (hb hby at_38) rfl) ?_
  show Goes p e below KK T13 (mkF m 40 #[.val (.int p1), .val (.int p2), .val (.int p3), .val (.int xx), .val (.int yy), .unset, .unset] [(.int yy), (.int xx), (.ref b13), (.ref b13)])
  obtain ⟨_, _, ⟨T14, L14, k14, n14⟩, -, X14, ⟨Lc14, hQ14, l14, y14, z14⟩, st14⟩ := X13.specialBack hx (y := (⟨"com/example/turnwire/turnwire/glendy/Cell", "<init>", "(II)V"⟩ : MethodName)) rfl hown (mvT hZ w_7) (mvT hZ w_8) (mvT hZ w_9) (by decide) (backOf (W := 1) (rm2 l Z a0 hw [] b13 xx yy  h13 n0 Z13 A13 F_x_b13 F_y_b13 g_b13) hZ w_9 w_6 (by decide) (by decide)) (g := (mkF m 40 #[.val (.int p1), .val (.int p2), .val (.int p3), .val (.int xx), .val (.int yy), .unset, .unset] [(.int yy), (.int xx), (.ref b13), (.ref b13)])) rfl (by rw [hml]; rfl) (Steps.refl _) (a := b13) (argsL := [(.int xx), (.int yy)]) (rest := [(.ref b13)]) (lenOf pd_7 rfl) rfl (by show 2 * 0 + _ ≤ _; exact Nat.le_of_eq rfl) (hb hby at_40) (fun _ _ => ⟨rfl, e13, (by decide : 1 + 0 ≤ _), (by decide : 2 + 0 ≤ _)⟩)
  dsimp only [Pt.U, Pt.locs, Pt.cells, Pt.slots] at X14 l14 y14 z14 st14 hQ14
  subst l14 y14 z14
  obtain ⟨rfl, N14q, Kc14, Ec14, Fx14, Fy14⟩ := hQ14
  have N14 := Fr.app N12 N14q
  have K14 : Keep h0 T14.heap [] := K13.trans Kc14 (allS (Or.inr sz_b13) all0)
  have Z14 : n0 ≤ T14.heap.size := Nat.le_trans Z13 Kc14.1
  have e14 : T14.heap = T14.heap := rfl
  refine Goes.tr st14 ?_
  show Goes p e below KK T14 (mkF m 43 #[.val (.int p1), .val (.int p2), .val (.int p3), .val (.int xx), .val (.int yy), .unset, .unset] [(.ref b13)])
  refine Goes.of (fun t => XS.astore X14.here hx rfl (hb hby at_43) rfl rfl (l' := #[.val (.int p1), .val (.int p2), .val (.int p3), .val (.int xx), .val (.int yy), .val (.ref b13), .unset]) rfl) ?_
  show Goes p e below KK T14 (mkF m 45 #[.val (.int p1), .val (.int p2), .val (.int p3), .val (.int xx), .val (.int yy), .val (.ref b13), .unset] [])
  refine Goes.of (fun t => XS.iloadN X14.here hx rfl (hb hby at_45) rfl) ?_
  show Goes p e below KK T14 (mkF m 46 #[.val (.int p1), .val (.int p2), .val (.int p3), .val (.int xx), .val (.int yy), .val (.ref b13), .unset] [(.int xx)])
  obtain ⟨_, _, ⟨T15, L15, k15, n15⟩, -, X15, ⟨Lc15, hQ15, l15, y15, z15⟩, st15⟩ := Jvm.LawKit.callS X14 hx (y := (⟨"com/example/turnwire/turnwire/glendy/CellIsOnBoardPinLaw", "inSide", "(I)Z"⟩ : MethodName)) hown (mvT hZ w_22) (mvT hZ w_23) (mvT hZ w_2) (mvT hZ w_24) (by decide) (backOf (W := 0) (rm5 l Z a0 hw [] xx  T14.heap n0 Z14 ) hZ w_24 w_2 (by decide) (by decide)) (g := (mkF m 46 #[.val (.int p1), .val (.int p2), .val (.int p3), .val (.int xx), .val (.int yy), .val (.ref b13), .unset] [(.int xx)])) rfl (by rw [hml]; rfl) (argsL := [(.int xx)]) (rest := []) (lenOf pd_8 rfl) rfl (by show 2 * 0 + _ ≤ _; exact Nat.le_of_eq rfl) (hb hby at_46) (fun _ _ => ⟨rfl, e14, (by decide : 1 + 0 ≤ _), (by decide : 2 + 0 ≤ _)⟩)
  dsimp only [Pt.U, Pt.locs, Pt.cells, Pt.slots] at X15 l15 y15 z15 st15 hQ15
  subst l15 y15 z15
  obtain ⟨rfl, N15q, e15⟩ := hQ15
  have N15 := Fr.app N14 N15q
  refine Goes.of st15 ?_
  show Goes p e below KK T15 (mkF m 49 #[.val (.int p1), .val (.int p2), .val (.int p3), .val (.int xx), .val (.int yy), .val (.ref b13), .unset] [(.int (f5 xx))])
  by_cases hc49 : (f5 xx) = (0 : Int32)
  · refine Goes.of (fun t => XS.ifYes X15.here hx rfl (pc0 := 49) (pc' := 64) rfl (hb hby at_49) rfl ((if0 _ _).trans (teq hc49).1) (by decide) (by decide)) ?_
    show Goes p e below KK T15 (mkF m 64 #[.val (.int p1), .val (.int p2), .val (.int p3), .val (.int xx), .val (.int yy), .val (.ref b13), .unset] [])
    refine Goes.of (fun t => XS.iconst X15.here hx rfl (hb hby at_64)) ?_
    show Goes p e below KK T15 (mkF m 65 #[.val (.int p1), .val (.int p2), .val (.int p3), .val (.int xx), .val (.int yy), .val (.ref b13), .unset] [(.int (0 : Int32))])
    refine Goes.of (fun t => XS.istore X15.here hx rfl (hb hby at_65) rfl (l' := #[.val (.int p1), .val (.int p2), .val (.int p3), .val (.int xx), .val (.int yy), .val (.ref b13), .val (.int (0 : Int32))]) rfl) ?_
    show Goes p e below KK T15 (mkF m 67 #[.val (.int p1), .val (.int p2), .val (.int p3), .val (.int xx), .val (.int yy), .val (.ref b13), .val (.int (0 : Int32))] [])
    refine Goes.of (fun t => XS.aload X15.here hx rfl (hb hby at_67) rfl rfl) ?_
    show Goes p e below KK T15 (mkF m 69 #[.val (.int p1), .val (.int p2), .val (.int p3), .val (.int xx), .val (.int yy), .val (.ref b13), .val (.int (0 : Int32))] [(.ref b13)])
    obtain ⟨cq16, kq16, q16a, q16b, q16c⟩ := isOf hZ e15 Ec14
    obtain ⟨_, _, ⟨T16, L16, k16, n16⟩, -, X16, ⟨Lc16, hQ16, l16, y16, z16⟩, st16⟩ := X15.virtualBack hx (y := (⟨"com/example/turnwire/turnwire/glendy/Cell", "isOnBoard", "()Z"⟩ : MethodName)) (z := (⟨"com/example/turnwire/turnwire/glendy/Cell", "isOnBoard", "()Z"⟩ : MethodName)) hown (mvT hZ w_27) (mvT hZ w_28) (notFace_of_selects (args := #[]) (mvT hZ w_30)) (mvT hZ w_30) (mvT hZ w_29) (by decide) (backOf (W := 0) (rm6 l Z a0 hw [] b13 xx yy T14.heap n0 Z14 Fx14 Fy14) hZ w_31 w_6 (by decide) (by decide)) q16a q16c (g := (mkF m 69 #[.val (.int p1), .val (.int p2), .val (.int p3), .val (.int xx), .val (.int yy), .val (.ref b13), .val (.int (0 : Int32))] [(.ref b13)])) rfl (by rw [hml]; rfl) (Steps.refl _) (argsL := []) (rest := []) (lenOf pd_9 rfl) rfl (by show 2 * 0 + _ ≤ _; exact Nat.le_of_eq rfl) (hb hby at_69) (fun _ _ => ⟨rfl, e15, (by decide : 1 + 0 ≤ _), (by decide : 2 + 0 ≤ _)⟩)
    dsimp only [Pt.U, Pt.locs, Pt.cells, Pt.slots] at X16 l16 y16 z16 st16 hQ16
    subst l16 y16 z16
    obtain ⟨rfl, N16q, e16⟩ := hQ16
    have N16 := Fr.app N15 N16q
    refine Goes.tr st16 ?_
    show Goes p e below KK T16 (mkF m 72 #[.val (.int p1), .val (.int p2), .val (.int p3), .val (.int xx), .val (.int yy), .val (.ref b13), .val (.int (0 : Int32))] [(.int (f6 xx yy))])
    refine Goes.of (fun t => XS.iload X16.here hx rfl (hb hby at_72) rfl) ?_
    show Goes p e below KK T16 (mkF m 74 #[.val (.int p1), .val (.int p2), .val (.int p3), .val (.int xx), .val (.int yy), .val (.ref b13), .val (.int (0 : Int32))] [(.int (0 : Int32)), (.int (f6 xx yy))])
    refine Goes.of (fun t => XS.icmpNo X16.here hx rfl (hb hby at_74) rfl (teq (show (f6 xx yy) = (0 : Int32) from by rw [own_law, if_pos hc49])).2) ?_
    show Goes p e below KK T16 (mkF m 77 #[.val (.int p1), .val (.int p2), .val (.int p3), .val (.int xx), .val (.int yy), .val (.ref b13), .val (.int (0 : Int32))] [])
    refine Goes.of (fun t => XS.iconst X16.here hx rfl (hb hby at_77)) ?_
    show Goes p e below KK T16 (mkF m 78 #[.val (.int p1), .val (.int p2), .val (.int p3), .val (.int xx), .val (.int yy), .val (.ref b13), .val (.int (0 : Int32))] [(.int (1 : Int32))])
    refine Goes.of (fun t => XS.goto X16.here hx rfl (pc0 := 78) (pc' := 82) rfl (hb hby at_78) (by decide) (by decide)) ?_
    show Goes p e below KK T16 (mkF m 82 #[.val (.int p1), .val (.int p2), .val (.int p3), .val (.int xx), .val (.int yy), .val (.ref b13), .val (.int (0 : Int32))] [(.int (1 : Int32))])
    rw [← hKK]
    refine Goes.retNar X16 hx hlk (t := .boolean) (by simp) Bd.returns (hb hby at_82) ?_ (by decide) (by decide)
    rw [e16]
    exact ⟨rfl, N16⟩
  · refine Goes.of (fun t => XS.ifNo X15.here hx rfl (hb hby at_49) rfl ((if0 _ _).trans (feq hc49).1)) ?_
    show Goes p e below KK T15 (mkF m 52 #[.val (.int p1), .val (.int p2), .val (.int p3), .val (.int xx), .val (.int yy), .val (.ref b13), .unset] [])
    refine Goes.of (fun t => XS.iload X15.here hx rfl (hb hby at_52) rfl) ?_
    show Goes p e below KK T15 (mkF m 54 #[.val (.int p1), .val (.int p2), .val (.int p3), .val (.int xx), .val (.int yy), .val (.ref b13), .unset] [(.int yy)])
    obtain ⟨_, _, ⟨T17, L17, k17, n17⟩, -, X17, ⟨Lc17, hQ17, l17, y17, z17⟩, st17⟩ := Jvm.LawKit.callS X15 hx (y := (⟨"com/example/turnwire/turnwire/glendy/CellIsOnBoardPinLaw", "inSide", "(I)Z"⟩ : MethodName)) hown (mvT hZ w_22) (mvT hZ w_23) (mvT hZ w_2) (mvT hZ w_24) (by decide) (backOf (W := 0) (rm5 l Z a0 hw [] yy  T14.heap n0 Z14 ) hZ w_24 w_2 (by decide) (by decide)) (g := (mkF m 54 #[.val (.int p1), .val (.int p2), .val (.int p3), .val (.int xx), .val (.int yy), .val (.ref b13), .unset] [(.int yy)])) rfl (by rw [hml]; rfl) (argsL := [(.int yy)]) (rest := []) (lenOf pd_8 rfl) rfl (by show 2 * 0 + _ ≤ _; exact Nat.le_of_eq rfl) (hb hby at_54) (fun _ _ => ⟨rfl, e15, (by decide : 1 + 0 ≤ _), (by decide : 2 + 0 ≤ _)⟩)
    dsimp only [Pt.U, Pt.locs, Pt.cells, Pt.slots] at X17 l17 y17 z17 st17 hQ17
    subst l17 y17 z17
    obtain ⟨rfl, N17q, e17⟩ := hQ17
    have N17 := Fr.app N15 N17q
    refine Goes.of st17 ?_
    show Goes p e below KK T17 (mkF m 57 #[.val (.int p1), .val (.int p2), .val (.int p3), .val (.int xx), .val (.int yy), .val (.ref b13), .unset] [(.int (f5 yy))])
    by_cases hc57 : (f5 yy) = (0 : Int32)
    · refine Goes.of (fun t => XS.ifYes X17.here hx rfl (pc0 := 57) (pc' := 64) rfl (hb hby at_57) rfl ((if0 _ _).trans (teq hc57).1) (by decide) (by decide)) ?_
      show Goes p e below KK T17 (mkF m 64 #[.val (.int p1), .val (.int p2), .val (.int p3), .val (.int xx), .val (.int yy), .val (.ref b13), .unset] [])
      refine Goes.of (fun t => XS.iconst X17.here hx rfl (hb hby at_64)) ?_
      show Goes p e below KK T17 (mkF m 65 #[.val (.int p1), .val (.int p2), .val (.int p3), .val (.int xx), .val (.int yy), .val (.ref b13), .unset] [(.int (0 : Int32))])
      refine Goes.of (fun t => XS.istore X17.here hx rfl (hb hby at_65) rfl (l' := #[.val (.int p1), .val (.int p2), .val (.int p3), .val (.int xx), .val (.int yy), .val (.ref b13), .val (.int (0 : Int32))]) rfl) ?_
      show Goes p e below KK T17 (mkF m 67 #[.val (.int p1), .val (.int p2), .val (.int p3), .val (.int xx), .val (.int yy), .val (.ref b13), .val (.int (0 : Int32))] [])
      refine Goes.of (fun t => XS.aload X17.here hx rfl (hb hby at_67) rfl rfl) ?_
      show Goes p e below KK T17 (mkF m 69 #[.val (.int p1), .val (.int p2), .val (.int p3), .val (.int xx), .val (.int yy), .val (.ref b13), .val (.int (0 : Int32))] [(.ref b13)])
      obtain ⟨cq18, kq18, q18a, q18b, q18c⟩ := isOf hZ e17 Ec14
      obtain ⟨_, _, ⟨T18, L18, k18, n18⟩, -, X18, ⟨Lc18, hQ18, l18, y18, z18⟩, st18⟩ := X17.virtualBack hx (y := (⟨"com/example/turnwire/turnwire/glendy/Cell", "isOnBoard", "()Z"⟩ : MethodName)) (z := (⟨"com/example/turnwire/turnwire/glendy/Cell", "isOnBoard", "()Z"⟩ : MethodName)) hown (mvT hZ w_27) (mvT hZ w_28) (notFace_of_selects (args := #[]) (mvT hZ w_30)) (mvT hZ w_30) (mvT hZ w_29) (by decide) (backOf (W := 0) (rm6 l Z a0 hw [] b13 xx yy T14.heap n0 Z14 Fx14 Fy14) hZ w_31 w_6 (by decide) (by decide)) q18a q18c (g := (mkF m 69 #[.val (.int p1), .val (.int p2), .val (.int p3), .val (.int xx), .val (.int yy), .val (.ref b13), .val (.int (0 : Int32))] [(.ref b13)])) rfl (by rw [hml]; rfl) (Steps.refl _) (argsL := []) (rest := []) (lenOf pd_9 rfl) rfl (by show 2 * 0 + _ ≤ _; exact Nat.le_of_eq rfl) (hb hby at_69) (fun _ _ => ⟨rfl, e17, (by decide : 1 + 0 ≤ _), (by decide : 2 + 0 ≤ _)⟩)
      dsimp only [Pt.U, Pt.locs, Pt.cells, Pt.slots] at X18 l18 y18 z18 st18 hQ18
      subst l18 y18 z18
      obtain ⟨rfl, N18q, e18⟩ := hQ18
      have N18 := Fr.app N17 N18q
      refine Goes.tr st18 ?_
      show Goes p e below KK T18 (mkF m 72 #[.val (.int p1), .val (.int p2), .val (.int p3), .val (.int xx), .val (.int yy), .val (.ref b13), .val (.int (0 : Int32))] [(.int (f6 xx yy))])
      refine Goes.of (fun t => XS.iload X18.here hx rfl (hb hby at_72) rfl) ?_
      show Goes p e below KK T18 (mkF m 74 #[.val (.int p1), .val (.int p2), .val (.int p3), .val (.int xx), .val (.int yy), .val (.ref b13), .val (.int (0 : Int32))] [(.int (0 : Int32)), (.int (f6 xx yy))])
      refine Goes.of (fun t => XS.icmpNo X18.here hx rfl (hb hby at_74) rfl (teq (show (f6 xx yy) = (0 : Int32) from by rw [own_law, if_neg hc49, if_pos hc57])).2) ?_
      show Goes p e below KK T18 (mkF m 77 #[.val (.int p1), .val (.int p2), .val (.int p3), .val (.int xx), .val (.int yy), .val (.ref b13), .val (.int (0 : Int32))] [])
      refine Goes.of (fun t => XS.iconst X18.here hx rfl (hb hby at_77)) ?_
      show Goes p e below KK T18 (mkF m 78 #[.val (.int p1), .val (.int p2), .val (.int p3), .val (.int xx), .val (.int yy), .val (.ref b13), .val (.int (0 : Int32))] [(.int (1 : Int32))])
      refine Goes.of (fun t => XS.goto X18.here hx rfl (pc0 := 78) (pc' := 82) rfl (hb hby at_78) (by decide) (by decide)) ?_
      show Goes p e below KK T18 (mkF m 82 #[.val (.int p1), .val (.int p2), .val (.int p3), .val (.int xx), .val (.int yy), .val (.ref b13), .val (.int (0 : Int32))] [(.int (1 : Int32))])
      rw [← hKK]
      refine Goes.retNar X18 hx hlk (t := .boolean) (by simp) Bd.returns (hb hby at_82) ?_ (by decide) (by decide)
      rw [e18]
      exact ⟨rfl, N18⟩
    · refine Goes.of (fun t => XS.ifNo X17.here hx rfl (hb hby at_57) rfl ((if0 _ _).trans (feq hc57).1)) ?_
      show Goes p e below KK T17 (mkF m 60 #[.val (.int p1), .val (.int p2), .val (.int p3), .val (.int xx), .val (.int yy), .val (.ref b13), .unset] [])
      refine Goes.of (fun t => XS.iconst X17.here hx rfl (hb hby at_60)) ?_
      show Goes p e below KK T17 (mkF m 61 #[.val (.int p1), .val (.int p2), .val (.int p3), .val (.int xx), .val (.int yy), .val (.ref b13), .unset] [(.int (1 : Int32))])
      refine Goes.of (fun t => XS.goto X17.here hx rfl (pc0 := 61) (pc' := 65) rfl (hb hby at_61) (by decide) (by decide)) ?_
      show Goes p e below KK T17 (mkF m 65 #[.val (.int p1), .val (.int p2), .val (.int p3), .val (.int xx), .val (.int yy), .val (.ref b13), .unset] [(.int (1 : Int32))])
      refine Goes.of (fun t => XS.istore X17.here hx rfl (hb hby at_65) rfl (l' := #[.val (.int p1), .val (.int p2), .val (.int p3), .val (.int xx), .val (.int yy), .val (.ref b13), .val (.int (1 : Int32))]) rfl) ?_
      show Goes p e below KK T17 (mkF m 67 #[.val (.int p1), .val (.int p2), .val (.int p3), .val (.int xx), .val (.int yy), .val (.ref b13), .val (.int (1 : Int32))] [])
      refine Goes.of (fun t => XS.aload X17.here hx rfl (hb hby at_67) rfl rfl) ?_
      show Goes p e below KK T17 (mkF m 69 #[.val (.int p1), .val (.int p2), .val (.int p3), .val (.int xx), .val (.int yy), .val (.ref b13), .val (.int (1 : Int32))] [(.ref b13)])
      obtain ⟨cq19, kq19, q19a, q19b, q19c⟩ := isOf hZ e17 Ec14
      obtain ⟨_, _, ⟨T19, L19, k19, n19⟩, -, X19, ⟨Lc19, hQ19, l19, y19, z19⟩, st19⟩ := X17.virtualBack hx (y := (⟨"com/example/turnwire/turnwire/glendy/Cell", "isOnBoard", "()Z"⟩ : MethodName)) (z := (⟨"com/example/turnwire/turnwire/glendy/Cell", "isOnBoard", "()Z"⟩ : MethodName)) hown (mvT hZ w_27) (mvT hZ w_28) (notFace_of_selects (args := #[]) (mvT hZ w_30)) (mvT hZ w_30) (mvT hZ w_29) (by decide) (backOf (W := 0) (rm6 l Z a0 hw [] b13 xx yy T14.heap n0 Z14 Fx14 Fy14) hZ w_31 w_6 (by decide) (by decide)) q19a q19c (g := (mkF m 69 #[.val (.int p1), .val (.int p2), .val (.int p3), .val (.int xx), .val (.int yy), .val (.ref b13), .val (.int (1 : Int32))] [(.ref b13)])) rfl (by rw [hml]; rfl) (Steps.refl _) (argsL := []) (rest := []) (lenOf pd_9 rfl) rfl (by show 2 * 0 + _ ≤ _; exact Nat.le_of_eq rfl) (hb hby at_69) (fun _ _ => ⟨rfl, e17, (by decide : 1 + 0 ≤ _), (by decide : 2 + 0 ≤ _)⟩)
      dsimp only [Pt.U, Pt.locs, Pt.cells, Pt.slots] at X19 l19 y19 z19 st19 hQ19
      subst l19 y19 z19
      obtain ⟨rfl, N19q, e19⟩ := hQ19
      have N19 := Fr.app N17 N19q
      refine Goes.tr st19 ?_
      show Goes p e below KK T19 (mkF m 72 #[.val (.int p1), .val (.int p2), .val (.int p3), .val (.int xx), .val (.int yy), .val (.ref b13), .val (.int (1 : Int32))] [(.int (f6 xx yy))])
      refine Goes.of (fun t => XS.iload X19.here hx rfl (hb hby at_72) rfl) ?_
      show Goes p e below KK T19 (mkF m 74 #[.val (.int p1), .val (.int p2), .val (.int p3), .val (.int xx), .val (.int yy), .val (.ref b13), .val (.int (1 : Int32))] [(.int (1 : Int32)), (.int (f6 xx yy))])
      refine Goes.of (fun t => XS.icmpNo X19.here hx rfl (hb hby at_74) rfl (teq (show (f6 xx yy) = (1 : Int32) from by rw [own_law, if_neg hc49, if_neg hc57])).2) ?_
      show Goes p e below KK T19 (mkF m 77 #[.val (.int p1), .val (.int p2), .val (.int p3), .val (.int xx), .val (.int yy), .val (.ref b13), .val (.int (1 : Int32))] [])
      refine Goes.of (fun t => XS.iconst X19.here hx rfl (hb hby at_77)) ?_
      show Goes p e below KK T19 (mkF m 78 #[.val (.int p1), .val (.int p2), .val (.int p3), .val (.int xx), .val (.int yy), .val (.ref b13), .val (.int (1 : Int32))] [(.int (1 : Int32))])
      refine Goes.of (fun t => XS.goto X19.here hx rfl (pc0 := 78) (pc' := 82) rfl (hb hby at_78) (by decide) (by decide)) ?_
      show Goes p e below KK T19 (mkF m 82 #[.val (.int p1), .val (.int p2), .val (.int p3), .val (.int xx), .val (.int yy), .val (.ref b13), .val (.int (1 : Int32))] [(.int (1 : Int32))])
      rw [← hKK]
      refine Goes.retNar X19 hx hlk (t := .boolean) (by simp) Bd.returns (hb hby at_82) ?_ (by decide) (by decide)
      rw [e19]
      exact ⟨rfl, N19⟩
set_option maxRecDepth 65536 in
set_option maxHeartbeats 40000000 in
theorem comes_1 {Post : Tables → Env → Array Value → State → Outcome → State → Prop} (hpost : ∀ tb e args s v u, (limb_1_1.after args s (.returned v) u = true ∧ limb_1_2.after args s (.returned v) u = true ∧ True) → FrameEnd s (.returned v) u (Jvm.fieldLocs frame_1_writes args s ++ Jvm.arrayLocs frame_1_arrays args s ++ Jvm.staticLocs frame_1_statics s) 16 128 → Post tb e args s (.returned v) u) :
    ArmFor flags0 classFile x code maxLocals ret World_1 tables_1 room_1 Calls_1 rest_1 Pre_1 Post := by
  intro l hfl _ _ p e ha hc hk s m args below hf hA hF happ hP
  obtain ⟨hcalls, hrest, hpre⟩ := hP
  obtain ⟨-, -, -, hnamed, -, -, -, hat⟩ := (Spec.applies_iff hf).mp happ
  obtain ⟨hg, hn⟩ := and_e (Cond.before_iff.mp (show (Jvm.Cond.and given_1 narrow_1).before args s = true from hpre))
  obtain ⟨hgc, hr0⟩ := and_e hg
  obtain ⟨hg0, hr1⟩ := and_e hr0
  obtain ⟨hg1, hr2⟩ := and_e hr1
  have hg2 := hr2
  obtain ⟨w0, w1, w2, rfl⟩ : ∃ w0 w1 w2 : Value, args = #[w0, w1, w2] := by
    have hs : args.size = 3 := by simpa [Cond.value, given_1] using hgc
    obtain ⟨L⟩ := args
    match L, hs with
    | [w0, w1, w2], _ => exact ⟨w0, w1, w2, rfl⟩
  have hw := fun d (hd : d ∈ tables_1) => atoms_spec (ws := Jvm.Cond.code x code maxLocals ret :: tables_1) hat d (List.mem_cons_of_mem _ hd)
  have hfit : Fit s := fun {y c} hc i hi => by
    obtain ⟨ha, rfl⟩ := Array.getElem?_eq_some_iff.mp hc
    have q := List.all_eq_true.mp ((Array.all_eq_true_iff_forall_mem.mp hF) _ (Array.getElem_mem ha)) i (List.mem_range.mpr hi)
    simpa [Array.getElem?_eq_getElem hi] using q
  obtain ⟨i0, ei0⟩ := is_v hg0
  obtain rfl : w0 = (.int i0) := Option.some.inj ei0
  obtain ⟨i1, ei1⟩ := is_v hg1
  obtain rfl : w1 = (.int i1) := Option.some.inj ei1
  obtain ⟨i2, ei2⟩ := is_v hg2
  obtain rfl : w2 = (.int i2) := Option.some.inj ei2
  obtain ⟨n, o, h1, h2, h3, _, L, rfl, ⟨rfl, N⟩, hq⟩ := rm0 l s _ hw tables_1 i0 i1 i2  s.heap s.heap.size (Nat.le_refl _)  p e ha hc hk s m _ below hf ((Spec.applies_iff_loose hf).mp happ).1 ⟨rfl, State.Warmed39.refl s, rfl⟩ trivial
  refine ⟨n, _, h1, h2, h3, hpost _ _ _ _ _ _ ⟨Cond.after_iff.mpr rfl, Cond.after_iff.mpr (eq_i res_at (Term.int_eval (1)) rfl), trivial⟩ ⟨hq.1, hq.2.1, (hq.2.2.sift fun y hy => Or.inr (N y hy)).mono (by decide) (by decide)⟩⟩
theorem main_1_1 : Claimed_1_1 := comes_1 fun _ _ _ _ _ _ h hF => ⟨h.1, hF⟩
theorem main_1_2 : Claimed_1_2 := comes_1 fun _ _ _ _ _ _ h hF => ⟨h.2.1, hF⟩
end Jvm.Pilot.@@N@@
namespace Jvm.Pilot.@@N@@
open Jvm Jvm.ClassFile Sem Op Lib Jvm.Free Jvm.Stand Jvm.Pilot.@@N@@.Jvm.D
/-! MADE BY PROGRAM (witnessworld.py) out of the Statement's table words and the real class files: 11 classes; the members and pool entries that the words name. The judged class is class 1, her method 3. -/
namespace start1
open Jvm.ClassFile
def u (s : String) : CpInfo := .utf8 (stringToUtf16 s)
/-- a pool by its gaps: so many unusable entries, then the entry; so many at the end -/
def gap : Nat → List CpInfo → List CpInfo
  | 0, r => r
  | n + 1, r => .unusable :: gap n r
def poolList (es : List (Nat × CpInfo)) (last : Nat) : List CpInfo := es.foldr (fun e r => gap e.1 (e.2 :: r)) (gap last [])
def pool (es : List (Nat × CpInfo)) (last : Nat) : Array CpInfo := ⟨poolList es last⟩
def fileOf (pool : Array CpInfo) (this : Nat) (attrs : Array Attribute := #[]) (ms : Array MethodInfo := #[]) (fl : Nat := 33) (sup : Nat := 0) (ifs : Array Nat := #[]) (fds : Array FieldInfo := #[]) : ClassFile where
  minorVersion := 0
  majorVersion := 65
  constantPool := pool
  accessFlags := fl
  thisClass := this
  superClass := sup
  interfaces := ifs
  fields := fds
  methods := ms
  attributes := attrs
def plain (name : String) (sup : Option ClassId) : Class where
  name := name
  kind := .ordinary
  loader := none
  accessFlags := 33
  super := sup
  interfaces := #[]
  cf := none
  fields := #[]
  methods := #[]
  instanceTypes := #[]
  staticTypes := #[]
  resolved := #[]
  callSites := []
  init := .initialized
  statics := none
  mirror := none

def pool0 : Array CpInfo := pool [(5, u "<init>"), (0, u "()V"), (1, .class_ 10), (1, u "java/lang/Object")] 113

def k0c0 : Code := { maxStack := 0, maxLocals := 1, code := object_method_1_code, exceptionTable := #[], attributes := #[] }
def k0m0 : Method := { name := "<init>", desc := "()V", sig := { parameters := [], returnType := none }, accessFlags := 1, code := some k0c0 }
/-- java/lang/Object -/
def k0 : Class := { plain "java/lang/Object" none with
  accessFlags := 33
  interfaces := #[]
  cf := some (fileOf pool0 8 #[] #[{ accessFlags := 1, nameIndex := 5, descriptorIndex := 6, attributes := #[] }] 33 0 #[] #[])
  fields := #[]
  methods := #[k0m0]
  instanceTypes := #[]
  staticTypes := #[]
  resolved := Array.replicate 124 none
  statics := none }

def pool1 : Array CpInfo := pool [(2, .class_ 4), (1, u "java/lang/Object"), (0, u "<init>"), (0, u "()V"), (0, .long 4294967295), (1, .long 11), (1, .methodref 12 13), (0, .class_ 14), (0, .nameAndType 15 16), (0, u "com/example/turnwire/turnwire/glendy/CellIsOnBoardPinLaw"), (0, u "coord"), (0, u "(IZ)I"), (0, .class_ 18), (0, u "com/example/turnwire/turnwire/glendy/Cell"), (0, .methodref 17 20), (0, .nameAndType 5 21), (0, u "(II)V"), (0, .methodref 12 23), (0, .nameAndType 24 25), (0, u "inSide"), (0, u "(I)Z"), (0, .methodref 17 27), (0, .nameAndType 28 29), (0, u "isOnBoard"), (0, u "()Z"), (3, u "law"), (0, u "(III)Z")] 2

def k1m0 : Method := { name := "<init>", desc := "()V", sig := { parameters := [], returnType := none }, accessFlags := 1, code := none }
def k1c1 : Code := { maxStack := 2, maxLocals := 2, code := method_2_code, exceptionTable := #[], attributes := #[] }
def k1m1 : Method := { name := "coord", desc := "(IZ)I", sig := { parameters := [.int, .boolean], returnType := some .int }, accessFlags := 10, code := some k1c1 }
def k1c2 : Code := { maxStack := 4, maxLocals := 1, code := method_3_code, exceptionTable := #[], attributes := #[] }
def k1m2 : Method := { name := "inSide", desc := "(I)Z", sig := { parameters := [.int], returnType := some .boolean }, accessFlags := 10, code := some k1c2 }
def k1c3 : Code := { maxStack := 4, maxLocals := 7, code := code, exceptionTable := #[], attributes := #[] }
def k1m3 : Method := { name := "law", desc := "(III)Z", sig := { parameters := [.int, .int, .int], returnType := some .boolean }, accessFlags := 9, code := some k1c3 }
/-- com/example/turnwire/turnwire/glendy/CellIsOnBoardPinLaw -/
def k1 : Class := { plain "com/example/turnwire/turnwire/glendy/CellIsOnBoardPinLaw" (some 0) with
  accessFlags := 49
  interfaces := #[]
  cf := some (fileOf pool1 12 #[] #[{ accessFlags := 1, nameIndex := 5, descriptorIndex := 6, attributes := #[] }, { accessFlags := 10, nameIndex := 15, descriptorIndex := 16, attributes := #[] }, { accessFlags := 10, nameIndex := 24, descriptorIndex := 25, attributes := #[] }, { accessFlags := 9, nameIndex := 33, descriptorIndex := 34, attributes := #[] }] 49 2 #[] #[])
  fields := #[]
  methods := #[k1m0, k1m1, k1m2, k1m3]
  instanceTypes := #[]
  staticTypes := #[]
  resolved := Array.replicate 37 none
  statics := none }

def pool2 : Array CpInfo := pool [(1, .methodref 2 3), (0, .class_ 4), (0, .nameAndType 5 6), (0, u "java/lang/Object"), (0, u "<init>"), (0, u "()V"), (0, .class_ 8), (0, u "java/lang/Record")] 13

def k2c0 : Code := { maxStack := 1, maxLocals := 1, code := jdk_30_method_1_code, exceptionTable := #[], attributes := #[] }
def k2m0 : Method := { name := "<init>", desc := "()V", sig := { parameters := [], returnType := none }, accessFlags := 4, code := some k2c0 }
/-- java/lang/Record -/
def k2 : Class := { plain "java/lang/Record" (some 0) with
  accessFlags := 1057
  interfaces := #[]
  cf := some (fileOf pool2 7 #[] #[{ accessFlags := 4, nameIndex := 5, descriptorIndex := 6, attributes := #[] }] 1057 2 #[] #[])
  fields := #[]
  methods := #[k2m0]
  instanceTypes := #[]
  staticTypes := #[]
  resolved := Array.replicate 22 none
  statics := none }

def pool3 : Array CpInfo := pool [(1, .class_ 2), (0, u "java/lang/Comparable"), (0, .class_ 4), (0, u "java/lang/Object")] 7

/-- java/lang/Comparable -/
def k3 : Class := { plain "java/lang/Comparable" (some 0) with
  accessFlags := 1537
  interfaces := #[]
  cf := some (fileOf pool3 1 #[] #[] 1537 3 #[] #[])
  fields := #[]
  methods := #[]
  instanceTypes := #[]
  staticTypes := #[]
  resolved := Array.replicate 12 none
  statics := none }

def pool4 : Array CpInfo := pool [(1, .methodref 2 3), (0, .class_ 4), (0, .nameAndType 5 6), (0, u "java/lang/Record"), (0, u "<init>"), (0, u "()V"), (0, .fieldref 8 9), (0, .class_ 10), (0, .nameAndType 11 12), (0, u "com/example/turnwire/turnwire/glendy/Cell"), (0, u "x"), (0, u "I"), (0, .fieldref 8 14), (0, .nameAndType 15 12), (0, u "y"), (23, u "(II)V"), (2, u "START"), (0, u "Lcom/example/turnwire/turnwire/glendy/Cell;"), (0, .class_ 45), (0, u "java/lang/Comparable"), (0, u "SIDE"), (5, u "isOnBoard"), (0, u "()Z")] 30

def k4c0 : Code := { maxStack := 2, maxLocals := 3, code := prog_16_method_1_code, exceptionTable := #[], attributes := #[] }
def k4m0 : Method := { name := "<init>", desc := "(II)V", sig := { parameters := [.int, .int], returnType := none }, accessFlags := 0, code := some k4c0 }
def k4c1 : Code := { maxStack := 2, maxLocals := 1, code := prog_16_method_2_code, exceptionTable := #[], attributes := #[] }
def k4m1 : Method := { name := "isOnBoard", desc := "()Z", sig := { parameters := [], returnType := some .boolean }, accessFlags := 0, code := some k4c1 }
/-- com/example/turnwire/turnwire/glendy/Cell -/
def k4 : Class := { plain "com/example/turnwire/turnwire/glendy/Cell" (some 2) with
  accessFlags := 48
  interfaces := #[3]
  cf := some (fileOf pool4 8 #[] #[{ accessFlags := 0, nameIndex := 5, descriptorIndex := 39, attributes := #[] }, { accessFlags := 0, nameIndex := 52, descriptorIndex := 53, attributes := #[] }] 48 2 #[44] #[{ accessFlags := 18, nameIndex := 11, descriptorIndex := 12, attributes := #[] }, { accessFlags := 18, nameIndex := 15, descriptorIndex := 12, attributes := #[] }, { accessFlags := 24, nameIndex := 46, descriptorIndex := 12, attributes := #[] }, { accessFlags := 24, nameIndex := 42, descriptorIndex := 43, attributes := #[] }])
  fields := #[{ name := "x", type := .int, accessFlags := 18, slot := 0, constantValue := 0 }, { name := "y", type := .int, accessFlags := 18, slot := 1, constantValue := 0 }, { name := "SIDE", type := .int, accessFlags := 24, slot := 0, constantValue := 0 }, { name := "START", type := (.object "com/example/turnwire/turnwire/glendy/Cell"), accessFlags := 24, slot := 1, constantValue := 0 }]
  methods := #[k4m0, k4m1]
  instanceTypes := #[.int, .int]
  staticTypes := #[.int, (.object "com/example/turnwire/turnwire/glendy/Cell")]
  resolved := Array.replicate 84 none
  statics := none }

def pool5 : Array CpInfo := pool [(1, u "java/lang/Cloneable"), (0, .class_ 1), (0, u "java/lang/Object"), (0, .class_ 3)] 3

/-- java/lang/Cloneable -/
def k5 : Class := { plain "java/lang/Cloneable" (some 0) with
  accessFlags := 1537
  interfaces := #[]
  cf := some (fileOf pool5 2 #[] #[] 1537 4 #[] #[])
  fields := #[]
  methods := #[]
  instanceTypes := #[]
  staticTypes := #[]
  resolved := Array.replicate 8 none
  statics := none }

def pool6 : Array CpInfo := pool [(1, u "java/io/Serializable"), (0, .class_ 1), (0, u "java/lang/Object"), (0, .class_ 3)] 3

/-- java/io/Serializable -/
def k6 : Class := { plain "java/io/Serializable" (some 0) with
  accessFlags := 1537
  interfaces := #[]
  cf := some (fileOf pool6 2 #[] #[] 1537 4 #[] #[])
  fields := #[]
  methods := #[]
  instanceTypes := #[]
  staticTypes := #[]
  resolved := Array.replicate 8 none
  statics := none }

/-- the primitive byte -/
def k7 : Class := { plain "byte" none with kind := .primitive 'B', accessFlags := 0x411 }
/-- [B -/
def k8 : Class := { plain "[B" (some 0) with kind := .array 7 .byte, interfaces := #[5, 6], accessFlags := 1041 }

/-- the primitive int -/
def k9 : Class := { plain "int" none with kind := .primitive 'I', accessFlags := 0x411 }
/-- [I -/
def k10 : Class := { plain "[I" (some 0) with kind := .array 9 .int, interfaces := #[5, 6], accessFlags := 1041 }

def heap : Heap := #[]
def classes : Array Class := #[k0, k1, k2, k3, k4, k5, k6, k7, k8, k9, k10]
def interned : List (Array UInt16 × Addr) := []
def slotsUsed : Nat := 0
def theMethod : MethodId := ⟨1, 3⟩
def args0 : Array Value := #[.int 5, .int 3, .int 3]
def aboutOver (below : List Frame) : State where
  vm := { classes := classes, interned := interned.toArray }
  heap := heap
  slotsUsed := slotsUsed
  threads := #[{ frames := .invoking theMethod args0 :: below }]
def below0 : List Frame := [.native { method := ⟨0, 0⟩, args := #[] }]
def about1 : State := aboutOver below0
def p0 : Program := .bare "" "" ""
def e0 : Env := launch0.env 0 0 0
theorem w_frames : about1.frames = Frame.invoking theMethod args0 :: below0 := rfl
set_option maxRecDepth 65536 in
theorem w_args : argsFit about1.vm theMethod args0 = true := by decide +kernel
set_option maxRecDepth 65536 in
theorem w_heap : heapFits about1 = true := by decide +kernel
set_option maxRecDepth 65536 in
theorem w_runnable : about1.curStatus? = some .runnable := by decide +kernel
set_option maxRecDepth 65536 in
theorem w_alone : about1.alone = true := by decide +kernel
set_option maxRecDepth 65536 in
theorem w_named : about1.methodNamed? x = some theMethod := by decide +kernel
set_option maxRecDepth 65536 in
theorem w_hears : about1.hears theMethod below0 = true := by decide +kernel
set_option maxRecDepth 65536 in
theorem w_ripe : about1.ripe theMethod args0 below0 = true := by decide +kernel
theorem w_running : about1.status = .running := rfl
set_option maxRecDepth 65536 in
theorem w_room : about1.hasRoom e0.platform room_1 = true :=
  launch0.hasRoom_least _ room_1 (by decide +kernel) (by decide +kernel) (by decide +kernel) (by decide +kernel) (by decide +kernel) (by decide +kernel)
theorem allAtoms_all (ts : List Jvm.Cond) (a : Array Jvm.Value) (st : Jvm.State) : (allAtoms ts).before a st = ts.all (fun c => c.before a st) := by
  induction ts with
  | nil => rfl
  | cons c t ih =>
    show (Jvm.Cond.and c (allAtoms t)).before a st = _
    rw [Jvm.Cond.before_and, ih, List.all_cons]
def words1 : List Jvm.Cond := Jvm.Cond.code x code maxLocals ret :: tables_1
/-- a 'code' word, met by the world's own term for the bytes: nothing is compared byte by byte -/
theorem code_word {y : MethodName} {bytes : ByteArray} {mx : Nat} {rt : Option FieldType} {a : Array Value} {s : State} {m : MethodId} {meth : Method} {c : Code} (h1 : s.methodNamed? y = some m) (h2 : s.vm.method? m = some meth) (h3 : meth.code = some c) (h4 : c.code = bytes)
    (h5 : (c.maxLocals == mx && c.exceptionTable.isEmpty && decide (c.maxStack ≤ mostOperands) && decide (meth.sig.returnType = rt) && !meth.locks && decide (parseMethodDescriptor y.desc = some meth.sig)) = true) : (Jvm.Cond.code y bytes mx rt).before a s = true := by
  simp only [Bool.and_eq_true, beq_iff_eq, Bool.not_eq_true', decide_eq_true_eq] at h5
  obtain ⟨⟨⟨⟨⟨g1, g2⟩, g3⟩, g4⟩, g5⟩, g6⟩ := h5
  simp [Cond.before, Cond.holds, Cond.value, h1, h2, h3, h4, g1, g2, g3, g4, g5, g6]
def isCode : Jvm.Cond → Bool
  | .code _ _ _ _ => true
  | _ => false
theorem all_split {L : List Jvm.Cond} {P : Jvm.Cond → Bool} (h1 : L.all (fun c => isCode c || P c) = true) (h2 : ∀ c ∈ L.filter isCode, P c = true) : L.all P = true := by
  refine List.all_eq_true.mpr fun c hc => ?_
  have h := List.all_eq_true.mp h1 c hc
  rcases Bool.eq_false_or_eq_true (isCode c) with hi | hi
  · exact h2 c (List.mem_filter.mpr ⟨hc, hi⟩)
  · simpa [hi] using h
set_option maxRecDepth 65536 in
theorem w_c0 : (Jvm.Cond.code x code maxLocals ret).before args0 about1 = true := code_word (m := ⟨1, 3⟩) (meth := k1m3) (c := k1c3) (by decide +kernel) rfl rfl rfl (by decide +kernel)
set_option maxRecDepth 65536 in
theorem w_c1 : (Jvm.Cond.code ({ cls := "com/example/turnwire/turnwire/glendy/CellIsOnBoardPinLaw", name := "coord", desc := "(IZ)I" } : Jvm.MethodName) method_2_code (2 : Nat) (Option.some Jvm.ClassFile.FieldType.int)).before args0 about1 = true := code_word (m := ⟨1, 1⟩) (meth := k1m1) (c := k1c1) (by decide +kernel) rfl rfl rfl (by decide +kernel)
set_option maxRecDepth 65536 in
theorem w_c2 : (Jvm.Cond.code ({ cls := "com/example/turnwire/turnwire/glendy/Cell", name := "<init>", desc := "(II)V" } : Jvm.MethodName) prog_16_method_1_code (3 : Nat) (Option.none : Option Jvm.ClassFile.FieldType)).before args0 about1 = true := code_word (m := ⟨4, 0⟩) (meth := k4m0) (c := k4c0) (by decide +kernel) rfl rfl rfl (by decide +kernel)
set_option maxRecDepth 65536 in
theorem w_c3 : (Jvm.Cond.code ({ cls := "java/lang/Record", name := "<init>", desc := "()V" } : Jvm.MethodName) jdk_30_method_1_code (1 : Nat) (Option.none : Option Jvm.ClassFile.FieldType)).before args0 about1 = true := code_word (m := ⟨2, 0⟩) (meth := k2m0) (c := k2c0) (by decide +kernel) rfl rfl rfl (by decide +kernel)
set_option maxRecDepth 65536 in
theorem w_c4 : (Jvm.Cond.code ({ cls := "java/lang/Object", name := "<init>", desc := "()V" } : Jvm.MethodName) object_method_1_code (1 : Nat) (Option.none : Option Jvm.ClassFile.FieldType)).before args0 about1 = true := code_word (m := ⟨0, 0⟩) (meth := k0m0) (c := k0c0) (by decide +kernel) rfl rfl rfl (by decide +kernel)
set_option maxRecDepth 65536 in
theorem w_c5 : (Jvm.Cond.code ({ cls := "com/example/turnwire/turnwire/glendy/CellIsOnBoardPinLaw", name := "inSide", desc := "(I)Z" } : Jvm.MethodName) method_3_code (1 : Nat) (Option.some Jvm.ClassFile.FieldType.boolean)).before args0 about1 = true := code_word (m := ⟨1, 2⟩) (meth := k1m2) (c := k1c2) (by decide +kernel) rfl rfl rfl (by decide +kernel)
set_option maxRecDepth 65536 in
theorem w_c6 : (Jvm.Cond.code ({ cls := "com/example/turnwire/turnwire/glendy/Cell", name := "isOnBoard", desc := "()Z" } : Jvm.MethodName) prog_16_method_2_code (1 : Nat) (Option.some Jvm.ClassFile.FieldType.boolean)).before args0 about1 = true := code_word (m := ⟨4, 1⟩) (meth := k4m1) (c := k4c1) (by decide +kernel) rfl rfl rfl (by decide +kernel)
def codes1 : List Jvm.Cond := [Jvm.Cond.code x code maxLocals ret, Jvm.Cond.code ({ cls := "com/example/turnwire/turnwire/glendy/CellIsOnBoardPinLaw", name := "coord", desc := "(IZ)I" } : Jvm.MethodName) method_2_code (2 : Nat) (Option.some Jvm.ClassFile.FieldType.int), Jvm.Cond.code ({ cls := "com/example/turnwire/turnwire/glendy/Cell", name := "<init>", desc := "(II)V" } : Jvm.MethodName) prog_16_method_1_code (3 : Nat) (Option.none : Option Jvm.ClassFile.FieldType), Jvm.Cond.code ({ cls := "java/lang/Record", name := "<init>", desc := "()V" } : Jvm.MethodName) jdk_30_method_1_code (1 : Nat) (Option.none : Option Jvm.ClassFile.FieldType), Jvm.Cond.code ({ cls := "java/lang/Object", name := "<init>", desc := "()V" } : Jvm.MethodName) object_method_1_code (1 : Nat) (Option.none : Option Jvm.ClassFile.FieldType), Jvm.Cond.code ({ cls := "com/example/turnwire/turnwire/glendy/CellIsOnBoardPinLaw", name := "inSide", desc := "(I)Z" } : Jvm.MethodName) method_3_code (1 : Nat) (Option.some Jvm.ClassFile.FieldType.boolean), Jvm.Cond.code ({ cls := "com/example/turnwire/turnwire/glendy/Cell", name := "isOnBoard", desc := "()Z" } : Jvm.MethodName) prog_16_method_2_code (1 : Nat) (Option.some Jvm.ClassFile.FieldType.boolean)]
set_option maxRecDepth 65536 in
theorem codes_eq : words1.filter isCode = codes1 := rfl
theorem w_codes : ∀ c ∈ words1.filter isCode, c.before args0 about1 = true := by
  rw [codes_eq]
  intro c hc
  simp only [codes1, List.mem_cons, List.not_mem_nil, or_false] at hc
  rcases hc with rfl | rfl | rfl | rfl | rfl | rfl | rfl
  · exact w_c0
  · exact w_c1
  · exact w_c2
  · exact w_c3
  · exact w_c4
  · exact w_c5
  · exact w_c6
set_option maxRecDepth 65536 in
theorem w_t1 : (words1.take 24).all (fun c => isCode c || c.before args0 about1) = true := by decide +kernel
set_option maxRecDepth 65536 in
theorem w_t2 : (words1.drop 24).all (fun c => isCode c || c.before args0 about1) = true := by decide +kernel
theorem w_tables : (allAtoms (Jvm.Cond.code x code maxLocals ret :: tables_1)).before args0 about1 = true := by
  rw [allAtoms_all]
  show words1.all (fun c => c.before args0 about1) = true
  refine all_split ?_ w_codes
  rw [← List.take_append_drop 24 words1, List.all_append, w_t1, w_t2]
  rfl
set_option maxRecDepth 65536 in
theorem w_case : (Jvm.Cond.and given_1 narrow_1).before args0 about1 = true := by decide +kernel
theorem w_applies : (headSpec (Jvm.Cond.code x code maxLocals ret :: tables_1) room_1).applies x e0.platform about1 = true :=
  (Spec.applies_iff w_frames).mpr ⟨w_running, w_runnable, w_alone, w_named, w_hears, w_ripe, w_room, w_tables⟩
theorem atStart : AtStart classFile x code maxLocals ret World_1 tables_1 room_1 Calls_1 rest_1 Pre_1 launch0 p0 e0 about1 theMethod args0 below0 :=
  ⟨lists_1, trivial, launch0.admits_env _ _ _, launch0.least_env, fairChoices_fair.cas, fairChoices_fair.clock, w_frames, w_args, w_heap, w_applies, trivial, trivial, w_case⟩
end start1
theorem witness_1 : WitnessClaimed_1 := ⟨start1.p0, start1.e0, start1.about1, start1.theMethod, start1.args0, start1.below0, start1.atStart⟩
end Jvm.Pilot.@@N@@
