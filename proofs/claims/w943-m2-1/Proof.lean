import JvmDerived
import JvmDerived.Pilot.@@N@@Statement
import JvmDerived.Pilot.@@N@@Code
set_option linter.unusedVariables false
set_option linter.unusedSimpArgs false
@@BLOCK:NumsL.lean.txt@@
namespace Jvm.Pilot.@@N@@
open Jvm Jvm.ClassFile Sem Op Lib Jvm.Free Jvm.Stand Jvm.LawKit Jvm.RoadKit Bundle Jvm.Pilot.@@N@@.Jvm.D
section OwnKit
variable {p : Program} {l : Launch} {e : Env} {R : Room} {s : State} {m : MethodId} {args : Array Value} {below : List Frame} {meth : Method} {c : Code} {T T' : State} {locs : List Loc} {cells slots : Nat} {Z : State} {a0 : Array Value} {h h' : Heap} {g g' : JFrame} {K : Outcome → State → Prop} {a b : Addr}
/-- from the frame g over T the run comes home with K -/
def Goes (p : Program) (e : Env) (below : List Frame) (K : Outcome → State → Prop) (T : State) (g : JFrame) : Prop :=
  ∃ s₂ o, Steps p.tables e below (T.setTop g) s₂ ∧ s₂.status = .running ∧ Ended s₂ below o ∧ K o s₂
theorem Goes.of (f : ∀ t, Steps p.tables e below (T'.setTop g') t → Steps p.tables e below (T.setTop g) t) (h : Goes p e below K T' g') : Goes p e below K T g := by
  obtain ⟨s₂, o, h1, h2⟩ := h; exact ⟨s₂, o, f _ h1, h2⟩
theorem Goes.tr (f : Steps p.tables e below (T.setTop g) (T'.setTop g')) (h : Goes p e below K T' g') : Goes p e below K T g := by
  obtain ⟨s₂, o, h1, h2⟩ := h; exact ⟨s₂, o, f.trans h1, h2⟩
theorem Goes.cast (q : g = g') (h : Goes p e below K T g') : Goes p e below K T g := q ▸ h
def OwnK (s : State) (Q : Option Value → Heap → List Loc → Prop) (C S : Nat) : Outcome → State → Prop := fun o U' => ∃ v L, o = .returned v ∧ Q v U'.heap L ∧ FrameEnd s o U' L C S
section Ret
variable {Q : Option Value → Heap → List Loc → Prop} {C S pc : Nat} {Ls : Array Slot} {rest : List Value}
theorem Goes.retInt (X : Stand p l e R s m args below meth c T locs cells slots) (hx : p.tables.exec = Jvm.exec) (hlk : meth.locks = false) {z : Int32} (hret : meth.sig.returnType = some .int) (hd : decode c.code pc = .ok (.ireturn, 1)) (hQ : Q (some (.int z)) T.heap locs) (hc : cells ≤ C) (hs : slots ≤ S) :
    Goes p e below (OwnK s Q C S) T (mkF m pc Ls (.int z :: rest)) := by
  obtain ⟨fs, hr, hrun, hended, hW, hsame⟩ := X.leave (v := some (.int z)) (fun h => by rw [hret] at h; cases h) hlk
  exact ⟨_, _, retOut X hx hret rfl (Or.inl ⟨rfl, Or.inl rfl, z, rfl⟩) hd hr, hrun, hended, _, _, rfl, hQ, ⟨_, rfl⟩, hW, hsame.mono hc hs⟩
theorem Goes.retNar (X : Stand p l e R s m args below meth c T locs cells slots) (hx : p.tables.exec = Jvm.exec) (hlk : meth.locks = false) {t : FieldType} {z : Int32} (ht : t = .boolean ∨ t = .byte ∨ t = .char ∨ t = .short) (hret : meth.sig.returnType = some t) (hd : decode c.code pc = .ok (.ireturn, 1)) (hQ : Q (some (.int (nar t z))) T.heap locs) (hc : cells ≤ C) (hs : slots ≤ S) :
    Goes p e below (OwnK s Q C S) T (mkF m pc Ls (.int z :: rest)) := by
  obtain ⟨fs, hr, hrun, hended, hW, hsame⟩ := X.leave (v := some (.int (nar t z))) (fun h => by rw [hret] at h; cases h) hlk
  exact ⟨_, _, retN X hx hret ht hd hr, hrun, hended, _, _, rfl, hQ, ⟨_, rfl⟩, hW, hsame.mono hc hs⟩
theorem Goes.retLong (X : Stand p l e R s m args below meth c T locs cells slots) (hx : p.tables.exec = Jvm.exec) (hlk : meth.locks = false) {z : Int64} (hret : meth.sig.returnType = some .long) (hd : decode c.code pc = .ok (.lreturn, 1)) (hQ : Q (some (.long z)) T.heap locs) (hc : cells ≤ C) (hs : slots ≤ S) :
    Goes p e below (OwnK s Q C S) T (mkF m pc Ls (.long z :: rest)) := by
  obtain ⟨fs, hr, hrun, hended, hW, hsame⟩ := X.leave (v := some (.long z)) (fun h => by rw [hret] at h; cases h) hlk
  exact ⟨_, _, retOut X hx hret rfl (Or.inr (Or.inl ⟨rfl, rfl, z, rfl⟩)) hd hr, hrun, hended, _, _, rfl, hQ, ⟨_, rfl⟩, hW, hsame.mono hc hs⟩
theorem Goes.retRef (X : Stand p l e R s m args below meth c T locs cells slots) (hx : p.tables.exec = Jvm.exec) (hlk : meth.locks = false) {t : FieldType} {w : Value} (hw : w.isRef = true) (ht : t.isReference = true) (hret : meth.sig.returnType = some t) (hd : decode c.code pc = .ok (.areturn, 1)) (hQ : Q (some w) T.heap locs) (hc : cells ≤ C) (hs : slots ≤ S) :
    Goes p e below (OwnK s Q C S) T (mkF m pc Ls (w :: rest)) := by
  obtain ⟨fs, hr, hrun, hended, hW, hsame⟩ := X.leave (v := some w) (fun h => by rw [hret] at h; cases h) hlk
  have hn : narrow t w = w := by cases t <;> first | (cases ht; done) | (cases w <;> first | (cases hw; done) | rfl)
  exact ⟨_, _, retOut X hx hret hn (Or.inr (Or.inr (Or.inr (Or.inr ⟨rfl, ht, hw⟩)))) hd hr, hrun, hended, _, _, rfl, hQ, ⟨_, rfl⟩, hW, hsame.mono hc hs⟩
theorem Goes.retVoid (X : Stand p l e R s m args below meth c T locs cells slots) (hx : p.tables.exec = Jvm.exec) (hlk : meth.locks = false) (hret : meth.sig.returnType = none) (hd : decode c.code pc = .ok (.return_, 1)) (hQ : Q none T.heap locs) (hc : cells ≤ C) (hs : slots ≤ S) :
    Goes p e below (OwnK s Q C S) T (mkF m pc Ls []) := by
  obtain ⟨fs, hr, hrun, hended, hW, hsame⟩ := X.leave (v := none) (fun _ => rfl) hlk
  exact ⟨_, _, X.returnOut hx hret hd hr, hrun, hended, _, _, rfl, hQ, ⟨_, rfl⟩, hW, hsame.mono hc hs⟩
end Ret
/-- an array of ints, chars, bytes (not of booleans): all of its elements -/
def AI (Z : State) (h : Heap) (a : Addr) (ty : FieldType) (xs : List Int32) : Prop := ∃ cl : Cell, Arr Z h a cl ty ∧ cl.slots.toList = xs.map Value.int ∧ xs.length < 2 ^ 31 ∧ ∀ x ∈ xs, fits ty (.int x) = true
section Arrs
variable {ty : FieldType} {xs : List Int32} {sl : Nat} {v : Value} {ws : List Addr} {j x : Int32} {i : Nat} {rest : List Value}
theorem AI.lt (F : AI Z h a ty xs) : a < h.size := by obtain ⟨cl, A, -⟩ := F; exact A.lt
theorem AI.ext (F : AI Z h a ty xs) (E : Ext h h') : AI Z h' a ty xs := by obtain ⟨cl, A, r⟩ := F; exact ⟨cl, A.ext E, r⟩
theorem AI.other (F : AI Z h b ty xs) (W : Wr h h' a sl v) (q : b ≠ a) : AI Z h' b ty xs := by obtain ⟨cl, A, r⟩ := F; exact ⟨cl, A.other W q, r⟩
theorem AI.keep (F : AI Z h a ty xs) (K : Keep h h' ws) (q : a ∉ ws) : AI Z h' a ty xs := by obtain ⟨cl, A, r⟩ := F; exact ⟨cl, ⟨K.2.1 a cl A.1 q, A.2⟩, r⟩
theorem own_idx {cl : Cell} (hsz : cl.slots.toList = xs.map Value.int) (hj : j.toInt = (i : Int)) (hi : i < xs.length) : ¬ (j < 0 ∨ cl.slots.size ≤ j.toNatClampNeg) ∧ j.toNatClampNeg = i := by
  have hl : cl.slots.size = xs.length := by rw [← Array.length_toList, hsz, List.length_map]
  have hn : j.toNatClampNeg = i := by simp only [Int32.toNatClampNeg, hj]; rfl
  refine ⟨?_, hn⟩
  rw [hn, hl, Int32.lt_iff_toInt_lt, hj]
  have e0 : (0 : Int32).toInt = 0 := rfl
  omega
theorem own_at {cl : Cell} (hsz : cl.slots.toList = xs.map Value.int) (hi : xs[i]? = some x) : cl.slots[i]? = some (.int x) := by
  rw [← Array.getElem?_toList, hsz, List.getElem?_map, hi]; rfl
theorem AI.iaload (X : Stand p l e R s m args below meth c T locs cells slots) (hx : p.tables.exec = Jvm.exec) (hZ : Z.Warmed39 s.vm) (eT : T.heap = h) (A : AI Z h a .int xs) (hj : j.toInt = (i : Int)) (hi : xs[i]? = some x) (hg : g.method = m) (hs : g.stack = .int j :: .ref a :: rest) (hd : decode c.code g.pc = .ok (.iaload, 1)) :
    ∀ t, Steps p.tables e below (T.setTop { g with pc := g.pc + 1, stack := .int x :: rest }) t → Steps p.tables e below (T.setTop g) t := by
  obtain ⟨cl, A1, h1, h2, h3⟩ := A
  obtain ⟨q1, q2⟩ := own_idx h1 hj (List.getElem?_eq_some_iff.mp hi).1
  exact X.iaload hx (by rw [eT]; exact A1.1) (State.isArrayOf_alike hZ.alike A1.2.1) A1.2.2 q1 (by rw [q2]; exact own_at h1 hi) hg hs hd
theorem AI.caload (X : Stand p l e R s m args below meth c T locs cells slots) (hx : p.tables.exec = Jvm.exec) (hZ : Z.Warmed39 s.vm) (eT : T.heap = h) (A : AI Z h a .char xs) (hj : j.toInt = (i : Int)) (hi : xs[i]? = some x) (hg : g.method = m) (hs : g.stack = .int j :: .ref a :: rest) (hd : decode c.code g.pc = .ok (.caload, 1)) :
    ∀ t, Steps p.tables e below (T.setTop { g with pc := g.pc + 1, stack := .int x :: rest }) t → Steps p.tables e below (T.setTop g) t := by
  obtain ⟨cl, A1, h1, h2, h3⟩ := A
  obtain ⟨q1, q2⟩ := own_idx h1 hj (List.getElem?_eq_some_iff.mp hi).1
  exact X.caload hx (by rw [eT]; exact A1.1) (State.isArrayOf_alike hZ.alike A1.2.1) A1.2.2 q1 (by rw [q2]; exact own_at h1 hi) hg hs hd
theorem AI.baload (X : Stand p l e R s m args below meth c T locs cells slots) (hx : p.tables.exec = Jvm.exec) (hZ : Z.Warmed39 s.vm) (eT : T.heap = h) (A : AI Z h a .byte xs) (hj : j.toInt = (i : Int)) (hi : xs[i]? = some x) (hg : g.method = m) (hs : g.stack = .int j :: .ref a :: rest) (hd : decode c.code g.pc = .ok (.baload, 1)) :
    ∀ t, Steps p.tables e below (T.setTop { g with pc := g.pc + 1, stack := .int x :: rest }) t → Steps p.tables e below (T.setTop g) t := by
  obtain ⟨cl, A1, h1, h2, h3⟩ := A
  obtain ⟨q1, q2⟩ := own_idx h1 hj (List.getElem?_eq_some_iff.mp hi).1
  exact X.baloadBytes hx (by rw [eT]; exact A1.1) (State.isArrayOf_alike hZ.alike A1.2.1) A1.2.2 q1 (by rw [q2]; exact own_at h1 hi) hg hs hd
theorem AI.arraylength (X : Stand p l e R s m args below meth c T locs cells slots) (hx : p.tables.exec = Jvm.exec) (hZ : Z.Warmed39 s.vm) (eT : T.heap = h) (A : AI Z h a ty xs) (hj : j.toInt = (xs.length : Int)) (hg : g.method = m) (hs : g.stack = .ref a :: rest) (hd : decode c.code g.pc = .ok (.arraylength, 1)) :
    ∀ t, Steps p.tables e below (T.setTop { g with pc := g.pc + 1, stack := .int j :: rest }) t → Steps p.tables e below (T.setTop g) t := by
  obtain ⟨cl, A1, h1, h2, h3⟩ := A
  intro t k
  have hl : cl.slots.size = xs.length := by rw [← Array.length_toList, h1, List.length_map]
  have ej : cl.slots.size.toInt32 = j := by
    rw [hl]
    apply Int32.toInt_inj.mp
    rw [hj]; exact len_toInt h2
  refine X.arraylength hx (by rw [eT]; exact A1.1) (State.isArrayOf_alike hZ.alike A1.2.1) hg hs hd t ?_
  rw [ej]; exact k
theorem own_set {cl : Cell} (A : Arr Z h a cl ty) (h1 : cl.slots.toList = xs.map Value.int) (h2 : xs.length < 2 ^ 31) (h3 : ∀ x ∈ xs, fits ty (.int x) = true) (hf : fits ty (.int x) = true) (W : Wr h h' a i (.int x)) : AI Z h' a ty (xs.set i x) :=
  ⟨_, A.same W, by simp [Cell.setSlot, h1, List.map_set], by rw [List.length_set]; exact h2, fun y hy => by
    rcases List.mem_or_eq_of_mem_set hy with q | q
    · exact h3 y q
    · rw [q]; exact hf⟩
theorem AI.iastore (X : Stand p l e R s m args below meth c T locs cells slots) (hx : p.tables.exec = Jvm.exec) (hZ : Z.Warmed39 s.vm) (eT : T.heap = h) (A : AI Z h a .int xs) (hj : j.toInt = (i : Int)) (hi : i < xs.length) (hg : g.method = m) (hs : g.stack = .int x :: .int j :: .ref a :: rest) (hd : decode c.code g.pc = .ok (.iastore, 1)) :
    ∃ T' h', Stand p l e R s m args below meth c T' (locs ++ [⟨a, i⟩]) cells slots ∧ T'.heap = h' ∧ Wr h h' a i (.int x) ∧ AI Z h' a .int (xs.set i x) ∧ ∀ target, Steps p.tables e below (T'.setTop { g with pc := g.pc + 1, stack := rest }) target → Steps p.tables e below (T.setTop g) target := by
  obtain ⟨cl, A1, h1, h2, h3⟩ := A
  obtain ⟨q1, q2⟩ := own_idx h1 hj hi
  obtain ⟨T', h', X', e', W', st⟩ := stI X hx hZ eT A1 q1 hg hs hd
  rw [q2] at X' W'
  exact ⟨T', h', X', e', W', own_set A1 h1 h2 h3 rfl W', st⟩
theorem AI.castore (X : Stand p l e R s m args below meth c T locs cells slots) (hx : p.tables.exec = Jvm.exec) (hZ : Z.Warmed39 s.vm) (eT : T.heap = h) (A : AI Z h a .char xs) (hj : j.toInt = (i : Int)) (hi : i < xs.length) (hg : g.method = m) (hs : g.stack = .int x :: .int j :: .ref a :: rest) (hd : decode c.code g.pc = .ok (.castore, 1)) :
    ∃ T' h', Stand p l e R s m args below meth c T' (locs ++ [⟨a, i⟩]) cells slots ∧ T'.heap = h' ∧ Wr h h' a i (.int (nar .char x)) ∧ AI Z h' a .char (xs.set i (nar .char x)) ∧ ∀ target, Steps p.tables e below (T'.setTop { g with pc := g.pc + 1, stack := rest }) target → Steps p.tables e below (T.setTop g) target := by
  obtain ⟨cl, A1, h1, h2, h3⟩ := A
  obtain ⟨q1, q2⟩ := own_idx h1 hj hi
  obtain ⟨T', h', X', e', W', st⟩ := stC X hx hZ eT A1 q1 hg hs hd
  rw [q2] at X' W'
  exact ⟨T', h', X', e', W', own_set A1 h1 h2 h3 (fits_nar_char _) W', st⟩
theorem AI.bastore (X : Stand p l e R s m args below meth c T locs cells slots) (hx : p.tables.exec = Jvm.exec) (hZ : Z.Warmed39 s.vm) (eT : T.heap = h) (A : AI Z h a .byte xs) (hj : j.toInt = (i : Int)) (hi : i < xs.length) (hg : g.method = m) (hs : g.stack = .int x :: .int j :: .ref a :: rest) (hd : decode c.code g.pc = .ok (.bastore, 1)) :
    ∃ T' h', Stand p l e R s m args below meth c T' (locs ++ [⟨a, i⟩]) cells slots ∧ T'.heap = h' ∧ Wr h h' a i (.int (nar .byte x)) ∧ AI Z h' a .byte (xs.set i (nar .byte x)) ∧ ∀ target, Steps p.tables e below (T'.setTop { g with pc := g.pc + 1, stack := rest }) target → Steps p.tables e below (T.setTop g) target := by
  obtain ⟨cl, A1, h1, h2, h3⟩ := A
  obtain ⟨q1, q2⟩ := own_idx h1 hj hi
  obtain ⟨T', h', X', e', W', st⟩ := stB X hx hZ eT A1 q1 hg hs hd
  rw [q2] at X' W'
  exact ⟨T', h', X', e', W', own_set A1 h1 h2 h3 (fits_nar_byte _) W', st⟩
theorem AI.fresh {cA : ClassId} {n : Int32} {k : Nat} (ht : ty = .int ∨ ty = .char ∨ ty = .byte ∨ ty = .short) (hn : n.toInt = (k : Int)) (A : Arr Z h a (newA cA ty n) ty) : AI Z h a ty (List.replicate k 0) := by
  have e : n.toNatClampNeg = k := by simp only [Int32.toNatClampNeg, hn]; rfl
  have hk := n.toInt_lt
  refine ⟨_, A, ?_, ?_, ?_⟩
  · rcases ht with rfl | rfl | rfl | rfl <;> simp [newA, e, defaultValue]
  · rw [List.length_replicate]; omega
  · intro x hx
    obtain rfl := List.eq_of_mem_replicate hx
    rcases ht with rfl | rfl | rfl | rfl <;> rfl
end Arrs
end OwnKit
def f1 (p1 : Int32) : Int32 := if p1 = (16 : Int32) then (1 : Int32) else if (128 : Int32) < p1 then (1 : Int32) else (0 : Int32)
theorem d1_0 : decode prog_15_method_12_code 0 = .ok (.iload_n 0, 1) := by decide +kernel
theorem d1_1 : decode prog_15_method_12_code 1 = .ok (.getstatic 102, 3) := by decide +kernel
theorem d1_4 : decode prog_15_method_12_code 4 = .ok (.if_icmp .eq 10, 3) := by decide +kernel
theorem d1_7 : decode prog_15_method_12_code 7 = .ok (.iload_n 0, 1) := by decide +kernel
theorem d1_8 : decode prog_15_method_12_code 8 = .ok (.getstatic 64, 3) := by decide +kernel
theorem d1_11 : decode prog_15_method_12_code 11 = .ok (.if_icmp .le 7, 3) := by decide +kernel
theorem d1_14 : decode prog_15_method_12_code 14 = .ok (.iconst 1, 1) := by decide +kernel
theorem d1_15 : decode prog_15_method_12_code 15 = .ok (.goto 4, 3) := by decide +kernel
theorem d1_18 : decode prog_15_method_12_code 18 = .ok (.iconst 0, 1) := by decide +kernel
theorem d1_19 : decode prog_15_method_12_code 19 = .ok (.ireturn, 1) := by decide +kernel
theorem pn_1 : plainFor (⟨"com/example/coalesce/coalesce/core/WaitQueue", "yieldsAt", "(I)Z"⟩ : MethodName) = true := plainFor_of_name (by first | (simp [plainName, overriddenIn]; done) | decide +kernel)
theorem ef_1 (m : MethodId) (x0 : Int32) : entryFrame m #[(.int x0)] 1 = mkF m 0 #[.val (.int x0)] [] := by first | (simp [entryFrame, mkF, argsToLocals, Value.category]; done) | rfl
def Q1 (Z : State) (p1 : Int32) (h0 : Heap) (n0 : Nat) (v : Option Value) (h : Heap) (L : List Loc) : Prop := v = some (.int (f1 p1)) ∧ Fr n0 L ∧ h = h0
set_option maxRecDepth 65536 in
set_option maxHeartbeats 40000000 in
theorem rm1 (l : Launch) (Z : State) (a0 : Array Value) (hw : ∀ d ∈ tables_1, d.before a0 Z = true) (ws : List Jvm.Cond) (p1 : Int32) (h0 : Heap) (n0 : Nat) (Z0 : n0 ≤ h0.size) (Sa : Sta Z h0 "com/example/coalesce/coalesce/core/WaitQueue" "SPINS" "I" (.int (128 : Int32))) (Sb : Sta Z h0 "com/example/coalesce/coalesce/core/WaitQueue" "SPINS_BEFORE_FIRST_YIELD" "I" (.int (16 : Int32))) :
    MetFree l (⟨"com/example/coalesce/coalesce/core/WaitQueue", "yieldsAt", "(I)Z"⟩ : MethodName) (head1 (Jvm.Cond.code (⟨"com/example/coalesce/coalesce/core/WaitQueue", "yieldsAt", "(I)Z"⟩ : MethodName) prog_15_method_12_code 1 (some .boolean) :: ws) ({ frames := 0, cells := 0, slots := 0, locals := 0 } : Room)) (fun a U => a = #[(.int p1)] ∧ Z.Warmed39 U.vm ∧ U.heap = h0) (fun _ _ _ _ _ => True) (fun _ U o U' => ∃ v L, o = .returned v ∧ Q1 Z p1 h0 n0 v U'.heap L ∧ FrameEnd U o U' L ({ frames := 0, cells := 0, slots := 0, locals := 0 } : Room).cells ({ frames := 0, cells := 0, slots := 0, locals := 0 } : Room).slots) := by
  refine MetFree.of_bodySF pn_1 hisR ?_
  intro p e s m args below meth c s₁ Bd hml0 hP hK
  obtain ⟨rfl, hZ, hh⟩ := hP
  have hx := Bd.exec
  have hby := Bd.bytes
  have hml : c.maxLocals = 1 := hml0
  have hown : s.vm.findClass "com/example/coalesce/coalesce/core/WaitQueue" = some m.cls := findClass_of_methodNamed Bd.named
  have hnm := (name_of_methodNamed Bd.named Bd.method).1
  have hlk : meth.locks = false := BodyLoose.notSynchronized Bd
  have X0 : Stand p l e ({ frames := 0, cells := 0, slots := 0, locals := 0 } : Room) s m #[(.int p1)] below meth c s₁ [] 0 0 := Stand.of_body Bd
  have e0 : s₁.heap = h0 := by rw [← hh, Bd.state]; rfl
  have N0 := Fr.nil n0
  show Goes p e below (OwnK s (Q1 Z p1 h0 n0) ({ frames := 0, cells := 0, slots := 0, locals := 0 } : Room).cells ({ frames := 0, cells := 0, slots := 0, locals := 0 } : Room).slots) s₁ (entryFrame m #[(.int p1)] 1)
  refine Goes.cast (ef_1 m p1) ?_
  generalize hKK : OwnK s (Q1 Z p1 h0 n0) ({ frames := 0, cells := 0, slots := 0, locals := 0 } : Room).cells ({ frames := 0, cells := 0, slots := 0, locals := 0 } : Room).slots = KK
  show Goes p e below KK s₁ (mkF m 0 #[.val (.int p1)] [])
  have w_8 := hw _ (List.mem_of_getElem? (i := 8) rfl)
  have w_9 := hw _ (List.mem_of_getElem? (i := 9) rfl)
  refine Goes.of (fun t => XS.iloadN X0.here hx rfl (hb hby d1_0) rfl) ?_
  show Goes p e below KK s₁ (mkF m 1 #[.val (.int p1)] [(.int p1)])
  obtain ⟨T1, X1, e1, st1⟩ := getS2 X0 hx hZ hown (host := "") (Or.inl w_8) Via.refl e0 Sb (g := (mkF m 1 #[.val (.int p1)] [(.int p1)])) rfl (hb hby d1_1)
  refine Goes.of (st1) ?_
  show Goes p e below KK T1 (mkF m 4 #[.val (.int p1)] [(.int (16 : Int32)), (.int p1)])
  by_cases hc4 : p1 = (16 : Int32)
  · refine Goes.of (fun t => XS.icmpYes X1.here hx rfl (pc0 := 4) (pc' := 14) rfl (hb hby d1_4) rfl (teq hc4).1 (by decide) (by decide)) ?_
    show Goes p e below KK T1 (mkF m 14 #[.val (.int p1)] [])
    refine Goes.of (fun t => XS.iconst X1.here hx rfl (hb hby d1_14)) ?_
    show Goes p e below KK T1 (mkF m 15 #[.val (.int p1)] [(.int (1 : Int32))])
    refine Goes.of (fun t => XS.goto X1.here hx rfl (pc0 := 15) (pc' := 19) rfl (hb hby d1_15) (by decide) (by decide)) ?_
    show Goes p e below KK T1 (mkF m 19 #[.val (.int p1)] [(.int (1 : Int32))])
    rw [← hKK]
    refine Goes.retNar X1 hx hlk (t := .boolean) (by simp) Bd.returns (hb hby d1_19) ?_ (by decide) (by decide)
    rw [e1]
    exact ⟨by unfold f1; rw [if_pos hc4] <;> rfl, N0, rfl⟩
  · refine Goes.of (fun t => XS.icmpNo X1.here hx rfl (hb hby d1_4) rfl (feq hc4).1) ?_
    show Goes p e below KK T1 (mkF m 7 #[.val (.int p1)] [])
    refine Goes.of (fun t => XS.iloadN X1.here hx rfl (hb hby d1_7) rfl) ?_
    show Goes p e below KK T1 (mkF m 8 #[.val (.int p1)] [(.int p1)])
    obtain ⟨T2, X2, e2, st2⟩ := getS2 X1 hx hZ hown (host := "") (Or.inl w_9) Via.refl e1 Sa (g := (mkF m 8 #[.val (.int p1)] [(.int p1)])) rfl (hb hby d1_8)
    refine Goes.of (st2) ?_
    show Goes p e below KK T2 (mkF m 11 #[.val (.int p1)] [(.int (128 : Int32)), (.int p1)])
    by_cases hc11 : (128 : Int32) < p1
    · refine Goes.of (fun t => XS.icmpNo X2.here hx rfl (hb hby d1_11) rfl (tlt hc11).2.2.2) ?_
      show Goes p e below KK T2 (mkF m 14 #[.val (.int p1)] [])
      refine Goes.of (fun t => XS.iconst X2.here hx rfl (hb hby d1_14)) ?_
      show Goes p e below KK T2 (mkF m 15 #[.val (.int p1)] [(.int (1 : Int32))])
      refine Goes.of (fun t => XS.goto X2.here hx rfl (pc0 := 15) (pc' := 19) rfl (hb hby d1_15) (by decide) (by decide)) ?_
      show Goes p e below KK T2 (mkF m 19 #[.val (.int p1)] [(.int (1 : Int32))])
      rw [← hKK]
      refine Goes.retNar X2 hx hlk (t := .boolean) (by simp) Bd.returns (hb hby d1_19) ?_ (by decide) (by decide)
      rw [e2]
      exact ⟨by unfold f1; rw [if_neg hc4, if_pos hc11] <;> rfl, N0, rfl⟩
    · refine Goes.of (fun t => XS.icmpYes X2.here hx rfl (pc0 := 11) (pc' := 18) rfl (hb hby d1_11) rfl (flt hc11).2.2.2 (by decide) (by decide)) ?_
      show Goes p e below KK T2 (mkF m 18 #[.val (.int p1)] [])
      refine Goes.of (fun t => XS.iconst X2.here hx rfl (hb hby d1_18)) ?_
      show Goes p e below KK T2 (mkF m 19 #[.val (.int p1)] [(.int (0 : Int32))])
      rw [← hKK]
      refine Goes.retNar X2 hx hlk (t := .boolean) (by simp) Bd.returns (hb hby d1_19) ?_ (by decide) (by decide)
      rw [e2]
      exact ⟨by unfold f1; rw [if_neg hc4, if_neg hc11] <;> rfl, N0, rfl⟩
def f2 (p1 : Int32) (p2 : Int32) (p3 : Int32) : Int32 := if p1 < (0 : Int32) then (0 : Int32) else if p1 < p3 then (0 : Int32) else if p1 = p3 then (1 : Int32) else if (p3 + (p2 - p3)) < p1 then (1 : Int32) else (0 : Int32)
theorem d2_0 : decode method_3_code 0 = .ok (.iload_n 0, 1) := by decide +kernel
theorem d2_1 : decode method_3_code 1 = .ok (.ifCond .ge 5, 3) := by decide +kernel
theorem d2_4 : decode method_3_code 4 = .ok (.iconst 0, 1) := by decide +kernel
theorem d2_5 : decode method_3_code 5 = .ok (.ireturn, 1) := by decide +kernel
theorem d2_6 : decode method_3_code 6 = .ok (.iload_n 0, 1) := by decide +kernel
theorem d2_7 : decode method_3_code 7 = .ok (.iload_n 2, 1) := by decide +kernel
theorem d2_8 : decode method_3_code 8 = .ok (.if_icmp .ge 5, 3) := by decide +kernel
theorem d2_11 : decode method_3_code 11 = .ok (.iconst 0, 1) := by decide +kernel
theorem d2_12 : decode method_3_code 12 = .ok (.ireturn, 1) := by decide +kernel
theorem d2_13 : decode method_3_code 13 = .ok (.iload_n 0, 1) := by decide +kernel
theorem d2_14 : decode method_3_code 14 = .ok (.iload_n 2, 1) := by decide +kernel
theorem d2_15 : decode method_3_code 15 = .ok (.if_icmp .ne 5, 3) := by decide +kernel
theorem d2_18 : decode method_3_code 18 = .ok (.iconst 1, 1) := by decide +kernel
theorem d2_19 : decode method_3_code 19 = .ok (.ireturn, 1) := by decide +kernel
theorem d2_20 : decode method_3_code 20 = .ok (.iload_n 0, 1) := by decide +kernel
theorem d2_21 : decode method_3_code 21 = .ok (.iload_n 2, 1) := by decide +kernel
theorem d2_22 : decode method_3_code 22 = .ok (.iload_n 1, 1) := by decide +kernel
theorem d2_23 : decode method_3_code 23 = .ok (.iload_n 2, 1) := by decide +kernel
theorem d2_24 : decode method_3_code 24 = .ok (.isub, 1) := by decide +kernel
theorem d2_25 : decode method_3_code 25 = .ok (.iadd, 1) := by decide +kernel
theorem d2_26 : decode method_3_code 26 = .ok (.if_icmp .gt 5, 3) := by decide +kernel
theorem d2_29 : decode method_3_code 29 = .ok (.iconst 0, 1) := by decide +kernel
theorem d2_30 : decode method_3_code 30 = .ok (.ireturn, 1) := by decide +kernel
theorem d2_31 : decode method_3_code 31 = .ok (.iconst 1, 1) := by decide +kernel
theorem d2_32 : decode method_3_code 32 = .ok (.ireturn, 1) := by decide +kernel
theorem pn_2 : plainFor (⟨"com/example/coalesce/coalesce/core/WaitQueueYieldsAtPinLaw", "expected", "(III)Z"⟩ : MethodName) = true := plainFor_of_name (by first | (simp [plainName, overriddenIn]; done) | decide +kernel)
theorem ef_2 (m : MethodId) (x0 : Int32) (x1 : Int32) (x2 : Int32) : entryFrame m #[(.int x0), (.int x1), (.int x2)] 3 = mkF m 0 #[.val (.int x0), .val (.int x1), .val (.int x2)] [] := by first | (simp [entryFrame, mkF, argsToLocals, Value.category]; done) | rfl
def Q2 (Z : State) (p1 : Int32) (p2 : Int32) (p3 : Int32) (h0 : Heap) (n0 : Nat) (v : Option Value) (h : Heap) (L : List Loc) : Prop := v = some (.int (f2 p1 p2 p3)) ∧ Fr n0 L ∧ h = h0
set_option maxRecDepth 65536 in
set_option maxHeartbeats 40000000 in
theorem rm2 (l : Launch) (Z : State) (a0 : Array Value) (hw : ∀ d ∈ tables_1, d.before a0 Z = true) (ws : List Jvm.Cond) (p1 : Int32) (p2 : Int32) (p3 : Int32) (h0 : Heap) (n0 : Nat) (Z0 : n0 ≤ h0.size) :
    MetFree l (⟨"com/example/coalesce/coalesce/core/WaitQueueYieldsAtPinLaw", "expected", "(III)Z"⟩ : MethodName) (head1 (Jvm.Cond.code (⟨"com/example/coalesce/coalesce/core/WaitQueueYieldsAtPinLaw", "expected", "(III)Z"⟩ : MethodName) method_3_code 3 (some .boolean) :: ws) ({ frames := 0, cells := 0, slots := 0, locals := 0 } : Room)) (fun a U => a = #[(.int p1), (.int p2), (.int p3)] ∧ Z.Warmed39 U.vm ∧ U.heap = h0) (fun _ _ _ _ _ => True) (fun _ U o U' => ∃ v L, o = .returned v ∧ Q2 Z p1 p2 p3 h0 n0 v U'.heap L ∧ FrameEnd U o U' L ({ frames := 0, cells := 0, slots := 0, locals := 0 } : Room).cells ({ frames := 0, cells := 0, slots := 0, locals := 0 } : Room).slots) := by
  refine MetFree.of_bodySF pn_2 hisR ?_
  intro p e s m args below meth c s₁ Bd hml0 hP hK
  obtain ⟨rfl, hZ, hh⟩ := hP
  have hx := Bd.exec
  have hby := Bd.bytes
  have hml : c.maxLocals = 3 := hml0
  have hown : s.vm.findClass "com/example/coalesce/coalesce/core/WaitQueueYieldsAtPinLaw" = some m.cls := findClass_of_methodNamed Bd.named
  have hnm := (name_of_methodNamed Bd.named Bd.method).1
  have hlk : meth.locks = false := BodyLoose.notSynchronized Bd
  have X0 : Stand p l e ({ frames := 0, cells := 0, slots := 0, locals := 0 } : Room) s m #[(.int p1), (.int p2), (.int p3)] below meth c s₁ [] 0 0 := Stand.of_body Bd
  have e0 : s₁.heap = h0 := by rw [← hh, Bd.state]; rfl
  have N0 := Fr.nil n0
  show Goes p e below (OwnK s (Q2 Z p1 p2 p3 h0 n0) ({ frames := 0, cells := 0, slots := 0, locals := 0 } : Room).cells ({ frames := 0, cells := 0, slots := 0, locals := 0 } : Room).slots) s₁ (entryFrame m #[(.int p1), (.int p2), (.int p3)] 3)
  refine Goes.cast (ef_2 m p1 p2 p3) ?_
  generalize hKK : OwnK s (Q2 Z p1 p2 p3 h0 n0) ({ frames := 0, cells := 0, slots := 0, locals := 0 } : Room).cells ({ frames := 0, cells := 0, slots := 0, locals := 0 } : Room).slots = KK
  show Goes p e below KK s₁ (mkF m 0 #[.val (.int p1), .val (.int p2), .val (.int p3)] [])
  refine Goes.of (fun t => XS.iloadN X0.here hx rfl (hb hby d2_0) rfl) ?_
  show Goes p e below KK s₁ (mkF m 1 #[.val (.int p1), .val (.int p2), .val (.int p3)] [(.int p1)])
  by_cases hc1 : p1 < (0 : Int32)
  · refine Goes.of (fun t => XS.ifNo X0.here hx rfl (hb hby d2_1) rfl ((if0 _ _).trans (tlt hc1).2.1)) ?_
    show Goes p e below KK s₁ (mkF m 4 #[.val (.int p1), .val (.int p2), .val (.int p3)] [])
    refine Goes.of (fun t => XS.iconst X0.here hx rfl (hb hby d2_4)) ?_
    show Goes p e below KK s₁ (mkF m 5 #[.val (.int p1), .val (.int p2), .val (.int p3)] [(.int (0 : Int32))])
    rw [← hKK]
    refine Goes.retNar X0 hx hlk (t := .boolean) (by simp) Bd.returns (hb hby d2_5) ?_ (by decide) (by decide)
    rw [e0]
    exact ⟨by unfold f2; rw [if_pos hc1] <;> rfl, N0, rfl⟩
  · refine Goes.of (fun t => XS.ifYes X0.here hx rfl (pc0 := 1) (pc' := 6) rfl (hb hby d2_1) rfl ((if0 _ _).trans (flt hc1).2.1) (by decide) (by decide)) ?_
    show Goes p e below KK s₁ (mkF m 6 #[.val (.int p1), .val (.int p2), .val (.int p3)] [])
    refine Goes.of (fun t => XS.iloadN X0.here hx rfl (hb hby d2_6) rfl) ?_
    show Goes p e below KK s₁ (mkF m 7 #[.val (.int p1), .val (.int p2), .val (.int p3)] [(.int p1)])
    refine Goes.of (fun t => XS.iloadN X0.here hx rfl (hb hby d2_7) rfl) ?_
    show Goes p e below KK s₁ (mkF m 8 #[.val (.int p1), .val (.int p2), .val (.int p3)] [(.int p3), (.int p1)])
    by_cases hc8 : p1 < p3
    · refine Goes.of (fun t => XS.icmpNo X0.here hx rfl (hb hby d2_8) rfl (tlt hc8).2.1) ?_
      show Goes p e below KK s₁ (mkF m 11 #[.val (.int p1), .val (.int p2), .val (.int p3)] [])
      refine Goes.of (fun t => XS.iconst X0.here hx rfl (hb hby d2_11)) ?_
      show Goes p e below KK s₁ (mkF m 12 #[.val (.int p1), .val (.int p2), .val (.int p3)] [(.int (0 : Int32))])
      rw [← hKK]
      refine Goes.retNar X0 hx hlk (t := .boolean) (by simp) Bd.returns (hb hby d2_12) ?_ (by decide) (by decide)
      rw [e0]
      exact ⟨by unfold f2; rw [if_neg hc1, if_pos hc8] <;> rfl, N0, rfl⟩
    · refine Goes.of (fun t => XS.icmpYes X0.here hx rfl (pc0 := 8) (pc' := 13) rfl (hb hby d2_8) rfl (flt hc8).2.1 (by decide) (by decide)) ?_
      show Goes p e below KK s₁ (mkF m 13 #[.val (.int p1), .val (.int p2), .val (.int p3)] [])
      refine Goes.of (fun t => XS.iloadN X0.here hx rfl (hb hby d2_13) rfl) ?_
      show Goes p e below KK s₁ (mkF m 14 #[.val (.int p1), .val (.int p2), .val (.int p3)] [(.int p1)])
      refine Goes.of (fun t => XS.iloadN X0.here hx rfl (hb hby d2_14) rfl) ?_
      show Goes p e below KK s₁ (mkF m 15 #[.val (.int p1), .val (.int p2), .val (.int p3)] [(.int p3), (.int p1)])
      by_cases hc15 : p1 = p3
      · refine Goes.of (fun t => XS.icmpNo X0.here hx rfl (hb hby d2_15) rfl (teq hc15).2) ?_
        show Goes p e below KK s₁ (mkF m 18 #[.val (.int p1), .val (.int p2), .val (.int p3)] [])
        refine Goes.of (fun t => XS.iconst X0.here hx rfl (hb hby d2_18)) ?_
        show Goes p e below KK s₁ (mkF m 19 #[.val (.int p1), .val (.int p2), .val (.int p3)] [(.int (1 : Int32))])
        rw [← hKK]
        refine Goes.retNar X0 hx hlk (t := .boolean) (by simp) Bd.returns (hb hby d2_19) ?_ (by decide) (by decide)
        rw [e0]
        exact ⟨by unfold f2; rw [if_neg hc1, if_neg hc8, if_pos hc15] <;> rfl, N0, rfl⟩
      · refine Goes.of (fun t => XS.icmpYes X0.here hx rfl (pc0 := 15) (pc' := 20) rfl (hb hby d2_15) rfl (feq hc15).2 (by decide) (by decide)) ?_
        show Goes p e below KK s₁ (mkF m 20 #[.val (.int p1), .val (.int p2), .val (.int p3)] [])
        refine Goes.of (fun t => XS.iloadN X0.here hx rfl (hb hby d2_20) rfl) ?_
        show Goes p e below KK s₁ (mkF m 21 #[.val (.int p1), .val (.int p2), .val (.int p3)] [(.int p1)])
        refine Goes.of (fun t => XS.iloadN X0.here hx rfl (hb hby d2_21) rfl) ?_
        show Goes p e below KK s₁ (mkF m 22 #[.val (.int p1), .val (.int p2), .val (.int p3)] [(.int p3), (.int p1)])
        refine Goes.of (fun t => XS.iloadN X0.here hx rfl (hb hby d2_22) rfl) ?_
        show Goes p e below KK s₁ (mkF m 23 #[.val (.int p1), .val (.int p2), .val (.int p3)] [(.int p2), (.int p3), (.int p1)])
        refine Goes.of (fun t => XS.iloadN X0.here hx rfl (hb hby d2_23) rfl) ?_
        show Goes p e below KK s₁ (mkF m 24 #[.val (.int p1), .val (.int p2), .val (.int p3)] [(.int p3), (.int p2), (.int p3), (.int p1)])
        refine Goes.of (fun t => XS.isub X0.here hx rfl (hb hby d2_24) rfl) ?_
        show Goes p e below KK s₁ (mkF m 25 #[.val (.int p1), .val (.int p2), .val (.int p3)] [(.int (p2 - p3)), (.int p3), (.int p1)])
        refine Goes.of (fun t => XS.iadd X0.here hx rfl (hb hby d2_25) rfl) ?_
        show Goes p e below KK s₁ (mkF m 26 #[.val (.int p1), .val (.int p2), .val (.int p3)] [(.int (p3 + (p2 - p3))), (.int p1)])
        by_cases hc26 : (p3 + (p2 - p3)) < p1
        · refine Goes.of (fun t => XS.icmpYes X0.here hx rfl (pc0 := 26) (pc' := 31) rfl (hb hby d2_26) rfl (tlt hc26).2.2.1 (by decide) (by decide)) ?_
          show Goes p e below KK s₁ (mkF m 31 #[.val (.int p1), .val (.int p2), .val (.int p3)] [])
          refine Goes.of (fun t => XS.iconst X0.here hx rfl (hb hby d2_31)) ?_
          show Goes p e below KK s₁ (mkF m 32 #[.val (.int p1), .val (.int p2), .val (.int p3)] [(.int (1 : Int32))])
          rw [← hKK]
          refine Goes.retNar X0 hx hlk (t := .boolean) (by simp) Bd.returns (hb hby d2_32) ?_ (by decide) (by decide)
          rw [e0]
          exact ⟨by unfold f2; rw [if_neg hc1, if_neg hc8, if_neg hc15, if_pos hc26] <;> rfl, N0, rfl⟩
        · refine Goes.of (fun t => XS.icmpNo X0.here hx rfl (hb hby d2_26) rfl (flt hc26).2.2.1) ?_
          show Goes p e below KK s₁ (mkF m 29 #[.val (.int p1), .val (.int p2), .val (.int p3)] [])
          refine Goes.of (fun t => XS.iconst X0.here hx rfl (hb hby d2_29)) ?_
          show Goes p e below KK s₁ (mkF m 30 #[.val (.int p1), .val (.int p2), .val (.int p3)] [(.int (0 : Int32))])
          rw [← hKK]
          refine Goes.retNar X0 hx hlk (t := .boolean) (by simp) Bd.returns (hb hby d2_30) ?_ (by decide) (by decide)
          rw [e0]
          exact ⟨by unfold f2; rw [if_neg hc1, if_neg hc8, if_neg hc15, if_neg hc26] <;> rfl, N0, rfl⟩
theorem own_law (p : Int32) : f1 p = f2 p 128 16 := by
  have e : ∀ n : Int32, n = 16 ↔ n.toInt = 16 := fun n => ⟨fun h => by rw [h]; rfl, fun h => Int32.toInt_inj.mp h⟩
  have z0 : (0 : Int32).toInt = 0 := rfl
  have z1 : (16 : Int32).toInt = 16 := rfl
  have z2 : (128 : Int32).toInt = 128 := rfl
  have z3 : ((16 : Int32) + (128 - 16)).toInt = 128 := rfl
  unfold f1 f2
  simp only [Int32.lt_iff_toInt_lt, e, z0, z1, z2, z3]
  split <;> split <;> (try split) <;> (try split) <;> (try split) <;> first | rfl | omega
theorem pn_0 : plainFor (⟨"com/example/coalesce/coalesce/core/WaitQueueYieldsAtPinLaw", "law", "(II)Z"⟩ : MethodName) = true := plainFor_of_name (by first | (simp [plainName, overriddenIn]; done) | decide +kernel)
theorem pd_2 : parseMethodDescriptor "(I)Z" = some ⟨[.int], some .boolean⟩ := by decide +kernel
theorem pd_3 : parseMethodDescriptor "(III)Z" = some ⟨[.int, .int, .int], some .boolean⟩ := by decide +kernel
theorem ef_0 (m : MethodId) (x0 : Int32) (x1 : Int32) : entryFrame m #[(.int x0), (.int x1)] maxLocals = mkF m 0 #[.val (.int x0), .val (.int x1), .unset, .unset, .unset, .unset, .unset] [] := by first | (simp [entryFrame, mkF, argsToLocals, Value.category, maxLocals]; done) | rfl
def Q0 (Z : State) (p1 : Int32) (p2 : Int32) (h0 : Heap) (n0 : Nat) (v : Option Value) (h : Heap) (L : List Loc) : Prop := v = some (.int 1) ∧ Fr n0 L
set_option maxRecDepth 65536 in
set_option maxHeartbeats 40000000 in
theorem rm0 (l : Launch) (Z : State) (a0 : Array Value) (hw : ∀ d ∈ tables_1, d.before a0 Z = true) (ws : List Jvm.Cond) (p1 : Int32) (p2 : Int32) (h0 : Heap) (n0 : Nat) (Z0 : n0 ≤ h0.size) (Sa : Sta Z h0 "com/example/coalesce/coalesce/core/WaitQueue" "SPINS" "I" (.int (128 : Int32))) (Sb : Sta Z h0 "com/example/coalesce/coalesce/core/WaitQueue" "SPINS_BEFORE_FIRST_YIELD" "I" (.int (16 : Int32))) :
    MetFree l x (head1 (Jvm.Cond.code x code maxLocals ret :: ws) room_1) (fun a U => a = #[(.int p1), (.int p2)] ∧ Z.Warmed39 U.vm ∧ U.heap = h0) (fun _ _ _ _ _ => True) (fun _ U o U' => ∃ v L, o = .returned v ∧ Q0 Z p1 p2 h0 n0 v U'.heap L ∧ FrameEnd U o U' L room_1.cells room_1.slots) := by
  refine MetFree.of_bodySF pn_0 hisR ?_
  intro p e s m args below meth c s₁ Bd hml0 hP hK
  obtain ⟨rfl, hZ, hh⟩ := hP
  have hx := Bd.exec
  have hby := Bd.bytes
  have hml : c.maxLocals = 7 := hml0
  have hown : s.vm.findClass "com/example/coalesce/coalesce/core/WaitQueueYieldsAtPinLaw" = some m.cls := findClass_of_methodNamed Bd.named
  have hnm := (name_of_methodNamed Bd.named Bd.method).1
  have hlk : meth.locks = false := BodyLoose.notSynchronized Bd
  have X0 : Stand p l e room_1 s m #[(.int p1), (.int p2)] below meth c s₁ [] 0 0 := Stand.of_body Bd
  have e0 : s₁.heap = h0 := by rw [← hh, Bd.state]; rfl
  have N0 := Fr.nil n0
  show Goes p e below (OwnK s (Q0 Z p1 p2 h0 n0) room_1.cells room_1.slots) s₁ (entryFrame m #[(.int p1), (.int p2)] maxLocals)
  refine Goes.cast (ef_0 m p1 p2) ?_
  generalize hKK : OwnK s (Q0 Z p1 p2 h0 n0) room_1.cells room_1.slots = KK
  show Goes p e below KK s₁ (mkF m 0 #[.val (.int p1), .val (.int p2), .unset, .unset, .unset, .unset, .unset] [])
  have w_0 := hw _ (List.mem_of_getElem? (i := 0) rfl)
  have w_1 := hw _ (List.mem_of_getElem? (i := 1) rfl)
  have w_3 := hw _ (List.mem_of_getElem? (i := 3) rfl)
  have w_5 := hw _ (List.mem_of_getElem? (i := 5) rfl)
  have w_6 := hw _ (List.mem_of_getElem? (i := 6) rfl)
  have w_7 := hw _ (List.mem_of_getElem? (i := 7) rfl)
  have w_10 := hw _ (List.mem_of_getElem? (i := 10) rfl)
  have w_11 := hw _ (List.mem_of_getElem? (i := 11) rfl)
  have w_12 := hw _ (List.mem_of_getElem? (i := 12) rfl)
  have w_13 := hw _ (List.mem_of_getElem? (i := 13) rfl)
  obtain ⟨T3, X3, e3, st3⟩ := getS2 X0 hx hZ hown (host := "") (Or.inl w_0) Via.refl e0 Sa (g := (mkF m 0 #[.val (.int p1), .val (.int p2), .unset, .unset, .unset, .unset, .unset] [])) rfl (hb hby at_0)
  refine Goes.of (st3) ?_
  show Goes p e below KK T3 (mkF m 3 #[.val (.int p1), .val (.int p2), .unset, .unset, .unset, .unset, .unset] [(.int (128 : Int32))])
  refine Goes.of (fun t => XS.istoreN X3.here hx rfl (hb hby at_3) rfl (l' := #[.val (.int p1), .val (.int p2), .val (.int (128 : Int32)), .unset, .unset, .unset, .unset]) rfl) ?_
  show Goes p e below KK T3 (mkF m 4 #[.val (.int p1), .val (.int p2), .val (.int (128 : Int32)), .unset, .unset, .unset, .unset] [])
  obtain ⟨T4, X4, e4, st4⟩ := getS2 X3 hx hZ hown (host := "") (Or.inl w_3) Via.refl e3 Sb (g := (mkF m 4 #[.val (.int p1), .val (.int p2), .val (.int (128 : Int32)), .unset, .unset, .unset, .unset] [])) rfl (hb hby at_4)
  refine Goes.of (st4) ?_
  show Goes p e below KK T4 (mkF m 7 #[.val (.int p1), .val (.int p2), .val (.int (128 : Int32)), .unset, .unset, .unset, .unset] [(.int (16 : Int32))])
  refine Goes.of (fun t => XS.istoreN X4.here hx rfl (hb hby at_7) rfl (l' := #[.val (.int p1), .val (.int p2), .val (.int (128 : Int32)), .val (.int (16 : Int32)), .unset, .unset, .unset]) rfl) ?_
  show Goes p e below KK T4 (mkF m 8 #[.val (.int p1), .val (.int p2), .val (.int (128 : Int32)), .val (.int (16 : Int32)), .unset, .unset, .unset] [])
  refine Goes.of (fun t => XS.iloadN X4.here hx rfl (hb hby at_8) rfl) ?_
  show Goes p e below KK T4 (mkF m 9 #[.val (.int p1), .val (.int p2), .val (.int (128 : Int32)), .val (.int (16 : Int32)), .unset, .unset, .unset] [(.int p2)])
  refine Goes.of (fun t => XS.bipush X4.here hx rfl (hb hby at_9)) ?_
  show Goes p e below KK T4 (mkF m 11 #[.val (.int p1), .val (.int p2), .val (.int (128 : Int32)), .val (.int (16 : Int32)), .unset, .unset, .unset] [(.int (7 : Int32)), (.int p2)])
  refine Goes.of (fun t => XS.iand X4.here hx rfl (hb hby at_11) rfl) ?_
  show Goes p e below KK T4 (mkF m 12 #[.val (.int p1), .val (.int p2), .val (.int (128 : Int32)), .val (.int (16 : Int32)), .unset, .unset, .unset] [(.int (p2 &&& (7 : Int32)))])
  refine Goes.of (fun t => XS.iconst X4.here hx rfl (hb hby at_12)) ?_
  show Goes p e below KK T4 (mkF m 13 #[.val (.int p1), .val (.int p2), .val (.int (128 : Int32)), .val (.int (16 : Int32)), .unset, .unset, .unset] [(.int (3 : Int32)), (.int (p2 &&& (7 : Int32)))])
  refine Goes.of (fun t => XS.isub X4.here hx rfl (hb hby at_13) rfl) ?_
  show Goes p e below KK T4 (mkF m 14 #[.val (.int p1), .val (.int p2), .val (.int (128 : Int32)), .val (.int (16 : Int32)), .unset, .unset, .unset] [(.int ((p2 &&& (7 : Int32)) - (3 : Int32)))])
  generalize e_k : ((p2 &&& (7 : Int32)) - (3 : Int32)) = k
  show Goes p e below KK T4 (mkF m 14 #[.val (.int p1), .val (.int p2), .val (.int (128 : Int32)), .val (.int (16 : Int32)), .unset, .unset, .unset] [(.int k)])
  refine Goes.of (fun t => XS.istore X4.here hx rfl (hb hby at_14) rfl (l' := #[.val (.int p1), .val (.int p2), .val (.int (128 : Int32)), .val (.int (16 : Int32)), .val (.int k), .unset, .unset]) rfl) ?_
  show Goes p e below KK T4 (mkF m 16 #[.val (.int p1), .val (.int p2), .val (.int (128 : Int32)), .val (.int (16 : Int32)), .val (.int k), .unset, .unset] [])
  refine Goes.of (fun t => XS.iloadN X4.here hx rfl (hb hby at_16) rfl) ?_
  show Goes p e below KK T4 (mkF m 17 #[.val (.int p1), .val (.int p2), .val (.int (128 : Int32)), .val (.int (16 : Int32)), .val (.int k), .unset, .unset] [(.int (16 : Int32))])
  refine Goes.of (fun t => XS.iload X4.here hx rfl (hb hby at_17) rfl) ?_
  show Goes p e below KK T4 (mkF m 19 #[.val (.int p1), .val (.int p2), .val (.int (128 : Int32)), .val (.int (16 : Int32)), .val (.int k), .unset, .unset] [(.int k), (.int (16 : Int32))])
  refine Goes.of (fun t => XS.iadd X4.here hx rfl (hb hby at_19) rfl) ?_
  show Goes p e below KK T4 (mkF m 20 #[.val (.int p1), .val (.int p2), .val (.int (128 : Int32)), .val (.int (16 : Int32)), .val (.int k), .unset, .unset] [(.int ((16 : Int32) + k))])
  generalize e_a : ((16 : Int32) + k) = a
  show Goes p e below KK T4 (mkF m 20 #[.val (.int p1), .val (.int p2), .val (.int (128 : Int32)), .val (.int (16 : Int32)), .val (.int k), .unset, .unset] [(.int a)])
  refine Goes.of (fun t => XS.istore X4.here hx rfl (hb hby at_20) rfl (l' := #[.val (.int p1), .val (.int p2), .val (.int (128 : Int32)), .val (.int (16 : Int32)), .val (.int k), .val (.int a), .unset]) rfl) ?_
  show Goes p e below KK T4 (mkF m 22 #[.val (.int p1), .val (.int p2), .val (.int (128 : Int32)), .val (.int (16 : Int32)), .val (.int k), .val (.int a), .unset] [])
  refine Goes.of (fun t => XS.iloadN X4.here hx rfl (hb hby at_22) rfl) ?_
  show Goes p e below KK T4 (mkF m 23 #[.val (.int p1), .val (.int p2), .val (.int (128 : Int32)), .val (.int (16 : Int32)), .val (.int k), .val (.int a), .unset] [(.int (128 : Int32))])
  refine Goes.of (fun t => XS.iload X4.here hx rfl (hb hby at_23) rfl) ?_
  show Goes p e below KK T4 (mkF m 25 #[.val (.int p1), .val (.int p2), .val (.int (128 : Int32)), .val (.int (16 : Int32)), .val (.int k), .val (.int a), .unset] [(.int k), (.int (128 : Int32))])
  refine Goes.of (fun t => XS.iadd X4.here hx rfl (hb hby at_25) rfl) ?_
  show Goes p e below KK T4 (mkF m 26 #[.val (.int p1), .val (.int p2), .val (.int (128 : Int32)), .val (.int (16 : Int32)), .val (.int k), .val (.int a), .unset] [(.int ((128 : Int32) + k))])
  generalize e_b : ((128 : Int32) + k) = b
  show Goes p e below KK T4 (mkF m 26 #[.val (.int p1), .val (.int p2), .val (.int (128 : Int32)), .val (.int (16 : Int32)), .val (.int k), .val (.int a), .unset] [(.int b)])
  refine Goes.of (fun t => XS.istore X4.here hx rfl (hb hby at_26) rfl (l' := #[.val (.int p1), .val (.int p2), .val (.int (128 : Int32)), .val (.int (16 : Int32)), .val (.int k), .val (.int a), .val (.int b)]) rfl) ?_
  show Goes p e below KK T4 (mkF m 28 #[.val (.int p1), .val (.int p2), .val (.int (128 : Int32)), .val (.int (16 : Int32)), .val (.int k), .val (.int a), .val (.int b)] [])
  refine Goes.of (fun t => XS.iloadN X4.here hx rfl (hb hby at_28) rfl) ?_
  show Goes p e below KK T4 (mkF m 29 #[.val (.int p1), .val (.int p2), .val (.int (128 : Int32)), .val (.int (16 : Int32)), .val (.int k), .val (.int a), .val (.int b)] [(.int p1)])
  obtain ⟨_, _, ⟨T5, L5, k5, n5⟩, -, X5, ⟨Lc5, hQ5, l5, y5, z5⟩, st5⟩ := Jvm.LawKit.callS X4 hx (y := (⟨"com/example/coalesce/coalesce/core/WaitQueue", "yieldsAt", "(I)Z"⟩ : MethodName)) hown (mvT hZ w_5) (mvT hZ w_6) (mvT hZ w_1) (mvT hZ w_7) (by decide) (backOf (W := 0) (rm1 l Z a0 hw [] p1  h0 n0 Z0 Sa Sb) hZ w_7 w_1 (by decide) (by decide)) (g := (mkF m 29 #[.val (.int p1), .val (.int p2), .val (.int (128 : Int32)), .val (.int (16 : Int32)), .val (.int k), .val (.int a), .val (.int b)] [(.int p1)])) rfl (by rw [hml]; rfl) (argsL := [(.int p1)]) (rest := []) (lenOf pd_2 rfl) rfl (by show 2 * 0 + _ ≤ _; exact Nat.le_of_eq rfl) (hb hby at_29) (fun _ _ => ⟨rfl, e4, (by decide : 0 + 0 ≤ _), (by decide : 0 + 0 ≤ _)⟩)
  dsimp only [Pt.U, Pt.locs, Pt.cells, Pt.slots] at X5 l5 y5 z5 st5 hQ5
  subst l5 y5 z5
  obtain ⟨rfl, N5q, e5⟩ := hQ5
  have N5 := Fr.app N0 N5q
  refine Goes.of st5 ?_
  show Goes p e below KK T5 (mkF m 32 #[.val (.int p1), .val (.int p2), .val (.int (128 : Int32)), .val (.int (16 : Int32)), .val (.int k), .val (.int a), .val (.int b)] [(.int (f1 p1))])
  refine Goes.of (fun t => XS.iloadN X5.here hx rfl (hb hby at_32) rfl) ?_
  show Goes p e below KK T5 (mkF m 33 #[.val (.int p1), .val (.int p2), .val (.int (128 : Int32)), .val (.int (16 : Int32)), .val (.int k), .val (.int a), .val (.int b)] [(.int p1), (.int (f1 p1))])
  refine Goes.of (fun t => XS.iloadN X5.here hx rfl (hb hby at_33) rfl) ?_
  show Goes p e below KK T5 (mkF m 34 #[.val (.int p1), .val (.int p2), .val (.int (128 : Int32)), .val (.int (16 : Int32)), .val (.int k), .val (.int a), .val (.int b)] [(.int (128 : Int32)), (.int p1), (.int (f1 p1))])
  refine Goes.of (fun t => XS.iloadN X5.here hx rfl (hb hby at_34) rfl) ?_
  show Goes p e below KK T5 (mkF m 35 #[.val (.int p1), .val (.int p2), .val (.int (128 : Int32)), .val (.int (16 : Int32)), .val (.int k), .val (.int a), .val (.int b)] [(.int (16 : Int32)), (.int (128 : Int32)), (.int p1), (.int (f1 p1))])
  obtain ⟨_, _, ⟨T6, L6, k6, n6⟩, -, X6, ⟨Lc6, hQ6, l6, y6, z6⟩, st6⟩ := Jvm.LawKit.callS X5 hx (y := (⟨"com/example/coalesce/coalesce/core/WaitQueueYieldsAtPinLaw", "expected", "(III)Z"⟩ : MethodName)) hown (mvT hZ w_10) (mvT hZ w_11) (mvT hZ w_12) (mvT hZ w_13) (by decide) (backOf (W := 1) (rm2 l Z a0 hw [] p1 (128 : Int32) (16 : Int32)  h0 n0 Z0 ) hZ w_13 w_12 (by decide) (by decide)) (g := (mkF m 35 #[.val (.int p1), .val (.int p2), .val (.int (128 : Int32)), .val (.int (16 : Int32)), .val (.int k), .val (.int a), .val (.int b)] [(.int (16 : Int32)), (.int (128 : Int32)), (.int p1), (.int (f1 p1))])) rfl (by rw [hml]; rfl) (argsL := [(.int p1), (.int (128 : Int32)), (.int (16 : Int32))]) (rest := [(.int (f1 p1))]) (lenOf pd_3 rfl) rfl (by show 2 * 0 + _ ≤ _; exact Nat.le_of_eq rfl) (hb hby at_35) (fun _ _ => ⟨rfl, e5, (by decide : 0 + 0 ≤ _), (by decide : 0 + 0 ≤ _)⟩)
  dsimp only [Pt.U, Pt.locs, Pt.cells, Pt.slots] at X6 l6 y6 z6 st6 hQ6
  subst l6 y6 z6
  obtain ⟨rfl, N6q, e6⟩ := hQ6
  have N6 := Fr.app N5 N6q
  refine Goes.of st6 ?_
  show Goes p e below KK T6 (mkF m 38 #[.val (.int p1), .val (.int p2), .val (.int (128 : Int32)), .val (.int (16 : Int32)), .val (.int k), .val (.int a), .val (.int b)] [(.int (f2 p1 (128 : Int32) (16 : Int32))), (.int (f1 p1))])
  refine Goes.of (fun t => XS.icmpNo X6.here hx rfl (hb hby at_38) rfl (teq (show (f1 p1) = (f2 p1 (128 : Int32) (16 : Int32)) from own_law p1)).2) ?_
  show Goes p e below KK T6 (mkF m 41 #[.val (.int p1), .val (.int p2), .val (.int (128 : Int32)), .val (.int (16 : Int32)), .val (.int k), .val (.int a), .val (.int b)] [])
  refine Goes.of (fun t => XS.iload X6.here hx rfl (hb hby at_41) rfl) ?_
  show Goes p e below KK T6 (mkF m 43 #[.val (.int p1), .val (.int p2), .val (.int (128 : Int32)), .val (.int (16 : Int32)), .val (.int k), .val (.int a), .val (.int b)] [(.int a)])
  obtain ⟨_, _, ⟨T7, L7, k7, n7⟩, -, X7, ⟨Lc7, hQ7, l7, y7, z7⟩, st7⟩ := Jvm.LawKit.callS X6 hx (y := (⟨"com/example/coalesce/coalesce/core/WaitQueue", "yieldsAt", "(I)Z"⟩ : MethodName)) hown (mvT hZ w_5) (mvT hZ w_6) (mvT hZ w_1) (mvT hZ w_7) (by decide) (backOf (W := 0) (rm1 l Z a0 hw [] a  h0 n0 Z0 Sa Sb) hZ w_7 w_1 (by decide) (by decide)) (g := (mkF m 43 #[.val (.int p1), .val (.int p2), .val (.int (128 : Int32)), .val (.int (16 : Int32)), .val (.int k), .val (.int a), .val (.int b)] [(.int a)])) rfl (by rw [hml]; rfl) (argsL := [(.int a)]) (rest := []) (lenOf pd_2 rfl) rfl (by show 2 * 0 + _ ≤ _; exact Nat.le_of_eq rfl) (hb hby at_43) (fun _ _ => ⟨rfl, e6, (by decide : 0 + 0 ≤ _), (by decide : 0 + 0 ≤ _)⟩)
  dsimp only [Pt.U, Pt.locs, Pt.cells, Pt.slots] at X7 l7 y7 z7 st7 hQ7
  subst l7 y7 z7
  obtain ⟨rfl, N7q, e7⟩ := hQ7
  have N7 := Fr.app N6 N7q
  refine Goes.of st7 ?_
  show Goes p e below KK T7 (mkF m 46 #[.val (.int p1), .val (.int p2), .val (.int (128 : Int32)), .val (.int (16 : Int32)), .val (.int k), .val (.int a), .val (.int b)] [(.int (f1 a))])
  refine Goes.of (fun t => XS.iload X7.here hx rfl (hb hby at_46) rfl) ?_
  show Goes p e below KK T7 (mkF m 48 #[.val (.int p1), .val (.int p2), .val (.int (128 : Int32)), .val (.int (16 : Int32)), .val (.int k), .val (.int a), .val (.int b)] [(.int a), (.int (f1 a))])
  refine Goes.of (fun t => XS.iloadN X7.here hx rfl (hb hby at_48) rfl) ?_
  show Goes p e below KK T7 (mkF m 49 #[.val (.int p1), .val (.int p2), .val (.int (128 : Int32)), .val (.int (16 : Int32)), .val (.int k), .val (.int a), .val (.int b)] [(.int (128 : Int32)), (.int a), (.int (f1 a))])
  refine Goes.of (fun t => XS.iloadN X7.here hx rfl (hb hby at_49) rfl) ?_
  show Goes p e below KK T7 (mkF m 50 #[.val (.int p1), .val (.int p2), .val (.int (128 : Int32)), .val (.int (16 : Int32)), .val (.int k), .val (.int a), .val (.int b)] [(.int (16 : Int32)), (.int (128 : Int32)), (.int a), (.int (f1 a))])
  obtain ⟨_, _, ⟨T8, L8, k8, n8⟩, -, X8, ⟨Lc8, hQ8, l8, y8, z8⟩, st8⟩ := Jvm.LawKit.callS X7 hx (y := (⟨"com/example/coalesce/coalesce/core/WaitQueueYieldsAtPinLaw", "expected", "(III)Z"⟩ : MethodName)) hown (mvT hZ w_10) (mvT hZ w_11) (mvT hZ w_12) (mvT hZ w_13) (by decide) (backOf (W := 1) (rm2 l Z a0 hw [] a (128 : Int32) (16 : Int32)  h0 n0 Z0 ) hZ w_13 w_12 (by decide) (by decide)) (g := (mkF m 50 #[.val (.int p1), .val (.int p2), .val (.int (128 : Int32)), .val (.int (16 : Int32)), .val (.int k), .val (.int a), .val (.int b)] [(.int (16 : Int32)), (.int (128 : Int32)), (.int a), (.int (f1 a))])) rfl (by rw [hml]; rfl) (argsL := [(.int a), (.int (128 : Int32)), (.int (16 : Int32))]) (rest := [(.int (f1 a))]) (lenOf pd_3 rfl) rfl (by show 2 * 0 + _ ≤ _; exact Nat.le_of_eq rfl) (hb hby at_50) (fun _ _ => ⟨rfl, e7, (by decide : 0 + 0 ≤ _), (by decide : 0 + 0 ≤ _)⟩)
  dsimp only [Pt.U, Pt.locs, Pt.cells, Pt.slots] at X8 l8 y8 z8 st8 hQ8
  subst l8 y8 z8
  obtain ⟨rfl, N8q, e8⟩ := hQ8
  have N8 := Fr.app N7 N8q
  refine Goes.of st8 ?_
  show Goes p e below KK T8 (mkF m 53 #[.val (.int p1), .val (.int p2), .val (.int (128 : Int32)), .val (.int (16 : Int32)), .val (.int k), .val (.int a), .val (.int b)] [(.int (f2 a (128 : Int32) (16 : Int32))), (.int (f1 a))])
  refine Goes.of (fun t => XS.icmpNo X8.here hx rfl (hb hby at_53) rfl (teq (show (f1 a) = (f2 a (128 : Int32) (16 : Int32)) from own_law a)).2) ?_
  show Goes p e below KK T8 (mkF m 56 #[.val (.int p1), .val (.int p2), .val (.int (128 : Int32)), .val (.int (16 : Int32)), .val (.int k), .val (.int a), .val (.int b)] [])
  refine Goes.of (fun t => XS.iload X8.here hx rfl (hb hby at_56) rfl) ?_
  show Goes p e below KK T8 (mkF m 58 #[.val (.int p1), .val (.int p2), .val (.int (128 : Int32)), .val (.int (16 : Int32)), .val (.int k), .val (.int a), .val (.int b)] [(.int b)])
  obtain ⟨_, _, ⟨T9, L9, k9, n9⟩, -, X9, ⟨Lc9, hQ9, l9, y9, z9⟩, st9⟩ := Jvm.LawKit.callS X8 hx (y := (⟨"com/example/coalesce/coalesce/core/WaitQueue", "yieldsAt", "(I)Z"⟩ : MethodName)) hown (mvT hZ w_5) (mvT hZ w_6) (mvT hZ w_1) (mvT hZ w_7) (by decide) (backOf (W := 0) (rm1 l Z a0 hw [] b  h0 n0 Z0 Sa Sb) hZ w_7 w_1 (by decide) (by decide)) (g := (mkF m 58 #[.val (.int p1), .val (.int p2), .val (.int (128 : Int32)), .val (.int (16 : Int32)), .val (.int k), .val (.int a), .val (.int b)] [(.int b)])) rfl (by rw [hml]; rfl) (argsL := [(.int b)]) (rest := []) (lenOf pd_2 rfl) rfl (by show 2 * 0 + _ ≤ _; exact Nat.le_of_eq rfl) (hb hby at_58) (fun _ _ => ⟨rfl, e8, (by decide : 0 + 0 ≤ _), (by decide : 0 + 0 ≤ _)⟩)
  dsimp only [Pt.U, Pt.locs, Pt.cells, Pt.slots] at X9 l9 y9 z9 st9 hQ9
  subst l9 y9 z9
  obtain ⟨rfl, N9q, e9⟩ := hQ9
  have N9 := Fr.app N8 N9q
  refine Goes.of st9 ?_
  show Goes p e below KK T9 (mkF m 61 #[.val (.int p1), .val (.int p2), .val (.int (128 : Int32)), .val (.int (16 : Int32)), .val (.int k), .val (.int a), .val (.int b)] [(.int (f1 b))])
  refine Goes.of (fun t => XS.iload X9.here hx rfl (hb hby at_61) rfl) ?_
  show Goes p e below KK T9 (mkF m 63 #[.val (.int p1), .val (.int p2), .val (.int (128 : Int32)), .val (.int (16 : Int32)), .val (.int k), .val (.int a), .val (.int b)] [(.int b), (.int (f1 b))])
  refine Goes.of (fun t => XS.iloadN X9.here hx rfl (hb hby at_63) rfl) ?_
  show Goes p e below KK T9 (mkF m 64 #[.val (.int p1), .val (.int p2), .val (.int (128 : Int32)), .val (.int (16 : Int32)), .val (.int k), .val (.int a), .val (.int b)] [(.int (128 : Int32)), (.int b), (.int (f1 b))])
  refine Goes.of (fun t => XS.iloadN X9.here hx rfl (hb hby at_64) rfl) ?_
  show Goes p e below KK T9 (mkF m 65 #[.val (.int p1), .val (.int p2), .val (.int (128 : Int32)), .val (.int (16 : Int32)), .val (.int k), .val (.int a), .val (.int b)] [(.int (16 : Int32)), (.int (128 : Int32)), (.int b), (.int (f1 b))])
  obtain ⟨_, _, ⟨T10, L10, k10, n10⟩, -, X10, ⟨Lc10, hQ10, l10, y10, z10⟩, st10⟩ := Jvm.LawKit.callS X9 hx (y := (⟨"com/example/coalesce/coalesce/core/WaitQueueYieldsAtPinLaw", "expected", "(III)Z"⟩ : MethodName)) hown (mvT hZ w_10) (mvT hZ w_11) (mvT hZ w_12) (mvT hZ w_13) (by decide) (backOf (W := 1) (rm2 l Z a0 hw [] b (128 : Int32) (16 : Int32)  h0 n0 Z0 ) hZ w_13 w_12 (by decide) (by decide)) (g := (mkF m 65 #[.val (.int p1), .val (.int p2), .val (.int (128 : Int32)), .val (.int (16 : Int32)), .val (.int k), .val (.int a), .val (.int b)] [(.int (16 : Int32)), (.int (128 : Int32)), (.int b), (.int (f1 b))])) rfl (by rw [hml]; rfl) (argsL := [(.int b), (.int (128 : Int32)), (.int (16 : Int32))]) (rest := [(.int (f1 b))]) (lenOf pd_3 rfl) rfl (by show 2 * 0 + _ ≤ _; exact Nat.le_of_eq rfl) (hb hby at_65) (fun _ _ => ⟨rfl, e9, (by decide : 0 + 0 ≤ _), (by decide : 0 + 0 ≤ _)⟩)
  dsimp only [Pt.U, Pt.locs, Pt.cells, Pt.slots] at X10 l10 y10 z10 st10 hQ10
  subst l10 y10 z10
  obtain ⟨rfl, N10q, e10⟩ := hQ10
  have N10 := Fr.app N9 N10q
  refine Goes.of st10 ?_
  show Goes p e below KK T10 (mkF m 68 #[.val (.int p1), .val (.int p2), .val (.int (128 : Int32)), .val (.int (16 : Int32)), .val (.int k), .val (.int a), .val (.int b)] [(.int (f2 b (128 : Int32) (16 : Int32))), (.int (f1 b))])
  refine Goes.of (fun t => XS.icmpNo X10.here hx rfl (hb hby at_68) rfl (teq (show (f1 b) = (f2 b (128 : Int32) (16 : Int32)) from own_law b)).2) ?_
  show Goes p e below KK T10 (mkF m 71 #[.val (.int p1), .val (.int p2), .val (.int (128 : Int32)), .val (.int (16 : Int32)), .val (.int k), .val (.int a), .val (.int b)] [])
  refine Goes.of (fun t => XS.iconst X10.here hx rfl (hb hby at_71)) ?_
  show Goes p e below KK T10 (mkF m 72 #[.val (.int p1), .val (.int p2), .val (.int (128 : Int32)), .val (.int (16 : Int32)), .val (.int k), .val (.int a), .val (.int b)] [(.int (1 : Int32))])
  refine Goes.of (fun t => XS.goto X10.here hx rfl (pc0 := 72) (pc' := 76) rfl (hb hby at_72) (by decide) (by decide)) ?_
  show Goes p e below KK T10 (mkF m 76 #[.val (.int p1), .val (.int p2), .val (.int (128 : Int32)), .val (.int (16 : Int32)), .val (.int k), .val (.int a), .val (.int b)] [(.int (1 : Int32))])
  rw [← hKK]
  refine Goes.retNar X10 hx hlk (t := .boolean) (by simp) Bd.returns (hb hby at_76) ?_ (by decide) (by decide)
  rw [e10]
  exact ⟨rfl, N10⟩
set_option maxRecDepth 65536 in
set_option maxHeartbeats 40000000 in
theorem comes_1 {Post : Tables → Env → Array Value → State → Outcome → State → Prop} (hpost : ∀ tb e args s v u, (limb_1_1.after args s (.returned v) u = true ∧ limb_1_2.after args s (.returned v) u = true ∧ True) → FrameEnd s (.returned v) u (Jvm.fieldLocs frame_1_writes args s ++ Jvm.arrayLocs frame_1_arrays args s ++ Jvm.staticLocs frame_1_statics s) 0 0 → Post tb e args s (.returned v) u) :
    ArmFor flags0 classFile x code maxLocals ret World_1 tables_1 room_1 Calls_1 rest_1 Pre_1 Post := by
  intro l hfl _ _ p e ha hc hk s m args below hf hA hF happ hP
  obtain ⟨hcalls, hrest, hpre⟩ := hP
  obtain ⟨-, -, -, hnamed, -, -, -, hat⟩ := (Spec.applies_iff hf).mp happ
  obtain ⟨hg, hn⟩ := and_e (Cond.before_iff.mp (show (Jvm.Cond.and given_1 narrow_1).before args s = true from hpre))
  obtain ⟨hgc, hr0⟩ := and_e hg
  obtain ⟨hg0, hr1⟩ := and_e hr0
  have hg1 := hr1
  obtain ⟨w0, w1, rfl⟩ : ∃ w0 w1 : Value, args = #[w0, w1] := by
    have hs : args.size = 2 := by simpa [Cond.value, given_1] using hgc
    obtain ⟨L⟩ := args
    match L, hs with
    | [w0, w1], _ => exact ⟨w0, w1, rfl⟩
  have hw := fun d (hd : d ∈ tables_1) => atoms_spec (ws := Jvm.Cond.code x code maxLocals ret :: tables_1) hat d (List.mem_cons_of_mem _ hd)
  have hfit : Fit s := fun {y c} hc i hi => by
    obtain ⟨ha, rfl⟩ := Array.getElem?_eq_some_iff.mp hc
    have q := List.all_eq_true.mp ((Array.all_eq_true_iff_forall_mem.mp hF) _ (Array.getElem_mem ha)) i (List.mem_range.mpr hi)
    simpa [Array.getElem?_eq_getElem hi] using q
  obtain ⟨i0, ei0⟩ := is_v hg0
  obtain rfl : w0 = (.int i0) := Option.some.inj ei0
  obtain ⟨i1, ei1⟩ := is_v hg1
  obtain rfl : w1 = (.int i1) := Option.some.inj ei1
  obtain ⟨n1, n2⟩ := and_e hn
  have Sa : Sta s s.heap "com/example/coalesce/coalesce/core/WaitQueue" "SPINS" "I" (.int (128 : Int32)) := Sta.start (eqv_i (Term.int_eval _) n1) (Or.inr ⟨(hw _ (List.mem_of_getElem? (i := 1) rfl)), (hw _ (List.mem_of_getElem? (i := 2) rfl))⟩)
  have Sb : Sta s s.heap "com/example/coalesce/coalesce/core/WaitQueue" "SPINS_BEFORE_FIRST_YIELD" "I" (.int (16 : Int32)) := Sta.start (eqv_i (Term.int_eval _) n2) (Or.inr ⟨(hw _ (List.mem_of_getElem? (i := 1) rfl)), (hw _ (List.mem_of_getElem? (i := 4) rfl))⟩)
  obtain ⟨n, o, h1, h2, h3, _, L, rfl, ⟨rfl, N⟩, hq⟩ := rm0 l s _ hw tables_1 i0 i1  s.heap s.heap.size (Nat.le_refl _) Sa Sb p e ha hc hk s m _ below hf ((Spec.applies_iff_loose hf).mp happ).1 ⟨rfl, State.Warmed39.refl s, rfl⟩ trivial
  refine ⟨n, _, h1, h2, h3, hpost _ _ _ _ _ _ ⟨Cond.after_iff.mpr rfl, Cond.after_iff.mpr (eq_i res_at (Term.int_eval (1)) rfl), trivial⟩ ⟨hq.1, hq.2.1, (hq.2.2.sift fun y hy => Or.inr (N y hy)).mono (by decide) (by decide)⟩⟩
theorem main_1_1 : Claimed_1_1 := comes_1 fun _ _ _ _ _ _ h hF => ⟨h.1, hF⟩
theorem main_1_2 : Claimed_1_2 := comes_1 fun _ _ _ _ _ _ h hF => ⟨h.2.1, hF⟩
end Jvm.Pilot.@@N@@
namespace Jvm.Pilot.@@N@@
open Jvm Jvm.ClassFile Sem Op Lib Jvm.Free Jvm.Stand Jvm.Pilot.@@N@@.Jvm.D
/-! MADE BY PROGRAM (witnessworld.py) out of the Statement's table words and the real class files: 9 classes; the members and pool entries that the words name. The judged class is class 1, her method 1. -/
namespace start1
open Jvm.ClassFile
def u (s : String) : CpInfo := .utf8 (stringToUtf16 s)
/-- a pool by its gaps: so many unusable entries, then the entry; so many at the end -/
def gap : Nat → List CpInfo → List CpInfo
  | 0, r => r
  | n + 1, r => .unusable :: gap n r
def poolList (es : List (Nat × CpInfo)) (last : Nat) : List CpInfo := es.foldr (fun e r => gap e.1 (e.2 :: r)) (gap last [])
def pool (es : List (Nat × CpInfo)) (last : Nat) : Array CpInfo := ⟨poolList es last⟩
def fileOf (pool : Array CpInfo) (this : Nat) (attrs : Array Attribute := #[]) (ms : Array MethodInfo := #[]) (fl : Nat := 33) (sup : Nat := 0) (ifs : Array Nat := #[]) (fds : Array FieldInfo := #[]) : ClassFile where
  minorVersion := 0
  majorVersion := 65
  constantPool := pool
  accessFlags := fl
  thisClass := this
  superClass := sup
  interfaces := ifs
  fields := fds
  methods := ms
  attributes := attrs
def plain (name : String) (sup : Option ClassId) : Class where
  name := name
  kind := .ordinary
  loader := none
  accessFlags := 33
  super := sup
  interfaces := #[]
  cf := none
  fields := #[]
  methods := #[]
  instanceTypes := #[]
  staticTypes := #[]
  resolved := #[]
  callSites := []
  init := .initialized
  statics := none
  mirror := none

def pool0 : Array CpInfo := pool [(5, u "<init>"), (0, u "()V"), (1, .class_ 10), (1, u "java/lang/Object")] 113

def k0m0 : Method := { name := "<init>", desc := "()V", sig := { parameters := [], returnType := none }, accessFlags := 1, code := none }
/-- java/lang/Object -/
def k0 : Class := { plain "java/lang/Object" none with
  accessFlags := 33
  interfaces := #[]
  cf := some (fileOf pool0 8 #[] #[{ accessFlags := 1, nameIndex := 5, descriptorIndex := 6, attributes := #[] }] 33 0 #[] #[])
  fields := #[]
  methods := #[k0m0]
  instanceTypes := #[]
  staticTypes := #[]
  resolved := Array.replicate 124 none
  statics := none }

def pool1 : Array CpInfo := pool [(2, .class_ 4), (1, u "java/lang/Object"), (0, u "<init>"), (0, u "()V"), (0, .fieldref 8 9), (0, .class_ 10), (0, .nameAndType 11 12), (0, u "com/example/coalesce/coalesce/core/WaitQueue"), (0, u "SPINS"), (0, u "I"), (0, .fieldref 8 14), (0, .nameAndType 15 12), (0, u "SPINS_BEFORE_FIRST_YIELD"), (0, .methodref 8 17), (0, .nameAndType 18 19), (0, u "yieldsAt"), (0, u "(I)Z"), (0, .methodref 21 22), (0, .class_ 23), (0, .nameAndType 24 25), (0, u "com/example/coalesce/coalesce/core/WaitQueueYieldsAtPinLaw"), (0, u "expected"), (0, u "(III)Z"), (2, u "law"), (0, u "(II)Z")] 3

def k1m0 : Method := { name := "<init>", desc := "()V", sig := { parameters := [], returnType := none }, accessFlags := 1, code := none }
def k1c1 : Code := { maxStack := 4, maxLocals := 7, code := code, exceptionTable := #[], attributes := #[] }
def k1m1 : Method := { name := "law", desc := "(II)Z", sig := { parameters := [.int, .int], returnType := some .boolean }, accessFlags := 9, code := some k1c1 }
def k1c2 : Code := { maxStack := 4, maxLocals := 3, code := method_3_code, exceptionTable := #[], attributes := #[] }
def k1m2 : Method := { name := "expected", desc := "(III)Z", sig := { parameters := [.int, .int, .int], returnType := some .boolean }, accessFlags := 10, code := some k1c2 }
/-- com/example/coalesce/coalesce/core/WaitQueueYieldsAtPinLaw -/
def k1 : Class := { plain "com/example/coalesce/coalesce/core/WaitQueueYieldsAtPinLaw" (some 0) with
  accessFlags := 49
  interfaces := #[]
  cf := some (fileOf pool1 21 #[] #[{ accessFlags := 1, nameIndex := 5, descriptorIndex := 6, attributes := #[] }, { accessFlags := 9, nameIndex := 28, descriptorIndex := 29, attributes := #[] }, { accessFlags := 10, nameIndex := 24, descriptorIndex := 25, attributes := #[] }] 49 2 #[] #[])
  fields := #[]
  methods := #[k1m0, k1m1, k1m2]
  instanceTypes := #[]
  staticTypes := #[]
  resolved := Array.replicate 33 none
  statics := none }

def pool2 : Array CpInfo := pool [(2, .class_ 4), (1, u "java/lang/Object"), (0, u "<init>"), (0, u "()V"), (1, .class_ 10), (1, u "com/example/coalesce/coalesce/core/WaitQueue"), (53, .fieldref 8 65), (0, .nameAndType 66 67), (0, u "SPINS"), (0, u "I"), (2, u "yieldsAt"), (0, u "(I)Z"), (11, .class_ 85), (1, u "com/example/coalesce/coalesce/core/WaitQueue$Waiter"), (16, .fieldref 8 103), (0, .nameAndType 104 67), (0, u "SPINS_BEFORE_FIRST_YIELD"), (2, u "head"), (0, u "Lcom/example/coalesce/coalesce/core/WaitQueue$Waiter;"), (2, u "HEAD"), (0, u "Ljava/lang/invoke/VarHandle;"), (52, u "YIELDS"), (2, u "MET"), (1, u "TIMED_OUT"), (1, u "INTERRUPTED")] 32

def k2m0 : Method := { name := "<init>", desc := "()V", sig := { parameters := [], returnType := none }, accessFlags := 1, code := none }
def k2c1 : Code := { maxStack := 2, maxLocals := 1, code := prog_15_method_12_code, exceptionTable := #[], attributes := #[] }
def k2m1 : Method := { name := "yieldsAt", desc := "(I)Z", sig := { parameters := [.int], returnType := some .boolean }, accessFlags := 8, code := some k2c1 }
/-- com/example/coalesce/coalesce/core/WaitQueue -/
def k2 : Class := { plain "com/example/coalesce/coalesce/core/WaitQueue" (some 0) with
  accessFlags := 49
  interfaces := #[]
  cf := some (fileOf pool2 8 #[.nestMembers #[83]] #[{ accessFlags := 1, nameIndex := 5, descriptorIndex := 6, attributes := #[] }, { accessFlags := 8, nameIndex := 70, descriptorIndex := 71, attributes := #[] }] 49 2 #[] #[{ accessFlags := 24, nameIndex := 66, descriptorIndex := 67, attributes := #[] }, { accessFlags := 24, nameIndex := 165, descriptorIndex := 67, attributes := #[] }, { accessFlags := 24, nameIndex := 104, descriptorIndex := 67, attributes := #[] }, { accessFlags := 26, nameIndex := 168, descriptorIndex := 67, attributes := #[] }, { accessFlags := 26, nameIndex := 170, descriptorIndex := 67, attributes := #[] }, { accessFlags := 26, nameIndex := 172, descriptorIndex := 67, attributes := #[] }, { accessFlags := 26, nameIndex := 111, descriptorIndex := 112, attributes := #[] }, { accessFlags := 66, nameIndex := 107, descriptorIndex := 108, attributes := #[] }])
  fields := #[{ name := "SPINS", type := .int, accessFlags := 24, slot := 0, constantValue := 0 }, { name := "YIELDS", type := .int, accessFlags := 24, slot := 1, constantValue := 0 }, { name := "SPINS_BEFORE_FIRST_YIELD", type := .int, accessFlags := 24, slot := 2, constantValue := 0 }, { name := "MET", type := .int, accessFlags := 26, slot := 3, constantValue := 0 }, { name := "TIMED_OUT", type := .int, accessFlags := 26, slot := 4, constantValue := 0 }, { name := "INTERRUPTED", type := .int, accessFlags := 26, slot := 5, constantValue := 0 }, { name := "HEAD", type := (.object "java/lang/invoke/VarHandle"), accessFlags := 26, slot := 6, constantValue := 0 }, { name := "head", type := (.object "com/example/coalesce/coalesce/core/WaitQueue$Waiter"), accessFlags := 66, slot := 0, constantValue := 0 }]
  methods := #[k2m0, k2m1]
  instanceTypes := #[(.object "com/example/coalesce/coalesce/core/WaitQueue$Waiter")]
  staticTypes := #[.int, .int, .int, .int, .int, .int, (.object "java/lang/invoke/VarHandle")]
  resolved := Array.replicate 205 none
  statics := some 0 }

def pool3 : Array CpInfo := pool [(1, u "java/lang/Cloneable"), (0, .class_ 1), (0, u "java/lang/Object"), (0, .class_ 3)] 3

/-- java/lang/Cloneable -/
def k3 : Class := { plain "java/lang/Cloneable" (some 0) with
  accessFlags := 1537
  interfaces := #[]
  cf := some (fileOf pool3 2 #[] #[] 1537 4 #[] #[])
  fields := #[]
  methods := #[]
  instanceTypes := #[]
  staticTypes := #[]
  resolved := Array.replicate 8 none
  statics := none }

def pool4 : Array CpInfo := pool [(1, u "java/io/Serializable"), (0, .class_ 1), (0, u "java/lang/Object"), (0, .class_ 3)] 3

/-- java/io/Serializable -/
def k4 : Class := { plain "java/io/Serializable" (some 0) with
  accessFlags := 1537
  interfaces := #[]
  cf := some (fileOf pool4 2 #[] #[] 1537 4 #[] #[])
  fields := #[]
  methods := #[]
  instanceTypes := #[]
  staticTypes := #[]
  resolved := Array.replicate 8 none
  statics := none }

/-- the primitive byte -/
def k5 : Class := { plain "byte" none with kind := .primitive 'B', accessFlags := 0x411 }
/-- [B -/
def k6 : Class := { plain "[B" (some 0) with kind := .array 5 .byte, interfaces := #[3, 4], accessFlags := 1041 }

/-- the primitive int -/
def k7 : Class := { plain "int" none with kind := .primitive 'I', accessFlags := 0x411 }
/-- [I -/
def k8 : Class := { plain "[I" (some 0) with kind := .array 7 .int, interfaces := #[3, 4], accessFlags := 1041 }

def heap : Heap := #[{ cls := 2, slots := #[.int 128, .int 0, .int 16, .int 0, .int 0, .int 0, .null], vm := .statics 2 }]
def classes : Array Class := #[k0, k1, k2, k3, k4, k5, k6, k7, k8]
def interned : List (Array UInt16 × Addr) := []
def slotsUsed : Nat := 7
def theMethod : MethodId := ⟨1, 1⟩
def args0 : Array Value := #[.int 5, .int 3]
def aboutOver (below : List Frame) : State where
  vm := { classes := classes, interned := interned.toArray }
  heap := heap
  slotsUsed := slotsUsed
  threads := #[{ frames := .invoking theMethod args0 :: below }]
def below0 : List Frame := [.native { method := ⟨0, 0⟩, args := #[] }]
def about1 : State := aboutOver below0
def p0 : Program := .bare "" "" ""
def e0 : Env := launch0.env 0 0 0
theorem w_frames : about1.frames = Frame.invoking theMethod args0 :: below0 := rfl
set_option maxRecDepth 65536 in
theorem w_args : argsFit about1.vm theMethod args0 = true := by decide +kernel
set_option maxRecDepth 65536 in
theorem w_heap : heapFits about1 = true := by decide +kernel
set_option maxRecDepth 65536 in
theorem w_runnable : about1.curStatus? = some .runnable := by decide +kernel
set_option maxRecDepth 65536 in
theorem w_alone : about1.alone = true := by decide +kernel
set_option maxRecDepth 65536 in
theorem w_named : about1.methodNamed? x = some theMethod := by decide +kernel
set_option maxRecDepth 65536 in
theorem w_hears : about1.hears theMethod below0 = true := by decide +kernel
set_option maxRecDepth 65536 in
theorem w_ripe : about1.ripe theMethod args0 below0 = true := by decide +kernel
theorem w_running : about1.status = .running := rfl
set_option maxRecDepth 65536 in
theorem w_room : about1.hasRoom e0.platform room_1 = true :=
  launch0.hasRoom_least _ room_1 (by decide +kernel) (by decide +kernel) (by decide +kernel) (by decide +kernel) (by decide +kernel) (by decide +kernel)
theorem allAtoms_all (ts : List Jvm.Cond) (a : Array Jvm.Value) (st : Jvm.State) : (allAtoms ts).before a st = ts.all (fun c => c.before a st) := by
  induction ts with
  | nil => rfl
  | cons c t ih =>
    show (Jvm.Cond.and c (allAtoms t)).before a st = _
    rw [Jvm.Cond.before_and, ih, List.all_cons]
def words1 : List Jvm.Cond := Jvm.Cond.code x code maxLocals ret :: tables_1
/-- a 'code' word, met by the world's own term for the bytes: nothing is compared byte by byte -/
theorem code_word {y : MethodName} {bytes : ByteArray} {mx : Nat} {rt : Option FieldType} {a : Array Value} {s : State} {m : MethodId} {meth : Method} {c : Code} (h1 : s.methodNamed? y = some m) (h2 : s.vm.method? m = some meth) (h3 : meth.code = some c) (h4 : c.code = bytes)
    (h5 : (c.maxLocals == mx && c.exceptionTable.isEmpty && decide (c.maxStack ≤ mostOperands) && decide (meth.sig.returnType = rt) && !meth.locks && decide (parseMethodDescriptor y.desc = some meth.sig)) = true) : (Jvm.Cond.code y bytes mx rt).before a s = true := by
  simp only [Bool.and_eq_true, beq_iff_eq, Bool.not_eq_true', decide_eq_true_eq] at h5
  obtain ⟨⟨⟨⟨⟨g1, g2⟩, g3⟩, g4⟩, g5⟩, g6⟩ := h5
  simp [Cond.before, Cond.holds, Cond.value, h1, h2, h3, h4, g1, g2, g3, g4, g5, g6]
def isCode : Jvm.Cond → Bool
  | .code _ _ _ _ => true
  | _ => false
theorem all_split {L : List Jvm.Cond} {P : Jvm.Cond → Bool} (h1 : L.all (fun c => isCode c || P c) = true) (h2 : ∀ c ∈ L.filter isCode, P c = true) : L.all P = true := by
  refine List.all_eq_true.mpr fun c hc => ?_
  have h := List.all_eq_true.mp h1 c hc
  rcases Bool.eq_false_or_eq_true (isCode c) with hi | hi
  · exact h2 c (List.mem_filter.mpr ⟨hc, hi⟩)
  · simpa [hi] using h
set_option maxRecDepth 65536 in
theorem w_c0 : (Jvm.Cond.code x code maxLocals ret).before args0 about1 = true := code_word (m := ⟨1, 1⟩) (meth := k1m1) (c := k1c1) (by decide +kernel) rfl rfl rfl (by decide +kernel)
set_option maxRecDepth 65536 in
theorem w_c1 : (Jvm.Cond.code ({ cls := "com/example/coalesce/coalesce/core/WaitQueue", name := "yieldsAt", desc := "(I)Z" } : Jvm.MethodName) prog_15_method_12_code (1 : Nat) (Option.some Jvm.ClassFile.FieldType.boolean)).before args0 about1 = true := code_word (m := ⟨2, 1⟩) (meth := k2m1) (c := k2c1) (by decide +kernel) rfl rfl rfl (by decide +kernel)
set_option maxRecDepth 65536 in
theorem w_c2 : (Jvm.Cond.code ({ cls := "com/example/coalesce/coalesce/core/WaitQueueYieldsAtPinLaw", name := "expected", desc := "(III)Z" } : Jvm.MethodName) method_3_code (3 : Nat) (Option.some Jvm.ClassFile.FieldType.boolean)).before args0 about1 = true := code_word (m := ⟨1, 2⟩) (meth := k1m2) (c := k1c2) (by decide +kernel) rfl rfl rfl (by decide +kernel)
def codes1 : List Jvm.Cond := [Jvm.Cond.code x code maxLocals ret, Jvm.Cond.code ({ cls := "com/example/coalesce/coalesce/core/WaitQueue", name := "yieldsAt", desc := "(I)Z" } : Jvm.MethodName) prog_15_method_12_code (1 : Nat) (Option.some Jvm.ClassFile.FieldType.boolean), Jvm.Cond.code ({ cls := "com/example/coalesce/coalesce/core/WaitQueueYieldsAtPinLaw", name := "expected", desc := "(III)Z" } : Jvm.MethodName) method_3_code (3 : Nat) (Option.some Jvm.ClassFile.FieldType.boolean)]
set_option maxRecDepth 65536 in
theorem codes_eq : words1.filter isCode = codes1 := rfl
theorem w_codes : ∀ c ∈ words1.filter isCode, c.before args0 about1 = true := by
  rw [codes_eq]
  intro c hc
  simp only [codes1, List.mem_cons, List.not_mem_nil, or_false] at hc
  rcases hc with rfl | rfl | rfl
  · exact w_c0
  · exact w_c1
  · exact w_c2
set_option maxRecDepth 65536 in
theorem w_t1 : words1.all (fun c => isCode c || c.before args0 about1) = true := by decide +kernel
theorem w_tables : (allAtoms (Jvm.Cond.code x code maxLocals ret :: tables_1)).before args0 about1 = true := by
  rw [allAtoms_all]
  show words1.all (fun c => c.before args0 about1) = true
  refine all_split ?_ w_codes
  rw [w_t1]
set_option maxRecDepth 65536 in
theorem w_case : (Jvm.Cond.and given_1 narrow_1).before args0 about1 = true := by decide +kernel
theorem w_applies : (headSpec (Jvm.Cond.code x code maxLocals ret :: tables_1) room_1).applies x e0.platform about1 = true :=
  (Spec.applies_iff w_frames).mpr ⟨w_running, w_runnable, w_alone, w_named, w_hears, w_ripe, w_room, w_tables⟩
theorem atStart : AtStart classFile x code maxLocals ret World_1 tables_1 room_1 Calls_1 rest_1 Pre_1 launch0 p0 e0 about1 theMethod args0 below0 :=
  ⟨lists_1, trivial, launch0.admits_env _ _ _, launch0.least_env, fairChoices_fair.cas, fairChoices_fair.clock, w_frames, w_args, w_heap, w_applies, trivial, trivial, w_case⟩
end start1
theorem witness_1 : WitnessClaimed_1 := ⟨start1.p0, start1.e0, start1.about1, start1.theMethod, start1.args0, start1.below0, start1.atStart⟩
end Jvm.Pilot.@@N@@
