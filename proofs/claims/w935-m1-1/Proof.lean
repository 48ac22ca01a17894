import JvmDerived
import JvmDerived.Pilot.@@N@@Statement
import JvmDerived.Pilot.@@N@@Code
set_option linter.unusedVariables false
set_option linter.unusedSimpArgs false
@@BLOCK:NumsL.lean.txt@@
namespace Jvm.Pilot.@@N@@
open Jvm Jvm.ClassFile Sem Op Lib Jvm.Free Jvm.Stand Jvm.LawKit Jvm.RoadKit Bundle Jvm.Pilot.@@N@@.Jvm.D
section OwnKit
variable {p : Program} {l : Launch} {e : Env} {R : Room} {s : State} {m : MethodId} {args : Array Value} {below : List Frame} {meth : Method} {c : Code} {T T' : State} {locs : List Loc} {cells slots : Nat} {Z : State} {a0 : Array Value} {h h' : Heap} {g g' : JFrame} {K : Outcome → State → Prop} {a b : Addr}
/-- from the frame g over T the run comes home with K -/
def Goes (p : Program) (e : Env) (below : List Frame) (K : Outcome → State → Prop) (T : State) (g : JFrame) : Prop :=
  ∃ s₂ o, Steps p.tables e below (T.setTop g) s₂ ∧ s₂.status = .running ∧ Ended s₂ below o ∧ K o s₂
theorem Goes.of (f : ∀ t, Steps p.tables e below (T'.setTop g') t → Steps p.tables e below (T.setTop g) t) (h : Goes p e below K T' g') : Goes p e below K T g := by
  obtain ⟨s₂, o, h1, h2⟩ := h; exact ⟨s₂, o, f _ h1, h2⟩
theorem Goes.tr (f : Steps p.tables e below (T.setTop g) (T'.setTop g')) (h : Goes p e below K T' g') : Goes p e below K T g := by
  obtain ⟨s₂, o, h1, h2⟩ := h; exact ⟨s₂, o, f.trans h1, h2⟩
theorem Goes.cast (q : g = g') (h : Goes p e below K T g') : Goes p e below K T g := q ▸ h
def OwnK (s : State) (Q : Option Value → Heap → List Loc → Prop) (C S : Nat) : Outcome → State → Prop := fun o U' => ∃ v L, o = .returned v ∧ Q v U'.heap L ∧ FrameEnd s o U' L C S
section Ret
variable {Q : Option Value → Heap → List Loc → Prop} {C S pc : Nat} {Ls : Array Slot} {rest : List Value}
theorem Goes.retInt (X : Stand p l e R s m args below meth c T locs cells slots) (hx : p.tables.exec = Jvm.exec) (hlk : meth.locks = false) {z : Int32} (hret : meth.sig.returnType = some .int) (hd : decode c.code pc = .ok (.ireturn, 1)) (hQ : Q (some (.int z)) T.heap locs) (hc : cells ≤ C) (hs : slots ≤ S) :
    Goes p e below (OwnK s Q C S) T (mkF m pc Ls (.int z :: rest)) := by
  obtain ⟨fs, hr, hrun, hended, hW, hsame⟩ := X.leave (v := some (.int z)) (fun h => by rw [hret] at h; cases h) hlk
  exact ⟨_, _, retOut X hx hret rfl (Or.inl ⟨rfl, Or.inl rfl, z, rfl⟩) hd hr, hrun, hended, _, _, rfl, hQ, ⟨_, rfl⟩, hW, hsame.mono hc hs⟩
theorem Goes.retNar (X : Stand p l e R s m args below meth c T locs cells slots) (hx : p.tables.exec = Jvm.exec) (hlk : meth.locks = false) {t : FieldType} {z : Int32} (ht : t = .boolean ∨ t = .byte ∨ t = .char ∨ t = .short) (hret : meth.sig.returnType = some t) (hd : decode c.code pc = .ok (.ireturn, 1)) (hQ : Q (some (.int (nar t z))) T.heap locs) (hc : cells ≤ C) (hs : slots ≤ S) :
    Goes p e below (OwnK s Q C S) T (mkF m pc Ls (.int z :: rest)) := by
  obtain ⟨fs, hr, hrun, hended, hW, hsame⟩ := X.leave (v := some (.int (nar t z))) (fun h => by rw [hret] at h; cases h) hlk
  exact ⟨_, _, retN X hx hret ht hd hr, hrun, hended, _, _, rfl, hQ, ⟨_, rfl⟩, hW, hsame.mono hc hs⟩
theorem Goes.retLong (X : Stand p l e R s m args below meth c T locs cells slots) (hx : p.tables.exec = Jvm.exec) (hlk : meth.locks = false) {z : Int64} (hret : meth.sig.returnType = some .long) (hd : decode c.code pc = .ok (.lreturn, 1)) (hQ : Q (some (.long z)) T.heap locs) (hc : cells ≤ C) (hs : slots ≤ S) :
    Goes p e below (OwnK s Q C S) T (mkF m pc Ls (.long z :: rest)) := by
  obtain ⟨fs, hr, hrun, hended, hW, hsame⟩ := X.leave (v := some (.long z)) (fun h => by rw [hret] at h; cases h) hlk
  exact ⟨_, _, retOut X hx hret rfl (Or.inr (Or.inl ⟨rfl, rfl, z, rfl⟩)) hd hr, hrun, hended, _, _, rfl, hQ, ⟨_, rfl⟩, hW, hsame.mono hc hs⟩
theorem Goes.retRef (X : Stand p l e R s m args below meth c T locs cells slots) (hx : p.tables.exec = Jvm.exec) (hlk : meth.locks = false) {t : FieldType} {w : Value} (hw : w.isRef = true) (ht : t.isReference = true) (hret : meth.sig.returnType = some t) (hd : decode c.code pc = .ok (.areturn, 1)) (hQ : Q (some w) T.heap locs) (hc : cells ≤ C) (hs : slots ≤ S) :
    Goes p e below (OwnK s Q C S) T (mkF m pc Ls (w :: rest)) := by
  obtain ⟨fs, hr, hrun, hended, hW, hsame⟩ := X.leave (v := some w) (fun h => by rw [hret] at h; cases h) hlk
  have hn : narrow t w = w := by cases t <;> first | (cases ht; done) | (cases w <;> first | (cases hw; done) | rfl)
  exact ⟨_, _, retOut X hx hret hn (Or.inr (Or.inr (Or.inr (Or.inr ⟨rfl, ht, hw⟩)))) hd hr, hrun, hended, _, _, rfl, hQ, ⟨_, rfl⟩, hW, hsame.mono hc hs⟩
theorem Goes.retVoid (X : Stand p l e R s m args below meth c T locs cells slots) (hx : p.tables.exec = Jvm.exec) (hlk : meth.locks = false) (hret : meth.sig.returnType = none) (hd : decode c.code pc = .ok (.return_, 1)) (hQ : Q none T.heap locs) (hc : cells ≤ C) (hs : slots ≤ S) :
    Goes p e below (OwnK s Q C S) T (mkF m pc Ls []) := by
  obtain ⟨fs, hr, hrun, hended, hW, hsame⟩ := X.leave (v := none) (fun _ => rfl) hlk
  exact ⟨_, _, X.returnOut hx hret hd hr, hrun, hended, _, _, rfl, hQ, ⟨_, rfl⟩, hW, hsame.mono hc hs⟩
end Ret
/-- an array of ints, chars, bytes (not of booleans): all of its elements -/
def AI (Z : State) (h : Heap) (a : Addr) (ty : FieldType) (xs : List Int32) : Prop := ∃ cl : Cell, Arr Z h a cl ty ∧ cl.slots.toList = xs.map Value.int ∧ xs.length < 2 ^ 31 ∧ ∀ x ∈ xs, fits ty (.int x) = true
section Arrs
variable {ty : FieldType} {xs : List Int32} {sl : Nat} {v : Value} {ws : List Addr} {j x : Int32} {i : Nat} {rest : List Value}
theorem AI.lt (F : AI Z h a ty xs) : a < h.size := by obtain ⟨cl, A, -⟩ := F; exact A.lt
theorem AI.ext (F : AI Z h a ty xs) (E : Ext h h') : AI Z h' a ty xs := by obtain ⟨cl, A, r⟩ := F; exact ⟨cl, A.ext E, r⟩
theorem AI.other (F : AI Z h b ty xs) (W : Wr h h' a sl v) (q : b ≠ a) : AI Z h' b ty xs := by obtain ⟨cl, A, r⟩ := F; exact ⟨cl, A.other W q, r⟩
theorem AI.keep (F : AI Z h a ty xs) (K : Keep h h' ws) (q : a ∉ ws) : AI Z h' a ty xs := by obtain ⟨cl, A, r⟩ := F; exact ⟨cl, ⟨K.2.1 a cl A.1 q, A.2⟩, r⟩
theorem own_idx {cl : Cell} (hsz : cl.slots.toList = xs.map Value.int) (hj : j.toInt = (i : Int)) (hi : i < xs.length) : ¬ (j < 0 ∨ cl.slots.size ≤ j.toNatClampNeg) ∧ j.toNatClampNeg = i := by
  have hl : cl.slots.size = xs.length := by rw [← Array.length_toList, hsz, List.length_map]
  have hn : j.toNatClampNeg = i := by simp only [Int32.toNatClampNeg, hj]; rfl
  refine ⟨?_, hn⟩
  rw [hn, hl, Int32.lt_iff_toInt_lt, hj]
  have e0 : (0 : Int32).toInt = 0 := rfl
  omega
theorem own_at {cl : Cell} (hsz : cl.slots.toList = xs.map Value.int) (hi : xs[i]? = some x) : cl.slots[i]? = some (.int x) := by
  rw [← Array.getElem?_toList, hsz, List.getElem?_map, hi]; rfl
theorem AI.iaload (X : Stand p l e R s m args below meth c T locs cells slots) (hx : p.tables.exec = Jvm.exec) (hZ : Z.Warmed39 s.vm) (eT : T.heap = h) (A : AI Z h a .int xs) (hj : j.toInt = (i : Int)) (hi : xs[i]? = some x) (hg : g.method = m) (hs : g.stack = .int j :: .ref a :: rest) (hd : decode c.code g.pc = .ok (.iaload, 1)) :
    ∀ t, Steps p.tables e below (T.setTop { g with pc := g.pc + 1, stack := .int x :: rest }) t → Steps p.tables e below (T.setTop g) t := by
  obtain ⟨cl, A1, h1, h2, h3⟩ := A
  obtain ⟨q1, q2⟩ := own_idx h1 hj (List.getElem?_eq_some_iff.mp hi).1
  exact X.iaload hx (by rw [eT]; exact A1.1) (State.isArrayOf_alike hZ.alike A1.2.1) A1.2.2 q1 (by rw [q2]; exact own_at h1 hi) hg hs hd
theorem AI.caload (X : Stand p l e R s m args below meth c T locs cells slots) (hx : p.tables.exec = Jvm.exec) (hZ : Z.Warmed39 s.vm) (eT : T.heap = h) (A : AI Z h a .char xs) (hj : j.toInt = (i : Int)) (hi : xs[i]? = some x) (hg : g.method = m) (hs : g.stack = .int j :: .ref a :: rest) (hd : decode c.code g.pc = .ok (.caload, 1)) :
    ∀ t, Steps p.tables e below (T.setTop { g with pc := g.pc + 1, stack := .int x :: rest }) t → Steps p.tables e below (T.setTop g) t := by
  obtain ⟨cl, A1, h1, h2, h3⟩ := A
  obtain ⟨q1, q2⟩ := own_idx h1 hj (List.getElem?_eq_some_iff.mp hi).1
  exact X.caload hx (by rw [eT]; exact A1.1) (State.isArrayOf_alike hZ.alike A1.2.1) A1.2.2 q1 (by rw [q2]; exact own_at h1 hi) hg hs hd
theorem AI.baload (X : Stand p l e R s m args below meth c T locs cells slots) (hx : p.tables.exec = Jvm.exec) (hZ : Z.Warmed39 s.vm) (eT : T.heap = h) (A : AI Z h a .byte xs) (hj : j.toInt = (i : Int)) (hi : xs[i]? = some x) (hg : g.method = m) (hs : g.stack = .int j :: .ref a :: rest) (hd : decode c.code g.pc = .ok (.baload, 1)) :
    ∀ t, Steps p.tables e below (T.setTop { g with pc := g.pc + 1, stack := .int x :: rest }) t → Steps p.tables e below (T.setTop g) t := by
  obtain ⟨cl, A1, h1, h2, h3⟩ := A
  obtain ⟨q1, q2⟩ := own_idx h1 hj (List.getElem?_eq_some_iff.mp hi).1
  exact X.baloadBytes hx (by rw [eT]; exact A1.1) (State.isArrayOf_alike hZ.alike A1.2.1) A1.2.2 q1 (by rw [q2]; exact own_at h1 hi) hg hs hd
theorem AI.arraylength (X : Stand p l e R s m args below meth c T locs cells slots) (hx : p.tables.exec = Jvm.exec) (hZ : Z.Warmed39 s.vm) (eT : T.heap = h) (A : AI Z h a ty xs) (hj : j.toInt = (xs.length : Int)) (hg : g.method = m) (hs : g.stack = .ref a :: rest) (hd : decode c.code g.pc = .ok (.arraylength, 1)) :
    ∀ t, Steps p.tables e below (T.setTop { g with pc := g.pc + 1, stack := .int j :: rest }) t → Steps p.tables e below (T.setTop g) t := by
  obtain ⟨cl, A1, h1, h2, h3⟩ := A
  intro t k
  have hl : cl.slots.size = xs.length := by rw [← Array.length_toList, h1, List.length_map]
  have ej : cl.slots.size.toInt32 = j := by
    rw [hl]
    apply Int32.toInt_inj.mp
    rw [hj]; exact len_toInt h2
  refine X.arraylength hx (by rw [eT]; exact A1.1) (State.isArrayOf_alike hZ.alike A1.2.1) hg hs hd t ?_
  rw [ej]; exact k
theorem own_set {cl : Cell} (A : Arr Z h a cl ty) (h1 : cl.slots.toList = xs.map Value.int) (h2 : xs.length < 2 ^ 31) (h3 : ∀ x ∈ xs, fits ty (.int x) = true) (hf : fits ty (.int x) = true) (W : Wr h h' a i (.int x)) : AI Z h' a ty (xs.set i x) :=
  ⟨_, A.same W, by simp [Cell.setSlot, h1, List.map_set], by rw [List.length_set]; exact h2, fun y hy => by
    rcases List.mem_or_eq_of_mem_set hy with q | q
    · exact h3 y q
    · rw [q]; exact hf⟩
theorem AI.iastore (X : Stand p l e R s m args below meth c T locs cells slots) (hx : p.tables.exec = Jvm.exec) (hZ : Z.Warmed39 s.vm) (eT : T.heap = h) (A : AI Z h a .int xs) (hj : j.toInt = (i : Int)) (hi : i < xs.length) (hg : g.method = m) (hs : g.stack = .int x :: .int j :: .ref a :: rest) (hd : decode c.code g.pc = .ok (.iastore, 1)) :
    ∃ T' h', Stand p l e R s m args below meth c T' (locs ++ [⟨a, i⟩]) cells slots ∧ T'.heap = h' ∧ Wr h h' a i (.int x) ∧ AI Z h' a .int (xs.set i x) ∧ ∀ target, Steps p.tables e below (T'.setTop { g with pc := g.pc + 1, stack := rest }) target → Steps p.tables e below (T.setTop g) target := by
  obtain ⟨cl, A1, h1, h2, h3⟩ := A
  obtain ⟨q1, q2⟩ := own_idx h1 hj hi
  obtain ⟨T', h', X', e', W', st⟩ := stI X hx hZ eT A1 q1 hg hs hd
  rw [q2] at X' W'
  exact ⟨T', h', X', e', W', own_set A1 h1 h2 h3 rfl W', st⟩
theorem AI.castore (X : Stand p l e R s m args below meth c T locs cells slots) (hx : p.tables.exec = Jvm.exec) (hZ : Z.Warmed39 s.vm) (eT : T.heap = h) (A : AI Z h a .char xs) (hj : j.toInt = (i : Int)) (hi : i < xs.length) (hg : g.method = m) (hs : g.stack = .int x :: .int j :: .ref a :: rest) (hd : decode c.code g.pc = .ok (.castore, 1)) :
    ∃ T' h', Stand p l e R s m args below meth c T' (locs ++ [⟨a, i⟩]) cells slots ∧ T'.heap = h' ∧ Wr h h' a i (.int (nar .char x)) ∧ AI Z h' a .char (xs.set i (nar .char x)) ∧ ∀ target, Steps p.tables e below (T'.setTop { g with pc := g.pc + 1, stack := rest }) target → Steps p.tables e below (T.setTop g) target := by
  obtain ⟨cl, A1, h1, h2, h3⟩ := A
  obtain ⟨q1, q2⟩ := own_idx h1 hj hi
  obtain ⟨T', h', X', e', W', st⟩ := stC X hx hZ eT A1 q1 hg hs hd
  rw [q2] at X' W'
  exact ⟨T', h', X', e', W', own_set A1 h1 h2 h3 (fits_nar_char _) W', st⟩
theorem AI.bastore (X : Stand p l e R s m args below meth c T locs cells slots) (hx : p.tables.exec = Jvm.exec) (hZ : Z.Warmed39 s.vm) (eT : T.heap = h) (A : AI Z h a .byte xs) (hj : j.toInt = (i : Int)) (hi : i < xs.length) (hg : g.method = m) (hs : g.stack = .int x :: .int j :: .ref a :: rest) (hd : decode c.code g.pc = .ok (.bastore, 1)) :
    ∃ T' h', Stand p l e R s m args below meth c T' (locs ++ [⟨a, i⟩]) cells slots ∧ T'.heap = h' ∧ Wr h h' a i (.int (nar .byte x)) ∧ AI Z h' a .byte (xs.set i (nar .byte x)) ∧ ∀ target, Steps p.tables e below (T'.setTop { g with pc := g.pc + 1, stack := rest }) target → Steps p.tables e below (T.setTop g) target := by
  obtain ⟨cl, A1, h1, h2, h3⟩ := A
  obtain ⟨q1, q2⟩ := own_idx h1 hj hi
  obtain ⟨T', h', X', e', W', st⟩ := stB X hx hZ eT A1 q1 hg hs hd
  rw [q2] at X' W'
  exact ⟨T', h', X', e', W', own_set A1 h1 h2 h3 (fits_nar_byte _) W', st⟩
theorem AI.fresh {cA : ClassId} {n : Int32} {k : Nat} (ht : ty = .int ∨ ty = .char ∨ ty = .byte ∨ ty = .short) (hn : n.toInt = (k : Int)) (A : Arr Z h a (newA cA ty n) ty) : AI Z h a ty (List.replicate k 0) := by
  have e : n.toNatClampNeg = k := by simp only [Int32.toNatClampNeg, hn]; rfl
  have hk := n.toInt_lt
  refine ⟨_, A, ?_, ?_, ?_⟩
  · rcases ht with rfl | rfl | rfl | rfl <;> simp [newA, e, defaultValue]
  · rw [List.length_replicate]; omega
  · intro x hx
    obtain rfl := List.eq_of_mem_replicate hx
    rcases ht with rfl | rfl | rfl | rfl <;> rfl
end Arrs
end OwnKit
def f1 (p1 : Int32) : Int32 := if p1 = (9 : Int32) then (1 : Int32) else if p1 = (10 : Int32) then (1 : Int32) else if p1 = (13 : Int32) then (1 : Int32) else if p1 < (32 : Int32) then if p1 < (57344 : Int32) then if p1 < (65536 : Int32) then (0 : Int32) else if (1114111 : Int32) < p1 then (0 : Int32) else (1 : Int32) else if (65533 : Int32) < p1 then if p1 < (65536 : Int32) then (0 : Int32) else if (1114111 : Int32) < p1 then (0 : Int32) else (1 : Int32) else (1 : Int32) else if (55295 : Int32) < p1 then if p1 < (57344 : Int32) then if p1 < (65536 : Int32) then (0 : Int32) else if (1114111 : Int32) < p1 then (0 : Int32) else (1 : Int32) else if (65533 : Int32) < p1 then if p1 < (65536 : Int32) then (0 : Int32) else if (1114111 : Int32) < p1 then (0 : Int32) else (1 : Int32) else (1 : Int32) else (1 : Int32)
theorem d1_0 : decode prog_129_method_2_code 0 = .ok (.iload_n 0, 1) := by decide +kernel
theorem d1_1 : decode prog_129_method_2_code 1 = .ok (.bipush 9, 2) := by decide +kernel
theorem d1_3 : decode prog_129_method_2_code 3 = .ok (.if_icmp .eq 51, 3) := by decide +kernel
theorem d1_6 : decode prog_129_method_2_code 6 = .ok (.iload_n 0, 1) := by decide +kernel
theorem d1_7 : decode prog_129_method_2_code 7 = .ok (.bipush 10, 2) := by decide +kernel
theorem d1_9 : decode prog_129_method_2_code 9 = .ok (.if_icmp .eq 45, 3) := by decide +kernel
theorem d1_12 : decode prog_129_method_2_code 12 = .ok (.iload_n 0, 1) := by decide +kernel
theorem d1_13 : decode prog_129_method_2_code 13 = .ok (.bipush 13, 2) := by decide +kernel
theorem d1_15 : decode prog_129_method_2_code 15 = .ok (.if_icmp .eq 39, 3) := by decide +kernel
theorem d1_18 : decode prog_129_method_2_code 18 = .ok (.iload_n 0, 1) := by decide +kernel
theorem d1_19 : decode prog_129_method_2_code 19 = .ok (.bipush 32, 2) := by decide +kernel
theorem d1_21 : decode prog_129_method_2_code 21 = .ok (.if_icmp .lt 9, 3) := by decide +kernel
theorem d1_24 : decode prog_129_method_2_code 24 = .ok (.iload_n 0, 1) := by decide +kernel
theorem d1_25 : decode prog_129_method_2_code 25 = .ok (.ldc 7, 2) := by decide +kernel
theorem d1_27 : decode prog_129_method_2_code 27 = .ok (.if_icmp .le 27, 3) := by decide +kernel
theorem d1_30 : decode prog_129_method_2_code 30 = .ok (.iload_n 0, 1) := by decide +kernel
theorem d1_31 : decode prog_129_method_2_code 31 = .ok (.ldc 8, 2) := by decide +kernel
theorem d1_33 : decode prog_129_method_2_code 33 = .ok (.if_icmp .lt 9, 3) := by decide +kernel
theorem d1_36 : decode prog_129_method_2_code 36 = .ok (.iload_n 0, 1) := by decide +kernel
theorem d1_37 : decode prog_129_method_2_code 37 = .ok (.ldc 9, 2) := by decide +kernel
theorem d1_39 : decode prog_129_method_2_code 39 = .ok (.if_icmp .le 15, 3) := by decide +kernel
theorem d1_42 : decode prog_129_method_2_code 42 = .ok (.iload_n 0, 1) := by decide +kernel
theorem d1_43 : decode prog_129_method_2_code 43 = .ok (.ldc 10, 2) := by decide +kernel
theorem d1_45 : decode prog_129_method_2_code 45 = .ok (.if_icmp .lt 13, 3) := by decide +kernel
theorem d1_48 : decode prog_129_method_2_code 48 = .ok (.iload_n 0, 1) := by decide +kernel
theorem d1_49 : decode prog_129_method_2_code 49 = .ok (.ldc 13, 2) := by decide +kernel
theorem d1_51 : decode prog_129_method_2_code 51 = .ok (.if_icmp .gt 7, 3) := by decide +kernel
theorem d1_54 : decode prog_129_method_2_code 54 = .ok (.iconst 1, 1) := by decide +kernel
theorem d1_55 : decode prog_129_method_2_code 55 = .ok (.goto 4, 3) := by decide +kernel
theorem d1_58 : decode prog_129_method_2_code 58 = .ok (.iconst 0, 1) := by decide +kernel
theorem d1_59 : decode prog_129_method_2_code 59 = .ok (.ireturn, 1) := by decide +kernel
theorem pn_1 : plainFor (⟨"com/example/zahlwerk/zahlwerk/core/xml/Xml10Characters", "contains", "(I)Z"⟩ : MethodName) = true := plainFor_of_name (by first | (simp [plainName, overriddenIn]; done) | decide +kernel)
theorem ef_1 (m : MethodId) (x0 : Int32) : entryFrame m #[(.int x0)] 1 = mkF m 0 #[.val (.int x0)] [] := by first | (simp [entryFrame, mkF, argsToLocals, Value.category]; done) | rfl
def Q1 (Z : State) (p1 : Int32) (h0 : Heap) (n0 : Nat) (v : Option Value) (h : Heap) (L : List Loc) : Prop := v = some (.int (f1 p1)) ∧ Fr n0 L ∧ h = h0
set_option maxRecDepth 65536 in
set_option maxHeartbeats 40000000 in
theorem rm1 (l : Launch) (Z : State) (a0 : Array Value) (hw : ∀ d ∈ tables_1, d.before a0 Z = true) (ws : List Jvm.Cond) (p1 : Int32) (h0 : Heap) (n0 : Nat) (Z0 : n0 ≤ h0.size) :
    MetFree l (⟨"com/example/zahlwerk/zahlwerk/core/xml/Xml10Characters", "contains", "(I)Z"⟩ : MethodName) (head1 (Jvm.Cond.code (⟨"com/example/zahlwerk/zahlwerk/core/xml/Xml10Characters", "contains", "(I)Z"⟩ : MethodName) prog_129_method_2_code 1 (some .boolean) :: ws) ({ frames := 0, cells := 0, slots := 0, locals := 0 } : Room)) (fun a U => a = #[(.int p1)] ∧ Z.Warmed39 U.vm ∧ U.heap = h0) (fun _ _ _ _ _ => True) (fun _ U o U' => ∃ v L, o = .returned v ∧ Q1 Z p1 h0 n0 v U'.heap L ∧ FrameEnd U o U' L ({ frames := 0, cells := 0, slots := 0, locals := 0 } : Room).cells ({ frames := 0, cells := 0, slots := 0, locals := 0 } : Room).slots) := by
  refine MetFree.of_bodySF pn_1 hisR ?_
  intro p e s m args below meth c s₁ Bd hml0 hP hK
  obtain ⟨rfl, hZ, hh⟩ := hP
  have hx := Bd.exec
  have hby := Bd.bytes
  have hml : c.maxLocals = 1 := hml0
  have hown : s.vm.findClass "com/example/zahlwerk/zahlwerk/core/xml/Xml10Characters" = some m.cls := findClass_of_methodNamed Bd.named
  have hnm := (name_of_methodNamed Bd.named Bd.method).1
  have hlk : meth.locks = false := BodyLoose.notSynchronized Bd
  have X0 : Stand p l e ({ frames := 0, cells := 0, slots := 0, locals := 0 } : Room) s m #[(.int p1)] below meth c s₁ [] 0 0 := Stand.of_body Bd
  have e0 : s₁.heap = h0 := by rw [← hh, Bd.state]; rfl
  have N0 := Fr.nil n0
  show Goes p e below (OwnK s (Q1 Z p1 h0 n0) ({ frames := 0, cells := 0, slots := 0, locals := 0 } : Room).cells ({ frames := 0, cells := 0, slots := 0, locals := 0 } : Room).slots) s₁ (entryFrame m #[(.int p1)] 1)
  refine Goes.cast (ef_1 m p1) ?_
  generalize hKK : OwnK s (Q1 Z p1 h0 n0) ({ frames := 0, cells := 0, slots := 0, locals := 0 } : Room).cells ({ frames := 0, cells := 0, slots := 0, locals := 0 } : Room).slots = KK
  show Goes p e below KK s₁ (mkF m 0 #[.val (.int p1)] [])
  have w_17 := hw _ (List.mem_of_getElem? (i := 17) rfl)
  have w_18 := hw _ (List.mem_of_getElem? (i := 18) rfl)
  have w_23 := hw _ (List.mem_of_getElem? (i := 23) rfl)
  have w_25 := hw _ (List.mem_of_getElem? (i := 25) rfl)
  have w_26 := hw _ (List.mem_of_getElem? (i := 26) rfl)
  refine Goes.of (fun t => XS.iloadN X0.here hx rfl (hb hby d1_0) rfl) ?_
  show Goes p e below KK s₁ (mkF m 1 #[.val (.int p1)] [(.int p1)])
  refine Goes.of (fun t => XS.bipush X0.here hx rfl (hb hby d1_1)) ?_
  show Goes p e below KK s₁ (mkF m 3 #[.val (.int p1)] [(.int (9 : Int32)), (.int p1)])
  by_cases hc3 : p1 = (9 : Int32)
  · refine Goes.of (fun t => XS.icmpYes X0.here hx rfl (pc0 := 3) (pc' := 54) rfl (hb hby d1_3) rfl (teq hc3).1 (by decide) (by decide)) ?_
    show Goes p e below KK s₁ (mkF m 54 #[.val (.int p1)] [])
    refine Goes.of (fun t => XS.iconst X0.here hx rfl (hb hby d1_54)) ?_
    show Goes p e below KK s₁ (mkF m 55 #[.val (.int p1)] [(.int (1 : Int32))])
    refine Goes.of (fun t => XS.goto X0.here hx rfl (pc0 := 55) (pc' := 59) rfl (hb hby d1_55) (by decide) (by decide)) ?_
    show Goes p e below KK s₁ (mkF m 59 #[.val (.int p1)] [(.int (1 : Int32))])
    rw [← hKK]
    refine Goes.retNar X0 hx hlk (t := .boolean) (by simp) Bd.returns (hb hby d1_59) ?_ (by decide) (by decide)
    rw [e0]
    exact ⟨by unfold f1; rw [if_pos hc3] <;> rfl, N0, rfl⟩
  · refine Goes.of (fun t => XS.icmpNo X0.here hx rfl (hb hby d1_3) rfl (feq hc3).1) ?_
    show Goes p e below KK s₁ (mkF m 6 #[.val (.int p1)] [])
    refine Goes.of (fun t => XS.iloadN X0.here hx rfl (hb hby d1_6) rfl) ?_
    show Goes p e below KK s₁ (mkF m 7 #[.val (.int p1)] [(.int p1)])
    refine Goes.of (fun t => XS.bipush X0.here hx rfl (hb hby d1_7)) ?_
    show Goes p e below KK s₁ (mkF m 9 #[.val (.int p1)] [(.int (10 : Int32)), (.int p1)])
    by_cases hc9 : p1 = (10 : Int32)
    · refine Goes.of (fun t => XS.icmpYes X0.here hx rfl (pc0 := 9) (pc' := 54) rfl (hb hby d1_9) rfl (teq hc9).1 (by decide) (by decide)) ?_
      show Goes p e below KK s₁ (mkF m 54 #[.val (.int p1)] [])
      refine Goes.of (fun t => XS.iconst X0.here hx rfl (hb hby d1_54)) ?_
      show Goes p e below KK s₁ (mkF m 55 #[.val (.int p1)] [(.int (1 : Int32))])
      refine Goes.of (fun t => XS.goto X0.here hx rfl (pc0 := 55) (pc' := 59) rfl (hb hby d1_55) (by decide) (by decide)) ?_
      show Goes p e below KK s₁ (mkF m 59 #[.val (.int p1)] [(.int (1 : Int32))])
      rw [← hKK]
      refine Goes.retNar X0 hx hlk (t := .boolean) (by simp) Bd.returns (hb hby d1_59) ?_ (by decide) (by decide)
      rw [e0]
      exact ⟨by unfold f1; rw [if_neg hc3, if_pos hc9] <;> rfl, N0, rfl⟩
    · refine Goes.of (fun t => XS.icmpNo X0.here hx rfl (hb hby d1_9) rfl (feq hc9).1) ?_
      show Goes p e below KK s₁ (mkF m 12 #[.val (.int p1)] [])
      refine Goes.of (fun t => XS.iloadN X0.here hx rfl (hb hby d1_12) rfl) ?_
      show Goes p e below KK s₁ (mkF m 13 #[.val (.int p1)] [(.int p1)])
      refine Goes.of (fun t => XS.bipush X0.here hx rfl (hb hby d1_13)) ?_
      show Goes p e below KK s₁ (mkF m 15 #[.val (.int p1)] [(.int (13 : Int32)), (.int p1)])
      by_cases hc15 : p1 = (13 : Int32)
      · refine Goes.of (fun t => XS.icmpYes X0.here hx rfl (pc0 := 15) (pc' := 54) rfl (hb hby d1_15) rfl (teq hc15).1 (by decide) (by decide)) ?_
        show Goes p e below KK s₁ (mkF m 54 #[.val (.int p1)] [])
        refine Goes.of (fun t => XS.iconst X0.here hx rfl (hb hby d1_54)) ?_
        show Goes p e below KK s₁ (mkF m 55 #[.val (.int p1)] [(.int (1 : Int32))])
        refine Goes.of (fun t => XS.goto X0.here hx rfl (pc0 := 55) (pc' := 59) rfl (hb hby d1_55) (by decide) (by decide)) ?_
        show Goes p e below KK s₁ (mkF m 59 #[.val (.int p1)] [(.int (1 : Int32))])
        rw [← hKK]
        refine Goes.retNar X0 hx hlk (t := .boolean) (by simp) Bd.returns (hb hby d1_59) ?_ (by decide) (by decide)
        rw [e0]
        exact ⟨by unfold f1; rw [if_neg hc3, if_neg hc9, if_pos hc15] <;> rfl, N0, rfl⟩
      · refine Goes.of (fun t => XS.icmpNo X0.here hx rfl (hb hby d1_15) rfl (feq hc15).1) ?_
        show Goes p e below KK s₁ (mkF m 18 #[.val (.int p1)] [])
        refine Goes.of (fun t => XS.iloadN X0.here hx rfl (hb hby d1_18) rfl) ?_
        show Goes p e below KK s₁ (mkF m 19 #[.val (.int p1)] [(.int p1)])
        refine Goes.of (fun t => XS.bipush X0.here hx rfl (hb hby d1_19)) ?_
        show Goes p e below KK s₁ (mkF m 21 #[.val (.int p1)] [(.int (32 : Int32)), (.int p1)])
        by_cases hc21 : p1 < (32 : Int32)
        · refine Goes.of (fun t => XS.icmpYes X0.here hx rfl (pc0 := 21) (pc' := 30) rfl (hb hby d1_21) rfl (tlt hc21).1 (by decide) (by decide)) ?_
          show Goes p e below KK s₁ (mkF m 30 #[.val (.int p1)] [])
          refine Goes.of (fun t => XS.iloadN X0.here hx rfl (hb hby d1_30) rfl) ?_
          show Goes p e below KK s₁ (mkF m 31 #[.val (.int p1)] [(.int p1)])
          refine Goes.of (X0.ldcInt hx hown (mvT hZ w_17) (g := (mkF m 31 #[.val (.int p1)] [(.int p1)])) rfl (hb hby d1_31)) ?_
          show Goes p e below KK s₁ (mkF m 33 #[.val (.int p1)] [(.int (57344 : Int32)), (.int p1)])
          by_cases hc33 : p1 < (57344 : Int32)
          · refine Goes.of (fun t => XS.icmpYes X0.here hx rfl (pc0 := 33) (pc' := 42) rfl (hb hby d1_33) rfl (tlt hc33).1 (by decide) (by decide)) ?_
            show Goes p e below KK s₁ (mkF m 42 #[.val (.int p1)] [])
            refine Goes.of (fun t => XS.iloadN X0.here hx rfl (hb hby d1_42) rfl) ?_
            show Goes p e below KK s₁ (mkF m 43 #[.val (.int p1)] [(.int p1)])
            refine Goes.of (X0.ldcInt hx hown (mvT hZ w_18) (g := (mkF m 43 #[.val (.int p1)] [(.int p1)])) rfl (hb hby d1_43)) ?_
            show Goes p e below KK s₁ (mkF m 45 #[.val (.int p1)] [(.int (65536 : Int32)), (.int p1)])
            by_cases hc45 : p1 < (65536 : Int32)
            · refine Goes.of (fun t => XS.icmpYes X0.here hx rfl (pc0 := 45) (pc' := 58) rfl (hb hby d1_45) rfl (tlt hc45).1 (by decide) (by decide)) ?_
              show Goes p e below KK s₁ (mkF m 58 #[.val (.int p1)] [])
              refine Goes.of (fun t => XS.iconst X0.here hx rfl (hb hby d1_58)) ?_
              show Goes p e below KK s₁ (mkF m 59 #[.val (.int p1)] [(.int (0 : Int32))])
              rw [← hKK]
              refine Goes.retNar X0 hx hlk (t := .boolean) (by simp) Bd.returns (hb hby d1_59) ?_ (by decide) (by decide)
              rw [e0]
              exact ⟨by unfold f1; rw [if_neg hc3, if_neg hc9, if_neg hc15, if_pos hc21, if_pos hc33, if_pos hc45] <;> rfl, N0, rfl⟩
            · refine Goes.of (fun t => XS.icmpNo X0.here hx rfl (hb hby d1_45) rfl (flt hc45).1) ?_
              show Goes p e below KK s₁ (mkF m 48 #[.val (.int p1)] [])
              refine Goes.of (fun t => XS.iloadN X0.here hx rfl (hb hby d1_48) rfl) ?_
              show Goes p e below KK s₁ (mkF m 49 #[.val (.int p1)] [(.int p1)])
              refine Goes.of (X0.ldcInt hx hown (mvT hZ w_26) (g := (mkF m 49 #[.val (.int p1)] [(.int p1)])) rfl (hb hby d1_49)) ?_
              show Goes p e below KK s₁ (mkF m 51 #[.val (.int p1)] [(.int (1114111 : Int32)), (.int p1)])
              by_cases hc51 : (1114111 : Int32) < p1
              · refine Goes.of (fun t => XS.icmpYes X0.here hx rfl (pc0 := 51) (pc' := 58) rfl (hb hby d1_51) rfl (tlt hc51).2.2.1 (by decide) (by decide)) ?_
                show Goes p e below KK s₁ (mkF m 58 #[.val (.int p1)] [])
                refine Goes.of (fun t => XS.iconst X0.here hx rfl (hb hby d1_58)) ?_
                show Goes p e below KK s₁ (mkF m 59 #[.val (.int p1)] [(.int (0 : Int32))])
                rw [← hKK]
                refine Goes.retNar X0 hx hlk (t := .boolean) (by simp) Bd.returns (hb hby d1_59) ?_ (by decide) (by decide)
                rw [e0]
                exact ⟨by unfold f1; rw [if_neg hc3, if_neg hc9, if_neg hc15, if_pos hc21, if_pos hc33, if_neg hc45, if_pos hc51] <;> rfl, N0, rfl⟩
              · refine Goes.of (fun t => XS.icmpNo X0.here hx rfl (hb hby d1_51) rfl (flt hc51).2.2.1) ?_
                show Goes p e below KK s₁ (mkF m 54 #[.val (.int p1)] [])
                refine Goes.of (fun t => XS.iconst X0.here hx rfl (hb hby d1_54)) ?_
                show Goes p e below KK s₁ (mkF m 55 #[.val (.int p1)] [(.int (1 : Int32))])
                refine Goes.of (fun t => XS.goto X0.here hx rfl (pc0 := 55) (pc' := 59) rfl (hb hby d1_55) (by decide) (by decide)) ?_
                show Goes p e below KK s₁ (mkF m 59 #[.val (.int p1)] [(.int (1 : Int32))])
                rw [← hKK]
                refine Goes.retNar X0 hx hlk (t := .boolean) (by simp) Bd.returns (hb hby d1_59) ?_ (by decide) (by decide)
                rw [e0]
                exact ⟨by unfold f1; rw [if_neg hc3, if_neg hc9, if_neg hc15, if_pos hc21, if_pos hc33, if_neg hc45, if_neg hc51] <;> rfl, N0, rfl⟩
          · refine Goes.of (fun t => XS.icmpNo X0.here hx rfl (hb hby d1_33) rfl (flt hc33).1) ?_
            show Goes p e below KK s₁ (mkF m 36 #[.val (.int p1)] [])
            refine Goes.of (fun t => XS.iloadN X0.here hx rfl (hb hby d1_36) rfl) ?_
            show Goes p e below KK s₁ (mkF m 37 #[.val (.int p1)] [(.int p1)])
            refine Goes.of (X0.ldcInt hx hown (mvT hZ w_25) (g := (mkF m 37 #[.val (.int p1)] [(.int p1)])) rfl (hb hby d1_37)) ?_
            show Goes p e below KK s₁ (mkF m 39 #[.val (.int p1)] [(.int (65533 : Int32)), (.int p1)])
            by_cases hc39 : (65533 : Int32) < p1
            · refine Goes.of (fun t => XS.icmpNo X0.here hx rfl (hb hby d1_39) rfl (tlt hc39).2.2.2) ?_
              show Goes p e below KK s₁ (mkF m 42 #[.val (.int p1)] [])
              refine Goes.of (fun t => XS.iloadN X0.here hx rfl (hb hby d1_42) rfl) ?_
              show Goes p e below KK s₁ (mkF m 43 #[.val (.int p1)] [(.int p1)])
              refine Goes.of (X0.ldcInt hx hown (mvT hZ w_18) (g := (mkF m 43 #[.val (.int p1)] [(.int p1)])) rfl (hb hby d1_43)) ?_
              show Goes p e below KK s₁ (mkF m 45 #[.val (.int p1)] [(.int (65536 : Int32)), (.int p1)])
              by_cases hc45_2 : p1 < (65536 : Int32)
              · refine Goes.of (fun t => XS.icmpYes X0.here hx rfl (pc0 := 45) (pc' := 58) rfl (hb hby d1_45) rfl (tlt hc45_2).1 (by decide) (by decide)) ?_
                show Goes p e below KK s₁ (mkF m 58 #[.val (.int p1)] [])
                refine Goes.of (fun t => XS.iconst X0.here hx rfl (hb hby d1_58)) ?_
                show Goes p e below KK s₁ (mkF m 59 #[.val (.int p1)] [(.int (0 : Int32))])
                rw [← hKK]
                refine Goes.retNar X0 hx hlk (t := .boolean) (by simp) Bd.returns (hb hby d1_59) ?_ (by decide) (by decide)
                rw [e0]
                exact ⟨by unfold f1; rw [if_neg hc3, if_neg hc9, if_neg hc15, if_pos hc21, if_neg hc33, if_pos hc39, if_pos hc45_2] <;> rfl, N0, rfl⟩
              · refine Goes.of (fun t => XS.icmpNo X0.here hx rfl (hb hby d1_45) rfl (flt hc45_2).1) ?_
                show Goes p e below KK s₁ (mkF m 48 #[.val (.int p1)] [])
                refine Goes.of (fun t => XS.iloadN X0.here hx rfl (hb hby d1_48) rfl) ?_
                show Goes p e below KK s₁ (mkF m 49 #[.val (.int p1)] [(.int p1)])
                refine Goes.of (X0.ldcInt hx hown (mvT hZ w_26) (g := (mkF m 49 #[.val (.int p1)] [(.int p1)])) rfl (hb hby d1_49)) ?_
                show Goes p e below KK s₁ (mkF m 51 #[.val (.int p1)] [(.int (1114111 : Int32)), (.int p1)])
                by_cases hc51_2 : (1114111 : Int32) < p1
                · refine Goes.of (fun t => XS.icmpYes X0.here hx rfl (pc0 := 51) (pc' := 58) rfl (hb hby d1_51) rfl (tlt hc51_2).2.2.1 (by decide) (by decide)) ?_
                  show Goes p e below KK s₁ (mkF m 58 #[.val (.int p1)] [])
                  refine Goes.of (fun t => XS.iconst X0.here hx rfl (hb hby d1_58)) ?_
                  show Goes p e below KK s₁ (mkF m 59 #[.val (.int p1)] [(.int (0 : Int32))])
                  rw [← hKK]
                  refine Goes.retNar X0 hx hlk (t := .boolean) (by simp) Bd.returns (hb hby d1_59) ?_ (by decide) (by decide)
                  rw [e0]
                  exact ⟨by unfold f1; rw [if_neg hc3, if_neg hc9, if_neg hc15, if_pos hc21, if_neg hc33, if_pos hc39, if_neg hc45_2, if_pos hc51_2] <;> rfl, N0, rfl⟩
                · refine Goes.of (fun t => XS.icmpNo X0.here hx rfl (hb hby d1_51) rfl (flt hc51_2).2.2.1) ?_
                  show Goes p e below KK s₁ (mkF m 54 #[.val (.int p1)] [])
                  refine Goes.of (fun t => XS.iconst X0.here hx rfl (hb hby d1_54)) ?_
                  show Goes p e below KK s₁ (mkF m 55 #[.val (.int p1)] [(.int (1 : Int32))])
                  refine Goes.of (fun t => XS.goto X0.here hx rfl (pc0 := 55) (pc' := 59) rfl (hb hby d1_55) (by decide) (by decide)) ?_
                  show Goes p e below KK s₁ (mkF m 59 #[.val (.int p1)] [(.int (1 : Int32))])
                  rw [← hKK]
                  refine Goes.retNar X0 hx hlk (t := .boolean) (by simp) Bd.returns (hb hby d1_59) ?_ (by decide) (by decide)
                  rw [e0]
                  exact ⟨by unfold f1; rw [if_neg hc3, if_neg hc9, if_neg hc15, if_pos hc21, if_neg hc33, if_pos hc39, if_neg hc45_2, if_neg hc51_2] <;> rfl, N0, rfl⟩
            · refine Goes.of (fun t => XS.icmpYes X0.here hx rfl (pc0 := 39) (pc' := 54) rfl (hb hby d1_39) rfl (flt hc39).2.2.2 (by decide) (by decide)) ?_
              show Goes p e below KK s₁ (mkF m 54 #[.val (.int p1)] [])
              refine Goes.of (fun t => XS.iconst X0.here hx rfl (hb hby d1_54)) ?_
              show Goes p e below KK s₁ (mkF m 55 #[.val (.int p1)] [(.int (1 : Int32))])
              refine Goes.of (fun t => XS.goto X0.here hx rfl (pc0 := 55) (pc' := 59) rfl (hb hby d1_55) (by decide) (by decide)) ?_
              show Goes p e below KK s₁ (mkF m 59 #[.val (.int p1)] [(.int (1 : Int32))])
              rw [← hKK]
              refine Goes.retNar X0 hx hlk (t := .boolean) (by simp) Bd.returns (hb hby d1_59) ?_ (by decide) (by decide)
              rw [e0]
              exact ⟨by unfold f1; rw [if_neg hc3, if_neg hc9, if_neg hc15, if_pos hc21, if_neg hc33, if_neg hc39] <;> rfl, N0, rfl⟩
        · refine Goes.of (fun t => XS.icmpNo X0.here hx rfl (hb hby d1_21) rfl (flt hc21).1) ?_
          show Goes p e below KK s₁ (mkF m 24 #[.val (.int p1)] [])
          refine Goes.of (fun t => XS.iloadN X0.here hx rfl (hb hby d1_24) rfl) ?_
          show Goes p e below KK s₁ (mkF m 25 #[.val (.int p1)] [(.int p1)])
          refine Goes.of (X0.ldcInt hx hown (mvT hZ w_23) (g := (mkF m 25 #[.val (.int p1)] [(.int p1)])) rfl (hb hby d1_25)) ?_
          show Goes p e below KK s₁ (mkF m 27 #[.val (.int p1)] [(.int (55295 : Int32)), (.int p1)])
          by_cases hc27 : (55295 : Int32) < p1
          · refine Goes.of (fun t => XS.icmpNo X0.here hx rfl (hb hby d1_27) rfl (tlt hc27).2.2.2) ?_
            show Goes p e below KK s₁ (mkF m 30 #[.val (.int p1)] [])
            refine Goes.of (fun t => XS.iloadN X0.here hx rfl (hb hby d1_30) rfl) ?_
            show Goes p e below KK s₁ (mkF m 31 #[.val (.int p1)] [(.int p1)])
            refine Goes.of (X0.ldcInt hx hown (mvT hZ w_17) (g := (mkF m 31 #[.val (.int p1)] [(.int p1)])) rfl (hb hby d1_31)) ?_
            show Goes p e below KK s₁ (mkF m 33 #[.val (.int p1)] [(.int (57344 : Int32)), (.int p1)])
            by_cases hc33_2 : p1 < (57344 : Int32)
            · refine Goes.of (fun t => XS.icmpYes X0.here hx rfl (pc0 := 33) (pc' := 42) rfl (hb hby d1_33) rfl (tlt hc33_2).1 (by decide) (by decide)) ?_
              show Goes p e below KK s₁ (mkF m 42 #[.val (.int p1)] [])
              refine Goes.of (fun t => XS.iloadN X0.here hx rfl (hb hby d1_42) rfl) ?_
              show Goes p e below KK s₁ (mkF m 43 #[.val (.int p1)] [(.int p1)])
              refine Goes.of (X0.ldcInt hx hown (mvT hZ w_18) (g := (mkF m 43 #[.val (.int p1)] [(.int p1)])) rfl (hb hby d1_43)) ?_
              show Goes p e below KK s₁ (mkF m 45 #[.val (.int p1)] [(.int (65536 : Int32)), (.int p1)])
              by_cases hc45_3 : p1 < (65536 : Int32)
              · refine Goes.of (fun t => XS.icmpYes X0.here hx rfl (pc0 := 45) (pc' := 58) rfl (hb hby d1_45) rfl (tlt hc45_3).1 (by decide) (by decide)) ?_
                show Goes p e below KK s₁ (mkF m 58 #[.val (.int p1)] [])
                refine Goes.of (fun t => XS.iconst X0.here hx rfl (hb hby d1_58)) ?_
                show Goes p e below KK s₁ (mkF m 59 #[.val (.int p1)] [(.int (0 : Int32))])
                rw [← hKK]
                refine Goes.retNar X0 hx hlk (t := .boolean) (by simp) Bd.returns (hb hby d1_59) ?_ (by decide) (by decide)
                rw [e0]
                exact ⟨by unfold f1; rw [if_neg hc3, if_neg hc9, if_neg hc15, if_neg hc21, if_pos hc27, if_pos hc33_2, if_pos hc45_3] <;> rfl, N0, rfl⟩
              · refine Goes.of (fun t => XS.icmpNo X0.here hx rfl (hb hby d1_45) rfl (flt hc45_3).1) ?_
                show Goes p e below KK s₁ (mkF m 48 #[.val (.int p1)] [])
                refine Goes.of (fun t => XS.iloadN X0.here hx rfl (hb hby d1_48) rfl) ?_
                show Goes p e below KK s₁ (mkF m 49 #[.val (.int p1)] [(.int p1)])
                refine Goes.of (X0.ldcInt hx hown (mvT hZ w_26) (g := (mkF m 49 #[.val (.int p1)] [(.int p1)])) rfl (hb hby d1_49)) ?_
                show Goes p e below KK s₁ (mkF m 51 #[.val (.int p1)] [(.int (1114111 : Int32)), (.int p1)])
                by_cases hc51_3 : (1114111 : Int32) < p1
                · refine Goes.of (fun t => XS.icmpYes X0.here hx rfl (pc0 := 51) (pc' := 58) rfl (hb hby d1_51) rfl (tlt hc51_3).2.2.1 (by decide) (by decide)) ?_
                  show Goes p e below KK s₁ (mkF m 58 #[.val (.int p1)] [])
                  refine Goes.of (fun t => XS.iconst X0.here hx rfl (hb hby d1_58)) ?_
                  show Goes p e below KK s₁ (mkF m 59 #[.val (.int p1)] [(.int (0 : Int32))])
                  rw [← hKK]
                  refine Goes.retNar X0 hx hlk (t := .boolean) (by simp) Bd.returns (hb hby d1_59) ?_ (by decide) (by decide)
                  rw [e0]
                  exact ⟨by unfold f1; rw [if_neg hc3, if_neg hc9, if_neg hc15, if_neg hc21, if_pos hc27, if_pos hc33_2, if_neg hc45_3, if_pos hc51_3] <;> rfl, N0, rfl⟩
                · refine Goes.of (fun t => XS.icmpNo X0.here hx rfl (hb hby d1_51) rfl (flt hc51_3).2.2.1) ?_
                  show Goes p e below KK s₁ (mkF m 54 #[.val (.int p1)] [])
                  refine Goes.of (fun t => XS.iconst X0.here hx rfl (hb hby d1_54)) ?_
                  show Goes p e below KK s₁ (mkF m 55 #[.val (.int p1)] [(.int (1 : Int32))])
                  refine Goes.of (fun t => XS.goto X0.here hx rfl (pc0 := 55) (pc' := 59) rfl (hb hby d1_55) (by decide) (by decide)) ?_
                  show Goes p e below KK s₁ (mkF m 59 #[.val (.int p1)] [(.int (1 : Int32))])
                  rw [← hKK]
                  refine Goes.retNar X0 hx hlk (t := .boolean) (by simp) Bd.returns (hb hby d1_59) ?_ (by decide) (by decide)
                  rw [e0]
                  exact ⟨by unfold f1; rw [if_neg hc3, if_neg hc9, if_neg hc15, if_neg hc21, if_pos hc27, if_pos hc33_2, if_neg hc45_3, if_neg hc51_3] <;> rfl, N0, rfl⟩
            · refine Goes.of (fun t => XS.icmpNo X0.here hx rfl (hb hby d1_33) rfl (flt hc33_2).1) ?_
              show Goes p e below KK s₁ (mkF m 36 #[.val (.int p1)] [])
              refine Goes.of (fun t => XS.iloadN X0.here hx rfl (hb hby d1_36) rfl) ?_
              show Goes p e below KK s₁ (mkF m 37 #[.val (.int p1)] [(.int p1)])
              refine Goes.of (X0.ldcInt hx hown (mvT hZ w_25) (g := (mkF m 37 #[.val (.int p1)] [(.int p1)])) rfl (hb hby d1_37)) ?_
              show Goes p e below KK s₁ (mkF m 39 #[.val (.int p1)] [(.int (65533 : Int32)), (.int p1)])
              by_cases hc39_2 : (65533 : Int32) < p1
              · refine Goes.of (fun t => XS.icmpNo X0.here hx rfl (hb hby d1_39) rfl (tlt hc39_2).2.2.2) ?_
                show Goes p e below KK s₁ (mkF m 42 #[.val (.int p1)] [])
                refine Goes.of (fun t => XS.iloadN X0.here hx rfl (hb hby d1_42) rfl) ?_
                show Goes p e below KK s₁ (mkF m 43 #[.val (.int p1)] [(.int p1)])
                refine Goes.of (X0.ldcInt hx hown (mvT hZ w_18) (g := (mkF m 43 #[.val (.int p1)] [(.int p1)])) rfl (hb hby d1_43)) ?_
                show Goes p e below KK s₁ (mkF m 45 #[.val (.int p1)] [(.int (65536 : Int32)), (.int p1)])
                by_cases hc45_4 : p1 < (65536 : Int32)
                · refine Goes.of (fun t => XS.icmpYes X0.here hx rfl (pc0 := 45) (pc' := 58) rfl (hb hby d1_45) rfl (tlt hc45_4).1 (by decide) (by decide)) ?_
                  show Goes p e below KK s₁ (mkF m 58 #[.val (.int p1)] [])
                  refine Goes.of (fun t => XS.iconst X0.here hx rfl (hb hby d1_58)) ?_
                  show Goes p e below KK s₁ (mkF m 59 #[.val (.int p1)] [(.int (0 : Int32))])
                  rw [← hKK]
                  refine Goes.retNar X0 hx hlk (t := .boolean) (by simp) Bd.returns (hb hby d1_59) ?_ (by decide) (by decide)
                  rw [e0]
                  exact ⟨by unfold f1; rw [if_neg hc3, if_neg hc9, if_neg hc15, if_neg hc21, if_pos hc27, if_neg hc33_2, if_pos hc39_2, if_pos hc45_4] <;> rfl, N0, rfl⟩
                · refine Goes.of (fun t => XS.icmpNo X0.here hx rfl (hb hby d1_45) rfl (flt hc45_4).1) ?_
                  show Goes p e below KK s₁ (mkF m 48 #[.val (.int p1)] [])
                  refine Goes.of (fun t => XS.iloadN X0.here hx rfl (hb hby d1_48) rfl) ?_
                  show Goes p e below KK s₁ (mkF m 49 #[.val (.int p1)] [(.int p1)])
                  refine Goes.of (X0.ldcInt hx hown (mvT hZ w_26) (g := (mkF m 49 #[.val (.int p1)] [(.int p1)])) rfl (hb hby d1_49)) ?_
                  show Goes p e below KK s₁ (mkF m 51 #[.val (.int p1)] [(.int (1114111 : Int32)), (.int p1)])
                  by_cases hc51_4 : (1114111 : Int32) < p1
                  · refine Goes.of (fun t => XS.icmpYes X0.here hx rfl (pc0 := 51) (pc' := 58) rfl (hb hby d1_51) rfl (tlt hc51_4).2.2.1 (by decide) (by decide)) ?_
                    show Goes p e below KK s₁ (mkF m 58 #[.val (.int p1)] [])
                    refine Goes.of (fun t => XS.iconst X0.here hx rfl (hb hby d1_58)) ?_
                    show Goes p e below KK s₁ (mkF m 59 #[.val (.int p1)] [(.int (0 : Int32))])
                    rw [← hKK]
                    refine Goes.retNar X0 hx hlk (t := .boolean) (by simp) Bd.returns (hb hby d1_59) ?_ (by decide) (by decide)
                    rw [e0]
                    exact ⟨by unfold f1; rw [if_neg hc3, if_neg hc9, if_neg hc15, if_neg hc21, if_pos hc27, if_neg hc33_2, if_pos hc39_2, if_neg hc45_4, if_pos hc51_4] <;> rfl, N0, rfl⟩
                  · refine Goes.of (fun t => XS.icmpNo X0.here hx rfl (hb hby d1_51) rfl (flt hc51_4).2.2.1) ?_
                    show Goes p e below KK s₁ (mkF m 54 #[.val (.int p1)] [])
                    refine Goes.of (fun t => XS.iconst X0.here hx rfl (hb hby d1_54)) ?_
                    show Goes p e below KK s₁ (mkF m 55 #[.val (.int p1)] [(.int (1 : Int32))])
                    refine Goes.of (fun t => XS.goto X0.here hx rfl (pc0 := 55) (pc' := 59) rfl (hb hby d1_55) (by decide) (by decide)) ?_
                    show Goes p e below KK s₁ (mkF m 59 #[.val (.int p1)] [(.int (1 : Int32))])
                    rw [← hKK]
                    refine Goes.retNar X0 hx hlk (t := .boolean) (by simp) Bd.returns (hb hby d1_59) ?_ (by decide) (by decide)
                    rw [e0]
                    exact ⟨by unfold f1; rw [if_neg hc3, if_neg hc9, if_neg hc15, if_neg hc21, if_pos hc27, if_neg hc33_2, if_pos hc39_2, if_neg hc45_4, if_neg hc51_4] <;> rfl, N0, rfl⟩
              · refine Goes.of (fun t => XS.icmpYes X0.here hx rfl (pc0 := 39) (pc' := 54) rfl (hb hby d1_39) rfl (flt hc39_2).2.2.2 (by decide) (by decide)) ?_
                show Goes p e below KK s₁ (mkF m 54 #[.val (.int p1)] [])
                refine Goes.of (fun t => XS.iconst X0.here hx rfl (hb hby d1_54)) ?_
                show Goes p e below KK s₁ (mkF m 55 #[.val (.int p1)] [(.int (1 : Int32))])
                refine Goes.of (fun t => XS.goto X0.here hx rfl (pc0 := 55) (pc' := 59) rfl (hb hby d1_55) (by decide) (by decide)) ?_
                show Goes p e below KK s₁ (mkF m 59 #[.val (.int p1)] [(.int (1 : Int32))])
                rw [← hKK]
                refine Goes.retNar X0 hx hlk (t := .boolean) (by simp) Bd.returns (hb hby d1_59) ?_ (by decide) (by decide)
                rw [e0]
                exact ⟨by unfold f1; rw [if_neg hc3, if_neg hc9, if_neg hc15, if_neg hc21, if_pos hc27, if_neg hc33_2, if_neg hc39_2] <;> rfl, N0, rfl⟩
          · refine Goes.of (fun t => XS.icmpYes X0.here hx rfl (pc0 := 27) (pc' := 54) rfl (hb hby d1_27) rfl (flt hc27).2.2.2 (by decide) (by decide)) ?_
            show Goes p e below KK s₁ (mkF m 54 #[.val (.int p1)] [])
            refine Goes.of (fun t => XS.iconst X0.here hx rfl (hb hby d1_54)) ?_
            show Goes p e below KK s₁ (mkF m 55 #[.val (.int p1)] [(.int (1 : Int32))])
            refine Goes.of (fun t => XS.goto X0.here hx rfl (pc0 := 55) (pc' := 59) rfl (hb hby d1_55) (by decide) (by decide)) ?_
            show Goes p e below KK s₁ (mkF m 59 #[.val (.int p1)] [(.int (1 : Int32))])
            rw [← hKK]
            refine Goes.retNar X0 hx hlk (t := .boolean) (by simp) Bd.returns (hb hby d1_59) ?_ (by decide) (by decide)
            rw [e0]
            exact ⟨by unfold f1; rw [if_neg hc3, if_neg hc9, if_neg hc15, if_neg hc21, if_neg hc27] <;> rfl, N0, rfl⟩
def f2 (p1 : Int32) : Int32 := if p1 < (0 : Int32) then (0 : Int32) else if (1114111 : Int32) < p1 then (0 : Int32) else if p1 < (32 : Int32) then if p1 = (9 : Int32) then (1 : Int32) else if p1 = (10 : Int32) then (1 : Int32) else if p1 = (13 : Int32) then (1 : Int32) else (0 : Int32) else if p1 < (55296 : Int32) then if p1 = (65534 : Int32) then (0 : Int32) else if p1 = (65535 : Int32) then (0 : Int32) else (1 : Int32) else if (57343 : Int32) < p1 then if p1 = (65534 : Int32) then (0 : Int32) else if p1 = (65535 : Int32) then (0 : Int32) else (1 : Int32) else (0 : Int32)
theorem d2_0 : decode method_2_code 0 = .ok (.iload_n 0, 1) := by decide +kernel
theorem d2_1 : decode method_2_code 1 = .ok (.ifCond .lt 9, 3) := by decide +kernel
theorem d2_4 : decode method_2_code 4 = .ok (.iload_n 0, 1) := by decide +kernel
theorem d2_5 : decode method_2_code 5 = .ok (.ldc 7, 2) := by decide +kernel
theorem d2_7 : decode method_2_code 7 = .ok (.if_icmp .le 5, 3) := by decide +kernel
theorem d2_10 : decode method_2_code 10 = .ok (.iconst 0, 1) := by decide +kernel
theorem d2_11 : decode method_2_code 11 = .ok (.ireturn, 1) := by decide +kernel
theorem d2_12 : decode method_2_code 12 = .ok (.iload_n 0, 1) := by decide +kernel
theorem d2_13 : decode method_2_code 13 = .ok (.bipush 32, 2) := by decide +kernel
theorem d2_15 : decode method_2_code 15 = .ok (.if_icmp .ge 27, 3) := by decide +kernel
theorem d2_18 : decode method_2_code 18 = .ok (.iload_n 0, 1) := by decide +kernel
theorem d2_19 : decode method_2_code 19 = .ok (.bipush 9, 2) := by decide +kernel
theorem d2_21 : decode method_2_code 21 = .ok (.if_icmp .eq 15, 3) := by decide +kernel
theorem d2_24 : decode method_2_code 24 = .ok (.iload_n 0, 1) := by decide +kernel
theorem d2_25 : decode method_2_code 25 = .ok (.bipush 10, 2) := by decide +kernel
theorem d2_27 : decode method_2_code 27 = .ok (.if_icmp .eq 9, 3) := by decide +kernel
theorem d2_30 : decode method_2_code 30 = .ok (.iload_n 0, 1) := by decide +kernel
theorem d2_31 : decode method_2_code 31 = .ok (.bipush 13, 2) := by decide +kernel
theorem d2_33 : decode method_2_code 33 = .ok (.if_icmp .ne 7, 3) := by decide +kernel
theorem d2_36 : decode method_2_code 36 = .ok (.iconst 1, 1) := by decide +kernel
theorem d2_37 : decode method_2_code 37 = .ok (.goto 4, 3) := by decide +kernel
theorem d2_40 : decode method_2_code 40 = .ok (.iconst 0, 1) := by decide +kernel
theorem d2_41 : decode method_2_code 41 = .ok (.ireturn, 1) := by decide +kernel
theorem d2_42 : decode method_2_code 42 = .ok (.iload_n 0, 1) := by decide +kernel
theorem d2_43 : decode method_2_code 43 = .ok (.ldc 8, 2) := by decide +kernel
theorem d2_45 : decode method_2_code 45 = .ok (.if_icmp .lt 11, 3) := by decide +kernel
theorem d2_48 : decode method_2_code 48 = .ok (.iload_n 0, 1) := by decide +kernel
theorem d2_49 : decode method_2_code 49 = .ok (.ldc 9, 2) := by decide +kernel
theorem d2_51 : decode method_2_code 51 = .ok (.if_icmp .gt 5, 3) := by decide +kernel
theorem d2_54 : decode method_2_code 54 = .ok (.iconst 0, 1) := by decide +kernel
theorem d2_55 : decode method_2_code 55 = .ok (.ireturn, 1) := by decide +kernel
theorem d2_56 : decode method_2_code 56 = .ok (.iload_n 0, 1) := by decide +kernel
theorem d2_57 : decode method_2_code 57 = .ok (.ldc 10, 2) := by decide +kernel
theorem d2_59 : decode method_2_code 59 = .ok (.if_icmp .eq 9, 3) := by decide +kernel
theorem d2_62 : decode method_2_code 62 = .ok (.iload_n 0, 1) := by decide +kernel
theorem d2_63 : decode method_2_code 63 = .ok (.ldc 11, 2) := by decide +kernel
theorem d2_65 : decode method_2_code 65 = .ok (.if_icmp .ne 5, 3) := by decide +kernel
theorem d2_68 : decode method_2_code 68 = .ok (.iconst 0, 1) := by decide +kernel
theorem d2_69 : decode method_2_code 69 = .ok (.ireturn, 1) := by decide +kernel
theorem d2_70 : decode method_2_code 70 = .ok (.iconst 1, 1) := by decide +kernel
theorem d2_71 : decode method_2_code 71 = .ok (.ireturn, 1) := by decide +kernel
theorem pn_2 : plainFor (⟨"com/example/zahlwerk/zahlwerk/core/xml/Xml10CharactersContainsPinLaw", "ref", "(I)Z"⟩ : MethodName) = true := plainFor_of_name (by first | (simp [plainName, overriddenIn]; done) | decide +kernel)
theorem ef_2 (m : MethodId) (x0 : Int32) : entryFrame m #[(.int x0)] 1 = mkF m 0 #[.val (.int x0)] [] := by first | (simp [entryFrame, mkF, argsToLocals, Value.category]; done) | rfl
def Q2 (Z : State) (p1 : Int32) (h0 : Heap) (n0 : Nat) (v : Option Value) (h : Heap) (L : List Loc) : Prop := v = some (.int (f2 p1)) ∧ Fr n0 L ∧ h = h0
set_option maxRecDepth 65536 in
set_option maxHeartbeats 40000000 in
theorem rm2 (l : Launch) (Z : State) (a0 : Array Value) (hw : ∀ d ∈ tables_1, d.before a0 Z = true) (ws : List Jvm.Cond) (p1 : Int32) (h0 : Heap) (n0 : Nat) (Z0 : n0 ≤ h0.size) :
    MetFree l (⟨"com/example/zahlwerk/zahlwerk/core/xml/Xml10CharactersContainsPinLaw", "ref", "(I)Z"⟩ : MethodName) (head1 (Jvm.Cond.code (⟨"com/example/zahlwerk/zahlwerk/core/xml/Xml10CharactersContainsPinLaw", "ref", "(I)Z"⟩ : MethodName) method_2_code 1 (some .boolean) :: ws) ({ frames := 0, cells := 0, slots := 0, locals := 0 } : Room)) (fun a U => a = #[(.int p1)] ∧ Z.Warmed39 U.vm ∧ U.heap = h0) (fun _ _ _ _ _ => True) (fun _ U o U' => ∃ v L, o = .returned v ∧ Q2 Z p1 h0 n0 v U'.heap L ∧ FrameEnd U o U' L ({ frames := 0, cells := 0, slots := 0, locals := 0 } : Room).cells ({ frames := 0, cells := 0, slots := 0, locals := 0 } : Room).slots) := by
  refine MetFree.of_bodySF pn_2 hisR ?_
  intro p e s m args below meth c s₁ Bd hml0 hP hK
  obtain ⟨rfl, hZ, hh⟩ := hP
  have hx := Bd.exec
  have hby := Bd.bytes
  have hml : c.maxLocals = 1 := hml0
  have hown : s.vm.findClass "com/example/zahlwerk/zahlwerk/core/xml/Xml10CharactersContainsPinLaw" = some m.cls := findClass_of_methodNamed Bd.named
  have hnm := (name_of_methodNamed Bd.named Bd.method).1
  have hlk : meth.locks = false := BodyLoose.notSynchronized Bd
  have X0 : Stand p l e ({ frames := 0, cells := 0, slots := 0, locals := 0 } : Room) s m #[(.int p1)] below meth c s₁ [] 0 0 := Stand.of_body Bd
  have e0 : s₁.heap = h0 := by rw [← hh, Bd.state]; rfl
  have N0 := Fr.nil n0
  show Goes p e below (OwnK s (Q2 Z p1 h0 n0) ({ frames := 0, cells := 0, slots := 0, locals := 0 } : Room).cells ({ frames := 0, cells := 0, slots := 0, locals := 0 } : Room).slots) s₁ (entryFrame m #[(.int p1)] 1)
  refine Goes.cast (ef_2 m p1) ?_
  generalize hKK : OwnK s (Q2 Z p1 h0 n0) ({ frames := 0, cells := 0, slots := 0, locals := 0 } : Room).cells ({ frames := 0, cells := 0, slots := 0, locals := 0 } : Room).slots = KK
  show Goes p e below KK s₁ (mkF m 0 #[.val (.int p1)] [])
  have w_2 := hw _ (List.mem_of_getElem? (i := 2) rfl)
  have w_3 := hw _ (List.mem_of_getElem? (i := 3) rfl)
  have w_6 := hw _ (List.mem_of_getElem? (i := 6) rfl)
  have w_8 := hw _ (List.mem_of_getElem? (i := 8) rfl)
  have w_24 := hw _ (List.mem_of_getElem? (i := 24) rfl)
  refine Goes.of (fun t => XS.iloadN X0.here hx rfl (hb hby d2_0) rfl) ?_
  show Goes p e below KK s₁ (mkF m 1 #[.val (.int p1)] [(.int p1)])
  by_cases hc1 : p1 < (0 : Int32)
  · refine Goes.of (fun t => XS.ifYes X0.here hx rfl (pc0 := 1) (pc' := 10) rfl (hb hby d2_1) rfl ((if0 _ _).trans (tlt hc1).1) (by decide) (by decide)) ?_
    show Goes p e below KK s₁ (mkF m 10 #[.val (.int p1)] [])
    refine Goes.of (fun t => XS.iconst X0.here hx rfl (hb hby d2_10)) ?_
    show Goes p e below KK s₁ (mkF m 11 #[.val (.int p1)] [(.int (0 : Int32))])
    rw [← hKK]
    refine Goes.retNar X0 hx hlk (t := .boolean) (by simp) Bd.returns (hb hby d2_11) ?_ (by decide) (by decide)
    rw [e0]
    exact ⟨by unfold f2; rw [if_pos hc1] <;> rfl, N0, rfl⟩
  · refine Goes.of (fun t => XS.ifNo X0.here hx rfl (hb hby d2_1) rfl ((if0 _ _).trans (flt hc1).1)) ?_
    show Goes p e below KK s₁ (mkF m 4 #[.val (.int p1)] [])
    refine Goes.of (fun t => XS.iloadN X0.here hx rfl (hb hby d2_4) rfl) ?_
    show Goes p e below KK s₁ (mkF m 5 #[.val (.int p1)] [(.int p1)])
    refine Goes.of (X0.ldcInt hx hown (mvT hZ w_8) (g := (mkF m 5 #[.val (.int p1)] [(.int p1)])) rfl (hb hby d2_5)) ?_
    show Goes p e below KK s₁ (mkF m 7 #[.val (.int p1)] [(.int (1114111 : Int32)), (.int p1)])
    by_cases hc7 : (1114111 : Int32) < p1
    · refine Goes.of (fun t => XS.icmpNo X0.here hx rfl (hb hby d2_7) rfl (tlt hc7).2.2.2) ?_
      show Goes p e below KK s₁ (mkF m 10 #[.val (.int p1)] [])
      refine Goes.of (fun t => XS.iconst X0.here hx rfl (hb hby d2_10)) ?_
      show Goes p e below KK s₁ (mkF m 11 #[.val (.int p1)] [(.int (0 : Int32))])
      rw [← hKK]
      refine Goes.retNar X0 hx hlk (t := .boolean) (by simp) Bd.returns (hb hby d2_11) ?_ (by decide) (by decide)
      rw [e0]
      exact ⟨by unfold f2; rw [if_neg hc1, if_pos hc7] <;> rfl, N0, rfl⟩
    · refine Goes.of (fun t => XS.icmpYes X0.here hx rfl (pc0 := 7) (pc' := 12) rfl (hb hby d2_7) rfl (flt hc7).2.2.2 (by decide) (by decide)) ?_
      show Goes p e below KK s₁ (mkF m 12 #[.val (.int p1)] [])
      refine Goes.of (fun t => XS.iloadN X0.here hx rfl (hb hby d2_12) rfl) ?_
      show Goes p e below KK s₁ (mkF m 13 #[.val (.int p1)] [(.int p1)])
      refine Goes.of (fun t => XS.bipush X0.here hx rfl (hb hby d2_13)) ?_
      show Goes p e below KK s₁ (mkF m 15 #[.val (.int p1)] [(.int (32 : Int32)), (.int p1)])
      by_cases hc15 : p1 < (32 : Int32)
      · refine Goes.of (fun t => XS.icmpNo X0.here hx rfl (hb hby d2_15) rfl (tlt hc15).2.1) ?_
        show Goes p e below KK s₁ (mkF m 18 #[.val (.int p1)] [])
        refine Goes.of (fun t => XS.iloadN X0.here hx rfl (hb hby d2_18) rfl) ?_
        show Goes p e below KK s₁ (mkF m 19 #[.val (.int p1)] [(.int p1)])
        refine Goes.of (fun t => XS.bipush X0.here hx rfl (hb hby d2_19)) ?_
        show Goes p e below KK s₁ (mkF m 21 #[.val (.int p1)] [(.int (9 : Int32)), (.int p1)])
        by_cases hc21 : p1 = (9 : Int32)
        · refine Goes.of (fun t => XS.icmpYes X0.here hx rfl (pc0 := 21) (pc' := 36) rfl (hb hby d2_21) rfl (teq hc21).1 (by decide) (by decide)) ?_
          show Goes p e below KK s₁ (mkF m 36 #[.val (.int p1)] [])
          refine Goes.of (fun t => XS.iconst X0.here hx rfl (hb hby d2_36)) ?_
          show Goes p e below KK s₁ (mkF m 37 #[.val (.int p1)] [(.int (1 : Int32))])
          refine Goes.of (fun t => XS.goto X0.here hx rfl (pc0 := 37) (pc' := 41) rfl (hb hby d2_37) (by decide) (by decide)) ?_
          show Goes p e below KK s₁ (mkF m 41 #[.val (.int p1)] [(.int (1 : Int32))])
          rw [← hKK]
          refine Goes.retNar X0 hx hlk (t := .boolean) (by simp) Bd.returns (hb hby d2_41) ?_ (by decide) (by decide)
          rw [e0]
          exact ⟨by unfold f2; rw [if_neg hc1, if_neg hc7, if_pos hc15, if_pos hc21] <;> rfl, N0, rfl⟩
        · refine Goes.of (fun t => XS.icmpNo X0.here hx rfl (hb hby d2_21) rfl (feq hc21).1) ?_
          show Goes p e below KK s₁ (mkF m 24 #[.val (.int p1)] [])
          refine Goes.of (fun t => XS.iloadN X0.here hx rfl (hb hby d2_24) rfl) ?_
          show Goes p e below KK s₁ (mkF m 25 #[.val (.int p1)] [(.int p1)])
          refine Goes.of (fun t => XS.bipush X0.here hx rfl (hb hby d2_25)) ?_
          show Goes p e below KK s₁ (mkF m 27 #[.val (.int p1)] [(.int (10 : Int32)), (.int p1)])
          by_cases hc27 : p1 = (10 : Int32)
          · refine Goes.of (fun t => XS.icmpYes X0.here hx rfl (pc0 := 27) (pc' := 36) rfl (hb hby d2_27) rfl (teq hc27).1 (by decide) (by decide)) ?_
            show Goes p e below KK s₁ (mkF m 36 #[.val (.int p1)] [])
            refine Goes.of (fun t => XS.iconst X0.here hx rfl (hb hby d2_36)) ?_
            show Goes p e below KK s₁ (mkF m 37 #[.val (.int p1)] [(.int (1 : Int32))])
            refine Goes.of (fun t => XS.goto X0.here hx rfl (pc0 := 37) (pc' := 41) rfl (hb hby d2_37) (by decide) (by decide)) ?_
            show Goes p e below KK s₁ (mkF m 41 #[.val (.int p1)] [(.int (1 : Int32))])
            rw [← hKK]
            refine Goes.retNar X0 hx hlk (t := .boolean) (by simp) Bd.returns (hb hby d2_41) ?_ (by decide) (by decide)
            rw [e0]
            exact ⟨by unfold f2; rw [if_neg hc1, if_neg hc7, if_pos hc15, if_neg hc21, if_pos hc27] <;> rfl, N0, rfl⟩
          · refine Goes.of (fun t => XS.icmpNo X0.here hx rfl (hb hby d2_27) rfl (feq hc27).1) ?_
            show Goes p e below KK s₁ (mkF m 30 #[.val (.int p1)] [])
            refine Goes.of (fun t => XS.iloadN X0.here hx rfl (hb hby d2_30) rfl) ?_
            show Goes p e below KK s₁ (mkF m 31 #[.val (.int p1)] [(.int p1)])
            refine Goes.of (fun t => XS.bipush X0.here hx rfl (hb hby d2_31)) ?_
            show Goes p e below KK s₁ (mkF m 33 #[.val (.int p1)] [(.int (13 : Int32)), (.int p1)])
            by_cases hc33 : p1 = (13 : Int32)
            · refine Goes.of (fun t => XS.icmpNo X0.here hx rfl (hb hby d2_33) rfl (teq hc33).2) ?_
              show Goes p e below KK s₁ (mkF m 36 #[.val (.int p1)] [])
              refine Goes.of (fun t => XS.iconst X0.here hx rfl (hb hby d2_36)) ?_
              show Goes p e below KK s₁ (mkF m 37 #[.val (.int p1)] [(.int (1 : Int32))])
              refine Goes.of (fun t => XS.goto X0.here hx rfl (pc0 := 37) (pc' := 41) rfl (hb hby d2_37) (by decide) (by decide)) ?_
              show Goes p e below KK s₁ (mkF m 41 #[.val (.int p1)] [(.int (1 : Int32))])
              rw [← hKK]
              refine Goes.retNar X0 hx hlk (t := .boolean) (by simp) Bd.returns (hb hby d2_41) ?_ (by decide) (by decide)
              rw [e0]
              exact ⟨by unfold f2; rw [if_neg hc1, if_neg hc7, if_pos hc15, if_neg hc21, if_neg hc27, if_pos hc33] <;> rfl, N0, rfl⟩
            · refine Goes.of (fun t => XS.icmpYes X0.here hx rfl (pc0 := 33) (pc' := 40) rfl (hb hby d2_33) rfl (feq hc33).2 (by decide) (by decide)) ?_
              show Goes p e below KK s₁ (mkF m 40 #[.val (.int p1)] [])
              refine Goes.of (fun t => XS.iconst X0.here hx rfl (hb hby d2_40)) ?_
              show Goes p e below KK s₁ (mkF m 41 #[.val (.int p1)] [(.int (0 : Int32))])
              rw [← hKK]
              refine Goes.retNar X0 hx hlk (t := .boolean) (by simp) Bd.returns (hb hby d2_41) ?_ (by decide) (by decide)
              rw [e0]
              exact ⟨by unfold f2; rw [if_neg hc1, if_neg hc7, if_pos hc15, if_neg hc21, if_neg hc27, if_neg hc33] <;> rfl, N0, rfl⟩
      · refine Goes.of (fun t => XS.icmpYes X0.here hx rfl (pc0 := 15) (pc' := 42) rfl (hb hby d2_15) rfl (flt hc15).2.1 (by decide) (by decide)) ?_
        show Goes p e below KK s₁ (mkF m 42 #[.val (.int p1)] [])
        refine Goes.of (fun t => XS.iloadN X0.here hx rfl (hb hby d2_42) rfl) ?_
        show Goes p e below KK s₁ (mkF m 43 #[.val (.int p1)] [(.int p1)])
        refine Goes.of (X0.ldcInt hx hown (mvT hZ w_2) (g := (mkF m 43 #[.val (.int p1)] [(.int p1)])) rfl (hb hby d2_43)) ?_
        show Goes p e below KK s₁ (mkF m 45 #[.val (.int p1)] [(.int (55296 : Int32)), (.int p1)])
        by_cases hc45 : p1 < (55296 : Int32)
        · refine Goes.of (fun t => XS.icmpYes X0.here hx rfl (pc0 := 45) (pc' := 56) rfl (hb hby d2_45) rfl (tlt hc45).1 (by decide) (by decide)) ?_
          show Goes p e below KK s₁ (mkF m 56 #[.val (.int p1)] [])
          refine Goes.of (fun t => XS.iloadN X0.here hx rfl (hb hby d2_56) rfl) ?_
          show Goes p e below KK s₁ (mkF m 57 #[.val (.int p1)] [(.int p1)])
          refine Goes.of (X0.ldcInt hx hown (mvT hZ w_24) (g := (mkF m 57 #[.val (.int p1)] [(.int p1)])) rfl (hb hby d2_57)) ?_
          show Goes p e below KK s₁ (mkF m 59 #[.val (.int p1)] [(.int (65534 : Int32)), (.int p1)])
          by_cases hc59 : p1 = (65534 : Int32)
          · refine Goes.of (fun t => XS.icmpYes X0.here hx rfl (pc0 := 59) (pc' := 68) rfl (hb hby d2_59) rfl (teq hc59).1 (by decide) (by decide)) ?_
            show Goes p e below KK s₁ (mkF m 68 #[.val (.int p1)] [])
            refine Goes.of (fun t => XS.iconst X0.here hx rfl (hb hby d2_68)) ?_
            show Goes p e below KK s₁ (mkF m 69 #[.val (.int p1)] [(.int (0 : Int32))])
            rw [← hKK]
            refine Goes.retNar X0 hx hlk (t := .boolean) (by simp) Bd.returns (hb hby d2_69) ?_ (by decide) (by decide)
            rw [e0]
            exact ⟨by unfold f2; rw [if_neg hc1, if_neg hc7, if_neg hc15, if_pos hc45, if_pos hc59] <;> rfl, N0, rfl⟩
          · refine Goes.of (fun t => XS.icmpNo X0.here hx rfl (hb hby d2_59) rfl (feq hc59).1) ?_
            show Goes p e below KK s₁ (mkF m 62 #[.val (.int p1)] [])
            refine Goes.of (fun t => XS.iloadN X0.here hx rfl (hb hby d2_62) rfl) ?_
            show Goes p e below KK s₁ (mkF m 63 #[.val (.int p1)] [(.int p1)])
            refine Goes.of (X0.ldcInt hx hown (mvT hZ w_6) (g := (mkF m 63 #[.val (.int p1)] [(.int p1)])) rfl (hb hby d2_63)) ?_
            show Goes p e below KK s₁ (mkF m 65 #[.val (.int p1)] [(.int (65535 : Int32)), (.int p1)])
            by_cases hc65 : p1 = (65535 : Int32)
            · refine Goes.of (fun t => XS.icmpNo X0.here hx rfl (hb hby d2_65) rfl (teq hc65).2) ?_
              show Goes p e below KK s₁ (mkF m 68 #[.val (.int p1)] [])
              refine Goes.of (fun t => XS.iconst X0.here hx rfl (hb hby d2_68)) ?_
              show Goes p e below KK s₁ (mkF m 69 #[.val (.int p1)] [(.int (0 : Int32))])
              rw [← hKK]
              refine Goes.retNar X0 hx hlk (t := .boolean) (by simp) Bd.returns (hb hby d2_69) ?_ (by decide) (by decide)
              rw [e0]
              exact ⟨by unfold f2; rw [if_neg hc1, if_neg hc7, if_neg hc15, if_pos hc45, if_neg hc59, if_pos hc65] <;> rfl, N0, rfl⟩
            · refine Goes.of (fun t => XS.icmpYes X0.here hx rfl (pc0 := 65) (pc' := 70) rfl (hb hby d2_65) rfl (feq hc65).2 (by decide) (by decide)) ?_
              show Goes p e below KK s₁ (mkF m 70 #[.val (.int p1)] [])
              refine Goes.of (fun t => XS.iconst X0.here hx rfl (hb hby d2_70)) ?_
              show Goes p e below KK s₁ (mkF m 71 #[.val (.int p1)] [(.int (1 : Int32))])
              rw [← hKK]
              refine Goes.retNar X0 hx hlk (t := .boolean) (by simp) Bd.returns (hb hby d2_71) ?_ (by decide) (by decide)
              rw [e0]
              exact ⟨by unfold f2; rw [if_neg hc1, if_neg hc7, if_neg hc15, if_pos hc45, if_neg hc59, if_neg hc65] <;> rfl, N0, rfl⟩
        · refine Goes.of (fun t => XS.icmpNo X0.here hx rfl (hb hby d2_45) rfl (flt hc45).1) ?_
          show Goes p e below KK s₁ (mkF m 48 #[.val (.int p1)] [])
          refine Goes.of (fun t => XS.iloadN X0.here hx rfl (hb hby d2_48) rfl) ?_
          show Goes p e below KK s₁ (mkF m 49 #[.val (.int p1)] [(.int p1)])
          refine Goes.of (X0.ldcInt hx hown (mvT hZ w_3) (g := (mkF m 49 #[.val (.int p1)] [(.int p1)])) rfl (hb hby d2_49)) ?_
          show Goes p e below KK s₁ (mkF m 51 #[.val (.int p1)] [(.int (57343 : Int32)), (.int p1)])
          by_cases hc51 : (57343 : Int32) < p1
          · refine Goes.of (fun t => XS.icmpYes X0.here hx rfl (pc0 := 51) (pc' := 56) rfl (hb hby d2_51) rfl (tlt hc51).2.2.1 (by decide) (by decide)) ?_
            show Goes p e below KK s₁ (mkF m 56 #[.val (.int p1)] [])
            refine Goes.of (fun t => XS.iloadN X0.here hx rfl (hb hby d2_56) rfl) ?_
            show Goes p e below KK s₁ (mkF m 57 #[.val (.int p1)] [(.int p1)])
            refine Goes.of (X0.ldcInt hx hown (mvT hZ w_24) (g := (mkF m 57 #[.val (.int p1)] [(.int p1)])) rfl (hb hby d2_57)) ?_
            show Goes p e below KK s₁ (mkF m 59 #[.val (.int p1)] [(.int (65534 : Int32)), (.int p1)])
            by_cases hc59_2 : p1 = (65534 : Int32)
            · refine Goes.of (fun t => XS.icmpYes X0.here hx rfl (pc0 := 59) (pc' := 68) rfl (hb hby d2_59) rfl (teq hc59_2).1 (by decide) (by decide)) ?_
              show Goes p e below KK s₁ (mkF m 68 #[.val (.int p1)] [])
              refine Goes.of (fun t => XS.iconst X0.here hx rfl (hb hby d2_68)) ?_
              show Goes p e below KK s₁ (mkF m 69 #[.val (.int p1)] [(.int (0 : Int32))])
              rw [← hKK]
              refine Goes.retNar X0 hx hlk (t := .boolean) (by simp) Bd.returns (hb hby d2_69) ?_ (by decide) (by decide)
              rw [e0]
              exact ⟨by unfold f2; rw [if_neg hc1, if_neg hc7, if_neg hc15, if_neg hc45, if_pos hc51, if_pos hc59_2] <;> rfl, N0, rfl⟩
            · refine Goes.of (fun t => XS.icmpNo X0.here hx rfl (hb hby d2_59) rfl (feq hc59_2).1) ?_
              show Goes p e below KK s₁ (mkF m 62 #[.val (.int p1)] [])
              refine Goes.of (fun t => XS.iloadN X0.here hx rfl (hb hby d2_62) rfl) ?_
              show Goes p e below KK s₁ (mkF m 63 #[.val (.int p1)] [(.int p1)])
              refine Goes.of (X0.ldcInt hx hown (mvT hZ w_6) (g := (mkF m 63 #[.val (.int p1)] [(.int p1)])) rfl (hb hby d2_63)) ?_
              show Goes p e below KK s₁ (mkF m 65 #[.val (.int p1)] [(.int (65535 : Int32)), (.int p1)])
              by_cases hc65_2 : p1 = (65535 : Int32)
              · refine Goes.of (fun t => XS.icmpNo X0.here hx rfl (hb hby d2_65) rfl (teq hc65_2).2) ?_
                show Goes p e below KK s₁ (mkF m 68 #[.val (.int p1)] [])
                refine Goes.of (fun t => XS.iconst X0.here hx rfl (hb hby d2_68)) ?_
                show Goes p e below KK s₁ (mkF m 69 #[.val (.int p1)] [(.int (0 : Int32))])
                rw [← hKK]
                refine Goes.retNar X0 hx hlk (t := .boolean) (by simp) Bd.returns (hb hby d2_69) ?_ (by decide) (by decide)
                rw [e0]
                exact ⟨by unfold f2; rw [if_neg hc1, if_neg hc7, if_neg hc15, if_neg hc45, if_pos hc51, if_neg hc59_2, if_pos hc65_2] <;> rfl, N0, rfl⟩
              · refine Goes.of (fun t => XS.icmpYes X0.here hx rfl (pc0 := 65) (pc' := 70) rfl (hb hby d2_65) rfl (feq hc65_2).2 (by decide) (by decide)) ?_
                show Goes p e below KK s₁ (mkF m 70 #[.val (.int p1)] [])
                refine Goes.of (fun t => XS.iconst X0.here hx rfl (hb hby d2_70)) ?_
                show Goes p e below KK s₁ (mkF m 71 #[.val (.int p1)] [(.int (1 : Int32))])
                rw [← hKK]
                refine Goes.retNar X0 hx hlk (t := .boolean) (by simp) Bd.returns (hb hby d2_71) ?_ (by decide) (by decide)
                rw [e0]
                exact ⟨by unfold f2; rw [if_neg hc1, if_neg hc7, if_neg hc15, if_neg hc45, if_pos hc51, if_neg hc59_2, if_neg hc65_2] <;> rfl, N0, rfl⟩
          · refine Goes.of (fun t => XS.icmpNo X0.here hx rfl (hb hby d2_51) rfl (flt hc51).2.2.1) ?_
            show Goes p e below KK s₁ (mkF m 54 #[.val (.int p1)] [])
            refine Goes.of (fun t => XS.iconst X0.here hx rfl (hb hby d2_54)) ?_
            show Goes p e below KK s₁ (mkF m 55 #[.val (.int p1)] [(.int (0 : Int32))])
            rw [← hKK]
            refine Goes.retNar X0 hx hlk (t := .boolean) (by simp) Bd.returns (hb hby d2_55) ?_ (by decide) (by decide)
            rw [e0]
            exact ⟨by unfold f2; rw [if_neg hc1, if_neg hc7, if_neg hc15, if_neg hc45, if_neg hc51] <;> rfl, N0, rfl⟩
theorem f1_char (p1 : Int32) : f1 p1 = if (p1.toInt = 9 ∨ p1.toInt = 10 ∨ p1.toInt = 13 ∨ (32 ≤ p1.toInt ∧ p1.toInt ≤ 55295) ∨ (57344 ≤ p1.toInt ∧ p1.toInt ≤ 65533) ∨ (65536 ≤ p1.toInt ∧ p1.toInt ≤ 1114111)) then 1 else 0 := by
  have z9 : (9 : Int32).toInt = 9 := rfl
  have z10 : (10 : Int32).toInt = 10 := rfl
  have z13 : (13 : Int32).toInt = 13 := rfl
  have z32 : (32 : Int32).toInt = 32 := rfl
  have z55295 : (55295 : Int32).toInt = 55295 := rfl
  have z57344 : (57344 : Int32).toInt = 57344 := rfl
  have z65533 : (65533 : Int32).toInt = 65533 := rfl
  have z65536 : (65536 : Int32).toInt = 65536 := rfl
  have z1114111 : (1114111 : Int32).toInt = 1114111 := rfl
  unfold f1
  by_cases c1 : p1 = (9 : Int32)
  · rw [if_pos c1]
    have d1 := congrArg Int32.toInt c1
    exact (if_pos (by omega)).symm
  · rw [if_neg c1]
    have d1 : ¬ p1.toInt = (9 : Int32).toInt := fun q => c1 (Int32.toInt_inj.mp q)
    by_cases c2 : p1 = (10 : Int32)
    · rw [if_pos c2]
      have d2 := congrArg Int32.toInt c2
      exact (if_pos (by omega)).symm
    · rw [if_neg c2]
      have d2 : ¬ p1.toInt = (10 : Int32).toInt := fun q => c2 (Int32.toInt_inj.mp q)
      by_cases c3 : p1 = (13 : Int32)
      · rw [if_pos c3]
        have d3 := congrArg Int32.toInt c3
        exact (if_pos (by omega)).symm
      · rw [if_neg c3]
        have d3 : ¬ p1.toInt = (13 : Int32).toInt := fun q => c3 (Int32.toInt_inj.mp q)
        by_cases c4 : p1 < (32 : Int32)
        · rw [if_pos c4]
          have d4 := Int32.lt_iff_toInt_lt.mp c4
          by_cases c5 : p1 < (57344 : Int32)
          · rw [if_pos c5]
            have d5 := Int32.lt_iff_toInt_lt.mp c5
            by_cases c6 : p1 < (65536 : Int32)
            · rw [if_pos c6]
              have d6 := Int32.lt_iff_toInt_lt.mp c6
              exact (if_neg (by omega)).symm
            · rw [if_neg c6]
              have d6 : ¬ p1.toInt < (65536 : Int32).toInt := fun q => c6 (Int32.lt_iff_toInt_lt.mpr q)
              by_cases c7 : (1114111 : Int32) < p1
              · rw [if_pos c7]
                have d7 := Int32.lt_iff_toInt_lt.mp c7
                exact (if_neg (by omega)).symm
              · rw [if_neg c7]
                have d7 : ¬ (1114111 : Int32).toInt < p1.toInt := fun q => c7 (Int32.lt_iff_toInt_lt.mpr q)
                exact (if_pos (by omega)).symm
          · rw [if_neg c5]
            have d5 : ¬ p1.toInt < (57344 : Int32).toInt := fun q => c5 (Int32.lt_iff_toInt_lt.mpr q)
            by_cases c8 : (65533 : Int32) < p1
            · rw [if_pos c8]
              have d8 := Int32.lt_iff_toInt_lt.mp c8
              by_cases c9 : p1 < (65536 : Int32)
              · rw [if_pos c9]
                have d9 := Int32.lt_iff_toInt_lt.mp c9
                exact (if_neg (by omega)).symm
              · rw [if_neg c9]
                have d9 : ¬ p1.toInt < (65536 : Int32).toInt := fun q => c9 (Int32.lt_iff_toInt_lt.mpr q)
                by_cases c10 : (1114111 : Int32) < p1
                · rw [if_pos c10]
                  have d10 := Int32.lt_iff_toInt_lt.mp c10
                  exact (if_neg (by omega)).symm
                · rw [if_neg c10]
                  have d10 : ¬ (1114111 : Int32).toInt < p1.toInt := fun q => c10 (Int32.lt_iff_toInt_lt.mpr q)
                  exact (if_pos (by omega)).symm
            · rw [if_neg c8]
              have d8 : ¬ (65533 : Int32).toInt < p1.toInt := fun q => c8 (Int32.lt_iff_toInt_lt.mpr q)
              exact (if_pos (by omega)).symm
        · rw [if_neg c4]
          have d4 : ¬ p1.toInt < (32 : Int32).toInt := fun q => c4 (Int32.lt_iff_toInt_lt.mpr q)
          by_cases c11 : (55295 : Int32) < p1
          · rw [if_pos c11]
            have d11 := Int32.lt_iff_toInt_lt.mp c11
            by_cases c12 : p1 < (57344 : Int32)
            · rw [if_pos c12]
              have d12 := Int32.lt_iff_toInt_lt.mp c12
              by_cases c13 : p1 < (65536 : Int32)
              · rw [if_pos c13]
                have d13 := Int32.lt_iff_toInt_lt.mp c13
                exact (if_neg (by omega)).symm
              · rw [if_neg c13]
                have d13 : ¬ p1.toInt < (65536 : Int32).toInt := fun q => c13 (Int32.lt_iff_toInt_lt.mpr q)
                by_cases c14 : (1114111 : Int32) < p1
                · rw [if_pos c14]
                  have d14 := Int32.lt_iff_toInt_lt.mp c14
                  exact (if_neg (by omega)).symm
                · rw [if_neg c14]
                  have d14 : ¬ (1114111 : Int32).toInt < p1.toInt := fun q => c14 (Int32.lt_iff_toInt_lt.mpr q)
                  exact (if_pos (by omega)).symm
            · rw [if_neg c12]
              have d12 : ¬ p1.toInt < (57344 : Int32).toInt := fun q => c12 (Int32.lt_iff_toInt_lt.mpr q)
              by_cases c15 : (65533 : Int32) < p1
              · rw [if_pos c15]
                have d15 := Int32.lt_iff_toInt_lt.mp c15
                by_cases c16 : p1 < (65536 : Int32)
                · rw [if_pos c16]
                  have d16 := Int32.lt_iff_toInt_lt.mp c16
                  exact (if_neg (by omega)).symm
                · rw [if_neg c16]
                  have d16 : ¬ p1.toInt < (65536 : Int32).toInt := fun q => c16 (Int32.lt_iff_toInt_lt.mpr q)
                  by_cases c17 : (1114111 : Int32) < p1
                  · rw [if_pos c17]
                    have d17 := Int32.lt_iff_toInt_lt.mp c17
                    exact (if_neg (by omega)).symm
                  · rw [if_neg c17]
                    have d17 : ¬ (1114111 : Int32).toInt < p1.toInt := fun q => c17 (Int32.lt_iff_toInt_lt.mpr q)
                    exact (if_pos (by omega)).symm
              · rw [if_neg c15]
                have d15 : ¬ (65533 : Int32).toInt < p1.toInt := fun q => c15 (Int32.lt_iff_toInt_lt.mpr q)
                exact (if_pos (by omega)).symm
          · rw [if_neg c11]
            have d11 : ¬ (55295 : Int32).toInt < p1.toInt := fun q => c11 (Int32.lt_iff_toInt_lt.mpr q)
            exact (if_pos (by omega)).symm
theorem f2_char (p1 : Int32) : f2 p1 = if (p1.toInt = 9 ∨ p1.toInt = 10 ∨ p1.toInt = 13 ∨ (32 ≤ p1.toInt ∧ p1.toInt ≤ 55295) ∨ (57344 ≤ p1.toInt ∧ p1.toInt ≤ 65533) ∨ (65536 ≤ p1.toInt ∧ p1.toInt ≤ 1114111)) then 1 else 0 := by
  have z0 : (0 : Int32).toInt = 0 := rfl
  have z9 : (9 : Int32).toInt = 9 := rfl
  have z10 : (10 : Int32).toInt = 10 := rfl
  have z13 : (13 : Int32).toInt = 13 := rfl
  have z32 : (32 : Int32).toInt = 32 := rfl
  have z55296 : (55296 : Int32).toInt = 55296 := rfl
  have z57343 : (57343 : Int32).toInt = 57343 := rfl
  have z65534 : (65534 : Int32).toInt = 65534 := rfl
  have z65535 : (65535 : Int32).toInt = 65535 := rfl
  have z1114111 : (1114111 : Int32).toInt = 1114111 := rfl
  unfold f2
  by_cases c1 : p1 < (0 : Int32)
  · rw [if_pos c1]
    have d1 := Int32.lt_iff_toInt_lt.mp c1
    exact (if_neg (by omega)).symm
  · rw [if_neg c1]
    have d1 : ¬ p1.toInt < (0 : Int32).toInt := fun q => c1 (Int32.lt_iff_toInt_lt.mpr q)
    by_cases c2 : (1114111 : Int32) < p1
    · rw [if_pos c2]
      have d2 := Int32.lt_iff_toInt_lt.mp c2
      exact (if_neg (by omega)).symm
    · rw [if_neg c2]
      have d2 : ¬ (1114111 : Int32).toInt < p1.toInt := fun q => c2 (Int32.lt_iff_toInt_lt.mpr q)
      by_cases c3 : p1 < (32 : Int32)
      · rw [if_pos c3]
        have d3 := Int32.lt_iff_toInt_lt.mp c3
        by_cases c4 : p1 = (9 : Int32)
        · rw [if_pos c4]
          have d4 := congrArg Int32.toInt c4
          exact (if_pos (by omega)).symm
        · rw [if_neg c4]
          have d4 : ¬ p1.toInt = (9 : Int32).toInt := fun q => c4 (Int32.toInt_inj.mp q)
          by_cases c5 : p1 = (10 : Int32)
          · rw [if_pos c5]
            have d5 := congrArg Int32.toInt c5
            exact (if_pos (by omega)).symm
          · rw [if_neg c5]
            have d5 : ¬ p1.toInt = (10 : Int32).toInt := fun q => c5 (Int32.toInt_inj.mp q)
            by_cases c6 : p1 = (13 : Int32)
            · rw [if_pos c6]
              have d6 := congrArg Int32.toInt c6
              exact (if_pos (by omega)).symm
            · rw [if_neg c6]
              have d6 : ¬ p1.toInt = (13 : Int32).toInt := fun q => c6 (Int32.toInt_inj.mp q)
              exact (if_neg (by omega)).symm
      · rw [if_neg c3]
        have d3 : ¬ p1.toInt < (32 : Int32).toInt := fun q => c3 (Int32.lt_iff_toInt_lt.mpr q)
        by_cases c7 : p1 < (55296 : Int32)
        · rw [if_pos c7]
          have d7 := Int32.lt_iff_toInt_lt.mp c7
          by_cases c8 : p1 = (65534 : Int32)
          · rw [if_pos c8]
            have d8 := congrArg Int32.toInt c8
            exact (if_neg (by omega)).symm
          · rw [if_neg c8]
            have d8 : ¬ p1.toInt = (65534 : Int32).toInt := fun q => c8 (Int32.toInt_inj.mp q)
            by_cases c9 : p1 = (65535 : Int32)
            · rw [if_pos c9]
              have d9 := congrArg Int32.toInt c9
              exact (if_neg (by omega)).symm
            · rw [if_neg c9]
              have d9 : ¬ p1.toInt = (65535 : Int32).toInt := fun q => c9 (Int32.toInt_inj.mp q)
              exact (if_pos (by omega)).symm
        · rw [if_neg c7]
          have d7 : ¬ p1.toInt < (55296 : Int32).toInt := fun q => c7 (Int32.lt_iff_toInt_lt.mpr q)
          by_cases c10 : (57343 : Int32) < p1
          · rw [if_pos c10]
            have d10 := Int32.lt_iff_toInt_lt.mp c10
            by_cases c11 : p1 = (65534 : Int32)
            · rw [if_pos c11]
              have d11 := congrArg Int32.toInt c11
              exact (if_neg (by omega)).symm
            · rw [if_neg c11]
              have d11 : ¬ p1.toInt = (65534 : Int32).toInt := fun q => c11 (Int32.toInt_inj.mp q)
              by_cases c12 : p1 = (65535 : Int32)
              · rw [if_pos c12]
                have d12 := congrArg Int32.toInt c12
                exact (if_neg (by omega)).symm
              · rw [if_neg c12]
                have d12 : ¬ p1.toInt = (65535 : Int32).toInt := fun q => c12 (Int32.toInt_inj.mp q)
                exact (if_pos (by omega)).symm
          · rw [if_neg c10]
            have d10 : ¬ (57343 : Int32).toInt < p1.toInt := fun q => c10 (Int32.lt_iff_toInt_lt.mpr q)
            exact (if_neg (by omega)).symm
theorem own_law (p : Int32) : f1 p = f2 p := by rw [f1_char, f2_char]
theorem pn_0 : plainFor (⟨"com/example/zahlwerk/zahlwerk/core/xml/Xml10CharactersContainsPinLaw", "law", "(II)Z"⟩ : MethodName) = true := plainFor_of_name (by first | (simp [plainName, overriddenIn]; done) | decide +kernel)
theorem pd_4 : parseMethodDescriptor "(I)Z" = some ⟨[.int], some .boolean⟩ := by decide +kernel
theorem ef_0 (m : MethodId) (x0 : Int32) (x1 : Int32) : entryFrame m #[(.int x0), (.int x1)] maxLocals = mkF m 0 #[.val (.int x0), .val (.int x1), .unset, .unset, .unset, .unset, .unset, .unset] [] := by first | (simp [entryFrame, mkF, argsToLocals, Value.category, maxLocals]; done) | rfl
def Q0 (Z : State) (p1 : Int32) (p2 : Int32) (h0 : Heap) (n0 : Nat) (v : Option Value) (h : Heap) (L : List Loc) : Prop := v = some (.int 1) ∧ Fr n0 L
set_option maxRecDepth 65536 in
set_option maxHeartbeats 40000000 in
theorem rm0 (l : Launch) (Z : State) (a0 : Array Value) (hw : ∀ d ∈ tables_1, d.before a0 Z = true) (ws : List Jvm.Cond) (p1 : Int32) (p2 : Int32) (h0 : Heap) (n0 : Nat) (Z0 : n0 ≤ h0.size) :
    MetFree l x (head1 (Jvm.Cond.code x code maxLocals ret :: ws) room_1) (fun a U => a = #[(.int p1), (.int p2)] ∧ Z.Warmed39 U.vm ∧ U.heap = h0) (fun _ _ _ _ _ => True) (fun _ U o U' => ∃ v L, o = .returned v ∧ Q0 Z p1 p2 h0 n0 v U'.heap L ∧ FrameEnd U o U' L room_1.cells room_1.slots) := by
  refine MetFree.of_bodySF pn_0 hisR ?_
  intro p e s m args below meth c s₁ Bd hml0 hP hK
  obtain ⟨rfl, hZ, hh⟩ := hP
  have hx := Bd.exec
  have hby := Bd.bytes
  have hml : c.maxLocals = 8 := hml0
  have hown : s.vm.findClass "com/example/zahlwerk/zahlwerk/core/xml/Xml10CharactersContainsPinLaw" = some m.cls := findClass_of_methodNamed Bd.named
  have hnm := (name_of_methodNamed Bd.named Bd.method).1
  have hlk : meth.locks = false := BodyLoose.notSynchronized Bd
  have X0 : Stand p l e room_1 s m #[(.int p1), (.int p2)] below meth c s₁ [] 0 0 := Stand.of_body Bd
  have e0 : s₁.heap = h0 := by rw [← hh, Bd.state]; rfl
  have N0 := Fr.nil n0
  show Goes p e below (OwnK s (Q0 Z p1 p2 h0 n0) room_1.cells room_1.slots) s₁ (entryFrame m #[(.int p1), (.int p2)] maxLocals)
  refine Goes.cast (ef_0 m p1 p2) ?_
  generalize hKK : OwnK s (Q0 Z p1 p2 h0 n0) room_1.cells room_1.slots = KK
  show Goes p e below KK s₁ (mkF m 0 #[.val (.int p1), .val (.int p2), .unset, .unset, .unset, .unset, .unset, .unset] [])
  have w_0 := hw _ (List.mem_of_getElem? (i := 0) rfl)
  have w_1 := hw _ (List.mem_of_getElem? (i := 1) rfl)
  have w_2 := hw _ (List.mem_of_getElem? (i := 2) rfl)
  have w_3 := hw _ (List.mem_of_getElem? (i := 3) rfl)
  have w_4 := hw _ (List.mem_of_getElem? (i := 4) rfl)
  have w_5 := hw _ (List.mem_of_getElem? (i := 5) rfl)
  have w_6 := hw _ (List.mem_of_getElem? (i := 6) rfl)
  have w_7 := hw _ (List.mem_of_getElem? (i := 7) rfl)
  have w_8 := hw _ (List.mem_of_getElem? (i := 8) rfl)
  have w_9 := hw _ (List.mem_of_getElem? (i := 9) rfl)
  have w_10 := hw _ (List.mem_of_getElem? (i := 10) rfl)
  have w_11 := hw _ (List.mem_of_getElem? (i := 11) rfl)
  have w_12 := hw _ (List.mem_of_getElem? (i := 12) rfl)
  have w_13 := hw _ (List.mem_of_getElem? (i := 13) rfl)
  have w_14 := hw _ (List.mem_of_getElem? (i := 14) rfl)
  have w_15 := hw _ (List.mem_of_getElem? (i := 15) rfl)
  have w_16 := hw _ (List.mem_of_getElem? (i := 16) rfl)
  have w_19 := hw _ (List.mem_of_getElem? (i := 19) rfl)
  have w_20 := hw _ (List.mem_of_getElem? (i := 20) rfl)
  have w_21 := hw _ (List.mem_of_getElem? (i := 21) rfl)
  have w_22 := hw _ (List.mem_of_getElem? (i := 22) rfl)
  refine Goes.of (fun t => XS.bipush X0.here hx rfl (hb hby at_0)) ?_
  show Goes p e below KK s₁ (mkF m 2 #[.val (.int p1), .val (.int p2), .unset, .unset, .unset, .unset, .unset, .unset] [(.int (16 : Int32))])
  obtain ⟨T1, h1, k1, X1, e1, E1, A1, st1⟩ := newP (aty := .int) X0 hx hZ w_0 e0 (g := (mkF m 2 #[.val (.int p1), .val (.int p2), .unset, .unset, .unset, .unset, .unset, .unset] [(.int (16 : Int32))])) rfl (hb hby at_2) rfl (by decide) (cap := 16) (by decide) (by decide) (by decide) (by decide)
  obtain ⟨b1, g1⟩ : ∃ z, z = h0.size := ⟨_, rfl⟩
  rw [← g1] at A1 st1
  refine Goes.of (st1) ?_
  have g_b1 : n0 ≤ b1 := Nat.le_trans Z0 (Nat.le_of_eq g1.symm)
  have sz_b1 : h0.size ≤ b1 := Nat.le_trans (Keep.refl h0 []).1 (Nat.le_of_eq g1.symm)
  have K1 : Keep h0 h1 [] := (Keep.refl h0 []).ext E1
  have Z1 : n0 ≤ h1.size := Nat.le_trans Z0 E1.1
  have V_b1 : AI Z h1 b1 .int [(0 : Int32), (0 : Int32), (0 : Int32), (0 : Int32), (0 : Int32), (0 : Int32), (0 : Int32), (0 : Int32), (0 : Int32), (0 : Int32), (0 : Int32), (0 : Int32), (0 : Int32), (0 : Int32), (0 : Int32), (0 : Int32)] := AI.fresh (k := 16) (by simp) (rfl) A1
  show Goes p e below KK T1 (mkF m 4 #[.val (.int p1), .val (.int p2), .unset, .unset, .unset, .unset, .unset, .unset] [(.ref b1)])
  refine Goes.of (fun t => XS.dup X1.here hx rfl (hb hby at_4) rfl rfl) ?_
  show Goes p e below KK T1 (mkF m 5 #[.val (.int p1), .val (.int p2), .unset, .unset, .unset, .unset, .unset, .unset] [(.ref b1), (.ref b1)])
  refine Goes.of (fun t => XS.iconst X1.here hx rfl (hb hby at_5)) ?_
  show Goes p e below KK T1 (mkF m 6 #[.val (.int p1), .val (.int p2), .unset, .unset, .unset, .unset, .unset, .unset] [(.int (0 : Int32)), (.ref b1), (.ref b1)])
  refine Goes.of (fun t => XS.iconst X1.here hx rfl (hb hby at_6)) ?_
  show Goes p e below KK T1 (mkF m 7 #[.val (.int p1), .val (.int p2), .unset, .unset, .unset, .unset, .unset, .unset] [(.int (0 : Int32)), (.int (0 : Int32)), (.ref b1), (.ref b1)])
  obtain ⟨T2, h2, X2, e2, W2, V2, st2⟩ := AI.iastore X1 hx hZ e1 V_b1 (i := 0) (j := (0 : Int32)) (rfl) ((by simp)) (g := (mkF m 7 #[.val (.int p1), .val (.int p2), .unset, .unset, .unset, .unset, .unset, .unset] [(.int (0 : Int32)), (.int (0 : Int32)), (.ref b1), (.ref b1)])) rfl rfl (hb hby at_7)
  refine Goes.of (st2) ?_
  have K2 : Keep h0 h2 [] := K1.wr W2 (Or.inr sz_b1)
  have Z2 : n0 ≤ h2.size := Nat.le_trans Z1 (Keep.of_wr W2).1
  have N2 := Fr.snoc X2 N0 g_b1
  have V_b1_2 : AI Z h2 b1 .int [(0 : Int32), (0 : Int32), (0 : Int32), (0 : Int32), (0 : Int32), (0 : Int32), (0 : Int32), (0 : Int32), (0 : Int32), (0 : Int32), (0 : Int32), (0 : Int32), (0 : Int32), (0 : Int32), (0 : Int32), (0 : Int32)] := V2
  show Goes p e below KK T2 (mkF m 8 #[.val (.int p1), .val (.int p2), .unset, .unset, .unset, .unset, .unset, .unset] [(.ref b1)])
  refine Goes.of (fun t => XS.dup X2.here hx rfl (hb hby at_8) rfl rfl) ?_
  show Goes p e below KK T2 (mkF m 9 #[.val (.int p1), .val (.int p2), .unset, .unset, .unset, .unset, .unset, .unset] [(.ref b1), (.ref b1)])
  refine Goes.of (fun t => XS.iconst X2.here hx rfl (hb hby at_9)) ?_
  show Goes p e below KK T2 (mkF m 10 #[.val (.int p1), .val (.int p2), .unset, .unset, .unset, .unset, .unset, .unset] [(.int (1 : Int32)), (.ref b1), (.ref b1)])
  refine Goes.of (fun t => XS.bipush X2.here hx rfl (hb hby at_10)) ?_
  show Goes p e below KK T2 (mkF m 12 #[.val (.int p1), .val (.int p2), .unset, .unset, .unset, .unset, .unset, .unset] [(.int (9 : Int32)), (.int (1 : Int32)), (.ref b1), (.ref b1)])
  obtain ⟨T3, h3, X3, e3, W3, V3, st3⟩ := AI.iastore X2 hx hZ e2 V_b1_2 (i := 1) (j := (1 : Int32)) (rfl) ((by simp)) (g := (mkF m 12 #[.val (.int p1), .val (.int p2), .unset, .unset, .unset, .unset, .unset, .unset] [(.int (9 : Int32)), (.int (1 : Int32)), (.ref b1), (.ref b1)])) rfl rfl (hb hby at_12)
  refine Goes.of (st3) ?_
  have K3 : Keep h0 h3 [] := K2.wr W3 (Or.inr sz_b1)
  have Z3 : n0 ≤ h3.size := Nat.le_trans Z2 (Keep.of_wr W3).1
  have N3 := Fr.snoc X3 N2 g_b1
  have V_b1_3 : AI Z h3 b1 .int [(0 : Int32), (9 : Int32), (0 : Int32), (0 : Int32), (0 : Int32), (0 : Int32), (0 : Int32), (0 : Int32), (0 : Int32), (0 : Int32), (0 : Int32), (0 : Int32), (0 : Int32), (0 : Int32), (0 : Int32), (0 : Int32)] := V3
  show Goes p e below KK T3 (mkF m 13 #[.val (.int p1), .val (.int p2), .unset, .unset, .unset, .unset, .unset, .unset] [(.ref b1)])
  refine Goes.of (fun t => XS.dup X3.here hx rfl (hb hby at_13) rfl rfl) ?_
  show Goes p e below KK T3 (mkF m 14 #[.val (.int p1), .val (.int p2), .unset, .unset, .unset, .unset, .unset, .unset] [(.ref b1), (.ref b1)])
  refine Goes.of (fun t => XS.iconst X3.here hx rfl (hb hby at_14)) ?_
  show Goes p e below KK T3 (mkF m 15 #[.val (.int p1), .val (.int p2), .unset, .unset, .unset, .unset, .unset, .unset] [(.int (2 : Int32)), (.ref b1), (.ref b1)])
  refine Goes.of (fun t => XS.bipush X3.here hx rfl (hb hby at_15)) ?_
  show Goes p e below KK T3 (mkF m 17 #[.val (.int p1), .val (.int p2), .unset, .unset, .unset, .unset, .unset, .unset] [(.int (10 : Int32)), (.int (2 : Int32)), (.ref b1), (.ref b1)])
  obtain ⟨T4, h4, X4, e4, W4, V4, st4⟩ := AI.iastore X3 hx hZ e3 V_b1_3 (i := 2) (j := (2 : Int32)) (rfl) ((by simp)) (g := (mkF m 17 #[.val (.int p1), .val (.int p2), .unset, .unset, .unset, .unset, .unset, .unset] [(.int (10 : Int32)), (.int (2 : Int32)), (.ref b1), (.ref b1)])) rfl rfl (hb hby at_17)
  refine Goes.of (st4) ?_
  have K4 : Keep h0 h4 [] := K3.wr W4 (Or.inr sz_b1)
  have Z4 : n0 ≤ h4.size := Nat.le_trans Z3 (Keep.of_wr W4).1
  have N4 := Fr.snoc X4 N3 g_b1
  have V_b1_4 : AI Z h4 b1 .int [(0 : Int32), (9 : Int32), (10 : Int32), (0 : Int32), (0 : Int32), (0 : Int32), (0 : Int32), (0 : Int32), (0 : Int32), (0 : Int32), (0 : Int32), (0 : Int32), (0 : Int32), (0 : Int32), (0 : Int32), (0 : Int32)] := V4
  show Goes p e below KK T4 (mkF m 18 #[.val (.int p1), .val (.int p2), .unset, .unset, .unset, .unset, .unset, .unset] [(.ref b1)])
  refine Goes.of (fun t => XS.dup X4.here hx rfl (hb hby at_18) rfl rfl) ?_
  show Goes p e below KK T4 (mkF m 19 #[.val (.int p1), .val (.int p2), .unset, .unset, .unset, .unset, .unset, .unset] [(.ref b1), (.ref b1)])
  refine Goes.of (fun t => XS.iconst X4.here hx rfl (hb hby at_19)) ?_
  show Goes p e below KK T4 (mkF m 20 #[.val (.int p1), .val (.int p2), .unset, .unset, .unset, .unset, .unset, .unset] [(.int (3 : Int32)), (.ref b1), (.ref b1)])
  refine Goes.of (fun t => XS.bipush X4.here hx rfl (hb hby at_20)) ?_
  show Goes p e below KK T4 (mkF m 22 #[.val (.int p1), .val (.int p2), .unset, .unset, .unset, .unset, .unset, .unset] [(.int (13 : Int32)), (.int (3 : Int32)), (.ref b1), (.ref b1)])
  obtain ⟨T5, h5, X5, e5, W5, V5, st5⟩ := AI.iastore X4 hx hZ e4 V_b1_4 (i := 3) (j := (3 : Int32)) (rfl) ((by simp)) (g := (mkF m 22 #[.val (.int p1), .val (.int p2), .unset, .unset, .unset, .unset, .unset, .unset] [(.int (13 : Int32)), (.int (3 : Int32)), (.ref b1), (.ref b1)])) rfl rfl (hb hby at_22)
  refine Goes.of (st5) ?_
  have K5 : Keep h0 h5 [] := K4.wr W5 (Or.inr sz_b1)
  have Z5 : n0 ≤ h5.size := Nat.le_trans Z4 (Keep.of_wr W5).1
  have N5 := Fr.snoc X5 N4 g_b1
  have V_b1_5 : AI Z h5 b1 .int [(0 : Int32), (9 : Int32), (10 : Int32), (13 : Int32), (0 : Int32), (0 : Int32), (0 : Int32), (0 : Int32), (0 : Int32), (0 : Int32), (0 : Int32), (0 : Int32), (0 : Int32), (0 : Int32), (0 : Int32), (0 : Int32)] := V5
  show Goes p e below KK T5 (mkF m 23 #[.val (.int p1), .val (.int p2), .unset, .unset, .unset, .unset, .unset, .unset] [(.ref b1)])
  refine Goes.of (fun t => XS.dup X5.here hx rfl (hb hby at_23) rfl rfl) ?_
  show Goes p e below KK T5 (mkF m 24 #[.val (.int p1), .val (.int p2), .unset, .unset, .unset, .unset, .unset, .unset] [(.ref b1), (.ref b1)])
  refine Goes.of (fun t => XS.iconst X5.here hx rfl (hb hby at_24)) ?_
  show Goes p e below KK T5 (mkF m 25 #[.val (.int p1), .val (.int p2), .unset, .unset, .unset, .unset, .unset, .unset] [(.int (4 : Int32)), (.ref b1), (.ref b1)])
  refine Goes.of (fun t => XS.bipush X5.here hx rfl (hb hby at_25)) ?_
  show Goes p e below KK T5 (mkF m 27 #[.val (.int p1), .val (.int p2), .unset, .unset, .unset, .unset, .unset, .unset] [(.int (32 : Int32)), (.int (4 : Int32)), (.ref b1), (.ref b1)])
  obtain ⟨T6, h6, X6, e6, W6, V6, st6⟩ := AI.iastore X5 hx hZ e5 V_b1_5 (i := 4) (j := (4 : Int32)) (rfl) ((by simp)) (g := (mkF m 27 #[.val (.int p1), .val (.int p2), .unset, .unset, .unset, .unset, .unset, .unset] [(.int (32 : Int32)), (.int (4 : Int32)), (.ref b1), (.ref b1)])) rfl rfl (hb hby at_27)
  refine Goes.of (st6) ?_
  have K6 : Keep h0 h6 [] := K5.wr W6 (Or.inr sz_b1)
  have Z6 : n0 ≤ h6.size := Nat.le_trans Z5 (Keep.of_wr W6).1
  have N6 := Fr.snoc X6 N5 g_b1
  have V_b1_6 : AI Z h6 b1 .int [(0 : Int32), (9 : Int32), (10 : Int32), (13 : Int32), (32 : Int32), (0 : Int32), (0 : Int32), (0 : Int32), (0 : Int32), (0 : Int32), (0 : Int32), (0 : Int32), (0 : Int32), (0 : Int32), (0 : Int32), (0 : Int32)] := V6
  show Goes p e below KK T6 (mkF m 28 #[.val (.int p1), .val (.int p2), .unset, .unset, .unset, .unset, .unset, .unset] [(.ref b1)])
  refine Goes.of (fun t => XS.dup X6.here hx rfl (hb hby at_28) rfl rfl) ?_
  show Goes p e below KK T6 (mkF m 29 #[.val (.int p1), .val (.int p2), .unset, .unset, .unset, .unset, .unset, .unset] [(.ref b1), (.ref b1)])
  refine Goes.of (fun t => XS.iconst X6.here hx rfl (hb hby at_29)) ?_
  show Goes p e below KK T6 (mkF m 30 #[.val (.int p1), .val (.int p2), .unset, .unset, .unset, .unset, .unset, .unset] [(.int (5 : Int32)), (.ref b1), (.ref b1)])
  refine Goes.of (X6.ldcInt hx hown (mvT hZ w_1) (g := (mkF m 30 #[.val (.int p1), .val (.int p2), .unset, .unset, .unset, .unset, .unset, .unset] [(.int (5 : Int32)), (.ref b1), (.ref b1)])) rfl (hb hby at_30)) ?_
  show Goes p e below KK T6 (mkF m 32 #[.val (.int p1), .val (.int p2), .unset, .unset, .unset, .unset, .unset, .unset] [(.int (55295 : Int32)), (.int (5 : Int32)), (.ref b1), (.ref b1)])
  obtain ⟨T7, h7, X7, e7, W7, V7, st7⟩ := AI.iastore X6 hx hZ e6 V_b1_6 (i := 5) (j := (5 : Int32)) (rfl) ((by simp)) (g := (mkF m 32 #[.val (.int p1), .val (.int p2), .unset, .unset, .unset, .unset, .unset, .unset] [(.int (55295 : Int32)), (.int (5 : Int32)), (.ref b1), (.ref b1)])) rfl rfl (hb hby at_32)
  refine Goes.of (st7) ?_
  have K7 : Keep h0 h7 [] := K6.wr W7 (Or.inr sz_b1)
  have Z7 : n0 ≤ h7.size := Nat.le_trans Z6 (Keep.of_wr W7).1
  have N7 := Fr.snoc X7 N6 g_b1
  have V_b1_7 : AI Z h7 b1 .int [(0 : Int32), (9 : Int32), (10 : Int32), (13 : Int32), (32 : Int32), (55295 : Int32), (0 : Int32), (0 : Int32), (0 : Int32), (0 : Int32), (0 : Int32), (0 : Int32), (0 : Int32), (0 : Int32), (0 : Int32), (0 : Int32)] := V7
  show Goes p e below KK T7 (mkF m 33 #[.val (.int p1), .val (.int p2), .unset, .unset, .unset, .unset, .unset, .unset] [(.ref b1)])
  refine Goes.of (fun t => XS.dup X7.here hx rfl (hb hby at_33) rfl rfl) ?_
  show Goes p e below KK T7 (mkF m 34 #[.val (.int p1), .val (.int p2), .unset, .unset, .unset, .unset, .unset, .unset] [(.ref b1), (.ref b1)])
  refine Goes.of (fun t => XS.bipush X7.here hx rfl (hb hby at_34)) ?_
  show Goes p e below KK T7 (mkF m 36 #[.val (.int p1), .val (.int p2), .unset, .unset, .unset, .unset, .unset, .unset] [(.int (6 : Int32)), (.ref b1), (.ref b1)])
  refine Goes.of (X7.ldcInt hx hown (mvT hZ w_2) (g := (mkF m 36 #[.val (.int p1), .val (.int p2), .unset, .unset, .unset, .unset, .unset, .unset] [(.int (6 : Int32)), (.ref b1), (.ref b1)])) rfl (hb hby at_36)) ?_
  show Goes p e below KK T7 (mkF m 38 #[.val (.int p1), .val (.int p2), .unset, .unset, .unset, .unset, .unset, .unset] [(.int (55296 : Int32)), (.int (6 : Int32)), (.ref b1), (.ref b1)])
  obtain ⟨T8, h8, X8, e8, W8, V8, st8⟩ := AI.iastore X7 hx hZ e7 V_b1_7 (i := 6) (j := (6 : Int32)) (rfl) ((by simp)) (g := (mkF m 38 #[.val (.int p1), .val (.int p2), .unset, .unset, .unset, .unset, .unset, .unset] [(.int (55296 : Int32)), (.int (6 : Int32)), (.ref b1), (.ref b1)])) rfl rfl (hb hby at_38)
  refine Goes.of (st8) ?_
  have K8 : Keep h0 h8 [] := K7.wr W8 (Or.inr sz_b1)
  have Z8 : n0 ≤ h8.size := Nat.le_trans Z7 (Keep.of_wr W8).1
  have N8 := Fr.snoc X8 N7 g_b1
  have V_b1_8 : AI Z h8 b1 .int [(0 : Int32), (9 : Int32), (10 : Int32), (13 : Int32), (32 : Int32), (55295 : Int32), (55296 : Int32), (0 : Int32), (0 : Int32), (0 : Int32), (0 : Int32), (0 : Int32), (0 : Int32), (0 : Int32), (0 : Int32), (0 : Int32)] := V8
  show Goes p e below KK T8 (mkF m 39 #[.val (.int p1), .val (.int p2), .unset, .unset, .unset, .unset, .unset, .unset] [(.ref b1)])
  refine Goes.of (fun t => XS.dup X8.here hx rfl (hb hby at_39) rfl rfl) ?_
  show Goes p e below KK T8 (mkF m 40 #[.val (.int p1), .val (.int p2), .unset, .unset, .unset, .unset, .unset, .unset] [(.ref b1), (.ref b1)])
  refine Goes.of (fun t => XS.bipush X8.here hx rfl (hb hby at_40)) ?_
  show Goes p e below KK T8 (mkF m 42 #[.val (.int p1), .val (.int p2), .unset, .unset, .unset, .unset, .unset, .unset] [(.int (7 : Int32)), (.ref b1), (.ref b1)])
  refine Goes.of (X8.ldcInt hx hown (mvT hZ w_3) (g := (mkF m 42 #[.val (.int p1), .val (.int p2), .unset, .unset, .unset, .unset, .unset, .unset] [(.int (7 : Int32)), (.ref b1), (.ref b1)])) rfl (hb hby at_42)) ?_
  show Goes p e below KK T8 (mkF m 44 #[.val (.int p1), .val (.int p2), .unset, .unset, .unset, .unset, .unset, .unset] [(.int (57343 : Int32)), (.int (7 : Int32)), (.ref b1), (.ref b1)])
  obtain ⟨T9, h9, X9, e9, W9, V9, st9⟩ := AI.iastore X8 hx hZ e8 V_b1_8 (i := 7) (j := (7 : Int32)) (rfl) ((by simp)) (g := (mkF m 44 #[.val (.int p1), .val (.int p2), .unset, .unset, .unset, .unset, .unset, .unset] [(.int (57343 : Int32)), (.int (7 : Int32)), (.ref b1), (.ref b1)])) rfl rfl (hb hby at_44)
  refine Goes.of (st9) ?_
  have K9 : Keep h0 h9 [] := K8.wr W9 (Or.inr sz_b1)
  have Z9 : n0 ≤ h9.size := Nat.le_trans Z8 (Keep.of_wr W9).1
  have N9 := Fr.snoc X9 N8 g_b1
  have V_b1_9 : AI Z h9 b1 .int [(0 : Int32), (9 : Int32), (10 : Int32), (13 : Int32), (32 : Int32), (55295 : Int32), (55296 : Int32), (57343 : Int32), (0 : Int32), (0 : Int32), (0 : Int32), (0 : Int32), (0 : Int32), (0 : Int32), (0 : Int32), (0 : Int32)] := V9
  show Goes p e below KK T9 (mkF m 45 #[.val (.int p1), .val (.int p2), .unset, .unset, .unset, .unset, .unset, .unset] [(.ref b1)])
  refine Goes.of (fun t => XS.dup X9.here hx rfl (hb hby at_45) rfl rfl) ?_
  show Goes p e below KK T9 (mkF m 46 #[.val (.int p1), .val (.int p2), .unset, .unset, .unset, .unset, .unset, .unset] [(.ref b1), (.ref b1)])
  refine Goes.of (fun t => XS.bipush X9.here hx rfl (hb hby at_46)) ?_
  show Goes p e below KK T9 (mkF m 48 #[.val (.int p1), .val (.int p2), .unset, .unset, .unset, .unset, .unset, .unset] [(.int (8 : Int32)), (.ref b1), (.ref b1)])
  refine Goes.of (X9.ldcInt hx hown (mvT hZ w_4) (g := (mkF m 48 #[.val (.int p1), .val (.int p2), .unset, .unset, .unset, .unset, .unset, .unset] [(.int (8 : Int32)), (.ref b1), (.ref b1)])) rfl (hb hby at_48)) ?_
  show Goes p e below KK T9 (mkF m 50 #[.val (.int p1), .val (.int p2), .unset, .unset, .unset, .unset, .unset, .unset] [(.int (57344 : Int32)), (.int (8 : Int32)), (.ref b1), (.ref b1)])
  obtain ⟨T10, h10, X10, e10, W10, V10, st10⟩ := AI.iastore X9 hx hZ e9 V_b1_9 (i := 8) (j := (8 : Int32)) (rfl) ((by simp)) (g := (mkF m 50 #[.val (.int p1), .val (.int p2), .unset, .unset, .unset, .unset, .unset, .unset] [(.int (57344 : Int32)), (.int (8 : Int32)), (.ref b1), (.ref b1)])) rfl rfl (hb hby at_50)
  refine Goes.of (st10) ?_
  have K10 : Keep h0 h10 [] := K9.wr W10 (Or.inr sz_b1)
  have Z10 : n0 ≤ h10.size := Nat.le_trans Z9 (Keep.of_wr W10).1
  have N10 := Fr.snoc X10 N9 g_b1
  have V_b1_10 : AI Z h10 b1 .int [(0 : Int32), (9 : Int32), (10 : Int32), (13 : Int32), (32 : Int32), (55295 : Int32), (55296 : Int32), (57343 : Int32), (57344 : Int32), (0 : Int32), (0 : Int32), (0 : Int32), (0 : Int32), (0 : Int32), (0 : Int32), (0 : Int32)] := V10
  show Goes p e below KK T10 (mkF m 51 #[.val (.int p1), .val (.int p2), .unset, .unset, .unset, .unset, .unset, .unset] [(.ref b1)])
  refine Goes.of (fun t => XS.dup X10.here hx rfl (hb hby at_51) rfl rfl) ?_
  show Goes p e below KK T10 (mkF m 52 #[.val (.int p1), .val (.int p2), .unset, .unset, .unset, .unset, .unset, .unset] [(.ref b1), (.ref b1)])
  refine Goes.of (fun t => XS.bipush X10.here hx rfl (hb hby at_52)) ?_
  show Goes p e below KK T10 (mkF m 54 #[.val (.int p1), .val (.int p2), .unset, .unset, .unset, .unset, .unset, .unset] [(.int (9 : Int32)), (.ref b1), (.ref b1)])
  refine Goes.of (X10.ldcInt hx hown (mvT hZ w_5) (g := (mkF m 54 #[.val (.int p1), .val (.int p2), .unset, .unset, .unset, .unset, .unset, .unset] [(.int (9 : Int32)), (.ref b1), (.ref b1)])) rfl (hb hby at_54)) ?_
  show Goes p e below KK T10 (mkF m 56 #[.val (.int p1), .val (.int p2), .unset, .unset, .unset, .unset, .unset, .unset] [(.int (65533 : Int32)), (.int (9 : Int32)), (.ref b1), (.ref b1)])
  obtain ⟨T11, h11, X11, e11, W11, V11, st11⟩ := AI.iastore X10 hx hZ e10 V_b1_10 (i := 9) (j := (9 : Int32)) (rfl) ((by simp)) (g := (mkF m 56 #[.val (.int p1), .val (.int p2), .unset, .unset, .unset, .unset, .unset, .unset] [(.int (65533 : Int32)), (.int (9 : Int32)), (.ref b1), (.ref b1)])) rfl rfl (hb hby at_56)
  refine Goes.of (st11) ?_
  have K11 : Keep h0 h11 [] := K10.wr W11 (Or.inr sz_b1)
  have Z11 : n0 ≤ h11.size := Nat.le_trans Z10 (Keep.of_wr W11).1
  have N11 := Fr.snoc X11 N10 g_b1
  have V_b1_11 : AI Z h11 b1 .int [(0 : Int32), (9 : Int32), (10 : Int32), (13 : Int32), (32 : Int32), (55295 : Int32), (55296 : Int32), (57343 : Int32), (57344 : Int32), (65533 : Int32), (0 : Int32), (0 : Int32), (0 : Int32), (0 : Int32), (0 : Int32), (0 : Int32)] := V11
  show Goes p e below KK T11 (mkF m 57 #[.val (.int p1), .val (.int p2), .unset, .unset, .unset, .unset, .unset, .unset] [(.ref b1)])
  refine Goes.of (fun t => XS.dup X11.here hx rfl (hb hby at_57) rfl rfl) ?_
  show Goes p e below KK T11 (mkF m 58 #[.val (.int p1), .val (.int p2), .unset, .unset, .unset, .unset, .unset, .unset] [(.ref b1), (.ref b1)])
  refine Goes.of (fun t => XS.bipush X11.here hx rfl (hb hby at_58)) ?_
  show Goes p e below KK T11 (mkF m 60 #[.val (.int p1), .val (.int p2), .unset, .unset, .unset, .unset, .unset, .unset] [(.int (10 : Int32)), (.ref b1), (.ref b1)])
  refine Goes.of (X11.ldcInt hx hown (mvT hZ w_6) (g := (mkF m 60 #[.val (.int p1), .val (.int p2), .unset, .unset, .unset, .unset, .unset, .unset] [(.int (10 : Int32)), (.ref b1), (.ref b1)])) rfl (hb hby at_60)) ?_
  show Goes p e below KK T11 (mkF m 62 #[.val (.int p1), .val (.int p2), .unset, .unset, .unset, .unset, .unset, .unset] [(.int (65535 : Int32)), (.int (10 : Int32)), (.ref b1), (.ref b1)])
  obtain ⟨T12, h12, X12, e12, W12, V12, st12⟩ := AI.iastore X11 hx hZ e11 V_b1_11 (i := 10) (j := (10 : Int32)) (rfl) ((by simp)) (g := (mkF m 62 #[.val (.int p1), .val (.int p2), .unset, .unset, .unset, .unset, .unset, .unset] [(.int (65535 : Int32)), (.int (10 : Int32)), (.ref b1), (.ref b1)])) rfl rfl (hb hby at_62)
  refine Goes.of (st12) ?_
  have K12 : Keep h0 h12 [] := K11.wr W12 (Or.inr sz_b1)
  have Z12 : n0 ≤ h12.size := Nat.le_trans Z11 (Keep.of_wr W12).1
  have N12 := Fr.snoc X12 N11 g_b1
  have V_b1_12 : AI Z h12 b1 .int [(0 : Int32), (9 : Int32), (10 : Int32), (13 : Int32), (32 : Int32), (55295 : Int32), (55296 : Int32), (57343 : Int32), (57344 : Int32), (65533 : Int32), (65535 : Int32), (0 : Int32), (0 : Int32), (0 : Int32), (0 : Int32), (0 : Int32)] := V12
  show Goes p e below KK T12 (mkF m 63 #[.val (.int p1), .val (.int p2), .unset, .unset, .unset, .unset, .unset, .unset] [(.ref b1)])
  refine Goes.of (fun t => XS.dup X12.here hx rfl (hb hby at_63) rfl rfl) ?_
  show Goes p e below KK T12 (mkF m 64 #[.val (.int p1), .val (.int p2), .unset, .unset, .unset, .unset, .unset, .unset] [(.ref b1), (.ref b1)])
  refine Goes.of (fun t => XS.bipush X12.here hx rfl (hb hby at_64)) ?_
  show Goes p e below KK T12 (mkF m 66 #[.val (.int p1), .val (.int p2), .unset, .unset, .unset, .unset, .unset, .unset] [(.int (11 : Int32)), (.ref b1), (.ref b1)])
  refine Goes.of (X12.ldcInt hx hown (mvT hZ w_7) (g := (mkF m 66 #[.val (.int p1), .val (.int p2), .unset, .unset, .unset, .unset, .unset, .unset] [(.int (11 : Int32)), (.ref b1), (.ref b1)])) rfl (hb hby at_66)) ?_
  show Goes p e below KK T12 (mkF m 68 #[.val (.int p1), .val (.int p2), .unset, .unset, .unset, .unset, .unset, .unset] [(.int (65536 : Int32)), (.int (11 : Int32)), (.ref b1), (.ref b1)])
  obtain ⟨T13, h13, X13, e13, W13, V13, st13⟩ := AI.iastore X12 hx hZ e12 V_b1_12 (i := 11) (j := (11 : Int32)) (rfl) ((by simp)) (g := (mkF m 68 #[.val (.int p1), .val (.int p2), .unset, .unset, .unset, .unset, .unset, .unset] [(.int (65536 : Int32)), (.int (11 : Int32)), (.ref b1), (.ref b1)])) rfl rfl (hb hby at_68)
  refine Goes.of (st13) ?_
  have K13 : Keep h0 h13 [] := K12.wr W13 (Or.inr sz_b1)
  have Z13 : n0 ≤ h13.size := Nat.le_trans Z12 (Keep.of_wr W13).1
  have N13 := Fr.snoc X13 N12 g_b1
  have V_b1_13 : AI Z h13 b1 .int [(0 : Int32), (9 : Int32), (10 : Int32), (13 : Int32), (32 : Int32), (55295 : Int32), (55296 : Int32), (57343 : Int32), (57344 : Int32), (65533 : Int32), (65535 : Int32), (65536 : Int32), (0 : Int32), (0 : Int32), (0 : Int32), (0 : Int32)] := V13
  show Goes p e below KK T13 (mkF m 69 #[.val (.int p1), .val (.int p2), .unset, .unset, .unset, .unset, .unset, .unset] [(.ref b1)])
  refine Goes.of (fun t => XS.dup X13.here hx rfl (hb hby at_69) rfl rfl) ?_
  show Goes p e below KK T13 (mkF m 70 #[.val (.int p1), .val (.int p2), .unset, .unset, .unset, .unset, .unset, .unset] [(.ref b1), (.ref b1)])
  refine Goes.of (fun t => XS.bipush X13.here hx rfl (hb hby at_70)) ?_
  show Goes p e below KK T13 (mkF m 72 #[.val (.int p1), .val (.int p2), .unset, .unset, .unset, .unset, .unset, .unset] [(.int (12 : Int32)), (.ref b1), (.ref b1)])
  refine Goes.of (X13.ldcInt hx hown (mvT hZ w_8) (g := (mkF m 72 #[.val (.int p1), .val (.int p2), .unset, .unset, .unset, .unset, .unset, .unset] [(.int (12 : Int32)), (.ref b1), (.ref b1)])) rfl (hb hby at_72)) ?_
  show Goes p e below KK T13 (mkF m 74 #[.val (.int p1), .val (.int p2), .unset, .unset, .unset, .unset, .unset, .unset] [(.int (1114111 : Int32)), (.int (12 : Int32)), (.ref b1), (.ref b1)])
  obtain ⟨T14, h14, X14, e14, W14, V14, st14⟩ := AI.iastore X13 hx hZ e13 V_b1_13 (i := 12) (j := (12 : Int32)) (rfl) ((by simp)) (g := (mkF m 74 #[.val (.int p1), .val (.int p2), .unset, .unset, .unset, .unset, .unset, .unset] [(.int (1114111 : Int32)), (.int (12 : Int32)), (.ref b1), (.ref b1)])) rfl rfl (hb hby at_74)
  refine Goes.of (st14) ?_
  have K14 : Keep h0 h14 [] := K13.wr W14 (Or.inr sz_b1)
  have Z14 : n0 ≤ h14.size := Nat.le_trans Z13 (Keep.of_wr W14).1
  have N14 := Fr.snoc X14 N13 g_b1
  have V_b1_14 : AI Z h14 b1 .int [(0 : Int32), (9 : Int32), (10 : Int32), (13 : Int32), (32 : Int32), (55295 : Int32), (55296 : Int32), (57343 : Int32), (57344 : Int32), (65533 : Int32), (65535 : Int32), (65536 : Int32), (1114111 : Int32), (0 : Int32), (0 : Int32), (0 : Int32)] := V14
  show Goes p e below KK T14 (mkF m 75 #[.val (.int p1), .val (.int p2), .unset, .unset, .unset, .unset, .unset, .unset] [(.ref b1)])
  refine Goes.of (fun t => XS.dup X14.here hx rfl (hb hby at_75) rfl rfl) ?_
  show Goes p e below KK T14 (mkF m 76 #[.val (.int p1), .val (.int p2), .unset, .unset, .unset, .unset, .unset, .unset] [(.ref b1), (.ref b1)])
  refine Goes.of (fun t => XS.bipush X14.here hx rfl (hb hby at_76)) ?_
  show Goes p e below KK T14 (mkF m 78 #[.val (.int p1), .val (.int p2), .unset, .unset, .unset, .unset, .unset, .unset] [(.int (13 : Int32)), (.ref b1), (.ref b1)])
  refine Goes.of (X14.ldcInt hx hown (mvT hZ w_9) (g := (mkF m 78 #[.val (.int p1), .val (.int p2), .unset, .unset, .unset, .unset, .unset, .unset] [(.int (13 : Int32)), (.ref b1), (.ref b1)])) rfl (hb hby at_78)) ?_
  show Goes p e below KK T14 (mkF m 80 #[.val (.int p1), .val (.int p2), .unset, .unset, .unset, .unset, .unset, .unset] [(.int (1114112 : Int32)), (.int (13 : Int32)), (.ref b1), (.ref b1)])
  obtain ⟨T15, h15, X15, e15, W15, V15, st15⟩ := AI.iastore X14 hx hZ e14 V_b1_14 (i := 13) (j := (13 : Int32)) (rfl) ((by simp)) (g := (mkF m 80 #[.val (.int p1), .val (.int p2), .unset, .unset, .unset, .unset, .unset, .unset] [(.int (1114112 : Int32)), (.int (13 : Int32)), (.ref b1), (.ref b1)])) rfl rfl (hb hby at_80)
  refine Goes.of (st15) ?_
  have K15 : Keep h0 h15 [] := K14.wr W15 (Or.inr sz_b1)
  have Z15 : n0 ≤ h15.size := Nat.le_trans Z14 (Keep.of_wr W15).1
  have N15 := Fr.snoc X15 N14 g_b1
  have V_b1_15 : AI Z h15 b1 .int [(0 : Int32), (9 : Int32), (10 : Int32), (13 : Int32), (32 : Int32), (55295 : Int32), (55296 : Int32), (57343 : Int32), (57344 : Int32), (65533 : Int32), (65535 : Int32), (65536 : Int32), (1114111 : Int32), (1114112 : Int32), (0 : Int32), (0 : Int32)] := V15
  show Goes p e below KK T15 (mkF m 81 #[.val (.int p1), .val (.int p2), .unset, .unset, .unset, .unset, .unset, .unset] [(.ref b1)])
  refine Goes.of (fun t => XS.dup X15.here hx rfl (hb hby at_81) rfl rfl) ?_
  show Goes p e below KK T15 (mkF m 82 #[.val (.int p1), .val (.int p2), .unset, .unset, .unset, .unset, .unset, .unset] [(.ref b1), (.ref b1)])
  refine Goes.of (fun t => XS.bipush X15.here hx rfl (hb hby at_82)) ?_
  show Goes p e below KK T15 (mkF m 84 #[.val (.int p1), .val (.int p2), .unset, .unset, .unset, .unset, .unset, .unset] [(.int (14 : Int32)), (.ref b1), (.ref b1)])
  refine Goes.of (X15.ldcInt hx hown (mvT hZ w_10) (g := (mkF m 84 #[.val (.int p1), .val (.int p2), .unset, .unset, .unset, .unset, .unset, .unset] [(.int (14 : Int32)), (.ref b1), (.ref b1)])) rfl (hb hby at_84)) ?_
  show Goes p e below KK T15 (mkF m 86 #[.val (.int p1), .val (.int p2), .unset, .unset, .unset, .unset, .unset, .unset] [(.int (-2147483648 : Int32)), (.int (14 : Int32)), (.ref b1), (.ref b1)])
  obtain ⟨T16, h16, X16, e16, W16, V16, st16⟩ := AI.iastore X15 hx hZ e15 V_b1_15 (i := 14) (j := (14 : Int32)) (rfl) ((by simp)) (g := (mkF m 86 #[.val (.int p1), .val (.int p2), .unset, .unset, .unset, .unset, .unset, .unset] [(.int (-2147483648 : Int32)), (.int (14 : Int32)), (.ref b1), (.ref b1)])) rfl rfl (hb hby at_86)
  refine Goes.of (st16) ?_
  have K16 : Keep h0 h16 [] := K15.wr W16 (Or.inr sz_b1)
  have Z16 : n0 ≤ h16.size := Nat.le_trans Z15 (Keep.of_wr W16).1
  have N16 := Fr.snoc X16 N15 g_b1
  have V_b1_16 : AI Z h16 b1 .int [(0 : Int32), (9 : Int32), (10 : Int32), (13 : Int32), (32 : Int32), (55295 : Int32), (55296 : Int32), (57343 : Int32), (57344 : Int32), (65533 : Int32), (65535 : Int32), (65536 : Int32), (1114111 : Int32), (1114112 : Int32), (-2147483648 : Int32), (0 : Int32)] := V16
  show Goes p e below KK T16 (mkF m 87 #[.val (.int p1), .val (.int p2), .unset, .unset, .unset, .unset, .unset, .unset] [(.ref b1)])
  refine Goes.of (fun t => XS.dup X16.here hx rfl (hb hby at_87) rfl rfl) ?_
  show Goes p e below KK T16 (mkF m 88 #[.val (.int p1), .val (.int p2), .unset, .unset, .unset, .unset, .unset, .unset] [(.ref b1), (.ref b1)])
  refine Goes.of (fun t => XS.bipush X16.here hx rfl (hb hby at_88)) ?_
  show Goes p e below KK T16 (mkF m 90 #[.val (.int p1), .val (.int p2), .unset, .unset, .unset, .unset, .unset, .unset] [(.int (15 : Int32)), (.ref b1), (.ref b1)])
  refine Goes.of (X16.ldcInt hx hown (mvT hZ w_11) (g := (mkF m 90 #[.val (.int p1), .val (.int p2), .unset, .unset, .unset, .unset, .unset, .unset] [(.int (15 : Int32)), (.ref b1), (.ref b1)])) rfl (hb hby at_90)) ?_
  show Goes p e below KK T16 (mkF m 92 #[.val (.int p1), .val (.int p2), .unset, .unset, .unset, .unset, .unset, .unset] [(.int (2147483647 : Int32)), (.int (15 : Int32)), (.ref b1), (.ref b1)])
  obtain ⟨T17, h17, X17, e17, W17, V17, st17⟩ := AI.iastore X16 hx hZ e16 V_b1_16 (i := 15) (j := (15 : Int32)) (rfl) ((by simp)) (g := (mkF m 92 #[.val (.int p1), .val (.int p2), .unset, .unset, .unset, .unset, .unset, .unset] [(.int (2147483647 : Int32)), (.int (15 : Int32)), (.ref b1), (.ref b1)])) rfl rfl (hb hby at_92)
  refine Goes.of (st17) ?_
  have K17 : Keep h0 h17 [] := K16.wr W17 (Or.inr sz_b1)
  have Z17 : n0 ≤ h17.size := Nat.le_trans Z16 (Keep.of_wr W17).1
  have N17 := Fr.snoc X17 N16 g_b1
  have V_b1_17 : AI Z h17 b1 .int [(0 : Int32), (9 : Int32), (10 : Int32), (13 : Int32), (32 : Int32), (55295 : Int32), (55296 : Int32), (57343 : Int32), (57344 : Int32), (65533 : Int32), (65535 : Int32), (65536 : Int32), (1114111 : Int32), (1114112 : Int32), (-2147483648 : Int32), (2147483647 : Int32)] := V17
  show Goes p e below KK T17 (mkF m 93 #[.val (.int p1), .val (.int p2), .unset, .unset, .unset, .unset, .unset, .unset] [(.ref b1)])
  refine Goes.of (fun t => XS.astoreN X17.here hx rfl (hb hby at_93) rfl rfl (l' := #[.val (.int p1), .val (.int p2), .val (.ref b1), .unset, .unset, .unset, .unset, .unset]) rfl) ?_
  show Goes p e below KK T17 (mkF m 94 #[.val (.int p1), .val (.int p2), .val (.ref b1), .unset, .unset, .unset, .unset, .unset] [])
  refine Goes.of (fun t => XS.iloadN X17.here hx rfl (hb hby at_94) rfl) ?_
  show Goes p e below KK T17 (mkF m 95 #[.val (.int p1), .val (.int p2), .val (.ref b1), .unset, .unset, .unset, .unset, .unset] [(.int p1)])
  refine Goes.of (fun t => XS.istoreN X17.here hx rfl (hb hby at_95) rfl (l' := #[.val (.int p1), .val (.int p2), .val (.ref b1), .val (.int p1), .unset, .unset, .unset, .unset]) rfl) ?_
  show Goes p e below KK T17 (mkF m 96 #[.val (.int p1), .val (.int p2), .val (.ref b1), .val (.int p1), .unset, .unset, .unset, .unset] [])
  refine Goes.of (fun t => XS.aloadN X17.here hx rfl (hb hby at_96) rfl rfl) ?_
  show Goes p e below KK T17 (mkF m 97 #[.val (.int p1), .val (.int p2), .val (.ref b1), .val (.int p1), .unset, .unset, .unset, .unset] [(.ref b1)])
  refine Goes.of (fun t => XS.iloadN X17.here hx rfl (hb hby at_97) rfl) ?_
  show Goes p e below KK T17 (mkF m 98 #[.val (.int p1), .val (.int p2), .val (.ref b1), .val (.int p1), .unset, .unset, .unset, .unset] [(.int p2), (.ref b1)])
  refine Goes.of (fun t => XS.bipush X17.here hx rfl (hb hby at_98)) ?_
  show Goes p e below KK T17 (mkF m 100 #[.val (.int p1), .val (.int p2), .val (.ref b1), .val (.int p1), .unset, .unset, .unset, .unset] [(.int (15 : Int32)), (.int p2), (.ref b1)])
  refine Goes.of (fun t => XS.iand X17.here hx rfl (hb hby at_100) rfl) ?_
  show Goes p e below KK T17 (mkF m 101 #[.val (.int p1), .val (.int p2), .val (.ref b1), .val (.int p1), .unset, .unset, .unset, .unset] [(.int (p2 &&& (15 : Int32))), (.ref b1)])
  have hi1 : (p2 &&& 15).toInt = p2.toInt % 2 ^ 4 := Jvm.Kit.i32_mask p2 15 (k := 4) (by decide) (by decide)
  have hi2 : (p2 &&& 15).toInt = (((p2 &&& 15).toInt.toNat : Nat) : Int) := by omega
  have hi3 : (p2 &&& 15).toInt.toNat < 16 := by omega
  obtain ⟨ed, hed⟩ : ∃ y, ([(0 : Int32), (9 : Int32), (10 : Int32), (13 : Int32), (32 : Int32), (55295 : Int32), (55296 : Int32), (57343 : Int32), (57344 : Int32), (65533 : Int32), (65535 : Int32), (65536 : Int32), (1114111 : Int32), (1114112 : Int32), (-2147483648 : Int32), (2147483647 : Int32)] : List Int32)[(p2 &&& 15).toInt.toNat]? = some y := ⟨_, List.getElem?_eq_getElem (show (p2 &&& 15).toInt.toNat < List.length ([(0 : Int32), (9 : Int32), (10 : Int32), (13 : Int32), (32 : Int32), (55295 : Int32), (55296 : Int32), (57343 : Int32), (57344 : Int32), (65533 : Int32), (65535 : Int32), (65536 : Int32), (1114111 : Int32), (1114112 : Int32), (-2147483648 : Int32), (2147483647 : Int32)] : List Int32) from hi3)⟩
  refine Goes.of (AI.iaload X17 hx hZ e17 V_b1_17 (i := (p2 &&& 15).toInt.toNat) (j := (p2 &&& (15 : Int32))) (x := ed) (hi2) (hed) (g := (mkF m 101 #[.val (.int p1), .val (.int p2), .val (.ref b1), .val (.int p1), .unset, .unset, .unset, .unset] [(.int (p2 &&& (15 : Int32))), (.ref b1)])) rfl rfl (hb hby at_101)) ?_
  show Goes p e below KK T17 (mkF m 102 #[.val (.int p1), .val (.int p2), .val (.ref b1), .val (.int p1), .unset, .unset, .unset, .unset] [(.int ed)])
  refine Goes.of (fun t => XS.iloadN X17.here hx rfl (hb hby at_102) rfl) ?_
  show Goes p e below KK T17 (mkF m 103 #[.val (.int p1), .val (.int p2), .val (.ref b1), .val (.int p1), .unset, .unset, .unset, .unset] [(.int p2), (.int ed)])
  refine Goes.of (fun t => XS.iconst X17.here hx rfl (hb hby at_103)) ?_
  show Goes p e below KK T17 (mkF m 104 #[.val (.int p1), .val (.int p2), .val (.ref b1), .val (.int p1), .unset, .unset, .unset, .unset] [(.int (4 : Int32)), (.int p2), (.int ed)])
  refine Goes.of (fun t => XT.ishr X17.here hx rfl (hb hby at_104) rfl) ?_
  show Goes p e below KK T17 (mkF m 105 #[.val (.int p1), .val (.int p2), .val (.ref b1), .val (.int p1), .unset, .unset, .unset, .unset] [(.int (p2 >>> ((4 : Int32) &&& 31))), (.int ed)])
  refine Goes.of (fun t => XS.bipush X17.here hx rfl (hb hby at_105)) ?_
  show Goes p e below KK T17 (mkF m 107 #[.val (.int p1), .val (.int p2), .val (.ref b1), .val (.int p1), .unset, .unset, .unset, .unset] [(.int (7 : Int32)), (.int (p2 >>> ((4 : Int32) &&& 31))), (.int ed)])
  refine Goes.of (fun t => XS.iand X17.here hx rfl (hb hby at_107) rfl) ?_
  show Goes p e below KK T17 (mkF m 108 #[.val (.int p1), .val (.int p2), .val (.ref b1), .val (.int p1), .unset, .unset, .unset, .unset] [(.int ((p2 >>> ((4 : Int32) &&& 31)) &&& (7 : Int32))), (.int ed)])
  refine Goes.of (fun t => XS.iadd X17.here hx rfl (hb hby at_108) rfl) ?_
  show Goes p e below KK T17 (mkF m 109 #[.val (.int p1), .val (.int p2), .val (.ref b1), .val (.int p1), .unset, .unset, .unset, .unset] [(.int (ed + ((p2 >>> ((4 : Int32) &&& 31)) &&& (7 : Int32))))])
  refine Goes.of (fun t => XS.iconst X17.here hx rfl (hb hby at_109)) ?_
  show Goes p e below KK T17 (mkF m 110 #[.val (.int p1), .val (.int p2), .val (.ref b1), .val (.int p1), .unset, .unset, .unset, .unset] [(.int (3 : Int32)), (.int (ed + ((p2 >>> ((4 : Int32) &&& 31)) &&& (7 : Int32))))])
  refine Goes.of (fun t => XS.isub X17.here hx rfl (hb hby at_110) rfl) ?_
  show Goes p e below KK T17 (mkF m 111 #[.val (.int p1), .val (.int p2), .val (.ref b1), .val (.int p1), .unset, .unset, .unset, .unset] [(.int ((ed + ((p2 >>> ((4 : Int32) &&& 31)) &&& (7 : Int32))) - (3 : Int32)))])
  generalize e_c2 : ((ed + ((p2 >>> ((4 : Int32) &&& 31)) &&& (7 : Int32))) - (3 : Int32)) = c2
  show Goes p e below KK T17 (mkF m 111 #[.val (.int p1), .val (.int p2), .val (.ref b1), .val (.int p1), .unset, .unset, .unset, .unset] [(.int c2)])
  refine Goes.of (fun t => XS.istore X17.here hx rfl (hb hby at_111) rfl (l' := #[.val (.int p1), .val (.int p2), .val (.ref b1), .val (.int p1), .val (.int c2), .unset, .unset, .unset]) rfl) ?_
  show Goes p e below KK T17 (mkF m 113 #[.val (.int p1), .val (.int p2), .val (.ref b1), .val (.int p1), .val (.int c2), .unset, .unset, .unset] [])
  refine Goes.of (fun t => XS.iloadN X17.here hx rfl (hb hby at_113) rfl) ?_
  show Goes p e below KK T17 (mkF m 114 #[.val (.int p1), .val (.int p2), .val (.ref b1), .val (.int p1), .val (.int c2), .unset, .unset, .unset] [(.int p1)])
  refine Goes.of (X17.ldcInt hx hown (mvT hZ w_12) (g := (mkF m 114 #[.val (.int p1), .val (.int p2), .val (.ref b1), .val (.int p1), .val (.int c2), .unset, .unset, .unset] [(.int p1)])) rfl (hb hby at_114)) ?_
  show Goes p e below KK T17 (mkF m 116 #[.val (.int p1), .val (.int p2), .val (.ref b1), .val (.int p1), .val (.int c2), .unset, .unset, .unset] [(.int (2097151 : Int32)), (.int p1)])
  refine Goes.of (fun t => XS.iand X17.here hx rfl (hb hby at_116) rfl) ?_
  show Goes p e below KK T17 (mkF m 117 #[.val (.int p1), .val (.int p2), .val (.ref b1), .val (.int p1), .val (.int c2), .unset, .unset, .unset] [(.int (p1 &&& (2097151 : Int32)))])
  generalize e_c3 : (p1 &&& (2097151 : Int32)) = c3
  show Goes p e below KK T17 (mkF m 117 #[.val (.int p1), .val (.int p2), .val (.ref b1), .val (.int p1), .val (.int c2), .unset, .unset, .unset] [(.int c3)])
  refine Goes.of (fun t => XS.istore X17.here hx rfl (hb hby at_117) rfl (l' := #[.val (.int p1), .val (.int p2), .val (.ref b1), .val (.int p1), .val (.int c2), .val (.int c3), .unset, .unset]) rfl) ?_
  show Goes p e below KK T17 (mkF m 119 #[.val (.int p1), .val (.int p2), .val (.ref b1), .val (.int p1), .val (.int c2), .val (.int c3), .unset, .unset] [])
  refine Goes.of (fun t => XS.iloadN X17.here hx rfl (hb hby at_119) rfl) ?_
  show Goes p e below KK T17 (mkF m 120 #[.val (.int p1), .val (.int p2), .val (.ref b1), .val (.int p1), .val (.int c2), .val (.int c3), .unset, .unset] [(.int p1)])
  refine Goes.of (X17.ldcInt hx hown (mvT hZ w_6) (g := (mkF m 120 #[.val (.int p1), .val (.int p2), .val (.ref b1), .val (.int p1), .val (.int c2), .val (.int c3), .unset, .unset] [(.int p1)])) rfl (hb hby at_120)) ?_
  show Goes p e below KK T17 (mkF m 122 #[.val (.int p1), .val (.int p2), .val (.ref b1), .val (.int p1), .val (.int c2), .val (.int c3), .unset, .unset] [(.int (65535 : Int32)), (.int p1)])
  refine Goes.of (fun t => XS.iand X17.here hx rfl (hb hby at_122) rfl) ?_
  show Goes p e below KK T17 (mkF m 123 #[.val (.int p1), .val (.int p2), .val (.ref b1), .val (.int p1), .val (.int c2), .val (.int c3), .unset, .unset] [(.int (p1 &&& (65535 : Int32)))])
  generalize e_c4 : (p1 &&& (65535 : Int32)) = c4
  show Goes p e below KK T17 (mkF m 123 #[.val (.int p1), .val (.int p2), .val (.ref b1), .val (.int p1), .val (.int c2), .val (.int c3), .unset, .unset] [(.int c4)])
  refine Goes.of (fun t => XS.istore X17.here hx rfl (hb hby at_123) rfl (l' := #[.val (.int p1), .val (.int p2), .val (.ref b1), .val (.int p1), .val (.int c2), .val (.int c3), .val (.int c4), .unset]) rfl) ?_
  show Goes p e below KK T17 (mkF m 125 #[.val (.int p1), .val (.int p2), .val (.ref b1), .val (.int p1), .val (.int c2), .val (.int c3), .val (.int c4), .unset] [])
  refine Goes.of (fun t => XS.iloadN X17.here hx rfl (hb hby at_125) rfl) ?_
  show Goes p e below KK T17 (mkF m 126 #[.val (.int p1), .val (.int p2), .val (.ref b1), .val (.int p1), .val (.int c2), .val (.int c3), .val (.int c4), .unset] [(.int p1)])
  refine Goes.of (fun t => XS.bipush X17.here hx rfl (hb hby at_126)) ?_
  show Goes p e below KK T17 (mkF m 128 #[.val (.int p1), .val (.int p2), .val (.ref b1), .val (.int p1), .val (.int c2), .val (.int c3), .val (.int c4), .unset] [(.int (63 : Int32)), (.int p1)])
  refine Goes.of (fun t => XS.iand X17.here hx rfl (hb hby at_128) rfl) ?_
  show Goes p e below KK T17 (mkF m 129 #[.val (.int p1), .val (.int p2), .val (.ref b1), .val (.int p1), .val (.int c2), .val (.int c3), .val (.int c4), .unset] [(.int (p1 &&& (63 : Int32)))])
  generalize e_c5 : (p1 &&& (63 : Int32)) = c5
  show Goes p e below KK T17 (mkF m 129 #[.val (.int p1), .val (.int p2), .val (.ref b1), .val (.int p1), .val (.int c2), .val (.int c3), .val (.int c4), .unset] [(.int c5)])
  refine Goes.of (fun t => XS.istore X17.here hx rfl (hb hby at_129) rfl (l' := #[.val (.int p1), .val (.int p2), .val (.ref b1), .val (.int p1), .val (.int c2), .val (.int c3), .val (.int c4), .val (.int c5)]) rfl) ?_
  show Goes p e below KK T17 (mkF m 131 #[.val (.int p1), .val (.int p2), .val (.ref b1), .val (.int p1), .val (.int c2), .val (.int c3), .val (.int c4), .val (.int c5)] [])
  refine Goes.of (fun t => XS.iloadN X17.here hx rfl (hb hby at_131) rfl) ?_
  show Goes p e below KK T17 (mkF m 132 #[.val (.int p1), .val (.int p2), .val (.ref b1), .val (.int p1), .val (.int c2), .val (.int c3), .val (.int c4), .val (.int c5)] [(.int p1)])
  obtain ⟨_, _, ⟨T18, L18, k18, n18⟩, -, X18, ⟨Lc18, hQ18, l18, y18, z18⟩, st18⟩ := Jvm.LawKit.callS X17 hx (y := (⟨"com/example/zahlwerk/zahlwerk/core/xml/Xml10Characters", "contains", "(I)Z"⟩ : MethodName)) hown (mvT hZ w_13) (mvT hZ w_14) (mvT hZ w_15) (mvT hZ w_16) (by decide) (backOf (W := 0) (rm1 l Z a0 hw [] p1  h17 n0 Z17 ) hZ w_16 w_15 (by decide) (by decide)) (g := (mkF m 132 #[.val (.int p1), .val (.int p2), .val (.ref b1), .val (.int p1), .val (.int c2), .val (.int c3), .val (.int c4), .val (.int c5)] [(.int p1)])) rfl (by rw [hml]; rfl) (argsL := [(.int p1)]) (rest := []) (lenOf pd_4 rfl) rfl (by show 2 * 0 + _ ≤ _; exact Nat.le_of_eq rfl) (hb hby at_132) (fun _ _ => ⟨rfl, e17, (by decide : 1 + 0 ≤ _), (by decide : 16 + 0 ≤ _)⟩)
  dsimp only [Pt.U, Pt.locs, Pt.cells, Pt.slots] at X18 l18 y18 z18 st18 hQ18
  subst y18 z18
  obtain ⟨hv18, N18q, e18⟩ := hQ18
  generalize e_r18 : f1 p1 = r18 at hv18
  subst hv18
  have N18 : Fr n0 L18 := by rw [l18]; exact Fr.app N17 N18q
  refine Goes.of st18 ?_
  show Goes p e below KK T18 (mkF m 135 #[.val (.int p1), .val (.int p2), .val (.ref b1), .val (.int p1), .val (.int c2), .val (.int c3), .val (.int c4), .val (.int c5)] [(.int r18)])
  refine Goes.of (fun t => XS.iloadN X18.here hx rfl (hb hby at_135) rfl) ?_
  show Goes p e below KK T18 (mkF m 136 #[.val (.int p1), .val (.int p2), .val (.ref b1), .val (.int p1), .val (.int c2), .val (.int c3), .val (.int c4), .val (.int c5)] [(.int p1), (.int r18)])
  obtain ⟨_, _, ⟨T19, L19, k19, n19⟩, -, X19, ⟨Lc19, hQ19, l19, y19, z19⟩, st19⟩ := Jvm.LawKit.callS X18 hx (y := (⟨"com/example/zahlwerk/zahlwerk/core/xml/Xml10CharactersContainsPinLaw", "ref", "(I)Z"⟩ : MethodName)) hown (mvT hZ w_19) (mvT hZ w_20) (mvT hZ w_21) (mvT hZ w_22) (by decide) (backOf (W := 1) (rm2 l Z a0 hw [] p1  h17 n0 Z17 ) hZ w_22 w_21 (by decide) (by decide)) (g := (mkF m 136 #[.val (.int p1), .val (.int p2), .val (.ref b1), .val (.int p1), .val (.int c2), .val (.int c3), .val (.int c4), .val (.int c5)] [(.int p1), (.int r18)])) rfl (by rw [hml]; rfl) (argsL := [(.int p1)]) (rest := [(.int r18)]) (lenOf pd_4 rfl) rfl (by show 2 * 0 + _ ≤ _; exact Nat.le_of_eq rfl) (hb hby at_136) (fun _ _ => ⟨rfl, e18, (by decide : 1 + 0 ≤ _), (by decide : 16 + 0 ≤ _)⟩)
  dsimp only [Pt.U, Pt.locs, Pt.cells, Pt.slots] at X19 l19 y19 z19 st19 hQ19
  subst y19 z19
  obtain ⟨hv19, N19q, e19⟩ := hQ19
  generalize e_r19 : f2 p1 = r19 at hv19
  subst hv19
  have N19 : Fr n0 L19 := by rw [l19]; exact Fr.app N18 N19q
  refine Goes.of st19 ?_
  show Goes p e below KK T19 (mkF m 139 #[.val (.int p1), .val (.int p2), .val (.ref b1), .val (.int p1), .val (.int c2), .val (.int c3), .val (.int c4), .val (.int c5)] [(.int r19), (.int r18)])
  refine Goes.of (fun t => XS.icmpNo X19.here hx rfl (hb hby at_139) rfl (teq (show r18 = r19 from (e_r18.symm.trans ((own_law p1).trans e_r19)))).2) ?_
  show Goes p e below KK T19 (mkF m 142 #[.val (.int p1), .val (.int p2), .val (.ref b1), .val (.int p1), .val (.int c2), .val (.int c3), .val (.int c4), .val (.int c5)] [])
  refine Goes.of (fun t => XS.iload X19.here hx rfl (hb hby at_142) rfl) ?_
  show Goes p e below KK T19 (mkF m 144 #[.val (.int p1), .val (.int p2), .val (.ref b1), .val (.int p1), .val (.int c2), .val (.int c3), .val (.int c4), .val (.int c5)] [(.int c2)])
  obtain ⟨_, _, ⟨T20, L20, k20, n20⟩, -, X20, ⟨Lc20, hQ20, l20, y20, z20⟩, st20⟩ := Jvm.LawKit.callS X19 hx (y := (⟨"com/example/zahlwerk/zahlwerk/core/xml/Xml10Characters", "contains", "(I)Z"⟩ : MethodName)) hown (mvT hZ w_13) (mvT hZ w_14) (mvT hZ w_15) (mvT hZ w_16) (by decide) (backOf (W := 0) (rm1 l Z a0 hw [] c2  h17 n0 Z17 ) hZ w_16 w_15 (by decide) (by decide)) (g := (mkF m 144 #[.val (.int p1), .val (.int p2), .val (.ref b1), .val (.int p1), .val (.int c2), .val (.int c3), .val (.int c4), .val (.int c5)] [(.int c2)])) rfl (by rw [hml]; rfl) (argsL := [(.int c2)]) (rest := []) (lenOf pd_4 rfl) rfl (by show 2 * 0 + _ ≤ _; exact Nat.le_of_eq rfl) (hb hby at_144) (fun _ _ => ⟨rfl, e19, (by decide : 1 + 0 ≤ _), (by decide : 16 + 0 ≤ _)⟩)
  dsimp only [Pt.U, Pt.locs, Pt.cells, Pt.slots] at X20 l20 y20 z20 st20 hQ20
  subst y20 z20
  obtain ⟨hv20, N20q, e20⟩ := hQ20
  generalize e_r20 : f1 c2 = r20 at hv20
  subst hv20
  have N20 : Fr n0 L20 := by rw [l20]; exact Fr.app N19 N20q
  refine Goes.of st20 ?_
  show Goes p e below KK T20 (mkF m 147 #[.val (.int p1), .val (.int p2), .val (.ref b1), .val (.int p1), .val (.int c2), .val (.int c3), .val (.int c4), .val (.int c5)] [(.int r20)])
  refine Goes.of (fun t => XS.iload X20.here hx rfl (hb hby at_147) rfl) ?_
  show Goes p e below KK T20 (mkF m 149 #[.val (.int p1), .val (.int p2), .val (.ref b1), .val (.int p1), .val (.int c2), .val (.int c3), .val (.int c4), .val (.int c5)] [(.int c2), (.int r20)])
  obtain ⟨_, _, ⟨T21, L21, k21, n21⟩, -, X21, ⟨Lc21, hQ21, l21, y21, z21⟩, st21⟩ := Jvm.LawKit.callS X20 hx (y := (⟨"com/example/zahlwerk/zahlwerk/core/xml/Xml10CharactersContainsPinLaw", "ref", "(I)Z"⟩ : MethodName)) hown (mvT hZ w_19) (mvT hZ w_20) (mvT hZ w_21) (mvT hZ w_22) (by decide) (backOf (W := 1) (rm2 l Z a0 hw [] c2  h17 n0 Z17 ) hZ w_22 w_21 (by decide) (by decide)) (g := (mkF m 149 #[.val (.int p1), .val (.int p2), .val (.ref b1), .val (.int p1), .val (.int c2), .val (.int c3), .val (.int c4), .val (.int c5)] [(.int c2), (.int r20)])) rfl (by rw [hml]; rfl) (argsL := [(.int c2)]) (rest := [(.int r20)]) (lenOf pd_4 rfl) rfl (by show 2 * 0 + _ ≤ _; exact Nat.le_of_eq rfl) (hb hby at_149) (fun _ _ => ⟨rfl, e20, (by decide : 1 + 0 ≤ _), (by decide : 16 + 0 ≤ _)⟩)
  dsimp only [Pt.U, Pt.locs, Pt.cells, Pt.slots] at X21 l21 y21 z21 st21 hQ21
  subst y21 z21
  obtain ⟨hv21, N21q, e21⟩ := hQ21
  generalize e_r21 : f2 c2 = r21 at hv21
  subst hv21
  have N21 : Fr n0 L21 := by rw [l21]; exact Fr.app N20 N21q
  refine Goes.of st21 ?_
  show Goes p e below KK T21 (mkF m 152 #[.val (.int p1), .val (.int p2), .val (.ref b1), .val (.int p1), .val (.int c2), .val (.int c3), .val (.int c4), .val (.int c5)] [(.int r21), (.int r20)])
  refine Goes.of (fun t => XS.icmpNo X21.here hx rfl (hb hby at_152) rfl (teq (show r20 = r21 from (e_r20.symm.trans ((own_law c2).trans e_r21)))).2) ?_
  show Goes p e below KK T21 (mkF m 155 #[.val (.int p1), .val (.int p2), .val (.ref b1), .val (.int p1), .val (.int c2), .val (.int c3), .val (.int c4), .val (.int c5)] [])
  refine Goes.of (fun t => XS.iload X21.here hx rfl (hb hby at_155) rfl) ?_
  show Goes p e below KK T21 (mkF m 157 #[.val (.int p1), .val (.int p2), .val (.ref b1), .val (.int p1), .val (.int c2), .val (.int c3), .val (.int c4), .val (.int c5)] [(.int c3)])
  obtain ⟨_, _, ⟨T22, L22, k22, n22⟩, -, X22, ⟨Lc22, hQ22, l22, y22, z22⟩, st22⟩ := Jvm.LawKit.callS X21 hx (y := (⟨"com/example/zahlwerk/zahlwerk/core/xml/Xml10Characters", "contains", "(I)Z"⟩ : MethodName)) hown (mvT hZ w_13) (mvT hZ w_14) (mvT hZ w_15) (mvT hZ w_16) (by decide) (backOf (W := 0) (rm1 l Z a0 hw [] c3  h17 n0 Z17 ) hZ w_16 w_15 (by decide) (by decide)) (g := (mkF m 157 #[.val (.int p1), .val (.int p2), .val (.ref b1), .val (.int p1), .val (.int c2), .val (.int c3), .val (.int c4), .val (.int c5)] [(.int c3)])) rfl (by rw [hml]; rfl) (argsL := [(.int c3)]) (rest := []) (lenOf pd_4 rfl) rfl (by show 2 * 0 + _ ≤ _; exact Nat.le_of_eq rfl) (hb hby at_157) (fun _ _ => ⟨rfl, e21, (by decide : 1 + 0 ≤ _), (by decide : 16 + 0 ≤ _)⟩)
  dsimp only [Pt.U, Pt.locs, Pt.cells, Pt.slots] at X22 l22 y22 z22 st22 hQ22
  subst y22 z22
  obtain ⟨hv22, N22q, e22⟩ := hQ22
  generalize e_r22 : f1 c3 = r22 at hv22
  subst hv22
  have N22 : Fr n0 L22 := by rw [l22]; exact Fr.app N21 N22q
  refine Goes.of st22 ?_
  show Goes p e below KK T22 (mkF m 160 #[.val (.int p1), .val (.int p2), .val (.ref b1), .val (.int p1), .val (.int c2), .val (.int c3), .val (.int c4), .val (.int c5)] [(.int r22)])
  refine Goes.of (fun t => XS.iload X22.here hx rfl (hb hby at_160) rfl) ?_
  show Goes p e below KK T22 (mkF m 162 #[.val (.int p1), .val (.int p2), .val (.ref b1), .val (.int p1), .val (.int c2), .val (.int c3), .val (.int c4), .val (.int c5)] [(.int c3), (.int r22)])
  obtain ⟨_, _, ⟨T23, L23, k23, n23⟩, -, X23, ⟨Lc23, hQ23, l23, y23, z23⟩, st23⟩ := Jvm.LawKit.callS X22 hx (y := (⟨"com/example/zahlwerk/zahlwerk/core/xml/Xml10CharactersContainsPinLaw", "ref", "(I)Z"⟩ : MethodName)) hown (mvT hZ w_19) (mvT hZ w_20) (mvT hZ w_21) (mvT hZ w_22) (by decide) (backOf (W := 1) (rm2 l Z a0 hw [] c3  h17 n0 Z17 ) hZ w_22 w_21 (by decide) (by decide)) (g := (mkF m 162 #[.val (.int p1), .val (.int p2), .val (.ref b1), .val (.int p1), .val (.int c2), .val (.int c3), .val (.int c4), .val (.int c5)] [(.int c3), (.int r22)])) rfl (by rw [hml]; rfl) (argsL := [(.int c3)]) (rest := [(.int r22)]) (lenOf pd_4 rfl) rfl (by show 2 * 0 + _ ≤ _; exact Nat.le_of_eq rfl) (hb hby at_162) (fun _ _ => ⟨rfl, e22, (by decide : 1 + 0 ≤ _), (by decide : 16 + 0 ≤ _)⟩)
  dsimp only [Pt.U, Pt.locs, Pt.cells, Pt.slots] at X23 l23 y23 z23 st23 hQ23
  subst y23 z23
  obtain ⟨hv23, N23q, e23⟩ := hQ23
  generalize e_r23 : f2 c3 = r23 at hv23
  subst hv23
  have N23 : Fr n0 L23 := by rw [l23]; exact Fr.app N22 N23q
  refine Goes.of st23 ?_
  show Goes p e below KK T23 (mkF m 165 #[.val (.int p1), .val (.int p2), .val (.ref b1), .val (.int p1), .val (.int c2), .val (.int c3), .val (.int c4), .val (.int c5)] [(.int r23), (.int r22)])
  refine Goes.of (fun t => XS.icmpNo X23.here hx rfl (hb hby at_165) rfl (teq (show r22 = r23 from (e_r22.symm.trans ((own_law c3).trans e_r23)))).2) ?_
  show Goes p e below KK T23 (mkF m 168 #[.val (.int p1), .val (.int p2), .val (.ref b1), .val (.int p1), .val (.int c2), .val (.int c3), .val (.int c4), .val (.int c5)] [])
  refine Goes.of (fun t => XS.iload X23.here hx rfl (hb hby at_168) rfl) ?_
  show Goes p e below KK T23 (mkF m 170 #[.val (.int p1), .val (.int p2), .val (.ref b1), .val (.int p1), .val (.int c2), .val (.int c3), .val (.int c4), .val (.int c5)] [(.int c4)])
  obtain ⟨_, _, ⟨T24, L24, k24, n24⟩, -, X24, ⟨Lc24, hQ24, l24, y24, z24⟩, st24⟩ := Jvm.LawKit.callS X23 hx (y := (⟨"com/example/zahlwerk/zahlwerk/core/xml/Xml10Characters", "contains", "(I)Z"⟩ : MethodName)) hown (mvT hZ w_13) (mvT hZ w_14) (mvT hZ w_15) (mvT hZ w_16) (by decide) (backOf (W := 0) (rm1 l Z a0 hw [] c4  h17 n0 Z17 ) hZ w_16 w_15 (by decide) (by decide)) (g := (mkF m 170 #[.val (.int p1), .val (.int p2), .val (.ref b1), .val (.int p1), .val (.int c2), .val (.int c3), .val (.int c4), .val (.int c5)] [(.int c4)])) rfl (by rw [hml]; rfl) (argsL := [(.int c4)]) (rest := []) (lenOf pd_4 rfl) rfl (by show 2 * 0 + _ ≤ _; exact Nat.le_of_eq rfl) (hb hby at_170) (fun _ _ => ⟨rfl, e23, (by decide : 1 + 0 ≤ _), (by decide : 16 + 0 ≤ _)⟩)
  dsimp only [Pt.U, Pt.locs, Pt.cells, Pt.slots] at X24 l24 y24 z24 st24 hQ24
  subst y24 z24
  obtain ⟨hv24, N24q, e24⟩ := hQ24
  generalize e_r24 : f1 c4 = r24 at hv24
  subst hv24
  have N24 : Fr n0 L24 := by rw [l24]; exact Fr.app N23 N24q
  refine Goes.of st24 ?_
  show Goes p e below KK T24 (mkF m 173 #[.val (.int p1), .val (.int p2), .val (.ref b1), .val (.int p1), .val (.int c2), .val (.int c3), .val (.int c4), .val (.int c5)] [(.int r24)])
  refine Goes.of (fun t => XS.iload X24.here hx rfl (hb hby at_173) rfl) ?_
  show Goes p e below KK T24 (mkF m 175 #[.val (.int p1), .val (.int p2), .val (.ref b1), .val (.int p1), .val (.int c2), .val (.int c3), .val (.int c4), .val (.int c5)] [(.int c4), (.int r24)])
  obtain ⟨_, _, ⟨T25, L25, k25, n25⟩, -, X25, ⟨Lc25, hQ25, l25, y25, z25⟩, st25⟩ := Jvm.LawKit.callS X24 hx (y := (⟨"com/example/zahlwerk/zahlwerk/core/xml/Xml10CharactersContainsPinLaw", "ref", "(I)Z"⟩ : MethodName)) hown (mvT hZ w_19) (mvT hZ w_20) (mvT hZ w_21) (mvT hZ w_22) (by decide) (backOf (W := 1) (rm2 l Z a0 hw [] c4  h17 n0 Z17 ) hZ w_22 w_21 (by decide) (by decide)) (g := (mkF m 175 #[.val (.int p1), .val (.int p2), .val (.ref b1), .val (.int p1), .val (.int c2), .val (.int c3), .val (.int c4), .val (.int c5)] [(.int c4), (.int r24)])) rfl (by rw [hml]; rfl) (argsL := [(.int c4)]) (rest := [(.int r24)]) (lenOf pd_4 rfl) rfl (by show 2 * 0 + _ ≤ _; exact Nat.le_of_eq rfl) (hb hby at_175) (fun _ _ => ⟨rfl, e24, (by decide : 1 + 0 ≤ _), (by decide : 16 + 0 ≤ _)⟩)
  dsimp only [Pt.U, Pt.locs, Pt.cells, Pt.slots] at X25 l25 y25 z25 st25 hQ25
  subst y25 z25
  obtain ⟨hv25, N25q, e25⟩ := hQ25
  generalize e_r25 : f2 c4 = r25 at hv25
  subst hv25
  have N25 : Fr n0 L25 := by rw [l25]; exact Fr.app N24 N25q
  refine Goes.of st25 ?_
  show Goes p e below KK T25 (mkF m 178 #[.val (.int p1), .val (.int p2), .val (.ref b1), .val (.int p1), .val (.int c2), .val (.int c3), .val (.int c4), .val (.int c5)] [(.int r25), (.int r24)])
  refine Goes.of (fun t => XS.icmpNo X25.here hx rfl (hb hby at_178) rfl (teq (show r24 = r25 from (e_r24.symm.trans ((own_law c4).trans e_r25)))).2) ?_
  show Goes p e below KK T25 (mkF m 181 #[.val (.int p1), .val (.int p2), .val (.ref b1), .val (.int p1), .val (.int c2), .val (.int c3), .val (.int c4), .val (.int c5)] [])
  refine Goes.of (fun t => XS.iload X25.here hx rfl (hb hby at_181) rfl) ?_
  show Goes p e below KK T25 (mkF m 183 #[.val (.int p1), .val (.int p2), .val (.ref b1), .val (.int p1), .val (.int c2), .val (.int c3), .val (.int c4), .val (.int c5)] [(.int c5)])
  obtain ⟨_, _, ⟨T26, L26, k26, n26⟩, -, X26, ⟨Lc26, hQ26, l26, y26, z26⟩, st26⟩ := Jvm.LawKit.callS X25 hx (y := (⟨"com/example/zahlwerk/zahlwerk/core/xml/Xml10Characters", "contains", "(I)Z"⟩ : MethodName)) hown (mvT hZ w_13) (mvT hZ w_14) (mvT hZ w_15) (mvT hZ w_16) (by decide) (backOf (W := 0) (rm1 l Z a0 hw [] c5  h17 n0 Z17 ) hZ w_16 w_15 (by decide) (by decide)) (g := (mkF m 183 #[.val (.int p1), .val (.int p2), .val (.ref b1), .val (.int p1), .val (.int c2), .val (.int c3), .val (.int c4), .val (.int c5)] [(.int c5)])) rfl (by rw [hml]; rfl) (argsL := [(.int c5)]) (rest := []) (lenOf pd_4 rfl) rfl (by show 2 * 0 + _ ≤ _; exact Nat.le_of_eq rfl) (hb hby at_183) (fun _ _ => ⟨rfl, e25, (by decide : 1 + 0 ≤ _), (by decide : 16 + 0 ≤ _)⟩)
  dsimp only [Pt.U, Pt.locs, Pt.cells, Pt.slots] at X26 l26 y26 z26 st26 hQ26
  subst y26 z26
  obtain ⟨hv26, N26q, e26⟩ := hQ26
  generalize e_r26 : f1 c5 = r26 at hv26
  subst hv26
  have N26 : Fr n0 L26 := by rw [l26]; exact Fr.app N25 N26q
  refine Goes.of st26 ?_
  show Goes p e below KK T26 (mkF m 186 #[.val (.int p1), .val (.int p2), .val (.ref b1), .val (.int p1), .val (.int c2), .val (.int c3), .val (.int c4), .val (.int c5)] [(.int r26)])
  refine Goes.of (fun t => XS.iload X26.here hx rfl (hb hby at_186) rfl) ?_
  show Goes p e below KK T26 (mkF m 188 #[.val (.int p1), .val (.int p2), .val (.ref b1), .val (.int p1), .val (.int c2), .val (.int c3), .val (.int c4), .val (.int c5)] [(.int c5), (.int r26)])
  obtain ⟨_, _, ⟨T27, L27, k27, n27⟩, -, X27, ⟨Lc27, hQ27, l27, y27, z27⟩, st27⟩ := Jvm.LawKit.callS X26 hx (y := (⟨"com/example/zahlwerk/zahlwerk/core/xml/Xml10CharactersContainsPinLaw", "ref", "(I)Z"⟩ : MethodName)) hown (mvT hZ w_19) (mvT hZ w_20) (mvT hZ w_21) (mvT hZ w_22) (by decide) (backOf (W := 1) (rm2 l Z a0 hw [] c5  h17 n0 Z17 ) hZ w_22 w_21 (by decide) (by decide)) (g := (mkF m 188 #[.val (.int p1), .val (.int p2), .val (.ref b1), .val (.int p1), .val (.int c2), .val (.int c3), .val (.int c4), .val (.int c5)] [(.int c5), (.int r26)])) rfl (by rw [hml]; rfl) (argsL := [(.int c5)]) (rest := [(.int r26)]) (lenOf pd_4 rfl) rfl (by show 2 * 0 + _ ≤ _; exact Nat.le_of_eq rfl) (hb hby at_188) (fun _ _ => ⟨rfl, e26, (by decide : 1 + 0 ≤ _), (by decide : 16 + 0 ≤ _)⟩)
  dsimp only [Pt.U, Pt.locs, Pt.cells, Pt.slots] at X27 l27 y27 z27 st27 hQ27
  subst y27 z27
  obtain ⟨hv27, N27q, e27⟩ := hQ27
  generalize e_r27 : f2 c5 = r27 at hv27
  subst hv27
  have N27 : Fr n0 L27 := by rw [l27]; exact Fr.app N26 N27q
  refine Goes.of st27 ?_
  show Goes p e below KK T27 (mkF m 191 #[.val (.int p1), .val (.int p2), .val (.ref b1), .val (.int p1), .val (.int c2), .val (.int c3), .val (.int c4), .val (.int c5)] [(.int r27), (.int r26)])
  refine Goes.of (fun t => XS.icmpNo X27.here hx rfl (hb hby at_191) rfl (teq (show r26 = r27 from (e_r26.symm.trans ((own_law c5).trans e_r27)))).2) ?_
  show Goes p e below KK T27 (mkF m 194 #[.val (.int p1), .val (.int p2), .val (.ref b1), .val (.int p1), .val (.int c2), .val (.int c3), .val (.int c4), .val (.int c5)] [])
  refine Goes.of (fun t => XS.iconst X27.here hx rfl (hb hby at_194)) ?_
  show Goes p e below KK T27 (mkF m 195 #[.val (.int p1), .val (.int p2), .val (.ref b1), .val (.int p1), .val (.int c2), .val (.int c3), .val (.int c4), .val (.int c5)] [(.int (1 : Int32))])
  refine Goes.of (fun t => XS.goto X27.here hx rfl (pc0 := 195) (pc' := 199) rfl (hb hby at_195) (by decide) (by decide)) ?_
  show Goes p e below KK T27 (mkF m 199 #[.val (.int p1), .val (.int p2), .val (.ref b1), .val (.int p1), .val (.int c2), .val (.int c3), .val (.int c4), .val (.int c5)] [(.int (1 : Int32))])
  rw [← hKK]
  refine Goes.retNar X27 hx hlk (t := .boolean) (by simp) Bd.returns (hb hby at_199) ?_ (by decide) (by decide)
  rw [e27]
  exact ⟨rfl, N27⟩
set_option maxRecDepth 65536 in
set_option maxHeartbeats 40000000 in
theorem comes_1 {Post : Tables → Env → Array Value → State → Outcome → State → Prop} (hpost : ∀ tb e args s v u, (limb_1_1.after args s (.returned v) u = true ∧ limb_1_2.after args s (.returned v) u = true ∧ True) → FrameEnd s (.returned v) u (Jvm.fieldLocs frame_1_writes args s ++ Jvm.arrayLocs frame_1_arrays args s ++ Jvm.staticLocs frame_1_statics s) 16 128 → Post tb e args s (.returned v) u) :
    ArmFor flags0 classFile x code maxLocals ret World_1 tables_1 room_1 Calls_1 rest_1 Pre_1 Post := by
  intro l hfl _ _ p e ha hc hk s m args below hf hA hF happ hP
  obtain ⟨hcalls, hrest, hpre⟩ := hP
  obtain ⟨-, -, -, hnamed, -, -, -, hat⟩ := (Spec.applies_iff hf).mp happ
  obtain ⟨hg, hn⟩ := and_e (Cond.before_iff.mp (show (Jvm.Cond.and given_1 narrow_1).before args s = true from hpre))
  obtain ⟨hgc, hr0⟩ := and_e hg
  obtain ⟨hg0, hr1⟩ := and_e hr0
  have hg1 := hr1
  obtain ⟨w0, w1, rfl⟩ : ∃ w0 w1 : Value, args = #[w0, w1] := by
    have hs : args.size = 2 := by simpa [Cond.value, given_1] using hgc
    obtain ⟨L⟩ := args
    match L, hs with
    | [w0, w1], _ => exact ⟨w0, w1, rfl⟩
  have hw := fun d (hd : d ∈ tables_1) => atoms_spec (ws := Jvm.Cond.code x code maxLocals ret :: tables_1) hat d (List.mem_cons_of_mem _ hd)
  have hfit : Fit s := fun {y c} hc i hi => by
    obtain ⟨ha, rfl⟩ := Array.getElem?_eq_some_iff.mp hc
    have q := List.all_eq_true.mp ((Array.all_eq_true_iff_forall_mem.mp hF) _ (Array.getElem_mem ha)) i (List.mem_range.mpr hi)
    simpa [Array.getElem?_eq_getElem hi] using q
  obtain ⟨i0, ei0⟩ := is_v hg0
  obtain rfl : w0 = (.int i0) := Option.some.inj ei0
  obtain ⟨i1, ei1⟩ := is_v hg1
  obtain rfl : w1 = (.int i1) := Option.some.inj ei1
  obtain ⟨n, o, h1, h2, h3, _, L, rfl, ⟨rfl, N⟩, hq⟩ := rm0 l s _ hw tables_1 i0 i1  s.heap s.heap.size (Nat.le_refl _)  p e ha hc hk s m _ below hf ((Spec.applies_iff_loose hf).mp happ).1 ⟨rfl, State.Warmed39.refl s, rfl⟩ trivial
  refine ⟨n, _, h1, h2, h3, hpost _ _ _ _ _ _ ⟨Cond.after_iff.mpr rfl, Cond.after_iff.mpr (eq_i res_at (Term.int_eval (1)) rfl), trivial⟩ ⟨hq.1, hq.2.1, (hq.2.2.sift fun y hy => Or.inr (N y hy)).mono (by decide) (by decide)⟩⟩
theorem main_1_1 : Claimed_1_1 := comes_1 fun _ _ _ _ _ _ h hF => ⟨h.1, hF⟩
theorem main_1_2 : Claimed_1_2 := comes_1 fun _ _ _ _ _ _ h hF => ⟨h.2.1, hF⟩
end Jvm.Pilot.@@N@@
namespace Jvm.Pilot.@@N@@
open Jvm Jvm.ClassFile Sem Op Lib Jvm.Free Jvm.Stand Jvm.Pilot.@@N@@.Jvm.D
/-! MADE BY PROGRAM (witnessworld.py) out of the Statement's table words and the real class files: 9 classes; the members and pool entries that the words name. The judged class is class 1, her method 2. -/
namespace start1
open Jvm.ClassFile
def u (s : String) : CpInfo := .utf8 (stringToUtf16 s)
/-- a pool by its gaps: so many unusable entries, then the entry; so many at the end -/
def gap : Nat → List CpInfo → List CpInfo
  | 0, r => r
  | n + 1, r => .unusable :: gap n r
def poolList (es : List (Nat × CpInfo)) (last : Nat) : List CpInfo := es.foldr (fun e r => gap e.1 (e.2 :: r)) (gap last [])
def pool (es : List (Nat × CpInfo)) (last : Nat) : Array CpInfo := ⟨poolList es last⟩
def fileOf (pool : Array CpInfo) (this : Nat) (attrs : Array Attribute := #[]) (ms : Array MethodInfo := #[]) (fl : Nat := 33) (sup : Nat := 0) (ifs : Array Nat := #[]) (fds : Array FieldInfo := #[]) : ClassFile where
  minorVersion := 0
  majorVersion := 65
  constantPool := pool
  accessFlags := fl
  thisClass := this
  superClass := sup
  interfaces := ifs
  fields := fds
  methods := ms
  attributes := attrs
def plain (name : String) (sup : Option ClassId) : Class where
  name := name
  kind := .ordinary
  loader := none
  accessFlags := 33
  super := sup
  interfaces := #[]
  cf := none
  fields := #[]
  methods := #[]
  instanceTypes := #[]
  staticTypes := #[]
  resolved := #[]
  callSites := []
  init := .initialized
  statics := none
  mirror := none

def pool0 : Array CpInfo := pool [(5, u "<init>"), (0, u "()V"), (1, .class_ 10), (1, u "java/lang/Object")] 113

def k0m0 : Method := { name := "<init>", desc := "()V", sig := { parameters := [], returnType := none }, accessFlags := 1, code := none }
/-- java/lang/Object -/
def k0 : Class := { plain "java/lang/Object" none with
  accessFlags := 33
  interfaces := #[]
  cf := some (fileOf pool0 8 #[] #[{ accessFlags := 1, nameIndex := 5, descriptorIndex := 6, attributes := #[] }] 33 0 #[] #[])
  fields := #[]
  methods := #[k0m0]
  instanceTypes := #[]
  staticTypes := #[]
  resolved := Array.replicate 124 none
  statics := none }

def pool1 : Array CpInfo := pool [(2, .class_ 4), (1, u "java/lang/Object"), (0, u "<init>"), (0, u "()V"), (0, .integer 1114111), (0, .integer 55296), (0, .integer 57343), (0, .integer 65534), (0, .integer 65535), (0, .integer 55295), (0, .integer 57344), (0, .integer 65533), (0, .integer 65536), (0, .integer 1114112), (0, .integer 2147483648), (0, .integer 2147483647), (0, .integer 2097151), (0, .methodref 21 22), (0, .class_ 23), (0, .nameAndType 24 25), (0, u "com/example/zahlwerk/zahlwerk/core/xml/Xml10Characters"), (0, u "contains"), (0, u "(I)Z"), (0, .methodref 27 28), (0, .class_ 29), (0, .nameAndType 30 25), (0, u "com/example/zahlwerk/zahlwerk/core/xml/Xml10CharactersContainsPinLaw"), (0, u "ref"), (3, u "law"), (0, u "(II)Z")] 4

def k1m0 : Method := { name := "<init>", desc := "()V", sig := { parameters := [], returnType := none }, accessFlags := 2, code := none }
def k1c1 : Code := { maxStack := 2, maxLocals := 1, code := method_2_code, exceptionTable := #[], attributes := #[] }
def k1m1 : Method := { name := "ref", desc := "(I)Z", sig := { parameters := [.int], returnType := some .boolean }, accessFlags := 10, code := some k1c1 }
def k1c2 : Code := { maxStack := 4, maxLocals := 8, code := code, exceptionTable := #[], attributes := #[] }
def k1m2 : Method := { name := "law", desc := "(II)Z", sig := { parameters := [.int, .int], returnType := some .boolean }, accessFlags := 9, code := some k1c2 }
/-- com/example/zahlwerk/zahlwerk/core/xml/Xml10CharactersContainsPinLaw -/
def k1 : Class := { plain "com/example/zahlwerk/zahlwerk/core/xml/Xml10CharactersContainsPinLaw" (some 0) with
  accessFlags := 49
  interfaces := #[]
  cf := some (fileOf pool1 27 #[] #[{ accessFlags := 2, nameIndex := 5, descriptorIndex := 6, attributes := #[] }, { accessFlags := 10, nameIndex := 30, descriptorIndex := 25, attributes := #[] }, { accessFlags := 9, nameIndex := 34, descriptorIndex := 35, attributes := #[] }] 49 2 #[] #[])
  fields := #[]
  methods := #[k1m0, k1m1, k1m2]
  instanceTypes := #[]
  staticTypes := #[]
  resolved := Array.replicate 40 none
  statics := none }

def pool2 : Array CpInfo := pool [(2, .class_ 4), (1, u "java/lang/Object"), (0, u "<init>"), (0, u "()V"), (0, .integer 55295), (0, .integer 57344), (0, .integer 65533), (0, .integer 65536), (2, .integer 1114111), (0, .class_ 15), (0, u "com/example/zahlwerk/zahlwerk/core/xml/Xml10Characters"), (2, u "contains"), (0, u "(I)Z")] 3

def k2m0 : Method := { name := "<init>", desc := "()V", sig := { parameters := [], returnType := none }, accessFlags := 2, code := none }
def k2c1 : Code := { maxStack := 2, maxLocals := 1, code := prog_129_method_2_code, exceptionTable := #[], attributes := #[] }
def k2m1 : Method := { name := "contains", desc := "(I)Z", sig := { parameters := [.int], returnType := some .boolean }, accessFlags := 9, code := some k2c1 }
/-- com/example/zahlwerk/zahlwerk/core/xml/Xml10Characters -/
def k2 : Class := { plain "com/example/zahlwerk/zahlwerk/core/xml/Xml10Characters" (some 0) with
  accessFlags := 49
  interfaces := #[]
  cf := some (fileOf pool2 14 #[] #[{ accessFlags := 2, nameIndex := 5, descriptorIndex := 6, attributes := #[] }, { accessFlags := 9, nameIndex := 18, descriptorIndex := 19, attributes := #[] }] 49 2 #[] #[])
  fields := #[]
  methods := #[k2m0, k2m1]
  instanceTypes := #[]
  staticTypes := #[]
  resolved := Array.replicate 23 none
  statics := none }

def pool3 : Array CpInfo := pool [(1, u "java/lang/Cloneable"), (0, .class_ 1), (0, u "java/lang/Object"), (0, .class_ 3)] 3

/-- java/lang/Cloneable -/
def k3 : Class := { plain "java/lang/Cloneable" (some 0) with
  accessFlags := 1537
  interfaces := #[]
  cf := some (fileOf pool3 2 #[] #[] 1537 4 #[] #[])
  fields := #[]
  methods := #[]
  instanceTypes := #[]
  staticTypes := #[]
  resolved := Array.replicate 8 none
  statics := none }

def pool4 : Array CpInfo := pool [(1, u "java/io/Serializable"), (0, .class_ 1), (0, u "java/lang/Object"), (0, .class_ 3)] 3

/-- java/io/Serializable -/
def k4 : Class := { plain "java/io/Serializable" (some 0) with
  accessFlags := 1537
  interfaces := #[]
  cf := some (fileOf pool4 2 #[] #[] 1537 4 #[] #[])
  fields := #[]
  methods := #[]
  instanceTypes := #[]
  staticTypes := #[]
  resolved := Array.replicate 8 none
  statics := none }

/-- the primitive byte -/
def k5 : Class := { plain "byte" none with kind := .primitive 'B', accessFlags := 0x411 }
/-- [B -/
def k6 : Class := { plain "[B" (some 0) with kind := .array 5 .byte, interfaces := #[3, 4], accessFlags := 1041 }

/-- the primitive int -/
def k7 : Class := { plain "int" none with kind := .primitive 'I', accessFlags := 0x411 }
/-- [I -/
def k8 : Class := { plain "[I" (some 0) with kind := .array 7 .int, interfaces := #[3, 4], accessFlags := 1041 }

def heap : Heap := #[]
def classes : Array Class := #[k0, k1, k2, k3, k4, k5, k6, k7, k8]
def interned : List (Array UInt16 × Addr) := []
def slotsUsed : Nat := 0
def theMethod : MethodId := ⟨1, 2⟩
def args0 : Array Value := #[.int 5, .int 3]
def aboutOver (below : List Frame) : State where
  vm := { classes := classes, interned := interned.toArray }
  heap := heap
  slotsUsed := slotsUsed
  threads := #[{ frames := .invoking theMethod args0 :: below }]
def below0 : List Frame := [.native { method := ⟨0, 0⟩, args := #[] }]
def about1 : State := aboutOver below0
def p0 : Program := .bare "" "" ""
def e0 : Env := launch0.env 0 0 0
theorem w_frames : about1.frames = Frame.invoking theMethod args0 :: below0 := rfl
set_option maxRecDepth 65536 in
theorem w_args : argsFit about1.vm theMethod args0 = true := by decide +kernel
set_option maxRecDepth 65536 in
theorem w_heap : heapFits about1 = true := by decide +kernel
set_option maxRecDepth 65536 in
theorem w_runnable : about1.curStatus? = some .runnable := by decide +kernel
set_option maxRecDepth 65536 in
theorem w_alone : about1.alone = true := by decide +kernel
set_option maxRecDepth 65536 in
theorem w_named : about1.methodNamed? x = some theMethod := by decide +kernel
set_option maxRecDepth 65536 in
theorem w_hears : about1.hears theMethod below0 = true := by decide +kernel
set_option maxRecDepth 65536 in
theorem w_ripe : about1.ripe theMethod args0 below0 = true := by decide +kernel
theorem w_running : about1.status = .running := rfl
set_option maxRecDepth 65536 in
theorem w_room : about1.hasRoom e0.platform room_1 = true :=
  launch0.hasRoom_least _ room_1 (by decide +kernel) (by decide +kernel) (by decide +kernel) (by decide +kernel) (by decide +kernel) (by decide +kernel)
theorem allAtoms_all (ts : List Jvm.Cond) (a : Array Jvm.Value) (st : Jvm.State) : (allAtoms ts).before a st = ts.all (fun c => c.before a st) := by
  induction ts with
  | nil => rfl
  | cons c t ih =>
    show (Jvm.Cond.and c (allAtoms t)).before a st = _
    rw [Jvm.Cond.before_and, ih, List.all_cons]
def words1 : List Jvm.Cond := Jvm.Cond.code x code maxLocals ret :: tables_1
/-- a 'code' word, met by the world's own term for the bytes: nothing is compared byte by byte -/
theorem code_word {y : MethodName} {bytes : ByteArray} {mx : Nat} {rt : Option FieldType} {a : Array Value} {s : State} {m : MethodId} {meth : Method} {c : Code} (h1 : s.methodNamed? y = some m) (h2 : s.vm.method? m = some meth) (h3 : meth.code = some c) (h4 : c.code = bytes)
    (h5 : (c.maxLocals == mx && c.exceptionTable.isEmpty && decide (c.maxStack ≤ mostOperands) && decide (meth.sig.returnType = rt) && !meth.locks && decide (parseMethodDescriptor y.desc = some meth.sig)) = true) : (Jvm.Cond.code y bytes mx rt).before a s = true := by
  simp only [Bool.and_eq_true, beq_iff_eq, Bool.not_eq_true', decide_eq_true_eq] at h5
  obtain ⟨⟨⟨⟨⟨g1, g2⟩, g3⟩, g4⟩, g5⟩, g6⟩ := h5
  simp [Cond.before, Cond.holds, Cond.value, h1, h2, h3, h4, g1, g2, g3, g4, g5, g6]
def isCode : Jvm.Cond → Bool
  | .code _ _ _ _ => true
  | _ => false
theorem all_split {L : List Jvm.Cond} {P : Jvm.Cond → Bool} (h1 : L.all (fun c => isCode c || P c) = true) (h2 : ∀ c ∈ L.filter isCode, P c = true) : L.all P = true := by
  refine List.all_eq_true.mpr fun c hc => ?_
  have h := List.all_eq_true.mp h1 c hc
  rcases Bool.eq_false_or_eq_true (isCode c) with hi | hi
  · exact h2 c (List.mem_filter.mpr ⟨hc, hi⟩)
  · simpa [hi] using h
set_option maxRecDepth 65536 in
theorem w_c0 : (Jvm.Cond.code x code maxLocals ret).before args0 about1 = true := code_word (m := ⟨1, 2⟩) (meth := k1m2) (c := k1c2) (by decide +kernel) rfl rfl rfl (by decide +kernel)
set_option maxRecDepth 65536 in
theorem w_c1 : (Jvm.Cond.code ({ cls := "com/example/zahlwerk/zahlwerk/core/xml/Xml10Characters", name := "contains", desc := "(I)Z" } : Jvm.MethodName) prog_129_method_2_code (1 : Nat) (Option.some Jvm.ClassFile.FieldType.boolean)).before args0 about1 = true := code_word (m := ⟨2, 1⟩) (meth := k2m1) (c := k2c1) (by decide +kernel) rfl rfl rfl (by decide +kernel)
set_option maxRecDepth 65536 in
theorem w_c2 : (Jvm.Cond.code ({ cls := "com/example/zahlwerk/zahlwerk/core/xml/Xml10CharactersContainsPinLaw", name := "ref", desc := "(I)Z" } : Jvm.MethodName) method_2_code (1 : Nat) (Option.some Jvm.ClassFile.FieldType.boolean)).before args0 about1 = true := code_word (m := ⟨1, 1⟩) (meth := k1m1) (c := k1c1) (by decide +kernel) rfl rfl rfl (by decide +kernel)
def codes1 : List Jvm.Cond := [Jvm.Cond.code x code maxLocals ret, Jvm.Cond.code ({ cls := "com/example/zahlwerk/zahlwerk/core/xml/Xml10Characters", name := "contains", desc := "(I)Z" } : Jvm.MethodName) prog_129_method_2_code (1 : Nat) (Option.some Jvm.ClassFile.FieldType.boolean), Jvm.Cond.code ({ cls := "com/example/zahlwerk/zahlwerk/core/xml/Xml10CharactersContainsPinLaw", name := "ref", desc := "(I)Z" } : Jvm.MethodName) method_2_code (1 : Nat) (Option.some Jvm.ClassFile.FieldType.boolean)]
set_option maxRecDepth 65536 in
theorem codes_eq : words1.filter isCode = codes1 := rfl
theorem w_codes : ∀ c ∈ words1.filter isCode, c.before args0 about1 = true := by
  rw [codes_eq]
  intro c hc
  simp only [codes1, List.mem_cons, List.not_mem_nil, or_false] at hc
  rcases hc with rfl | rfl | rfl
  · exact w_c0
  · exact w_c1
  · exact w_c2
set_option maxRecDepth 65536 in
theorem w_t1 : (words1.take 24).all (fun c => isCode c || c.before args0 about1) = true := by decide +kernel
set_option maxRecDepth 65536 in
theorem w_t2 : (words1.drop 24).all (fun c => isCode c || c.before args0 about1) = true := by decide +kernel
theorem w_tables : (allAtoms (Jvm.Cond.code x code maxLocals ret :: tables_1)).before args0 about1 = true := by
  rw [allAtoms_all]
  show words1.all (fun c => c.before args0 about1) = true
  refine all_split ?_ w_codes
  rw [← List.take_append_drop 24 words1, List.all_append, w_t1, w_t2]
  rfl
set_option maxRecDepth 65536 in
theorem w_case : (Jvm.Cond.and given_1 narrow_1).before args0 about1 = true := by decide +kernel
theorem w_applies : (headSpec (Jvm.Cond.code x code maxLocals ret :: tables_1) room_1).applies x e0.platform about1 = true :=
  (Spec.applies_iff w_frames).mpr ⟨w_running, w_runnable, w_alone, w_named, w_hears, w_ripe, w_room, w_tables⟩
theorem atStart : AtStart classFile x code maxLocals ret World_1 tables_1 room_1 Calls_1 rest_1 Pre_1 launch0 p0 e0 about1 theMethod args0 below0 :=
  ⟨lists_1, trivial, launch0.admits_env _ _ _, launch0.least_env, fairChoices_fair.cas, fairChoices_fair.clock, w_frames, w_args, w_heap, w_applies, trivial, trivial, w_case⟩
end start1
theorem witness_1 : WitnessClaimed_1 := ⟨start1.p0, start1.e0, start1.about1, start1.theMethod, start1.args0, start1.below0, start1.atStart⟩
end Jvm.Pilot.@@N@@
