import JvmDerived
import JvmDerived.Pilot.@@N@@Statement
import JvmDerived.Pilot.@@N@@Code
set_option linter.unusedVariables false
set_option linter.unusedSimpArgs false
@@BLOCK:NumsL.lean.txt@@
namespace Jvm.Pilot.@@N@@
open Jvm Jvm.ClassFile Sem Op Lib Jvm.Free Jvm.Stand Jvm.LawKit Jvm.RoadKit Bundle Jvm.Pilot.@@N@@.Jvm.D
section OwnKit
variable {p : Program} {l : Launch} {e : Env} {R : Room} {s : State} {m : MethodId} {args : Array Value} {below : List Frame} {meth : Method} {c : Code} {T T' : State} {locs : List Loc} {cells slots : Nat} {Z : State} {a0 : Array Value} {h h' : Heap} {g g' : JFrame} {K : Outcome → State → Prop} {a b : Addr}
/-- from the frame g over T the run comes home with K -/
def Goes (p : Program) (e : Env) (below : List Frame) (K : Outcome → State → Prop) (T : State) (g : JFrame) : Prop :=
  ∃ s₂ o, Steps p.tables e below (T.setTop g) s₂ ∧ s₂.status = .running ∧ Ended s₂ below o ∧ K o s₂
theorem Goes.of (f : ∀ t, Steps p.tables e below (T'.setTop g') t → Steps p.tables e below (T.setTop g) t) (h : Goes p e below K T' g') : Goes p e below K T g := by
  obtain ⟨s₂, o, h1, h2⟩ := h; exact ⟨s₂, o, f _ h1, h2⟩
theorem Goes.tr (f : Steps p.tables e below (T.setTop g) (T'.setTop g')) (h : Goes p e below K T' g') : Goes p e below K T g := by
  obtain ⟨s₂, o, h1, h2⟩ := h; exact ⟨s₂, o, f.trans h1, h2⟩
theorem Goes.cast (q : g = g') (h : Goes p e below K T g') : Goes p e below K T g := q ▸ h
def OwnK (s : State) (Q : Option Value → Heap → List Loc → Prop) (C S : Nat) : Outcome → State → Prop := fun o U' => ∃ v L, o = .returned v ∧ Q v U'.heap L ∧ FrameEnd s o U' L C S
section Ret
variable {Q : Option Value → Heap → List Loc → Prop} {C S pc : Nat} {Ls : Array Slot} {rest : List Value}
theorem Goes.retInt (X : Stand p l e R s m args below meth c T locs cells slots) (hx : p.tables.exec = Jvm.exec) (hlk : meth.locks = false) {z : Int32} (hret : meth.sig.returnType = some .int) (hd : decode c.code pc = .ok (.ireturn, 1)) (hQ : Q (some (.int z)) T.heap locs) (hc : cells ≤ C) (hs : slots ≤ S) :
    Goes p e below (OwnK s Q C S) T (mkF m pc Ls (.int z :: rest)) := by
  obtain ⟨fs, hr, hrun, hended, hW, hsame⟩ := X.leave (v := some (.int z)) (fun h => by rw [hret] at h; cases h) hlk
  exact ⟨_, _, retOut X hx hret rfl (Or.inl ⟨rfl, Or.inl rfl, z, rfl⟩) hd hr, hrun, hended, _, _, rfl, hQ, ⟨_, rfl⟩, hW, hsame.mono hc hs⟩
theorem Goes.retNar (X : Stand p l e R s m args below meth c T locs cells slots) (hx : p.tables.exec = Jvm.exec) (hlk : meth.locks = false) {t : FieldType} {z : Int32} (ht : t = .boolean ∨ t = .byte ∨ t = .char ∨ t = .short) (hret : meth.sig.returnType = some t) (hd : decode c.code pc = .ok (.ireturn, 1)) (hQ : Q (some (.int (nar t z))) T.heap locs) (hc : cells ≤ C) (hs : slots ≤ S) :
    Goes p e below (OwnK s Q C S) T (mkF m pc Ls (.int z :: rest)) := by
  obtain ⟨fs, hr, hrun, hended, hW, hsame⟩ := X.leave (v := some (.int (nar t z))) (fun h => by rw [hret] at h; cases h) hlk
  exact ⟨_, _, retN X hx hret ht hd hr, hrun, hended, _, _, rfl, hQ, ⟨_, rfl⟩, hW, hsame.mono hc hs⟩
theorem Goes.retLong (X : Stand p l e R s m args below meth c T locs cells slots) (hx : p.tables.exec = Jvm.exec) (hlk : meth.locks = false) {z : Int64} (hret : meth.sig.returnType = some .long) (hd : decode c.code pc = .ok (.lreturn, 1)) (hQ : Q (some (.long z)) T.heap locs) (hc : cells ≤ C) (hs : slots ≤ S) :
    Goes p e below (OwnK s Q C S) T (mkF m pc Ls (.long z :: rest)) := by
  obtain ⟨fs, hr, hrun, hended, hW, hsame⟩ := X.leave (v := some (.long z)) (fun h => by rw [hret] at h; cases h) hlk
  exact ⟨_, _, retOut X hx hret rfl (Or.inr (Or.inl ⟨rfl, rfl, z, rfl⟩)) hd hr, hrun, hended, _, _, rfl, hQ, ⟨_, rfl⟩, hW, hsame.mono hc hs⟩
theorem Goes.retRef (X : Stand p l e R s m args below meth c T locs cells slots) (hx : p.tables.exec = Jvm.exec) (hlk : meth.locks = false) {t : FieldType} {w : Value} (hw : w.isRef = true) (ht : t.isReference = true) (hret : meth.sig.returnType = some t) (hd : decode c.code pc = .ok (.areturn, 1)) (hQ : Q (some w) T.heap locs) (hc : cells ≤ C) (hs : slots ≤ S) :
    Goes p e below (OwnK s Q C S) T (mkF m pc Ls (w :: rest)) := by
  obtain ⟨fs, hr, hrun, hended, hW, hsame⟩ := X.leave (v := some w) (fun h => by rw [hret] at h; cases h) hlk
  have hn : narrow t w = w := by cases t <;> first | (cases ht; done) | (cases w <;> first | (cases hw; done) | rfl)
  exact ⟨_, _, retOut X hx hret hn (Or.inr (Or.inr (Or.inr (Or.inr ⟨rfl, ht, hw⟩)))) hd hr, hrun, hended, _, _, rfl, hQ, ⟨_, rfl⟩, hW, hsame.mono hc hs⟩
theorem Goes.retVoid (X : Stand p l e R s m args below meth c T locs cells slots) (hx : p.tables.exec = Jvm.exec) (hlk : meth.locks = false) (hret : meth.sig.returnType = none) (hd : decode c.code pc = .ok (.return_, 1)) (hQ : Q none T.heap locs) (hc : cells ≤ C) (hs : slots ≤ S) :
    Goes p e below (OwnK s Q C S) T (mkF m pc Ls []) := by
  obtain ⟨fs, hr, hrun, hended, hW, hsame⟩ := X.leave (v := none) (fun _ => rfl) hlk
  exact ⟨_, _, X.returnOut hx hret hd hr, hrun, hended, _, _, rfl, hQ, ⟨_, rfl⟩, hW, hsame.mono hc hs⟩
end Ret
/-- an array of ints, chars, bytes (not of booleans): all of its elements -/
def AI (Z : State) (h : Heap) (a : Addr) (ty : FieldType) (xs : List Int32) : Prop := ∃ cl : Cell, Arr Z h a cl ty ∧ cl.slots.toList = xs.map Value.int ∧ xs.length < 2 ^ 31 ∧ ∀ x ∈ xs, fits ty (.int x) = true
section Arrs
variable {ty : FieldType} {xs : List Int32} {sl : Nat} {v : Value} {ws : List Addr} {j x : Int32} {i : Nat} {rest : List Value}
theorem AI.lt (F : AI Z h a ty xs) : a < h.size := by obtain ⟨cl, A, -⟩ := F; exact A.lt
theorem AI.ext (F : AI Z h a ty xs) (E : Ext h h') : AI Z h' a ty xs := by obtain ⟨cl, A, r⟩ := F; exact ⟨cl, A.ext E, r⟩
theorem AI.other (F : AI Z h b ty xs) (W : Wr h h' a sl v) (q : b ≠ a) : AI Z h' b ty xs := by obtain ⟨cl, A, r⟩ := F; exact ⟨cl, A.other W q, r⟩
theorem AI.keep (F : AI Z h a ty xs) (K : Keep h h' ws) (q : a ∉ ws) : AI Z h' a ty xs := by obtain ⟨cl, A, r⟩ := F; exact ⟨cl, ⟨K.2.1 a cl A.1 q, A.2⟩, r⟩
theorem own_idx {cl : Cell} (hsz : cl.slots.toList = xs.map Value.int) (hj : j.toInt = (i : Int)) (hi : i < xs.length) : ¬ (j < 0 ∨ cl.slots.size ≤ j.toNatClampNeg) ∧ j.toNatClampNeg = i := by
  have hl : cl.slots.size = xs.length := by rw [← Array.length_toList, hsz, List.length_map]
  have hn : j.toNatClampNeg = i := by simp only [Int32.toNatClampNeg, hj]; rfl
  refine ⟨?_, hn⟩
  rw [hn, hl, Int32.lt_iff_toInt_lt, hj]
  have e0 : (0 : Int32).toInt = 0 := rfl
  omega
theorem own_at {cl : Cell} (hsz : cl.slots.toList = xs.map Value.int) (hi : xs[i]? = some x) : cl.slots[i]? = some (.int x) := by
  rw [← Array.getElem?_toList, hsz, List.getElem?_map, hi]; rfl
theorem AI.iaload (X : Stand p l e R s m args below meth c T locs cells slots) (hx : p.tables.exec = Jvm.exec) (hZ : Z.Warmed39 s.vm) (eT : T.heap = h) (A : AI Z h a .int xs) (hj : j.toInt = (i : Int)) (hi : xs[i]? = some x) (hg : g.method = m) (hs : g.stack = .int j :: .ref a :: rest) (hd : decode c.code g.pc = .ok (.iaload, 1)) :
    ∀ t, Steps p.tables e below (T.setTop { g with pc := g.pc + 1, stack := .int x :: rest }) t → Steps p.tables e below (T.setTop g) t := by
  obtain ⟨cl, A1, h1, h2, h3⟩ := A
  obtain ⟨q1, q2⟩ := own_idx h1 hj (List.getElem?_eq_some_iff.mp hi).1
  exact X.iaload hx (by rw [eT]; exact A1.1) (State.isArrayOf_alike hZ.alike A1.2.1) A1.2.2 q1 (by rw [q2]; exact own_at h1 hi) hg hs hd
theorem AI.caload (X : Stand p l e R s m args below meth c T locs cells slots) (hx : p.tables.exec = Jvm.exec) (hZ : Z.Warmed39 s.vm) (eT : T.heap = h) (A : AI Z h a .char xs) (hj : j.toInt = (i : Int)) (hi : xs[i]? = some x) (hg : g.method = m) (hs : g.stack = .int j :: .ref a :: rest) (hd : decode c.code g.pc = .ok (.caload, 1)) :
    ∀ t, Steps p.tables e below (T.setTop { g with pc := g.pc + 1, stack := .int x :: rest }) t → Steps p.tables e below (T.setTop g) t := by
  obtain ⟨cl, A1, h1, h2, h3⟩ := A
  obtain ⟨q1, q2⟩ := own_idx h1 hj (List.getElem?_eq_some_iff.mp hi).1
  exact X.caload hx (by rw [eT]; exact A1.1) (State.isArrayOf_alike hZ.alike A1.2.1) A1.2.2 q1 (by rw [q2]; exact own_at h1 hi) hg hs hd
theorem AI.baload (X : Stand p l e R s m args below meth c T locs cells slots) (hx : p.tables.exec = Jvm.exec) (hZ : Z.Warmed39 s.vm) (eT : T.heap = h) (A : AI Z h a .byte xs) (hj : j.toInt = (i : Int)) (hi : xs[i]? = some x) (hg : g.method = m) (hs : g.stack = .int j :: .ref a :: rest) (hd : decode c.code g.pc = .ok (.baload, 1)) :
    ∀ t, Steps p.tables e below (T.setTop { g with pc := g.pc + 1, stack := .int x :: rest }) t → Steps p.tables e below (T.setTop g) t := by
  obtain ⟨cl, A1, h1, h2, h3⟩ := A
  obtain ⟨q1, q2⟩ := own_idx h1 hj (List.getElem?_eq_some_iff.mp hi).1
  exact X.baloadBytes hx (by rw [eT]; exact A1.1) (State.isArrayOf_alike hZ.alike A1.2.1) A1.2.2 q1 (by rw [q2]; exact own_at h1 hi) hg hs hd
theorem AI.arraylength (X : Stand p l e R s m args below meth c T locs cells slots) (hx : p.tables.exec = Jvm.exec) (hZ : Z.Warmed39 s.vm) (eT : T.heap = h) (A : AI Z h a ty xs) (hj : j.toInt = (xs.length : Int)) (hg : g.method = m) (hs : g.stack = .ref a :: rest) (hd : decode c.code g.pc = .ok (.arraylength, 1)) :
    ∀ t, Steps p.tables e below (T.setTop { g with pc := g.pc + 1, stack := .int j :: rest }) t → Steps p.tables e below (T.setTop g) t := by
  obtain ⟨cl, A1, h1, h2, h3⟩ := A
  intro t k
  have hl : cl.slots.size = xs.length := by rw [← Array.length_toList, h1, List.length_map]
  have ej : cl.slots.size.toInt32 = j := by
    rw [hl]
    apply Int32.toInt_inj.mp
    rw [hj]; exact len_toInt h2
  refine X.arraylength hx (by rw [eT]; exact A1.1) (State.isArrayOf_alike hZ.alike A1.2.1) hg hs hd t ?_
  rw [ej]; exact k
theorem own_set {cl : Cell} (A : Arr Z h a cl ty) (h1 : cl.slots.toList = xs.map Value.int) (h2 : xs.length < 2 ^ 31) (h3 : ∀ x ∈ xs, fits ty (.int x) = true) (hf : fits ty (.int x) = true) (W : Wr h h' a i (.int x)) : AI Z h' a ty (xs.set i x) :=
  ⟨_, A.same W, by simp [Cell.setSlot, h1, List.map_set], by rw [List.length_set]; exact h2, fun y hy => by
    rcases List.mem_or_eq_of_mem_set hy with q | q
    · exact h3 y q
    · rw [q]; exact hf⟩
theorem AI.iastore (X : Stand p l e R s m args below meth c T locs cells slots) (hx : p.tables.exec = Jvm.exec) (hZ : Z.Warmed39 s.vm) (eT : T.heap = h) (A : AI Z h a .int xs) (hj : j.toInt = (i : Int)) (hi : i < xs.length) (hg : g.method = m) (hs : g.stack = .int x :: .int j :: .ref a :: rest) (hd : decode c.code g.pc = .ok (.iastore, 1)) :
    ∃ T' h', Stand p l e R s m args below meth c T' (locs ++ [⟨a, i⟩]) cells slots ∧ T'.heap = h' ∧ Wr h h' a i (.int x) ∧ AI Z h' a .int (xs.set i x) ∧ ∀ target, Steps p.tables e below (T'.setTop { g with pc := g.pc + 1, stack := rest }) target → Steps p.tables e below (T.setTop g) target := by
  obtain ⟨cl, A1, h1, h2, h3⟩ := A
  obtain ⟨q1, q2⟩ := own_idx h1 hj hi
  obtain ⟨T', h', X', e', W', st⟩ := stI X hx hZ eT A1 q1 hg hs hd
  rw [q2] at X' W'
  exact ⟨T', h', X', e', W', own_set A1 h1 h2 h3 rfl W', st⟩
theorem AI.castore (X : Stand p l e R s m args below meth c T locs cells slots) (hx : p.tables.exec = Jvm.exec) (hZ : Z.Warmed39 s.vm) (eT : T.heap = h) (A : AI Z h a .char xs) (hj : j.toInt = (i : Int)) (hi : i < xs.length) (hg : g.method = m) (hs : g.stack = .int x :: .int j :: .ref a :: rest) (hd : decode c.code g.pc = .ok (.castore, 1)) :
    ∃ T' h', Stand p l e R s m args below meth c T' (locs ++ [⟨a, i⟩]) cells slots ∧ T'.heap = h' ∧ Wr h h' a i (.int (nar .char x)) ∧ AI Z h' a .char (xs.set i (nar .char x)) ∧ ∀ target, Steps p.tables e below (T'.setTop { g with pc := g.pc + 1, stack := rest }) target → Steps p.tables e below (T.setTop g) target := by
  obtain ⟨cl, A1, h1, h2, h3⟩ := A
  obtain ⟨q1, q2⟩ := own_idx h1 hj hi
  obtain ⟨T', h', X', e', W', st⟩ := stC X hx hZ eT A1 q1 hg hs hd
  rw [q2] at X' W'
  exact ⟨T', h', X', e', W', own_set A1 h1 h2 h3 (fits_nar_char _) W', st⟩
theorem AI.bastore (X : Stand p l e R s m args below meth c T locs cells slots) (hx : p.tables.exec = Jvm.exec) (hZ : Z.Warmed39 s.vm) (eT : T.heap = h) (A : AI Z h a .byte xs) (hj : j.toInt = (i : Int)) (hi : i < xs.length) (hg : g.method = m) (hs : g.stack = .int x :: .int j :: .ref a :: rest) (hd : decode c.code g.pc = .ok (.bastore, 1)) :
    ∃ T' h', Stand p l e R s m args below meth c T' (locs ++ [⟨a, i⟩]) cells slots ∧ T'.heap = h' ∧ Wr h h' a i (.int (nar .byte x)) ∧ AI Z h' a .byte (xs.set i (nar .byte x)) ∧ ∀ target, Steps p.tables e below (T'.setTop { g with pc := g.pc + 1, stack := rest }) target → Steps p.tables e below (T.setTop g) target := by
  obtain ⟨cl, A1, h1, h2, h3⟩ := A
  obtain ⟨q1, q2⟩ := own_idx h1 hj hi
  obtain ⟨T', h', X', e', W', st⟩ := stB X hx hZ eT A1 q1 hg hs hd
  rw [q2] at X' W'
  exact ⟨T', h', X', e', W', own_set A1 h1 h2 h3 (fits_nar_byte _) W', st⟩
theorem AI.fresh {cA : ClassId} {n : Int32} {k : Nat} (ht : ty = .int ∨ ty = .char ∨ ty = .byte ∨ ty = .short) (hn : n.toInt = (k : Int)) (A : Arr Z h a (newA cA ty n) ty) : AI Z h a ty (List.replicate k 0) := by
  have e : n.toNatClampNeg = k := by simp only [Int32.toNatClampNeg, hn]; rfl
  have hk := n.toInt_lt
  refine ⟨_, A, ?_, ?_, ?_⟩
  · rcases ht with rfl | rfl | rfl | rfl <;> simp [newA, e, defaultValue]
  · rw [List.length_replicate]; omega
  · intro x hx
    obtain rfl := List.eq_of_mem_replicate hx
    rcases ht with rfl | rfl | rfl | rfl <;> rfl
end Arrs
end OwnKit
theorem own_mask (y : Int32) : 0 ≤ (y &&& 255).toInt ∧ (y &&& 255).toInt < 256 := by
  have := Jvm.Kit.i32_mask y 255 (k := 8) (by decide) (by decide)
  omega
theorem own_fin {b : Int32} (h0 : 0 ≤ b.toInt) (h1 : b.toInt < 256) : ∃ n : Fin 256, b = Int32.ofNat n.val :=
  ⟨⟨b.toInt.toNat, by omega⟩, by
    apply Int32.toInt_inj.mp
    rw [Int32.toInt_ofNat_of_lt (by show b.toInt.toNat < 2 ^ 31; omega)]
    show b.toInt = ((b.toInt.toNat : Nat) : Int)
    omega⟩
theorem own_or1 {b : Int32} (h0 : 0 ≤ b.toInt) (h1 : b.toInt < 256) : (((256 : Int32) ||| b) &&& (1023 : Int32)) = 256 + b := by
  obtain ⟨n, rfl⟩ := own_fin h0 h1
  exact (by decide +kernel : ∀ n : Fin 256, (((256 : Int32) ||| Int32.ofNat n.val) &&& (1023 : Int32)) = 256 + Int32.ofNat n.val) n
theorem own_or2 {b : Int32} (h0 : 0 ≤ b.toInt) (h1 : b.toInt < 256) : (((512 : Int32) ||| b) &&& (1023 : Int32)) = 512 + b := by
  obtain ⟨n, rfl⟩ := own_fin h0 h1
  exact (by decide +kernel : ∀ n : Fin 256, (((512 : Int32) ||| Int32.ofNat n.val) &&& (1023 : Int32)) = 512 + Int32.ofNat n.val) n
theorem own_or3 {b : Int32} (h0 : 0 ≤ b.toInt) (h1 : b.toInt < 256) : (((768 : Int32) ||| b) &&& (1023 : Int32)) = 768 + b := by
  obtain ⟨n, rfl⟩ := own_fin h0 h1
  exact (by decide +kernel : ∀ n : Fin 256, (((768 : Int32) ||| Int32.ofNat n.val) &&& (1023 : Int32)) = 768 + Int32.ofNat n.val) n
theorem own_and0 {b : Int32} (h0 : 0 ≤ b.toInt) (h1 : b.toInt < 256) : (b &&& (1023 : Int32)) = b := by
  obtain ⟨n, rfl⟩ := own_fin h0 h1
  exact (by decide +kernel : ∀ n : Fin 256, (Int32.ofNat n.val &&& (1023 : Int32)) = Int32.ofNat n.val) n
theorem own_and8 {b : Int32} (h0 : 0 ≤ b.toInt) (h1 : b.toInt < 256) : (b &&& (255 : Int32)) = b := by
  obtain ⟨n, rfl⟩ := own_fin h0 h1
  exact (by decide +kernel : ∀ n : Fin 256, (Int32.ofNat n.val &&& (255 : Int32)) = Int32.ofNat n.val) n
theorem own_sh (h : Int32) : 0 ≤ (XT.ushr h 24).toInt ∧ (XT.ushr h 24).toInt < 256 := by
  have e : (XT.ushr h 24).toInt = ((h.toUInt32.toNat >>> 24 : Nat) : Int) := by
    have q : (h.toUInt32 >>> ((24 : Int32) &&& 31).toUInt32).toNat = h.toUInt32.toNat >>> 24 := UInt32.toNat_shiftRight _ _
    have b := h.toUInt32.toNat_lt
    have s : h.toUInt32.toNat >>> 24 < 256 := by rw [Nat.shiftRight_eq_div_pow]; omega
    have u : (h.toUInt32 >>> ((24 : Int32) &&& 31).toUInt32) = UInt32.ofNat (h.toUInt32.toNat >>> 24) := by
      apply UInt32.toNat_inj.mp
      rw [q, UInt32.toNat_ofNat_of_lt' (by show _ < 2 ^ 32; omega)]
    unfold XT.ushr
    rw [u]
    show (Int32.ofNat (h.toUInt32.toNat >>> 24)).toInt = _
    rw [Int32.toInt_ofNat_of_lt (by show _ < 2 ^ 31; omega)]
  have b := h.toUInt32.toNat_lt
  have s : h.toUInt32.toNat >>> 24 < 256 := by rw [Nat.shiftRight_eq_div_pow]; omega
  omega
theorem own_sum (k b : Int32) (h : 0 ≤ b.toInt ∧ b.toInt < 256) (hk : 0 ≤ k.toInt ∧ k.toInt < 1000) : (k + b).toInt = k.toInt + b.toInt := Jvm.Kit.i32_add (by omega) (by omega)
theorem d1_0 : decode prog_18_method_15_code 0 = .ok (.aload_n 0, 1) := by decide +kernel
theorem d1_1 : decode prog_18_method_15_code 1 = .ok (.arraylength, 1) := by decide +kernel
theorem d1_2 : decode prog_18_method_15_code 2 = .ok (.iconst 1, 1) := by decide +kernel
theorem d1_3 : decode prog_18_method_15_code 3 = .ok (.isub, 1) := by decide +kernel
theorem d1_4 : decode prog_18_method_15_code 4 = .ok (.istore_n 2, 1) := by decide +kernel
theorem d1_5 : decode prog_18_method_15_code 5 = .ok (.aload_n 0, 1) := by decide +kernel
theorem d1_6 : decode prog_18_method_15_code 6 = .ok (.iload_n 1, 1) := by decide +kernel
theorem d1_7 : decode prog_18_method_15_code 7 = .ok (.sipush 255, 3) := by decide +kernel
theorem d1_10 : decode prog_18_method_15_code 10 = .ok (.iand, 1) := by decide +kernel
theorem d1_11 : decode prog_18_method_15_code 11 = .ok (.iload_n 2, 1) := by decide +kernel
theorem d1_12 : decode prog_18_method_15_code 12 = .ok (.iand, 1) := by decide +kernel
theorem d1_13 : decode prog_18_method_15_code 13 = .ok (.iaload, 1) := by decide +kernel
theorem d1_14 : decode prog_18_method_15_code 14 = .ok (.aload_n 0, 1) := by decide +kernel
theorem d1_15 : decode prog_18_method_15_code 15 = .ok (.sipush 256, 3) := by decide +kernel
theorem d1_18 : decode prog_18_method_15_code 18 = .ok (.iload_n 1, 1) := by decide +kernel
theorem d1_19 : decode prog_18_method_15_code 19 = .ok (.bipush 8, 2) := by decide +kernel
theorem d1_21 : decode prog_18_method_15_code 21 = .ok (.iushr, 1) := by decide +kernel
theorem d1_22 : decode prog_18_method_15_code 22 = .ok (.sipush 255, 3) := by decide +kernel
theorem d1_25 : decode prog_18_method_15_code 25 = .ok (.iand, 1) := by decide +kernel
theorem d1_26 : decode prog_18_method_15_code 26 = .ok (.ior, 1) := by decide +kernel
theorem d1_27 : decode prog_18_method_15_code 27 = .ok (.iload_n 2, 1) := by decide +kernel
theorem d1_28 : decode prog_18_method_15_code 28 = .ok (.iand, 1) := by decide +kernel
theorem d1_29 : decode prog_18_method_15_code 29 = .ok (.iaload, 1) := by decide +kernel
theorem d1_30 : decode prog_18_method_15_code 30 = .ok (.ixor, 1) := by decide +kernel
theorem d1_31 : decode prog_18_method_15_code 31 = .ok (.aload_n 0, 1) := by decide +kernel
theorem d1_32 : decode prog_18_method_15_code 32 = .ok (.sipush 512, 3) := by decide +kernel
theorem d1_35 : decode prog_18_method_15_code 35 = .ok (.iload_n 1, 1) := by decide +kernel
theorem d1_36 : decode prog_18_method_15_code 36 = .ok (.bipush 16, 2) := by decide +kernel
theorem d1_38 : decode prog_18_method_15_code 38 = .ok (.iushr, 1) := by decide +kernel
theorem d1_39 : decode prog_18_method_15_code 39 = .ok (.sipush 255, 3) := by decide +kernel
theorem d1_42 : decode prog_18_method_15_code 42 = .ok (.iand, 1) := by decide +kernel
theorem d1_43 : decode prog_18_method_15_code 43 = .ok (.ior, 1) := by decide +kernel
theorem d1_44 : decode prog_18_method_15_code 44 = .ok (.iload_n 2, 1) := by decide +kernel
theorem d1_45 : decode prog_18_method_15_code 45 = .ok (.iand, 1) := by decide +kernel
theorem d1_46 : decode prog_18_method_15_code 46 = .ok (.iaload, 1) := by decide +kernel
theorem d1_47 : decode prog_18_method_15_code 47 = .ok (.ixor, 1) := by decide +kernel
theorem d1_48 : decode prog_18_method_15_code 48 = .ok (.aload_n 0, 1) := by decide +kernel
theorem d1_49 : decode prog_18_method_15_code 49 = .ok (.sipush 768, 3) := by decide +kernel
theorem d1_52 : decode prog_18_method_15_code 52 = .ok (.iload_n 1, 1) := by decide +kernel
theorem d1_53 : decode prog_18_method_15_code 53 = .ok (.bipush 24, 2) := by decide +kernel
theorem d1_55 : decode prog_18_method_15_code 55 = .ok (.iushr, 1) := by decide +kernel
theorem d1_56 : decode prog_18_method_15_code 56 = .ok (.ior, 1) := by decide +kernel
theorem d1_57 : decode prog_18_method_15_code 57 = .ok (.iload_n 2, 1) := by decide +kernel
theorem d1_58 : decode prog_18_method_15_code 58 = .ok (.iand, 1) := by decide +kernel
theorem d1_59 : decode prog_18_method_15_code 59 = .ok (.iaload, 1) := by decide +kernel
theorem d1_60 : decode prog_18_method_15_code 60 = .ok (.ixor, 1) := by decide +kernel
theorem d1_61 : decode prog_18_method_15_code 61 = .ok (.ireturn, 1) := by decide +kernel
theorem pn_1 : plainFor (⟨"corbel/structures/LinearProbingHashSet", "tabulate", "([II)I"⟩ : MethodName) = true := plainFor_of_name (by first | (simp [plainName, overriddenIn]; done) | decide +kernel)
theorem ef_1 (m : MethodId) (x0 : Addr) (x1 : Int32) : entryFrame m #[(.ref x0), (.int x1)] 3 = mkF m 0 #[.val (.ref x0), .val (.int x1), .unset] [] := by first | (simp [entryFrame, mkF, argsToLocals, Value.category]; done) | rfl
def Q1 (Z : State) (a1 : Addr) (p2 : Int32) (xs : List Int32) (i0 : Nat) (i1 : Nat) (i2 : Nat) (i3 : Nat) (x0 : Int32) (x1 : Int32) (x2 : Int32) (x3 : Int32) (h0 : Heap) (n0 : Nat) (v : Option Value) (h : Heap) (L : List Loc) : Prop := v = some (.int (((x0 ^^^ x1) ^^^ x2) ^^^ x3)) ∧ Fr n0 L ∧ h = h0
set_option maxRecDepth 65536 in
set_option maxHeartbeats 40000000 in
theorem rm1 (l : Launch) (Z : State) (a0 : Array Value) (hw : ∀ d ∈ tables_1, d.before a0 Z = true) (ws : List Jvm.Cond) (a1 : Addr) (p2 : Int32) (xs : List Int32) (i0 : Nat) (i1 : Nat) (i2 : Nat) (i3 : Nat) (x0 : Int32) (x1 : Int32) (x2 : Int32) (x3 : Int32) (h0 : Heap) (n0 : Nat) (Z0 : n0 ≤ h0.size) (V_a1 : AI Z h0 a1 .int xs) (hl : xs.length = 1024) (hj0 : ((p2 &&& (255 : Int32)) &&& (1023 : Int32)).toInt = (i0 : Int)) (hx0 : xs[i0]? = some x0) (hj1 : (((256 : Int32) ||| ((XT.ushr p2 (8 : Int32)) &&& (255 : Int32))) &&& (1023 : Int32)).toInt = (i1 : Int)) (hx1 : xs[i1]? = some x1) (hj2 : (((512 : Int32) ||| ((XT.ushr p2 (16 : Int32)) &&& (255 : Int32))) &&& (1023 : Int32)).toInt = (i2 : Int)) (hx2 : xs[i2]? = some x2) (hj3 : (((768 : Int32) ||| (XT.ushr p2 (24 : Int32))) &&& (1023 : Int32)).toInt = (i3 : Int)) (hx3 : xs[i3]? = some x3) :
    MetFree l (⟨"corbel/structures/LinearProbingHashSet", "tabulate", "([II)I"⟩ : MethodName) (head1 (Jvm.Cond.code (⟨"corbel/structures/LinearProbingHashSet", "tabulate", "([II)I"⟩ : MethodName) prog_18_method_15_code 3 (some .int) :: ws) ({ frames := 0, cells := 0, slots := 0, locals := 0 } : Room)) (fun a U => a = #[(.ref a1), (.int p2)] ∧ Z.Warmed39 U.vm ∧ U.heap = h0) (fun _ _ _ _ _ => True) (fun _ U o U' => ∃ v L, o = .returned v ∧ Q1 Z a1 p2 xs i0 i1 i2 i3 x0 x1 x2 x3 h0 n0 v U'.heap L ∧ FrameEnd U o U' L ({ frames := 0, cells := 0, slots := 0, locals := 0 } : Room).cells ({ frames := 0, cells := 0, slots := 0, locals := 0 } : Room).slots) := by
  refine MetFree.of_bodySF pn_1 hisR ?_
  intro p e s m args below meth c s₁ Bd hml0 hP hK
  obtain ⟨rfl, hZ, hh⟩ := hP
  have hx := Bd.exec
  have hby := Bd.bytes
  have hml : c.maxLocals = 3 := hml0
  have hown : s.vm.findClass "corbel/structures/LinearProbingHashSet" = some m.cls := findClass_of_methodNamed Bd.named
  have hnm := (name_of_methodNamed Bd.named Bd.method).1
  have hlk : meth.locks = false := BodyLoose.notSynchronized Bd
  have X0 : Stand p l e ({ frames := 0, cells := 0, slots := 0, locals := 0 } : Room) s m #[(.ref a1), (.int p2)] below meth c s₁ [] 0 0 := Stand.of_body Bd
  have e0 : s₁.heap = h0 := by rw [← hh, Bd.state]; rfl
  have N0 := Fr.nil n0
  show Goes p e below (OwnK s (Q1 Z a1 p2 xs i0 i1 i2 i3 x0 x1 x2 x3 h0 n0) ({ frames := 0, cells := 0, slots := 0, locals := 0 } : Room).cells ({ frames := 0, cells := 0, slots := 0, locals := 0 } : Room).slots) s₁ (entryFrame m #[(.ref a1), (.int p2)] 3)
  refine Goes.cast (ef_1 m a1 p2) ?_
  generalize hKK : OwnK s (Q1 Z a1 p2 xs i0 i1 i2 i3 x0 x1 x2 x3 h0 n0) ({ frames := 0, cells := 0, slots := 0, locals := 0 } : Room).cells ({ frames := 0, cells := 0, slots := 0, locals := 0 } : Room).slots = KK
  show Goes p e below KK s₁ (mkF m 0 #[.val (.ref a1), .val (.int p2), .unset] [])
  refine Goes.of (fun t => XS.aloadN X0.here hx rfl (hb hby d1_0) rfl rfl) ?_
  show Goes p e below KK s₁ (mkF m 1 #[.val (.ref a1), .val (.int p2), .unset] [(.ref a1)])
  refine Goes.of (AI.arraylength X0 hx hZ e0 V_a1 (j := (1024 : Int32)) (by rw [hl]; rfl) (g := (mkF m 1 #[.val (.ref a1), .val (.int p2), .unset] [(.ref a1)])) rfl rfl (hb hby d1_1)) ?_
  show Goes p e below KK s₁ (mkF m 2 #[.val (.ref a1), .val (.int p2), .unset] [(.int (1024 : Int32))])
  refine Goes.of (fun t => XS.iconst X0.here hx rfl (hb hby d1_2)) ?_
  show Goes p e below KK s₁ (mkF m 3 #[.val (.ref a1), .val (.int p2), .unset] [(.int (1 : Int32)), (.int (1024 : Int32))])
  refine Goes.of (fun t => XS.isub X0.here hx rfl (hb hby d1_3) rfl) ?_
  show Goes p e below KK s₁ (mkF m 4 #[.val (.ref a1), .val (.int p2), .unset] [(.int (1023 : Int32))])
  refine Goes.of (fun t => XS.istoreN X0.here hx rfl (hb hby d1_4) rfl (l' := #[.val (.ref a1), .val (.int p2), .val (.int (1023 : Int32))]) rfl) ?_
  show Goes p e below KK s₁ (mkF m 5 #[.val (.ref a1), .val (.int p2), .val (.int (1023 : Int32))] [])
  refine Goes.of (fun t => XS.aloadN X0.here hx rfl (hb hby d1_5) rfl rfl) ?_
  show Goes p e below KK s₁ (mkF m 6 #[.val (.ref a1), .val (.int p2), .val (.int (1023 : Int32))] [(.ref a1)])
  refine Goes.of (fun t => XS.iloadN X0.here hx rfl (hb hby d1_6) rfl) ?_
  show Goes p e below KK s₁ (mkF m 7 #[.val (.ref a1), .val (.int p2), .val (.int (1023 : Int32))] [(.int p2), (.ref a1)])
  refine Goes.of (fun t => XS.sipush X0.here hx rfl (hb hby d1_7)) ?_
  show Goes p e below KK s₁ (mkF m 10 #[.val (.ref a1), .val (.int p2), .val (.int (1023 : Int32))] [(.int (255 : Int32)), (.int p2), (.ref a1)])
  refine Goes.of (fun t => XS.iand X0.here hx rfl (hb hby d1_10) rfl) ?_
  show Goes p e below KK s₁ (mkF m 11 #[.val (.ref a1), .val (.int p2), .val (.int (1023 : Int32))] [(.int (p2 &&& (255 : Int32))), (.ref a1)])
  refine Goes.of (fun t => XS.iloadN X0.here hx rfl (hb hby d1_11) rfl) ?_
  show Goes p e below KK s₁ (mkF m 12 #[.val (.ref a1), .val (.int p2), .val (.int (1023 : Int32))] [(.int (1023 : Int32)), (.int (p2 &&& (255 : Int32))), (.ref a1)])
  refine Goes.of (fun t => XS.iand X0.here hx rfl (hb hby d1_12) rfl) ?_
  show Goes p e below KK s₁ (mkF m 13 #[.val (.ref a1), .val (.int p2), .val (.int (1023 : Int32))] [(.int ((p2 &&& (255 : Int32)) &&& (1023 : Int32))), (.ref a1)])
  refine Goes.of (AI.iaload X0 hx hZ e0 V_a1 (i := i0) (j := ((p2 &&& (255 : Int32)) &&& (1023 : Int32))) (x := x0) (hj0) (hx0) (g := (mkF m 13 #[.val (.ref a1), .val (.int p2), .val (.int (1023 : Int32))] [(.int ((p2 &&& (255 : Int32)) &&& (1023 : Int32))), (.ref a1)])) rfl rfl (hb hby d1_13)) ?_
  show Goes p e below KK s₁ (mkF m 14 #[.val (.ref a1), .val (.int p2), .val (.int (1023 : Int32))] [(.int x0)])
  refine Goes.of (fun t => XS.aloadN X0.here hx rfl (hb hby d1_14) rfl rfl) ?_
  show Goes p e below KK s₁ (mkF m 15 #[.val (.ref a1), .val (.int p2), .val (.int (1023 : Int32))] [(.ref a1), (.int x0)])
  refine Goes.of (fun t => XS.sipush X0.here hx rfl (hb hby d1_15)) ?_
  show Goes p e below KK s₁ (mkF m 18 #[.val (.ref a1), .val (.int p2), .val (.int (1023 : Int32))] [(.int (256 : Int32)), (.ref a1), (.int x0)])
  refine Goes.of (fun t => XS.iloadN X0.here hx rfl (hb hby d1_18) rfl) ?_
  show Goes p e below KK s₁ (mkF m 19 #[.val (.ref a1), .val (.int p2), .val (.int (1023 : Int32))] [(.int p2), (.int (256 : Int32)), (.ref a1), (.int x0)])
  refine Goes.of (fun t => XS.bipush X0.here hx rfl (hb hby d1_19)) ?_
  show Goes p e below KK s₁ (mkF m 21 #[.val (.ref a1), .val (.int p2), .val (.int (1023 : Int32))] [(.int (8 : Int32)), (.int p2), (.int (256 : Int32)), (.ref a1), (.int x0)])
  refine Goes.of (fun t => XT.iushr X0.here hx rfl (hb hby d1_21) rfl) ?_
  show Goes p e below KK s₁ (mkF m 22 #[.val (.ref a1), .val (.int p2), .val (.int (1023 : Int32))] [(.int (XT.ushr p2 (8 : Int32))), (.int (256 : Int32)), (.ref a1), (.int x0)])
  refine Goes.of (fun t => XS.sipush X0.here hx rfl (hb hby d1_22)) ?_
  show Goes p e below KK s₁ (mkF m 25 #[.val (.ref a1), .val (.int p2), .val (.int (1023 : Int32))] [(.int (255 : Int32)), (.int (XT.ushr p2 (8 : Int32))), (.int (256 : Int32)), (.ref a1), (.int x0)])
  refine Goes.of (fun t => XS.iand X0.here hx rfl (hb hby d1_25) rfl) ?_
  show Goes p e below KK s₁ (mkF m 26 #[.val (.ref a1), .val (.int p2), .val (.int (1023 : Int32))] [(.int ((XT.ushr p2 (8 : Int32)) &&& (255 : Int32))), (.int (256 : Int32)), (.ref a1), (.int x0)])
  refine Goes.of (fun t => XT.ior X0.here hx rfl (hb hby d1_26) rfl) ?_
  show Goes p e below KK s₁ (mkF m 27 #[.val (.ref a1), .val (.int p2), .val (.int (1023 : Int32))] [(.int ((256 : Int32) ||| ((XT.ushr p2 (8 : Int32)) &&& (255 : Int32)))), (.ref a1), (.int x0)])
  refine Goes.of (fun t => XS.iloadN X0.here hx rfl (hb hby d1_27) rfl) ?_
  show Goes p e below KK s₁ (mkF m 28 #[.val (.ref a1), .val (.int p2), .val (.int (1023 : Int32))] [(.int (1023 : Int32)), (.int ((256 : Int32) ||| ((XT.ushr p2 (8 : Int32)) &&& (255 : Int32)))), (.ref a1), (.int x0)])
  refine Goes.of (fun t => XS.iand X0.here hx rfl (hb hby d1_28) rfl) ?_
  show Goes p e below KK s₁ (mkF m 29 #[.val (.ref a1), .val (.int p2), .val (.int (1023 : Int32))] [(.int (((256 : Int32) ||| ((XT.ushr p2 (8 : Int32)) &&& (255 : Int32))) &&& (1023 : Int32))), (.ref a1), (.int x0)])
  refine Goes.of (AI.iaload X0 hx hZ e0 V_a1 (i := i1) (j := (((256 : Int32) ||| ((XT.ushr p2 (8 : Int32)) &&& (255 : Int32))) &&& (1023 : Int32))) (x := x1) (hj1) (hx1) (g := (mkF m 29 #[.val (.ref a1), .val (.int p2), .val (.int (1023 : Int32))] [(.int (((256 : Int32) ||| ((XT.ushr p2 (8 : Int32)) &&& (255 : Int32))) &&& (1023 : Int32))), (.ref a1), (.int x0)])) rfl rfl (hb hby d1_29)) ?_
  show Goes p e below KK s₁ (mkF m 30 #[.val (.ref a1), .val (.int p2), .val (.int (1023 : Int32))] [(.int x1), (.int x0)])
  refine Goes.of (fun t => XT.ixor X0.here hx rfl (hb hby d1_30) rfl) ?_
  show Goes p e below KK s₁ (mkF m 31 #[.val (.ref a1), .val (.int p2), .val (.int (1023 : Int32))] [(.int (x0 ^^^ x1))])
  refine Goes.of (fun t => XS.aloadN X0.here hx rfl (hb hby d1_31) rfl rfl) ?_
  show Goes p e below KK s₁ (mkF m 32 #[.val (.ref a1), .val (.int p2), .val (.int (1023 : Int32))] [(.ref a1), (.int (x0 ^^^ x1))])
  refine Goes.of (fun t => XS.sipush X0.here hx rfl (hb hby d1_32)) ?_
  show Goes p e below KK s₁ (mkF m 35 #[.val (.ref a1), .val (.int p2), .val (.int (1023 : Int32))] [(.int (512 : Int32)), (.ref a1), (.int (x0 ^^^ x1))])
  refine Goes.of (fun t => XS.iloadN X0.here hx rfl (hb hby d1_35) rfl) ?_
  show Goes p e below KK s₁ (mkF m 36 #[.val (.ref a1), .val (.int p2), .val (.int (1023 : Int32))] [(.int p2), (.int (512 : Int32)), (.ref a1), (.int (x0 ^^^ x1))])
  refine Goes.of (fun t => XS.bipush X0.here hx rfl (hb hby d1_36)) ?_
  show Goes p e below KK s₁ (mkF m 38 #[.val (.ref a1), .val (.int p2), .val (.int (1023 : Int32))] [(.int (16 : Int32)), (.int p2), (.int (512 : Int32)), (.ref a1), (.int (x0 ^^^ x1))])
  refine Goes.of (fun t => XT.iushr X0.here hx rfl (hb hby d1_38) rfl) ?_
  show Goes p e below KK s₁ (mkF m 39 #[.val (.ref a1), .val (.int p2), .val (.int (1023 : Int32))] [(.int (XT.ushr p2 (16 : Int32))), (.int (512 : Int32)), (.ref a1), (.int (x0 ^^^ x1))])
  refine Goes.of (fun t => XS.sipush X0.here hx rfl (hb hby d1_39)) ?_
  show Goes p e below KK s₁ (mkF m 42 #[.val (.ref a1), .val (.int p2), .val (.int (1023 : Int32))] [(.int (255 : Int32)), (.int (XT.ushr p2 (16 : Int32))), (.int (512 : Int32)), (.ref a1), (.int (x0 ^^^ x1))])
  refine Goes.of (fun t => XS.iand X0.here hx rfl (hb hby d1_42) rfl) ?_
  show Goes p e below KK s₁ (mkF m 43 #[.val (.ref a1), .val (.int p2), .val (.int (1023 : Int32))] [(.int ((XT.ushr p2 (16 : Int32)) &&& (255 : Int32))), (.int (512 : Int32)), (.ref a1), (.int (x0 ^^^ x1))])
  refine Goes.of (fun t => XT.ior X0.here hx rfl (hb hby d1_43) rfl) ?_
  show Goes p e below KK s₁ (mkF m 44 #[.val (.ref a1), .val (.int p2), .val (.int (1023 : Int32))] [(.int ((512 : Int32) ||| ((XT.ushr p2 (16 : Int32)) &&& (255 : Int32)))), (.ref a1), (.int (x0 ^^^ x1))])
  refine Goes.of (fun t => XS.iloadN X0.here hx rfl (hb hby d1_44) rfl) ?_
  show Goes p e below KK s₁ (mkF m 45 #[.val (.ref a1), .val (.int p2), .val (.int (1023 : Int32))] [(.int (1023 : Int32)), (.int ((512 : Int32) ||| ((XT.ushr p2 (16 : Int32)) &&& (255 : Int32)))), (.ref a1), (.int (x0 ^^^ x1))])
  refine Goes.of (fun t => XS.iand X0.here hx rfl (hb hby d1_45) rfl) ?_
  show Goes p e below KK s₁ (mkF m 46 #[.val (.ref a1), .val (.int p2), .val (.int (1023 : Int32))] [(.int (((512 : Int32) ||| ((XT.ushr p2 (16 : Int32)) &&& (255 : Int32))) &&& (1023 : Int32))), (.ref a1), (.int (x0 ^^^ x1))])
  refine Goes.of (AI.iaload X0 hx hZ e0 V_a1 (i := i2) (j := (((512 : Int32) ||| ((XT.ushr p2 (16 : Int32)) &&& (255 : Int32))) &&& (1023 : Int32))) (x := x2) (hj2) (hx2) (g := (mkF m 46 #[.val (.ref a1), .val (.int p2), .val (.int (1023 : Int32))] [(.int (((512 : Int32) ||| ((XT.ushr p2 (16 : Int32)) &&& (255 : Int32))) &&& (1023 : Int32))), (.ref a1), (.int (x0 ^^^ x1))])) rfl rfl (hb hby d1_46)) ?_
  show Goes p e below KK s₁ (mkF m 47 #[.val (.ref a1), .val (.int p2), .val (.int (1023 : Int32))] [(.int x2), (.int (x0 ^^^ x1))])
  refine Goes.of (fun t => XT.ixor X0.here hx rfl (hb hby d1_47) rfl) ?_
  show Goes p e below KK s₁ (mkF m 48 #[.val (.ref a1), .val (.int p2), .val (.int (1023 : Int32))] [(.int ((x0 ^^^ x1) ^^^ x2))])
  refine Goes.of (fun t => XS.aloadN X0.here hx rfl (hb hby d1_48) rfl rfl) ?_
  show Goes p e below KK s₁ (mkF m 49 #[.val (.ref a1), .val (.int p2), .val (.int (1023 : Int32))] [(.ref a1), (.int ((x0 ^^^ x1) ^^^ x2))])
  refine Goes.of (fun t => XS.sipush X0.here hx rfl (hb hby d1_49)) ?_
  show Goes p e below KK s₁ (mkF m 52 #[.val (.ref a1), .val (.int p2), .val (.int (1023 : Int32))] [(.int (768 : Int32)), (.ref a1), (.int ((x0 ^^^ x1) ^^^ x2))])
  refine Goes.of (fun t => XS.iloadN X0.here hx rfl (hb hby d1_52) rfl) ?_
  show Goes p e below KK s₁ (mkF m 53 #[.val (.ref a1), .val (.int p2), .val (.int (1023 : Int32))] [(.int p2), (.int (768 : Int32)), (.ref a1), (.int ((x0 ^^^ x1) ^^^ x2))])
  refine Goes.of (fun t => XS.bipush X0.here hx rfl (hb hby d1_53)) ?_
  show Goes p e below KK s₁ (mkF m 55 #[.val (.ref a1), .val (.int p2), .val (.int (1023 : Int32))] [(.int (24 : Int32)), (.int p2), (.int (768 : Int32)), (.ref a1), (.int ((x0 ^^^ x1) ^^^ x2))])
  refine Goes.of (fun t => XT.iushr X0.here hx rfl (hb hby d1_55) rfl) ?_
  show Goes p e below KK s₁ (mkF m 56 #[.val (.ref a1), .val (.int p2), .val (.int (1023 : Int32))] [(.int (XT.ushr p2 (24 : Int32))), (.int (768 : Int32)), (.ref a1), (.int ((x0 ^^^ x1) ^^^ x2))])
  refine Goes.of (fun t => XT.ior X0.here hx rfl (hb hby d1_56) rfl) ?_
  show Goes p e below KK s₁ (mkF m 57 #[.val (.ref a1), .val (.int p2), .val (.int (1023 : Int32))] [(.int ((768 : Int32) ||| (XT.ushr p2 (24 : Int32)))), (.ref a1), (.int ((x0 ^^^ x1) ^^^ x2))])
  refine Goes.of (fun t => XS.iloadN X0.here hx rfl (hb hby d1_57) rfl) ?_
  show Goes p e below KK s₁ (mkF m 58 #[.val (.ref a1), .val (.int p2), .val (.int (1023 : Int32))] [(.int (1023 : Int32)), (.int ((768 : Int32) ||| (XT.ushr p2 (24 : Int32)))), (.ref a1), (.int ((x0 ^^^ x1) ^^^ x2))])
  refine Goes.of (fun t => XS.iand X0.here hx rfl (hb hby d1_58) rfl) ?_
  show Goes p e below KK s₁ (mkF m 59 #[.val (.ref a1), .val (.int p2), .val (.int (1023 : Int32))] [(.int (((768 : Int32) ||| (XT.ushr p2 (24 : Int32))) &&& (1023 : Int32))), (.ref a1), (.int ((x0 ^^^ x1) ^^^ x2))])
  refine Goes.of (AI.iaload X0 hx hZ e0 V_a1 (i := i3) (j := (((768 : Int32) ||| (XT.ushr p2 (24 : Int32))) &&& (1023 : Int32))) (x := x3) (hj3) (hx3) (g := (mkF m 59 #[.val (.ref a1), .val (.int p2), .val (.int (1023 : Int32))] [(.int (((768 : Int32) ||| (XT.ushr p2 (24 : Int32))) &&& (1023 : Int32))), (.ref a1), (.int ((x0 ^^^ x1) ^^^ x2))])) rfl rfl (hb hby d1_59)) ?_
  show Goes p e below KK s₁ (mkF m 60 #[.val (.ref a1), .val (.int p2), .val (.int (1023 : Int32))] [(.int x3), (.int ((x0 ^^^ x1) ^^^ x2))])
  refine Goes.of (fun t => XT.ixor X0.here hx rfl (hb hby d1_60) rfl) ?_
  show Goes p e below KK s₁ (mkF m 61 #[.val (.ref a1), .val (.int p2), .val (.int (1023 : Int32))] [(.int (((x0 ^^^ x1) ^^^ x2) ^^^ x3))])
  rw [← hKK]
  refine Goes.retInt X0 hx hlk Bd.returns (hb hby d1_61) ?_ (by decide) (by decide)
  rw [e0]
  exact ⟨rfl, N0, rfl⟩
theorem pn_0 : plainFor (⟨"corbel/structures/LinearProbingHashSetTabulatePinLaw", "law", "(IIIIIJ)Z"⟩ : MethodName) = true := plainFor_of_name (by first | (simp [plainName, overriddenIn]; done) | decide +kernel)
theorem pd_1 : parseMethodDescriptor "([II)I" = some ⟨[(.array .int), .int], some .int⟩ := by decide +kernel
theorem ef_0 (m : MethodId) (x0 : Int32) (x1 : Int32) (x2 : Int32) (x3 : Int32) (x4 : Int32) (x5 : Int64) : entryFrame m #[(.int x0), (.int x1), (.int x2), (.int x3), (.int x4), (.long x5)] maxLocals = mkF m 0 #[.val (.int x0), .val (.int x1), .val (.int x2), .val (.int x3), .val (.int x4), .val (.long x5), .second, .unset, .unset, .unset, .unset, .unset] [] := by first | (simp [entryFrame, mkF, argsToLocals, Value.category, maxLocals]; done) | rfl
def Q0 (Z : State) (p1 : Int32) (p2 : Int32) (p3 : Int32) (p4 : Int32) (p5 : Int32) (q6 : Int64) (h0 : Heap) (n0 : Nat) (v : Option Value) (h : Heap) (L : List Loc) : Prop := v = some (.int 1) ∧ Fr n0 L
set_option maxRecDepth 65536 in
set_option maxHeartbeats 40000000 in
theorem rm0 (l : Launch) (Z : State) (a0 : Array Value) (hw : ∀ d ∈ tables_1, d.before a0 Z = true) (ws : List Jvm.Cond) (p1 : Int32) (p2 : Int32) (p3 : Int32) (p4 : Int32) (p5 : Int32) (q6 : Int64) (h0 : Heap) (n0 : Nat) (Z0 : n0 ≤ h0.size) :
    MetFree l x (head1 (Jvm.Cond.code x code maxLocals ret :: ws) room_1) (fun a U => a = #[(.int p1), (.int p2), (.int p3), (.int p4), (.int p5), (.long q6)] ∧ Z.Warmed39 U.vm ∧ U.heap = h0) (fun _ _ _ _ _ => True) (fun _ U o U' => ∃ v L, o = .returned v ∧ Q0 Z p1 p2 p3 p4 p5 q6 h0 n0 v U'.heap L ∧ FrameEnd U o U' L room_1.cells room_1.slots) := by
  refine MetFree.of_bodySF pn_0 hisR ?_
  intro p e s m args below meth c s₁ Bd hml0 hP hK
  obtain ⟨rfl, hZ, hh⟩ := hP
  have hx := Bd.exec
  have hby := Bd.bytes
  have hml : c.maxLocals = 12 := hml0
  have hown : s.vm.findClass "corbel/structures/LinearProbingHashSetTabulatePinLaw" = some m.cls := findClass_of_methodNamed Bd.named
  have hnm := (name_of_methodNamed Bd.named Bd.method).1
  have hlk : meth.locks = false := BodyLoose.notSynchronized Bd
  have X0 : Stand p l e room_1 s m #[(.int p1), (.int p2), (.int p3), (.int p4), (.int p5), (.long q6)] below meth c s₁ [] 0 0 := Stand.of_body Bd
  have e0 : s₁.heap = h0 := by rw [← hh, Bd.state]; rfl
  have N0 := Fr.nil n0
  show Goes p e below (OwnK s (Q0 Z p1 p2 p3 p4 p5 q6 h0 n0) room_1.cells room_1.slots) s₁ (entryFrame m #[(.int p1), (.int p2), (.int p3), (.int p4), (.int p5), (.long q6)] maxLocals)
  refine Goes.cast (ef_0 m p1 p2 p3 p4 p5 q6) ?_
  generalize hKK : OwnK s (Q0 Z p1 p2 p3 p4 p5 q6 h0 n0) room_1.cells room_1.slots = KK
  show Goes p e below KK s₁ (mkF m 0 #[.val (.int p1), .val (.int p2), .val (.int p3), .val (.int p4), .val (.int p5), .val (.long q6), .second, .unset, .unset, .unset, .unset, .unset] [])
  have w_0 := hw _ (List.mem_of_getElem? (i := 0) rfl)
  have w_1 := hw _ (List.mem_of_getElem? (i := 1) rfl)
  have w_2 := hw _ (List.mem_of_getElem? (i := 2) rfl)
  have w_3 := hw _ (List.mem_of_getElem? (i := 3) rfl)
  have w_4 := hw _ (List.mem_of_getElem? (i := 4) rfl)
  have w_5 := hw _ (List.mem_of_getElem? (i := 5) rfl)
  refine Goes.of (fun t => XS.sipush X0.here hx rfl (hb hby at_0)) ?_
  show Goes p e below KK s₁ (mkF m 3 #[.val (.int p1), .val (.int p2), .val (.int p3), .val (.int p4), .val (.int p5), .val (.long q6), .second, .unset, .unset, .unset, .unset, .unset] [(.int (1024 : Int32))])
  obtain ⟨T1, h1, k1, X1, e1, E1, A1, st1⟩ := newP (aty := .int) X0 hx hZ w_0 e0 (g := (mkF m 3 #[.val (.int p1), .val (.int p2), .val (.int p3), .val (.int p4), .val (.int p5), .val (.long q6), .second, .unset, .unset, .unset, .unset, .unset] [(.int (1024 : Int32))])) rfl (hb hby at_3) rfl (by decide) (cap := 1024) (by decide) (by decide) (by decide) (by decide)
  obtain ⟨b1, g1⟩ : ∃ z, z = h0.size := ⟨_, rfl⟩
  rw [← g1] at A1 st1
  refine Goes.of (st1) ?_
  have g_b1 : n0 ≤ b1 := Nat.le_trans Z0 (Nat.le_of_eq g1.symm)
  have sz_b1 : h0.size ≤ b1 := Nat.le_trans (Keep.refl h0 []).1 (Nat.le_of_eq g1.symm)
  have K1 : Keep h0 h1 [] := (Keep.refl h0 []).ext E1
  have Z1 : n0 ≤ h1.size := Nat.le_trans Z0 E1.1
  have V_b1 : AI Z h1 b1 .int (List.replicate 1024 (0 : Int32)) := AI.fresh (k := 1024) (by simp) (rfl) A1
  show Goes p e below KK T1 (mkF m 5 #[.val (.int p1), .val (.int p2), .val (.int p3), .val (.int p4), .val (.int p5), .val (.long q6), .second, .unset, .unset, .unset, .unset, .unset] [(.ref b1)])
  refine Goes.of (fun t => XS.astore X1.here hx rfl (hb hby at_5) rfl rfl (l' := #[.val (.int p1), .val (.int p2), .val (.int p3), .val (.int p4), .val (.int p5), .val (.long q6), .second, .val (.ref b1), .unset, .unset, .unset, .unset]) rfl) ?_
  show Goes p e below KK T1 (mkF m 7 #[.val (.int p1), .val (.int p2), .val (.int p3), .val (.int p4), .val (.int p5), .val (.long q6), .second, .val (.ref b1), .unset, .unset, .unset, .unset] [])
  refine Goes.of (fun t => XS.aload X1.here hx rfl (hb hby at_7) rfl rfl) ?_
  show Goes p e below KK T1 (mkF m 9 #[.val (.int p1), .val (.int p2), .val (.int p3), .val (.int p4), .val (.int p5), .val (.long q6), .second, .val (.ref b1), .unset, .unset, .unset, .unset] [(.ref b1)])
  refine Goes.of (fun t => XT.lload X1.here hx rfl (hb hby at_9) rfl) ?_
  show Goes p e below KK T1 (mkF m 11 #[.val (.int p1), .val (.int p2), .val (.int p3), .val (.int p4), .val (.int p5), .val (.long q6), .second, .val (.ref b1), .unset, .unset, .unset, .unset] [(.long q6), (.ref b1)])
  refine Goes.of (X1.ldc2Long hx hown (mvT hZ w_1) (g := (mkF m 11 #[.val (.int p1), .val (.int p2), .val (.int p3), .val (.int p4), .val (.int p5), .val (.long q6), .second, .val (.ref b1), .unset, .unset, .unset, .unset] [(.long q6), (.ref b1)])) rfl (hb hby at_11)) ?_
  show Goes p e below KK T1 (mkF m 14 #[.val (.int p1), .val (.int p2), .val (.int p3), .val (.int p4), .val (.int p5), .val (.long q6), .second, .val (.ref b1), .unset, .unset, .unset, .unset] [(.long (1023 : Int64)), (.long q6), (.ref b1)])
  refine Goes.of (fun t => XT.land X1.here hx rfl (hb hby at_14) rfl) ?_
  show Goes p e below KK T1 (mkF m 15 #[.val (.int p1), .val (.int p2), .val (.int p3), .val (.int p4), .val (.int p5), .val (.long q6), .second, .val (.ref b1), .unset, .unset, .unset, .unset] [(.long (q6 &&& (1023 : Int64))), (.ref b1)])
  refine Goes.of (fun t => XT.l2i X1.here hx rfl (hb hby at_15) rfl) ?_
  show Goes p e below KK T1 (mkF m 16 #[.val (.int p1), .val (.int p2), .val (.int p3), .val (.int p4), .val (.int p5), .val (.long q6), .second, .val (.ref b1), .unset, .unset, .unset, .unset] [(.int ((q6 &&& (1023 : Int64)).toInt32)), (.ref b1)])
  generalize e_jd : ((q6 &&& (1023 : Int64)).toInt32) = jd
  show Goes p e below KK T1 (mkF m 16 #[.val (.int p1), .val (.int p2), .val (.int p3), .val (.int p4), .val (.int p5), .val (.long q6), .second, .val (.ref b1), .unset, .unset, .unset, .unset] [(.int jd), (.ref b1)])
  refine Goes.of (fun t => XT.lload X1.here hx rfl (hb hby at_16) rfl) ?_
  show Goes p e below KK T1 (mkF m 18 #[.val (.int p1), .val (.int p2), .val (.int p3), .val (.int p4), .val (.int p5), .val (.long q6), .second, .val (.ref b1), .unset, .unset, .unset, .unset] [(.long q6), (.int jd), (.ref b1)])
  refine Goes.of (fun t => XS.bipush X1.here hx rfl (hb hby at_18)) ?_
  show Goes p e below KK T1 (mkF m 20 #[.val (.int p1), .val (.int p2), .val (.int p3), .val (.int p4), .val (.int p5), .val (.long q6), .second, .val (.ref b1), .unset, .unset, .unset, .unset] [(.int (32 : Int32)), (.long q6), (.int jd), (.ref b1)])
  refine Goes.of (fun t => XT.lushr X1.here hx rfl (hb hby at_20) rfl) ?_
  show Goes p e below KK T1 (mkF m 21 #[.val (.int p1), .val (.int p2), .val (.int p3), .val (.int p4), .val (.int p5), .val (.long q6), .second, .val (.ref b1), .unset, .unset, .unset, .unset] [(.long (XT.ushrL q6 (32 : Int32))), (.int jd), (.ref b1)])
  refine Goes.of (fun t => XT.l2i X1.here hx rfl (hb hby at_21) rfl) ?_
  show Goes p e below KK T1 (mkF m 22 #[.val (.int p1), .val (.int p2), .val (.int p3), .val (.int p4), .val (.int p5), .val (.long q6), .second, .val (.ref b1), .unset, .unset, .unset, .unset] [(.int ((XT.ushrL q6 (32 : Int32)).toInt32)), (.int jd), (.ref b1)])
  generalize e_dv : ((XT.ushrL q6 (32 : Int32)).toInt32) = dv
  show Goes p e below KK T1 (mkF m 22 #[.val (.int p1), .val (.int p2), .val (.int p3), .val (.int p4), .val (.int p5), .val (.long q6), .second, .val (.ref b1), .unset, .unset, .unset, .unset] [(.int dv), (.int jd), (.ref b1)])
  have hd1 : (q6 &&& 1023).toInt = q6.toInt % 2 ^ 10 := Jvm.Kit.i64_mask q6 1023 (k := 10) (by decide) (by decide)
  have hd2 : (q6 &&& 1023).toInt32.toInt = (q6 &&& 1023).toInt := Jvm.Kit.i32_of_i64 (by omega) (by omega)
  rw [e_jd] at hd2
  obtain ⟨md, hmd⟩ : ∃ n : Nat, jd.toInt = (n : Int) := ⟨jd.toInt.toNat, by omega⟩
  obtain ⟨T2, h2, X2, e2, W2, V2, st2⟩ := AI.iastore X1 hx hZ e1 V_b1 (i := md) (j := jd) (hmd) (by rw [List.length_replicate]; omega) (g := (mkF m 22 #[.val (.int p1), .val (.int p2), .val (.int p3), .val (.int p4), .val (.int p5), .val (.long q6), .second, .val (.ref b1), .unset, .unset, .unset, .unset] [(.int dv), (.int jd), (.ref b1)])) rfl rfl (hb hby at_22)
  refine Goes.of (st2) ?_
  have K2 : Keep h0 h2 [] := K1.wr W2 (Or.inr sz_b1)
  have Z2 : n0 ≤ h2.size := Nat.le_trans Z1 (Keep.of_wr W2).1
  have N2 := Fr.snoc X2 N0 g_b1
  have V_b1_2 : AI Z h2 b1 .int ((List.replicate 1024 (0 : Int32)).set md dv) := V2
  show Goes p e below KK T2 (mkF m 23 #[.val (.int p1), .val (.int p2), .val (.int p3), .val (.int p4), .val (.int p5), .val (.long q6), .second, .val (.ref b1), .unset, .unset, .unset, .unset] [])
  refine Goes.of (fun t => XS.iloadN X2.here hx rfl (hb hby at_23) rfl) ?_
  show Goes p e below KK T2 (mkF m 24 #[.val (.int p1), .val (.int p2), .val (.int p3), .val (.int p4), .val (.int p5), .val (.long q6), .second, .val (.ref b1), .unset, .unset, .unset, .unset] [(.int p1)])
  refine Goes.of (fun t => XS.sipush X2.here hx rfl (hb hby at_24)) ?_
  show Goes p e below KK T2 (mkF m 27 #[.val (.int p1), .val (.int p2), .val (.int p3), .val (.int p4), .val (.int p5), .val (.long q6), .second, .val (.ref b1), .unset, .unset, .unset, .unset] [(.int (255 : Int32)), (.int p1)])
  refine Goes.of (fun t => XS.iand X2.here hx rfl (hb hby at_27) rfl) ?_
  show Goes p e below KK T2 (mkF m 28 #[.val (.int p1), .val (.int p2), .val (.int p3), .val (.int p4), .val (.int p5), .val (.long q6), .second, .val (.ref b1), .unset, .unset, .unset, .unset] [(.int (p1 &&& (255 : Int32)))])
  generalize e_i0 : (p1 &&& (255 : Int32)) = i0
  show Goes p e below KK T2 (mkF m 28 #[.val (.int p1), .val (.int p2), .val (.int p3), .val (.int p4), .val (.int p5), .val (.long q6), .second, .val (.ref b1), .unset, .unset, .unset, .unset] [(.int i0)])
  refine Goes.of (fun t => XS.istore X2.here hx rfl (hb hby at_28) rfl (l' := #[.val (.int p1), .val (.int p2), .val (.int p3), .val (.int p4), .val (.int p5), .val (.long q6), .second, .val (.ref b1), .val (.int i0), .unset, .unset, .unset]) rfl) ?_
  show Goes p e below KK T2 (mkF m 30 #[.val (.int p1), .val (.int p2), .val (.int p3), .val (.int p4), .val (.int p5), .val (.long q6), .second, .val (.ref b1), .val (.int i0), .unset, .unset, .unset] [])
  refine Goes.of (fun t => XS.sipush X2.here hx rfl (hb hby at_30)) ?_
  show Goes p e below KK T2 (mkF m 33 #[.val (.int p1), .val (.int p2), .val (.int p3), .val (.int p4), .val (.int p5), .val (.long q6), .second, .val (.ref b1), .val (.int i0), .unset, .unset, .unset] [(.int (256 : Int32))])
  refine Goes.of (fun t => XS.iloadN X2.here hx rfl (hb hby at_33) rfl) ?_
  show Goes p e below KK T2 (mkF m 34 #[.val (.int p1), .val (.int p2), .val (.int p3), .val (.int p4), .val (.int p5), .val (.long q6), .second, .val (.ref b1), .val (.int i0), .unset, .unset, .unset] [(.int p1), (.int (256 : Int32))])
  refine Goes.of (fun t => XS.bipush X2.here hx rfl (hb hby at_34)) ?_
  show Goes p e below KK T2 (mkF m 36 #[.val (.int p1), .val (.int p2), .val (.int p3), .val (.int p4), .val (.int p5), .val (.long q6), .second, .val (.ref b1), .val (.int i0), .unset, .unset, .unset] [(.int (8 : Int32)), (.int p1), (.int (256 : Int32))])
  refine Goes.of (fun t => XT.iushr X2.here hx rfl (hb hby at_36) rfl) ?_
  show Goes p e below KK T2 (mkF m 37 #[.val (.int p1), .val (.int p2), .val (.int p3), .val (.int p4), .val (.int p5), .val (.long q6), .second, .val (.ref b1), .val (.int i0), .unset, .unset, .unset] [(.int (XT.ushr p1 (8 : Int32))), (.int (256 : Int32))])
  refine Goes.of (fun t => XS.sipush X2.here hx rfl (hb hby at_37)) ?_
  show Goes p e below KK T2 (mkF m 40 #[.val (.int p1), .val (.int p2), .val (.int p3), .val (.int p4), .val (.int p5), .val (.long q6), .second, .val (.ref b1), .val (.int i0), .unset, .unset, .unset] [(.int (255 : Int32)), (.int (XT.ushr p1 (8 : Int32))), (.int (256 : Int32))])
  refine Goes.of (fun t => XS.iand X2.here hx rfl (hb hby at_40) rfl) ?_
  show Goes p e below KK T2 (mkF m 41 #[.val (.int p1), .val (.int p2), .val (.int p3), .val (.int p4), .val (.int p5), .val (.long q6), .second, .val (.ref b1), .val (.int i0), .unset, .unset, .unset] [(.int ((XT.ushr p1 (8 : Int32)) &&& (255 : Int32))), (.int (256 : Int32))])
  refine Goes.of (fun t => XS.iadd X2.here hx rfl (hb hby at_41) rfl) ?_
  show Goes p e below KK T2 (mkF m 42 #[.val (.int p1), .val (.int p2), .val (.int p3), .val (.int p4), .val (.int p5), .val (.long q6), .second, .val (.ref b1), .val (.int i0), .unset, .unset, .unset] [(.int ((256 : Int32) + ((XT.ushr p1 (8 : Int32)) &&& (255 : Int32))))])
  generalize e_i1 : ((256 : Int32) + ((XT.ushr p1 (8 : Int32)) &&& (255 : Int32))) = i1
  show Goes p e below KK T2 (mkF m 42 #[.val (.int p1), .val (.int p2), .val (.int p3), .val (.int p4), .val (.int p5), .val (.long q6), .second, .val (.ref b1), .val (.int i0), .unset, .unset, .unset] [(.int i1)])
  refine Goes.of (fun t => XS.istore X2.here hx rfl (hb hby at_42) rfl (l' := #[.val (.int p1), .val (.int p2), .val (.int p3), .val (.int p4), .val (.int p5), .val (.long q6), .second, .val (.ref b1), .val (.int i0), .val (.int i1), .unset, .unset]) rfl) ?_
  show Goes p e below KK T2 (mkF m 44 #[.val (.int p1), .val (.int p2), .val (.int p3), .val (.int p4), .val (.int p5), .val (.long q6), .second, .val (.ref b1), .val (.int i0), .val (.int i1), .unset, .unset] [])
  refine Goes.of (fun t => XS.sipush X2.here hx rfl (hb hby at_44)) ?_
  show Goes p e below KK T2 (mkF m 47 #[.val (.int p1), .val (.int p2), .val (.int p3), .val (.int p4), .val (.int p5), .val (.long q6), .second, .val (.ref b1), .val (.int i0), .val (.int i1), .unset, .unset] [(.int (512 : Int32))])
  refine Goes.of (fun t => XS.iloadN X2.here hx rfl (hb hby at_47) rfl) ?_
  show Goes p e below KK T2 (mkF m 48 #[.val (.int p1), .val (.int p2), .val (.int p3), .val (.int p4), .val (.int p5), .val (.long q6), .second, .val (.ref b1), .val (.int i0), .val (.int i1), .unset, .unset] [(.int p1), (.int (512 : Int32))])
  refine Goes.of (fun t => XS.bipush X2.here hx rfl (hb hby at_48)) ?_
  show Goes p e below KK T2 (mkF m 50 #[.val (.int p1), .val (.int p2), .val (.int p3), .val (.int p4), .val (.int p5), .val (.long q6), .second, .val (.ref b1), .val (.int i0), .val (.int i1), .unset, .unset] [(.int (16 : Int32)), (.int p1), (.int (512 : Int32))])
  refine Goes.of (fun t => XT.iushr X2.here hx rfl (hb hby at_50) rfl) ?_
  show Goes p e below KK T2 (mkF m 51 #[.val (.int p1), .val (.int p2), .val (.int p3), .val (.int p4), .val (.int p5), .val (.long q6), .second, .val (.ref b1), .val (.int i0), .val (.int i1), .unset, .unset] [(.int (XT.ushr p1 (16 : Int32))), (.int (512 : Int32))])
  refine Goes.of (fun t => XS.sipush X2.here hx rfl (hb hby at_51)) ?_
  show Goes p e below KK T2 (mkF m 54 #[.val (.int p1), .val (.int p2), .val (.int p3), .val (.int p4), .val (.int p5), .val (.long q6), .second, .val (.ref b1), .val (.int i0), .val (.int i1), .unset, .unset] [(.int (255 : Int32)), (.int (XT.ushr p1 (16 : Int32))), (.int (512 : Int32))])
  refine Goes.of (fun t => XS.iand X2.here hx rfl (hb hby at_54) rfl) ?_
  show Goes p e below KK T2 (mkF m 55 #[.val (.int p1), .val (.int p2), .val (.int p3), .val (.int p4), .val (.int p5), .val (.long q6), .second, .val (.ref b1), .val (.int i0), .val (.int i1), .unset, .unset] [(.int ((XT.ushr p1 (16 : Int32)) &&& (255 : Int32))), (.int (512 : Int32))])
  refine Goes.of (fun t => XS.iadd X2.here hx rfl (hb hby at_55) rfl) ?_
  show Goes p e below KK T2 (mkF m 56 #[.val (.int p1), .val (.int p2), .val (.int p3), .val (.int p4), .val (.int p5), .val (.long q6), .second, .val (.ref b1), .val (.int i0), .val (.int i1), .unset, .unset] [(.int ((512 : Int32) + ((XT.ushr p1 (16 : Int32)) &&& (255 : Int32))))])
  generalize e_i2 : ((512 : Int32) + ((XT.ushr p1 (16 : Int32)) &&& (255 : Int32))) = i2
  show Goes p e below KK T2 (mkF m 56 #[.val (.int p1), .val (.int p2), .val (.int p3), .val (.int p4), .val (.int p5), .val (.long q6), .second, .val (.ref b1), .val (.int i0), .val (.int i1), .unset, .unset] [(.int i2)])
  refine Goes.of (fun t => XS.istore X2.here hx rfl (hb hby at_56) rfl (l' := #[.val (.int p1), .val (.int p2), .val (.int p3), .val (.int p4), .val (.int p5), .val (.long q6), .second, .val (.ref b1), .val (.int i0), .val (.int i1), .val (.int i2), .unset]) rfl) ?_
  show Goes p e below KK T2 (mkF m 58 #[.val (.int p1), .val (.int p2), .val (.int p3), .val (.int p4), .val (.int p5), .val (.long q6), .second, .val (.ref b1), .val (.int i0), .val (.int i1), .val (.int i2), .unset] [])
  refine Goes.of (fun t => XS.sipush X2.here hx rfl (hb hby at_58)) ?_
  show Goes p e below KK T2 (mkF m 61 #[.val (.int p1), .val (.int p2), .val (.int p3), .val (.int p4), .val (.int p5), .val (.long q6), .second, .val (.ref b1), .val (.int i0), .val (.int i1), .val (.int i2), .unset] [(.int (768 : Int32))])
  refine Goes.of (fun t => XS.iloadN X2.here hx rfl (hb hby at_61) rfl) ?_
  show Goes p e below KK T2 (mkF m 62 #[.val (.int p1), .val (.int p2), .val (.int p3), .val (.int p4), .val (.int p5), .val (.long q6), .second, .val (.ref b1), .val (.int i0), .val (.int i1), .val (.int i2), .unset] [(.int p1), (.int (768 : Int32))])
  refine Goes.of (fun t => XS.bipush X2.here hx rfl (hb hby at_62)) ?_
  show Goes p e below KK T2 (mkF m 64 #[.val (.int p1), .val (.int p2), .val (.int p3), .val (.int p4), .val (.int p5), .val (.long q6), .second, .val (.ref b1), .val (.int i0), .val (.int i1), .val (.int i2), .unset] [(.int (24 : Int32)), (.int p1), (.int (768 : Int32))])
  refine Goes.of (fun t => XT.iushr X2.here hx rfl (hb hby at_64) rfl) ?_
  show Goes p e below KK T2 (mkF m 65 #[.val (.int p1), .val (.int p2), .val (.int p3), .val (.int p4), .val (.int p5), .val (.long q6), .second, .val (.ref b1), .val (.int i0), .val (.int i1), .val (.int i2), .unset] [(.int (XT.ushr p1 (24 : Int32))), (.int (768 : Int32))])
  refine Goes.of (fun t => XS.sipush X2.here hx rfl (hb hby at_65)) ?_
  show Goes p e below KK T2 (mkF m 68 #[.val (.int p1), .val (.int p2), .val (.int p3), .val (.int p4), .val (.int p5), .val (.long q6), .second, .val (.ref b1), .val (.int i0), .val (.int i1), .val (.int i2), .unset] [(.int (255 : Int32)), (.int (XT.ushr p1 (24 : Int32))), (.int (768 : Int32))])
  refine Goes.of (fun t => XS.iand X2.here hx rfl (hb hby at_68) rfl) ?_
  show Goes p e below KK T2 (mkF m 69 #[.val (.int p1), .val (.int p2), .val (.int p3), .val (.int p4), .val (.int p5), .val (.long q6), .second, .val (.ref b1), .val (.int i0), .val (.int i1), .val (.int i2), .unset] [(.int ((XT.ushr p1 (24 : Int32)) &&& (255 : Int32))), (.int (768 : Int32))])
  refine Goes.of (fun t => XS.iadd X2.here hx rfl (hb hby at_69) rfl) ?_
  show Goes p e below KK T2 (mkF m 70 #[.val (.int p1), .val (.int p2), .val (.int p3), .val (.int p4), .val (.int p5), .val (.long q6), .second, .val (.ref b1), .val (.int i0), .val (.int i1), .val (.int i2), .unset] [(.int ((768 : Int32) + ((XT.ushr p1 (24 : Int32)) &&& (255 : Int32))))])
  generalize e_i3 : ((768 : Int32) + ((XT.ushr p1 (24 : Int32)) &&& (255 : Int32))) = i3
  show Goes p e below KK T2 (mkF m 70 #[.val (.int p1), .val (.int p2), .val (.int p3), .val (.int p4), .val (.int p5), .val (.long q6), .second, .val (.ref b1), .val (.int i0), .val (.int i1), .val (.int i2), .unset] [(.int i3)])
  refine Goes.of (fun t => XS.istore X2.here hx rfl (hb hby at_70) rfl (l' := #[.val (.int p1), .val (.int p2), .val (.int p3), .val (.int p4), .val (.int p5), .val (.long q6), .second, .val (.ref b1), .val (.int i0), .val (.int i1), .val (.int i2), .val (.int i3)]) rfl) ?_
  show Goes p e below KK T2 (mkF m 72 #[.val (.int p1), .val (.int p2), .val (.int p3), .val (.int p4), .val (.int p5), .val (.long q6), .second, .val (.ref b1), .val (.int i0), .val (.int i1), .val (.int i2), .val (.int i3)] [])
  refine Goes.of (fun t => XS.aload X2.here hx rfl (hb hby at_72) rfl rfl) ?_
  show Goes p e below KK T2 (mkF m 74 #[.val (.int p1), .val (.int p2), .val (.int p3), .val (.int p4), .val (.int p5), .val (.long q6), .second, .val (.ref b1), .val (.int i0), .val (.int i1), .val (.int i2), .val (.int i3)] [(.ref b1)])
  refine Goes.of (fun t => XS.iload X2.here hx rfl (hb hby at_74) rfl) ?_
  show Goes p e below KK T2 (mkF m 76 #[.val (.int p1), .val (.int p2), .val (.int p3), .val (.int p4), .val (.int p5), .val (.long q6), .second, .val (.ref b1), .val (.int i0), .val (.int i1), .val (.int i2), .val (.int i3)] [(.int i0), (.ref b1)])
  refine Goes.of (fun t => XS.iloadN X2.here hx rfl (hb hby at_76) rfl) ?_
  show Goes p e below KK T2 (mkF m 77 #[.val (.int p1), .val (.int p2), .val (.int p3), .val (.int p4), .val (.int p5), .val (.long q6), .second, .val (.ref b1), .val (.int i0), .val (.int i1), .val (.int i2), .val (.int i3)] [(.int p2), (.int i0), (.ref b1)])
  have mb0 := own_mask p1
  have mb1 := own_mask (XT.ushr p1 8)
  have mb2 := own_mask (XT.ushr p1 16)
  have mb3 := own_mask (XT.ushr p1 24)
  have k1 : (256 : Int32).toInt = 256 := rfl
  have k2 : (512 : Int32).toInt = 512 := rfl
  have k3 : (768 : Int32).toInt = 768 := rfl
  have s1 := own_sum 256 _ mb1 (by decide)
  have s2 := own_sum 512 _ mb2 (by decide)
  have s3 := own_sum 768 _ mb3 (by decide)
  have hj0 : ((p1 &&& 255) &&& (1023 : Int32)).toInt = i0.toInt := by rw [own_and0 mb0.1 mb0.2, ← e_i0]
  have hj1 : (((256 : Int32) ||| (XT.ushr p1 8 &&& 255)) &&& (1023 : Int32)).toInt = i1.toInt := by rw [own_or1 mb1.1 mb1.2, ← e_i1]
  have hj2 : (((512 : Int32) ||| (XT.ushr p1 16 &&& 255)) &&& (1023 : Int32)).toInt = i2.toInt := by rw [own_or2 mb2.1 mb2.2, ← e_i2]
  have hj3 : (((768 : Int32) ||| XT.ushr p1 24) &&& (1023 : Int32)).toInt = i3.toInt := by rw [own_or3 (own_sh p1).1 (own_sh p1).2, ← e_i3, own_and8 (own_sh p1).1 (own_sh p1).2]
  rw [e_i0] at mb0
  rw [e_i1] at s1
  rw [e_i2] at s2
  rw [e_i3] at s3
  obtain ⟨m0, hm0⟩ : ∃ n : Nat, i0.toInt = (n : Int) := ⟨i0.toInt.toNat, by omega⟩
  obtain ⟨m1, hm1⟩ : ∃ n : Nat, i1.toInt = (n : Int) := ⟨i1.toInt.toNat, by omega⟩
  obtain ⟨m2, hm2⟩ : ∃ n : Nat, i2.toInt = (n : Int) := ⟨i2.toInt.toNat, by omega⟩
  obtain ⟨m3, hm3⟩ : ∃ n : Nat, i3.toInt = (n : Int) := ⟨i3.toInt.toNat, by omega⟩
  rw [hm0] at hj0
  rw [hm1] at hj1
  rw [hm2] at hj2
  rw [hm3] at hj3
  obtain ⟨T3, h3, X3, e3, W3, V3, st3⟩ := AI.iastore X2 hx hZ e2 V_b1_2 (i := m0) (j := i0) (hm0) (by simp only [List.length_set, List.length_replicate]; omega) (g := (mkF m 77 #[.val (.int p1), .val (.int p2), .val (.int p3), .val (.int p4), .val (.int p5), .val (.long q6), .second, .val (.ref b1), .val (.int i0), .val (.int i1), .val (.int i2), .val (.int i3)] [(.int p2), (.int i0), (.ref b1)])) rfl rfl (hb hby at_77)
  refine Goes.of (st3) ?_
  have K3 : Keep h0 h3 [] := K2.wr W3 (Or.inr sz_b1)
  have Z3 : n0 ≤ h3.size := Nat.le_trans Z2 (Keep.of_wr W3).1
  have N3 := Fr.snoc X3 N2 g_b1
  have V_b1_3 : AI Z h3 b1 .int (((List.replicate 1024 (0 : Int32)).set md dv).set m0 p2) := V3
  show Goes p e below KK T3 (mkF m 78 #[.val (.int p1), .val (.int p2), .val (.int p3), .val (.int p4), .val (.int p5), .val (.long q6), .second, .val (.ref b1), .val (.int i0), .val (.int i1), .val (.int i2), .val (.int i3)] [])
  refine Goes.of (fun t => XS.aload X3.here hx rfl (hb hby at_78) rfl rfl) ?_
  show Goes p e below KK T3 (mkF m 80 #[.val (.int p1), .val (.int p2), .val (.int p3), .val (.int p4), .val (.int p5), .val (.long q6), .second, .val (.ref b1), .val (.int i0), .val (.int i1), .val (.int i2), .val (.int i3)] [(.ref b1)])
  refine Goes.of (fun t => XS.iload X3.here hx rfl (hb hby at_80) rfl) ?_
  show Goes p e below KK T3 (mkF m 82 #[.val (.int p1), .val (.int p2), .val (.int p3), .val (.int p4), .val (.int p5), .val (.long q6), .second, .val (.ref b1), .val (.int i0), .val (.int i1), .val (.int i2), .val (.int i3)] [(.int i1), (.ref b1)])
  refine Goes.of (fun t => XS.iloadN X3.here hx rfl (hb hby at_82) rfl) ?_
  show Goes p e below KK T3 (mkF m 83 #[.val (.int p1), .val (.int p2), .val (.int p3), .val (.int p4), .val (.int p5), .val (.long q6), .second, .val (.ref b1), .val (.int i0), .val (.int i1), .val (.int i2), .val (.int i3)] [(.int p3), (.int i1), (.ref b1)])
  obtain ⟨T4, h4, X4, e4, W4, V4, st4⟩ := AI.iastore X3 hx hZ e3 V_b1_3 (i := m1) (j := i1) (hm1) (by simp only [List.length_set, List.length_replicate]; omega) (g := (mkF m 83 #[.val (.int p1), .val (.int p2), .val (.int p3), .val (.int p4), .val (.int p5), .val (.long q6), .second, .val (.ref b1), .val (.int i0), .val (.int i1), .val (.int i2), .val (.int i3)] [(.int p3), (.int i1), (.ref b1)])) rfl rfl (hb hby at_83)
  refine Goes.of (st4) ?_
  have K4 : Keep h0 h4 [] := K3.wr W4 (Or.inr sz_b1)
  have Z4 : n0 ≤ h4.size := Nat.le_trans Z3 (Keep.of_wr W4).1
  have N4 := Fr.snoc X4 N3 g_b1
  have V_b1_4 : AI Z h4 b1 .int ((((List.replicate 1024 (0 : Int32)).set md dv).set m0 p2).set m1 p3) := V4
  show Goes p e below KK T4 (mkF m 84 #[.val (.int p1), .val (.int p2), .val (.int p3), .val (.int p4), .val (.int p5), .val (.long q6), .second, .val (.ref b1), .val (.int i0), .val (.int i1), .val (.int i2), .val (.int i3)] [])
  refine Goes.of (fun t => XS.aload X4.here hx rfl (hb hby at_84) rfl rfl) ?_
  show Goes p e below KK T4 (mkF m 86 #[.val (.int p1), .val (.int p2), .val (.int p3), .val (.int p4), .val (.int p5), .val (.long q6), .second, .val (.ref b1), .val (.int i0), .val (.int i1), .val (.int i2), .val (.int i3)] [(.ref b1)])
  refine Goes.of (fun t => XS.iload X4.here hx rfl (hb hby at_86) rfl) ?_
  show Goes p e below KK T4 (mkF m 88 #[.val (.int p1), .val (.int p2), .val (.int p3), .val (.int p4), .val (.int p5), .val (.long q6), .second, .val (.ref b1), .val (.int i0), .val (.int i1), .val (.int i2), .val (.int i3)] [(.int i2), (.ref b1)])
  refine Goes.of (fun t => XS.iloadN X4.here hx rfl (hb hby at_88) rfl) ?_
  show Goes p e below KK T4 (mkF m 89 #[.val (.int p1), .val (.int p2), .val (.int p3), .val (.int p4), .val (.int p5), .val (.long q6), .second, .val (.ref b1), .val (.int i0), .val (.int i1), .val (.int i2), .val (.int i3)] [(.int p4), (.int i2), (.ref b1)])
  obtain ⟨T5, h5, X5, e5, W5, V5, st5⟩ := AI.iastore X4 hx hZ e4 V_b1_4 (i := m2) (j := i2) (hm2) (by simp only [List.length_set, List.length_replicate]; omega) (g := (mkF m 89 #[.val (.int p1), .val (.int p2), .val (.int p3), .val (.int p4), .val (.int p5), .val (.long q6), .second, .val (.ref b1), .val (.int i0), .val (.int i1), .val (.int i2), .val (.int i3)] [(.int p4), (.int i2), (.ref b1)])) rfl rfl (hb hby at_89)
  refine Goes.of (st5) ?_
  have K5 : Keep h0 h5 [] := K4.wr W5 (Or.inr sz_b1)
  have Z5 : n0 ≤ h5.size := Nat.le_trans Z4 (Keep.of_wr W5).1
  have N5 := Fr.snoc X5 N4 g_b1
  have V_b1_5 : AI Z h5 b1 .int (((((List.replicate 1024 (0 : Int32)).set md dv).set m0 p2).set m1 p3).set m2 p4) := V5
  show Goes p e below KK T5 (mkF m 90 #[.val (.int p1), .val (.int p2), .val (.int p3), .val (.int p4), .val (.int p5), .val (.long q6), .second, .val (.ref b1), .val (.int i0), .val (.int i1), .val (.int i2), .val (.int i3)] [])
  refine Goes.of (fun t => XS.aload X5.here hx rfl (hb hby at_90) rfl rfl) ?_
  show Goes p e below KK T5 (mkF m 92 #[.val (.int p1), .val (.int p2), .val (.int p3), .val (.int p4), .val (.int p5), .val (.long q6), .second, .val (.ref b1), .val (.int i0), .val (.int i1), .val (.int i2), .val (.int i3)] [(.ref b1)])
  refine Goes.of (fun t => XS.iload X5.here hx rfl (hb hby at_92) rfl) ?_
  show Goes p e below KK T5 (mkF m 94 #[.val (.int p1), .val (.int p2), .val (.int p3), .val (.int p4), .val (.int p5), .val (.long q6), .second, .val (.ref b1), .val (.int i0), .val (.int i1), .val (.int i2), .val (.int i3)] [(.int i3), (.ref b1)])
  refine Goes.of (fun t => XS.iload X5.here hx rfl (hb hby at_94) rfl) ?_
  show Goes p e below KK T5 (mkF m 96 #[.val (.int p1), .val (.int p2), .val (.int p3), .val (.int p4), .val (.int p5), .val (.long q6), .second, .val (.ref b1), .val (.int i0), .val (.int i1), .val (.int i2), .val (.int i3)] [(.int p5), (.int i3), (.ref b1)])
  obtain ⟨T6, h6, X6, e6, W6, V6, st6⟩ := AI.iastore X5 hx hZ e5 V_b1_5 (i := m3) (j := i3) (hm3) (by simp only [List.length_set, List.length_replicate]; omega) (g := (mkF m 96 #[.val (.int p1), .val (.int p2), .val (.int p3), .val (.int p4), .val (.int p5), .val (.long q6), .second, .val (.ref b1), .val (.int i0), .val (.int i1), .val (.int i2), .val (.int i3)] [(.int p5), (.int i3), (.ref b1)])) rfl rfl (hb hby at_96)
  refine Goes.of (st6) ?_
  have K6 : Keep h0 h6 [] := K5.wr W6 (Or.inr sz_b1)
  have Z6 : n0 ≤ h6.size := Nat.le_trans Z5 (Keep.of_wr W6).1
  have N6 := Fr.snoc X6 N5 g_b1
  have V_b1_6 : AI Z h6 b1 .int ((((((List.replicate 1024 (0 : Int32)).set md dv).set m0 p2).set m1 p3).set m2 p4).set m3 p5) := V6
  show Goes p e below KK T6 (mkF m 97 #[.val (.int p1), .val (.int p2), .val (.int p3), .val (.int p4), .val (.int p5), .val (.long q6), .second, .val (.ref b1), .val (.int i0), .val (.int i1), .val (.int i2), .val (.int i3)] [])
  refine Goes.of (fun t => XS.aload X6.here hx rfl (hb hby at_97) rfl rfl) ?_
  show Goes p e below KK T6 (mkF m 99 #[.val (.int p1), .val (.int p2), .val (.int p3), .val (.int p4), .val (.int p5), .val (.long q6), .second, .val (.ref b1), .val (.int i0), .val (.int i1), .val (.int i2), .val (.int i3)] [(.ref b1)])
  refine Goes.of (fun t => XS.iloadN X6.here hx rfl (hb hby at_99) rfl) ?_
  show Goes p e below KK T6 (mkF m 100 #[.val (.int p1), .val (.int p2), .val (.int p3), .val (.int p4), .val (.int p5), .val (.long q6), .second, .val (.ref b1), .val (.int i0), .val (.int i1), .val (.int i2), .val (.int i3)] [(.int p1), (.ref b1)])
  have hl : (((((((List.replicate 1024 (0 : Int32)).set md dv).set m0 p2).set m1 p3).set m2 p4).set m3 p5) : List Int32).length = 1024 := by simp only [List.length_set, List.length_replicate]
  have hx0 : (((((((List.replicate 1024 (0 : Int32)).set md dv).set m0 p2).set m1 p3).set m2 p4).set m3 p5) : List Int32)[m0]? = some p2 := by rw [List.getElem?_set_ne (by omega), List.getElem?_set_ne (by omega), List.getElem?_set_ne (by omega), List.getElem?_set_self (by simp only [List.length_set, List.length_replicate]; omega)]
  have hx1 : (((((((List.replicate 1024 (0 : Int32)).set md dv).set m0 p2).set m1 p3).set m2 p4).set m3 p5) : List Int32)[m1]? = some p3 := by rw [List.getElem?_set_ne (by omega), List.getElem?_set_ne (by omega), List.getElem?_set_self (by simp only [List.length_set, List.length_replicate]; omega)]
  have hx2 : (((((((List.replicate 1024 (0 : Int32)).set md dv).set m0 p2).set m1 p3).set m2 p4).set m3 p5) : List Int32)[m2]? = some p4 := by rw [List.getElem?_set_ne (by omega), List.getElem?_set_self (by simp only [List.length_set, List.length_replicate]; omega)]
  have hx3 : (((((((List.replicate 1024 (0 : Int32)).set md dv).set m0 p2).set m1 p3).set m2 p4).set m3 p5) : List Int32)[m3]? = some p5 := by rw [List.getElem?_set_self (by simp only [List.length_set, List.length_replicate]; omega)]
  obtain ⟨_, _, ⟨T7, L7, k7, n7⟩, -, X7, ⟨Lc7, hQ7, l7, y7, z7⟩, st7⟩ := Jvm.LawKit.callS X6 hx (y := (⟨"corbel/structures/LinearProbingHashSet", "tabulate", "([II)I"⟩ : MethodName)) hown (mvT hZ w_2) (mvT hZ w_3) (mvT hZ w_4) (mvT hZ w_5) (by decide) (backOf (W := 0) (rm1 l Z a0 hw [] b1 p1 ((((((List.replicate 1024 (0 : Int32)).set md dv).set m0 p2).set m1 p3).set m2 p4).set m3 p5) m0 m1 m2 m3 p2 p3 p4 p5 h6 n0 Z6 V_b1_6 hl hj0 hx0 hj1 hx1 hj2 hx2 hj3 hx3) hZ w_5 w_4 (by decide) (by decide)) (g := (mkF m 100 #[.val (.int p1), .val (.int p2), .val (.int p3), .val (.int p4), .val (.int p5), .val (.long q6), .second, .val (.ref b1), .val (.int i0), .val (.int i1), .val (.int i2), .val (.int i3)] [(.int p1), (.ref b1)])) rfl (by rw [hml]; rfl) (argsL := [(.ref b1), (.int p1)]) (rest := []) (lenOf pd_1 rfl) rfl (by show 2 * 0 + _ ≤ _; exact Nat.le_of_eq rfl) (hb hby at_100) (fun _ _ => ⟨rfl, e6, (by decide : 1 + 0 ≤ _), (by decide : 1024 + 0 ≤ _)⟩)
  dsimp only [Pt.U, Pt.locs, Pt.cells, Pt.slots] at X7 l7 y7 z7 st7 hQ7
  subst l7 y7 z7
  obtain ⟨rfl, N7q, e7⟩ := hQ7
  have N7 := Fr.app N6 N7q
  refine Goes.of st7 ?_
  show Goes p e below KK T7 (mkF m 103 #[.val (.int p1), .val (.int p2), .val (.int p3), .val (.int p4), .val (.int p5), .val (.long q6), .second, .val (.ref b1), .val (.int i0), .val (.int i1), .val (.int i2), .val (.int i3)] [(.int (((p2 ^^^ p3) ^^^ p4) ^^^ p5))])
  refine Goes.of (fun t => XS.iloadN X7.here hx rfl (hb hby at_103) rfl) ?_
  show Goes p e below KK T7 (mkF m 104 #[.val (.int p1), .val (.int p2), .val (.int p3), .val (.int p4), .val (.int p5), .val (.long q6), .second, .val (.ref b1), .val (.int i0), .val (.int i1), .val (.int i2), .val (.int i3)] [(.int p2), (.int (((p2 ^^^ p3) ^^^ p4) ^^^ p5))])
  refine Goes.of (fun t => XS.iloadN X7.here hx rfl (hb hby at_104) rfl) ?_
  show Goes p e below KK T7 (mkF m 105 #[.val (.int p1), .val (.int p2), .val (.int p3), .val (.int p4), .val (.int p5), .val (.long q6), .second, .val (.ref b1), .val (.int i0), .val (.int i1), .val (.int i2), .val (.int i3)] [(.int p3), (.int p2), (.int (((p2 ^^^ p3) ^^^ p4) ^^^ p5))])
  refine Goes.of (fun t => XT.ixor X7.here hx rfl (hb hby at_105) rfl) ?_
  show Goes p e below KK T7 (mkF m 106 #[.val (.int p1), .val (.int p2), .val (.int p3), .val (.int p4), .val (.int p5), .val (.long q6), .second, .val (.ref b1), .val (.int i0), .val (.int i1), .val (.int i2), .val (.int i3)] [(.int (p2 ^^^ p3)), (.int (((p2 ^^^ p3) ^^^ p4) ^^^ p5))])
  refine Goes.of (fun t => XS.iloadN X7.here hx rfl (hb hby at_106) rfl) ?_
  show Goes p e below KK T7 (mkF m 107 #[.val (.int p1), .val (.int p2), .val (.int p3), .val (.int p4), .val (.int p5), .val (.long q6), .second, .val (.ref b1), .val (.int i0), .val (.int i1), .val (.int i2), .val (.int i3)] [(.int p4), (.int (p2 ^^^ p3)), (.int (((p2 ^^^ p3) ^^^ p4) ^^^ p5))])
  refine Goes.of (fun t => XT.ixor X7.here hx rfl (hb hby at_107) rfl) ?_
  show Goes p e below KK T7 (mkF m 108 #[.val (.int p1), .val (.int p2), .val (.int p3), .val (.int p4), .val (.int p5), .val (.long q6), .second, .val (.ref b1), .val (.int i0), .val (.int i1), .val (.int i2), .val (.int i3)] [(.int ((p2 ^^^ p3) ^^^ p4)), (.int (((p2 ^^^ p3) ^^^ p4) ^^^ p5))])
  refine Goes.of (fun t => XS.iload X7.here hx rfl (hb hby at_108) rfl) ?_
  show Goes p e below KK T7 (mkF m 110 #[.val (.int p1), .val (.int p2), .val (.int p3), .val (.int p4), .val (.int p5), .val (.long q6), .second, .val (.ref b1), .val (.int i0), .val (.int i1), .val (.int i2), .val (.int i3)] [(.int p5), (.int ((p2 ^^^ p3) ^^^ p4)), (.int (((p2 ^^^ p3) ^^^ p4) ^^^ p5))])
  refine Goes.of (fun t => XT.ixor X7.here hx rfl (hb hby at_110) rfl) ?_
  show Goes p e below KK T7 (mkF m 111 #[.val (.int p1), .val (.int p2), .val (.int p3), .val (.int p4), .val (.int p5), .val (.long q6), .second, .val (.ref b1), .val (.int i0), .val (.int i1), .val (.int i2), .val (.int i3)] [(.int (((p2 ^^^ p3) ^^^ p4) ^^^ p5)), (.int (((p2 ^^^ p3) ^^^ p4) ^^^ p5))])
  refine Goes.of (fun t => XS.icmpNo X7.here hx rfl (hb hby at_111) rfl (teq (show (((p2 ^^^ p3) ^^^ p4) ^^^ p5) = (((p2 ^^^ p3) ^^^ p4) ^^^ p5) from rfl)).2) ?_
  show Goes p e below KK T7 (mkF m 114 #[.val (.int p1), .val (.int p2), .val (.int p3), .val (.int p4), .val (.int p5), .val (.long q6), .second, .val (.ref b1), .val (.int i0), .val (.int i1), .val (.int i2), .val (.int i3)] [])
  refine Goes.of (fun t => XS.iconst X7.here hx rfl (hb hby at_114)) ?_
  show Goes p e below KK T7 (mkF m 115 #[.val (.int p1), .val (.int p2), .val (.int p3), .val (.int p4), .val (.int p5), .val (.long q6), .second, .val (.ref b1), .val (.int i0), .val (.int i1), .val (.int i2), .val (.int i3)] [(.int (1 : Int32))])
  refine Goes.of (fun t => XS.goto X7.here hx rfl (pc0 := 115) (pc' := 119) rfl (hb hby at_115) (by decide) (by decide)) ?_
  show Goes p e below KK T7 (mkF m 119 #[.val (.int p1), .val (.int p2), .val (.int p3), .val (.int p4), .val (.int p5), .val (.long q6), .second, .val (.ref b1), .val (.int i0), .val (.int i1), .val (.int i2), .val (.int i3)] [(.int (1 : Int32))])
  rw [← hKK]
  refine Goes.retNar X7 hx hlk (t := .boolean) (by simp) Bd.returns (hb hby at_119) ?_ (by decide) (by decide)
  rw [e7]
  exact ⟨rfl, N7⟩
set_option maxRecDepth 65536 in
set_option maxHeartbeats 40000000 in
theorem comes_1 {Post : Tables → Env → Array Value → State → Outcome → State → Prop} (hpost : ∀ tb e args s v u, (limb_1_1.after args s (.returned v) u = true ∧ limb_1_2.after args s (.returned v) u = true ∧ True) → FrameEnd s (.returned v) u (Jvm.fieldLocs frame_1_writes args s ++ Jvm.arrayLocs frame_1_arrays args s ++ Jvm.staticLocs frame_1_statics s) 16 2112 → Post tb e args s (.returned v) u) :
    ArmFor flags0 classFile x code maxLocals ret World_1 tables_1 room_1 Calls_1 rest_1 Pre_1 Post := by
  intro l hfl _ _ p e ha hc hk s m args below hf hA hF happ hP
  obtain ⟨hcalls, hrest, hpre⟩ := hP
  obtain ⟨-, -, -, hnamed, -, -, -, hat⟩ := (Spec.applies_iff hf).mp happ
  obtain ⟨hg, hn⟩ := and_e (Cond.before_iff.mp (show (Jvm.Cond.and given_1 narrow_1).before args s = true from hpre))
  obtain ⟨hgc, hr0⟩ := and_e hg
  obtain ⟨hg0, hr1⟩ := and_e hr0
  obtain ⟨hg1, hr2⟩ := and_e hr1
  obtain ⟨hg2, hr3⟩ := and_e hr2
  obtain ⟨hg3, hr4⟩ := and_e hr3
  obtain ⟨hg4, hr5⟩ := and_e hr4
  have hg5 := hr5
  obtain ⟨w0, w1, w2, w3, w4, w5, rfl⟩ : ∃ w0 w1 w2 w3 w4 w5 : Value, args = #[w0, w1, w2, w3, w4, w5] := by
    have hs : args.size = 6 := by simpa [Cond.value, given_1] using hgc
    obtain ⟨L⟩ := args
    match L, hs with
    | [w0, w1, w2, w3, w4, w5], _ => exact ⟨w0, w1, w2, w3, w4, w5, rfl⟩
  have hw := fun d (hd : d ∈ tables_1) => atoms_spec (ws := Jvm.Cond.code x code maxLocals ret :: tables_1) hat d (List.mem_cons_of_mem _ hd)
  have hfit : Fit s := fun {y c} hc i hi => by
    obtain ⟨ha, rfl⟩ := Array.getElem?_eq_some_iff.mp hc
    have q := List.all_eq_true.mp ((Array.all_eq_true_iff_forall_mem.mp hF) _ (Array.getElem_mem ha)) i (List.mem_range.mpr hi)
    simpa [Array.getElem?_eq_getElem hi] using q
  obtain ⟨i0, ei0⟩ := is_v hg0
  obtain rfl : w0 = (.int i0) := Option.some.inj ei0
  obtain ⟨i1, ei1⟩ := is_v hg1
  obtain rfl : w1 = (.int i1) := Option.some.inj ei1
  obtain ⟨i2, ei2⟩ := is_v hg2
  obtain rfl : w2 = (.int i2) := Option.some.inj ei2
  obtain ⟨i3, ei3⟩ := is_v hg3
  obtain rfl : w3 = (.int i3) := Option.some.inj ei3
  obtain ⟨i4, ei4⟩ := is_v hg4
  obtain rfl : w4 = (.int i4) := Option.some.inj ei4
  obtain ⟨i5, ei5⟩ := isL_v hg5
  obtain rfl : w5 = (.long i5) := Option.some.inj ei5
  obtain ⟨n, o, h1, h2, h3, _, L, rfl, ⟨rfl, N⟩, hq⟩ := rm0 l s _ hw tables_1 i0 i1 i2 i3 i4 i5  s.heap s.heap.size (Nat.le_refl _)  p e ha hc hk s m _ below hf ((Spec.applies_iff_loose hf).mp happ).1 ⟨rfl, State.Warmed39.refl s, rfl⟩ trivial
  refine ⟨n, _, h1, h2, h3, hpost _ _ _ _ _ _ ⟨Cond.after_iff.mpr rfl, Cond.after_iff.mpr (eq_i res_at (Term.int_eval (1)) rfl), trivial⟩ ⟨hq.1, hq.2.1, (hq.2.2.sift fun y hy => Or.inr (N y hy)).mono (by decide) (by decide)⟩⟩
theorem main_1_1 : Claimed_1_1 := comes_1 fun _ _ _ _ _ _ h hF => ⟨h.1, hF⟩
theorem main_1_2 : Claimed_1_2 := comes_1 fun _ _ _ _ _ _ h hF => ⟨h.2.1, hF⟩
end Jvm.Pilot.@@N@@
namespace Jvm.Pilot.@@N@@
open Jvm Jvm.ClassFile Sem Op Lib Jvm.Free Jvm.Stand Jvm.Pilot.@@N@@.Jvm.D
/-! MADE BY PROGRAM (witnessworld.py) out of the Statement's table words and the real class files: 14 classes; the members and pool entries that the words name. The judged class is class 1, her method 1. -/
namespace start1
open Jvm.ClassFile
def u (s : String) : CpInfo := .utf8 (stringToUtf16 s)
/-- a pool by its gaps: so many unusable entries, then the entry; so many at the end -/
def gap : Nat → List CpInfo → List CpInfo
  | 0, r => r
  | n + 1, r => .unusable :: gap n r
def poolList (es : List (Nat × CpInfo)) (last : Nat) : List CpInfo := es.foldr (fun e r => gap e.1 (e.2 :: r)) (gap last [])
def pool (es : List (Nat × CpInfo)) (last : Nat) : Array CpInfo := ⟨poolList es last⟩
def fileOf (pool : Array CpInfo) (this : Nat) (attrs : Array Attribute := #[]) (ms : Array MethodInfo := #[]) (fl : Nat := 33) (sup : Nat := 0) (ifs : Array Nat := #[]) (fds : Array FieldInfo := #[]) : ClassFile where
  minorVersion := 0
  majorVersion := 65
  constantPool := pool
  accessFlags := fl
  thisClass := this
  superClass := sup
  interfaces := ifs
  fields := fds
  methods := ms
  attributes := attrs
def plain (name : String) (sup : Option ClassId) : Class where
  name := name
  kind := .ordinary
  loader := none
  accessFlags := 33
  super := sup
  interfaces := #[]
  cf := none
  fields := #[]
  methods := #[]
  instanceTypes := #[]
  staticTypes := #[]
  resolved := #[]
  callSites := []
  init := .initialized
  statics := none
  mirror := none

def pool0 : Array CpInfo := pool [(5, u "<init>"), (0, u "()V"), (1, .class_ 10), (1, u "java/lang/Object")] 113

def k0m0 : Method := { name := "<init>", desc := "()V", sig := { parameters := [], returnType := none }, accessFlags := 1, code := none }
/-- java/lang/Object -/
def k0 : Class := { plain "java/lang/Object" none with
  accessFlags := 33
  interfaces := #[]
  cf := some (fileOf pool0 8 #[] #[{ accessFlags := 1, nameIndex := 5, descriptorIndex := 6, attributes := #[] }] 33 0 #[] #[])
  fields := #[]
  methods := #[k0m0]
  instanceTypes := #[]
  staticTypes := #[]
  resolved := Array.replicate 124 none
  statics := none }

def pool1 : Array CpInfo := pool [(2, .class_ 4), (1, u "java/lang/Object"), (0, u "<init>"), (0, u "()V"), (0, .long 1023), (1, .methodref 10 11), (0, .class_ 12), (0, .nameAndType 13 14), (0, u "corbel/structures/LinearProbingHashSet"), (0, u "tabulate"), (0, u "([II)I"), (0, .class_ 16), (0, u "corbel/structures/LinearProbingHashSetTabulatePinLaw"), (2, u "law"), (0, u "(IIIIIJ)Z")] 5

def k1m0 : Method := { name := "<init>", desc := "()V", sig := { parameters := [], returnType := none }, accessFlags := 1, code := none }
def k1c1 : Code := { maxStack := 5, maxLocals := 12, code := code, exceptionTable := #[], attributes := #[] }
def k1m1 : Method := { name := "law", desc := "(IIIIIJ)Z", sig := { parameters := [.int, .int, .int, .int, .int, .long], returnType := some .boolean }, accessFlags := 9, code := some k1c1 }
/-- corbel/structures/LinearProbingHashSetTabulatePinLaw -/
def k1 : Class := { plain "corbel/structures/LinearProbingHashSetTabulatePinLaw" (some 0) with
  accessFlags := 49
  interfaces := #[]
  cf := some (fileOf pool1 15 #[] #[{ accessFlags := 1, nameIndex := 5, descriptorIndex := 6, attributes := #[] }, { accessFlags := 9, nameIndex := 19, descriptorIndex := 20, attributes := #[] }] 49 2 #[] #[])
  fields := #[]
  methods := #[k1m0, k1m1]
  instanceTypes := #[]
  staticTypes := #[]
  resolved := Array.replicate 26 none
  statics := none }

def pool2 : Array CpInfo := pool [(8, .class_ 10), (1, u "java/lang/Iterable"), (24, .class_ 36), (0, u "java/lang/Object")] 25

/-- java/lang/Iterable -/
def k2 : Class := { plain "java/lang/Iterable" (some 0) with
  accessFlags := 1537
  interfaces := #[]
  cf := some (fileOf pool2 8 #[] #[] 1537 35 #[] #[])
  fields := #[]
  methods := #[]
  instanceTypes := #[]
  staticTypes := #[]
  resolved := Array.replicate 62 none
  statics := none }

def pool3 : Array CpInfo := pool [(10, .class_ 12), (1, u "java/util/Collection"), (47, .class_ 61), (0, u "java/lang/Object"), (0, .class_ 63), (0, u "java/lang/Iterable")] 51

/-- java/util/Collection -/
def k3 : Class := { plain "java/util/Collection" (some 0) with
  accessFlags := 1537
  interfaces := #[2]
  cf := some (fileOf pool3 10 #[] #[] 1537 60 #[62] #[])
  fields := #[]
  methods := #[]
  instanceTypes := #[]
  staticTypes := #[]
  resolved := Array.replicate 115 none
  statics := none }

def pool4 : Array CpInfo := pool [(2, .class_ 4), (1, u "java/lang/Object"), (0, u "<init>"), (0, u "()V"), (1, .class_ 10), (1, u "java/util/AbstractCollection"), (66, .class_ 78), (0, u "java/util/Collection")] 81

def k4m0 : Method := { name := "<init>", desc := "()V", sig := { parameters := [], returnType := none }, accessFlags := 4, code := none }
/-- java/util/AbstractCollection -/
def k4 : Class := { plain "java/util/AbstractCollection" (some 0) with
  accessFlags := 1057
  interfaces := #[3]
  cf := some (fileOf pool4 8 #[] #[{ accessFlags := 4, nameIndex := 5, descriptorIndex := 6, attributes := #[] }] 1057 2 #[77] #[])
  fields := #[]
  methods := #[k4m0]
  instanceTypes := #[]
  staticTypes := #[]
  resolved := Array.replicate 160 none
  statics := none }

def pool5 : Array CpInfo := pool [(26, .class_ 27), (0, u "java/lang/Object"), (5, .class_ 34), (0, u "java/util/Set"), (1, .class_ 38), (1, u "java/util/Collection")] 105

/-- java/util/Set -/
def k5 : Class := { plain "java/util/Set" (some 0) with
  accessFlags := 1537
  interfaces := #[3]
  cf := some (fileOf pool5 33 #[] #[] 1537 26 #[36] #[])
  fields := #[]
  methods := #[]
  instanceTypes := #[]
  staticTypes := #[]
  resolved := Array.replicate 144 none
  statics := none }

def pool6 : Array CpInfo := pool [(2, .class_ 4), (1, u "java/util/AbstractCollection"), (0, u "<init>"), (0, u "()V"), (0, .class_ 8), (0, u "java/util/Set"), (7, .class_ 17), (0, u "java/util/AbstractSet")] 78

def k6m0 : Method := { name := "<init>", desc := "()V", sig := { parameters := [], returnType := none }, accessFlags := 4, code := none }
/-- java/util/AbstractSet -/
def k6 : Class := { plain "java/util/AbstractSet" (some 4) with
  accessFlags := 1057
  interfaces := #[5]
  cf := some (fileOf pool6 16 #[] #[{ accessFlags := 4, nameIndex := 5, descriptorIndex := 6, attributes := #[] }] 1057 2 #[7] #[])
  fields := #[]
  methods := #[k6m0]
  instanceTypes := #[]
  staticTypes := #[]
  resolved := Array.replicate 96 none
  statics := none }

def pool7 : Array CpInfo := pool [(5, u "<init>"), (0, u "()V"), (1, .class_ 10), (1, u "corbel/structures/LinearProbingHashSet"), (5, .class_ 17), (0, u "java/util/AbstractSet"), (2, u "tabulation"), (0, u "[I"), (10, u "capacity"), (0, u "I"), (6, u "size"), (44, u "used"), (6, u "modCount"), (17, .class_ 111), (0, u "corbel/structures/LinearProbingHashSet$Table"), (11, u "pages"), (0, u "[[Ljava/lang/Object;"), (18, u "tabulate"), (0, u "([II)I"), (2, u "shift"), (72, u "MIN_CAPACITY"), (2, u "MAX_CAPACITY"), (1, u "CROWD"), (25, .class_ 252), (0, u "corbel/structures/LinearProbingHashSet$BinWalk")] 25

def k7m0 : Method := { name := "<init>", desc := "()V", sig := { parameters := [], returnType := none }, accessFlags := 1, code := none }
def k7c1 : Code := { maxStack := 5, maxLocals := 3, code := prog_18_method_15_code, exceptionTable := #[], attributes := #[] }
def k7m1 : Method := { name := "tabulate", desc := "([II)I", sig := { parameters := [(.array .int), .int], returnType := some .int }, accessFlags := 8, code := some k7c1 }
/-- corbel/structures/LinearProbingHashSet -/
def k7 : Class := { plain "corbel/structures/LinearProbingHashSet" (some 6) with
  accessFlags := 33
  interfaces := #[]
  cf := some (fileOf pool7 8 #[.nestMembers #[251, 110]] #[{ accessFlags := 1, nameIndex := 5, descriptorIndex := 6, attributes := #[] }, { accessFlags := 8, nameIndex := 143, descriptorIndex := 144, attributes := #[] }] 33 16 #[] #[{ accessFlags := 26, nameIndex := 220, descriptorIndex := 33, attributes := #[] }, { accessFlags := 26, nameIndex := 223, descriptorIndex := 33, attributes := #[] }, { accessFlags := 26, nameIndex := 225, descriptorIndex := 33, attributes := #[] }, { accessFlags := 18, nameIndex := 20, descriptorIndex := 21, attributes := #[] }, { accessFlags := 2, nameIndex := 123, descriptorIndex := 124, attributes := #[] }, { accessFlags := 2, nameIndex := 32, descriptorIndex := 33, attributes := #[] }, { accessFlags := 2, nameIndex := 147, descriptorIndex := 33, attributes := #[] }, { accessFlags := 2, nameIndex := 40, descriptorIndex := 33, attributes := #[] }, { accessFlags := 2, nameIndex := 85, descriptorIndex := 33, attributes := #[] }, { accessFlags := 2, nameIndex := 92, descriptorIndex := 33, attributes := #[] }])
  fields := #[{ name := "MIN_CAPACITY", type := .int, accessFlags := 26, slot := 0, constantValue := 0 }, { name := "MAX_CAPACITY", type := .int, accessFlags := 26, slot := 1, constantValue := 0 }, { name := "CROWD", type := .int, accessFlags := 26, slot := 2, constantValue := 0 }, { name := "tabulation", type := (.array .int), accessFlags := 18, slot := 0, constantValue := 0 }, { name := "pages", type := (.array (.array (.object "java/lang/Object"))), accessFlags := 2, slot := 1, constantValue := 0 }, { name := "capacity", type := .int, accessFlags := 2, slot := 2, constantValue := 0 }, { name := "shift", type := .int, accessFlags := 2, slot := 3, constantValue := 0 }, { name := "size", type := .int, accessFlags := 2, slot := 4, constantValue := 0 }, { name := "used", type := .int, accessFlags := 2, slot := 5, constantValue := 0 }, { name := "modCount", type := .int, accessFlags := 2, slot := 6, constantValue := 0 }]
  methods := #[k7m0, k7m1]
  instanceTypes := #[(.array .int), (.array (.array (.object "java/lang/Object"))), .int, .int, .int, .int, .int]
  staticTypes := #[.int, .int, .int]
  resolved := Array.replicate 278 none
  statics := none }

def pool8 : Array CpInfo := pool [(1, u "java/lang/Cloneable"), (0, .class_ 1), (0, u "java/lang/Object"), (0, .class_ 3)] 3

/-- java/lang/Cloneable -/
def k8 : Class := { plain "java/lang/Cloneable" (some 0) with
  accessFlags := 1537
  interfaces := #[]
  cf := some (fileOf pool8 2 #[] #[] 1537 4 #[] #[])
  fields := #[]
  methods := #[]
  instanceTypes := #[]
  staticTypes := #[]
  resolved := Array.replicate 8 none
  statics := none }

def pool9 : Array CpInfo := pool [(1, u "java/io/Serializable"), (0, .class_ 1), (0, u "java/lang/Object"), (0, .class_ 3)] 3

/-- java/io/Serializable -/
def k9 : Class := { plain "java/io/Serializable" (some 0) with
  accessFlags := 1537
  interfaces := #[]
  cf := some (fileOf pool9 2 #[] #[] 1537 4 #[] #[])
  fields := #[]
  methods := #[]
  instanceTypes := #[]
  staticTypes := #[]
  resolved := Array.replicate 8 none
  statics := none }

/-- the primitive byte -/
def k10 : Class := { plain "byte" none with kind := .primitive 'B', accessFlags := 0x411 }
/-- [B -/
def k11 : Class := { plain "[B" (some 0) with kind := .array 10 .byte, interfaces := #[8, 9], accessFlags := 1041 }

/-- the primitive int -/
def k12 : Class := { plain "int" none with kind := .primitive 'I', accessFlags := 0x411 }
/-- [I -/
def k13 : Class := { plain "[I" (some 0) with kind := .array 12 .int, interfaces := #[8, 9], accessFlags := 1041 }

def heap : Heap := #[]
def classes : Array Class := #[k0, k1, k2, k3, k4, k5, k6, k7, k8, k9, k10, k11, k12, k13]
def interned : List (Array UInt16 × Addr) := []
def slotsUsed : Nat := 0
def theMethod : MethodId := ⟨1, 1⟩
def args0 : Array Value := #[.int 5, .int 3, .int 2, .int 1, .int 4, .long 7]
def aboutOver (below : List Frame) : State where
  vm := { classes := classes, interned := interned.toArray }
  heap := heap
  slotsUsed := slotsUsed
  threads := #[{ frames := .invoking theMethod args0 :: below }]
def below0 : List Frame := [.native { method := ⟨0, 0⟩, args := #[] }]
def about1 : State := aboutOver below0
def p0 : Program := .bare "" "" ""
def e0 : Env := launch0.env 0 0 0
theorem w_frames : about1.frames = Frame.invoking theMethod args0 :: below0 := rfl
set_option maxRecDepth 65536 in
theorem w_args : argsFit about1.vm theMethod args0 = true := by decide +kernel
set_option maxRecDepth 65536 in
theorem w_heap : heapFits about1 = true := by decide +kernel
set_option maxRecDepth 65536 in
theorem w_runnable : about1.curStatus? = some .runnable := by decide +kernel
set_option maxRecDepth 65536 in
theorem w_alone : about1.alone = true := by decide +kernel
set_option maxRecDepth 65536 in
theorem w_named : about1.methodNamed? x = some theMethod := by decide +kernel
set_option maxRecDepth 65536 in
theorem w_hears : about1.hears theMethod below0 = true := by decide +kernel
set_option maxRecDepth 65536 in
theorem w_ripe : about1.ripe theMethod args0 below0 = true := by decide +kernel
theorem w_running : about1.status = .running := rfl
set_option maxRecDepth 65536 in
theorem w_room : about1.hasRoom e0.platform room_1 = true :=
  launch0.hasRoom_least _ room_1 (by decide +kernel) (by decide +kernel) (by decide +kernel) (by decide +kernel) (by decide +kernel) (by decide +kernel)
theorem allAtoms_all (ts : List Jvm.Cond) (a : Array Jvm.Value) (st : Jvm.State) : (allAtoms ts).before a st = ts.all (fun c => c.before a st) := by
  induction ts with
  | nil => rfl
  | cons c t ih =>
    show (Jvm.Cond.and c (allAtoms t)).before a st = _
    rw [Jvm.Cond.before_and, ih, List.all_cons]
def words1 : List Jvm.Cond := Jvm.Cond.code x code maxLocals ret :: tables_1
/-- a 'code' word, met by the world's own term for the bytes: nothing is compared byte by byte -/
theorem code_word {y : MethodName} {bytes : ByteArray} {mx : Nat} {rt : Option FieldType} {a : Array Value} {s : State} {m : MethodId} {meth : Method} {c : Code} (h1 : s.methodNamed? y = some m) (h2 : s.vm.method? m = some meth) (h3 : meth.code = some c) (h4 : c.code = bytes)
    (h5 : (c.maxLocals == mx && c.exceptionTable.isEmpty && decide (c.maxStack ≤ mostOperands) && decide (meth.sig.returnType = rt) && !meth.locks && decide (parseMethodDescriptor y.desc = some meth.sig)) = true) : (Jvm.Cond.code y bytes mx rt).before a s = true := by
  simp only [Bool.and_eq_true, beq_iff_eq, Bool.not_eq_true', decide_eq_true_eq] at h5
  obtain ⟨⟨⟨⟨⟨g1, g2⟩, g3⟩, g4⟩, g5⟩, g6⟩ := h5
  simp [Cond.before, Cond.holds, Cond.value, h1, h2, h3, h4, g1, g2, g3, g4, g5, g6]
def isCode : Jvm.Cond → Bool
  | .code _ _ _ _ => true
  | _ => false
theorem all_split {L : List Jvm.Cond} {P : Jvm.Cond → Bool} (h1 : L.all (fun c => isCode c || P c) = true) (h2 : ∀ c ∈ L.filter isCode, P c = true) : L.all P = true := by
  refine List.all_eq_true.mpr fun c hc => ?_
  have h := List.all_eq_true.mp h1 c hc
  rcases Bool.eq_false_or_eq_true (isCode c) with hi | hi
  · exact h2 c (List.mem_filter.mpr ⟨hc, hi⟩)
  · simpa [hi] using h
set_option maxRecDepth 65536 in
theorem w_c0 : (Jvm.Cond.code x code maxLocals ret).before args0 about1 = true := code_word (m := ⟨1, 1⟩) (meth := k1m1) (c := k1c1) (by decide +kernel) rfl rfl rfl (by decide +kernel)
set_option maxRecDepth 65536 in
theorem w_c1 : (Jvm.Cond.code ({ cls := "corbel/structures/LinearProbingHashSet", name := "tabulate", desc := "([II)I" } : Jvm.MethodName) prog_18_method_15_code (3 : Nat) (Option.some Jvm.ClassFile.FieldType.int)).before args0 about1 = true := code_word (m := ⟨7, 1⟩) (meth := k7m1) (c := k7c1) (by decide +kernel) rfl rfl rfl (by decide +kernel)
def codes1 : List Jvm.Cond := [Jvm.Cond.code x code maxLocals ret, Jvm.Cond.code ({ cls := "corbel/structures/LinearProbingHashSet", name := "tabulate", desc := "([II)I" } : Jvm.MethodName) prog_18_method_15_code (3 : Nat) (Option.some Jvm.ClassFile.FieldType.int)]
set_option maxRecDepth 65536 in
theorem codes_eq : words1.filter isCode = codes1 := rfl
theorem w_codes : ∀ c ∈ words1.filter isCode, c.before args0 about1 = true := by
  rw [codes_eq]
  intro c hc
  simp only [codes1, List.mem_cons, List.not_mem_nil, or_false] at hc
  rcases hc with rfl | rfl
  · exact w_c0
  · exact w_c1
set_option maxRecDepth 65536 in
theorem w_t1 : words1.all (fun c => isCode c || c.before args0 about1) = true := by decide +kernel
theorem w_tables : (allAtoms (Jvm.Cond.code x code maxLocals ret :: tables_1)).before args0 about1 = true := by
  rw [allAtoms_all]
  show words1.all (fun c => c.before args0 about1) = true
  refine all_split ?_ w_codes
  rw [w_t1]
set_option maxRecDepth 65536 in
theorem w_case : (Jvm.Cond.and given_1 narrow_1).before args0 about1 = true := by decide +kernel
theorem w_applies : (headSpec (Jvm.Cond.code x code maxLocals ret :: tables_1) room_1).applies x e0.platform about1 = true :=
  (Spec.applies_iff w_frames).mpr ⟨w_running, w_runnable, w_alone, w_named, w_hears, w_ripe, w_room, w_tables⟩
theorem atStart : AtStart classFile x code maxLocals ret World_1 tables_1 room_1 Calls_1 rest_1 Pre_1 launch0 p0 e0 about1 theMethod args0 below0 :=
  ⟨lists_1, trivial, launch0.admits_env _ _ _, launch0.least_env, fairChoices_fair.cas, fairChoices_fair.clock, w_frames, w_args, w_heap, w_applies, trivial, trivial, w_case⟩
end start1
theorem witness_1 : WitnessClaimed_1 := ⟨start1.p0, start1.e0, start1.about1, start1.theMethod, start1.args0, start1.below0, start1.atStart⟩
end Jvm.Pilot.@@N@@
