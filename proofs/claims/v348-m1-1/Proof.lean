import JvmDerived
import JvmDerived.Pilot.@@N@@Statement
import JvmDerived.Pilot.@@N@@Code
set_option linter.unusedVariables false
set_option linter.unusedSimpArgs false
@@BLOCK:NumsL.lean.txt@@
namespace Jvm.Pilot.@@N@@
open Jvm Jvm.ClassFile Sem Op Lib Jvm.Free Jvm.Stand Jvm.LawKit Jvm.RoadKit Bundle Jvm.Pilot.@@N@@.Jvm.D
/-! ## Our kit: from a frame the run comes to an end of which Q speaks -/
def Ends (p : Program) (e : Env) (below : List Frame) (s : State) (C S : Nat) (Q : Option Value → Heap → List Loc → Prop) (T : State) (g : JFrame) : Prop :=
  ∃ s₂ o, Steps p.tables e below (T.setTop g) s₂ ∧ s₂.status = .running ∧ Ended s₂ below o ∧ ∃ v L, o = .returned v ∧ Q v s₂.heap L ∧ FrameEnd s o s₂ L C S
abbrev Pays (l : Launch) (y : MethodName) (bytes : ByteArray) (maxL : Nat) (rt : Option FieldType) (ws : List Jvm.Cond) (rm : Room) (as : Array Value) (Z : State) (h0 : Heap) (Q : Option Value → Heap → List Loc → Prop) : Prop :=
  MetFree l y (head1 (Jvm.Cond.code y bytes maxL rt :: ws) rm) (fun a U => a = as ∧ Z.Warmed39 U.vm ∧ U.heap = h0) (fun _ _ _ _ _ => True) (fun _ U o U' => ∃ v L, o = .returned v ∧ Q v U'.heap L ∧ FrameEnd U o U' L rm.cells rm.slots)
section Kit
variable {p : Program} {l : Launch} {e : Env} {R : Room} {s : State} {m : MethodId} {args : Array Value} {below : List Frame} {meth : Method} {c : Code} {T T' : State} {locs : List Loc} {cells slots : Nat} {Z : State} {h h' h0 : Heap} {C S : Nat} {Q : Option Value → Heap → List Loc → Prop} {g g' : JFrame} {pc : Nat} {Ls : Array Slot} {rest : List Value}
theorem Ends.to (k : ∀ t, Steps p.tables e below (T'.setTop g') t → Steps p.tables e below (T.setTop g) t) (q : Ends p e below s C S Q T' g') : Ends p e below s C S Q T g := by
  obtain ⟨s₂, o, st, r⟩ := q
  exact ⟨s₂, o, k _ st, r⟩
theorem Ends.cast (k : g = g') (q : Ends p e below s C S Q T g') : Ends p e below s C S Q T g := k ▸ q
theorem Ends.retI {z : Int32} (X : Stand p l e R s m args below meth c T locs cells slots) (hx : p.tables.exec = Jvm.exec) (hret : meth.sig.returnType = some .int) (hd : decode c.code pc = .ok (.ireturn, 1)) (hlk : meth.locks = false) (hc : cells ≤ C) (hs : slots ≤ S) (q : Q (some (.int z)) T.heap locs) :
    Ends p e below s C S Q T (mkF m pc Ls (.int z :: rest)) := by
  obtain ⟨fs, hr, hrun, hended, hW, hsame⟩ := X.leave (v := some (.int z)) (fun h => by rw [hret] at h; cases h) hlk
  refine ⟨_, _, ?_, hrun, hended, _, _, rfl, q, ⟨_, rfl⟩, hW, hsame.mono hc hs⟩
  have hm' : T.vm.method? m = some meth := X.method'
  have hn : narrow .int (.int z) = .int z := rfl
  show Steps p.tables e below (T.setTop { method := m, pc := pc, locals := Ls, stack := _ :: rest, locked := none }) _
  jvm_step X.here [X.here.top, hx, hd, hm', hret, hn]
  first | (intro acts; rw [hr _ acts rfl rfl rfl]) | rw [hr _ _ rfl rfl rfl]
  exact Steps.refl _
theorem Ends.retN {z : Int32} {t : FieldType} (ht : t = .boolean ∨ t = .byte ∨ t = .char ∨ t = .short) (X : Stand p l e R s m args below meth c T locs cells slots) (hx : p.tables.exec = Jvm.exec) (hret : meth.sig.returnType = some t) (hd : decode c.code pc = .ok (.ireturn, 1)) (hlk : meth.locks = false) (hc : cells ≤ C) (hs : slots ≤ S) (q : Q (some (.int (nar t z))) T.heap locs) :
    Ends p e below s C S Q T (mkF m pc Ls (.int z :: rest)) := by
  obtain ⟨fs, hr, hrun, hended, hW, hsame⟩ := X.leave (v := some (.int (nar t z))) (fun h => by rw [hret] at h; cases h) hlk
  exact ⟨_, _, Jvm.RoadKit.retN X hx hret ht hd hr, hrun, hended, _, _, rfl, q, ⟨_, rfl⟩, hW, hsame.mono hc hs⟩
theorem Ends.retJ {z : Int64} (X : Stand p l e R s m args below meth c T locs cells slots) (hx : p.tables.exec = Jvm.exec) (hret : meth.sig.returnType = some .long) (hd : decode c.code pc = .ok (.lreturn, 1)) (hlk : meth.locks = false) (hc : cells ≤ C) (hs : slots ≤ S) (q : Q (some (.long z)) T.heap locs) :
    Ends p e below s C S Q T (mkF m pc Ls [.long z]) := by
  obtain ⟨fs, hr, hrun, hended, hW, hsame⟩ := X.leave (v := some (.long z)) (fun h => by rw [hret] at h; cases h) hlk
  exact ⟨_, _, X.lreturnOut hx hret hd hr, hrun, hended, _, _, rfl, q, ⟨_, rfl⟩, hW, hsame.mono hc hs⟩
theorem Ends.retV (X : Stand p l e R s m args below meth c T locs cells slots) (hx : p.tables.exec = Jvm.exec) (hret : meth.sig.returnType = none) (hd : decode c.code pc = .ok (.return_, 1)) (hlk : meth.locks = false) (hc : cells ≤ C) (hs : slots ≤ S) (q : Q none T.heap locs) :
    Ends p e below s C S Q T (mkF m pc Ls []) := by
  obtain ⟨fs, hr, hrun, hended, hW, hsame⟩ := X.leave (v := none) (fun _ => rfl) hlk
  exact ⟨_, _, X.returnOut hx hret hd hr, hrun, hended, _, _, rfl, q, ⟨_, rfl⟩, hW, hsame.mono hc hs⟩
theorem Ends.retA {a : Addr} {t : FieldType} (X : Stand p l e R s m args below meth c T locs cells slots) (hx : p.tables.exec = Jvm.exec) (hret : meth.sig.returnType = some (.array t)) (hd : decode c.code pc = .ok (.areturn, 1)) (hlk : meth.locks = false) (hc : cells ≤ C) (hs : slots ≤ S) (q : Q (some (.ref a)) T.heap locs) :
    Ends p e below s C S Q T (mkF m pc Ls (.ref a :: rest)) := by
  obtain ⟨fs, hr, hrun, hended, hW, hsame⟩ := X.leave (v := some (.ref a)) (fun h => by rw [hret] at h; cases h) hlk
  refine ⟨_, _, ?_, hrun, hended, _, _, rfl, q, ⟨_, rfl⟩, hW, hsame.mono hc hs⟩
  have hm' : T.vm.method? m = some meth := X.method'
  show Steps p.tables e below (T.setTop { method := m, pc := pc, locals := Ls, stack := _ :: rest, locked := none }) _
  jvm_step X.here [X.here.top, hx, hd, hm', hret, Value.isRef, FieldType.isReference]
  first | (intro acts; rw [hr _ acts rfl rfl rfl]) | rw [hr _ _ rfl rfl rfl]
  exact Steps.refl _
theorem Pays.of {y : MethodName} {bytes : ByteArray} {maxL : Nat} {rt : Option FieldType} {ws : List Jvm.Cond} {rm : Room} {as : Array Value} (hp : plainFor y = true)
    (body : ∀ (p : Program) (e : Env) (s : State) (m : MethodId) (below : List Frame) (meth : Method) (c : Code) (s₁ : State), p.tables.exec = Jvm.exec → c.code = bytes → c.maxLocals = maxL → s.vm.findClass y.cls = some m.cls → meth.name = y.name → meth.sig.returnType = rt → meth.locks = false → Z.Warmed39 s.vm →
      Stand p l e rm s m as below meth c s₁ [] 0 0 → s₁.heap = h0 → Ends p e below s rm.cells rm.slots Q s₁ (entryFrame m as maxL)) : Pays l y bytes maxL rt ws rm as Z h0 Q := by
  refine MetFree.of_bodySF hp hisR ?_
  intro p e s m args below meth c s₁ Bd hml0 hP hK
  obtain ⟨rfl, hZ, hh⟩ := hP
  exact body p e s m below meth c s₁ Bd.exec Bd.bytes hml0 (findClass_of_methodNamed Bd.named) (name_of_methodNamed Bd.named Bd.method).1 Bd.returns Bd.notSynchronized hZ (Stand.of_body Bd) (by rw [← hh, Bd.state]; rfl)
/-! ## An array by its values -/
def BA (Z : State) (h : Heap) (a : Addr) (ty : FieldType) (n : Nat) (f : Nat → Value) : Prop := ∃ cl : Cell, Arr Z h a cl ty ∧ cl.slots.size = n ∧ ∀ j, j < n → cl.slots[j]? = some (f j)
abbrev BB (Z : State) (h : Heap) (a : Addr) (n : Nat) (f : Nat → Int32) : Prop := BA Z h a .byte n (fun j => .int (f j))
abbrev BL (Z : State) (h : Heap) (a : Addr) (n : Nat) (f : Nat → Int64) : Prop := BA Z h a .long n (fun j => .long (f j))
def upd {α : Type} (f : Nat → α) (i : Nat) (x : α) : Nat → α := fun j => if j = i then x else f j
theorem upd_same {α : Type} (f : Nat → α) (i : Nat) (x : α) : upd f i x i = x := if_pos rfl
theorem upd_ne {α : Type} (f : Nat → α) {i j : Nat} (x : α) (q : j ≠ i) : upd f i x j = f j := if_neg q
variable {a b : Addr} {ty : FieldType} {n i sl : Nat} {f : Nat → Value} {v : Value} {ws : List Addr} {j x z : Int32}
theorem BA.ext (E : Ext h h') (B : BA Z h a ty n f) : BA Z h' a ty n f := by obtain ⟨cl, A, r⟩ := B; exact ⟨cl, A.ext E, r⟩
theorem BA.other (W : Wr h h' a sl v) (B : BA Z h b ty n f) (q : b ≠ a) : BA Z h' b ty n f := by obtain ⟨cl, A, r⟩ := B; exact ⟨cl, A.other W q, r⟩
theorem BA.keep (B : BA Z h a ty n f) (K : Keep h h' ws) (q : a ∉ ws) : BA Z h' a ty n f := by obtain ⟨cl, A, r⟩ := B; exact ⟨cl, ⟨K.2.1 a cl A.1 q, A.2⟩, r⟩
theorem BA.lt (B : BA Z h a ty n f) : a < h.size := by obtain ⟨cl, A, r⟩ := B; exact A.lt
theorem BA.congr {f' : Nat → Value} (B : BA Z h a ty n f) (q : ∀ j, j < n → f j = f' j) : BA Z h a ty n f' := by obtain ⟨cl, A, s, r⟩ := B; exact ⟨cl, A, s, fun j hj => (r j hj).trans (congrArg some (q j hj))⟩
theorem BA.set (W : Wr h h' a i v) (B : BA Z h a ty n f) (hi : i < n) : BA Z h' a ty n (upd f i v) := by
  obtain ⟨cl, A, s, r⟩ := B
  refine ⟨cl.setSlot i v, A.same W, by simp [Cell.setSlot, s], fun j hj => ?_⟩
  show (cl.slots.setIfInBounds i v)[j]? = _
  by_cases e : j = i
  · subst e
    rw [upd_same, Array.getElem?_setIfInBounds_self_of_lt (by rw [s]; exact hi)]
  · rw [upd_ne _ _ e, Array.getElem?_setIfInBounds_ne (Ne.symm e)]
    exact r j hj
theorem BA.inb {cl : Cell} (s : cl.slots.size = n) (h0 : ¬ j < 0) (hi : j.toNatClampNeg = i) (hn : i < n) : ¬ (j < 0 ∨ cl.slots.size ≤ j.toNatClampNeg) := by
  rintro (q | q)
  · exact h0 q
  · rw [hi, s] at q; exact absurd hn (Nat.not_lt.mpr q)
theorem BA.stB {f : Nat → Int32} (X : Stand p l e R s m args below meth c T locs cells slots) (hx : p.tables.exec = Jvm.exec) (hZ : Z.Warmed39 s.vm) (eT : T.heap = h) (B : BB Z h a n f) (h0 : ¬ j < 0) (hi : j.toNatClampNeg = i) (hn : i < n) (hg : g.method = m) (hs : g.stack = .int x :: .int j :: .ref a :: rest) (hd : decode c.code g.pc = .ok (.bastore, 1)) :
    ∃ T' h', Stand p l e R s m args below meth c T' (locs ++ [⟨a, j.toNatClampNeg⟩]) cells slots ∧ T'.heap = h' ∧ Wr h h' a j.toNatClampNeg (.int (nar .byte x)) ∧ BB Z h' a n (upd f i x.toInt8.toInt32) ∧ ∀ target, Steps p.tables e below (T'.setTop { g with pc := g.pc + 1, stack := rest }) target → Steps p.tables e below (T.setTop g) target := by
  obtain ⟨cl, A, s, r⟩ := id B
  obtain ⟨T', h', X', e', W, st⟩ := Jvm.RoadKit.stB X hx hZ eT A (BA.inb s h0 hi hn) hg hs hd
  refine ⟨T', h', X', e', W, ?_, st⟩
  rw [hi] at W
  refine (BA.set W B hn).congr fun j _ => ?_
  by_cases e : j = i
  · subst e; rw [upd_same, upd_same]; rfl
  · rw [upd_ne _ _ e, upd_ne _ _ e]
theorem BA.stL {f : Nat → Int64} {x : Int64} (X : Stand p l e R s m args below meth c T locs cells slots) (hx : p.tables.exec = Jvm.exec) (hZ : Z.Warmed39 s.vm) (eT : T.heap = h) (B : BL Z h a n f) (h0 : ¬ j < 0) (hi : j.toNatClampNeg = i) (hn : i < n) (hg : g.method = m) (hs : g.stack = .long x :: .int j :: .ref a :: rest) (hd : decode c.code g.pc = .ok (.lastore, 1)) :
    ∃ T' h', Stand p l e R s m args below meth c T' (locs ++ [⟨a, j.toNatClampNeg⟩]) cells slots ∧ T'.heap = h' ∧ Wr h h' a j.toNatClampNeg (.long x) ∧ BL Z h' a n (upd f i x) ∧ ∀ target, Steps p.tables e below (T'.setTop { g with pc := g.pc + 1, stack := rest }) target → Steps p.tables e below (T.setTop g) target := by
  obtain ⟨cl, A, s, r⟩ := id B
  obtain ⟨T', h', X', e', W, st⟩ := Jvm.RoadKit.stJ X hx hZ eT A (BA.inb s h0 hi hn) hg hs hd
  refine ⟨T', h', X', e', W, ?_, st⟩
  rw [hi] at W
  refine (BA.set W B hn).congr fun j _ => ?_
  by_cases e : j = i
  · subst e; rw [upd_same, upd_same]
  · rw [upd_ne _ _ e, upd_ne _ _ e]
theorem BA.ldB {f : Nat → Int32} (X : Stand p l e R s m args below meth c T locs cells slots) (hx : p.tables.exec = Jvm.exec) (hZ : Z.Warmed39 s.vm) (eT : T.heap = h) (B : BB Z h a n f) (h0 : ¬ j < 0) (hi : j.toNatClampNeg = i) (hn : i < n) (hg : g.method = m) (hs : g.stack = .int j :: .ref a :: rest) (hd : decode c.code g.pc = .ok (.baload, 1)) (target : State)
    (k : Steps p.tables e below (T.setTop { g with pc := g.pc + 1, stack := .int (f i) :: rest }) target) : Steps p.tables e below (T.setTop g) target := by
  obtain ⟨cl, A, s, r⟩ := id B
  exact X.baloadBytes hx (j := j) (v := .int (f i)) (by rw [eT]; exact A.1) (State.isArrayOf_alike hZ.alike A.2.1) A.2.2 (BA.inb s h0 hi hn) (by rw [hi]; exact r i hn) hg hs hd target k
theorem BA.ldL {f : Nat → Int64} (X : Stand p l e R s m args below meth c T locs cells slots) (hx : p.tables.exec = Jvm.exec) (hZ : Z.Warmed39 s.vm) (eT : T.heap = h) (B : BL Z h a n f) (h0 : ¬ j < 0) (hi : j.toNatClampNeg = i) (hn : i < n) (hg : g.method = m) (hs : g.stack = .int j :: .ref a :: rest) (hd : decode c.code g.pc = .ok (.laload, 1)) (target : State)
    (k : Steps p.tables e below (T.setTop { g with pc := g.pc + 1, stack := .long (f i) :: rest }) target) : Steps p.tables e below (T.setTop g) target := by
  obtain ⟨cl, A, s, r⟩ := id B
  exact X.laload hx (j := j) (v := .long (f i)) (by rw [eT]; exact A.1) (State.isArrayOf_alike hZ.alike A.2.1) A.2.2 (BA.inb s h0 hi hn) (by rw [hi]; exact r i hn) hg hs hd target k
theorem BA.len (X : Stand p l e R s m args below meth c T locs cells slots) (hx : p.tables.exec = Jvm.exec) (hZ : Z.Warmed39 s.vm) (eT : T.heap = h) (B : BA Z h a ty n f) (hz : n.toInt32 = z) (hg : g.method = m) (hs : g.stack = .ref a :: rest) (hd : decode c.code g.pc = .ok (.arraylength, 1)) (target : State)
    (k : Steps p.tables e below (T.setTop { g with pc := g.pc + 1, stack := .int z :: rest }) target) : Steps p.tables e below (T.setTop g) target := by
  obtain ⟨cl, A, s, r⟩ := B
  exact X.arraylength hx (by rw [eT]; exact A.1) (State.isArrayOf_alike hZ.alike A.2.1) hg hs hd target (by rw [s, hz]; exact k)
theorem BA.freshB {k : ClassId} (A : Arr Z h a (newA k .byte z) .byte) (q : z.toNatClampNeg = n) : BB Z h a n (fun _ => 0) := by
  refine ⟨_, A, (sz_new _ _ _).trans q, fun j hj => ?_⟩
  have hj' : j < z.toNatClampNeg := by rw [q]; exact hj
  simp [newA, hj', defaultValue]
theorem BA.freshL {k : ClassId} (A : Arr Z h a (newA k .long z) .long) (q : z.toNatClampNeg = n) : BL Z h a n (fun _ => 0) := by
  refine ⟨_, A, (sz_new _ _ _).trans q, fun j hj => ?_⟩
  have hj' : j < z.toNatClampNeg := by rw [q]; exact hj
  simp [newA, hj', defaultValue]
end Kit
theorem d1_0 : decode prog_39_method_2_code 0 = .ok (.iload_n 2, 1) := by decide +kernel
theorem d1_1 : decode prog_39_method_2_code 1 = .ok (.istore_n 3, 1) := by decide +kernel
theorem d1_2 : decode prog_39_method_2_code 2 = .ok (.iload_n 0, 1) := by decide +kernel
theorem d1_3 : decode prog_39_method_2_code 3 = .ok (.sipush 128, 3) := by decide +kernel
theorem d1_6 : decode prog_39_method_2_code 6 = .ok (.if_icmp .ge 14, 3) := by decide +kernel
theorem d1_9 : decode prog_39_method_2_code 9 = .ok (.aload_n 1, 1) := by decide +kernel
theorem d1_10 : decode prog_39_method_2_code 10 = .ok (.iload_n 3, 1) := by decide +kernel
theorem d1_11 : decode prog_39_method_2_code 11 = .ok (.iinc 3 1, 3) := by decide +kernel
theorem d1_14 : decode prog_39_method_2_code 14 = .ok (.iload_n 0, 1) := by decide +kernel
theorem d1_15 : decode prog_39_method_2_code 15 = .ok (.i2b, 1) := by decide +kernel
theorem d1_16 : decode prog_39_method_2_code 16 = .ok (.bastore, 1) := by decide +kernel
theorem d1_17 : decode prog_39_method_2_code 17 = .ok (.goto 166, 3) := by decide +kernel
theorem d1_20 : decode prog_39_method_2_code 20 = .ok (.iload_n 0, 1) := by decide +kernel
theorem d1_21 : decode prog_39_method_2_code 21 = .ok (.sipush 2048, 3) := by decide +kernel
theorem d1_24 : decode prog_39_method_2_code 24 = .ok (.if_icmp .ge 36, 3) := by decide +kernel
theorem d1_27 : decode prog_39_method_2_code 27 = .ok (.aload_n 1, 1) := by decide +kernel
theorem d1_28 : decode prog_39_method_2_code 28 = .ok (.iload_n 3, 1) := by decide +kernel
theorem d1_29 : decode prog_39_method_2_code 29 = .ok (.iinc 3 1, 3) := by decide +kernel
theorem d1_32 : decode prog_39_method_2_code 32 = .ok (.sipush 192, 3) := by decide +kernel
theorem d1_35 : decode prog_39_method_2_code 35 = .ok (.iload_n 0, 1) := by decide +kernel
theorem d1_36 : decode prog_39_method_2_code 36 = .ok (.bipush 6, 2) := by decide +kernel
theorem d1_38 : decode prog_39_method_2_code 38 = .ok (.ishr, 1) := by decide +kernel
theorem d1_39 : decode prog_39_method_2_code 39 = .ok (.ior, 1) := by decide +kernel
theorem d1_40 : decode prog_39_method_2_code 40 = .ok (.i2b, 1) := by decide +kernel
theorem d1_41 : decode prog_39_method_2_code 41 = .ok (.bastore, 1) := by decide +kernel
theorem d1_42 : decode prog_39_method_2_code 42 = .ok (.aload_n 1, 1) := by decide +kernel
theorem d1_43 : decode prog_39_method_2_code 43 = .ok (.iload_n 3, 1) := by decide +kernel
theorem d1_44 : decode prog_39_method_2_code 44 = .ok (.iinc 3 1, 3) := by decide +kernel
theorem d1_47 : decode prog_39_method_2_code 47 = .ok (.sipush 128, 3) := by decide +kernel
theorem d1_50 : decode prog_39_method_2_code 50 = .ok (.iload_n 0, 1) := by decide +kernel
theorem d1_51 : decode prog_39_method_2_code 51 = .ok (.bipush 63, 2) := by decide +kernel
theorem d1_53 : decode prog_39_method_2_code 53 = .ok (.iand, 1) := by decide +kernel
theorem d1_54 : decode prog_39_method_2_code 54 = .ok (.ior, 1) := by decide +kernel
theorem d1_55 : decode prog_39_method_2_code 55 = .ok (.i2b, 1) := by decide +kernel
theorem d1_56 : decode prog_39_method_2_code 56 = .ok (.bastore, 1) := by decide +kernel
theorem d1_57 : decode prog_39_method_2_code 57 = .ok (.goto 126, 3) := by decide +kernel
theorem d1_60 : decode prog_39_method_2_code 60 = .ok (.iload_n 0, 1) := by decide +kernel
theorem d1_61 : decode prog_39_method_2_code 61 = .ok (.ldc 7, 2) := by decide +kernel
theorem d1_63 : decode prog_39_method_2_code 63 = .ok (.if_icmp .ge 54, 3) := by decide +kernel
theorem d1_66 : decode prog_39_method_2_code 66 = .ok (.aload_n 1, 1) := by decide +kernel
theorem d1_67 : decode prog_39_method_2_code 67 = .ok (.iload_n 3, 1) := by decide +kernel
theorem d1_68 : decode prog_39_method_2_code 68 = .ok (.iinc 3 1, 3) := by decide +kernel
theorem d1_71 : decode prog_39_method_2_code 71 = .ok (.sipush 224, 3) := by decide +kernel
theorem d1_74 : decode prog_39_method_2_code 74 = .ok (.iload_n 0, 1) := by decide +kernel
theorem d1_75 : decode prog_39_method_2_code 75 = .ok (.bipush 12, 2) := by decide +kernel
theorem d1_77 : decode prog_39_method_2_code 77 = .ok (.ishr, 1) := by decide +kernel
theorem d1_78 : decode prog_39_method_2_code 78 = .ok (.ior, 1) := by decide +kernel
theorem d1_79 : decode prog_39_method_2_code 79 = .ok (.i2b, 1) := by decide +kernel
theorem d1_80 : decode prog_39_method_2_code 80 = .ok (.bastore, 1) := by decide +kernel
theorem d1_81 : decode prog_39_method_2_code 81 = .ok (.aload_n 1, 1) := by decide +kernel
theorem d1_82 : decode prog_39_method_2_code 82 = .ok (.iload_n 3, 1) := by decide +kernel
theorem d1_83 : decode prog_39_method_2_code 83 = .ok (.iinc 3 1, 3) := by decide +kernel
theorem d1_86 : decode prog_39_method_2_code 86 = .ok (.sipush 128, 3) := by decide +kernel
theorem d1_89 : decode prog_39_method_2_code 89 = .ok (.iload_n 0, 1) := by decide +kernel
theorem d1_90 : decode prog_39_method_2_code 90 = .ok (.bipush 6, 2) := by decide +kernel
theorem d1_92 : decode prog_39_method_2_code 92 = .ok (.ishr, 1) := by decide +kernel
theorem d1_93 : decode prog_39_method_2_code 93 = .ok (.bipush 63, 2) := by decide +kernel
theorem d1_95 : decode prog_39_method_2_code 95 = .ok (.iand, 1) := by decide +kernel
theorem d1_96 : decode prog_39_method_2_code 96 = .ok (.ior, 1) := by decide +kernel
theorem d1_97 : decode prog_39_method_2_code 97 = .ok (.i2b, 1) := by decide +kernel
theorem d1_98 : decode prog_39_method_2_code 98 = .ok (.bastore, 1) := by decide +kernel
theorem d1_99 : decode prog_39_method_2_code 99 = .ok (.aload_n 1, 1) := by decide +kernel
theorem d1_100 : decode prog_39_method_2_code 100 = .ok (.iload_n 3, 1) := by decide +kernel
theorem d1_101 : decode prog_39_method_2_code 101 = .ok (.iinc 3 1, 3) := by decide +kernel
theorem d1_104 : decode prog_39_method_2_code 104 = .ok (.sipush 128, 3) := by decide +kernel
theorem d1_107 : decode prog_39_method_2_code 107 = .ok (.iload_n 0, 1) := by decide +kernel
theorem d1_108 : decode prog_39_method_2_code 108 = .ok (.bipush 63, 2) := by decide +kernel
theorem d1_110 : decode prog_39_method_2_code 110 = .ok (.iand, 1) := by decide +kernel
theorem d1_111 : decode prog_39_method_2_code 111 = .ok (.ior, 1) := by decide +kernel
theorem d1_112 : decode prog_39_method_2_code 112 = .ok (.i2b, 1) := by decide +kernel
theorem d1_113 : decode prog_39_method_2_code 113 = .ok (.bastore, 1) := by decide +kernel
theorem d1_114 : decode prog_39_method_2_code 114 = .ok (.goto 69, 3) := by decide +kernel
theorem d1_117 : decode prog_39_method_2_code 117 = .ok (.aload_n 1, 1) := by decide +kernel
theorem d1_118 : decode prog_39_method_2_code 118 = .ok (.iload_n 3, 1) := by decide +kernel
theorem d1_119 : decode prog_39_method_2_code 119 = .ok (.iinc 3 1, 3) := by decide +kernel
theorem d1_122 : decode prog_39_method_2_code 122 = .ok (.sipush 240, 3) := by decide +kernel
theorem d1_125 : decode prog_39_method_2_code 125 = .ok (.iload_n 0, 1) := by decide +kernel
theorem d1_126 : decode prog_39_method_2_code 126 = .ok (.bipush 18, 2) := by decide +kernel
theorem d1_128 : decode prog_39_method_2_code 128 = .ok (.ishr, 1) := by decide +kernel
theorem d1_129 : decode prog_39_method_2_code 129 = .ok (.ior, 1) := by decide +kernel
theorem d1_130 : decode prog_39_method_2_code 130 = .ok (.i2b, 1) := by decide +kernel
theorem d1_131 : decode prog_39_method_2_code 131 = .ok (.bastore, 1) := by decide +kernel
theorem d1_132 : decode prog_39_method_2_code 132 = .ok (.aload_n 1, 1) := by decide +kernel
theorem d1_133 : decode prog_39_method_2_code 133 = .ok (.iload_n 3, 1) := by decide +kernel
theorem d1_134 : decode prog_39_method_2_code 134 = .ok (.iinc 3 1, 3) := by decide +kernel
theorem d1_137 : decode prog_39_method_2_code 137 = .ok (.sipush 128, 3) := by decide +kernel
theorem d1_140 : decode prog_39_method_2_code 140 = .ok (.iload_n 0, 1) := by decide +kernel
theorem d1_141 : decode prog_39_method_2_code 141 = .ok (.bipush 12, 2) := by decide +kernel
theorem d1_143 : decode prog_39_method_2_code 143 = .ok (.ishr, 1) := by decide +kernel
theorem d1_144 : decode prog_39_method_2_code 144 = .ok (.bipush 63, 2) := by decide +kernel
theorem d1_146 : decode prog_39_method_2_code 146 = .ok (.iand, 1) := by decide +kernel
theorem d1_147 : decode prog_39_method_2_code 147 = .ok (.ior, 1) := by decide +kernel
theorem d1_148 : decode prog_39_method_2_code 148 = .ok (.i2b, 1) := by decide +kernel
theorem d1_149 : decode prog_39_method_2_code 149 = .ok (.bastore, 1) := by decide +kernel
theorem d1_150 : decode prog_39_method_2_code 150 = .ok (.aload_n 1, 1) := by decide +kernel
theorem d1_151 : decode prog_39_method_2_code 151 = .ok (.iload_n 3, 1) := by decide +kernel
theorem d1_152 : decode prog_39_method_2_code 152 = .ok (.iinc 3 1, 3) := by decide +kernel
theorem d1_155 : decode prog_39_method_2_code 155 = .ok (.sipush 128, 3) := by decide +kernel
theorem d1_158 : decode prog_39_method_2_code 158 = .ok (.iload_n 0, 1) := by decide +kernel
theorem d1_159 : decode prog_39_method_2_code 159 = .ok (.bipush 6, 2) := by decide +kernel
theorem d1_161 : decode prog_39_method_2_code 161 = .ok (.ishr, 1) := by decide +kernel
theorem d1_162 : decode prog_39_method_2_code 162 = .ok (.bipush 63, 2) := by decide +kernel
theorem d1_164 : decode prog_39_method_2_code 164 = .ok (.iand, 1) := by decide +kernel
theorem d1_165 : decode prog_39_method_2_code 165 = .ok (.ior, 1) := by decide +kernel
theorem d1_166 : decode prog_39_method_2_code 166 = .ok (.i2b, 1) := by decide +kernel
theorem d1_167 : decode prog_39_method_2_code 167 = .ok (.bastore, 1) := by decide +kernel
theorem d1_168 : decode prog_39_method_2_code 168 = .ok (.aload_n 1, 1) := by decide +kernel
theorem d1_169 : decode prog_39_method_2_code 169 = .ok (.iload_n 3, 1) := by decide +kernel
theorem d1_170 : decode prog_39_method_2_code 170 = .ok (.iinc 3 1, 3) := by decide +kernel
theorem d1_173 : decode prog_39_method_2_code 173 = .ok (.sipush 128, 3) := by decide +kernel
theorem d1_176 : decode prog_39_method_2_code 176 = .ok (.iload_n 0, 1) := by decide +kernel
theorem d1_177 : decode prog_39_method_2_code 177 = .ok (.bipush 63, 2) := by decide +kernel
theorem d1_179 : decode prog_39_method_2_code 179 = .ok (.iand, 1) := by decide +kernel
theorem d1_180 : decode prog_39_method_2_code 180 = .ok (.ior, 1) := by decide +kernel
theorem d1_181 : decode prog_39_method_2_code 181 = .ok (.i2b, 1) := by decide +kernel
theorem d1_182 : decode prog_39_method_2_code 182 = .ok (.bastore, 1) := by decide +kernel
theorem d1_183 : decode prog_39_method_2_code 183 = .ok (.iload_n 3, 1) := by decide +kernel
theorem d1_184 : decode prog_39_method_2_code 184 = .ok (.ireturn, 1) := by decide +kernel
theorem pn_1 : plainName "com/example/predicate/predicate/document/Utf8" = true := by first | (simp [plainName, overriddenIn]; done) | decide +kernel
theorem pd_1 : parseMethodDescriptor "(I[BI)I" = some ⟨[.int, (.array .byte), .int], some .int⟩ := by decide +kernel
theorem ef_1 (m : MethodId) (x0 : Int32) (x1 : Addr) (x2 : Int32) : entryFrame m #[(.int x0), (.ref x1), (.int x2)] 4 = mkF m 0 #[.val (.int x0), .val (.ref x1), .val (.int x2), .unset] [] := by first | (simp [entryFrame, mkF, argsToLocals, Value.category]; done) | rfl
theorem d2_0 : decode method_3_code 0 = .ok (.iload 4, 2) := by decide +kernel
theorem d2_2 : decode method_3_code 2 = .ok (.iload_n 2, 1) := by decide +kernel
theorem d2_3 : decode method_3_code 3 = .ok (.isub, 1) := by decide +kernel
theorem d2_4 : decode method_3_code 4 = .ok (.istore 5, 2) := by decide +kernel
theorem d2_6 : decode method_3_code 6 = .ok (.iload 5, 2) := by decide +kernel
theorem d2_8 : decode method_3_code 8 = .ok (.ifCond .lt 9, 3) := by decide +kernel
theorem d2_11 : decode method_3_code 11 = .ok (.iload 5, 2) := by decide +kernel
theorem d2_13 : decode method_3_code 13 = .ok (.iload_n 1, 1) := by decide +kernel
theorem d2_14 : decode method_3_code 14 = .ok (.if_icmp .lt 5, 3) := by decide +kernel
theorem d2_17 : decode method_3_code 17 = .ok (.iload_n 3, 1) := by decide +kernel
theorem d2_18 : decode method_3_code 18 = .ok (.ireturn, 1) := by decide +kernel
theorem d2_19 : decode method_3_code 19 = .ok (.iload 5, 2) := by decide +kernel
theorem d2_21 : decode method_3_code 21 = .ok (.ifCond .ne 52, 3) := by decide +kernel
theorem d2_24 : decode method_3_code 24 = .ok (.iload_n 1, 1) := by decide +kernel
theorem d2_25 : decode method_3_code 25 = .ok (.iconst 1, 1) := by decide +kernel
theorem d2_26 : decode method_3_code 26 = .ok (.if_icmp .ne 6, 3) := by decide +kernel
theorem d2_29 : decode method_3_code 29 = .ok (.iload_n 0, 1) := by decide +kernel
theorem d2_30 : decode method_3_code 30 = .ok (.i2b, 1) := by decide +kernel
theorem d2_31 : decode method_3_code 31 = .ok (.ireturn, 1) := by decide +kernel
theorem d2_32 : decode method_3_code 32 = .ok (.iload_n 1, 1) := by decide +kernel
theorem d2_33 : decode method_3_code 33 = .ok (.iconst 2, 1) := by decide +kernel
theorem d2_34 : decode method_3_code 34 = .ok (.if_icmp .ne 13, 3) := by decide +kernel
theorem d2_37 : decode method_3_code 37 = .ok (.sipush 192, 3) := by decide +kernel
theorem d2_40 : decode method_3_code 40 = .ok (.iload_n 0, 1) := by decide +kernel
theorem d2_41 : decode method_3_code 41 = .ok (.bipush 64, 2) := by decide +kernel
theorem d2_43 : decode method_3_code 43 = .ok (.idiv, 1) := by decide +kernel
theorem d2_44 : decode method_3_code 44 = .ok (.iadd, 1) := by decide +kernel
theorem d2_45 : decode method_3_code 45 = .ok (.i2b, 1) := by decide +kernel
theorem d2_46 : decode method_3_code 46 = .ok (.ireturn, 1) := by decide +kernel
theorem d2_47 : decode method_3_code 47 = .ok (.iload_n 1, 1) := by decide +kernel
theorem d2_48 : decode method_3_code 48 = .ok (.iconst 3, 1) := by decide +kernel
theorem d2_49 : decode method_3_code 49 = .ok (.if_icmp .ne 14, 3) := by decide +kernel
theorem d2_52 : decode method_3_code 52 = .ok (.sipush 224, 3) := by decide +kernel
theorem d2_55 : decode method_3_code 55 = .ok (.iload_n 0, 1) := by decide +kernel
theorem d2_56 : decode method_3_code 56 = .ok (.sipush 4096, 3) := by decide +kernel
theorem d2_59 : decode method_3_code 59 = .ok (.idiv, 1) := by decide +kernel
theorem d2_60 : decode method_3_code 60 = .ok (.iadd, 1) := by decide +kernel
theorem d2_61 : decode method_3_code 61 = .ok (.i2b, 1) := by decide +kernel
theorem d2_62 : decode method_3_code 62 = .ok (.ireturn, 1) := by decide +kernel
theorem d2_63 : decode method_3_code 63 = .ok (.sipush 240, 3) := by decide +kernel
theorem d2_66 : decode method_3_code 66 = .ok (.iload_n 0, 1) := by decide +kernel
theorem d2_67 : decode method_3_code 67 = .ok (.ldc 24, 2) := by decide +kernel
theorem d2_69 : decode method_3_code 69 = .ok (.idiv, 1) := by decide +kernel
theorem d2_70 : decode method_3_code 70 = .ok (.iadd, 1) := by decide +kernel
theorem d2_71 : decode method_3_code 71 = .ok (.i2b, 1) := by decide +kernel
theorem d2_72 : decode method_3_code 72 = .ok (.ireturn, 1) := by decide +kernel
theorem d2_73 : decode method_3_code 73 = .ok (.iload_n 1, 1) := by decide +kernel
theorem d2_74 : decode method_3_code 74 = .ok (.iconst 1, 1) := by decide +kernel
theorem d2_75 : decode method_3_code 75 = .ok (.isub, 1) := by decide +kernel
theorem d2_76 : decode method_3_code 76 = .ok (.iload 5, 2) := by decide +kernel
theorem d2_78 : decode method_3_code 78 = .ok (.isub, 1) := by decide +kernel
theorem d2_79 : decode method_3_code 79 = .ok (.istore 6, 2) := by decide +kernel
theorem d2_81 : decode method_3_code 81 = .ok (.iload 6, 2) := by decide +kernel
theorem d2_83 : decode method_3_code 83 = .ok (.ifCond .ne 7, 3) := by decide +kernel
theorem d2_86 : decode method_3_code 86 = .ok (.iconst 1, 1) := by decide +kernel
theorem d2_87 : decode method_3_code 87 = .ok (.goto 17, 3) := by decide +kernel
theorem d2_90 : decode method_3_code 90 = .ok (.iload 6, 2) := by decide +kernel
theorem d2_92 : decode method_3_code 92 = .ok (.iconst 1, 1) := by decide +kernel
theorem d2_93 : decode method_3_code 93 = .ok (.if_icmp .ne 8, 3) := by decide +kernel
theorem d2_96 : decode method_3_code 96 = .ok (.bipush 64, 2) := by decide +kernel
theorem d2_98 : decode method_3_code 98 = .ok (.goto 6, 3) := by decide +kernel
theorem d2_101 : decode method_3_code 101 = .ok (.sipush 4096, 3) := by decide +kernel
theorem d2_104 : decode method_3_code 104 = .ok (.istore 7, 2) := by decide +kernel
theorem d2_106 : decode method_3_code 106 = .ok (.sipush 128, 3) := by decide +kernel
theorem d2_109 : decode method_3_code 109 = .ok (.iload_n 0, 1) := by decide +kernel
theorem d2_110 : decode method_3_code 110 = .ok (.iload 7, 2) := by decide +kernel
theorem d2_112 : decode method_3_code 112 = .ok (.idiv, 1) := by decide +kernel
theorem d2_113 : decode method_3_code 113 = .ok (.bipush 64, 2) := by decide +kernel
theorem d2_115 : decode method_3_code 115 = .ok (.irem, 1) := by decide +kernel
theorem d2_116 : decode method_3_code 116 = .ok (.iadd, 1) := by decide +kernel
theorem d2_117 : decode method_3_code 117 = .ok (.i2b, 1) := by decide +kernel
theorem d2_118 : decode method_3_code 118 = .ok (.ireturn, 1) := by decide +kernel
theorem pn_2 : plainName "com/example/predicate/predicate/document/Utf8EncodePinLaw" = true := by first | (simp [plainName, overriddenIn]; done) | decide +kernel
theorem pd_2 : parseMethodDescriptor "(IIIBI)B" = some ⟨[.int, .int, .int, .byte, .int], some .byte⟩ := by decide +kernel
theorem ef_2 (m : MethodId) (x0 : Int32) (x1 : Int32) (x2 : Int32) (x3 : Int32) (x4 : Int32) : entryFrame m #[(.int x0), (.int x1), (.int x2), (.int x3), (.int x4)] 8 = mkF m 0 #[.val (.int x0), .val (.int x1), .val (.int x2), .val (.int x3), .val (.int x4), .unset, .unset, .unset] [] := by first | (simp [entryFrame, mkF, argsToLocals, Value.category]; done) | rfl
theorem pn_0 : plainName "com/example/predicate/predicate/document/Utf8EncodePinLaw" = true := by first | (simp [plainName, overriddenIn]; done) | decide +kernel
theorem pd_0 : parseMethodDescriptor "(IIII)Z" = some ⟨[.int, .int, .int, .int], some .boolean⟩ := by decide +kernel
theorem ef_0 (m : MethodId) (x0 : Int32) (x1 : Int32) (x2 : Int32) (x3 : Int32) : entryFrame m #[(.int x0), (.int x1), (.int x2), (.int x3)] maxLocals = mkF m 0 #[.val (.int x0), .val (.int x1), .val (.int x2), .val (.int x3), .unset, .unset, .unset, .unset, .unset, .unset, .unset, .unset, .unset] [] := by first | (simp [entryFrame, mkF, argsToLocals, Value.category, maxLocals]; done) | rfl
theorem own_inc (n : Nat) : Int32.ofNat n + (1 : Int32) = Int32.ofNat (n + 1) := (Int32.ofNat_add n 1).symm
theorem own_toInt {n : Nat} (h : n < 2147483648) : (Int32.ofNat n).toInt = n := Int32.toInt_ofNat_of_lt h
theorem own_nneg {n : Nat} (h : n < 2147483648) : ¬ Int32.ofNat n < 0 := fun q => by
  have := Int32.lt_iff_toInt_lt.mp q
  rw [own_toInt h] at this; simp at this; omega
theorem own_clamp {n : Nat} (h : n < 2147483648) : (Int32.ofNat n).toNatClampNeg = n := by
  show (Int32.ofNat n).toInt.toNat = n
  rw [own_toInt h]; rfl
theorem own_addk (n : Nat) {k : Nat} {z : Int32} (hz : z = Int32.ofNat k) : Int32.ofNat n + z = Int32.ofNat (n + k) := by rw [hz, Int32.ofNat_add]
theorem own_of {x : Int32} (h : 0 ≤ x.toInt) : ∃ n : Nat, x = Int32.ofNat n ∧ (n : Int) = x.toInt := by
  have r := rng32 x
  refine ⟨x.toInt.toNat, ?_, by omega⟩
  apply Int32.toInt_inj.mp
  rw [own_toInt (by omega)]; omega
theorem own_31 (x : Int32) : 0 ≤ (x &&& 2147483647).toInt := by
  have e := Jvm.Kit.i32_mask x 2147483647 (k := 31) (by decide) (by decide)
  omega
def own_by (x : Int32) : Int32 := x.toInt8.toInt32.toInt8.toInt32
def own_len (P : Int32) : Nat := if P < 128 then 1 else if P < 2048 then 2 else if P < 65536 then 3 else 4
def own_enc (P : Int32) (t : Nat) (f : Nat → Int32) : Nat → Int32 :=
  if P < 128 then upd f t (own_by P)
  else if P < 2048 then upd (upd f t (own_by ((192 : Int32) ||| (P >>> ((6 : Int32) &&& 31))))) (t + 1) (own_by ((128 : Int32) ||| (P &&& 63)))
  else if P < 65536 then upd (upd (upd f t (own_by ((224 : Int32) ||| (P >>> ((12 : Int32) &&& 31))))) (t + 1) (own_by ((128 : Int32) ||| ((P >>> ((6 : Int32) &&& 31)) &&& 63)))) (t + 1 + 1) (own_by ((128 : Int32) ||| (P &&& 63)))
  else upd (upd (upd (upd f t (own_by ((240 : Int32) ||| (P >>> ((18 : Int32) &&& 31))))) (t + 1) (own_by ((128 : Int32) ||| ((P >>> ((12 : Int32) &&& 31)) &&& 63)))) (t + 1 + 1) (own_by ((128 : Int32) ||| ((P >>> ((6 : Int32) &&& 31)) &&& 63)))) (t + 1 + 1 + 1) (own_by ((128 : Int32) ||| (P &&& 63)))
set_option maxRecDepth 65536 in
set_option maxHeartbeats 40000000 in
def Q_rm1 (Z : State) (p1 : Int32) (a1 : Addr) (t : Nat) (f : Nat → Int32) (h0 : Heap) (n0 : Nat) : Option Value → Heap → List Loc → Prop := fun v h L => v = some (.int (Int32.ofNat (t + own_len p1))) ∧ Fr n0 L ∧ Keep h0 h [a1] ∧ BB Z h a1 8 (own_enc p1 t f)
set_option maxRecDepth 65536 in
set_option maxHeartbeats 40000000 in
theorem rm1 (l : Launch) (Z : State) (a0 : Array Value) (hw : ∀ d ∈ tables_1, d.before a0 Z = true) (ws : List Jvm.Cond) (p1 : Int32) (a1 : Addr) (t : Nat) (f : Nat → Int32) (h0 : Heap) (n0 : Nat) (Z0 : n0 ≤ h0.size) (ht : t + 4 ≤ 8) (B1 : BB Z h0 a1 8 f) (g1 : n0 ≤ a1) :
    Pays l (⟨"com/example/predicate/predicate/document/Utf8", "encode", "(I[BI)I"⟩ : MethodName) prog_39_method_2_code 4 (some .int) ws ({ frames := 0, cells := 0, slots := 0, locals := 0 } : Room) #[(.int p1), (.ref a1), (.int (Int32.ofNat t))] Z h0 (Q_rm1 Z p1 a1 t f h0 n0) := by
  refine Pays.of (plainFor_of_name pn_1) ?_
  intro p e s m below meth c s₁ hx hby hml hown hnm hret hlk hZ X0 e0
  have hown : s.vm.findClass "com/example/predicate/predicate/document/Utf8" = some m.cls := hown
  have hnm : meth.name = "encode" := hnm
  have hml : c.maxLocals = 4 := hml
  show Ends p e below s _ _ (fun v h L => v = some (.int (Int32.ofNat (t + own_len p1))) ∧ Fr n0 L ∧ Keep h0 h [a1] ∧ BB Z h a1 8 (own_enc p1 t f)) s₁ _
  refine Ends.cast (ef_1 m p1 a1 (Int32.ofNat t)) ?_
  have N0 := Fr.nil n0
  have K1 := Keep.refl h0 [a1]
  refine Ends.to (T' := s₁) (g' := (mkF m 1 #[.val (.int p1), .val (.ref a1), .val (.int (Int32.ofNat t)), .unset] [(.int (Int32.ofNat t))])) (fun tt_ kk_ => XS.iloadN X0.here hx rfl (hb hby d1_0) rfl kk_) ?_
  refine Ends.to (T' := s₁) (g' := (mkF m 2 #[.val (.int p1), .val (.ref a1), .val (.int (Int32.ofNat t)), .val (.int (Int32.ofNat t))] [])) (fun tt_ kk_ => XS.istoreN X0.here hx rfl (hb hby d1_1) rfl (l' := #[.val (.int p1), .val (.ref a1), .val (.int (Int32.ofNat t)), .val (.int (Int32.ofNat t))]) rfl kk_) ?_
  refine Ends.to (T' := s₁) (g' := (mkF m 3 #[.val (.int p1), .val (.ref a1), .val (.int (Int32.ofNat t)), .val (.int (Int32.ofNat t))] [(.int p1)])) (fun tt_ kk_ => XS.iloadN X0.here hx rfl (hb hby d1_2) rfl kk_) ?_
  refine Ends.to (T' := s₁) (g' := (mkF m 6 #[.val (.int p1), .val (.ref a1), .val (.int (Int32.ofNat t)), .val (.int (Int32.ofNat t))] [(.int (128 : Int32)), (.int p1)])) (fun tt_ kk_ => XS.sipush X0.here hx rfl (hb hby d1_3) kk_) ?_
  by_cases hc6 : p1 < (128 : Int32)
  · refine Ends.to (T' := s₁) (g' := (mkF m 9 #[.val (.int p1), .val (.ref a1), .val (.int (Int32.ofNat t)), .val (.int (Int32.ofNat t))] [])) (fun tt_ kk_ => XS.icmpNo X0.here hx rfl (hb hby d1_6) rfl (tlt hc6).2.1 kk_) ?_
    refine Ends.to (T' := s₁) (g' := (mkF m 10 #[.val (.int p1), .val (.ref a1), .val (.int (Int32.ofNat t)), .val (.int (Int32.ofNat t))] [(.ref a1)])) (fun tt_ kk_ => XS.aloadN X0.here hx rfl (hb hby d1_9) rfl rfl kk_) ?_
    refine Ends.to (T' := s₁) (g' := (mkF m 11 #[.val (.int p1), .val (.ref a1), .val (.int (Int32.ofNat t)), .val (.int (Int32.ofNat t))] [(.int (Int32.ofNat t)), (.ref a1)])) (fun tt_ kk_ => XS.iloadN X0.here hx rfl (hb hby d1_10) rfl kk_) ?_
    refine Ends.to (T' := s₁) (g' := (mkF m 14 #[.val (.int p1), .val (.ref a1), .val (.int (Int32.ofNat t)), .val (.int ((Int32.ofNat t) + (1 : Int32)))] [(.int (Int32.ofNat t)), (.ref a1)])) (fun tt_ kk_ => XS.iinc X0.here hx rfl (hb hby d1_11) rfl (l' := #[.val (.int p1), .val (.ref a1), .val (.int (Int32.ofNat t)), .val (.int ((Int32.ofNat t) + (1 : Int32)))]) rfl kk_) ?_
    rw [own_inc]
    refine Ends.to (T' := s₁) (g' := (mkF m 15 #[.val (.int p1), .val (.ref a1), .val (.int (Int32.ofNat t)), .val (.int (Int32.ofNat (t + 1)))] [(.int p1), (.int (Int32.ofNat t)), (.ref a1)])) (fun tt_ kk_ => XS.iloadN X0.here hx rfl (hb hby d1_14) rfl kk_) ?_
    refine Ends.to (T' := s₁) (g' := (mkF m 16 #[.val (.int p1), .val (.ref a1), .val (.int (Int32.ofNat t)), .val (.int (Int32.ofNat (t + 1)))] [(.int (p1.toInt8.toInt32)), (.int (Int32.ofNat t)), (.ref a1)])) (fun tt_ kk_ => XS.i2b X0.here hx rfl (hb hby d1_15) rfl kk_) ?_
    obtain ⟨T1, h1, X1, e1, W1, B1', st1⟩ := BA.stB X0 hx hZ e0 B1 (j := (Int32.ofNat t)) (i := t) (own_nneg (by omega)) (own_clamp (by omega)) (by omega) (g := (mkF m 16 #[.val (.int p1), .val (.ref a1), .val (.int (Int32.ofNat t)), .val (.int (Int32.ofNat (t + 1)))] [(.int (p1.toInt8.toInt32)), (.int (Int32.ofNat t)), (.ref a1)])) rfl rfl (hb hby d1_16)
    have K1 := Keep.wr K1 W1 (Or.inl (List.mem_of_getElem? (i := 0) rfl))
    have B1 := B1'
    clear B1'
    have N1 := Fr.snoc X1 N0 g1
    refine Ends.to (T' := T1) (g' := (mkF m 17 #[.val (.int p1), .val (.ref a1), .val (.int (Int32.ofNat t)), .val (.int (Int32.ofNat (t + 1)))] [])) (fun tt_ kk_ => st1 tt_ kk_) ?_
    refine Ends.to (T' := T1) (g' := (mkF m 183 #[.val (.int p1), .val (.ref a1), .val (.int (Int32.ofNat t)), .val (.int (Int32.ofNat (t + 1)))] [])) (fun tt_ kk_ => XS.goto X1.here hx rfl (pc0 := 17) (pc' := 183) rfl (hb hby d1_17) (by decide) (by decide) kk_) ?_
    refine Ends.to (T' := T1) (g' := (mkF m 184 #[.val (.int p1), .val (.ref a1), .val (.int (Int32.ofNat t)), .val (.int (Int32.ofNat (t + 1)))] [(.int (Int32.ofNat (t + 1)))])) (fun tt_ kk_ => XS.iloadN X1.here hx rfl (hb hby d1_183) rfl kk_) ?_
    exact Ends.retI X1 hx hret (hb hby d1_184) hlk (by decide) (by decide) ⟨by simp only [own_len, if_pos hc6], N1, by rw [e1]; exact ⟨K1, by simp only [own_enc, if_pos hc6]; exact B1⟩⟩
  · refine Ends.to (T' := s₁) (g' := (mkF m 20 #[.val (.int p1), .val (.ref a1), .val (.int (Int32.ofNat t)), .val (.int (Int32.ofNat t))] [])) (fun tt_ kk_ => XS.icmpYes X0.here hx rfl (pc0 := 6) (pc' := 20) rfl (hb hby d1_6) rfl (flt hc6).2.1 (by decide) (by decide) kk_) ?_
    refine Ends.to (T' := s₁) (g' := (mkF m 21 #[.val (.int p1), .val (.ref a1), .val (.int (Int32.ofNat t)), .val (.int (Int32.ofNat t))] [(.int p1)])) (fun tt_ kk_ => XS.iloadN X0.here hx rfl (hb hby d1_20) rfl kk_) ?_
    refine Ends.to (T' := s₁) (g' := (mkF m 24 #[.val (.int p1), .val (.ref a1), .val (.int (Int32.ofNat t)), .val (.int (Int32.ofNat t))] [(.int (2048 : Int32)), (.int p1)])) (fun tt_ kk_ => XS.sipush X0.here hx rfl (hb hby d1_21) kk_) ?_
    by_cases hc24 : p1 < (2048 : Int32)
    · refine Ends.to (T' := s₁) (g' := (mkF m 27 #[.val (.int p1), .val (.ref a1), .val (.int (Int32.ofNat t)), .val (.int (Int32.ofNat t))] [])) (fun tt_ kk_ => XS.icmpNo X0.here hx rfl (hb hby d1_24) rfl (tlt hc24).2.1 kk_) ?_
      refine Ends.to (T' := s₁) (g' := (mkF m 28 #[.val (.int p1), .val (.ref a1), .val (.int (Int32.ofNat t)), .val (.int (Int32.ofNat t))] [(.ref a1)])) (fun tt_ kk_ => XS.aloadN X0.here hx rfl (hb hby d1_27) rfl rfl kk_) ?_
      refine Ends.to (T' := s₁) (g' := (mkF m 29 #[.val (.int p1), .val (.ref a1), .val (.int (Int32.ofNat t)), .val (.int (Int32.ofNat t))] [(.int (Int32.ofNat t)), (.ref a1)])) (fun tt_ kk_ => XS.iloadN X0.here hx rfl (hb hby d1_28) rfl kk_) ?_
      refine Ends.to (T' := s₁) (g' := (mkF m 32 #[.val (.int p1), .val (.ref a1), .val (.int (Int32.ofNat t)), .val (.int ((Int32.ofNat t) + (1 : Int32)))] [(.int (Int32.ofNat t)), (.ref a1)])) (fun tt_ kk_ => XS.iinc X0.here hx rfl (hb hby d1_29) rfl (l' := #[.val (.int p1), .val (.ref a1), .val (.int (Int32.ofNat t)), .val (.int ((Int32.ofNat t) + (1 : Int32)))]) rfl kk_) ?_
      rw [own_inc]
      refine Ends.to (T' := s₁) (g' := (mkF m 35 #[.val (.int p1), .val (.ref a1), .val (.int (Int32.ofNat t)), .val (.int (Int32.ofNat (t + 1)))] [(.int (192 : Int32)), (.int (Int32.ofNat t)), (.ref a1)])) (fun tt_ kk_ => XS.sipush X0.here hx rfl (hb hby d1_32) kk_) ?_
      refine Ends.to (T' := s₁) (g' := (mkF m 36 #[.val (.int p1), .val (.ref a1), .val (.int (Int32.ofNat t)), .val (.int (Int32.ofNat (t + 1)))] [(.int p1), (.int (192 : Int32)), (.int (Int32.ofNat t)), (.ref a1)])) (fun tt_ kk_ => XS.iloadN X0.here hx rfl (hb hby d1_35) rfl kk_) ?_
      refine Ends.to (T' := s₁) (g' := (mkF m 38 #[.val (.int p1), .val (.ref a1), .val (.int (Int32.ofNat t)), .val (.int (Int32.ofNat (t + 1)))] [(.int (6 : Int32)), (.int p1), (.int (192 : Int32)), (.int (Int32.ofNat t)), (.ref a1)])) (fun tt_ kk_ => XS.bipush X0.here hx rfl (hb hby d1_36) kk_) ?_
      refine Ends.to (T' := s₁) (g' := (mkF m 39 #[.val (.int p1), .val (.ref a1), .val (.int (Int32.ofNat t)), .val (.int (Int32.ofNat (t + 1)))] [(.int (p1 >>> ((6 : Int32) &&& 31))), (.int (192 : Int32)), (.int (Int32.ofNat t)), (.ref a1)])) (fun tt_ kk_ => XS.ishr X0.here hx rfl (hb hby d1_38) rfl kk_) ?_
      refine Ends.to (T' := s₁) (g' := (mkF m 40 #[.val (.int p1), .val (.ref a1), .val (.int (Int32.ofNat t)), .val (.int (Int32.ofNat (t + 1)))] [(.int ((192 : Int32) ||| (p1 >>> ((6 : Int32) &&& 31)))), (.int (Int32.ofNat t)), (.ref a1)])) (fun tt_ kk_ => XS.ior X0.here hx rfl (hb hby d1_39) rfl kk_) ?_
      refine Ends.to (T' := s₁) (g' := (mkF m 41 #[.val (.int p1), .val (.ref a1), .val (.int (Int32.ofNat t)), .val (.int (Int32.ofNat (t + 1)))] [(.int (((192 : Int32) ||| (p1 >>> ((6 : Int32) &&& 31))).toInt8.toInt32)), (.int (Int32.ofNat t)), (.ref a1)])) (fun tt_ kk_ => XS.i2b X0.here hx rfl (hb hby d1_40) rfl kk_) ?_
      obtain ⟨T2, h2, X2, e2, W2, B1', st2⟩ := BA.stB X0 hx hZ e0 B1 (j := (Int32.ofNat t)) (i := t) (own_nneg (by omega)) (own_clamp (by omega)) (by omega) (g := (mkF m 41 #[.val (.int p1), .val (.ref a1), .val (.int (Int32.ofNat t)), .val (.int (Int32.ofNat (t + 1)))] [(.int (((192 : Int32) ||| (p1 >>> ((6 : Int32) &&& 31))).toInt8.toInt32)), (.int (Int32.ofNat t)), (.ref a1)])) rfl rfl (hb hby d1_41)
      have K1 := Keep.wr K1 W2 (Or.inl (List.mem_of_getElem? (i := 0) rfl))
      have B1 := B1'
      clear B1'
      have N2 := Fr.snoc X2 N0 g1
      refine Ends.to (T' := T2) (g' := (mkF m 42 #[.val (.int p1), .val (.ref a1), .val (.int (Int32.ofNat t)), .val (.int (Int32.ofNat (t + 1)))] [])) (fun tt_ kk_ => st2 tt_ kk_) ?_
      refine Ends.to (T' := T2) (g' := (mkF m 43 #[.val (.int p1), .val (.ref a1), .val (.int (Int32.ofNat t)), .val (.int (Int32.ofNat (t + 1)))] [(.ref a1)])) (fun tt_ kk_ => XS.aloadN X2.here hx rfl (hb hby d1_42) rfl rfl kk_) ?_
      refine Ends.to (T' := T2) (g' := (mkF m 44 #[.val (.int p1), .val (.ref a1), .val (.int (Int32.ofNat t)), .val (.int (Int32.ofNat (t + 1)))] [(.int (Int32.ofNat (t + 1))), (.ref a1)])) (fun tt_ kk_ => XS.iloadN X2.here hx rfl (hb hby d1_43) rfl kk_) ?_
      refine Ends.to (T' := T2) (g' := (mkF m 47 #[.val (.int p1), .val (.ref a1), .val (.int (Int32.ofNat t)), .val (.int ((Int32.ofNat (t + 1)) + (1 : Int32)))] [(.int (Int32.ofNat (t + 1))), (.ref a1)])) (fun tt_ kk_ => XS.iinc X2.here hx rfl (hb hby d1_44) rfl (l' := #[.val (.int p1), .val (.ref a1), .val (.int (Int32.ofNat t)), .val (.int ((Int32.ofNat (t + 1)) + (1 : Int32)))]) rfl kk_) ?_
      rw [own_inc]
      refine Ends.to (T' := T2) (g' := (mkF m 50 #[.val (.int p1), .val (.ref a1), .val (.int (Int32.ofNat t)), .val (.int (Int32.ofNat (t + 1 + 1)))] [(.int (128 : Int32)), (.int (Int32.ofNat (t + 1))), (.ref a1)])) (fun tt_ kk_ => XS.sipush X2.here hx rfl (hb hby d1_47) kk_) ?_
      refine Ends.to (T' := T2) (g' := (mkF m 51 #[.val (.int p1), .val (.ref a1), .val (.int (Int32.ofNat t)), .val (.int (Int32.ofNat (t + 1 + 1)))] [(.int p1), (.int (128 : Int32)), (.int (Int32.ofNat (t + 1))), (.ref a1)])) (fun tt_ kk_ => XS.iloadN X2.here hx rfl (hb hby d1_50) rfl kk_) ?_
      refine Ends.to (T' := T2) (g' := (mkF m 53 #[.val (.int p1), .val (.ref a1), .val (.int (Int32.ofNat t)), .val (.int (Int32.ofNat (t + 1 + 1)))] [(.int (63 : Int32)), (.int p1), (.int (128 : Int32)), (.int (Int32.ofNat (t + 1))), (.ref a1)])) (fun tt_ kk_ => XS.bipush X2.here hx rfl (hb hby d1_51) kk_) ?_
      refine Ends.to (T' := T2) (g' := (mkF m 54 #[.val (.int p1), .val (.ref a1), .val (.int (Int32.ofNat t)), .val (.int (Int32.ofNat (t + 1 + 1)))] [(.int (p1 &&& (63 : Int32))), (.int (128 : Int32)), (.int (Int32.ofNat (t + 1))), (.ref a1)])) (fun tt_ kk_ => XS.iand X2.here hx rfl (hb hby d1_53) rfl kk_) ?_
      refine Ends.to (T' := T2) (g' := (mkF m 55 #[.val (.int p1), .val (.ref a1), .val (.int (Int32.ofNat t)), .val (.int (Int32.ofNat (t + 1 + 1)))] [(.int ((128 : Int32) ||| (p1 &&& (63 : Int32)))), (.int (Int32.ofNat (t + 1))), (.ref a1)])) (fun tt_ kk_ => XS.ior X2.here hx rfl (hb hby d1_54) rfl kk_) ?_
      refine Ends.to (T' := T2) (g' := (mkF m 56 #[.val (.int p1), .val (.ref a1), .val (.int (Int32.ofNat t)), .val (.int (Int32.ofNat (t + 1 + 1)))] [(.int (((128 : Int32) ||| (p1 &&& (63 : Int32))).toInt8.toInt32)), (.int (Int32.ofNat (t + 1))), (.ref a1)])) (fun tt_ kk_ => XS.i2b X2.here hx rfl (hb hby d1_55) rfl kk_) ?_
      obtain ⟨T3, h3, X3, e3, W3, B1', st3⟩ := BA.stB X2 hx hZ e2 B1 (j := (Int32.ofNat (t + 1))) (i := (t + 1)) (own_nneg (by omega)) (own_clamp (by omega)) (by omega) (g := (mkF m 56 #[.val (.int p1), .val (.ref a1), .val (.int (Int32.ofNat t)), .val (.int (Int32.ofNat (t + 1 + 1)))] [(.int (((128 : Int32) ||| (p1 &&& (63 : Int32))).toInt8.toInt32)), (.int (Int32.ofNat (t + 1))), (.ref a1)])) rfl rfl (hb hby d1_56)
      have K1 := Keep.wr K1 W3 (Or.inl (List.mem_of_getElem? (i := 0) rfl))
      have B1 := B1'
      clear B1'
      have N3 := Fr.snoc X3 N2 g1
      refine Ends.to (T' := T3) (g' := (mkF m 57 #[.val (.int p1), .val (.ref a1), .val (.int (Int32.ofNat t)), .val (.int (Int32.ofNat (t + 1 + 1)))] [])) (fun tt_ kk_ => st3 tt_ kk_) ?_
      refine Ends.to (T' := T3) (g' := (mkF m 183 #[.val (.int p1), .val (.ref a1), .val (.int (Int32.ofNat t)), .val (.int (Int32.ofNat (t + 1 + 1)))] [])) (fun tt_ kk_ => XS.goto X3.here hx rfl (pc0 := 57) (pc' := 183) rfl (hb hby d1_57) (by decide) (by decide) kk_) ?_
      refine Ends.to (T' := T3) (g' := (mkF m 184 #[.val (.int p1), .val (.ref a1), .val (.int (Int32.ofNat t)), .val (.int (Int32.ofNat (t + 1 + 1)))] [(.int (Int32.ofNat (t + 1 + 1)))])) (fun tt_ kk_ => XS.iloadN X3.here hx rfl (hb hby d1_183) rfl kk_) ?_
      exact Ends.retI X3 hx hret (hb hby d1_184) hlk (by decide) (by decide) ⟨by simp only [own_len, if_neg hc6, if_pos hc24], N3, by rw [e3]; exact ⟨K1, by simp only [own_enc, if_neg hc6, if_pos hc24]; exact B1⟩⟩
    · refine Ends.to (T' := s₁) (g' := (mkF m 60 #[.val (.int p1), .val (.ref a1), .val (.int (Int32.ofNat t)), .val (.int (Int32.ofNat t))] [])) (fun tt_ kk_ => XS.icmpYes X0.here hx rfl (pc0 := 24) (pc' := 60) rfl (hb hby d1_24) rfl (flt hc24).2.1 (by decide) (by decide) kk_) ?_
      refine Ends.to (T' := s₁) (g' := (mkF m 61 #[.val (.int p1), .val (.ref a1), .val (.int (Int32.ofNat t)), .val (.int (Int32.ofNat t))] [(.int p1)])) (fun tt_ kk_ => XS.iloadN X0.here hx rfl (hb hby d1_60) rfl kk_) ?_
      refine Ends.to (T' := s₁) (g' := (mkF m 63 #[.val (.int p1), .val (.ref a1), .val (.int (Int32.ofNat t)), .val (.int (Int32.ofNat t))] [(.int (65536 : Int32)), (.int p1)])) (fun tt_ kk_ => X0.ldcInt hx hown (mvT hZ (hw _ (List.mem_of_getElem? (i := 12) rfl))) (g := (mkF m 61 #[.val (.int p1), .val (.ref a1), .val (.int (Int32.ofNat t)), .val (.int (Int32.ofNat t))] [(.int p1)])) rfl (hb hby d1_61) _ kk_) ?_
      by_cases hc63 : p1 < (65536 : Int32)
      · refine Ends.to (T' := s₁) (g' := (mkF m 66 #[.val (.int p1), .val (.ref a1), .val (.int (Int32.ofNat t)), .val (.int (Int32.ofNat t))] [])) (fun tt_ kk_ => XS.icmpNo X0.here hx rfl (hb hby d1_63) rfl (tlt hc63).2.1 kk_) ?_
        refine Ends.to (T' := s₁) (g' := (mkF m 67 #[.val (.int p1), .val (.ref a1), .val (.int (Int32.ofNat t)), .val (.int (Int32.ofNat t))] [(.ref a1)])) (fun tt_ kk_ => XS.aloadN X0.here hx rfl (hb hby d1_66) rfl rfl kk_) ?_
        refine Ends.to (T' := s₁) (g' := (mkF m 68 #[.val (.int p1), .val (.ref a1), .val (.int (Int32.ofNat t)), .val (.int (Int32.ofNat t))] [(.int (Int32.ofNat t)), (.ref a1)])) (fun tt_ kk_ => XS.iloadN X0.here hx rfl (hb hby d1_67) rfl kk_) ?_
        refine Ends.to (T' := s₁) (g' := (mkF m 71 #[.val (.int p1), .val (.ref a1), .val (.int (Int32.ofNat t)), .val (.int ((Int32.ofNat t) + (1 : Int32)))] [(.int (Int32.ofNat t)), (.ref a1)])) (fun tt_ kk_ => XS.iinc X0.here hx rfl (hb hby d1_68) rfl (l' := #[.val (.int p1), .val (.ref a1), .val (.int (Int32.ofNat t)), .val (.int ((Int32.ofNat t) + (1 : Int32)))]) rfl kk_) ?_
        rw [own_inc]
        refine Ends.to (T' := s₁) (g' := (mkF m 74 #[.val (.int p1), .val (.ref a1), .val (.int (Int32.ofNat t)), .val (.int (Int32.ofNat (t + 1)))] [(.int (224 : Int32)), (.int (Int32.ofNat t)), (.ref a1)])) (fun tt_ kk_ => XS.sipush X0.here hx rfl (hb hby d1_71) kk_) ?_
        refine Ends.to (T' := s₁) (g' := (mkF m 75 #[.val (.int p1), .val (.ref a1), .val (.int (Int32.ofNat t)), .val (.int (Int32.ofNat (t + 1)))] [(.int p1), (.int (224 : Int32)), (.int (Int32.ofNat t)), (.ref a1)])) (fun tt_ kk_ => XS.iloadN X0.here hx rfl (hb hby d1_74) rfl kk_) ?_
        refine Ends.to (T' := s₁) (g' := (mkF m 77 #[.val (.int p1), .val (.ref a1), .val (.int (Int32.ofNat t)), .val (.int (Int32.ofNat (t + 1)))] [(.int (12 : Int32)), (.int p1), (.int (224 : Int32)), (.int (Int32.ofNat t)), (.ref a1)])) (fun tt_ kk_ => XS.bipush X0.here hx rfl (hb hby d1_75) kk_) ?_
        refine Ends.to (T' := s₁) (g' := (mkF m 78 #[.val (.int p1), .val (.ref a1), .val (.int (Int32.ofNat t)), .val (.int (Int32.ofNat (t + 1)))] [(.int (p1 >>> ((12 : Int32) &&& 31))), (.int (224 : Int32)), (.int (Int32.ofNat t)), (.ref a1)])) (fun tt_ kk_ => XS.ishr X0.here hx rfl (hb hby d1_77) rfl kk_) ?_
        refine Ends.to (T' := s₁) (g' := (mkF m 79 #[.val (.int p1), .val (.ref a1), .val (.int (Int32.ofNat t)), .val (.int (Int32.ofNat (t + 1)))] [(.int ((224 : Int32) ||| (p1 >>> ((12 : Int32) &&& 31)))), (.int (Int32.ofNat t)), (.ref a1)])) (fun tt_ kk_ => XS.ior X0.here hx rfl (hb hby d1_78) rfl kk_) ?_
        refine Ends.to (T' := s₁) (g' := (mkF m 80 #[.val (.int p1), .val (.ref a1), .val (.int (Int32.ofNat t)), .val (.int (Int32.ofNat (t + 1)))] [(.int (((224 : Int32) ||| (p1 >>> ((12 : Int32) &&& 31))).toInt8.toInt32)), (.int (Int32.ofNat t)), (.ref a1)])) (fun tt_ kk_ => XS.i2b X0.here hx rfl (hb hby d1_79) rfl kk_) ?_
        obtain ⟨T4, h4, X4, e4, W4, B1', st4⟩ := BA.stB X0 hx hZ e0 B1 (j := (Int32.ofNat t)) (i := t) (own_nneg (by omega)) (own_clamp (by omega)) (by omega) (g := (mkF m 80 #[.val (.int p1), .val (.ref a1), .val (.int (Int32.ofNat t)), .val (.int (Int32.ofNat (t + 1)))] [(.int (((224 : Int32) ||| (p1 >>> ((12 : Int32) &&& 31))).toInt8.toInt32)), (.int (Int32.ofNat t)), (.ref a1)])) rfl rfl (hb hby d1_80)
        have K1 := Keep.wr K1 W4 (Or.inl (List.mem_of_getElem? (i := 0) rfl))
        have B1 := B1'
        clear B1'
        have N4 := Fr.snoc X4 N0 g1
        refine Ends.to (T' := T4) (g' := (mkF m 81 #[.val (.int p1), .val (.ref a1), .val (.int (Int32.ofNat t)), .val (.int (Int32.ofNat (t + 1)))] [])) (fun tt_ kk_ => st4 tt_ kk_) ?_
        refine Ends.to (T' := T4) (g' := (mkF m 82 #[.val (.int p1), .val (.ref a1), .val (.int (Int32.ofNat t)), .val (.int (Int32.ofNat (t + 1)))] [(.ref a1)])) (fun tt_ kk_ => XS.aloadN X4.here hx rfl (hb hby d1_81) rfl rfl kk_) ?_
        refine Ends.to (T' := T4) (g' := (mkF m 83 #[.val (.int p1), .val (.ref a1), .val (.int (Int32.ofNat t)), .val (.int (Int32.ofNat (t + 1)))] [(.int (Int32.ofNat (t + 1))), (.ref a1)])) (fun tt_ kk_ => XS.iloadN X4.here hx rfl (hb hby d1_82) rfl kk_) ?_
        refine Ends.to (T' := T4) (g' := (mkF m 86 #[.val (.int p1), .val (.ref a1), .val (.int (Int32.ofNat t)), .val (.int ((Int32.ofNat (t + 1)) + (1 : Int32)))] [(.int (Int32.ofNat (t + 1))), (.ref a1)])) (fun tt_ kk_ => XS.iinc X4.here hx rfl (hb hby d1_83) rfl (l' := #[.val (.int p1), .val (.ref a1), .val (.int (Int32.ofNat t)), .val (.int ((Int32.ofNat (t + 1)) + (1 : Int32)))]) rfl kk_) ?_
        rw [own_inc]
        refine Ends.to (T' := T4) (g' := (mkF m 89 #[.val (.int p1), .val (.ref a1), .val (.int (Int32.ofNat t)), .val (.int (Int32.ofNat (t + 1 + 1)))] [(.int (128 : Int32)), (.int (Int32.ofNat (t + 1))), (.ref a1)])) (fun tt_ kk_ => XS.sipush X4.here hx rfl (hb hby d1_86) kk_) ?_
        refine Ends.to (T' := T4) (g' := (mkF m 90 #[.val (.int p1), .val (.ref a1), .val (.int (Int32.ofNat t)), .val (.int (Int32.ofNat (t + 1 + 1)))] [(.int p1), (.int (128 : Int32)), (.int (Int32.ofNat (t + 1))), (.ref a1)])) (fun tt_ kk_ => XS.iloadN X4.here hx rfl (hb hby d1_89) rfl kk_) ?_
        refine Ends.to (T' := T4) (g' := (mkF m 92 #[.val (.int p1), .val (.ref a1), .val (.int (Int32.ofNat t)), .val (.int (Int32.ofNat (t + 1 + 1)))] [(.int (6 : Int32)), (.int p1), (.int (128 : Int32)), (.int (Int32.ofNat (t + 1))), (.ref a1)])) (fun tt_ kk_ => XS.bipush X4.here hx rfl (hb hby d1_90) kk_) ?_
        refine Ends.to (T' := T4) (g' := (mkF m 93 #[.val (.int p1), .val (.ref a1), .val (.int (Int32.ofNat t)), .val (.int (Int32.ofNat (t + 1 + 1)))] [(.int (p1 >>> ((6 : Int32) &&& 31))), (.int (128 : Int32)), (.int (Int32.ofNat (t + 1))), (.ref a1)])) (fun tt_ kk_ => XS.ishr X4.here hx rfl (hb hby d1_92) rfl kk_) ?_
        refine Ends.to (T' := T4) (g' := (mkF m 95 #[.val (.int p1), .val (.ref a1), .val (.int (Int32.ofNat t)), .val (.int (Int32.ofNat (t + 1 + 1)))] [(.int (63 : Int32)), (.int (p1 >>> ((6 : Int32) &&& 31))), (.int (128 : Int32)), (.int (Int32.ofNat (t + 1))), (.ref a1)])) (fun tt_ kk_ => XS.bipush X4.here hx rfl (hb hby d1_93) kk_) ?_
        refine Ends.to (T' := T4) (g' := (mkF m 96 #[.val (.int p1), .val (.ref a1), .val (.int (Int32.ofNat t)), .val (.int (Int32.ofNat (t + 1 + 1)))] [(.int ((p1 >>> ((6 : Int32) &&& 31)) &&& (63 : Int32))), (.int (128 : Int32)), (.int (Int32.ofNat (t + 1))), (.ref a1)])) (fun tt_ kk_ => XS.iand X4.here hx rfl (hb hby d1_95) rfl kk_) ?_
        refine Ends.to (T' := T4) (g' := (mkF m 97 #[.val (.int p1), .val (.ref a1), .val (.int (Int32.ofNat t)), .val (.int (Int32.ofNat (t + 1 + 1)))] [(.int ((128 : Int32) ||| ((p1 >>> ((6 : Int32) &&& 31)) &&& (63 : Int32)))), (.int (Int32.ofNat (t + 1))), (.ref a1)])) (fun tt_ kk_ => XS.ior X4.here hx rfl (hb hby d1_96) rfl kk_) ?_
        refine Ends.to (T' := T4) (g' := (mkF m 98 #[.val (.int p1), .val (.ref a1), .val (.int (Int32.ofNat t)), .val (.int (Int32.ofNat (t + 1 + 1)))] [(.int (((128 : Int32) ||| ((p1 >>> ((6 : Int32) &&& 31)) &&& (63 : Int32))).toInt8.toInt32)), (.int (Int32.ofNat (t + 1))), (.ref a1)])) (fun tt_ kk_ => XS.i2b X4.here hx rfl (hb hby d1_97) rfl kk_) ?_
        obtain ⟨T5, h5, X5, e5, W5, B1', st5⟩ := BA.stB X4 hx hZ e4 B1 (j := (Int32.ofNat (t + 1))) (i := (t + 1)) (own_nneg (by omega)) (own_clamp (by omega)) (by omega) (g := (mkF m 98 #[.val (.int p1), .val (.ref a1), .val (.int (Int32.ofNat t)), .val (.int (Int32.ofNat (t + 1 + 1)))] [(.int (((128 : Int32) ||| ((p1 >>> ((6 : Int32) &&& 31)) &&& (63 : Int32))).toInt8.toInt32)), (.int (Int32.ofNat (t + 1))), (.ref a1)])) rfl rfl (hb hby d1_98)
        have K1 := Keep.wr K1 W5 (Or.inl (List.mem_of_getElem? (i := 0) rfl))
        have B1 := B1'
        clear B1'
        have N5 := Fr.snoc X5 N4 g1
        refine Ends.to (T' := T5) (g' := (mkF m 99 #[.val (.int p1), .val (.ref a1), .val (.int (Int32.ofNat t)), .val (.int (Int32.ofNat (t + 1 + 1)))] [])) (fun tt_ kk_ => st5 tt_ kk_) ?_
        refine Ends.to (T' := T5) (g' := (mkF m 100 #[.val (.int p1), .val (.ref a1), .val (.int (Int32.ofNat t)), .val (.int (Int32.ofNat (t + 1 + 1)))] [(.ref a1)])) (fun tt_ kk_ => XS.aloadN X5.here hx rfl (hb hby d1_99) rfl rfl kk_) ?_
        refine Ends.to (T' := T5) (g' := (mkF m 101 #[.val (.int p1), .val (.ref a1), .val (.int (Int32.ofNat t)), .val (.int (Int32.ofNat (t + 1 + 1)))] [(.int (Int32.ofNat (t + 1 + 1))), (.ref a1)])) (fun tt_ kk_ => XS.iloadN X5.here hx rfl (hb hby d1_100) rfl kk_) ?_
        refine Ends.to (T' := T5) (g' := (mkF m 104 #[.val (.int p1), .val (.ref a1), .val (.int (Int32.ofNat t)), .val (.int ((Int32.ofNat (t + 1 + 1)) + (1 : Int32)))] [(.int (Int32.ofNat (t + 1 + 1))), (.ref a1)])) (fun tt_ kk_ => XS.iinc X5.here hx rfl (hb hby d1_101) rfl (l' := #[.val (.int p1), .val (.ref a1), .val (.int (Int32.ofNat t)), .val (.int ((Int32.ofNat (t + 1 + 1)) + (1 : Int32)))]) rfl kk_) ?_
        rw [own_inc]
        refine Ends.to (T' := T5) (g' := (mkF m 107 #[.val (.int p1), .val (.ref a1), .val (.int (Int32.ofNat t)), .val (.int (Int32.ofNat (t + 1 + 1 + 1)))] [(.int (128 : Int32)), (.int (Int32.ofNat (t + 1 + 1))), (.ref a1)])) (fun tt_ kk_ => XS.sipush X5.here hx rfl (hb hby d1_104) kk_) ?_
        refine Ends.to (T' := T5) (g' := (mkF m 108 #[.val (.int p1), .val (.ref a1), .val (.int (Int32.ofNat t)), .val (.int (Int32.ofNat (t + 1 + 1 + 1)))] [(.int p1), (.int (128 : Int32)), (.int (Int32.ofNat (t + 1 + 1))), (.ref a1)])) (fun tt_ kk_ => XS.iloadN X5.here hx rfl (hb hby d1_107) rfl kk_) ?_
        refine Ends.to (T' := T5) (g' := (mkF m 110 #[.val (.int p1), .val (.ref a1), .val (.int (Int32.ofNat t)), .val (.int (Int32.ofNat (t + 1 + 1 + 1)))] [(.int (63 : Int32)), (.int p1), (.int (128 : Int32)), (.int (Int32.ofNat (t + 1 + 1))), (.ref a1)])) (fun tt_ kk_ => XS.bipush X5.here hx rfl (hb hby d1_108) kk_) ?_
        refine Ends.to (T' := T5) (g' := (mkF m 111 #[.val (.int p1), .val (.ref a1), .val (.int (Int32.ofNat t)), .val (.int (Int32.ofNat (t + 1 + 1 + 1)))] [(.int (p1 &&& (63 : Int32))), (.int (128 : Int32)), (.int (Int32.ofNat (t + 1 + 1))), (.ref a1)])) (fun tt_ kk_ => XS.iand X5.here hx rfl (hb hby d1_110) rfl kk_) ?_
        refine Ends.to (T' := T5) (g' := (mkF m 112 #[.val (.int p1), .val (.ref a1), .val (.int (Int32.ofNat t)), .val (.int (Int32.ofNat (t + 1 + 1 + 1)))] [(.int ((128 : Int32) ||| (p1 &&& (63 : Int32)))), (.int (Int32.ofNat (t + 1 + 1))), (.ref a1)])) (fun tt_ kk_ => XS.ior X5.here hx rfl (hb hby d1_111) rfl kk_) ?_
        refine Ends.to (T' := T5) (g' := (mkF m 113 #[.val (.int p1), .val (.ref a1), .val (.int (Int32.ofNat t)), .val (.int (Int32.ofNat (t + 1 + 1 + 1)))] [(.int (((128 : Int32) ||| (p1 &&& (63 : Int32))).toInt8.toInt32)), (.int (Int32.ofNat (t + 1 + 1))), (.ref a1)])) (fun tt_ kk_ => XS.i2b X5.here hx rfl (hb hby d1_112) rfl kk_) ?_
        obtain ⟨T6, h6, X6, e6, W6, B1', st6⟩ := BA.stB X5 hx hZ e5 B1 (j := (Int32.ofNat (t + 1 + 1))) (i := (t + 1 + 1)) (own_nneg (by omega)) (own_clamp (by omega)) (by omega) (g := (mkF m 113 #[.val (.int p1), .val (.ref a1), .val (.int (Int32.ofNat t)), .val (.int (Int32.ofNat (t + 1 + 1 + 1)))] [(.int (((128 : Int32) ||| (p1 &&& (63 : Int32))).toInt8.toInt32)), (.int (Int32.ofNat (t + 1 + 1))), (.ref a1)])) rfl rfl (hb hby d1_113)
        have K1 := Keep.wr K1 W6 (Or.inl (List.mem_of_getElem? (i := 0) rfl))
        have B1 := B1'
        clear B1'
        have N6 := Fr.snoc X6 N5 g1
        refine Ends.to (T' := T6) (g' := (mkF m 114 #[.val (.int p1), .val (.ref a1), .val (.int (Int32.ofNat t)), .val (.int (Int32.ofNat (t + 1 + 1 + 1)))] [])) (fun tt_ kk_ => st6 tt_ kk_) ?_
        refine Ends.to (T' := T6) (g' := (mkF m 183 #[.val (.int p1), .val (.ref a1), .val (.int (Int32.ofNat t)), .val (.int (Int32.ofNat (t + 1 + 1 + 1)))] [])) (fun tt_ kk_ => XS.goto X6.here hx rfl (pc0 := 114) (pc' := 183) rfl (hb hby d1_114) (by decide) (by decide) kk_) ?_
        refine Ends.to (T' := T6) (g' := (mkF m 184 #[.val (.int p1), .val (.ref a1), .val (.int (Int32.ofNat t)), .val (.int (Int32.ofNat (t + 1 + 1 + 1)))] [(.int (Int32.ofNat (t + 1 + 1 + 1)))])) (fun tt_ kk_ => XS.iloadN X6.here hx rfl (hb hby d1_183) rfl kk_) ?_
        exact Ends.retI X6 hx hret (hb hby d1_184) hlk (by decide) (by decide) ⟨by simp only [own_len, if_neg hc6, if_neg hc24, if_pos hc63], N6, by rw [e6]; exact ⟨K1, by simp only [own_enc, if_neg hc6, if_neg hc24, if_pos hc63]; exact B1⟩⟩
      · refine Ends.to (T' := s₁) (g' := (mkF m 117 #[.val (.int p1), .val (.ref a1), .val (.int (Int32.ofNat t)), .val (.int (Int32.ofNat t))] [])) (fun tt_ kk_ => XS.icmpYes X0.here hx rfl (pc0 := 63) (pc' := 117) rfl (hb hby d1_63) rfl (flt hc63).2.1 (by decide) (by decide) kk_) ?_
        refine Ends.to (T' := s₁) (g' := (mkF m 118 #[.val (.int p1), .val (.ref a1), .val (.int (Int32.ofNat t)), .val (.int (Int32.ofNat t))] [(.ref a1)])) (fun tt_ kk_ => XS.aloadN X0.here hx rfl (hb hby d1_117) rfl rfl kk_) ?_
        refine Ends.to (T' := s₁) (g' := (mkF m 119 #[.val (.int p1), .val (.ref a1), .val (.int (Int32.ofNat t)), .val (.int (Int32.ofNat t))] [(.int (Int32.ofNat t)), (.ref a1)])) (fun tt_ kk_ => XS.iloadN X0.here hx rfl (hb hby d1_118) rfl kk_) ?_
        refine Ends.to (T' := s₁) (g' := (mkF m 122 #[.val (.int p1), .val (.ref a1), .val (.int (Int32.ofNat t)), .val (.int ((Int32.ofNat t) + (1 : Int32)))] [(.int (Int32.ofNat t)), (.ref a1)])) (fun tt_ kk_ => XS.iinc X0.here hx rfl (hb hby d1_119) rfl (l' := #[.val (.int p1), .val (.ref a1), .val (.int (Int32.ofNat t)), .val (.int ((Int32.ofNat t) + (1 : Int32)))]) rfl kk_) ?_
        rw [own_inc]
        refine Ends.to (T' := s₁) (g' := (mkF m 125 #[.val (.int p1), .val (.ref a1), .val (.int (Int32.ofNat t)), .val (.int (Int32.ofNat (t + 1)))] [(.int (240 : Int32)), (.int (Int32.ofNat t)), (.ref a1)])) (fun tt_ kk_ => XS.sipush X0.here hx rfl (hb hby d1_122) kk_) ?_
        refine Ends.to (T' := s₁) (g' := (mkF m 126 #[.val (.int p1), .val (.ref a1), .val (.int (Int32.ofNat t)), .val (.int (Int32.ofNat (t + 1)))] [(.int p1), (.int (240 : Int32)), (.int (Int32.ofNat t)), (.ref a1)])) (fun tt_ kk_ => XS.iloadN X0.here hx rfl (hb hby d1_125) rfl kk_) ?_
        refine Ends.to (T' := s₁) (g' := (mkF m 128 #[.val (.int p1), .val (.ref a1), .val (.int (Int32.ofNat t)), .val (.int (Int32.ofNat (t + 1)))] [(.int (18 : Int32)), (.int p1), (.int (240 : Int32)), (.int (Int32.ofNat t)), (.ref a1)])) (fun tt_ kk_ => XS.bipush X0.here hx rfl (hb hby d1_126) kk_) ?_
        refine Ends.to (T' := s₁) (g' := (mkF m 129 #[.val (.int p1), .val (.ref a1), .val (.int (Int32.ofNat t)), .val (.int (Int32.ofNat (t + 1)))] [(.int (p1 >>> ((18 : Int32) &&& 31))), (.int (240 : Int32)), (.int (Int32.ofNat t)), (.ref a1)])) (fun tt_ kk_ => XS.ishr X0.here hx rfl (hb hby d1_128) rfl kk_) ?_
        refine Ends.to (T' := s₁) (g' := (mkF m 130 #[.val (.int p1), .val (.ref a1), .val (.int (Int32.ofNat t)), .val (.int (Int32.ofNat (t + 1)))] [(.int ((240 : Int32) ||| (p1 >>> ((18 : Int32) &&& 31)))), (.int (Int32.ofNat t)), (.ref a1)])) (fun tt_ kk_ => XS.ior X0.here hx rfl (hb hby d1_129) rfl kk_) ?_
        refine Ends.to (T' := s₁) (g' := (mkF m 131 #[.val (.int p1), .val (.ref a1), .val (.int (Int32.ofNat t)), .val (.int (Int32.ofNat (t + 1)))] [(.int (((240 : Int32) ||| (p1 >>> ((18 : Int32) &&& 31))).toInt8.toInt32)), (.int (Int32.ofNat t)), (.ref a1)])) (fun tt_ kk_ => XS.i2b X0.here hx rfl (hb hby d1_130) rfl kk_) ?_
        obtain ⟨T7, h7, X7, e7, W7, B1', st7⟩ := BA.stB X0 hx hZ e0 B1 (j := (Int32.ofNat t)) (i := t) (own_nneg (by omega)) (own_clamp (by omega)) (by omega) (g := (mkF m 131 #[.val (.int p1), .val (.ref a1), .val (.int (Int32.ofNat t)), .val (.int (Int32.ofNat (t + 1)))] [(.int (((240 : Int32) ||| (p1 >>> ((18 : Int32) &&& 31))).toInt8.toInt32)), (.int (Int32.ofNat t)), (.ref a1)])) rfl rfl (hb hby d1_131)
        have K1 := Keep.wr K1 W7 (Or.inl (List.mem_of_getElem? (i := 0) rfl))
        have B1 := B1'
        clear B1'
        have N7 := Fr.snoc X7 N0 g1
        refine Ends.to (T' := T7) (g' := (mkF m 132 #[.val (.int p1), .val (.ref a1), .val (.int (Int32.ofNat t)), .val (.int (Int32.ofNat (t + 1)))] [])) (fun tt_ kk_ => st7 tt_ kk_) ?_
        refine Ends.to (T' := T7) (g' := (mkF m 133 #[.val (.int p1), .val (.ref a1), .val (.int (Int32.ofNat t)), .val (.int (Int32.ofNat (t + 1)))] [(.ref a1)])) (fun tt_ kk_ => XS.aloadN X7.here hx rfl (hb hby d1_132) rfl rfl kk_) ?_
        refine Ends.to (T' := T7) (g' := (mkF m 134 #[.val (.int p1), .val (.ref a1), .val (.int (Int32.ofNat t)), .val (.int (Int32.ofNat (t + 1)))] [(.int (Int32.ofNat (t + 1))), (.ref a1)])) (fun tt_ kk_ => XS.iloadN X7.here hx rfl (hb hby d1_133) rfl kk_) ?_
        refine Ends.to (T' := T7) (g' := (mkF m 137 #[.val (.int p1), .val (.ref a1), .val (.int (Int32.ofNat t)), .val (.int ((Int32.ofNat (t + 1)) + (1 : Int32)))] [(.int (Int32.ofNat (t + 1))), (.ref a1)])) (fun tt_ kk_ => XS.iinc X7.here hx rfl (hb hby d1_134) rfl (l' := #[.val (.int p1), .val (.ref a1), .val (.int (Int32.ofNat t)), .val (.int ((Int32.ofNat (t + 1)) + (1 : Int32)))]) rfl kk_) ?_
        rw [own_inc]
        refine Ends.to (T' := T7) (g' := (mkF m 140 #[.val (.int p1), .val (.ref a1), .val (.int (Int32.ofNat t)), .val (.int (Int32.ofNat (t + 1 + 1)))] [(.int (128 : Int32)), (.int (Int32.ofNat (t + 1))), (.ref a1)])) (fun tt_ kk_ => XS.sipush X7.here hx rfl (hb hby d1_137) kk_) ?_
        refine Ends.to (T' := T7) (g' := (mkF m 141 #[.val (.int p1), .val (.ref a1), .val (.int (Int32.ofNat t)), .val (.int (Int32.ofNat (t + 1 + 1)))] [(.int p1), (.int (128 : Int32)), (.int (Int32.ofNat (t + 1))), (.ref a1)])) (fun tt_ kk_ => XS.iloadN X7.here hx rfl (hb hby d1_140) rfl kk_) ?_
        refine Ends.to (T' := T7) (g' := (mkF m 143 #[.val (.int p1), .val (.ref a1), .val (.int (Int32.ofNat t)), .val (.int (Int32.ofNat (t + 1 + 1)))] [(.int (12 : Int32)), (.int p1), (.int (128 : Int32)), (.int (Int32.ofNat (t + 1))), (.ref a1)])) (fun tt_ kk_ => XS.bipush X7.here hx rfl (hb hby d1_141) kk_) ?_
        refine Ends.to (T' := T7) (g' := (mkF m 144 #[.val (.int p1), .val (.ref a1), .val (.int (Int32.ofNat t)), .val (.int (Int32.ofNat (t + 1 + 1)))] [(.int (p1 >>> ((12 : Int32) &&& 31))), (.int (128 : Int32)), (.int (Int32.ofNat (t + 1))), (.ref a1)])) (fun tt_ kk_ => XS.ishr X7.here hx rfl (hb hby d1_143) rfl kk_) ?_
        refine Ends.to (T' := T7) (g' := (mkF m 146 #[.val (.int p1), .val (.ref a1), .val (.int (Int32.ofNat t)), .val (.int (Int32.ofNat (t + 1 + 1)))] [(.int (63 : Int32)), (.int (p1 >>> ((12 : Int32) &&& 31))), (.int (128 : Int32)), (.int (Int32.ofNat (t + 1))), (.ref a1)])) (fun tt_ kk_ => XS.bipush X7.here hx rfl (hb hby d1_144) kk_) ?_
        refine Ends.to (T' := T7) (g' := (mkF m 147 #[.val (.int p1), .val (.ref a1), .val (.int (Int32.ofNat t)), .val (.int (Int32.ofNat (t + 1 + 1)))] [(.int ((p1 >>> ((12 : Int32) &&& 31)) &&& (63 : Int32))), (.int (128 : Int32)), (.int (Int32.ofNat (t + 1))), (.ref a1)])) (fun tt_ kk_ => XS.iand X7.here hx rfl (hb hby d1_146) rfl kk_) ?_
        refine Ends.to (T' := T7) (g' := (mkF m 148 #[.val (.int p1), .val (.ref a1), .val (.int (Int32.ofNat t)), .val (.int (Int32.ofNat (t + 1 + 1)))] [(.int ((128 : Int32) ||| ((p1 >>> ((12 : Int32) &&& 31)) &&& (63 : Int32)))), (.int (Int32.ofNat (t + 1))), (.ref a1)])) (fun tt_ kk_ => XS.ior X7.here hx rfl (hb hby d1_147) rfl kk_) ?_
        refine Ends.to (T' := T7) (g' := (mkF m 149 #[.val (.int p1), .val (.ref a1), .val (.int (Int32.ofNat t)), .val (.int (Int32.ofNat (t + 1 + 1)))] [(.int (((128 : Int32) ||| ((p1 >>> ((12 : Int32) &&& 31)) &&& (63 : Int32))).toInt8.toInt32)), (.int (Int32.ofNat (t + 1))), (.ref a1)])) (fun tt_ kk_ => XS.i2b X7.here hx rfl (hb hby d1_148) rfl kk_) ?_
        obtain ⟨T8, h8, X8, e8, W8, B1', st8⟩ := BA.stB X7 hx hZ e7 B1 (j := (Int32.ofNat (t + 1))) (i := (t + 1)) (own_nneg (by omega)) (own_clamp (by omega)) (by omega) (g := (mkF m 149 #[.val (.int p1), .val (.ref a1), .val (.int (Int32.ofNat t)), .val (.int (Int32.ofNat (t + 1 + 1)))] [(.int (((128 : Int32) ||| ((p1 >>> ((12 : Int32) &&& 31)) &&& (63 : Int32))).toInt8.toInt32)), (.int (Int32.ofNat (t + 1))), (.ref a1)])) rfl rfl (hb hby d1_149)
        have K1 := Keep.wr K1 W8 (Or.inl (List.mem_of_getElem? (i := 0) rfl))
        have B1 := B1'
        clear B1'
        have N8 := Fr.snoc X8 N7 g1
        refine Ends.to (T' := T8) (g' := (mkF m 150 #[.val (.int p1), .val (.ref a1), .val (.int (Int32.ofNat t)), .val (.int (Int32.ofNat (t + 1 + 1)))] [])) (fun tt_ kk_ => st8 tt_ kk_) ?_
        refine Ends.to (T' := T8) (g' := (mkF m 151 #[.val (.int p1), .val (.ref a1), .val (.int (Int32.ofNat t)), .val (.int (Int32.ofNat (t + 1 + 1)))] [(.ref a1)])) (fun tt_ kk_ => XS.aloadN X8.here hx rfl (hb hby d1_150) rfl rfl kk_) ?_
        refine Ends.to (T' := T8) (g' := (mkF m 152 #[.val (.int p1), .val (.ref a1), .val (.int (Int32.ofNat t)), .val (.int (Int32.ofNat (t + 1 + 1)))] [(.int (Int32.ofNat (t + 1 + 1))), (.ref a1)])) (fun tt_ kk_ => XS.iloadN X8.here hx rfl (hb hby d1_151) rfl kk_) ?_
        refine Ends.to (T' := T8) (g' := (mkF m 155 #[.val (.int p1), .val (.ref a1), .val (.int (Int32.ofNat t)), .val (.int ((Int32.ofNat (t + 1 + 1)) + (1 : Int32)))] [(.int (Int32.ofNat (t + 1 + 1))), (.ref a1)])) (fun tt_ kk_ => XS.iinc X8.here hx rfl (hb hby d1_152) rfl (l' := #[.val (.int p1), .val (.ref a1), .val (.int (Int32.ofNat t)), .val (.int ((Int32.ofNat (t + 1 + 1)) + (1 : Int32)))]) rfl kk_) ?_
        rw [own_inc]
        refine Ends.to (T' := T8) (g' := (mkF m 158 #[.val (.int p1), .val (.ref a1), .val (.int (Int32.ofNat t)), .val (.int (Int32.ofNat (t + 1 + 1 + 1)))] [(.int (128 : Int32)), (.int (Int32.ofNat (t + 1 + 1))), (.ref a1)])) (fun tt_ kk_ => XS.sipush X8.here hx rfl (hb hby d1_155) kk_) ?_
        refine Ends.to (T' := T8) (g' := (mkF m 159 #[.val (.int p1), .val (.ref a1), .val (.int (Int32.ofNat t)), .val (.int (Int32.ofNat (t + 1 + 1 + 1)))] [(.int p1), (.int (128 : Int32)), (.int (Int32.ofNat (t + 1 + 1))), (.ref a1)])) (fun tt_ kk_ => XS.iloadN X8.here hx rfl (hb hby d1_158) rfl kk_) ?_
        refine Ends.to (T' := T8) (g' := (mkF m 161 #[.val (.int p1), .val (.ref a1), .val (.int (Int32.ofNat t)), .val (.int (Int32.ofNat (t + 1 + 1 + 1)))] [(.int (6 : Int32)), (.int p1), (.int (128 : Int32)), (.int (Int32.ofNat (t + 1 + 1))), (.ref a1)])) (fun tt_ kk_ => XS.bipush X8.here hx rfl (hb hby d1_159) kk_) ?_
        refine Ends.to (T' := T8) (g' := (mkF m 162 #[.val (.int p1), .val (.ref a1), .val (.int (Int32.ofNat t)), .val (.int (Int32.ofNat (t + 1 + 1 + 1)))] [(.int (p1 >>> ((6 : Int32) &&& 31))), (.int (128 : Int32)), (.int (Int32.ofNat (t + 1 + 1))), (.ref a1)])) (fun tt_ kk_ => XS.ishr X8.here hx rfl (hb hby d1_161) rfl kk_) ?_
        refine Ends.to (T' := T8) (g' := (mkF m 164 #[.val (.int p1), .val (.ref a1), .val (.int (Int32.ofNat t)), .val (.int (Int32.ofNat (t + 1 + 1 + 1)))] [(.int (63 : Int32)), (.int (p1 >>> ((6 : Int32) &&& 31))), (.int (128 : Int32)), (.int (Int32.ofNat (t + 1 + 1))), (.ref a1)])) (fun tt_ kk_ => XS.bipush X8.here hx rfl (hb hby d1_162) kk_) ?_
        refine Ends.to (T' := T8) (g' := (mkF m 165 #[.val (.int p1), .val (.ref a1), .val (.int (Int32.ofNat t)), .val (.int (Int32.ofNat (t + 1 + 1 + 1)))] [(.int ((p1 >>> ((6 : Int32) &&& 31)) &&& (63 : Int32))), (.int (128 : Int32)), (.int (Int32.ofNat (t + 1 + 1))), (.ref a1)])) (fun tt_ kk_ => XS.iand X8.here hx rfl (hb hby d1_164) rfl kk_) ?_
        refine Ends.to (T' := T8) (g' := (mkF m 166 #[.val (.int p1), .val (.ref a1), .val (.int (Int32.ofNat t)), .val (.int (Int32.ofNat (t + 1 + 1 + 1)))] [(.int ((128 : Int32) ||| ((p1 >>> ((6 : Int32) &&& 31)) &&& (63 : Int32)))), (.int (Int32.ofNat (t + 1 + 1))), (.ref a1)])) (fun tt_ kk_ => XS.ior X8.here hx rfl (hb hby d1_165) rfl kk_) ?_
        refine Ends.to (T' := T8) (g' := (mkF m 167 #[.val (.int p1), .val (.ref a1), .val (.int (Int32.ofNat t)), .val (.int (Int32.ofNat (t + 1 + 1 + 1)))] [(.int (((128 : Int32) ||| ((p1 >>> ((6 : Int32) &&& 31)) &&& (63 : Int32))).toInt8.toInt32)), (.int (Int32.ofNat (t + 1 + 1))), (.ref a1)])) (fun tt_ kk_ => XS.i2b X8.here hx rfl (hb hby d1_166) rfl kk_) ?_
        obtain ⟨T9, h9, X9, e9, W9, B1', st9⟩ := BA.stB X8 hx hZ e8 B1 (j := (Int32.ofNat (t + 1 + 1))) (i := (t + 1 + 1)) (own_nneg (by omega)) (own_clamp (by omega)) (by omega) (g := (mkF m 167 #[.val (.int p1), .val (.ref a1), .val (.int (Int32.ofNat t)), .val (.int (Int32.ofNat (t + 1 + 1 + 1)))] [(.int (((128 : Int32) ||| ((p1 >>> ((6 : Int32) &&& 31)) &&& (63 : Int32))).toInt8.toInt32)), (.int (Int32.ofNat (t + 1 + 1))), (.ref a1)])) rfl rfl (hb hby d1_167)
        have K1 := Keep.wr K1 W9 (Or.inl (List.mem_of_getElem? (i := 0) rfl))
        have B1 := B1'
        clear B1'
        have N9 := Fr.snoc X9 N8 g1
        refine Ends.to (T' := T9) (g' := (mkF m 168 #[.val (.int p1), .val (.ref a1), .val (.int (Int32.ofNat t)), .val (.int (Int32.ofNat (t + 1 + 1 + 1)))] [])) (fun tt_ kk_ => st9 tt_ kk_) ?_
        refine Ends.to (T' := T9) (g' := (mkF m 169 #[.val (.int p1), .val (.ref a1), .val (.int (Int32.ofNat t)), .val (.int (Int32.ofNat (t + 1 + 1 + 1)))] [(.ref a1)])) (fun tt_ kk_ => XS.aloadN X9.here hx rfl (hb hby d1_168) rfl rfl kk_) ?_
        refine Ends.to (T' := T9) (g' := (mkF m 170 #[.val (.int p1), .val (.ref a1), .val (.int (Int32.ofNat t)), .val (.int (Int32.ofNat (t + 1 + 1 + 1)))] [(.int (Int32.ofNat (t + 1 + 1 + 1))), (.ref a1)])) (fun tt_ kk_ => XS.iloadN X9.here hx rfl (hb hby d1_169) rfl kk_) ?_
        refine Ends.to (T' := T9) (g' := (mkF m 173 #[.val (.int p1), .val (.ref a1), .val (.int (Int32.ofNat t)), .val (.int ((Int32.ofNat (t + 1 + 1 + 1)) + (1 : Int32)))] [(.int (Int32.ofNat (t + 1 + 1 + 1))), (.ref a1)])) (fun tt_ kk_ => XS.iinc X9.here hx rfl (hb hby d1_170) rfl (l' := #[.val (.int p1), .val (.ref a1), .val (.int (Int32.ofNat t)), .val (.int ((Int32.ofNat (t + 1 + 1 + 1)) + (1 : Int32)))]) rfl kk_) ?_
        rw [own_inc]
        refine Ends.to (T' := T9) (g' := (mkF m 176 #[.val (.int p1), .val (.ref a1), .val (.int (Int32.ofNat t)), .val (.int (Int32.ofNat (t + 1 + 1 + 1 + 1)))] [(.int (128 : Int32)), (.int (Int32.ofNat (t + 1 + 1 + 1))), (.ref a1)])) (fun tt_ kk_ => XS.sipush X9.here hx rfl (hb hby d1_173) kk_) ?_
        refine Ends.to (T' := T9) (g' := (mkF m 177 #[.val (.int p1), .val (.ref a1), .val (.int (Int32.ofNat t)), .val (.int (Int32.ofNat (t + 1 + 1 + 1 + 1)))] [(.int p1), (.int (128 : Int32)), (.int (Int32.ofNat (t + 1 + 1 + 1))), (.ref a1)])) (fun tt_ kk_ => XS.iloadN X9.here hx rfl (hb hby d1_176) rfl kk_) ?_
        refine Ends.to (T' := T9) (g' := (mkF m 179 #[.val (.int p1), .val (.ref a1), .val (.int (Int32.ofNat t)), .val (.int (Int32.ofNat (t + 1 + 1 + 1 + 1)))] [(.int (63 : Int32)), (.int p1), (.int (128 : Int32)), (.int (Int32.ofNat (t + 1 + 1 + 1))), (.ref a1)])) (fun tt_ kk_ => XS.bipush X9.here hx rfl (hb hby d1_177) kk_) ?_
        refine Ends.to (T' := T9) (g' := (mkF m 180 #[.val (.int p1), .val (.ref a1), .val (.int (Int32.ofNat t)), .val (.int (Int32.ofNat (t + 1 + 1 + 1 + 1)))] [(.int (p1 &&& (63 : Int32))), (.int (128 : Int32)), (.int (Int32.ofNat (t + 1 + 1 + 1))), (.ref a1)])) (fun tt_ kk_ => XS.iand X9.here hx rfl (hb hby d1_179) rfl kk_) ?_
        refine Ends.to (T' := T9) (g' := (mkF m 181 #[.val (.int p1), .val (.ref a1), .val (.int (Int32.ofNat t)), .val (.int (Int32.ofNat (t + 1 + 1 + 1 + 1)))] [(.int ((128 : Int32) ||| (p1 &&& (63 : Int32)))), (.int (Int32.ofNat (t + 1 + 1 + 1))), (.ref a1)])) (fun tt_ kk_ => XS.ior X9.here hx rfl (hb hby d1_180) rfl kk_) ?_
        refine Ends.to (T' := T9) (g' := (mkF m 182 #[.val (.int p1), .val (.ref a1), .val (.int (Int32.ofNat t)), .val (.int (Int32.ofNat (t + 1 + 1 + 1 + 1)))] [(.int (((128 : Int32) ||| (p1 &&& (63 : Int32))).toInt8.toInt32)), (.int (Int32.ofNat (t + 1 + 1 + 1))), (.ref a1)])) (fun tt_ kk_ => XS.i2b X9.here hx rfl (hb hby d1_181) rfl kk_) ?_
        obtain ⟨T10, h10, X10, e10, W10, B1', st10⟩ := BA.stB X9 hx hZ e9 B1 (j := (Int32.ofNat (t + 1 + 1 + 1))) (i := (t + 1 + 1 + 1)) (own_nneg (by omega)) (own_clamp (by omega)) (by omega) (g := (mkF m 182 #[.val (.int p1), .val (.ref a1), .val (.int (Int32.ofNat t)), .val (.int (Int32.ofNat (t + 1 + 1 + 1 + 1)))] [(.int (((128 : Int32) ||| (p1 &&& (63 : Int32))).toInt8.toInt32)), (.int (Int32.ofNat (t + 1 + 1 + 1))), (.ref a1)])) rfl rfl (hb hby d1_182)
        have K1 := Keep.wr K1 W10 (Or.inl (List.mem_of_getElem? (i := 0) rfl))
        have B1 := B1'
        clear B1'
        have N10 := Fr.snoc X10 N9 g1
        refine Ends.to (T' := T10) (g' := (mkF m 183 #[.val (.int p1), .val (.ref a1), .val (.int (Int32.ofNat t)), .val (.int (Int32.ofNat (t + 1 + 1 + 1 + 1)))] [])) (fun tt_ kk_ => st10 tt_ kk_) ?_
        refine Ends.to (T' := T10) (g' := (mkF m 184 #[.val (.int p1), .val (.ref a1), .val (.int (Int32.ofNat t)), .val (.int (Int32.ofNat (t + 1 + 1 + 1 + 1)))] [(.int (Int32.ofNat (t + 1 + 1 + 1 + 1)))])) (fun tt_ kk_ => XS.iloadN X10.here hx rfl (hb hby d1_183) rfl kk_) ?_
        exact Ends.retI X10 hx hret (hb hby d1_184) hlk (by decide) (by decide) ⟨by simp only [own_len, if_neg hc6, if_neg hc24, if_neg hc63], N10, by rw [e10]; exact ⟨K1, by simp only [own_enc, if_neg hc6, if_neg hc24, if_neg hc63]; exact B1⟩⟩
def own_ex (p len d f : Int32) : Int32 :=
  if d < 0 then f.toInt8.toInt32 else if d < len then
    (if d = 0 then (if len = 1 then own_by p else if len = 2 then own_by (192 + p / 64) else if len = 3 then own_by (224 + p / 4096) else own_by (240 + p / 262144))
     else if (len - 1) - d = 0 then own_by (128 + (p / 1) % 64) else if (len - 1) - d = 1 then own_by (128 + (p / 64) % 64) else own_by (128 + (p / 4096) % 64))
  else f.toInt8.toInt32
set_option maxRecDepth 65536 in
set_option maxHeartbeats 40000000 in
def Q_rm2 (Z : State) (p1 p2 p3 p4 p5 : Int32) (h0 : Heap) (n0 : Nat) : Option Value → Heap → List Loc → Prop := fun v h L => v = some (.int (own_ex p1 p2 (p5 - p3) p4)) ∧ Fr n0 L ∧ h = h0
set_option maxRecDepth 65536 in
set_option maxHeartbeats 40000000 in
theorem rm2 (l : Launch) (Z : State) (a0 : Array Value) (hw : ∀ d ∈ tables_1, d.before a0 Z = true) (ws : List Jvm.Cond) (p1 p2 p3 p4 p5 : Int32) (h0 : Heap) (n0 : Nat) (Z0 : n0 ≤ h0.size) :
    Pays l (⟨"com/example/predicate/predicate/document/Utf8EncodePinLaw", "expected", "(IIIBI)B"⟩ : MethodName) method_3_code 8 (some .byte) ws ({ frames := 0, cells := 0, slots := 0, locals := 0 } : Room) #[(.int p1), (.int p2), (.int p3), (.int p4), (.int p5)] Z h0 (Q_rm2 Z p1 p2 p3 p4 p5 h0 n0) := by
  refine Pays.of (plainFor_of_name pn_2) ?_
  intro p e s m below meth c s₁ hx hby hml hown hnm hret hlk hZ X0 e0
  have hown : s.vm.findClass "com/example/predicate/predicate/document/Utf8EncodePinLaw" = some m.cls := hown
  have hnm : meth.name = "expected" := hnm
  have hml : c.maxLocals = 8 := hml
  show Ends p e below s _ _ (fun v h L => v = some (.int (own_ex p1 p2 (p5 - p3) p4)) ∧ Fr n0 L ∧ h = h0) s₁ _
  refine Ends.cast (ef_2 m p1 p2 p3 p4 p5) ?_
  have N0 := Fr.nil n0
  refine Ends.to (T' := s₁) (g' := (mkF m 2 #[.val (.int p1), .val (.int p2), .val (.int p3), .val (.int p4), .val (.int p5), .unset, .unset, .unset] [(.int p5)])) (fun tt_ kk_ => XS.iload X0.here hx rfl (hb hby d2_0) rfl kk_) ?_
  refine Ends.to (T' := s₁) (g' := (mkF m 3 #[.val (.int p1), .val (.int p2), .val (.int p3), .val (.int p4), .val (.int p5), .unset, .unset, .unset] [(.int p3), (.int p5)])) (fun tt_ kk_ => XS.iloadN X0.here hx rfl (hb hby d2_2) rfl kk_) ?_
  refine Ends.to (T' := s₁) (g' := (mkF m 4 #[.val (.int p1), .val (.int p2), .val (.int p3), .val (.int p4), .val (.int p5), .unset, .unset, .unset] [(.int (p5 - p3))])) (fun tt_ kk_ => XS.isub X0.here hx rfl (hb hby d2_3) rfl kk_) ?_
  refine Ends.to (T' := s₁) (g' := (mkF m 6 #[.val (.int p1), .val (.int p2), .val (.int p3), .val (.int p4), .val (.int p5), .val (.int (p5 - p3)), .unset, .unset] [])) (fun tt_ kk_ => XS.istore X0.here hx rfl (hb hby d2_4) rfl (l' := #[.val (.int p1), .val (.int p2), .val (.int p3), .val (.int p4), .val (.int p5), .val (.int (p5 - p3)), .unset, .unset]) rfl kk_) ?_
  refine Ends.to (T' := s₁) (g' := (mkF m 8 #[.val (.int p1), .val (.int p2), .val (.int p3), .val (.int p4), .val (.int p5), .val (.int (p5 - p3)), .unset, .unset] [(.int (p5 - p3))])) (fun tt_ kk_ => XS.iload X0.here hx rfl (hb hby d2_6) rfl kk_) ?_
  by_cases hc8 : (p5 - p3) < (0 : Int32)
  · refine Ends.to (T' := s₁) (g' := (mkF m 17 #[.val (.int p1), .val (.int p2), .val (.int p3), .val (.int p4), .val (.int p5), .val (.int (p5 - p3)), .unset, .unset] [])) (fun tt_ kk_ => XS.ifYes X0.here hx rfl (pc0 := 8) (pc' := 17) rfl (hb hby d2_8) rfl ((if0 _ _).trans (tlt hc8).1) (by decide) (by decide) kk_) ?_
    refine Ends.to (T' := s₁) (g' := (mkF m 18 #[.val (.int p1), .val (.int p2), .val (.int p3), .val (.int p4), .val (.int p5), .val (.int (p5 - p3)), .unset, .unset] [(.int p4)])) (fun tt_ kk_ => XS.iloadN X0.here hx rfl (hb hby d2_17) rfl kk_) ?_
    exact Ends.retN (t := .byte) (by simp) X0 hx hret (hb hby d2_18) hlk (by decide) (by decide) ⟨by simp only [own_ex, nar, if_pos hc8] ; first | done | rfl, N0, e0⟩
  · refine Ends.to (T' := s₁) (g' := (mkF m 11 #[.val (.int p1), .val (.int p2), .val (.int p3), .val (.int p4), .val (.int p5), .val (.int (p5 - p3)), .unset, .unset] [])) (fun tt_ kk_ => XS.ifNo X0.here hx rfl (hb hby d2_8) rfl ((if0 _ _).trans (flt hc8).1) kk_) ?_
    refine Ends.to (T' := s₁) (g' := (mkF m 13 #[.val (.int p1), .val (.int p2), .val (.int p3), .val (.int p4), .val (.int p5), .val (.int (p5 - p3)), .unset, .unset] [(.int (p5 - p3))])) (fun tt_ kk_ => XS.iload X0.here hx rfl (hb hby d2_11) rfl kk_) ?_
    refine Ends.to (T' := s₁) (g' := (mkF m 14 #[.val (.int p1), .val (.int p2), .val (.int p3), .val (.int p4), .val (.int p5), .val (.int (p5 - p3)), .unset, .unset] [(.int p2), (.int (p5 - p3))])) (fun tt_ kk_ => XS.iloadN X0.here hx rfl (hb hby d2_13) rfl kk_) ?_
    by_cases hc14 : (p5 - p3) < p2
    · refine Ends.to (T' := s₁) (g' := (mkF m 19 #[.val (.int p1), .val (.int p2), .val (.int p3), .val (.int p4), .val (.int p5), .val (.int (p5 - p3)), .unset, .unset] [])) (fun tt_ kk_ => XS.icmpYes X0.here hx rfl (pc0 := 14) (pc' := 19) rfl (hb hby d2_14) rfl (tlt hc14).1 (by decide) (by decide) kk_) ?_
      refine Ends.to (T' := s₁) (g' := (mkF m 21 #[.val (.int p1), .val (.int p2), .val (.int p3), .val (.int p4), .val (.int p5), .val (.int (p5 - p3)), .unset, .unset] [(.int (p5 - p3))])) (fun tt_ kk_ => XS.iload X0.here hx rfl (hb hby d2_19) rfl kk_) ?_
      by_cases hc21 : (p5 - p3) = (0 : Int32)
      · refine Ends.to (T' := s₁) (g' := (mkF m 24 #[.val (.int p1), .val (.int p2), .val (.int p3), .val (.int p4), .val (.int p5), .val (.int (p5 - p3)), .unset, .unset] [])) (fun tt_ kk_ => XS.ifNo X0.here hx rfl (hb hby d2_21) rfl ((if0 _ _).trans (teq hc21).2) kk_) ?_
        refine Ends.to (T' := s₁) (g' := (mkF m 25 #[.val (.int p1), .val (.int p2), .val (.int p3), .val (.int p4), .val (.int p5), .val (.int (p5 - p3)), .unset, .unset] [(.int p2)])) (fun tt_ kk_ => XS.iloadN X0.here hx rfl (hb hby d2_24) rfl kk_) ?_
        refine Ends.to (T' := s₁) (g' := (mkF m 26 #[.val (.int p1), .val (.int p2), .val (.int p3), .val (.int p4), .val (.int p5), .val (.int (p5 - p3)), .unset, .unset] [(.int (1 : Int32)), (.int p2)])) (fun tt_ kk_ => XS.iconst X0.here hx rfl (hb hby d2_25) kk_) ?_
        by_cases hc26 : p2 = (1 : Int32)
        · refine Ends.to (T' := s₁) (g' := (mkF m 29 #[.val (.int p1), .val (.int p2), .val (.int p3), .val (.int p4), .val (.int p5), .val (.int (p5 - p3)), .unset, .unset] [])) (fun tt_ kk_ => XS.icmpNo X0.here hx rfl (hb hby d2_26) rfl (teq hc26).2 kk_) ?_
          refine Ends.to (T' := s₁) (g' := (mkF m 30 #[.val (.int p1), .val (.int p2), .val (.int p3), .val (.int p4), .val (.int p5), .val (.int (p5 - p3)), .unset, .unset] [(.int p1)])) (fun tt_ kk_ => XS.iloadN X0.here hx rfl (hb hby d2_29) rfl kk_) ?_
          refine Ends.to (T' := s₁) (g' := (mkF m 31 #[.val (.int p1), .val (.int p2), .val (.int p3), .val (.int p4), .val (.int p5), .val (.int (p5 - p3)), .unset, .unset] [(.int (p1.toInt8.toInt32))])) (fun tt_ kk_ => XS.i2b X0.here hx rfl (hb hby d2_30) rfl kk_) ?_
          exact Ends.retN (t := .byte) (by simp) X0 hx hret (hb hby d2_31) hlk (by decide) (by decide) ⟨by simp only [own_ex, nar, if_neg hc8, if_pos hc14, if_pos hc21, if_pos hc26] ; first | done | rfl, N0, e0⟩
        · refine Ends.to (T' := s₁) (g' := (mkF m 32 #[.val (.int p1), .val (.int p2), .val (.int p3), .val (.int p4), .val (.int p5), .val (.int (p5 - p3)), .unset, .unset] [])) (fun tt_ kk_ => XS.icmpYes X0.here hx rfl (pc0 := 26) (pc' := 32) rfl (hb hby d2_26) rfl (feq hc26).2 (by decide) (by decide) kk_) ?_
          refine Ends.to (T' := s₁) (g' := (mkF m 33 #[.val (.int p1), .val (.int p2), .val (.int p3), .val (.int p4), .val (.int p5), .val (.int (p5 - p3)), .unset, .unset] [(.int p2)])) (fun tt_ kk_ => XS.iloadN X0.here hx rfl (hb hby d2_32) rfl kk_) ?_
          refine Ends.to (T' := s₁) (g' := (mkF m 34 #[.val (.int p1), .val (.int p2), .val (.int p3), .val (.int p4), .val (.int p5), .val (.int (p5 - p3)), .unset, .unset] [(.int (2 : Int32)), (.int p2)])) (fun tt_ kk_ => XS.iconst X0.here hx rfl (hb hby d2_33) kk_) ?_
          by_cases hc34 : p2 = (2 : Int32)
          · refine Ends.to (T' := s₁) (g' := (mkF m 37 #[.val (.int p1), .val (.int p2), .val (.int p3), .val (.int p4), .val (.int p5), .val (.int (p5 - p3)), .unset, .unset] [])) (fun tt_ kk_ => XS.icmpNo X0.here hx rfl (hb hby d2_34) rfl (teq hc34).2 kk_) ?_
            refine Ends.to (T' := s₁) (g' := (mkF m 40 #[.val (.int p1), .val (.int p2), .val (.int p3), .val (.int p4), .val (.int p5), .val (.int (p5 - p3)), .unset, .unset] [(.int (192 : Int32))])) (fun tt_ kk_ => XS.sipush X0.here hx rfl (hb hby d2_37) kk_) ?_
            refine Ends.to (T' := s₁) (g' := (mkF m 41 #[.val (.int p1), .val (.int p2), .val (.int p3), .val (.int p4), .val (.int p5), .val (.int (p5 - p3)), .unset, .unset] [(.int p1), (.int (192 : Int32))])) (fun tt_ kk_ => XS.iloadN X0.here hx rfl (hb hby d2_40) rfl kk_) ?_
            refine Ends.to (T' := s₁) (g' := (mkF m 43 #[.val (.int p1), .val (.int p2), .val (.int p3), .val (.int p4), .val (.int p5), .val (.int (p5 - p3)), .unset, .unset] [(.int (64 : Int32)), (.int p1), (.int (192 : Int32))])) (fun tt_ kk_ => XS.bipush X0.here hx rfl (hb hby d2_41) kk_) ?_
            refine Ends.to (T' := s₁) (g' := (mkF m 44 #[.val (.int p1), .val (.int p2), .val (.int p3), .val (.int p4), .val (.int p5), .val (.int (p5 - p3)), .unset, .unset] [(.int (p1 / (64 : Int32))), (.int (192 : Int32))])) (fun tt_ kk_ => XS.idiv X0.here hx rfl (hb hby d2_43) rfl (by decide) kk_) ?_
            refine Ends.to (T' := s₁) (g' := (mkF m 45 #[.val (.int p1), .val (.int p2), .val (.int p3), .val (.int p4), .val (.int p5), .val (.int (p5 - p3)), .unset, .unset] [(.int ((192 : Int32) + (p1 / (64 : Int32))))])) (fun tt_ kk_ => XS.iadd X0.here hx rfl (hb hby d2_44) rfl kk_) ?_
            refine Ends.to (T' := s₁) (g' := (mkF m 46 #[.val (.int p1), .val (.int p2), .val (.int p3), .val (.int p4), .val (.int p5), .val (.int (p5 - p3)), .unset, .unset] [(.int (((192 : Int32) + (p1 / (64 : Int32))).toInt8.toInt32))])) (fun tt_ kk_ => XS.i2b X0.here hx rfl (hb hby d2_45) rfl kk_) ?_
            exact Ends.retN (t := .byte) (by simp) X0 hx hret (hb hby d2_46) hlk (by decide) (by decide) ⟨by simp only [own_ex, nar, if_neg hc8, if_pos hc14, if_pos hc21, if_neg hc26, if_pos hc34] ; first | done | rfl, N0, e0⟩
          · refine Ends.to (T' := s₁) (g' := (mkF m 47 #[.val (.int p1), .val (.int p2), .val (.int p3), .val (.int p4), .val (.int p5), .val (.int (p5 - p3)), .unset, .unset] [])) (fun tt_ kk_ => XS.icmpYes X0.here hx rfl (pc0 := 34) (pc' := 47) rfl (hb hby d2_34) rfl (feq hc34).2 (by decide) (by decide) kk_) ?_
            refine Ends.to (T' := s₁) (g' := (mkF m 48 #[.val (.int p1), .val (.int p2), .val (.int p3), .val (.int p4), .val (.int p5), .val (.int (p5 - p3)), .unset, .unset] [(.int p2)])) (fun tt_ kk_ => XS.iloadN X0.here hx rfl (hb hby d2_47) rfl kk_) ?_
            refine Ends.to (T' := s₁) (g' := (mkF m 49 #[.val (.int p1), .val (.int p2), .val (.int p3), .val (.int p4), .val (.int p5), .val (.int (p5 - p3)), .unset, .unset] [(.int (3 : Int32)), (.int p2)])) (fun tt_ kk_ => XS.iconst X0.here hx rfl (hb hby d2_48) kk_) ?_
            by_cases hc49 : p2 = (3 : Int32)
            · refine Ends.to (T' := s₁) (g' := (mkF m 52 #[.val (.int p1), .val (.int p2), .val (.int p3), .val (.int p4), .val (.int p5), .val (.int (p5 - p3)), .unset, .unset] [])) (fun tt_ kk_ => XS.icmpNo X0.here hx rfl (hb hby d2_49) rfl (teq hc49).2 kk_) ?_
              refine Ends.to (T' := s₁) (g' := (mkF m 55 #[.val (.int p1), .val (.int p2), .val (.int p3), .val (.int p4), .val (.int p5), .val (.int (p5 - p3)), .unset, .unset] [(.int (224 : Int32))])) (fun tt_ kk_ => XS.sipush X0.here hx rfl (hb hby d2_52) kk_) ?_
              refine Ends.to (T' := s₁) (g' := (mkF m 56 #[.val (.int p1), .val (.int p2), .val (.int p3), .val (.int p4), .val (.int p5), .val (.int (p5 - p3)), .unset, .unset] [(.int p1), (.int (224 : Int32))])) (fun tt_ kk_ => XS.iloadN X0.here hx rfl (hb hby d2_55) rfl kk_) ?_
              refine Ends.to (T' := s₁) (g' := (mkF m 59 #[.val (.int p1), .val (.int p2), .val (.int p3), .val (.int p4), .val (.int p5), .val (.int (p5 - p3)), .unset, .unset] [(.int (4096 : Int32)), (.int p1), (.int (224 : Int32))])) (fun tt_ kk_ => XS.sipush X0.here hx rfl (hb hby d2_56) kk_) ?_
              refine Ends.to (T' := s₁) (g' := (mkF m 60 #[.val (.int p1), .val (.int p2), .val (.int p3), .val (.int p4), .val (.int p5), .val (.int (p5 - p3)), .unset, .unset] [(.int (p1 / (4096 : Int32))), (.int (224 : Int32))])) (fun tt_ kk_ => XS.idiv X0.here hx rfl (hb hby d2_59) rfl (by decide) kk_) ?_
              refine Ends.to (T' := s₁) (g' := (mkF m 61 #[.val (.int p1), .val (.int p2), .val (.int p3), .val (.int p4), .val (.int p5), .val (.int (p5 - p3)), .unset, .unset] [(.int ((224 : Int32) + (p1 / (4096 : Int32))))])) (fun tt_ kk_ => XS.iadd X0.here hx rfl (hb hby d2_60) rfl kk_) ?_
              refine Ends.to (T' := s₁) (g' := (mkF m 62 #[.val (.int p1), .val (.int p2), .val (.int p3), .val (.int p4), .val (.int p5), .val (.int (p5 - p3)), .unset, .unset] [(.int (((224 : Int32) + (p1 / (4096 : Int32))).toInt8.toInt32))])) (fun tt_ kk_ => XS.i2b X0.here hx rfl (hb hby d2_61) rfl kk_) ?_
              exact Ends.retN (t := .byte) (by simp) X0 hx hret (hb hby d2_62) hlk (by decide) (by decide) ⟨by simp only [own_ex, nar, if_neg hc8, if_pos hc14, if_pos hc21, if_neg hc26, if_neg hc34, if_pos hc49] ; first | done | rfl, N0, e0⟩
            · refine Ends.to (T' := s₁) (g' := (mkF m 63 #[.val (.int p1), .val (.int p2), .val (.int p3), .val (.int p4), .val (.int p5), .val (.int (p5 - p3)), .unset, .unset] [])) (fun tt_ kk_ => XS.icmpYes X0.here hx rfl (pc0 := 49) (pc' := 63) rfl (hb hby d2_49) rfl (feq hc49).2 (by decide) (by decide) kk_) ?_
              refine Ends.to (T' := s₁) (g' := (mkF m 66 #[.val (.int p1), .val (.int p2), .val (.int p3), .val (.int p4), .val (.int p5), .val (.int (p5 - p3)), .unset, .unset] [(.int (240 : Int32))])) (fun tt_ kk_ => XS.sipush X0.here hx rfl (hb hby d2_63) kk_) ?_
              refine Ends.to (T' := s₁) (g' := (mkF m 67 #[.val (.int p1), .val (.int p2), .val (.int p3), .val (.int p4), .val (.int p5), .val (.int (p5 - p3)), .unset, .unset] [(.int p1), (.int (240 : Int32))])) (fun tt_ kk_ => XS.iloadN X0.here hx rfl (hb hby d2_66) rfl kk_) ?_
              refine Ends.to (T' := s₁) (g' := (mkF m 69 #[.val (.int p1), .val (.int p2), .val (.int p3), .val (.int p4), .val (.int p5), .val (.int (p5 - p3)), .unset, .unset] [(.int (262144 : Int32)), (.int p1), (.int (240 : Int32))])) (fun tt_ kk_ => X0.ldcInt hx hown (mvT hZ (hw _ (List.mem_of_getElem? (i := 13) rfl))) (g := (mkF m 67 #[.val (.int p1), .val (.int p2), .val (.int p3), .val (.int p4), .val (.int p5), .val (.int (p5 - p3)), .unset, .unset] [(.int p1), (.int (240 : Int32))])) rfl (hb hby d2_67) _ kk_) ?_
              refine Ends.to (T' := s₁) (g' := (mkF m 70 #[.val (.int p1), .val (.int p2), .val (.int p3), .val (.int p4), .val (.int p5), .val (.int (p5 - p3)), .unset, .unset] [(.int (p1 / (262144 : Int32))), (.int (240 : Int32))])) (fun tt_ kk_ => XS.idiv X0.here hx rfl (hb hby d2_69) rfl (by decide) kk_) ?_
              refine Ends.to (T' := s₁) (g' := (mkF m 71 #[.val (.int p1), .val (.int p2), .val (.int p3), .val (.int p4), .val (.int p5), .val (.int (p5 - p3)), .unset, .unset] [(.int ((240 : Int32) + (p1 / (262144 : Int32))))])) (fun tt_ kk_ => XS.iadd X0.here hx rfl (hb hby d2_70) rfl kk_) ?_
              refine Ends.to (T' := s₁) (g' := (mkF m 72 #[.val (.int p1), .val (.int p2), .val (.int p3), .val (.int p4), .val (.int p5), .val (.int (p5 - p3)), .unset, .unset] [(.int (((240 : Int32) + (p1 / (262144 : Int32))).toInt8.toInt32))])) (fun tt_ kk_ => XS.i2b X0.here hx rfl (hb hby d2_71) rfl kk_) ?_
              exact Ends.retN (t := .byte) (by simp) X0 hx hret (hb hby d2_72) hlk (by decide) (by decide) ⟨by simp only [own_ex, nar, if_neg hc8, if_pos hc14, if_pos hc21, if_neg hc26, if_neg hc34, if_neg hc49] ; first | done | rfl, N0, e0⟩
      · refine Ends.to (T' := s₁) (g' := (mkF m 73 #[.val (.int p1), .val (.int p2), .val (.int p3), .val (.int p4), .val (.int p5), .val (.int (p5 - p3)), .unset, .unset] [])) (fun tt_ kk_ => XS.ifYes X0.here hx rfl (pc0 := 21) (pc' := 73) rfl (hb hby d2_21) rfl ((if0 _ _).trans (feq hc21).2) (by decide) (by decide) kk_) ?_
        refine Ends.to (T' := s₁) (g' := (mkF m 74 #[.val (.int p1), .val (.int p2), .val (.int p3), .val (.int p4), .val (.int p5), .val (.int (p5 - p3)), .unset, .unset] [(.int p2)])) (fun tt_ kk_ => XS.iloadN X0.here hx rfl (hb hby d2_73) rfl kk_) ?_
        refine Ends.to (T' := s₁) (g' := (mkF m 75 #[.val (.int p1), .val (.int p2), .val (.int p3), .val (.int p4), .val (.int p5), .val (.int (p5 - p3)), .unset, .unset] [(.int (1 : Int32)), (.int p2)])) (fun tt_ kk_ => XS.iconst X0.here hx rfl (hb hby d2_74) kk_) ?_
        refine Ends.to (T' := s₁) (g' := (mkF m 76 #[.val (.int p1), .val (.int p2), .val (.int p3), .val (.int p4), .val (.int p5), .val (.int (p5 - p3)), .unset, .unset] [(.int (p2 - (1 : Int32)))])) (fun tt_ kk_ => XS.isub X0.here hx rfl (hb hby d2_75) rfl kk_) ?_
        refine Ends.to (T' := s₁) (g' := (mkF m 78 #[.val (.int p1), .val (.int p2), .val (.int p3), .val (.int p4), .val (.int p5), .val (.int (p5 - p3)), .unset, .unset] [(.int (p5 - p3)), (.int (p2 - (1 : Int32)))])) (fun tt_ kk_ => XS.iload X0.here hx rfl (hb hby d2_76) rfl kk_) ?_
        refine Ends.to (T' := s₁) (g' := (mkF m 79 #[.val (.int p1), .val (.int p2), .val (.int p3), .val (.int p4), .val (.int p5), .val (.int (p5 - p3)), .unset, .unset] [(.int ((p2 - (1 : Int32)) - (p5 - p3)))])) (fun tt_ kk_ => XS.isub X0.here hx rfl (hb hby d2_78) rfl kk_) ?_
        refine Ends.to (T' := s₁) (g' := (mkF m 81 #[.val (.int p1), .val (.int p2), .val (.int p3), .val (.int p4), .val (.int p5), .val (.int (p5 - p3)), .val (.int ((p2 - (1 : Int32)) - (p5 - p3))), .unset] [])) (fun tt_ kk_ => XS.istore X0.here hx rfl (hb hby d2_79) rfl (l' := #[.val (.int p1), .val (.int p2), .val (.int p3), .val (.int p4), .val (.int p5), .val (.int (p5 - p3)), .val (.int ((p2 - (1 : Int32)) - (p5 - p3))), .unset]) rfl kk_) ?_
        refine Ends.to (T' := s₁) (g' := (mkF m 83 #[.val (.int p1), .val (.int p2), .val (.int p3), .val (.int p4), .val (.int p5), .val (.int (p5 - p3)), .val (.int ((p2 - (1 : Int32)) - (p5 - p3))), .unset] [(.int ((p2 - (1 : Int32)) - (p5 - p3)))])) (fun tt_ kk_ => XS.iload X0.here hx rfl (hb hby d2_81) rfl kk_) ?_
        by_cases hc83 : ((p2 - (1 : Int32)) - (p5 - p3)) = (0 : Int32)
        · refine Ends.to (T' := s₁) (g' := (mkF m 86 #[.val (.int p1), .val (.int p2), .val (.int p3), .val (.int p4), .val (.int p5), .val (.int (p5 - p3)), .val (.int ((p2 - (1 : Int32)) - (p5 - p3))), .unset] [])) (fun tt_ kk_ => XS.ifNo X0.here hx rfl (hb hby d2_83) rfl ((if0 _ _).trans (teq hc83).2) kk_) ?_
          refine Ends.to (T' := s₁) (g' := (mkF m 87 #[.val (.int p1), .val (.int p2), .val (.int p3), .val (.int p4), .val (.int p5), .val (.int (p5 - p3)), .val (.int ((p2 - (1 : Int32)) - (p5 - p3))), .unset] [(.int (1 : Int32))])) (fun tt_ kk_ => XS.iconst X0.here hx rfl (hb hby d2_86) kk_) ?_
          refine Ends.to (T' := s₁) (g' := (mkF m 104 #[.val (.int p1), .val (.int p2), .val (.int p3), .val (.int p4), .val (.int p5), .val (.int (p5 - p3)), .val (.int ((p2 - (1 : Int32)) - (p5 - p3))), .unset] [(.int (1 : Int32))])) (fun tt_ kk_ => XS.goto X0.here hx rfl (pc0 := 87) (pc' := 104) rfl (hb hby d2_87) (by decide) (by decide) kk_) ?_
          refine Ends.to (T' := s₁) (g' := (mkF m 106 #[.val (.int p1), .val (.int p2), .val (.int p3), .val (.int p4), .val (.int p5), .val (.int (p5 - p3)), .val (.int ((p2 - (1 : Int32)) - (p5 - p3))), .val (.int (1 : Int32))] [])) (fun tt_ kk_ => XS.istore X0.here hx rfl (hb hby d2_104) rfl (l' := #[.val (.int p1), .val (.int p2), .val (.int p3), .val (.int p4), .val (.int p5), .val (.int (p5 - p3)), .val (.int ((p2 - (1 : Int32)) - (p5 - p3))), .val (.int (1 : Int32))]) rfl kk_) ?_
          refine Ends.to (T' := s₁) (g' := (mkF m 109 #[.val (.int p1), .val (.int p2), .val (.int p3), .val (.int p4), .val (.int p5), .val (.int (p5 - p3)), .val (.int ((p2 - (1 : Int32)) - (p5 - p3))), .val (.int (1 : Int32))] [(.int (128 : Int32))])) (fun tt_ kk_ => XS.sipush X0.here hx rfl (hb hby d2_106) kk_) ?_
          refine Ends.to (T' := s₁) (g' := (mkF m 110 #[.val (.int p1), .val (.int p2), .val (.int p3), .val (.int p4), .val (.int p5), .val (.int (p5 - p3)), .val (.int ((p2 - (1 : Int32)) - (p5 - p3))), .val (.int (1 : Int32))] [(.int p1), (.int (128 : Int32))])) (fun tt_ kk_ => XS.iloadN X0.here hx rfl (hb hby d2_109) rfl kk_) ?_
          refine Ends.to (T' := s₁) (g' := (mkF m 112 #[.val (.int p1), .val (.int p2), .val (.int p3), .val (.int p4), .val (.int p5), .val (.int (p5 - p3)), .val (.int ((p2 - (1 : Int32)) - (p5 - p3))), .val (.int (1 : Int32))] [(.int (1 : Int32)), (.int p1), (.int (128 : Int32))])) (fun tt_ kk_ => XS.iload X0.here hx rfl (hb hby d2_110) rfl kk_) ?_
          refine Ends.to (T' := s₁) (g' := (mkF m 113 #[.val (.int p1), .val (.int p2), .val (.int p3), .val (.int p4), .val (.int p5), .val (.int (p5 - p3)), .val (.int ((p2 - (1 : Int32)) - (p5 - p3))), .val (.int (1 : Int32))] [(.int (p1 / (1 : Int32))), (.int (128 : Int32))])) (fun tt_ kk_ => XS.idiv X0.here hx rfl (hb hby d2_112) rfl (by decide) kk_) ?_
          refine Ends.to (T' := s₁) (g' := (mkF m 115 #[.val (.int p1), .val (.int p2), .val (.int p3), .val (.int p4), .val (.int p5), .val (.int (p5 - p3)), .val (.int ((p2 - (1 : Int32)) - (p5 - p3))), .val (.int (1 : Int32))] [(.int (64 : Int32)), (.int (p1 / (1 : Int32))), (.int (128 : Int32))])) (fun tt_ kk_ => XS.bipush X0.here hx rfl (hb hby d2_113) kk_) ?_
          refine Ends.to (T' := s₁) (g' := (mkF m 116 #[.val (.int p1), .val (.int p2), .val (.int p3), .val (.int p4), .val (.int p5), .val (.int (p5 - p3)), .val (.int ((p2 - (1 : Int32)) - (p5 - p3))), .val (.int (1 : Int32))] [(.int ((p1 / (1 : Int32)) % (64 : Int32))), (.int (128 : Int32))])) (fun tt_ kk_ => Jvm.RoadKit.iremM X0 hx rfl (hb hby d2_115) rfl (by decide) kk_) ?_
          refine Ends.to (T' := s₁) (g' := (mkF m 117 #[.val (.int p1), .val (.int p2), .val (.int p3), .val (.int p4), .val (.int p5), .val (.int (p5 - p3)), .val (.int ((p2 - (1 : Int32)) - (p5 - p3))), .val (.int (1 : Int32))] [(.int ((128 : Int32) + ((p1 / (1 : Int32)) % (64 : Int32))))])) (fun tt_ kk_ => XS.iadd X0.here hx rfl (hb hby d2_116) rfl kk_) ?_
          refine Ends.to (T' := s₁) (g' := (mkF m 118 #[.val (.int p1), .val (.int p2), .val (.int p3), .val (.int p4), .val (.int p5), .val (.int (p5 - p3)), .val (.int ((p2 - (1 : Int32)) - (p5 - p3))), .val (.int (1 : Int32))] [(.int (((128 : Int32) + ((p1 / (1 : Int32)) % (64 : Int32))).toInt8.toInt32))])) (fun tt_ kk_ => XS.i2b X0.here hx rfl (hb hby d2_117) rfl kk_) ?_
          exact Ends.retN (t := .byte) (by simp) X0 hx hret (hb hby d2_118) hlk (by decide) (by decide) ⟨by simp only [own_ex, nar, if_neg hc8, if_pos hc14, if_neg hc21, if_pos hc83] ; first | done | rfl, N0, e0⟩
        · refine Ends.to (T' := s₁) (g' := (mkF m 90 #[.val (.int p1), .val (.int p2), .val (.int p3), .val (.int p4), .val (.int p5), .val (.int (p5 - p3)), .val (.int ((p2 - (1 : Int32)) - (p5 - p3))), .unset] [])) (fun tt_ kk_ => XS.ifYes X0.here hx rfl (pc0 := 83) (pc' := 90) rfl (hb hby d2_83) rfl ((if0 _ _).trans (feq hc83).2) (by decide) (by decide) kk_) ?_
          refine Ends.to (T' := s₁) (g' := (mkF m 92 #[.val (.int p1), .val (.int p2), .val (.int p3), .val (.int p4), .val (.int p5), .val (.int (p5 - p3)), .val (.int ((p2 - (1 : Int32)) - (p5 - p3))), .unset] [(.int ((p2 - (1 : Int32)) - (p5 - p3)))])) (fun tt_ kk_ => XS.iload X0.here hx rfl (hb hby d2_90) rfl kk_) ?_
          refine Ends.to (T' := s₁) (g' := (mkF m 93 #[.val (.int p1), .val (.int p2), .val (.int p3), .val (.int p4), .val (.int p5), .val (.int (p5 - p3)), .val (.int ((p2 - (1 : Int32)) - (p5 - p3))), .unset] [(.int (1 : Int32)), (.int ((p2 - (1 : Int32)) - (p5 - p3)))])) (fun tt_ kk_ => XS.iconst X0.here hx rfl (hb hby d2_92) kk_) ?_
          by_cases hc93 : ((p2 - (1 : Int32)) - (p5 - p3)) = (1 : Int32)
          · refine Ends.to (T' := s₁) (g' := (mkF m 96 #[.val (.int p1), .val (.int p2), .val (.int p3), .val (.int p4), .val (.int p5), .val (.int (p5 - p3)), .val (.int ((p2 - (1 : Int32)) - (p5 - p3))), .unset] [])) (fun tt_ kk_ => XS.icmpNo X0.here hx rfl (hb hby d2_93) rfl (teq hc93).2 kk_) ?_
            refine Ends.to (T' := s₁) (g' := (mkF m 98 #[.val (.int p1), .val (.int p2), .val (.int p3), .val (.int p4), .val (.int p5), .val (.int (p5 - p3)), .val (.int ((p2 - (1 : Int32)) - (p5 - p3))), .unset] [(.int (64 : Int32))])) (fun tt_ kk_ => XS.bipush X0.here hx rfl (hb hby d2_96) kk_) ?_
            refine Ends.to (T' := s₁) (g' := (mkF m 104 #[.val (.int p1), .val (.int p2), .val (.int p3), .val (.int p4), .val (.int p5), .val (.int (p5 - p3)), .val (.int ((p2 - (1 : Int32)) - (p5 - p3))), .unset] [(.int (64 : Int32))])) (fun tt_ kk_ => XS.goto X0.here hx rfl (pc0 := 98) (pc' := 104) rfl (hb hby d2_98) (by decide) (by decide) kk_) ?_
            refine Ends.to (T' := s₁) (g' := (mkF m 106 #[.val (.int p1), .val (.int p2), .val (.int p3), .val (.int p4), .val (.int p5), .val (.int (p5 - p3)), .val (.int ((p2 - (1 : Int32)) - (p5 - p3))), .val (.int (64 : Int32))] [])) (fun tt_ kk_ => XS.istore X0.here hx rfl (hb hby d2_104) rfl (l' := #[.val (.int p1), .val (.int p2), .val (.int p3), .val (.int p4), .val (.int p5), .val (.int (p5 - p3)), .val (.int ((p2 - (1 : Int32)) - (p5 - p3))), .val (.int (64 : Int32))]) rfl kk_) ?_
            refine Ends.to (T' := s₁) (g' := (mkF m 109 #[.val (.int p1), .val (.int p2), .val (.int p3), .val (.int p4), .val (.int p5), .val (.int (p5 - p3)), .val (.int ((p2 - (1 : Int32)) - (p5 - p3))), .val (.int (64 : Int32))] [(.int (128 : Int32))])) (fun tt_ kk_ => XS.sipush X0.here hx rfl (hb hby d2_106) kk_) ?_
            refine Ends.to (T' := s₁) (g' := (mkF m 110 #[.val (.int p1), .val (.int p2), .val (.int p3), .val (.int p4), .val (.int p5), .val (.int (p5 - p3)), .val (.int ((p2 - (1 : Int32)) - (p5 - p3))), .val (.int (64 : Int32))] [(.int p1), (.int (128 : Int32))])) (fun tt_ kk_ => XS.iloadN X0.here hx rfl (hb hby d2_109) rfl kk_) ?_
            refine Ends.to (T' := s₁) (g' := (mkF m 112 #[.val (.int p1), .val (.int p2), .val (.int p3), .val (.int p4), .val (.int p5), .val (.int (p5 - p3)), .val (.int ((p2 - (1 : Int32)) - (p5 - p3))), .val (.int (64 : Int32))] [(.int (64 : Int32)), (.int p1), (.int (128 : Int32))])) (fun tt_ kk_ => XS.iload X0.here hx rfl (hb hby d2_110) rfl kk_) ?_
            refine Ends.to (T' := s₁) (g' := (mkF m 113 #[.val (.int p1), .val (.int p2), .val (.int p3), .val (.int p4), .val (.int p5), .val (.int (p5 - p3)), .val (.int ((p2 - (1 : Int32)) - (p5 - p3))), .val (.int (64 : Int32))] [(.int (p1 / (64 : Int32))), (.int (128 : Int32))])) (fun tt_ kk_ => XS.idiv X0.here hx rfl (hb hby d2_112) rfl (by decide) kk_) ?_
            refine Ends.to (T' := s₁) (g' := (mkF m 115 #[.val (.int p1), .val (.int p2), .val (.int p3), .val (.int p4), .val (.int p5), .val (.int (p5 - p3)), .val (.int ((p2 - (1 : Int32)) - (p5 - p3))), .val (.int (64 : Int32))] [(.int (64 : Int32)), (.int (p1 / (64 : Int32))), (.int (128 : Int32))])) (fun tt_ kk_ => XS.bipush X0.here hx rfl (hb hby d2_113) kk_) ?_
            refine Ends.to (T' := s₁) (g' := (mkF m 116 #[.val (.int p1), .val (.int p2), .val (.int p3), .val (.int p4), .val (.int p5), .val (.int (p5 - p3)), .val (.int ((p2 - (1 : Int32)) - (p5 - p3))), .val (.int (64 : Int32))] [(.int ((p1 / (64 : Int32)) % (64 : Int32))), (.int (128 : Int32))])) (fun tt_ kk_ => Jvm.RoadKit.iremM X0 hx rfl (hb hby d2_115) rfl (by decide) kk_) ?_
            refine Ends.to (T' := s₁) (g' := (mkF m 117 #[.val (.int p1), .val (.int p2), .val (.int p3), .val (.int p4), .val (.int p5), .val (.int (p5 - p3)), .val (.int ((p2 - (1 : Int32)) - (p5 - p3))), .val (.int (64 : Int32))] [(.int ((128 : Int32) + ((p1 / (64 : Int32)) % (64 : Int32))))])) (fun tt_ kk_ => XS.iadd X0.here hx rfl (hb hby d2_116) rfl kk_) ?_
            refine Ends.to (T' := s₁) (g' := (mkF m 118 #[.val (.int p1), .val (.int p2), .val (.int p3), .val (.int p4), .val (.int p5), .val (.int (p5 - p3)), .val (.int ((p2 - (1 : Int32)) - (p5 - p3))), .val (.int (64 : Int32))] [(.int (((128 : Int32) + ((p1 / (64 : Int32)) % (64 : Int32))).toInt8.toInt32))])) (fun tt_ kk_ => XS.i2b X0.here hx rfl (hb hby d2_117) rfl kk_) ?_
            exact Ends.retN (t := .byte) (by simp) X0 hx hret (hb hby d2_118) hlk (by decide) (by decide) ⟨by simp only [own_ex, nar, if_neg hc8, if_pos hc14, if_neg hc21, if_neg hc83, if_pos hc93] ; first | done | rfl, N0, e0⟩
          · refine Ends.to (T' := s₁) (g' := (mkF m 101 #[.val (.int p1), .val (.int p2), .val (.int p3), .val (.int p4), .val (.int p5), .val (.int (p5 - p3)), .val (.int ((p2 - (1 : Int32)) - (p5 - p3))), .unset] [])) (fun tt_ kk_ => XS.icmpYes X0.here hx rfl (pc0 := 93) (pc' := 101) rfl (hb hby d2_93) rfl (feq hc93).2 (by decide) (by decide) kk_) ?_
            refine Ends.to (T' := s₁) (g' := (mkF m 104 #[.val (.int p1), .val (.int p2), .val (.int p3), .val (.int p4), .val (.int p5), .val (.int (p5 - p3)), .val (.int ((p2 - (1 : Int32)) - (p5 - p3))), .unset] [(.int (4096 : Int32))])) (fun tt_ kk_ => XS.sipush X0.here hx rfl (hb hby d2_101) kk_) ?_
            refine Ends.to (T' := s₁) (g' := (mkF m 106 #[.val (.int p1), .val (.int p2), .val (.int p3), .val (.int p4), .val (.int p5), .val (.int (p5 - p3)), .val (.int ((p2 - (1 : Int32)) - (p5 - p3))), .val (.int (4096 : Int32))] [])) (fun tt_ kk_ => XS.istore X0.here hx rfl (hb hby d2_104) rfl (l' := #[.val (.int p1), .val (.int p2), .val (.int p3), .val (.int p4), .val (.int p5), .val (.int (p5 - p3)), .val (.int ((p2 - (1 : Int32)) - (p5 - p3))), .val (.int (4096 : Int32))]) rfl kk_) ?_
            refine Ends.to (T' := s₁) (g' := (mkF m 109 #[.val (.int p1), .val (.int p2), .val (.int p3), .val (.int p4), .val (.int p5), .val (.int (p5 - p3)), .val (.int ((p2 - (1 : Int32)) - (p5 - p3))), .val (.int (4096 : Int32))] [(.int (128 : Int32))])) (fun tt_ kk_ => XS.sipush X0.here hx rfl (hb hby d2_106) kk_) ?_
            refine Ends.to (T' := s₁) (g' := (mkF m 110 #[.val (.int p1), .val (.int p2), .val (.int p3), .val (.int p4), .val (.int p5), .val (.int (p5 - p3)), .val (.int ((p2 - (1 : Int32)) - (p5 - p3))), .val (.int (4096 : Int32))] [(.int p1), (.int (128 : Int32))])) (fun tt_ kk_ => XS.iloadN X0.here hx rfl (hb hby d2_109) rfl kk_) ?_
            refine Ends.to (T' := s₁) (g' := (mkF m 112 #[.val (.int p1), .val (.int p2), .val (.int p3), .val (.int p4), .val (.int p5), .val (.int (p5 - p3)), .val (.int ((p2 - (1 : Int32)) - (p5 - p3))), .val (.int (4096 : Int32))] [(.int (4096 : Int32)), (.int p1), (.int (128 : Int32))])) (fun tt_ kk_ => XS.iload X0.here hx rfl (hb hby d2_110) rfl kk_) ?_
            refine Ends.to (T' := s₁) (g' := (mkF m 113 #[.val (.int p1), .val (.int p2), .val (.int p3), .val (.int p4), .val (.int p5), .val (.int (p5 - p3)), .val (.int ((p2 - (1 : Int32)) - (p5 - p3))), .val (.int (4096 : Int32))] [(.int (p1 / (4096 : Int32))), (.int (128 : Int32))])) (fun tt_ kk_ => XS.idiv X0.here hx rfl (hb hby d2_112) rfl (by decide) kk_) ?_
            refine Ends.to (T' := s₁) (g' := (mkF m 115 #[.val (.int p1), .val (.int p2), .val (.int p3), .val (.int p4), .val (.int p5), .val (.int (p5 - p3)), .val (.int ((p2 - (1 : Int32)) - (p5 - p3))), .val (.int (4096 : Int32))] [(.int (64 : Int32)), (.int (p1 / (4096 : Int32))), (.int (128 : Int32))])) (fun tt_ kk_ => XS.bipush X0.here hx rfl (hb hby d2_113) kk_) ?_
            refine Ends.to (T' := s₁) (g' := (mkF m 116 #[.val (.int p1), .val (.int p2), .val (.int p3), .val (.int p4), .val (.int p5), .val (.int (p5 - p3)), .val (.int ((p2 - (1 : Int32)) - (p5 - p3))), .val (.int (4096 : Int32))] [(.int ((p1 / (4096 : Int32)) % (64 : Int32))), (.int (128 : Int32))])) (fun tt_ kk_ => Jvm.RoadKit.iremM X0 hx rfl (hb hby d2_115) rfl (by decide) kk_) ?_
            refine Ends.to (T' := s₁) (g' := (mkF m 117 #[.val (.int p1), .val (.int p2), .val (.int p3), .val (.int p4), .val (.int p5), .val (.int (p5 - p3)), .val (.int ((p2 - (1 : Int32)) - (p5 - p3))), .val (.int (4096 : Int32))] [(.int ((128 : Int32) + ((p1 / (4096 : Int32)) % (64 : Int32))))])) (fun tt_ kk_ => XS.iadd X0.here hx rfl (hb hby d2_116) rfl kk_) ?_
            refine Ends.to (T' := s₁) (g' := (mkF m 118 #[.val (.int p1), .val (.int p2), .val (.int p3), .val (.int p4), .val (.int p5), .val (.int (p5 - p3)), .val (.int ((p2 - (1 : Int32)) - (p5 - p3))), .val (.int (4096 : Int32))] [(.int (((128 : Int32) + ((p1 / (4096 : Int32)) % (64 : Int32))).toInt8.toInt32))])) (fun tt_ kk_ => XS.i2b X0.here hx rfl (hb hby d2_117) rfl kk_) ?_
            exact Ends.retN (t := .byte) (by simp) X0 hx hret (hb hby d2_118) hlk (by decide) (by decide) ⟨by simp only [own_ex, nar, if_neg hc8, if_pos hc14, if_neg hc21, if_neg hc83, if_neg hc93] ; first | done | rfl, N0, e0⟩
    · refine Ends.to (T' := s₁) (g' := (mkF m 17 #[.val (.int p1), .val (.int p2), .val (.int p3), .val (.int p4), .val (.int p5), .val (.int (p5 - p3)), .unset, .unset] [])) (fun tt_ kk_ => XS.icmpNo X0.here hx rfl (hb hby d2_14) rfl (flt hc14).1 kk_) ?_
      refine Ends.to (T' := s₁) (g' := (mkF m 18 #[.val (.int p1), .val (.int p2), .val (.int p3), .val (.int p4), .val (.int p5), .val (.int (p5 - p3)), .unset, .unset] [(.int p4)])) (fun tt_ kk_ => XS.iloadN X0.here hx rfl (hb hby d2_17) rfl kk_) ?_
      exact Ends.retN (t := .byte) (by simp) X0 hx hret (hb hby d2_18) hlk (by decide) (by decide) ⟨by simp only [own_ex, nar, if_neg hc8, if_neg hc14] ; first | done | rfl, N0, e0⟩
def own_Rel (k P : Int32) : Prop := (k = 0 ∧ 0 ≤ P.toInt ∧ P.toInt < 128) ∨ (k = 1 ∧ 128 ≤ P.toInt ∧ P.toInt < 2048) ∨ (k = 2 ∧ 2048 ≤ P.toInt ∧ P.toInt < 65536) ∨ (k = 3 ∧ 65536 ≤ P.toInt ∧ P.toInt < 2097152)
theorem own_k4 {x k : Int32} (h : x &&& 3 = k) : k = 0 ∨ k = 1 ∨ k = 2 ∨ k = 3 := by
  have e := Jvm.Kit.i32_mask x 3 (k := 2) (by decide) (by decide)
  rw [h] at e
  have : k.toInt = 0 ∨ k.toInt = 1 ∨ k.toInt = 2 ∨ k.toInt = 3 := by omega
  rcases this with q | q | q | q
  · exact Or.inl (Int32.toInt_inj.mp q)
  · exact Or.inr (Or.inl (Int32.toInt_inj.mp q))
  · exact Or.inr (Or.inr (Or.inl (Int32.toInt_inj.mp q)))
  · exact Or.inr (Or.inr (Or.inr (Int32.toInt_inj.mp q)))
theorem own_r {x r : Int32} (h : x &&& 2147483647 = r) : 0 ≤ r.toInt := h ▸ own_31 x
theorem own_rem {r y : Int32} {n : Int} (hr : 0 ≤ r.toInt) (hy : y.toInt = n) : (r % y).toInt = r.toInt % n := by rw [Jvm.Kit.i32_rem_nonneg hr, hy]
theorem own_k0 {k r P : Int32} (hr : 0 ≤ r.toInt) (hk : k = 0) (h : r % 128 = P) : own_Rel k P := by
  have e := own_rem (y := 128) (n := 128) hr rfl
  rw [h] at e
  exact Or.inl ⟨hk, by omega, by omega⟩
theorem own_k1 {k r P : Int32} (hr : 0 ≤ r.toInt) (hk : k = 1) (h : 128 + r % 1920 = P) : own_Rel k P := by
  have e := own_rem (y := 1920) (n := 1920) hr rfl
  have c : (128 : Int32).toInt = 128 := rfl
  have e2 : (128 + r % 1920).toInt = (128 : Int32).toInt + (r % 1920).toInt := Jvm.Kit.i32_add (by omega) (by omega)
  rw [h] at e2
  exact Or.inr (Or.inl ⟨hk, by omega, by omega⟩)
theorem own_k2 {r P : Int32} (hr : 0 ≤ r.toInt) (h : 2048 + r % 61440 = P) : 2048 ≤ P.toInt ∧ P.toInt < 63488 := by
  have e := own_rem (y := 61440) (n := 61440) hr rfl
  have c : (2048 : Int32).toInt = 2048 := rfl
  have e2 : (2048 + r % 61440).toInt = (2048 : Int32).toInt + (r % 61440).toInt := Jvm.Kit.i32_add (by omega) (by omega)
  rw [h] at e2
  omega
theorem own_k2a {k r P : Int32} (hr : 0 ≤ r.toInt) (hk : k = 2) (h : 2048 + r % 61440 = P) : own_Rel k P := by
  have := own_k2 hr h
  exact Or.inr (Or.inr (Or.inl ⟨hk, by omega, by omega⟩))
theorem own_k2b {k r P U : Int32} (hr : 0 ≤ r.toInt) (hk : k = 2) (h : 2048 + r % 61440 = P) (h2 : P + 2048 = U) : own_Rel k U := by
  have := own_k2 hr h
  have c : (2048 : Int32).toInt = 2048 := rfl
  have e2 : (P + 2048).toInt = P.toInt + (2048 : Int32).toInt := Jvm.Kit.i32_add (by omega) (by omega)
  rw [h2] at e2
  exact Or.inr (Or.inr (Or.inl ⟨hk, by omega, by omega⟩))
theorem own_k3 {k r P : Int32} (h4 : k = 0 ∨ k = 1 ∨ k = 2 ∨ k = 3) (hr : 0 ≤ r.toInt) (n0 : ¬ k = 0) (n1 : ¬ k = 1) (n2 : ¬ k = 2) (h : 65536 + r % 1048576 = P) : own_Rel k P := by
  have e := own_rem (y := 1048576) (n := 1048576) hr rfl
  have c : (65536 : Int32).toInt = 65536 := rfl
  have e2 : (65536 + r % 1048576).toInt = (65536 : Int32).toInt + (r % 1048576).toInt := Jvm.Kit.i32_add (by omega) (by omega)
  rw [h] at e2
  have hk : k = 3 := by exact h4.elim (fun q => absurd q n0) (fun q => q.elim (fun q => absurd q n1) (fun q => q.elim (fun q => absurd q n2) (fun q => q)))
  exact Or.inr (Or.inr (Or.inr ⟨hk, by omega, by omega⟩))
theorem own_lts {P : Int32} : (P < 128 ↔ P.toInt < 128) ∧ (P < 2048 ↔ P.toInt < 2048) ∧ (P < 65536 ↔ P.toInt < 65536) := by
  refine ⟨?_, ?_, ?_⟩ <;> rw [Int32.lt_iff_toInt_lt] <;> rfl
theorem own_lenRel {k P : Int32} (h : own_Rel k P) : k + 1 = Int32.ofNat (own_len P) := by
  obtain ⟨l1, l2, l3⟩ := own_lts (P := P)
  unfold own_len
  rcases h with ⟨rfl, a, b⟩ | ⟨rfl, a, b⟩ | ⟨rfl, a, b⟩ | ⟨rfl, a, b⟩
  · rw [if_pos (l1.mpr b)]; rfl
  · rw [if_neg (fun q => by have := l1.mp q; omega), if_pos (l2.mpr b)]; rfl
  · rw [if_neg (fun q => by have := l1.mp q; omega), if_neg (fun q => by have := l2.mp q; omega), if_pos (l3.mpr b)]; rfl
  · rw [if_neg (fun q => by have := l1.mp q; omega), if_neg (fun q => by have := l2.mp q; omega), if_neg (fun q => by have := l3.mp q; omega)]; rfl
theorem own_next {k P : Int32} {t : Nat} (h : own_Rel k P) : Int32.ofNat (t + own_len P) = Int32.ofNat t + (k + 1) := by rw [own_lenRel h, Int32.ofNat_add]
theorem own_at {x a : Int32} (h : (x &&& 2147483647) % 5 = a) : ∃ t : Nat, t + 4 ≤ 8 ∧ a = Int32.ofNat t := by
  have e := own_rem (y := 5) (n := 5) (own_31 x) rfl
  rw [h] at e
  obtain ⟨n, rfl, hn⟩ := own_of (x := a) (by omega)
  exact ⟨n, by omega, rfl⟩
theorem own_b8 {x z : Int32} (h : x.toInt8.toInt32 = z) : z.toInt8.toInt32 = z := by rw [← h, Int8.toInt8_toInt32]
theorem own_fill {z : Int32} (hz : z.toInt8.toInt32 = z) : ∀ j, j < 8 → Value.int (upd (upd (upd (upd (upd (upd (upd (upd (fun _ => (0 : Int32)) 0 z.toInt8.toInt32) 1 z.toInt8.toInt32) 2 z.toInt8.toInt32) 3 z.toInt8.toInt32) 4 z.toInt8.toInt32) 5 z.toInt8.toInt32) 6 z.toInt8.toInt32) 7 z.toInt8.toInt32 j) = Value.int z := by
  intro j hj
  have : j = 0 ∨ j = 1 ∨ j = 2 ∨ j = 3 ∨ j = 4 ∨ j = 5 ∨ j = 6 ∨ j = 7 := by omega
  rcases this with rfl | rfl | rfl | rfl | rfl | rfl | rfl | rfl <;> simp [upd, hz]
theorem own_shr {P n d : Int32} {k : Nat} (hP : 0 ≤ P.toInt) (hn : (n.toBitVec.smod 32).toNat = k) (hd : d.toInt = 2 ^ k) : P >>> n = P / d := by
  apply Int32.toInt_inj.mp
  rw [Jvm.Kit.i32_shr P n hn, Jvm.Kit.i32_div (fun q => by have := q.2; rw [hd] at this; have : (0 : Int) < 2 ^ k := Int.pow_pos (by decide); omega), hd, Int.tdiv_eq_ediv_of_nonneg hP]
theorem own_low (Q : Int32) (hQ : 0 ≤ Q.toInt) : Q &&& 63 = Q % 64 := by
  apply Int32.toInt_inj.mp
  rw [Jvm.Kit.i32_mask Q 63 (k := 6) (by decide) (by decide), own_rem (y := 64) (n := 64) hQ rfl]; rfl
theorem own_or192 : ∀ x : Fin 64, ((192 : Int32) ||| Int32.ofNat x.val) = 192 + Int32.ofNat x.val := by decide +kernel
theorem own_or224 : ∀ x : Fin 32, ((224 : Int32) ||| Int32.ofNat x.val) = 224 + Int32.ofNat x.val := by decide +kernel
theorem own_or240 : ∀ x : Fin 16, ((240 : Int32) ||| Int32.ofNat x.val) = 240 + Int32.ofNat x.val := by decide +kernel
theorem own_or128 : ∀ x : Fin 64, ((128 : Int32) ||| Int32.ofNat x.val) = 128 + Int32.ofNat x.val := by decide +kernel
theorem own_or {c Q : Int32} {n : Nat} (F : ∀ x : Fin n, (c ||| Int32.ofNat x.val) = c + Int32.ofNat x.val) (h0 : 0 ≤ Q.toInt) (h1 : Q.toInt < n) : c ||| Q = c + Q := by
  obtain ⟨q, rfl, hq⟩ := own_of h0
  exact F ⟨q, by omega⟩
theorem own_divi {P d : Int32} {n : Int} (hP : 0 ≤ P.toInt) (hd : d.toInt = n) (hn : 0 < n) : (P / d).toInt = P.toInt / n := by
  rw [Jvm.Kit.i32_div (fun q => by have := q.2; omega), hd, Int.tdiv_eq_ediv_of_nonneg hP]
theorem own_lead2 {P : Int32} (h0 : 0 ≤ P.toInt) (h1 : P.toInt < 2048) : (192 : Int32) ||| (P >>> ((6 : Int32) &&& 31)) = 192 + P / 64 := by
  have e := own_divi (d := 64) (n := 64) h0 rfl (by decide)
  rw [own_shr (k := 6) (d := 64) h0 (by decide) (by decide)]
  exact own_or own_or192 (by omega) (by omega)
theorem own_lead3 {P : Int32} (h0 : 0 ≤ P.toInt) (h1 : P.toInt < 65536) : (224 : Int32) ||| (P >>> ((12 : Int32) &&& 31)) = 224 + P / 4096 := by
  have e := own_divi (d := 4096) (n := 4096) h0 rfl (by decide)
  rw [own_shr (k := 12) (d := 4096) h0 (by decide) (by decide)]
  exact own_or own_or224 (by omega) (by omega)
theorem own_lead4 {P : Int32} (h0 : 0 ≤ P.toInt) (h1 : P.toInt < 2097152) : (240 : Int32) ||| (P >>> ((18 : Int32) &&& 31)) = 240 + P / 262144 := by
  have e := own_divi (d := 262144) (n := 262144) h0 rfl (by decide)
  rw [own_shr (k := 18) (d := 262144) h0 (by decide) (by decide)]
  exact own_or own_or240 (by omega) (by omega)
theorem own_cont (Q : Int32) (h0 : 0 ≤ Q.toInt) : (128 : Int32) ||| (Q &&& 63) = 128 + Q % 64 := by
  have e := own_rem (y := 64) (n := 64) h0 rfl
  rw [own_low Q h0]
  exact own_or own_or128 (by omega) (by omega)
theorem own_c0 {P : Int32} (h0 : 0 ≤ P.toInt) : (128 : Int32) ||| (P &&& 63) = 128 + (P / 1) % 64 := by
  have : P / 1 = P := Int32.toInt_inj.mp (by rw [own_divi (d := 1) (n := 1) h0 rfl (by decide)]; omega)
  rw [this]; exact own_cont P h0
theorem own_c1 {P : Int32} (h0 : 0 ≤ P.toInt) : (128 : Int32) ||| ((P >>> ((6 : Int32) &&& 31)) &&& 63) = 128 + (P / 64) % 64 := by
  have e := own_divi (d := 64) (n := 64) h0 rfl (by decide)
  rw [own_shr (k := 6) (d := 64) h0 (by decide) (by decide)]
  exact own_cont _ (by omega)
theorem own_c2 {P : Int32} (h0 : 0 ≤ P.toInt) : (128 : Int32) ||| ((P >>> ((12 : Int32) &&& 31)) &&& 63) = 128 + (P / 4096) % 64 := by
  have e := own_divi (d := 4096) (n := 4096) h0 rfl (by decide)
  rw [own_shr (k := 12) (d := 4096) h0 (by decide) (by decide)]
  exact own_cont _ (by omega)
theorem own_cmp {a b : Nat} (ha : a < 64) (hb : b < 64) : (Int32.ofNat a < Int32.ofNat b ↔ a < b) ∧ (Int32.ofNat a = Int32.ofNat b ↔ a = b) := by
  constructor
  · rw [Int32.lt_iff_toInt_lt, own_toInt (by omega), own_toInt (by omega)]; omega
  · rw [← Int32.toInt_inj, own_toInt (by omega), own_toInt (by omega)]; omega
theorem own_subn {a b : Nat} (hb : b ≤ a) (ha : a < 64) : Int32.ofNat a - Int32.ofNat b = Int32.ofNat (a - b) := by
  apply Int32.toInt_inj.mp
  rw [Jvm.Kit.i32_sub (by rw [own_toInt (by omega), own_toInt (by omega)]; omega) (by rw [own_toInt (by omega), own_toInt (by omega)]; omega), own_toInt (by omega), own_toInt (by omega), own_toInt (by omega)]; omega
/-- what 'expected' says at the place t + d, d within the encoding -/
theorem own_ex_out {P f : Int32} {n i t : Nat} (hi : i < 16) (ht : t < 16) (hn : n < 16) (h : i < t ∨ t + n ≤ i) : own_ex P (Int32.ofNat n) (Int32.ofNat i - Int32.ofNat t) f = f.toInt8.toInt32 := by
  unfold own_ex
  by_cases q : i < t
  · have e : (Int32.ofNat i - Int32.ofNat t).toInt = (i : Int) - t := by
      rw [Jvm.Kit.i32_sub (by rw [own_toInt (by omega), own_toInt (by omega)]; omega) (by rw [own_toInt (by omega), own_toInt (by omega)]; omega), own_toInt (by omega), own_toInt (by omega)]
    rw [if_pos (Int32.lt_iff_toInt_lt.mpr (by rw [e]; show (i : Int) - t < 0; omega))]
  · rw [own_subn (by omega) (by omega), if_neg (own_nneg (by omega)), if_neg (fun z => by have := (own_cmp (by omega) (by omega)).1.mp z; omega)]
theorem own_ex_in {P f : Int32} {n d t : Nat} (ht : t < 16) (hn : n ≤ 4) (h : d < n) : own_ex P (Int32.ofNat n) (Int32.ofNat (t + d) - Int32.ofNat t) f =
    (if d = 0 then (if n = 1 then own_by P else if n = 2 then own_by (192 + P / 64) else if n = 3 then own_by (224 + P / 4096) else own_by (240 + P / 262144))
     else if n - 1 - d = 0 then own_by (128 + (P / 1) % 64) else if n - 1 - d = 1 then own_by (128 + (P / 64) % 64) else own_by (128 + (P / 4096) % 64)) := by
  rw [own_subn (by omega) (by omega), show t + d - t = d from by omega]
  have z0 : (Int32.ofNat d = 0) ↔ d = 0 := (own_cmp (b := 0) (by omega) (by decide)).2
  have z1 : (Int32.ofNat n = 1) ↔ n = 1 := (own_cmp (b := 1) (by omega) (by decide)).2
  have z2 : (Int32.ofNat n = 2) ↔ n = 2 := (own_cmp (b := 2) (by omega) (by decide)).2
  have z3 : (Int32.ofNat n = 3) ↔ n = 3 := (own_cmp (b := 3) (by omega) (by decide)).2
  have e1 : Int32.ofNat n - 1 - Int32.ofNat d = Int32.ofNat (n - 1 - d) := by
    rw [show Int32.ofNat n - 1 = Int32.ofNat (n - 1) from own_subn (b := 1) (by omega) (by omega), own_subn (by omega) (by omega)]
  have w0 : (Int32.ofNat (n - 1 - d) = 0) ↔ n - 1 - d = 0 := (own_cmp (b := 0) (by omega) (by decide)).2
  have w1 : (Int32.ofNat (n - 1 - d) = 1) ↔ n - 1 - d = 1 := (own_cmp (b := 1) (by omega) (by decide)).2
  unfold own_ex
  rw [if_neg (own_nneg (by omega)), if_pos ((own_cmp (by omega) (by omega)).1.mpr h), e1]
  simp only [z0, z1, z2, z3, w0, w1]
theorem own_same {k P x fb : Int32} {t : Nat} (hk : own_Rel k P) (ht : t + 4 ≤ 8) (hfb : x.toInt8.toInt32 = fb) (i : Nat) (hi : i < 8) : own_enc P t (fun _ => fb) i = own_ex P (k + 1) (Int32.ofNat i - Int32.ofNat t) fb := by
  rw [own_lenRel hk]
  have hf := own_b8 hfb
  obtain ⟨l1, l2, l3⟩ := own_lts (P := P)
  rcases hk with ⟨-, a, b⟩ | ⟨-, a, b⟩ | ⟨-, a, b⟩ | ⟨-, a, b⟩
  · have c1 : P < 128 := l1.mpr b
    simp only [own_enc, own_len, if_pos c1]
    by_cases q : i = t
    · subst q
      have := own_ex_in (P := P) (f := fb) (n := 1) (d := 0) (t := i) (by omega) (by omega) (by omega)
      rw [Nat.add_zero] at this
      rw [this, upd_same]; rfl
    · rw [upd_ne _ _ q, own_ex_out (by omega) (by omega) (by omega) (by omega), hf]
  · have c1 : ¬ P < 128 := fun q => by have := l1.mp q; omega
    have c2 : P < 2048 := l2.mpr b
    simp only [own_enc, own_len, if_neg c1, if_pos c2]
    by_cases q : i = t
    · subst q
      have := own_ex_in (P := P) (f := fb) (n := 2) (d := 0) (t := i) (by omega) (by omega) (by omega)
      rw [Nat.add_zero] at this
      rw [this, upd_ne _ _ (show i ≠ i + 1 from by omega), upd_same, own_lead2 (by omega) (by omega)]; rfl
    by_cases q1 : i = t + 1
    · subst q1
      rw [own_ex_in (P := P) (f := fb) (n := 2) (d := 1) (t := t) (by omega) (by omega) (by omega), upd_same, own_c0 (by omega)]; rfl
    rw [upd_ne _ _ q1, upd_ne _ _ q, own_ex_out (by omega) (by omega) (by omega) (by omega), hf]
  · have c1 : ¬ P < 128 := fun q => by have := l1.mp q; omega
    have c2 : ¬ P < 2048 := fun q => by have := l2.mp q; omega
    have c3 : P < 65536 := l3.mpr b
    simp only [own_enc, own_len, if_neg c1, if_neg c2, if_pos c3]
    by_cases q : i = t
    · subst q
      have := own_ex_in (P := P) (f := fb) (n := 3) (d := 0) (t := i) (by omega) (by omega) (by omega)
      rw [Nat.add_zero] at this
      rw [this, upd_ne _ _ (show i ≠ i + 1 + 1 from by omega), upd_ne _ _ (show i ≠ i + 1 from by omega), upd_same, own_lead3 (by omega) (by omega)]; rfl
    by_cases q1 : i = t + 1
    · subst q1
      rw [own_ex_in (P := P) (f := fb) (n := 3) (d := 1) (t := t) (by omega) (by omega) (by omega), upd_ne _ _ (show t + 1 ≠ t + 1 + 1 from by omega), upd_same, own_c1 (by omega)]; rfl
    by_cases q2 : i = t + 1 + 1
    · subst q2
      rw [show t + 1 + 1 = t + 2 from rfl, own_ex_in (P := P) (f := fb) (n := 3) (d := 2) (t := t) (by omega) (by omega) (by omega), upd_same, own_c0 (by omega)]; rfl
    rw [upd_ne _ _ q2, upd_ne _ _ q1, upd_ne _ _ q, own_ex_out (by omega) (by omega) (by omega) (by omega), hf]
  · have c1 : ¬ P < 128 := fun q => by have := l1.mp q; omega
    have c2 : ¬ P < 2048 := fun q => by have := l2.mp q; omega
    have c3 : ¬ P < 65536 := fun q => by have := l3.mp q; omega
    simp only [own_enc, own_len, if_neg c1, if_neg c2, if_neg c3]
    by_cases q : i = t
    · subst q
      have := own_ex_in (P := P) (f := fb) (n := 4) (d := 0) (t := i) (by omega) (by omega) (by omega)
      rw [Nat.add_zero] at this
      rw [this, upd_ne _ _ (show i ≠ i + 1 + 1 + 1 from by omega), upd_ne _ _ (show i ≠ i + 1 + 1 from by omega), upd_ne _ _ (show i ≠ i + 1 from by omega), upd_same, own_lead4 (by omega) (by omega)]; rfl
    by_cases q1 : i = t + 1
    · subst q1
      rw [own_ex_in (P := P) (f := fb) (n := 4) (d := 1) (t := t) (by omega) (by omega) (by omega), upd_ne _ _ (show t + 1 ≠ t + 1 + 1 + 1 from by omega), upd_ne _ _ (show t + 1 ≠ t + 1 + 1 from by omega), upd_same, own_c2 (by omega)]; rfl
    by_cases q2 : i = t + 1 + 1
    · subst q2
      rw [show t + 1 + 1 = t + 2 from rfl, own_ex_in (P := P) (f := fb) (n := 4) (d := 2) (t := t) (by omega) (by omega) (by omega), upd_ne _ _ (show t + 2 ≠ t + 1 + 1 + 1 from by omega), show t + 1 + 1 = t + 2 from rfl, upd_same, own_c1 (by omega)]; rfl
    by_cases q3 : i = t + 1 + 1 + 1
    · subst q3
      rw [show t + 1 + 1 + 1 = t + 3 from rfl, own_ex_in (P := P) (f := fb) (n := 4) (d := 3) (t := t) (by omega) (by omega) (by omega), upd_same, own_c0 (by omega)]; rfl
    rw [upd_ne _ _ q3, upd_ne _ _ q2, upd_ne _ _ q1, upd_ne _ _ q, own_ex_out (by omega) (by omega) (by omega) (by omega), hf]
set_option maxRecDepth 65536 in
set_option maxHeartbeats 40000000 in
def Q_rm0 (Z : State) (p1 p2 p3 p4 : Int32) (h0 : Heap) (n0 : Nat) : Option Value → Heap → List Loc → Prop := fun v h L => v = some (.int 1) ∧ Fr n0 L
set_option maxRecDepth 65536 in
set_option maxHeartbeats 40000000 in
theorem rm0 (l : Launch) (Z : State) (a0 : Array Value) (hw : ∀ d ∈ tables_1, d.before a0 Z = true) (ws : List Jvm.Cond) (p1 p2 p3 p4 : Int32) (h0 : Heap) (n0 : Nat) (Z0 : n0 ≤ h0.size) :
    Pays l x code maxLocals ret ws room_1 #[(.int p1), (.int p2), (.int p3), (.int p4)] Z h0 (Q_rm0 Z p1 p2 p3 p4 h0 n0) := by
  refine Pays.of (plainFor_of_name pn_0) ?_
  intro p e s m below meth c s₁ hx hby hml hown hnm hret hlk hZ X0 e0
  have hown : s.vm.findClass "com/example/predicate/predicate/document/Utf8EncodePinLaw" = some m.cls := hown
  have hnm : meth.name = "law" := hnm
  have hml : c.maxLocals = 13 := hml
  show Ends p e below s _ _ (fun v h L => v = some (.int 1) ∧ Fr n0 L) s₁ _
  refine Ends.cast (ef_0 m p1 p2 p3 p4) ?_
  have N0 := Fr.nil n0
  have Zs := Z0
  have tail : ∀ (k r pt : Int32), own_Rel k pt → Ends p e below s room_1.cells room_1.slots (fun v h L => v = some (.int 1) ∧ Fr n0 L) s₁ (mkF m 93 #[.val (.int p1), .val (.int p2), .val (.int p3), .val (.int p4), .val (.int k), .val (.int r), .val (.int pt), .unset, .unset, .unset, .unset, .unset, .unset] []) := by
    intro k r pt hk
    refine Ends.to (T' := s₁) (g' := (mkF m 95 #[.val (.int p1), .val (.int p2), .val (.int p3), .val (.int p4), .val (.int k), .val (.int r), .val (.int pt), .unset, .unset, .unset, .unset, .unset, .unset] [(.int k)])) (fun tt_ kk_ => XS.iload X0.here hx rfl (hb hby at_93) rfl kk_) ?_
    refine Ends.to (T' := s₁) (g' := (mkF m 96 #[.val (.int p1), .val (.int p2), .val (.int p3), .val (.int p4), .val (.int k), .val (.int r), .val (.int pt), .unset, .unset, .unset, .unset, .unset, .unset] [(.int (1 : Int32)), (.int k)])) (fun tt_ kk_ => XS.iconst X0.here hx rfl (hb hby at_95) kk_) ?_
    refine Ends.to (T' := s₁) (g' := (mkF m 97 #[.val (.int p1), .val (.int p2), .val (.int p3), .val (.int p4), .val (.int k), .val (.int r), .val (.int pt), .unset, .unset, .unset, .unset, .unset, .unset] [(.int (k + (1 : Int32)))])) (fun tt_ kk_ => XS.iadd X0.here hx rfl (hb hby at_96) rfl kk_) ?_
    refine Ends.to (T' := s₁) (g' := (mkF m 99 #[.val (.int p1), .val (.int p2), .val (.int p3), .val (.int p4), .val (.int k), .val (.int r), .val (.int pt), .val (.int (k + (1 : Int32))), .unset, .unset, .unset, .unset, .unset] [])) (fun tt_ kk_ => XS.istore X0.here hx rfl (hb hby at_97) rfl (l' := #[.val (.int p1), .val (.int p2), .val (.int p3), .val (.int p4), .val (.int k), .val (.int r), .val (.int pt), .val (.int (k + (1 : Int32))), .unset, .unset, .unset, .unset, .unset]) rfl kk_) ?_
    refine Ends.to (T' := s₁) (g' := (mkF m 100 #[.val (.int p1), .val (.int p2), .val (.int p3), .val (.int p4), .val (.int k), .val (.int r), .val (.int pt), .val (.int (k + (1 : Int32))), .unset, .unset, .unset, .unset, .unset] [(.int p3)])) (fun tt_ kk_ => XS.iloadN X0.here hx rfl (hb hby at_99) rfl kk_) ?_
    refine Ends.to (T' := s₁) (g' := (mkF m 102 #[.val (.int p1), .val (.int p2), .val (.int p3), .val (.int p4), .val (.int k), .val (.int r), .val (.int pt), .val (.int (k + (1 : Int32))), .unset, .unset, .unset, .unset, .unset] [(.int (2147483647 : Int32)), (.int p3)])) (fun tt_ kk_ => X0.ldcInt hx hown (mvT hZ (hw _ (List.mem_of_getElem? (i := 0) rfl))) (g := (mkF m 100 #[.val (.int p1), .val (.int p2), .val (.int p3), .val (.int p4), .val (.int k), .val (.int r), .val (.int pt), .val (.int (k + (1 : Int32))), .unset, .unset, .unset, .unset, .unset] [(.int p3)])) rfl (hb hby at_100) _ kk_) ?_
    refine Ends.to (T' := s₁) (g' := (mkF m 103 #[.val (.int p1), .val (.int p2), .val (.int p3), .val (.int p4), .val (.int k), .val (.int r), .val (.int pt), .val (.int (k + (1 : Int32))), .unset, .unset, .unset, .unset, .unset] [(.int (p3 &&& (2147483647 : Int32)))])) (fun tt_ kk_ => XS.iand X0.here hx rfl (hb hby at_102) rfl kk_) ?_
    refine Ends.to (T' := s₁) (g' := (mkF m 104 #[.val (.int p1), .val (.int p2), .val (.int p3), .val (.int p4), .val (.int k), .val (.int r), .val (.int pt), .val (.int (k + (1 : Int32))), .unset, .unset, .unset, .unset, .unset] [(.int (5 : Int32)), (.int (p3 &&& (2147483647 : Int32)))])) (fun tt_ kk_ => XS.iconst X0.here hx rfl (hb hby at_103) kk_) ?_
    refine Ends.to (T' := s₁) (g' := (mkF m 105 #[.val (.int p1), .val (.int p2), .val (.int p3), .val (.int p4), .val (.int k), .val (.int r), .val (.int pt), .val (.int (k + (1 : Int32))), .unset, .unset, .unset, .unset, .unset] [(.int ((p3 &&& (2147483647 : Int32)) % (5 : Int32)))])) (fun tt_ kk_ => Jvm.RoadKit.iremM X0 hx rfl (hb hby at_104) rfl (by decide) kk_) ?_
    refine Ends.to (T' := s₁) (g' := (mkF m 107 #[.val (.int p1), .val (.int p2), .val (.int p3), .val (.int p4), .val (.int k), .val (.int r), .val (.int pt), .val (.int (k + (1 : Int32))), .val (.int ((p3 &&& (2147483647 : Int32)) % (5 : Int32))), .unset, .unset, .unset, .unset] [])) (fun tt_ kk_ => XS.istore X0.here hx rfl (hb hby at_105) rfl (l' := #[.val (.int p1), .val (.int p2), .val (.int p3), .val (.int p4), .val (.int k), .val (.int r), .val (.int pt), .val (.int (k + (1 : Int32))), .val (.int ((p3 &&& (2147483647 : Int32)) % (5 : Int32))), .unset, .unset, .unset, .unset]) rfl kk_) ?_
    generalize hat1 : ((p3 &&& (2147483647 : Int32)) % (5 : Int32)) = at1
    obtain ⟨t, ht, rfl⟩ := own_at hat1
    refine Ends.to (T' := s₁) (g' := (mkF m 108 #[.val (.int p1), .val (.int p2), .val (.int p3), .val (.int p4), .val (.int k), .val (.int r), .val (.int pt), .val (.int (k + (1 : Int32))), .val (.int (Int32.ofNat t)), .unset, .unset, .unset, .unset] [(.int p4)])) (fun tt_ kk_ => XS.iloadN X0.here hx rfl (hb hby at_107) rfl kk_) ?_
    refine Ends.to (T' := s₁) (g' := (mkF m 109 #[.val (.int p1), .val (.int p2), .val (.int p3), .val (.int p4), .val (.int k), .val (.int r), .val (.int pt), .val (.int (k + (1 : Int32))), .val (.int (Int32.ofNat t)), .unset, .unset, .unset, .unset] [(.int (p4.toInt8.toInt32))])) (fun tt_ kk_ => XS.i2b X0.here hx rfl (hb hby at_108) rfl kk_) ?_
    refine Ends.to (T' := s₁) (g' := (mkF m 111 #[.val (.int p1), .val (.int p2), .val (.int p3), .val (.int p4), .val (.int k), .val (.int r), .val (.int pt), .val (.int (k + (1 : Int32))), .val (.int (Int32.ofNat t)), .val (.int (p4.toInt8.toInt32)), .unset, .unset, .unset] [])) (fun tt_ kk_ => XS.istore X0.here hx rfl (hb hby at_109) rfl (l' := #[.val (.int p1), .val (.int p2), .val (.int p3), .val (.int p4), .val (.int k), .val (.int r), .val (.int pt), .val (.int (k + (1 : Int32))), .val (.int (Int32.ofNat t)), .val (.int (p4.toInt8.toInt32)), .unset, .unset, .unset]) rfl kk_) ?_
    generalize hfb : (p4.toInt8.toInt32) = fb
    refine Ends.to (T' := s₁) (g' := (mkF m 113 #[.val (.int p1), .val (.int p2), .val (.int p3), .val (.int p4), .val (.int k), .val (.int r), .val (.int pt), .val (.int (k + (1 : Int32))), .val (.int (Int32.ofNat t)), .val (.int fb), .unset, .unset, .unset] [(.int (8 : Int32))])) (fun tt_ kk_ => XS.bipush X0.here hx rfl (hb hby at_111) kk_) ?_
    obtain ⟨T11, h11, k11, X11, e11, E11, A11, st11⟩ := newP X0 hx hZ (hw _ (List.mem_of_getElem? (i := 1) rfl)) e0 (g := (mkF m 113 #[.val (.int p1), .val (.int p2), .val (.int p3), .val (.int p4), .val (.int k), .val (.int r), .val (.int pt), .val (.int (k + (1 : Int32))), .val (.int (Int32.ofNat t)), .val (.int fb), .unset, .unset, .unset] [(.int (8 : Int32))])) rfl (hb hby at_113) rfl (by decide) (cap := 8) (by decide) (by decide) (by decide) (by decide)
    obtain ⟨b1, g_b1⟩ : ∃ z, z = h0.size := ⟨_, rfl⟩
    rw [← g_b1] at A11 st11
    have f_b1 : n0 ≤ b1 := Nat.le_trans Zs (Nat.le_of_eq g_b1.symm)
    have Zs := Nat.le_trans Zs E11.1
    have B_b1 : BB Z h11 b1 8 (fun _ => 0) := BA.freshB A11 rfl
    refine Ends.to (T' := T11) (g' := (mkF m 115 #[.val (.int p1), .val (.int p2), .val (.int p3), .val (.int p4), .val (.int k), .val (.int r), .val (.int pt), .val (.int (k + (1 : Int32))), .val (.int (Int32.ofNat t)), .val (.int fb), .unset, .unset, .unset] [(.ref b1)])) (fun tt_ kk_ => st11 tt_ kk_) ?_
    refine Ends.to (T' := T11) (g' := (mkF m 117 #[.val (.int p1), .val (.int p2), .val (.int p3), .val (.int p4), .val (.int k), .val (.int r), .val (.int pt), .val (.int (k + (1 : Int32))), .val (.int (Int32.ofNat t)), .val (.int fb), .val (.ref b1), .unset, .unset] [])) (fun tt_ kk_ => XS.astore X11.here hx rfl (hb hby at_115) rfl rfl (l' := #[.val (.int p1), .val (.int p2), .val (.int p3), .val (.int p4), .val (.int k), .val (.int r), .val (.int pt), .val (.int (k + (1 : Int32))), .val (.int (Int32.ofNat t)), .val (.int fb), .val (.ref b1), .unset, .unset]) rfl kk_) ?_
    refine Ends.to (T' := T11) (g' := (mkF m 119 #[.val (.int p1), .val (.int p2), .val (.int p3), .val (.int p4), .val (.int k), .val (.int r), .val (.int pt), .val (.int (k + (1 : Int32))), .val (.int (Int32.ofNat t)), .val (.int fb), .val (.ref b1), .unset, .unset] [(.ref b1)])) (fun tt_ kk_ => XS.aload X11.here hx rfl (hb hby at_117) rfl rfl kk_) ?_
    refine Ends.to (T' := T11) (g' := (mkF m 120 #[.val (.int p1), .val (.int p2), .val (.int p3), .val (.int p4), .val (.int k), .val (.int r), .val (.int pt), .val (.int (k + (1 : Int32))), .val (.int (Int32.ofNat t)), .val (.int fb), .val (.ref b1), .unset, .unset] [(.int (0 : Int32)), (.ref b1)])) (fun tt_ kk_ => XS.iconst X11.here hx rfl (hb hby at_119) kk_) ?_
    refine Ends.to (T' := T11) (g' := (mkF m 122 #[.val (.int p1), .val (.int p2), .val (.int p3), .val (.int p4), .val (.int k), .val (.int r), .val (.int pt), .val (.int (k + (1 : Int32))), .val (.int (Int32.ofNat t)), .val (.int fb), .val (.ref b1), .unset, .unset] [(.int fb), (.int (0 : Int32)), (.ref b1)])) (fun tt_ kk_ => XS.iload X11.here hx rfl (hb hby at_120) rfl kk_) ?_
    obtain ⟨T12, h12, X12, e12, W12, B_b1', st12⟩ := BA.stB X11 hx hZ e11 B_b1 (j := (0 : Int32)) (i := 0) (by decide) rfl (by decide) (g := (mkF m 122 #[.val (.int p1), .val (.int p2), .val (.int p3), .val (.int p4), .val (.int k), .val (.int r), .val (.int pt), .val (.int (k + (1 : Int32))), .val (.int (Int32.ofNat t)), .val (.int fb), .val (.ref b1), .unset, .unset] [(.int fb), (.int (0 : Int32)), (.ref b1)])) rfl rfl (hb hby at_122)
    have Zs := Nat.le_trans Zs (Nat.le_of_eq (Wr.size W12).symm)
    have B_b1 := B_b1'
    clear B_b1'
    have N12 := Fr.snoc X12 N0 f_b1
    refine Ends.to (T' := T12) (g' := (mkF m 123 #[.val (.int p1), .val (.int p2), .val (.int p3), .val (.int p4), .val (.int k), .val (.int r), .val (.int pt), .val (.int (k + (1 : Int32))), .val (.int (Int32.ofNat t)), .val (.int fb), .val (.ref b1), .unset, .unset] [])) (fun tt_ kk_ => st12 tt_ kk_) ?_
    refine Ends.to (T' := T12) (g' := (mkF m 125 #[.val (.int p1), .val (.int p2), .val (.int p3), .val (.int p4), .val (.int k), .val (.int r), .val (.int pt), .val (.int (k + (1 : Int32))), .val (.int (Int32.ofNat t)), .val (.int fb), .val (.ref b1), .unset, .unset] [(.ref b1)])) (fun tt_ kk_ => XS.aload X12.here hx rfl (hb hby at_123) rfl rfl kk_) ?_
    refine Ends.to (T' := T12) (g' := (mkF m 126 #[.val (.int p1), .val (.int p2), .val (.int p3), .val (.int p4), .val (.int k), .val (.int r), .val (.int pt), .val (.int (k + (1 : Int32))), .val (.int (Int32.ofNat t)), .val (.int fb), .val (.ref b1), .unset, .unset] [(.int (1 : Int32)), (.ref b1)])) (fun tt_ kk_ => XS.iconst X12.here hx rfl (hb hby at_125) kk_) ?_
    refine Ends.to (T' := T12) (g' := (mkF m 128 #[.val (.int p1), .val (.int p2), .val (.int p3), .val (.int p4), .val (.int k), .val (.int r), .val (.int pt), .val (.int (k + (1 : Int32))), .val (.int (Int32.ofNat t)), .val (.int fb), .val (.ref b1), .unset, .unset] [(.int fb), (.int (1 : Int32)), (.ref b1)])) (fun tt_ kk_ => XS.iload X12.here hx rfl (hb hby at_126) rfl kk_) ?_
    obtain ⟨T13, h13, X13, e13, W13, B_b1', st13⟩ := BA.stB X12 hx hZ e12 B_b1 (j := (1 : Int32)) (i := 1) (by decide) rfl (by decide) (g := (mkF m 128 #[.val (.int p1), .val (.int p2), .val (.int p3), .val (.int p4), .val (.int k), .val (.int r), .val (.int pt), .val (.int (k + (1 : Int32))), .val (.int (Int32.ofNat t)), .val (.int fb), .val (.ref b1), .unset, .unset] [(.int fb), (.int (1 : Int32)), (.ref b1)])) rfl rfl (hb hby at_128)
    have Zs := Nat.le_trans Zs (Nat.le_of_eq (Wr.size W13).symm)
    have B_b1 := B_b1'
    clear B_b1'
    have N13 := Fr.snoc X13 N12 f_b1
    refine Ends.to (T' := T13) (g' := (mkF m 129 #[.val (.int p1), .val (.int p2), .val (.int p3), .val (.int p4), .val (.int k), .val (.int r), .val (.int pt), .val (.int (k + (1 : Int32))), .val (.int (Int32.ofNat t)), .val (.int fb), .val (.ref b1), .unset, .unset] [])) (fun tt_ kk_ => st13 tt_ kk_) ?_
    refine Ends.to (T' := T13) (g' := (mkF m 131 #[.val (.int p1), .val (.int p2), .val (.int p3), .val (.int p4), .val (.int k), .val (.int r), .val (.int pt), .val (.int (k + (1 : Int32))), .val (.int (Int32.ofNat t)), .val (.int fb), .val (.ref b1), .unset, .unset] [(.ref b1)])) (fun tt_ kk_ => XS.aload X13.here hx rfl (hb hby at_129) rfl rfl kk_) ?_
    refine Ends.to (T' := T13) (g' := (mkF m 132 #[.val (.int p1), .val (.int p2), .val (.int p3), .val (.int p4), .val (.int k), .val (.int r), .val (.int pt), .val (.int (k + (1 : Int32))), .val (.int (Int32.ofNat t)), .val (.int fb), .val (.ref b1), .unset, .unset] [(.int (2 : Int32)), (.ref b1)])) (fun tt_ kk_ => XS.iconst X13.here hx rfl (hb hby at_131) kk_) ?_
    refine Ends.to (T' := T13) (g' := (mkF m 134 #[.val (.int p1), .val (.int p2), .val (.int p3), .val (.int p4), .val (.int k), .val (.int r), .val (.int pt), .val (.int (k + (1 : Int32))), .val (.int (Int32.ofNat t)), .val (.int fb), .val (.ref b1), .unset, .unset] [(.int fb), (.int (2 : Int32)), (.ref b1)])) (fun tt_ kk_ => XS.iload X13.here hx rfl (hb hby at_132) rfl kk_) ?_
    obtain ⟨T14, h14, X14, e14, W14, B_b1', st14⟩ := BA.stB X13 hx hZ e13 B_b1 (j := (2 : Int32)) (i := 2) (by decide) rfl (by decide) (g := (mkF m 134 #[.val (.int p1), .val (.int p2), .val (.int p3), .val (.int p4), .val (.int k), .val (.int r), .val (.int pt), .val (.int (k + (1 : Int32))), .val (.int (Int32.ofNat t)), .val (.int fb), .val (.ref b1), .unset, .unset] [(.int fb), (.int (2 : Int32)), (.ref b1)])) rfl rfl (hb hby at_134)
    have Zs := Nat.le_trans Zs (Nat.le_of_eq (Wr.size W14).symm)
    have B_b1 := B_b1'
    clear B_b1'
    have N14 := Fr.snoc X14 N13 f_b1
    refine Ends.to (T' := T14) (g' := (mkF m 135 #[.val (.int p1), .val (.int p2), .val (.int p3), .val (.int p4), .val (.int k), .val (.int r), .val (.int pt), .val (.int (k + (1 : Int32))), .val (.int (Int32.ofNat t)), .val (.int fb), .val (.ref b1), .unset, .unset] [])) (fun tt_ kk_ => st14 tt_ kk_) ?_
    refine Ends.to (T' := T14) (g' := (mkF m 137 #[.val (.int p1), .val (.int p2), .val (.int p3), .val (.int p4), .val (.int k), .val (.int r), .val (.int pt), .val (.int (k + (1 : Int32))), .val (.int (Int32.ofNat t)), .val (.int fb), .val (.ref b1), .unset, .unset] [(.ref b1)])) (fun tt_ kk_ => XS.aload X14.here hx rfl (hb hby at_135) rfl rfl kk_) ?_
    refine Ends.to (T' := T14) (g' := (mkF m 138 #[.val (.int p1), .val (.int p2), .val (.int p3), .val (.int p4), .val (.int k), .val (.int r), .val (.int pt), .val (.int (k + (1 : Int32))), .val (.int (Int32.ofNat t)), .val (.int fb), .val (.ref b1), .unset, .unset] [(.int (3 : Int32)), (.ref b1)])) (fun tt_ kk_ => XS.iconst X14.here hx rfl (hb hby at_137) kk_) ?_
    refine Ends.to (T' := T14) (g' := (mkF m 140 #[.val (.int p1), .val (.int p2), .val (.int p3), .val (.int p4), .val (.int k), .val (.int r), .val (.int pt), .val (.int (k + (1 : Int32))), .val (.int (Int32.ofNat t)), .val (.int fb), .val (.ref b1), .unset, .unset] [(.int fb), (.int (3 : Int32)), (.ref b1)])) (fun tt_ kk_ => XS.iload X14.here hx rfl (hb hby at_138) rfl kk_) ?_
    obtain ⟨T15, h15, X15, e15, W15, B_b1', st15⟩ := BA.stB X14 hx hZ e14 B_b1 (j := (3 : Int32)) (i := 3) (by decide) rfl (by decide) (g := (mkF m 140 #[.val (.int p1), .val (.int p2), .val (.int p3), .val (.int p4), .val (.int k), .val (.int r), .val (.int pt), .val (.int (k + (1 : Int32))), .val (.int (Int32.ofNat t)), .val (.int fb), .val (.ref b1), .unset, .unset] [(.int fb), (.int (3 : Int32)), (.ref b1)])) rfl rfl (hb hby at_140)
    have Zs := Nat.le_trans Zs (Nat.le_of_eq (Wr.size W15).symm)
    have B_b1 := B_b1'
    clear B_b1'
    have N15 := Fr.snoc X15 N14 f_b1
    refine Ends.to (T' := T15) (g' := (mkF m 141 #[.val (.int p1), .val (.int p2), .val (.int p3), .val (.int p4), .val (.int k), .val (.int r), .val (.int pt), .val (.int (k + (1 : Int32))), .val (.int (Int32.ofNat t)), .val (.int fb), .val (.ref b1), .unset, .unset] [])) (fun tt_ kk_ => st15 tt_ kk_) ?_
    refine Ends.to (T' := T15) (g' := (mkF m 143 #[.val (.int p1), .val (.int p2), .val (.int p3), .val (.int p4), .val (.int k), .val (.int r), .val (.int pt), .val (.int (k + (1 : Int32))), .val (.int (Int32.ofNat t)), .val (.int fb), .val (.ref b1), .unset, .unset] [(.ref b1)])) (fun tt_ kk_ => XS.aload X15.here hx rfl (hb hby at_141) rfl rfl kk_) ?_
    refine Ends.to (T' := T15) (g' := (mkF m 144 #[.val (.int p1), .val (.int p2), .val (.int p3), .val (.int p4), .val (.int k), .val (.int r), .val (.int pt), .val (.int (k + (1 : Int32))), .val (.int (Int32.ofNat t)), .val (.int fb), .val (.ref b1), .unset, .unset] [(.int (4 : Int32)), (.ref b1)])) (fun tt_ kk_ => XS.iconst X15.here hx rfl (hb hby at_143) kk_) ?_
    refine Ends.to (T' := T15) (g' := (mkF m 146 #[.val (.int p1), .val (.int p2), .val (.int p3), .val (.int p4), .val (.int k), .val (.int r), .val (.int pt), .val (.int (k + (1 : Int32))), .val (.int (Int32.ofNat t)), .val (.int fb), .val (.ref b1), .unset, .unset] [(.int fb), (.int (4 : Int32)), (.ref b1)])) (fun tt_ kk_ => XS.iload X15.here hx rfl (hb hby at_144) rfl kk_) ?_
    obtain ⟨T16, h16, X16, e16, W16, B_b1', st16⟩ := BA.stB X15 hx hZ e15 B_b1 (j := (4 : Int32)) (i := 4) (by decide) rfl (by decide) (g := (mkF m 146 #[.val (.int p1), .val (.int p2), .val (.int p3), .val (.int p4), .val (.int k), .val (.int r), .val (.int pt), .val (.int (k + (1 : Int32))), .val (.int (Int32.ofNat t)), .val (.int fb), .val (.ref b1), .unset, .unset] [(.int fb), (.int (4 : Int32)), (.ref b1)])) rfl rfl (hb hby at_146)
    have Zs := Nat.le_trans Zs (Nat.le_of_eq (Wr.size W16).symm)
    have B_b1 := B_b1'
    clear B_b1'
    have N16 := Fr.snoc X16 N15 f_b1
    refine Ends.to (T' := T16) (g' := (mkF m 147 #[.val (.int p1), .val (.int p2), .val (.int p3), .val (.int p4), .val (.int k), .val (.int r), .val (.int pt), .val (.int (k + (1 : Int32))), .val (.int (Int32.ofNat t)), .val (.int fb), .val (.ref b1), .unset, .unset] [])) (fun tt_ kk_ => st16 tt_ kk_) ?_
    refine Ends.to (T' := T16) (g' := (mkF m 149 #[.val (.int p1), .val (.int p2), .val (.int p3), .val (.int p4), .val (.int k), .val (.int r), .val (.int pt), .val (.int (k + (1 : Int32))), .val (.int (Int32.ofNat t)), .val (.int fb), .val (.ref b1), .unset, .unset] [(.ref b1)])) (fun tt_ kk_ => XS.aload X16.here hx rfl (hb hby at_147) rfl rfl kk_) ?_
    refine Ends.to (T' := T16) (g' := (mkF m 150 #[.val (.int p1), .val (.int p2), .val (.int p3), .val (.int p4), .val (.int k), .val (.int r), .val (.int pt), .val (.int (k + (1 : Int32))), .val (.int (Int32.ofNat t)), .val (.int fb), .val (.ref b1), .unset, .unset] [(.int (5 : Int32)), (.ref b1)])) (fun tt_ kk_ => XS.iconst X16.here hx rfl (hb hby at_149) kk_) ?_
    refine Ends.to (T' := T16) (g' := (mkF m 152 #[.val (.int p1), .val (.int p2), .val (.int p3), .val (.int p4), .val (.int k), .val (.int r), .val (.int pt), .val (.int (k + (1 : Int32))), .val (.int (Int32.ofNat t)), .val (.int fb), .val (.ref b1), .unset, .unset] [(.int fb), (.int (5 : Int32)), (.ref b1)])) (fun tt_ kk_ => XS.iload X16.here hx rfl (hb hby at_150) rfl kk_) ?_
    obtain ⟨T17, h17, X17, e17, W17, B_b1', st17⟩ := BA.stB X16 hx hZ e16 B_b1 (j := (5 : Int32)) (i := 5) (by decide) rfl (by decide) (g := (mkF m 152 #[.val (.int p1), .val (.int p2), .val (.int p3), .val (.int p4), .val (.int k), .val (.int r), .val (.int pt), .val (.int (k + (1 : Int32))), .val (.int (Int32.ofNat t)), .val (.int fb), .val (.ref b1), .unset, .unset] [(.int fb), (.int (5 : Int32)), (.ref b1)])) rfl rfl (hb hby at_152)
    have Zs := Nat.le_trans Zs (Nat.le_of_eq (Wr.size W17).symm)
    have B_b1 := B_b1'
    clear B_b1'
    have N17 := Fr.snoc X17 N16 f_b1
    refine Ends.to (T' := T17) (g' := (mkF m 153 #[.val (.int p1), .val (.int p2), .val (.int p3), .val (.int p4), .val (.int k), .val (.int r), .val (.int pt), .val (.int (k + (1 : Int32))), .val (.int (Int32.ofNat t)), .val (.int fb), .val (.ref b1), .unset, .unset] [])) (fun tt_ kk_ => st17 tt_ kk_) ?_
    refine Ends.to (T' := T17) (g' := (mkF m 155 #[.val (.int p1), .val (.int p2), .val (.int p3), .val (.int p4), .val (.int k), .val (.int r), .val (.int pt), .val (.int (k + (1 : Int32))), .val (.int (Int32.ofNat t)), .val (.int fb), .val (.ref b1), .unset, .unset] [(.ref b1)])) (fun tt_ kk_ => XS.aload X17.here hx rfl (hb hby at_153) rfl rfl kk_) ?_
    refine Ends.to (T' := T17) (g' := (mkF m 157 #[.val (.int p1), .val (.int p2), .val (.int p3), .val (.int p4), .val (.int k), .val (.int r), .val (.int pt), .val (.int (k + (1 : Int32))), .val (.int (Int32.ofNat t)), .val (.int fb), .val (.ref b1), .unset, .unset] [(.int (6 : Int32)), (.ref b1)])) (fun tt_ kk_ => XS.bipush X17.here hx rfl (hb hby at_155) kk_) ?_
    refine Ends.to (T' := T17) (g' := (mkF m 159 #[.val (.int p1), .val (.int p2), .val (.int p3), .val (.int p4), .val (.int k), .val (.int r), .val (.int pt), .val (.int (k + (1 : Int32))), .val (.int (Int32.ofNat t)), .val (.int fb), .val (.ref b1), .unset, .unset] [(.int fb), (.int (6 : Int32)), (.ref b1)])) (fun tt_ kk_ => XS.iload X17.here hx rfl (hb hby at_157) rfl kk_) ?_
    obtain ⟨T18, h18, X18, e18, W18, B_b1', st18⟩ := BA.stB X17 hx hZ e17 B_b1 (j := (6 : Int32)) (i := 6) (by decide) rfl (by decide) (g := (mkF m 159 #[.val (.int p1), .val (.int p2), .val (.int p3), .val (.int p4), .val (.int k), .val (.int r), .val (.int pt), .val (.int (k + (1 : Int32))), .val (.int (Int32.ofNat t)), .val (.int fb), .val (.ref b1), .unset, .unset] [(.int fb), (.int (6 : Int32)), (.ref b1)])) rfl rfl (hb hby at_159)
    have Zs := Nat.le_trans Zs (Nat.le_of_eq (Wr.size W18).symm)
    have B_b1 := B_b1'
    clear B_b1'
    have N18 := Fr.snoc X18 N17 f_b1
    refine Ends.to (T' := T18) (g' := (mkF m 160 #[.val (.int p1), .val (.int p2), .val (.int p3), .val (.int p4), .val (.int k), .val (.int r), .val (.int pt), .val (.int (k + (1 : Int32))), .val (.int (Int32.ofNat t)), .val (.int fb), .val (.ref b1), .unset, .unset] [])) (fun tt_ kk_ => st18 tt_ kk_) ?_
    refine Ends.to (T' := T18) (g' := (mkF m 162 #[.val (.int p1), .val (.int p2), .val (.int p3), .val (.int p4), .val (.int k), .val (.int r), .val (.int pt), .val (.int (k + (1 : Int32))), .val (.int (Int32.ofNat t)), .val (.int fb), .val (.ref b1), .unset, .unset] [(.ref b1)])) (fun tt_ kk_ => XS.aload X18.here hx rfl (hb hby at_160) rfl rfl kk_) ?_
    refine Ends.to (T' := T18) (g' := (mkF m 164 #[.val (.int p1), .val (.int p2), .val (.int p3), .val (.int p4), .val (.int k), .val (.int r), .val (.int pt), .val (.int (k + (1 : Int32))), .val (.int (Int32.ofNat t)), .val (.int fb), .val (.ref b1), .unset, .unset] [(.int (7 : Int32)), (.ref b1)])) (fun tt_ kk_ => XS.bipush X18.here hx rfl (hb hby at_162) kk_) ?_
    refine Ends.to (T' := T18) (g' := (mkF m 166 #[.val (.int p1), .val (.int p2), .val (.int p3), .val (.int p4), .val (.int k), .val (.int r), .val (.int pt), .val (.int (k + (1 : Int32))), .val (.int (Int32.ofNat t)), .val (.int fb), .val (.ref b1), .unset, .unset] [(.int fb), (.int (7 : Int32)), (.ref b1)])) (fun tt_ kk_ => XS.iload X18.here hx rfl (hb hby at_164) rfl kk_) ?_
    obtain ⟨T19, h19, X19, e19, W19, B_b1', st19⟩ := BA.stB X18 hx hZ e18 B_b1 (j := (7 : Int32)) (i := 7) (by decide) rfl (by decide) (g := (mkF m 166 #[.val (.int p1), .val (.int p2), .val (.int p3), .val (.int p4), .val (.int k), .val (.int r), .val (.int pt), .val (.int (k + (1 : Int32))), .val (.int (Int32.ofNat t)), .val (.int fb), .val (.ref b1), .unset, .unset] [(.int fb), (.int (7 : Int32)), (.ref b1)])) rfl rfl (hb hby at_166)
    have Zs := Nat.le_trans Zs (Nat.le_of_eq (Wr.size W19).symm)
    have B_b1 := B_b1'
    clear B_b1'
    have N19 := Fr.snoc X19 N18 f_b1
    refine Ends.to (T' := T19) (g' := (mkF m 167 #[.val (.int p1), .val (.int p2), .val (.int p3), .val (.int p4), .val (.int k), .val (.int r), .val (.int pt), .val (.int (k + (1 : Int32))), .val (.int (Int32.ofNat t)), .val (.int fb), .val (.ref b1), .unset, .unset] [])) (fun tt_ kk_ => st19 tt_ kk_) ?_
    have B_b1 : BB Z h19 b1 8 (fun _ => fb) := B_b1.congr (own_fill (own_b8 hfb))
    refine Ends.to (T' := T19) (g' := (mkF m 169 #[.val (.int p1), .val (.int p2), .val (.int p3), .val (.int p4), .val (.int k), .val (.int r), .val (.int pt), .val (.int (k + (1 : Int32))), .val (.int (Int32.ofNat t)), .val (.int fb), .val (.ref b1), .unset, .unset] [(.int pt)])) (fun tt_ kk_ => XS.iload X19.here hx rfl (hb hby at_167) rfl kk_) ?_
    refine Ends.to (T' := T19) (g' := (mkF m 171 #[.val (.int p1), .val (.int p2), .val (.int p3), .val (.int p4), .val (.int k), .val (.int r), .val (.int pt), .val (.int (k + (1 : Int32))), .val (.int (Int32.ofNat t)), .val (.int fb), .val (.ref b1), .unset, .unset] [(.ref b1), (.int pt)])) (fun tt_ kk_ => XS.aload X19.here hx rfl (hb hby at_169) rfl rfl kk_) ?_
    refine Ends.to (T' := T19) (g' := (mkF m 173 #[.val (.int p1), .val (.int p2), .val (.int p3), .val (.int p4), .val (.int k), .val (.int r), .val (.int pt), .val (.int (k + (1 : Int32))), .val (.int (Int32.ofNat t)), .val (.int fb), .val (.ref b1), .unset, .unset] [(.int (Int32.ofNat t)), (.ref b1), (.int pt)])) (fun tt_ kk_ => XS.iload X19.here hx rfl (hb hby at_171) rfl kk_) ?_
    obtain ⟨_, _, ⟨T20, L20, k20, n20⟩, -, X20, ⟨Lc20, hQ20, l20, y20, z20⟩, st20⟩ := Jvm.LawKit.callS X19 hx (y := (⟨"com/example/predicate/predicate/document/Utf8", "encode", "(I[BI)I"⟩ : MethodName)) hown (mvT hZ (hw _ (List.mem_of_getElem? (i := 2) rfl))) (mvT hZ (hw _ (List.mem_of_getElem? (i := 3) rfl))) (mvT hZ (hw _ (List.mem_of_getElem? (i := 4) rfl))) (mvT hZ (hw _ (List.mem_of_getElem? (i := 5) rfl))) (by decide) (backOf (W := 0) (rm1 l Z a0 hw [] pt b1 t (fun _ => fb) h19 n0 Zs ht B_b1 f_b1) hZ (hw _ (List.mem_of_getElem? (i := 5) rfl)) (hw _ (List.mem_of_getElem? (i := 4) rfl)) (by decide) (by decide)) (g := (mkF m 173 #[.val (.int p1), .val (.int p2), .val (.int p3), .val (.int p4), .val (.int k), .val (.int r), .val (.int pt), .val (.int (k + (1 : Int32))), .val (.int (Int32.ofNat t)), .val (.int fb), .val (.ref b1), .unset, .unset] [(.int (Int32.ofNat t)), (.ref b1), (.int pt)])) rfl (by rw [hml]; rfl) (argsL := [(.int pt), (.ref b1), (.int (Int32.ofNat t))]) (rest := []) (lenOf pd_1 rfl) rfl (by show 2 * 0 + _ ≤ _; exact Nat.le_of_eq rfl) (hb hby at_173) (fun _ _ => ⟨rfl, e19, (by decide : 1 + 0 ≤ _), (by decide : 8 + 0 ≤ _)⟩)
    dsimp only [Pt.U, Pt.locs, Pt.cells, Pt.slots] at X20 l20 y20 z20 st20 hQ20
    subst l20 y20 z20
    obtain ⟨rfl, N20q, K20, G20⟩ := hQ20
    have N20 := Fr.app N19 N20q
    have Zs := Nat.le_trans Zs K20.1
    have B_b1 := G20
    refine Ends.to (T' := T20) (g' := (mkF m 176 #[.val (.int p1), .val (.int p2), .val (.int p3), .val (.int p4), .val (.int k), .val (.int r), .val (.int pt), .val (.int (k + (1 : Int32))), .val (.int (Int32.ofNat t)), .val (.int fb), .val (.ref b1), .unset, .unset] [(.int (Int32.ofNat (t + own_len pt)))])) (fun tt_ kk_ => st20 tt_ kk_) ?_
    refine Ends.to (T' := T20) (g' := (mkF m 178 #[.val (.int p1), .val (.int p2), .val (.int p3), .val (.int p4), .val (.int k), .val (.int r), .val (.int pt), .val (.int (k + (1 : Int32))), .val (.int (Int32.ofNat t)), .val (.int fb), .val (.ref b1), .val (.int (Int32.ofNat (t + own_len pt))), .unset] [])) (fun tt_ kk_ => XS.istore X20.here hx rfl (hb hby at_176) rfl (l' := #[.val (.int p1), .val (.int p2), .val (.int p3), .val (.int p4), .val (.int k), .val (.int r), .val (.int pt), .val (.int (k + (1 : Int32))), .val (.int (Int32.ofNat t)), .val (.int fb), .val (.ref b1), .val (.int (Int32.ofNat (t + own_len pt))), .unset]) rfl kk_) ?_
    refine Ends.to (T' := T20) (g' := (mkF m 180 #[.val (.int p1), .val (.int p2), .val (.int p3), .val (.int p4), .val (.int k), .val (.int r), .val (.int pt), .val (.int (k + (1 : Int32))), .val (.int (Int32.ofNat t)), .val (.int fb), .val (.ref b1), .val (.int (Int32.ofNat (t + own_len pt))), .unset] [(.int (Int32.ofNat (t + own_len pt)))])) (fun tt_ kk_ => XS.iload X20.here hx rfl (hb hby at_178) rfl kk_) ?_
    refine Ends.to (T' := T20) (g' := (mkF m 182 #[.val (.int p1), .val (.int p2), .val (.int p3), .val (.int p4), .val (.int k), .val (.int r), .val (.int pt), .val (.int (k + (1 : Int32))), .val (.int (Int32.ofNat t)), .val (.int fb), .val (.ref b1), .val (.int (Int32.ofNat (t + own_len pt))), .unset] [(.int (Int32.ofNat t)), (.int (Int32.ofNat (t + own_len pt)))])) (fun tt_ kk_ => XS.iload X20.here hx rfl (hb hby at_180) rfl kk_) ?_
    refine Ends.to (T' := T20) (g' := (mkF m 184 #[.val (.int p1), .val (.int p2), .val (.int p3), .val (.int p4), .val (.int k), .val (.int r), .val (.int pt), .val (.int (k + (1 : Int32))), .val (.int (Int32.ofNat t)), .val (.int fb), .val (.ref b1), .val (.int (Int32.ofNat (t + own_len pt))), .unset] [(.int (k + (1 : Int32))), (.int (Int32.ofNat t)), (.int (Int32.ofNat (t + own_len pt)))])) (fun tt_ kk_ => XS.iload X20.here hx rfl (hb hby at_182) rfl kk_) ?_
    refine Ends.to (T' := T20) (g' := (mkF m 185 #[.val (.int p1), .val (.int p2), .val (.int p3), .val (.int p4), .val (.int k), .val (.int r), .val (.int pt), .val (.int (k + (1 : Int32))), .val (.int (Int32.ofNat t)), .val (.int fb), .val (.ref b1), .val (.int (Int32.ofNat (t + own_len pt))), .unset] [(.int ((Int32.ofNat t) + (k + (1 : Int32)))), (.int (Int32.ofNat (t + own_len pt)))])) (fun tt_ kk_ => XS.iadd X20.here hx rfl (hb hby at_184) rfl kk_) ?_
    refine Ends.to (T' := T20) (g' := (mkF m 188 #[.val (.int p1), .val (.int p2), .val (.int p3), .val (.int p4), .val (.int k), .val (.int r), .val (.int pt), .val (.int (k + (1 : Int32))), .val (.int (Int32.ofNat t)), .val (.int fb), .val (.ref b1), .val (.int (Int32.ofNat (t + own_len pt))), .unset] [])) (fun tt_ kk_ => XS.icmpNo X20.here hx rfl (hb hby at_185) rfl (teq (own_next hk)).2 kk_) ?_
    refine Ends.to (T' := T20) (g' := (mkF m 189 #[.val (.int p1), .val (.int p2), .val (.int p3), .val (.int p4), .val (.int k), .val (.int r), .val (.int pt), .val (.int (k + (1 : Int32))), .val (.int (Int32.ofNat t)), .val (.int fb), .val (.ref b1), .val (.int (Int32.ofNat (t + own_len pt))), .unset] [(.int (1 : Int32))])) (fun tt_ kk_ => XS.iconst X20.here hx rfl (hb hby at_188) kk_) ?_
    refine Ends.to (T' := T20) (g' := (mkF m 193 #[.val (.int p1), .val (.int p2), .val (.int p3), .val (.int p4), .val (.int k), .val (.int r), .val (.int pt), .val (.int (k + (1 : Int32))), .val (.int (Int32.ofNat t)), .val (.int fb), .val (.ref b1), .val (.int (Int32.ofNat (t + own_len pt))), .unset] [(.int (1 : Int32))])) (fun tt_ kk_ => XS.goto X20.here hx rfl (pc0 := 189) (pc' := 193) rfl (hb hby at_189) (by decide) (by decide) kk_) ?_
    refine Ends.to (T' := T20) (g' := (mkF m 195 #[.val (.int p1), .val (.int p2), .val (.int p3), .val (.int p4), .val (.int k), .val (.int r), .val (.int pt), .val (.int (k + (1 : Int32))), .val (.int (Int32.ofNat t)), .val (.int fb), .val (.ref b1), .val (.int (Int32.ofNat (t + own_len pt))), .val (.int (1 : Int32))] [])) (fun tt_ kk_ => XS.istore X20.here hx rfl (hb hby at_193) rfl (l' := #[.val (.int p1), .val (.int p2), .val (.int p3), .val (.int p4), .val (.int k), .val (.int r), .val (.int pt), .val (.int (k + (1 : Int32))), .val (.int (Int32.ofNat t)), .val (.int fb), .val (.ref b1), .val (.int (Int32.ofNat (t + own_len pt))), .val (.int (1 : Int32))]) rfl kk_) ?_
    refine Ends.to (T' := T20) (g' := (mkF m 197 #[.val (.int p1), .val (.int p2), .val (.int p3), .val (.int p4), .val (.int k), .val (.int r), .val (.int pt), .val (.int (k + (1 : Int32))), .val (.int (Int32.ofNat t)), .val (.int fb), .val (.ref b1), .val (.int (Int32.ofNat (t + own_len pt))), .val (.int (1 : Int32))] [(.int (1 : Int32))])) (fun tt_ kk_ => XS.iload X20.here hx rfl (hb hby at_195) rfl kk_) ?_
    refine Ends.to (T' := T20) (g' := (mkF m 200 #[.val (.int p1), .val (.int p2), .val (.int p3), .val (.int p4), .val (.int k), .val (.int r), .val (.int pt), .val (.int (k + (1 : Int32))), .val (.int (Int32.ofNat t)), .val (.int fb), .val (.ref b1), .val (.int (Int32.ofNat (t + own_len pt))), .val (.int (1 : Int32))] [])) (fun tt_ kk_ => XS.ifNo X20.here hx rfl (hb hby at_197) rfl ((if0 _ _).trans (feq (by decide)).1) kk_) ?_
    refine Ends.to (T' := T20) (g' := (mkF m 202 #[.val (.int p1), .val (.int p2), .val (.int p3), .val (.int p4), .val (.int k), .val (.int r), .val (.int pt), .val (.int (k + (1 : Int32))), .val (.int (Int32.ofNat t)), .val (.int fb), .val (.ref b1), .val (.int (Int32.ofNat (t + own_len pt))), .val (.int (1 : Int32))] [(.ref b1)])) (fun tt_ kk_ => XS.aload X20.here hx rfl (hb hby at_200) rfl rfl kk_) ?_
    refine Ends.to (T' := T20) (g' := (mkF m 203 #[.val (.int p1), .val (.int p2), .val (.int p3), .val (.int p4), .val (.int k), .val (.int r), .val (.int pt), .val (.int (k + (1 : Int32))), .val (.int (Int32.ofNat t)), .val (.int fb), .val (.ref b1), .val (.int (Int32.ofNat (t + own_len pt))), .val (.int (1 : Int32))] [(.int (0 : Int32)), (.ref b1)])) (fun tt_ kk_ => XS.iconst X20.here hx rfl (hb hby at_202) kk_) ?_
    refine Ends.to (T' := T20) (g' := (mkF m 204 #[.val (.int p1), .val (.int p2), .val (.int p3), .val (.int p4), .val (.int k), .val (.int r), .val (.int pt), .val (.int (k + (1 : Int32))), .val (.int (Int32.ofNat t)), .val (.int fb), .val (.ref b1), .val (.int (Int32.ofNat (t + own_len pt))), .val (.int (1 : Int32))] [(.int ((own_enc pt t (fun _ => fb)) 0))])) (fun tt_ kk_ => BA.ldB X20 hx hZ rfl B_b1 (j := (0 : Int32)) (i := 0) (by decide) rfl (by decide) (g := (mkF m 203 #[.val (.int p1), .val (.int p2), .val (.int p3), .val (.int p4), .val (.int k), .val (.int r), .val (.int pt), .val (.int (k + (1 : Int32))), .val (.int (Int32.ofNat t)), .val (.int fb), .val (.ref b1), .val (.int (Int32.ofNat (t + own_len pt))), .val (.int (1 : Int32))] [(.int (0 : Int32)), (.ref b1)])) rfl rfl (hb hby at_203) tt_ kk_) ?_
    refine Ends.to (T' := T20) (g' := (mkF m 206 #[.val (.int p1), .val (.int p2), .val (.int p3), .val (.int p4), .val (.int k), .val (.int r), .val (.int pt), .val (.int (k + (1 : Int32))), .val (.int (Int32.ofNat t)), .val (.int fb), .val (.ref b1), .val (.int (Int32.ofNat (t + own_len pt))), .val (.int (1 : Int32))] [(.int pt), (.int ((own_enc pt t (fun _ => fb)) 0))])) (fun tt_ kk_ => XS.iload X20.here hx rfl (hb hby at_204) rfl kk_) ?_
    refine Ends.to (T' := T20) (g' := (mkF m 208 #[.val (.int p1), .val (.int p2), .val (.int p3), .val (.int p4), .val (.int k), .val (.int r), .val (.int pt), .val (.int (k + (1 : Int32))), .val (.int (Int32.ofNat t)), .val (.int fb), .val (.ref b1), .val (.int (Int32.ofNat (t + own_len pt))), .val (.int (1 : Int32))] [(.int (k + (1 : Int32))), (.int pt), (.int ((own_enc pt t (fun _ => fb)) 0))])) (fun tt_ kk_ => XS.iload X20.here hx rfl (hb hby at_206) rfl kk_) ?_
    refine Ends.to (T' := T20) (g' := (mkF m 210 #[.val (.int p1), .val (.int p2), .val (.int p3), .val (.int p4), .val (.int k), .val (.int r), .val (.int pt), .val (.int (k + (1 : Int32))), .val (.int (Int32.ofNat t)), .val (.int fb), .val (.ref b1), .val (.int (Int32.ofNat (t + own_len pt))), .val (.int (1 : Int32))] [(.int (Int32.ofNat t)), (.int (k + (1 : Int32))), (.int pt), (.int ((own_enc pt t (fun _ => fb)) 0))])) (fun tt_ kk_ => XS.iload X20.here hx rfl (hb hby at_208) rfl kk_) ?_
    refine Ends.to (T' := T20) (g' := (mkF m 212 #[.val (.int p1), .val (.int p2), .val (.int p3), .val (.int p4), .val (.int k), .val (.int r), .val (.int pt), .val (.int (k + (1 : Int32))), .val (.int (Int32.ofNat t)), .val (.int fb), .val (.ref b1), .val (.int (Int32.ofNat (t + own_len pt))), .val (.int (1 : Int32))] [(.int fb), (.int (Int32.ofNat t)), (.int (k + (1 : Int32))), (.int pt), (.int ((own_enc pt t (fun _ => fb)) 0))])) (fun tt_ kk_ => XS.iload X20.here hx rfl (hb hby at_210) rfl kk_) ?_
    refine Ends.to (T' := T20) (g' := (mkF m 213 #[.val (.int p1), .val (.int p2), .val (.int p3), .val (.int p4), .val (.int k), .val (.int r), .val (.int pt), .val (.int (k + (1 : Int32))), .val (.int (Int32.ofNat t)), .val (.int fb), .val (.ref b1), .val (.int (Int32.ofNat (t + own_len pt))), .val (.int (1 : Int32))] [(.int (0 : Int32)), (.int fb), (.int (Int32.ofNat t)), (.int (k + (1 : Int32))), (.int pt), (.int ((own_enc pt t (fun _ => fb)) 0))])) (fun tt_ kk_ => XS.iconst X20.here hx rfl (hb hby at_212) kk_) ?_
    obtain ⟨_, _, ⟨T21, L21, k21, n21⟩, -, X21, ⟨Lc21, hQ21, l21, y21, z21⟩, st21⟩ := Jvm.LawKit.callS X20 hx (y := (⟨"com/example/predicate/predicate/document/Utf8EncodePinLaw", "expected", "(IIIBI)B"⟩ : MethodName)) hown (mvT hZ (hw _ (List.mem_of_getElem? (i := 6) rfl))) (mvT hZ (hw _ (List.mem_of_getElem? (i := 7) rfl))) (mvT hZ (hw _ (List.mem_of_getElem? (i := 8) rfl))) (mvT hZ (hw _ (List.mem_of_getElem? (i := 9) rfl))) (by decide) (backOf (W := 1) (rm2 l Z a0 hw [] pt (k + (1 : Int32)) (Int32.ofNat t) fb (0 : Int32) T20.heap n0 Zs) hZ (hw _ (List.mem_of_getElem? (i := 9) rfl)) (hw _ (List.mem_of_getElem? (i := 8) rfl)) (by decide) (by decide)) (g := (mkF m 213 #[.val (.int p1), .val (.int p2), .val (.int p3), .val (.int p4), .val (.int k), .val (.int r), .val (.int pt), .val (.int (k + (1 : Int32))), .val (.int (Int32.ofNat t)), .val (.int fb), .val (.ref b1), .val (.int (Int32.ofNat (t + own_len pt))), .val (.int (1 : Int32))] [(.int (0 : Int32)), (.int fb), (.int (Int32.ofNat t)), (.int (k + (1 : Int32))), (.int pt), (.int ((own_enc pt t (fun _ => fb)) 0))])) rfl (by rw [hml]; rfl) (argsL := [(.int pt), (.int (k + (1 : Int32))), (.int (Int32.ofNat t)), (.int fb), (.int (0 : Int32))]) (rest := [(.int ((own_enc pt t (fun _ => fb)) 0))]) (lenOf pd_2 rfl) rfl (by show 2 * 0 + _ ≤ _; exact Nat.le_of_eq rfl) (hb hby at_213) (fun _ _ => ⟨rfl, rfl, (by decide : 1 + 0 ≤ _), (by decide : 8 + 0 ≤ _)⟩)
    dsimp only [Pt.U, Pt.locs, Pt.cells, Pt.slots] at X21 l21 y21 z21 st21 hQ21
    subst l21 y21 z21
    obtain ⟨rfl, N21q, e21q⟩ := hQ21
    have N21 := Fr.app N20 N21q
    refine Ends.to (T' := T21) (g' := (mkF m 216 #[.val (.int p1), .val (.int p2), .val (.int p3), .val (.int p4), .val (.int k), .val (.int r), .val (.int pt), .val (.int (k + (1 : Int32))), .val (.int (Int32.ofNat t)), .val (.int fb), .val (.ref b1), .val (.int (Int32.ofNat (t + own_len pt))), .val (.int (1 : Int32))] [(.int (own_ex pt (k + (1 : Int32)) ((0 : Int32) - (Int32.ofNat t)) fb)), (.int ((own_enc pt t (fun _ => fb)) 0))])) (fun tt_ kk_ => st21 tt_ kk_) ?_
    refine Ends.to (T' := T21) (g' := (mkF m 219 #[.val (.int p1), .val (.int p2), .val (.int p3), .val (.int p4), .val (.int k), .val (.int r), .val (.int pt), .val (.int (k + (1 : Int32))), .val (.int (Int32.ofNat t)), .val (.int fb), .val (.ref b1), .val (.int (Int32.ofNat (t + own_len pt))), .val (.int (1 : Int32))] [])) (fun tt_ kk_ => XS.icmpNo X21.here hx rfl (hb hby at_216) rfl (teq (own_same hk ht hfb 0 (by decide))).2 kk_) ?_
    refine Ends.to (T' := T21) (g' := (mkF m 220 #[.val (.int p1), .val (.int p2), .val (.int p3), .val (.int p4), .val (.int k), .val (.int r), .val (.int pt), .val (.int (k + (1 : Int32))), .val (.int (Int32.ofNat t)), .val (.int fb), .val (.ref b1), .val (.int (Int32.ofNat (t + own_len pt))), .val (.int (1 : Int32))] [(.int (1 : Int32))])) (fun tt_ kk_ => XS.iconst X21.here hx rfl (hb hby at_219) kk_) ?_
    refine Ends.to (T' := T21) (g' := (mkF m 224 #[.val (.int p1), .val (.int p2), .val (.int p3), .val (.int p4), .val (.int k), .val (.int r), .val (.int pt), .val (.int (k + (1 : Int32))), .val (.int (Int32.ofNat t)), .val (.int fb), .val (.ref b1), .val (.int (Int32.ofNat (t + own_len pt))), .val (.int (1 : Int32))] [(.int (1 : Int32))])) (fun tt_ kk_ => XS.goto X21.here hx rfl (pc0 := 220) (pc' := 224) rfl (hb hby at_220) (by decide) (by decide) kk_) ?_
    refine Ends.to (T' := T21) (g' := (mkF m 226 #[.val (.int p1), .val (.int p2), .val (.int p3), .val (.int p4), .val (.int k), .val (.int r), .val (.int pt), .val (.int (k + (1 : Int32))), .val (.int (Int32.ofNat t)), .val (.int fb), .val (.ref b1), .val (.int (Int32.ofNat (t + own_len pt))), .val (.int (1 : Int32))] [])) (fun tt_ kk_ => XS.istore X21.here hx rfl (hb hby at_224) rfl (l' := #[.val (.int p1), .val (.int p2), .val (.int p3), .val (.int p4), .val (.int k), .val (.int r), .val (.int pt), .val (.int (k + (1 : Int32))), .val (.int (Int32.ofNat t)), .val (.int fb), .val (.ref b1), .val (.int (Int32.ofNat (t + own_len pt))), .val (.int (1 : Int32))]) rfl kk_) ?_
    refine Ends.to (T' := T21) (g' := (mkF m 228 #[.val (.int p1), .val (.int p2), .val (.int p3), .val (.int p4), .val (.int k), .val (.int r), .val (.int pt), .val (.int (k + (1 : Int32))), .val (.int (Int32.ofNat t)), .val (.int fb), .val (.ref b1), .val (.int (Int32.ofNat (t + own_len pt))), .val (.int (1 : Int32))] [(.int (1 : Int32))])) (fun tt_ kk_ => XS.iload X21.here hx rfl (hb hby at_226) rfl kk_) ?_
    refine Ends.to (T' := T21) (g' := (mkF m 231 #[.val (.int p1), .val (.int p2), .val (.int p3), .val (.int p4), .val (.int k), .val (.int r), .val (.int pt), .val (.int (k + (1 : Int32))), .val (.int (Int32.ofNat t)), .val (.int fb), .val (.ref b1), .val (.int (Int32.ofNat (t + own_len pt))), .val (.int (1 : Int32))] [])) (fun tt_ kk_ => XS.ifNo X21.here hx rfl (hb hby at_228) rfl ((if0 _ _).trans (feq (by decide)).1) kk_) ?_
    refine Ends.to (T' := T21) (g' := (mkF m 233 #[.val (.int p1), .val (.int p2), .val (.int p3), .val (.int p4), .val (.int k), .val (.int r), .val (.int pt), .val (.int (k + (1 : Int32))), .val (.int (Int32.ofNat t)), .val (.int fb), .val (.ref b1), .val (.int (Int32.ofNat (t + own_len pt))), .val (.int (1 : Int32))] [(.ref b1)])) (fun tt_ kk_ => XS.aload X21.here hx rfl (hb hby at_231) rfl rfl kk_) ?_
    refine Ends.to (T' := T21) (g' := (mkF m 234 #[.val (.int p1), .val (.int p2), .val (.int p3), .val (.int p4), .val (.int k), .val (.int r), .val (.int pt), .val (.int (k + (1 : Int32))), .val (.int (Int32.ofNat t)), .val (.int fb), .val (.ref b1), .val (.int (Int32.ofNat (t + own_len pt))), .val (.int (1 : Int32))] [(.int (1 : Int32)), (.ref b1)])) (fun tt_ kk_ => XS.iconst X21.here hx rfl (hb hby at_233) kk_) ?_
    refine Ends.to (T' := T21) (g' := (mkF m 235 #[.val (.int p1), .val (.int p2), .val (.int p3), .val (.int p4), .val (.int k), .val (.int r), .val (.int pt), .val (.int (k + (1 : Int32))), .val (.int (Int32.ofNat t)), .val (.int fb), .val (.ref b1), .val (.int (Int32.ofNat (t + own_len pt))), .val (.int (1 : Int32))] [(.int ((own_enc pt t (fun _ => fb)) 1))])) (fun tt_ kk_ => BA.ldB X21 hx hZ e21q B_b1 (j := (1 : Int32)) (i := 1) (by decide) rfl (by decide) (g := (mkF m 234 #[.val (.int p1), .val (.int p2), .val (.int p3), .val (.int p4), .val (.int k), .val (.int r), .val (.int pt), .val (.int (k + (1 : Int32))), .val (.int (Int32.ofNat t)), .val (.int fb), .val (.ref b1), .val (.int (Int32.ofNat (t + own_len pt))), .val (.int (1 : Int32))] [(.int (1 : Int32)), (.ref b1)])) rfl rfl (hb hby at_234) tt_ kk_) ?_
    refine Ends.to (T' := T21) (g' := (mkF m 237 #[.val (.int p1), .val (.int p2), .val (.int p3), .val (.int p4), .val (.int k), .val (.int r), .val (.int pt), .val (.int (k + (1 : Int32))), .val (.int (Int32.ofNat t)), .val (.int fb), .val (.ref b1), .val (.int (Int32.ofNat (t + own_len pt))), .val (.int (1 : Int32))] [(.int pt), (.int ((own_enc pt t (fun _ => fb)) 1))])) (fun tt_ kk_ => XS.iload X21.here hx rfl (hb hby at_235) rfl kk_) ?_
    refine Ends.to (T' := T21) (g' := (mkF m 239 #[.val (.int p1), .val (.int p2), .val (.int p3), .val (.int p4), .val (.int k), .val (.int r), .val (.int pt), .val (.int (k + (1 : Int32))), .val (.int (Int32.ofNat t)), .val (.int fb), .val (.ref b1), .val (.int (Int32.ofNat (t + own_len pt))), .val (.int (1 : Int32))] [(.int (k + (1 : Int32))), (.int pt), (.int ((own_enc pt t (fun _ => fb)) 1))])) (fun tt_ kk_ => XS.iload X21.here hx rfl (hb hby at_237) rfl kk_) ?_
    refine Ends.to (T' := T21) (g' := (mkF m 241 #[.val (.int p1), .val (.int p2), .val (.int p3), .val (.int p4), .val (.int k), .val (.int r), .val (.int pt), .val (.int (k + (1 : Int32))), .val (.int (Int32.ofNat t)), .val (.int fb), .val (.ref b1), .val (.int (Int32.ofNat (t + own_len pt))), .val (.int (1 : Int32))] [(.int (Int32.ofNat t)), (.int (k + (1 : Int32))), (.int pt), (.int ((own_enc pt t (fun _ => fb)) 1))])) (fun tt_ kk_ => XS.iload X21.here hx rfl (hb hby at_239) rfl kk_) ?_
    refine Ends.to (T' := T21) (g' := (mkF m 243 #[.val (.int p1), .val (.int p2), .val (.int p3), .val (.int p4), .val (.int k), .val (.int r), .val (.int pt), .val (.int (k + (1 : Int32))), .val (.int (Int32.ofNat t)), .val (.int fb), .val (.ref b1), .val (.int (Int32.ofNat (t + own_len pt))), .val (.int (1 : Int32))] [(.int fb), (.int (Int32.ofNat t)), (.int (k + (1 : Int32))), (.int pt), (.int ((own_enc pt t (fun _ => fb)) 1))])) (fun tt_ kk_ => XS.iload X21.here hx rfl (hb hby at_241) rfl kk_) ?_
    refine Ends.to (T' := T21) (g' := (mkF m 244 #[.val (.int p1), .val (.int p2), .val (.int p3), .val (.int p4), .val (.int k), .val (.int r), .val (.int pt), .val (.int (k + (1 : Int32))), .val (.int (Int32.ofNat t)), .val (.int fb), .val (.ref b1), .val (.int (Int32.ofNat (t + own_len pt))), .val (.int (1 : Int32))] [(.int (1 : Int32)), (.int fb), (.int (Int32.ofNat t)), (.int (k + (1 : Int32))), (.int pt), (.int ((own_enc pt t (fun _ => fb)) 1))])) (fun tt_ kk_ => XS.iconst X21.here hx rfl (hb hby at_243) kk_) ?_
    obtain ⟨_, _, ⟨T22, L22, k22, n22⟩, -, X22, ⟨Lc22, hQ22, l22, y22, z22⟩, st22⟩ := Jvm.LawKit.callS X21 hx (y := (⟨"com/example/predicate/predicate/document/Utf8EncodePinLaw", "expected", "(IIIBI)B"⟩ : MethodName)) hown (mvT hZ (hw _ (List.mem_of_getElem? (i := 6) rfl))) (mvT hZ (hw _ (List.mem_of_getElem? (i := 7) rfl))) (mvT hZ (hw _ (List.mem_of_getElem? (i := 8) rfl))) (mvT hZ (hw _ (List.mem_of_getElem? (i := 9) rfl))) (by decide) (backOf (W := 1) (rm2 l Z a0 hw [] pt (k + (1 : Int32)) (Int32.ofNat t) fb (1 : Int32) T20.heap n0 Zs) hZ (hw _ (List.mem_of_getElem? (i := 9) rfl)) (hw _ (List.mem_of_getElem? (i := 8) rfl)) (by decide) (by decide)) (g := (mkF m 244 #[.val (.int p1), .val (.int p2), .val (.int p3), .val (.int p4), .val (.int k), .val (.int r), .val (.int pt), .val (.int (k + (1 : Int32))), .val (.int (Int32.ofNat t)), .val (.int fb), .val (.ref b1), .val (.int (Int32.ofNat (t + own_len pt))), .val (.int (1 : Int32))] [(.int (1 : Int32)), (.int fb), (.int (Int32.ofNat t)), (.int (k + (1 : Int32))), (.int pt), (.int ((own_enc pt t (fun _ => fb)) 1))])) rfl (by rw [hml]; rfl) (argsL := [(.int pt), (.int (k + (1 : Int32))), (.int (Int32.ofNat t)), (.int fb), (.int (1 : Int32))]) (rest := [(.int ((own_enc pt t (fun _ => fb)) 1))]) (lenOf pd_2 rfl) rfl (by show 2 * 0 + _ ≤ _; exact Nat.le_of_eq rfl) (hb hby at_244) (fun _ _ => ⟨rfl, e21q, (by decide : 1 + 0 ≤ _), (by decide : 8 + 0 ≤ _)⟩)
    dsimp only [Pt.U, Pt.locs, Pt.cells, Pt.slots] at X22 l22 y22 z22 st22 hQ22
    subst l22 y22 z22
    obtain ⟨rfl, N22q, e22q⟩ := hQ22
    have N22 := Fr.app N21 N22q
    refine Ends.to (T' := T22) (g' := (mkF m 247 #[.val (.int p1), .val (.int p2), .val (.int p3), .val (.int p4), .val (.int k), .val (.int r), .val (.int pt), .val (.int (k + (1 : Int32))), .val (.int (Int32.ofNat t)), .val (.int fb), .val (.ref b1), .val (.int (Int32.ofNat (t + own_len pt))), .val (.int (1 : Int32))] [(.int (own_ex pt (k + (1 : Int32)) ((1 : Int32) - (Int32.ofNat t)) fb)), (.int ((own_enc pt t (fun _ => fb)) 1))])) (fun tt_ kk_ => st22 tt_ kk_) ?_
    refine Ends.to (T' := T22) (g' := (mkF m 250 #[.val (.int p1), .val (.int p2), .val (.int p3), .val (.int p4), .val (.int k), .val (.int r), .val (.int pt), .val (.int (k + (1 : Int32))), .val (.int (Int32.ofNat t)), .val (.int fb), .val (.ref b1), .val (.int (Int32.ofNat (t + own_len pt))), .val (.int (1 : Int32))] [])) (fun tt_ kk_ => XS.icmpNo X22.here hx rfl (hb hby at_247) rfl (teq (own_same hk ht hfb 1 (by decide))).2 kk_) ?_
    refine Ends.to (T' := T22) (g' := (mkF m 251 #[.val (.int p1), .val (.int p2), .val (.int p3), .val (.int p4), .val (.int k), .val (.int r), .val (.int pt), .val (.int (k + (1 : Int32))), .val (.int (Int32.ofNat t)), .val (.int fb), .val (.ref b1), .val (.int (Int32.ofNat (t + own_len pt))), .val (.int (1 : Int32))] [(.int (1 : Int32))])) (fun tt_ kk_ => XS.iconst X22.here hx rfl (hb hby at_250) kk_) ?_
    refine Ends.to (T' := T22) (g' := (mkF m 255 #[.val (.int p1), .val (.int p2), .val (.int p3), .val (.int p4), .val (.int k), .val (.int r), .val (.int pt), .val (.int (k + (1 : Int32))), .val (.int (Int32.ofNat t)), .val (.int fb), .val (.ref b1), .val (.int (Int32.ofNat (t + own_len pt))), .val (.int (1 : Int32))] [(.int (1 : Int32))])) (fun tt_ kk_ => XS.goto X22.here hx rfl (pc0 := 251) (pc' := 255) rfl (hb hby at_251) (by decide) (by decide) kk_) ?_
    refine Ends.to (T' := T22) (g' := (mkF m 257 #[.val (.int p1), .val (.int p2), .val (.int p3), .val (.int p4), .val (.int k), .val (.int r), .val (.int pt), .val (.int (k + (1 : Int32))), .val (.int (Int32.ofNat t)), .val (.int fb), .val (.ref b1), .val (.int (Int32.ofNat (t + own_len pt))), .val (.int (1 : Int32))] [])) (fun tt_ kk_ => XS.istore X22.here hx rfl (hb hby at_255) rfl (l' := #[.val (.int p1), .val (.int p2), .val (.int p3), .val (.int p4), .val (.int k), .val (.int r), .val (.int pt), .val (.int (k + (1 : Int32))), .val (.int (Int32.ofNat t)), .val (.int fb), .val (.ref b1), .val (.int (Int32.ofNat (t + own_len pt))), .val (.int (1 : Int32))]) rfl kk_) ?_
    refine Ends.to (T' := T22) (g' := (mkF m 259 #[.val (.int p1), .val (.int p2), .val (.int p3), .val (.int p4), .val (.int k), .val (.int r), .val (.int pt), .val (.int (k + (1 : Int32))), .val (.int (Int32.ofNat t)), .val (.int fb), .val (.ref b1), .val (.int (Int32.ofNat (t + own_len pt))), .val (.int (1 : Int32))] [(.int (1 : Int32))])) (fun tt_ kk_ => XS.iload X22.here hx rfl (hb hby at_257) rfl kk_) ?_
    refine Ends.to (T' := T22) (g' := (mkF m 262 #[.val (.int p1), .val (.int p2), .val (.int p3), .val (.int p4), .val (.int k), .val (.int r), .val (.int pt), .val (.int (k + (1 : Int32))), .val (.int (Int32.ofNat t)), .val (.int fb), .val (.ref b1), .val (.int (Int32.ofNat (t + own_len pt))), .val (.int (1 : Int32))] [])) (fun tt_ kk_ => XS.ifNo X22.here hx rfl (hb hby at_259) rfl ((if0 _ _).trans (feq (by decide)).1) kk_) ?_
    refine Ends.to (T' := T22) (g' := (mkF m 264 #[.val (.int p1), .val (.int p2), .val (.int p3), .val (.int p4), .val (.int k), .val (.int r), .val (.int pt), .val (.int (k + (1 : Int32))), .val (.int (Int32.ofNat t)), .val (.int fb), .val (.ref b1), .val (.int (Int32.ofNat (t + own_len pt))), .val (.int (1 : Int32))] [(.ref b1)])) (fun tt_ kk_ => XS.aload X22.here hx rfl (hb hby at_262) rfl rfl kk_) ?_
    refine Ends.to (T' := T22) (g' := (mkF m 265 #[.val (.int p1), .val (.int p2), .val (.int p3), .val (.int p4), .val (.int k), .val (.int r), .val (.int pt), .val (.int (k + (1 : Int32))), .val (.int (Int32.ofNat t)), .val (.int fb), .val (.ref b1), .val (.int (Int32.ofNat (t + own_len pt))), .val (.int (1 : Int32))] [(.int (2 : Int32)), (.ref b1)])) (fun tt_ kk_ => XS.iconst X22.here hx rfl (hb hby at_264) kk_) ?_
    refine Ends.to (T' := T22) (g' := (mkF m 266 #[.val (.int p1), .val (.int p2), .val (.int p3), .val (.int p4), .val (.int k), .val (.int r), .val (.int pt), .val (.int (k + (1 : Int32))), .val (.int (Int32.ofNat t)), .val (.int fb), .val (.ref b1), .val (.int (Int32.ofNat (t + own_len pt))), .val (.int (1 : Int32))] [(.int ((own_enc pt t (fun _ => fb)) 2))])) (fun tt_ kk_ => BA.ldB X22 hx hZ e22q B_b1 (j := (2 : Int32)) (i := 2) (by decide) rfl (by decide) (g := (mkF m 265 #[.val (.int p1), .val (.int p2), .val (.int p3), .val (.int p4), .val (.int k), .val (.int r), .val (.int pt), .val (.int (k + (1 : Int32))), .val (.int (Int32.ofNat t)), .val (.int fb), .val (.ref b1), .val (.int (Int32.ofNat (t + own_len pt))), .val (.int (1 : Int32))] [(.int (2 : Int32)), (.ref b1)])) rfl rfl (hb hby at_265) tt_ kk_) ?_
    refine Ends.to (T' := T22) (g' := (mkF m 268 #[.val (.int p1), .val (.int p2), .val (.int p3), .val (.int p4), .val (.int k), .val (.int r), .val (.int pt), .val (.int (k + (1 : Int32))), .val (.int (Int32.ofNat t)), .val (.int fb), .val (.ref b1), .val (.int (Int32.ofNat (t + own_len pt))), .val (.int (1 : Int32))] [(.int pt), (.int ((own_enc pt t (fun _ => fb)) 2))])) (fun tt_ kk_ => XS.iload X22.here hx rfl (hb hby at_266) rfl kk_) ?_
    refine Ends.to (T' := T22) (g' := (mkF m 270 #[.val (.int p1), .val (.int p2), .val (.int p3), .val (.int p4), .val (.int k), .val (.int r), .val (.int pt), .val (.int (k + (1 : Int32))), .val (.int (Int32.ofNat t)), .val (.int fb), .val (.ref b1), .val (.int (Int32.ofNat (t + own_len pt))), .val (.int (1 : Int32))] [(.int (k + (1 : Int32))), (.int pt), (.int ((own_enc pt t (fun _ => fb)) 2))])) (fun tt_ kk_ => XS.iload X22.here hx rfl (hb hby at_268) rfl kk_) ?_
    refine Ends.to (T' := T22) (g' := (mkF m 272 #[.val (.int p1), .val (.int p2), .val (.int p3), .val (.int p4), .val (.int k), .val (.int r), .val (.int pt), .val (.int (k + (1 : Int32))), .val (.int (Int32.ofNat t)), .val (.int fb), .val (.ref b1), .val (.int (Int32.ofNat (t + own_len pt))), .val (.int (1 : Int32))] [(.int (Int32.ofNat t)), (.int (k + (1 : Int32))), (.int pt), (.int ((own_enc pt t (fun _ => fb)) 2))])) (fun tt_ kk_ => XS.iload X22.here hx rfl (hb hby at_270) rfl kk_) ?_
    refine Ends.to (T' := T22) (g' := (mkF m 274 #[.val (.int p1), .val (.int p2), .val (.int p3), .val (.int p4), .val (.int k), .val (.int r), .val (.int pt), .val (.int (k + (1 : Int32))), .val (.int (Int32.ofNat t)), .val (.int fb), .val (.ref b1), .val (.int (Int32.ofNat (t + own_len pt))), .val (.int (1 : Int32))] [(.int fb), (.int (Int32.ofNat t)), (.int (k + (1 : Int32))), (.int pt), (.int ((own_enc pt t (fun _ => fb)) 2))])) (fun tt_ kk_ => XS.iload X22.here hx rfl (hb hby at_272) rfl kk_) ?_
    refine Ends.to (T' := T22) (g' := (mkF m 275 #[.val (.int p1), .val (.int p2), .val (.int p3), .val (.int p4), .val (.int k), .val (.int r), .val (.int pt), .val (.int (k + (1 : Int32))), .val (.int (Int32.ofNat t)), .val (.int fb), .val (.ref b1), .val (.int (Int32.ofNat (t + own_len pt))), .val (.int (1 : Int32))] [(.int (2 : Int32)), (.int fb), (.int (Int32.ofNat t)), (.int (k + (1 : Int32))), (.int pt), (.int ((own_enc pt t (fun _ => fb)) 2))])) (fun tt_ kk_ => XS.iconst X22.here hx rfl (hb hby at_274) kk_) ?_
    obtain ⟨_, _, ⟨T23, L23, k23, n23⟩, -, X23, ⟨Lc23, hQ23, l23, y23, z23⟩, st23⟩ := Jvm.LawKit.callS X22 hx (y := (⟨"com/example/predicate/predicate/document/Utf8EncodePinLaw", "expected", "(IIIBI)B"⟩ : MethodName)) hown (mvT hZ (hw _ (List.mem_of_getElem? (i := 6) rfl))) (mvT hZ (hw _ (List.mem_of_getElem? (i := 7) rfl))) (mvT hZ (hw _ (List.mem_of_getElem? (i := 8) rfl))) (mvT hZ (hw _ (List.mem_of_getElem? (i := 9) rfl))) (by decide) (backOf (W := 1) (rm2 l Z a0 hw [] pt (k + (1 : Int32)) (Int32.ofNat t) fb (2 : Int32) T20.heap n0 Zs) hZ (hw _ (List.mem_of_getElem? (i := 9) rfl)) (hw _ (List.mem_of_getElem? (i := 8) rfl)) (by decide) (by decide)) (g := (mkF m 275 #[.val (.int p1), .val (.int p2), .val (.int p3), .val (.int p4), .val (.int k), .val (.int r), .val (.int pt), .val (.int (k + (1 : Int32))), .val (.int (Int32.ofNat t)), .val (.int fb), .val (.ref b1), .val (.int (Int32.ofNat (t + own_len pt))), .val (.int (1 : Int32))] [(.int (2 : Int32)), (.int fb), (.int (Int32.ofNat t)), (.int (k + (1 : Int32))), (.int pt), (.int ((own_enc pt t (fun _ => fb)) 2))])) rfl (by rw [hml]; rfl) (argsL := [(.int pt), (.int (k + (1 : Int32))), (.int (Int32.ofNat t)), (.int fb), (.int (2 : Int32))]) (rest := [(.int ((own_enc pt t (fun _ => fb)) 2))]) (lenOf pd_2 rfl) rfl (by show 2 * 0 + _ ≤ _; exact Nat.le_of_eq rfl) (hb hby at_275) (fun _ _ => ⟨rfl, e22q, (by decide : 1 + 0 ≤ _), (by decide : 8 + 0 ≤ _)⟩)
    dsimp only [Pt.U, Pt.locs, Pt.cells, Pt.slots] at X23 l23 y23 z23 st23 hQ23
    subst l23 y23 z23
    obtain ⟨rfl, N23q, e23q⟩ := hQ23
    have N23 := Fr.app N22 N23q
    refine Ends.to (T' := T23) (g' := (mkF m 278 #[.val (.int p1), .val (.int p2), .val (.int p3), .val (.int p4), .val (.int k), .val (.int r), .val (.int pt), .val (.int (k + (1 : Int32))), .val (.int (Int32.ofNat t)), .val (.int fb), .val (.ref b1), .val (.int (Int32.ofNat (t + own_len pt))), .val (.int (1 : Int32))] [(.int (own_ex pt (k + (1 : Int32)) ((2 : Int32) - (Int32.ofNat t)) fb)), (.int ((own_enc pt t (fun _ => fb)) 2))])) (fun tt_ kk_ => st23 tt_ kk_) ?_
    refine Ends.to (T' := T23) (g' := (mkF m 281 #[.val (.int p1), .val (.int p2), .val (.int p3), .val (.int p4), .val (.int k), .val (.int r), .val (.int pt), .val (.int (k + (1 : Int32))), .val (.int (Int32.ofNat t)), .val (.int fb), .val (.ref b1), .val (.int (Int32.ofNat (t + own_len pt))), .val (.int (1 : Int32))] [])) (fun tt_ kk_ => XS.icmpNo X23.here hx rfl (hb hby at_278) rfl (teq (own_same hk ht hfb 2 (by decide))).2 kk_) ?_
    refine Ends.to (T' := T23) (g' := (mkF m 282 #[.val (.int p1), .val (.int p2), .val (.int p3), .val (.int p4), .val (.int k), .val (.int r), .val (.int pt), .val (.int (k + (1 : Int32))), .val (.int (Int32.ofNat t)), .val (.int fb), .val (.ref b1), .val (.int (Int32.ofNat (t + own_len pt))), .val (.int (1 : Int32))] [(.int (1 : Int32))])) (fun tt_ kk_ => XS.iconst X23.here hx rfl (hb hby at_281) kk_) ?_
    refine Ends.to (T' := T23) (g' := (mkF m 286 #[.val (.int p1), .val (.int p2), .val (.int p3), .val (.int p4), .val (.int k), .val (.int r), .val (.int pt), .val (.int (k + (1 : Int32))), .val (.int (Int32.ofNat t)), .val (.int fb), .val (.ref b1), .val (.int (Int32.ofNat (t + own_len pt))), .val (.int (1 : Int32))] [(.int (1 : Int32))])) (fun tt_ kk_ => XS.goto X23.here hx rfl (pc0 := 282) (pc' := 286) rfl (hb hby at_282) (by decide) (by decide) kk_) ?_
    refine Ends.to (T' := T23) (g' := (mkF m 288 #[.val (.int p1), .val (.int p2), .val (.int p3), .val (.int p4), .val (.int k), .val (.int r), .val (.int pt), .val (.int (k + (1 : Int32))), .val (.int (Int32.ofNat t)), .val (.int fb), .val (.ref b1), .val (.int (Int32.ofNat (t + own_len pt))), .val (.int (1 : Int32))] [])) (fun tt_ kk_ => XS.istore X23.here hx rfl (hb hby at_286) rfl (l' := #[.val (.int p1), .val (.int p2), .val (.int p3), .val (.int p4), .val (.int k), .val (.int r), .val (.int pt), .val (.int (k + (1 : Int32))), .val (.int (Int32.ofNat t)), .val (.int fb), .val (.ref b1), .val (.int (Int32.ofNat (t + own_len pt))), .val (.int (1 : Int32))]) rfl kk_) ?_
    refine Ends.to (T' := T23) (g' := (mkF m 290 #[.val (.int p1), .val (.int p2), .val (.int p3), .val (.int p4), .val (.int k), .val (.int r), .val (.int pt), .val (.int (k + (1 : Int32))), .val (.int (Int32.ofNat t)), .val (.int fb), .val (.ref b1), .val (.int (Int32.ofNat (t + own_len pt))), .val (.int (1 : Int32))] [(.int (1 : Int32))])) (fun tt_ kk_ => XS.iload X23.here hx rfl (hb hby at_288) rfl kk_) ?_
    refine Ends.to (T' := T23) (g' := (mkF m 293 #[.val (.int p1), .val (.int p2), .val (.int p3), .val (.int p4), .val (.int k), .val (.int r), .val (.int pt), .val (.int (k + (1 : Int32))), .val (.int (Int32.ofNat t)), .val (.int fb), .val (.ref b1), .val (.int (Int32.ofNat (t + own_len pt))), .val (.int (1 : Int32))] [])) (fun tt_ kk_ => XS.ifNo X23.here hx rfl (hb hby at_290) rfl ((if0 _ _).trans (feq (by decide)).1) kk_) ?_
    refine Ends.to (T' := T23) (g' := (mkF m 295 #[.val (.int p1), .val (.int p2), .val (.int p3), .val (.int p4), .val (.int k), .val (.int r), .val (.int pt), .val (.int (k + (1 : Int32))), .val (.int (Int32.ofNat t)), .val (.int fb), .val (.ref b1), .val (.int (Int32.ofNat (t + own_len pt))), .val (.int (1 : Int32))] [(.ref b1)])) (fun tt_ kk_ => XS.aload X23.here hx rfl (hb hby at_293) rfl rfl kk_) ?_
    refine Ends.to (T' := T23) (g' := (mkF m 296 #[.val (.int p1), .val (.int p2), .val (.int p3), .val (.int p4), .val (.int k), .val (.int r), .val (.int pt), .val (.int (k + (1 : Int32))), .val (.int (Int32.ofNat t)), .val (.int fb), .val (.ref b1), .val (.int (Int32.ofNat (t + own_len pt))), .val (.int (1 : Int32))] [(.int (3 : Int32)), (.ref b1)])) (fun tt_ kk_ => XS.iconst X23.here hx rfl (hb hby at_295) kk_) ?_
    refine Ends.to (T' := T23) (g' := (mkF m 297 #[.val (.int p1), .val (.int p2), .val (.int p3), .val (.int p4), .val (.int k), .val (.int r), .val (.int pt), .val (.int (k + (1 : Int32))), .val (.int (Int32.ofNat t)), .val (.int fb), .val (.ref b1), .val (.int (Int32.ofNat (t + own_len pt))), .val (.int (1 : Int32))] [(.int ((own_enc pt t (fun _ => fb)) 3))])) (fun tt_ kk_ => BA.ldB X23 hx hZ e23q B_b1 (j := (3 : Int32)) (i := 3) (by decide) rfl (by decide) (g := (mkF m 296 #[.val (.int p1), .val (.int p2), .val (.int p3), .val (.int p4), .val (.int k), .val (.int r), .val (.int pt), .val (.int (k + (1 : Int32))), .val (.int (Int32.ofNat t)), .val (.int fb), .val (.ref b1), .val (.int (Int32.ofNat (t + own_len pt))), .val (.int (1 : Int32))] [(.int (3 : Int32)), (.ref b1)])) rfl rfl (hb hby at_296) tt_ kk_) ?_
    refine Ends.to (T' := T23) (g' := (mkF m 299 #[.val (.int p1), .val (.int p2), .val (.int p3), .val (.int p4), .val (.int k), .val (.int r), .val (.int pt), .val (.int (k + (1 : Int32))), .val (.int (Int32.ofNat t)), .val (.int fb), .val (.ref b1), .val (.int (Int32.ofNat (t + own_len pt))), .val (.int (1 : Int32))] [(.int pt), (.int ((own_enc pt t (fun _ => fb)) 3))])) (fun tt_ kk_ => XS.iload X23.here hx rfl (hb hby at_297) rfl kk_) ?_
    refine Ends.to (T' := T23) (g' := (mkF m 301 #[.val (.int p1), .val (.int p2), .val (.int p3), .val (.int p4), .val (.int k), .val (.int r), .val (.int pt), .val (.int (k + (1 : Int32))), .val (.int (Int32.ofNat t)), .val (.int fb), .val (.ref b1), .val (.int (Int32.ofNat (t + own_len pt))), .val (.int (1 : Int32))] [(.int (k + (1 : Int32))), (.int pt), (.int ((own_enc pt t (fun _ => fb)) 3))])) (fun tt_ kk_ => XS.iload X23.here hx rfl (hb hby at_299) rfl kk_) ?_
    refine Ends.to (T' := T23) (g' := (mkF m 303 #[.val (.int p1), .val (.int p2), .val (.int p3), .val (.int p4), .val (.int k), .val (.int r), .val (.int pt), .val (.int (k + (1 : Int32))), .val (.int (Int32.ofNat t)), .val (.int fb), .val (.ref b1), .val (.int (Int32.ofNat (t + own_len pt))), .val (.int (1 : Int32))] [(.int (Int32.ofNat t)), (.int (k + (1 : Int32))), (.int pt), (.int ((own_enc pt t (fun _ => fb)) 3))])) (fun tt_ kk_ => XS.iload X23.here hx rfl (hb hby at_301) rfl kk_) ?_
    refine Ends.to (T' := T23) (g' := (mkF m 305 #[.val (.int p1), .val (.int p2), .val (.int p3), .val (.int p4), .val (.int k), .val (.int r), .val (.int pt), .val (.int (k + (1 : Int32))), .val (.int (Int32.ofNat t)), .val (.int fb), .val (.ref b1), .val (.int (Int32.ofNat (t + own_len pt))), .val (.int (1 : Int32))] [(.int fb), (.int (Int32.ofNat t)), (.int (k + (1 : Int32))), (.int pt), (.int ((own_enc pt t (fun _ => fb)) 3))])) (fun tt_ kk_ => XS.iload X23.here hx rfl (hb hby at_303) rfl kk_) ?_
    refine Ends.to (T' := T23) (g' := (mkF m 306 #[.val (.int p1), .val (.int p2), .val (.int p3), .val (.int p4), .val (.int k), .val (.int r), .val (.int pt), .val (.int (k + (1 : Int32))), .val (.int (Int32.ofNat t)), .val (.int fb), .val (.ref b1), .val (.int (Int32.ofNat (t + own_len pt))), .val (.int (1 : Int32))] [(.int (3 : Int32)), (.int fb), (.int (Int32.ofNat t)), (.int (k + (1 : Int32))), (.int pt), (.int ((own_enc pt t (fun _ => fb)) 3))])) (fun tt_ kk_ => XS.iconst X23.here hx rfl (hb hby at_305) kk_) ?_
    obtain ⟨_, _, ⟨T24, L24, k24, n24⟩, -, X24, ⟨Lc24, hQ24, l24, y24, z24⟩, st24⟩ := Jvm.LawKit.callS X23 hx (y := (⟨"com/example/predicate/predicate/document/Utf8EncodePinLaw", "expected", "(IIIBI)B"⟩ : MethodName)) hown (mvT hZ (hw _ (List.mem_of_getElem? (i := 6) rfl))) (mvT hZ (hw _ (List.mem_of_getElem? (i := 7) rfl))) (mvT hZ (hw _ (List.mem_of_getElem? (i := 8) rfl))) (mvT hZ (hw _ (List.mem_of_getElem? (i := 9) rfl))) (by decide) (backOf (W := 1) (rm2 l Z a0 hw [] pt (k + (1 : Int32)) (Int32.ofNat t) fb (3 : Int32) T20.heap n0 Zs) hZ (hw _ (List.mem_of_getElem? (i := 9) rfl)) (hw _ (List.mem_of_getElem? (i := 8) rfl)) (by decide) (by decide)) (g := (mkF m 306 #[.val (.int p1), .val (.int p2), .val (.int p3), .val (.int p4), .val (.int k), .val (.int r), .val (.int pt), .val (.int (k + (1 : Int32))), .val (.int (Int32.ofNat t)), .val (.int fb), .val (.ref b1), .val (.int (Int32.ofNat (t + own_len pt))), .val (.int (1 : Int32))] [(.int (3 : Int32)), (.int fb), (.int (Int32.ofNat t)), (.int (k + (1 : Int32))), (.int pt), (.int ((own_enc pt t (fun _ => fb)) 3))])) rfl (by rw [hml]; rfl) (argsL := [(.int pt), (.int (k + (1 : Int32))), (.int (Int32.ofNat t)), (.int fb), (.int (3 : Int32))]) (rest := [(.int ((own_enc pt t (fun _ => fb)) 3))]) (lenOf pd_2 rfl) rfl (by show 2 * 0 + _ ≤ _; exact Nat.le_of_eq rfl) (hb hby at_306) (fun _ _ => ⟨rfl, e23q, (by decide : 1 + 0 ≤ _), (by decide : 8 + 0 ≤ _)⟩)
    dsimp only [Pt.U, Pt.locs, Pt.cells, Pt.slots] at X24 l24 y24 z24 st24 hQ24
    subst l24 y24 z24
    obtain ⟨rfl, N24q, e24q⟩ := hQ24
    have N24 := Fr.app N23 N24q
    refine Ends.to (T' := T24) (g' := (mkF m 309 #[.val (.int p1), .val (.int p2), .val (.int p3), .val (.int p4), .val (.int k), .val (.int r), .val (.int pt), .val (.int (k + (1 : Int32))), .val (.int (Int32.ofNat t)), .val (.int fb), .val (.ref b1), .val (.int (Int32.ofNat (t + own_len pt))), .val (.int (1 : Int32))] [(.int (own_ex pt (k + (1 : Int32)) ((3 : Int32) - (Int32.ofNat t)) fb)), (.int ((own_enc pt t (fun _ => fb)) 3))])) (fun tt_ kk_ => st24 tt_ kk_) ?_
    refine Ends.to (T' := T24) (g' := (mkF m 312 #[.val (.int p1), .val (.int p2), .val (.int p3), .val (.int p4), .val (.int k), .val (.int r), .val (.int pt), .val (.int (k + (1 : Int32))), .val (.int (Int32.ofNat t)), .val (.int fb), .val (.ref b1), .val (.int (Int32.ofNat (t + own_len pt))), .val (.int (1 : Int32))] [])) (fun tt_ kk_ => XS.icmpNo X24.here hx rfl (hb hby at_309) rfl (teq (own_same hk ht hfb 3 (by decide))).2 kk_) ?_
    refine Ends.to (T' := T24) (g' := (mkF m 313 #[.val (.int p1), .val (.int p2), .val (.int p3), .val (.int p4), .val (.int k), .val (.int r), .val (.int pt), .val (.int (k + (1 : Int32))), .val (.int (Int32.ofNat t)), .val (.int fb), .val (.ref b1), .val (.int (Int32.ofNat (t + own_len pt))), .val (.int (1 : Int32))] [(.int (1 : Int32))])) (fun tt_ kk_ => XS.iconst X24.here hx rfl (hb hby at_312) kk_) ?_
    refine Ends.to (T' := T24) (g' := (mkF m 317 #[.val (.int p1), .val (.int p2), .val (.int p3), .val (.int p4), .val (.int k), .val (.int r), .val (.int pt), .val (.int (k + (1 : Int32))), .val (.int (Int32.ofNat t)), .val (.int fb), .val (.ref b1), .val (.int (Int32.ofNat (t + own_len pt))), .val (.int (1 : Int32))] [(.int (1 : Int32))])) (fun tt_ kk_ => XS.goto X24.here hx rfl (pc0 := 313) (pc' := 317) rfl (hb hby at_313) (by decide) (by decide) kk_) ?_
    refine Ends.to (T' := T24) (g' := (mkF m 319 #[.val (.int p1), .val (.int p2), .val (.int p3), .val (.int p4), .val (.int k), .val (.int r), .val (.int pt), .val (.int (k + (1 : Int32))), .val (.int (Int32.ofNat t)), .val (.int fb), .val (.ref b1), .val (.int (Int32.ofNat (t + own_len pt))), .val (.int (1 : Int32))] [])) (fun tt_ kk_ => XS.istore X24.here hx rfl (hb hby at_317) rfl (l' := #[.val (.int p1), .val (.int p2), .val (.int p3), .val (.int p4), .val (.int k), .val (.int r), .val (.int pt), .val (.int (k + (1 : Int32))), .val (.int (Int32.ofNat t)), .val (.int fb), .val (.ref b1), .val (.int (Int32.ofNat (t + own_len pt))), .val (.int (1 : Int32))]) rfl kk_) ?_
    refine Ends.to (T' := T24) (g' := (mkF m 321 #[.val (.int p1), .val (.int p2), .val (.int p3), .val (.int p4), .val (.int k), .val (.int r), .val (.int pt), .val (.int (k + (1 : Int32))), .val (.int (Int32.ofNat t)), .val (.int fb), .val (.ref b1), .val (.int (Int32.ofNat (t + own_len pt))), .val (.int (1 : Int32))] [(.int (1 : Int32))])) (fun tt_ kk_ => XS.iload X24.here hx rfl (hb hby at_319) rfl kk_) ?_
    refine Ends.to (T' := T24) (g' := (mkF m 324 #[.val (.int p1), .val (.int p2), .val (.int p3), .val (.int p4), .val (.int k), .val (.int r), .val (.int pt), .val (.int (k + (1 : Int32))), .val (.int (Int32.ofNat t)), .val (.int fb), .val (.ref b1), .val (.int (Int32.ofNat (t + own_len pt))), .val (.int (1 : Int32))] [])) (fun tt_ kk_ => XS.ifNo X24.here hx rfl (hb hby at_321) rfl ((if0 _ _).trans (feq (by decide)).1) kk_) ?_
    refine Ends.to (T' := T24) (g' := (mkF m 326 #[.val (.int p1), .val (.int p2), .val (.int p3), .val (.int p4), .val (.int k), .val (.int r), .val (.int pt), .val (.int (k + (1 : Int32))), .val (.int (Int32.ofNat t)), .val (.int fb), .val (.ref b1), .val (.int (Int32.ofNat (t + own_len pt))), .val (.int (1 : Int32))] [(.ref b1)])) (fun tt_ kk_ => XS.aload X24.here hx rfl (hb hby at_324) rfl rfl kk_) ?_
    refine Ends.to (T' := T24) (g' := (mkF m 327 #[.val (.int p1), .val (.int p2), .val (.int p3), .val (.int p4), .val (.int k), .val (.int r), .val (.int pt), .val (.int (k + (1 : Int32))), .val (.int (Int32.ofNat t)), .val (.int fb), .val (.ref b1), .val (.int (Int32.ofNat (t + own_len pt))), .val (.int (1 : Int32))] [(.int (4 : Int32)), (.ref b1)])) (fun tt_ kk_ => XS.iconst X24.here hx rfl (hb hby at_326) kk_) ?_
    refine Ends.to (T' := T24) (g' := (mkF m 328 #[.val (.int p1), .val (.int p2), .val (.int p3), .val (.int p4), .val (.int k), .val (.int r), .val (.int pt), .val (.int (k + (1 : Int32))), .val (.int (Int32.ofNat t)), .val (.int fb), .val (.ref b1), .val (.int (Int32.ofNat (t + own_len pt))), .val (.int (1 : Int32))] [(.int ((own_enc pt t (fun _ => fb)) 4))])) (fun tt_ kk_ => BA.ldB X24 hx hZ e24q B_b1 (j := (4 : Int32)) (i := 4) (by decide) rfl (by decide) (g := (mkF m 327 #[.val (.int p1), .val (.int p2), .val (.int p3), .val (.int p4), .val (.int k), .val (.int r), .val (.int pt), .val (.int (k + (1 : Int32))), .val (.int (Int32.ofNat t)), .val (.int fb), .val (.ref b1), .val (.int (Int32.ofNat (t + own_len pt))), .val (.int (1 : Int32))] [(.int (4 : Int32)), (.ref b1)])) rfl rfl (hb hby at_327) tt_ kk_) ?_
    refine Ends.to (T' := T24) (g' := (mkF m 330 #[.val (.int p1), .val (.int p2), .val (.int p3), .val (.int p4), .val (.int k), .val (.int r), .val (.int pt), .val (.int (k + (1 : Int32))), .val (.int (Int32.ofNat t)), .val (.int fb), .val (.ref b1), .val (.int (Int32.ofNat (t + own_len pt))), .val (.int (1 : Int32))] [(.int pt), (.int ((own_enc pt t (fun _ => fb)) 4))])) (fun tt_ kk_ => XS.iload X24.here hx rfl (hb hby at_328) rfl kk_) ?_
    refine Ends.to (T' := T24) (g' := (mkF m 332 #[.val (.int p1), .val (.int p2), .val (.int p3), .val (.int p4), .val (.int k), .val (.int r), .val (.int pt), .val (.int (k + (1 : Int32))), .val (.int (Int32.ofNat t)), .val (.int fb), .val (.ref b1), .val (.int (Int32.ofNat (t + own_len pt))), .val (.int (1 : Int32))] [(.int (k + (1 : Int32))), (.int pt), (.int ((own_enc pt t (fun _ => fb)) 4))])) (fun tt_ kk_ => XS.iload X24.here hx rfl (hb hby at_330) rfl kk_) ?_
    refine Ends.to (T' := T24) (g' := (mkF m 334 #[.val (.int p1), .val (.int p2), .val (.int p3), .val (.int p4), .val (.int k), .val (.int r), .val (.int pt), .val (.int (k + (1 : Int32))), .val (.int (Int32.ofNat t)), .val (.int fb), .val (.ref b1), .val (.int (Int32.ofNat (t + own_len pt))), .val (.int (1 : Int32))] [(.int (Int32.ofNat t)), (.int (k + (1 : Int32))), (.int pt), (.int ((own_enc pt t (fun _ => fb)) 4))])) (fun tt_ kk_ => XS.iload X24.here hx rfl (hb hby at_332) rfl kk_) ?_
    refine Ends.to (T' := T24) (g' := (mkF m 336 #[.val (.int p1), .val (.int p2), .val (.int p3), .val (.int p4), .val (.int k), .val (.int r), .val (.int pt), .val (.int (k + (1 : Int32))), .val (.int (Int32.ofNat t)), .val (.int fb), .val (.ref b1), .val (.int (Int32.ofNat (t + own_len pt))), .val (.int (1 : Int32))] [(.int fb), (.int (Int32.ofNat t)), (.int (k + (1 : Int32))), (.int pt), (.int ((own_enc pt t (fun _ => fb)) 4))])) (fun tt_ kk_ => XS.iload X24.here hx rfl (hb hby at_334) rfl kk_) ?_
    refine Ends.to (T' := T24) (g' := (mkF m 337 #[.val (.int p1), .val (.int p2), .val (.int p3), .val (.int p4), .val (.int k), .val (.int r), .val (.int pt), .val (.int (k + (1 : Int32))), .val (.int (Int32.ofNat t)), .val (.int fb), .val (.ref b1), .val (.int (Int32.ofNat (t + own_len pt))), .val (.int (1 : Int32))] [(.int (4 : Int32)), (.int fb), (.int (Int32.ofNat t)), (.int (k + (1 : Int32))), (.int pt), (.int ((own_enc pt t (fun _ => fb)) 4))])) (fun tt_ kk_ => XS.iconst X24.here hx rfl (hb hby at_336) kk_) ?_
    obtain ⟨_, _, ⟨T25, L25, k25, n25⟩, -, X25, ⟨Lc25, hQ25, l25, y25, z25⟩, st25⟩ := Jvm.LawKit.callS X24 hx (y := (⟨"com/example/predicate/predicate/document/Utf8EncodePinLaw", "expected", "(IIIBI)B"⟩ : MethodName)) hown (mvT hZ (hw _ (List.mem_of_getElem? (i := 6) rfl))) (mvT hZ (hw _ (List.mem_of_getElem? (i := 7) rfl))) (mvT hZ (hw _ (List.mem_of_getElem? (i := 8) rfl))) (mvT hZ (hw _ (List.mem_of_getElem? (i := 9) rfl))) (by decide) (backOf (W := 1) (rm2 l Z a0 hw [] pt (k + (1 : Int32)) (Int32.ofNat t) fb (4 : Int32) T20.heap n0 Zs) hZ (hw _ (List.mem_of_getElem? (i := 9) rfl)) (hw _ (List.mem_of_getElem? (i := 8) rfl)) (by decide) (by decide)) (g := (mkF m 337 #[.val (.int p1), .val (.int p2), .val (.int p3), .val (.int p4), .val (.int k), .val (.int r), .val (.int pt), .val (.int (k + (1 : Int32))), .val (.int (Int32.ofNat t)), .val (.int fb), .val (.ref b1), .val (.int (Int32.ofNat (t + own_len pt))), .val (.int (1 : Int32))] [(.int (4 : Int32)), (.int fb), (.int (Int32.ofNat t)), (.int (k + (1 : Int32))), (.int pt), (.int ((own_enc pt t (fun _ => fb)) 4))])) rfl (by rw [hml]; rfl) (argsL := [(.int pt), (.int (k + (1 : Int32))), (.int (Int32.ofNat t)), (.int fb), (.int (4 : Int32))]) (rest := [(.int ((own_enc pt t (fun _ => fb)) 4))]) (lenOf pd_2 rfl) rfl (by show 2 * 0 + _ ≤ _; exact Nat.le_of_eq rfl) (hb hby at_337) (fun _ _ => ⟨rfl, e24q, (by decide : 1 + 0 ≤ _), (by decide : 8 + 0 ≤ _)⟩)
    dsimp only [Pt.U, Pt.locs, Pt.cells, Pt.slots] at X25 l25 y25 z25 st25 hQ25
    subst l25 y25 z25
    obtain ⟨rfl, N25q, e25q⟩ := hQ25
    have N25 := Fr.app N24 N25q
    refine Ends.to (T' := T25) (g' := (mkF m 340 #[.val (.int p1), .val (.int p2), .val (.int p3), .val (.int p4), .val (.int k), .val (.int r), .val (.int pt), .val (.int (k + (1 : Int32))), .val (.int (Int32.ofNat t)), .val (.int fb), .val (.ref b1), .val (.int (Int32.ofNat (t + own_len pt))), .val (.int (1 : Int32))] [(.int (own_ex pt (k + (1 : Int32)) ((4 : Int32) - (Int32.ofNat t)) fb)), (.int ((own_enc pt t (fun _ => fb)) 4))])) (fun tt_ kk_ => st25 tt_ kk_) ?_
    refine Ends.to (T' := T25) (g' := (mkF m 343 #[.val (.int p1), .val (.int p2), .val (.int p3), .val (.int p4), .val (.int k), .val (.int r), .val (.int pt), .val (.int (k + (1 : Int32))), .val (.int (Int32.ofNat t)), .val (.int fb), .val (.ref b1), .val (.int (Int32.ofNat (t + own_len pt))), .val (.int (1 : Int32))] [])) (fun tt_ kk_ => XS.icmpNo X25.here hx rfl (hb hby at_340) rfl (teq (own_same hk ht hfb 4 (by decide))).2 kk_) ?_
    refine Ends.to (T' := T25) (g' := (mkF m 344 #[.val (.int p1), .val (.int p2), .val (.int p3), .val (.int p4), .val (.int k), .val (.int r), .val (.int pt), .val (.int (k + (1 : Int32))), .val (.int (Int32.ofNat t)), .val (.int fb), .val (.ref b1), .val (.int (Int32.ofNat (t + own_len pt))), .val (.int (1 : Int32))] [(.int (1 : Int32))])) (fun tt_ kk_ => XS.iconst X25.here hx rfl (hb hby at_343) kk_) ?_
    refine Ends.to (T' := T25) (g' := (mkF m 348 #[.val (.int p1), .val (.int p2), .val (.int p3), .val (.int p4), .val (.int k), .val (.int r), .val (.int pt), .val (.int (k + (1 : Int32))), .val (.int (Int32.ofNat t)), .val (.int fb), .val (.ref b1), .val (.int (Int32.ofNat (t + own_len pt))), .val (.int (1 : Int32))] [(.int (1 : Int32))])) (fun tt_ kk_ => XS.goto X25.here hx rfl (pc0 := 344) (pc' := 348) rfl (hb hby at_344) (by decide) (by decide) kk_) ?_
    refine Ends.to (T' := T25) (g' := (mkF m 350 #[.val (.int p1), .val (.int p2), .val (.int p3), .val (.int p4), .val (.int k), .val (.int r), .val (.int pt), .val (.int (k + (1 : Int32))), .val (.int (Int32.ofNat t)), .val (.int fb), .val (.ref b1), .val (.int (Int32.ofNat (t + own_len pt))), .val (.int (1 : Int32))] [])) (fun tt_ kk_ => XS.istore X25.here hx rfl (hb hby at_348) rfl (l' := #[.val (.int p1), .val (.int p2), .val (.int p3), .val (.int p4), .val (.int k), .val (.int r), .val (.int pt), .val (.int (k + (1 : Int32))), .val (.int (Int32.ofNat t)), .val (.int fb), .val (.ref b1), .val (.int (Int32.ofNat (t + own_len pt))), .val (.int (1 : Int32))]) rfl kk_) ?_
    refine Ends.to (T' := T25) (g' := (mkF m 352 #[.val (.int p1), .val (.int p2), .val (.int p3), .val (.int p4), .val (.int k), .val (.int r), .val (.int pt), .val (.int (k + (1 : Int32))), .val (.int (Int32.ofNat t)), .val (.int fb), .val (.ref b1), .val (.int (Int32.ofNat (t + own_len pt))), .val (.int (1 : Int32))] [(.int (1 : Int32))])) (fun tt_ kk_ => XS.iload X25.here hx rfl (hb hby at_350) rfl kk_) ?_
    refine Ends.to (T' := T25) (g' := (mkF m 355 #[.val (.int p1), .val (.int p2), .val (.int p3), .val (.int p4), .val (.int k), .val (.int r), .val (.int pt), .val (.int (k + (1 : Int32))), .val (.int (Int32.ofNat t)), .val (.int fb), .val (.ref b1), .val (.int (Int32.ofNat (t + own_len pt))), .val (.int (1 : Int32))] [])) (fun tt_ kk_ => XS.ifNo X25.here hx rfl (hb hby at_352) rfl ((if0 _ _).trans (feq (by decide)).1) kk_) ?_
    refine Ends.to (T' := T25) (g' := (mkF m 357 #[.val (.int p1), .val (.int p2), .val (.int p3), .val (.int p4), .val (.int k), .val (.int r), .val (.int pt), .val (.int (k + (1 : Int32))), .val (.int (Int32.ofNat t)), .val (.int fb), .val (.ref b1), .val (.int (Int32.ofNat (t + own_len pt))), .val (.int (1 : Int32))] [(.ref b1)])) (fun tt_ kk_ => XS.aload X25.here hx rfl (hb hby at_355) rfl rfl kk_) ?_
    refine Ends.to (T' := T25) (g' := (mkF m 358 #[.val (.int p1), .val (.int p2), .val (.int p3), .val (.int p4), .val (.int k), .val (.int r), .val (.int pt), .val (.int (k + (1 : Int32))), .val (.int (Int32.ofNat t)), .val (.int fb), .val (.ref b1), .val (.int (Int32.ofNat (t + own_len pt))), .val (.int (1 : Int32))] [(.int (5 : Int32)), (.ref b1)])) (fun tt_ kk_ => XS.iconst X25.here hx rfl (hb hby at_357) kk_) ?_
    refine Ends.to (T' := T25) (g' := (mkF m 359 #[.val (.int p1), .val (.int p2), .val (.int p3), .val (.int p4), .val (.int k), .val (.int r), .val (.int pt), .val (.int (k + (1 : Int32))), .val (.int (Int32.ofNat t)), .val (.int fb), .val (.ref b1), .val (.int (Int32.ofNat (t + own_len pt))), .val (.int (1 : Int32))] [(.int ((own_enc pt t (fun _ => fb)) 5))])) (fun tt_ kk_ => BA.ldB X25 hx hZ e25q B_b1 (j := (5 : Int32)) (i := 5) (by decide) rfl (by decide) (g := (mkF m 358 #[.val (.int p1), .val (.int p2), .val (.int p3), .val (.int p4), .val (.int k), .val (.int r), .val (.int pt), .val (.int (k + (1 : Int32))), .val (.int (Int32.ofNat t)), .val (.int fb), .val (.ref b1), .val (.int (Int32.ofNat (t + own_len pt))), .val (.int (1 : Int32))] [(.int (5 : Int32)), (.ref b1)])) rfl rfl (hb hby at_358) tt_ kk_) ?_
    refine Ends.to (T' := T25) (g' := (mkF m 361 #[.val (.int p1), .val (.int p2), .val (.int p3), .val (.int p4), .val (.int k), .val (.int r), .val (.int pt), .val (.int (k + (1 : Int32))), .val (.int (Int32.ofNat t)), .val (.int fb), .val (.ref b1), .val (.int (Int32.ofNat (t + own_len pt))), .val (.int (1 : Int32))] [(.int pt), (.int ((own_enc pt t (fun _ => fb)) 5))])) (fun tt_ kk_ => XS.iload X25.here hx rfl (hb hby at_359) rfl kk_) ?_
    refine Ends.to (T' := T25) (g' := (mkF m 363 #[.val (.int p1), .val (.int p2), .val (.int p3), .val (.int p4), .val (.int k), .val (.int r), .val (.int pt), .val (.int (k + (1 : Int32))), .val (.int (Int32.ofNat t)), .val (.int fb), .val (.ref b1), .val (.int (Int32.ofNat (t + own_len pt))), .val (.int (1 : Int32))] [(.int (k + (1 : Int32))), (.int pt), (.int ((own_enc pt t (fun _ => fb)) 5))])) (fun tt_ kk_ => XS.iload X25.here hx rfl (hb hby at_361) rfl kk_) ?_
    refine Ends.to (T' := T25) (g' := (mkF m 365 #[.val (.int p1), .val (.int p2), .val (.int p3), .val (.int p4), .val (.int k), .val (.int r), .val (.int pt), .val (.int (k + (1 : Int32))), .val (.int (Int32.ofNat t)), .val (.int fb), .val (.ref b1), .val (.int (Int32.ofNat (t + own_len pt))), .val (.int (1 : Int32))] [(.int (Int32.ofNat t)), (.int (k + (1 : Int32))), (.int pt), (.int ((own_enc pt t (fun _ => fb)) 5))])) (fun tt_ kk_ => XS.iload X25.here hx rfl (hb hby at_363) rfl kk_) ?_
    refine Ends.to (T' := T25) (g' := (mkF m 367 #[.val (.int p1), .val (.int p2), .val (.int p3), .val (.int p4), .val (.int k), .val (.int r), .val (.int pt), .val (.int (k + (1 : Int32))), .val (.int (Int32.ofNat t)), .val (.int fb), .val (.ref b1), .val (.int (Int32.ofNat (t + own_len pt))), .val (.int (1 : Int32))] [(.int fb), (.int (Int32.ofNat t)), (.int (k + (1 : Int32))), (.int pt), (.int ((own_enc pt t (fun _ => fb)) 5))])) (fun tt_ kk_ => XS.iload X25.here hx rfl (hb hby at_365) rfl kk_) ?_
    refine Ends.to (T' := T25) (g' := (mkF m 368 #[.val (.int p1), .val (.int p2), .val (.int p3), .val (.int p4), .val (.int k), .val (.int r), .val (.int pt), .val (.int (k + (1 : Int32))), .val (.int (Int32.ofNat t)), .val (.int fb), .val (.ref b1), .val (.int (Int32.ofNat (t + own_len pt))), .val (.int (1 : Int32))] [(.int (5 : Int32)), (.int fb), (.int (Int32.ofNat t)), (.int (k + (1 : Int32))), (.int pt), (.int ((own_enc pt t (fun _ => fb)) 5))])) (fun tt_ kk_ => XS.iconst X25.here hx rfl (hb hby at_367) kk_) ?_
    obtain ⟨_, _, ⟨T26, L26, k26, n26⟩, -, X26, ⟨Lc26, hQ26, l26, y26, z26⟩, st26⟩ := Jvm.LawKit.callS X25 hx (y := (⟨"com/example/predicate/predicate/document/Utf8EncodePinLaw", "expected", "(IIIBI)B"⟩ : MethodName)) hown (mvT hZ (hw _ (List.mem_of_getElem? (i := 6) rfl))) (mvT hZ (hw _ (List.mem_of_getElem? (i := 7) rfl))) (mvT hZ (hw _ (List.mem_of_getElem? (i := 8) rfl))) (mvT hZ (hw _ (List.mem_of_getElem? (i := 9) rfl))) (by decide) (backOf (W := 1) (rm2 l Z a0 hw [] pt (k + (1 : Int32)) (Int32.ofNat t) fb (5 : Int32) T20.heap n0 Zs) hZ (hw _ (List.mem_of_getElem? (i := 9) rfl)) (hw _ (List.mem_of_getElem? (i := 8) rfl)) (by decide) (by decide)) (g := (mkF m 368 #[.val (.int p1), .val (.int p2), .val (.int p3), .val (.int p4), .val (.int k), .val (.int r), .val (.int pt), .val (.int (k + (1 : Int32))), .val (.int (Int32.ofNat t)), .val (.int fb), .val (.ref b1), .val (.int (Int32.ofNat (t + own_len pt))), .val (.int (1 : Int32))] [(.int (5 : Int32)), (.int fb), (.int (Int32.ofNat t)), (.int (k + (1 : Int32))), (.int pt), (.int ((own_enc pt t (fun _ => fb)) 5))])) rfl (by rw [hml]; rfl) (argsL := [(.int pt), (.int (k + (1 : Int32))), (.int (Int32.ofNat t)), (.int fb), (.int (5 : Int32))]) (rest := [(.int ((own_enc pt t (fun _ => fb)) 5))]) (lenOf pd_2 rfl) rfl (by show 2 * 0 + _ ≤ _; exact Nat.le_of_eq rfl) (hb hby at_368) (fun _ _ => ⟨rfl, e25q, (by decide : 1 + 0 ≤ _), (by decide : 8 + 0 ≤ _)⟩)
    dsimp only [Pt.U, Pt.locs, Pt.cells, Pt.slots] at X26 l26 y26 z26 st26 hQ26
    subst l26 y26 z26
    obtain ⟨rfl, N26q, e26q⟩ := hQ26
    have N26 := Fr.app N25 N26q
    refine Ends.to (T' := T26) (g' := (mkF m 371 #[.val (.int p1), .val (.int p2), .val (.int p3), .val (.int p4), .val (.int k), .val (.int r), .val (.int pt), .val (.int (k + (1 : Int32))), .val (.int (Int32.ofNat t)), .val (.int fb), .val (.ref b1), .val (.int (Int32.ofNat (t + own_len pt))), .val (.int (1 : Int32))] [(.int (own_ex pt (k + (1 : Int32)) ((5 : Int32) - (Int32.ofNat t)) fb)), (.int ((own_enc pt t (fun _ => fb)) 5))])) (fun tt_ kk_ => st26 tt_ kk_) ?_
    refine Ends.to (T' := T26) (g' := (mkF m 374 #[.val (.int p1), .val (.int p2), .val (.int p3), .val (.int p4), .val (.int k), .val (.int r), .val (.int pt), .val (.int (k + (1 : Int32))), .val (.int (Int32.ofNat t)), .val (.int fb), .val (.ref b1), .val (.int (Int32.ofNat (t + own_len pt))), .val (.int (1 : Int32))] [])) (fun tt_ kk_ => XS.icmpNo X26.here hx rfl (hb hby at_371) rfl (teq (own_same hk ht hfb 5 (by decide))).2 kk_) ?_
    refine Ends.to (T' := T26) (g' := (mkF m 375 #[.val (.int p1), .val (.int p2), .val (.int p3), .val (.int p4), .val (.int k), .val (.int r), .val (.int pt), .val (.int (k + (1 : Int32))), .val (.int (Int32.ofNat t)), .val (.int fb), .val (.ref b1), .val (.int (Int32.ofNat (t + own_len pt))), .val (.int (1 : Int32))] [(.int (1 : Int32))])) (fun tt_ kk_ => XS.iconst X26.here hx rfl (hb hby at_374) kk_) ?_
    refine Ends.to (T' := T26) (g' := (mkF m 379 #[.val (.int p1), .val (.int p2), .val (.int p3), .val (.int p4), .val (.int k), .val (.int r), .val (.int pt), .val (.int (k + (1 : Int32))), .val (.int (Int32.ofNat t)), .val (.int fb), .val (.ref b1), .val (.int (Int32.ofNat (t + own_len pt))), .val (.int (1 : Int32))] [(.int (1 : Int32))])) (fun tt_ kk_ => XS.goto X26.here hx rfl (pc0 := 375) (pc' := 379) rfl (hb hby at_375) (by decide) (by decide) kk_) ?_
    refine Ends.to (T' := T26) (g' := (mkF m 381 #[.val (.int p1), .val (.int p2), .val (.int p3), .val (.int p4), .val (.int k), .val (.int r), .val (.int pt), .val (.int (k + (1 : Int32))), .val (.int (Int32.ofNat t)), .val (.int fb), .val (.ref b1), .val (.int (Int32.ofNat (t + own_len pt))), .val (.int (1 : Int32))] [])) (fun tt_ kk_ => XS.istore X26.here hx rfl (hb hby at_379) rfl (l' := #[.val (.int p1), .val (.int p2), .val (.int p3), .val (.int p4), .val (.int k), .val (.int r), .val (.int pt), .val (.int (k + (1 : Int32))), .val (.int (Int32.ofNat t)), .val (.int fb), .val (.ref b1), .val (.int (Int32.ofNat (t + own_len pt))), .val (.int (1 : Int32))]) rfl kk_) ?_
    refine Ends.to (T' := T26) (g' := (mkF m 383 #[.val (.int p1), .val (.int p2), .val (.int p3), .val (.int p4), .val (.int k), .val (.int r), .val (.int pt), .val (.int (k + (1 : Int32))), .val (.int (Int32.ofNat t)), .val (.int fb), .val (.ref b1), .val (.int (Int32.ofNat (t + own_len pt))), .val (.int (1 : Int32))] [(.int (1 : Int32))])) (fun tt_ kk_ => XS.iload X26.here hx rfl (hb hby at_381) rfl kk_) ?_
    refine Ends.to (T' := T26) (g' := (mkF m 386 #[.val (.int p1), .val (.int p2), .val (.int p3), .val (.int p4), .val (.int k), .val (.int r), .val (.int pt), .val (.int (k + (1 : Int32))), .val (.int (Int32.ofNat t)), .val (.int fb), .val (.ref b1), .val (.int (Int32.ofNat (t + own_len pt))), .val (.int (1 : Int32))] [])) (fun tt_ kk_ => XS.ifNo X26.here hx rfl (hb hby at_383) rfl ((if0 _ _).trans (feq (by decide)).1) kk_) ?_
    refine Ends.to (T' := T26) (g' := (mkF m 388 #[.val (.int p1), .val (.int p2), .val (.int p3), .val (.int p4), .val (.int k), .val (.int r), .val (.int pt), .val (.int (k + (1 : Int32))), .val (.int (Int32.ofNat t)), .val (.int fb), .val (.ref b1), .val (.int (Int32.ofNat (t + own_len pt))), .val (.int (1 : Int32))] [(.ref b1)])) (fun tt_ kk_ => XS.aload X26.here hx rfl (hb hby at_386) rfl rfl kk_) ?_
    refine Ends.to (T' := T26) (g' := (mkF m 390 #[.val (.int p1), .val (.int p2), .val (.int p3), .val (.int p4), .val (.int k), .val (.int r), .val (.int pt), .val (.int (k + (1 : Int32))), .val (.int (Int32.ofNat t)), .val (.int fb), .val (.ref b1), .val (.int (Int32.ofNat (t + own_len pt))), .val (.int (1 : Int32))] [(.int (6 : Int32)), (.ref b1)])) (fun tt_ kk_ => XS.bipush X26.here hx rfl (hb hby at_388) kk_) ?_
    refine Ends.to (T' := T26) (g' := (mkF m 391 #[.val (.int p1), .val (.int p2), .val (.int p3), .val (.int p4), .val (.int k), .val (.int r), .val (.int pt), .val (.int (k + (1 : Int32))), .val (.int (Int32.ofNat t)), .val (.int fb), .val (.ref b1), .val (.int (Int32.ofNat (t + own_len pt))), .val (.int (1 : Int32))] [(.int ((own_enc pt t (fun _ => fb)) 6))])) (fun tt_ kk_ => BA.ldB X26 hx hZ e26q B_b1 (j := (6 : Int32)) (i := 6) (by decide) rfl (by decide) (g := (mkF m 390 #[.val (.int p1), .val (.int p2), .val (.int p3), .val (.int p4), .val (.int k), .val (.int r), .val (.int pt), .val (.int (k + (1 : Int32))), .val (.int (Int32.ofNat t)), .val (.int fb), .val (.ref b1), .val (.int (Int32.ofNat (t + own_len pt))), .val (.int (1 : Int32))] [(.int (6 : Int32)), (.ref b1)])) rfl rfl (hb hby at_390) tt_ kk_) ?_
    refine Ends.to (T' := T26) (g' := (mkF m 393 #[.val (.int p1), .val (.int p2), .val (.int p3), .val (.int p4), .val (.int k), .val (.int r), .val (.int pt), .val (.int (k + (1 : Int32))), .val (.int (Int32.ofNat t)), .val (.int fb), .val (.ref b1), .val (.int (Int32.ofNat (t + own_len pt))), .val (.int (1 : Int32))] [(.int pt), (.int ((own_enc pt t (fun _ => fb)) 6))])) (fun tt_ kk_ => XS.iload X26.here hx rfl (hb hby at_391) rfl kk_) ?_
    refine Ends.to (T' := T26) (g' := (mkF m 395 #[.val (.int p1), .val (.int p2), .val (.int p3), .val (.int p4), .val (.int k), .val (.int r), .val (.int pt), .val (.int (k + (1 : Int32))), .val (.int (Int32.ofNat t)), .val (.int fb), .val (.ref b1), .val (.int (Int32.ofNat (t + own_len pt))), .val (.int (1 : Int32))] [(.int (k + (1 : Int32))), (.int pt), (.int ((own_enc pt t (fun _ => fb)) 6))])) (fun tt_ kk_ => XS.iload X26.here hx rfl (hb hby at_393) rfl kk_) ?_
    refine Ends.to (T' := T26) (g' := (mkF m 397 #[.val (.int p1), .val (.int p2), .val (.int p3), .val (.int p4), .val (.int k), .val (.int r), .val (.int pt), .val (.int (k + (1 : Int32))), .val (.int (Int32.ofNat t)), .val (.int fb), .val (.ref b1), .val (.int (Int32.ofNat (t + own_len pt))), .val (.int (1 : Int32))] [(.int (Int32.ofNat t)), (.int (k + (1 : Int32))), (.int pt), (.int ((own_enc pt t (fun _ => fb)) 6))])) (fun tt_ kk_ => XS.iload X26.here hx rfl (hb hby at_395) rfl kk_) ?_
    refine Ends.to (T' := T26) (g' := (mkF m 399 #[.val (.int p1), .val (.int p2), .val (.int p3), .val (.int p4), .val (.int k), .val (.int r), .val (.int pt), .val (.int (k + (1 : Int32))), .val (.int (Int32.ofNat t)), .val (.int fb), .val (.ref b1), .val (.int (Int32.ofNat (t + own_len pt))), .val (.int (1 : Int32))] [(.int fb), (.int (Int32.ofNat t)), (.int (k + (1 : Int32))), (.int pt), (.int ((own_enc pt t (fun _ => fb)) 6))])) (fun tt_ kk_ => XS.iload X26.here hx rfl (hb hby at_397) rfl kk_) ?_
    refine Ends.to (T' := T26) (g' := (mkF m 401 #[.val (.int p1), .val (.int p2), .val (.int p3), .val (.int p4), .val (.int k), .val (.int r), .val (.int pt), .val (.int (k + (1 : Int32))), .val (.int (Int32.ofNat t)), .val (.int fb), .val (.ref b1), .val (.int (Int32.ofNat (t + own_len pt))), .val (.int (1 : Int32))] [(.int (6 : Int32)), (.int fb), (.int (Int32.ofNat t)), (.int (k + (1 : Int32))), (.int pt), (.int ((own_enc pt t (fun _ => fb)) 6))])) (fun tt_ kk_ => XS.bipush X26.here hx rfl (hb hby at_399) kk_) ?_
    obtain ⟨_, _, ⟨T27, L27, k27, n27⟩, -, X27, ⟨Lc27, hQ27, l27, y27, z27⟩, st27⟩ := Jvm.LawKit.callS X26 hx (y := (⟨"com/example/predicate/predicate/document/Utf8EncodePinLaw", "expected", "(IIIBI)B"⟩ : MethodName)) hown (mvT hZ (hw _ (List.mem_of_getElem? (i := 6) rfl))) (mvT hZ (hw _ (List.mem_of_getElem? (i := 7) rfl))) (mvT hZ (hw _ (List.mem_of_getElem? (i := 8) rfl))) (mvT hZ (hw _ (List.mem_of_getElem? (i := 9) rfl))) (by decide) (backOf (W := 1) (rm2 l Z a0 hw [] pt (k + (1 : Int32)) (Int32.ofNat t) fb (6 : Int32) T20.heap n0 Zs) hZ (hw _ (List.mem_of_getElem? (i := 9) rfl)) (hw _ (List.mem_of_getElem? (i := 8) rfl)) (by decide) (by decide)) (g := (mkF m 401 #[.val (.int p1), .val (.int p2), .val (.int p3), .val (.int p4), .val (.int k), .val (.int r), .val (.int pt), .val (.int (k + (1 : Int32))), .val (.int (Int32.ofNat t)), .val (.int fb), .val (.ref b1), .val (.int (Int32.ofNat (t + own_len pt))), .val (.int (1 : Int32))] [(.int (6 : Int32)), (.int fb), (.int (Int32.ofNat t)), (.int (k + (1 : Int32))), (.int pt), (.int ((own_enc pt t (fun _ => fb)) 6))])) rfl (by rw [hml]; rfl) (argsL := [(.int pt), (.int (k + (1 : Int32))), (.int (Int32.ofNat t)), (.int fb), (.int (6 : Int32))]) (rest := [(.int ((own_enc pt t (fun _ => fb)) 6))]) (lenOf pd_2 rfl) rfl (by show 2 * 0 + _ ≤ _; exact Nat.le_of_eq rfl) (hb hby at_401) (fun _ _ => ⟨rfl, e26q, (by decide : 1 + 0 ≤ _), (by decide : 8 + 0 ≤ _)⟩)
    dsimp only [Pt.U, Pt.locs, Pt.cells, Pt.slots] at X27 l27 y27 z27 st27 hQ27
    subst l27 y27 z27
    obtain ⟨rfl, N27q, e27q⟩ := hQ27
    have N27 := Fr.app N26 N27q
    refine Ends.to (T' := T27) (g' := (mkF m 404 #[.val (.int p1), .val (.int p2), .val (.int p3), .val (.int p4), .val (.int k), .val (.int r), .val (.int pt), .val (.int (k + (1 : Int32))), .val (.int (Int32.ofNat t)), .val (.int fb), .val (.ref b1), .val (.int (Int32.ofNat (t + own_len pt))), .val (.int (1 : Int32))] [(.int (own_ex pt (k + (1 : Int32)) ((6 : Int32) - (Int32.ofNat t)) fb)), (.int ((own_enc pt t (fun _ => fb)) 6))])) (fun tt_ kk_ => st27 tt_ kk_) ?_
    refine Ends.to (T' := T27) (g' := (mkF m 407 #[.val (.int p1), .val (.int p2), .val (.int p3), .val (.int p4), .val (.int k), .val (.int r), .val (.int pt), .val (.int (k + (1 : Int32))), .val (.int (Int32.ofNat t)), .val (.int fb), .val (.ref b1), .val (.int (Int32.ofNat (t + own_len pt))), .val (.int (1 : Int32))] [])) (fun tt_ kk_ => XS.icmpNo X27.here hx rfl (hb hby at_404) rfl (teq (own_same hk ht hfb 6 (by decide))).2 kk_) ?_
    refine Ends.to (T' := T27) (g' := (mkF m 408 #[.val (.int p1), .val (.int p2), .val (.int p3), .val (.int p4), .val (.int k), .val (.int r), .val (.int pt), .val (.int (k + (1 : Int32))), .val (.int (Int32.ofNat t)), .val (.int fb), .val (.ref b1), .val (.int (Int32.ofNat (t + own_len pt))), .val (.int (1 : Int32))] [(.int (1 : Int32))])) (fun tt_ kk_ => XS.iconst X27.here hx rfl (hb hby at_407) kk_) ?_
    refine Ends.to (T' := T27) (g' := (mkF m 412 #[.val (.int p1), .val (.int p2), .val (.int p3), .val (.int p4), .val (.int k), .val (.int r), .val (.int pt), .val (.int (k + (1 : Int32))), .val (.int (Int32.ofNat t)), .val (.int fb), .val (.ref b1), .val (.int (Int32.ofNat (t + own_len pt))), .val (.int (1 : Int32))] [(.int (1 : Int32))])) (fun tt_ kk_ => XS.goto X27.here hx rfl (pc0 := 408) (pc' := 412) rfl (hb hby at_408) (by decide) (by decide) kk_) ?_
    refine Ends.to (T' := T27) (g' := (mkF m 414 #[.val (.int p1), .val (.int p2), .val (.int p3), .val (.int p4), .val (.int k), .val (.int r), .val (.int pt), .val (.int (k + (1 : Int32))), .val (.int (Int32.ofNat t)), .val (.int fb), .val (.ref b1), .val (.int (Int32.ofNat (t + own_len pt))), .val (.int (1 : Int32))] [])) (fun tt_ kk_ => XS.istore X27.here hx rfl (hb hby at_412) rfl (l' := #[.val (.int p1), .val (.int p2), .val (.int p3), .val (.int p4), .val (.int k), .val (.int r), .val (.int pt), .val (.int (k + (1 : Int32))), .val (.int (Int32.ofNat t)), .val (.int fb), .val (.ref b1), .val (.int (Int32.ofNat (t + own_len pt))), .val (.int (1 : Int32))]) rfl kk_) ?_
    refine Ends.to (T' := T27) (g' := (mkF m 416 #[.val (.int p1), .val (.int p2), .val (.int p3), .val (.int p4), .val (.int k), .val (.int r), .val (.int pt), .val (.int (k + (1 : Int32))), .val (.int (Int32.ofNat t)), .val (.int fb), .val (.ref b1), .val (.int (Int32.ofNat (t + own_len pt))), .val (.int (1 : Int32))] [(.int (1 : Int32))])) (fun tt_ kk_ => XS.iload X27.here hx rfl (hb hby at_414) rfl kk_) ?_
    refine Ends.to (T' := T27) (g' := (mkF m 419 #[.val (.int p1), .val (.int p2), .val (.int p3), .val (.int p4), .val (.int k), .val (.int r), .val (.int pt), .val (.int (k + (1 : Int32))), .val (.int (Int32.ofNat t)), .val (.int fb), .val (.ref b1), .val (.int (Int32.ofNat (t + own_len pt))), .val (.int (1 : Int32))] [])) (fun tt_ kk_ => XS.ifNo X27.here hx rfl (hb hby at_416) rfl ((if0 _ _).trans (feq (by decide)).1) kk_) ?_
    refine Ends.to (T' := T27) (g' := (mkF m 421 #[.val (.int p1), .val (.int p2), .val (.int p3), .val (.int p4), .val (.int k), .val (.int r), .val (.int pt), .val (.int (k + (1 : Int32))), .val (.int (Int32.ofNat t)), .val (.int fb), .val (.ref b1), .val (.int (Int32.ofNat (t + own_len pt))), .val (.int (1 : Int32))] [(.ref b1)])) (fun tt_ kk_ => XS.aload X27.here hx rfl (hb hby at_419) rfl rfl kk_) ?_
    refine Ends.to (T' := T27) (g' := (mkF m 423 #[.val (.int p1), .val (.int p2), .val (.int p3), .val (.int p4), .val (.int k), .val (.int r), .val (.int pt), .val (.int (k + (1 : Int32))), .val (.int (Int32.ofNat t)), .val (.int fb), .val (.ref b1), .val (.int (Int32.ofNat (t + own_len pt))), .val (.int (1 : Int32))] [(.int (7 : Int32)), (.ref b1)])) (fun tt_ kk_ => XS.bipush X27.here hx rfl (hb hby at_421) kk_) ?_
    refine Ends.to (T' := T27) (g' := (mkF m 424 #[.val (.int p1), .val (.int p2), .val (.int p3), .val (.int p4), .val (.int k), .val (.int r), .val (.int pt), .val (.int (k + (1 : Int32))), .val (.int (Int32.ofNat t)), .val (.int fb), .val (.ref b1), .val (.int (Int32.ofNat (t + own_len pt))), .val (.int (1 : Int32))] [(.int ((own_enc pt t (fun _ => fb)) 7))])) (fun tt_ kk_ => BA.ldB X27 hx hZ e27q B_b1 (j := (7 : Int32)) (i := 7) (by decide) rfl (by decide) (g := (mkF m 423 #[.val (.int p1), .val (.int p2), .val (.int p3), .val (.int p4), .val (.int k), .val (.int r), .val (.int pt), .val (.int (k + (1 : Int32))), .val (.int (Int32.ofNat t)), .val (.int fb), .val (.ref b1), .val (.int (Int32.ofNat (t + own_len pt))), .val (.int (1 : Int32))] [(.int (7 : Int32)), (.ref b1)])) rfl rfl (hb hby at_423) tt_ kk_) ?_
    refine Ends.to (T' := T27) (g' := (mkF m 426 #[.val (.int p1), .val (.int p2), .val (.int p3), .val (.int p4), .val (.int k), .val (.int r), .val (.int pt), .val (.int (k + (1 : Int32))), .val (.int (Int32.ofNat t)), .val (.int fb), .val (.ref b1), .val (.int (Int32.ofNat (t + own_len pt))), .val (.int (1 : Int32))] [(.int pt), (.int ((own_enc pt t (fun _ => fb)) 7))])) (fun tt_ kk_ => XS.iload X27.here hx rfl (hb hby at_424) rfl kk_) ?_
    refine Ends.to (T' := T27) (g' := (mkF m 428 #[.val (.int p1), .val (.int p2), .val (.int p3), .val (.int p4), .val (.int k), .val (.int r), .val (.int pt), .val (.int (k + (1 : Int32))), .val (.int (Int32.ofNat t)), .val (.int fb), .val (.ref b1), .val (.int (Int32.ofNat (t + own_len pt))), .val (.int (1 : Int32))] [(.int (k + (1 : Int32))), (.int pt), (.int ((own_enc pt t (fun _ => fb)) 7))])) (fun tt_ kk_ => XS.iload X27.here hx rfl (hb hby at_426) rfl kk_) ?_
    refine Ends.to (T' := T27) (g' := (mkF m 430 #[.val (.int p1), .val (.int p2), .val (.int p3), .val (.int p4), .val (.int k), .val (.int r), .val (.int pt), .val (.int (k + (1 : Int32))), .val (.int (Int32.ofNat t)), .val (.int fb), .val (.ref b1), .val (.int (Int32.ofNat (t + own_len pt))), .val (.int (1 : Int32))] [(.int (Int32.ofNat t)), (.int (k + (1 : Int32))), (.int pt), (.int ((own_enc pt t (fun _ => fb)) 7))])) (fun tt_ kk_ => XS.iload X27.here hx rfl (hb hby at_428) rfl kk_) ?_
    refine Ends.to (T' := T27) (g' := (mkF m 432 #[.val (.int p1), .val (.int p2), .val (.int p3), .val (.int p4), .val (.int k), .val (.int r), .val (.int pt), .val (.int (k + (1 : Int32))), .val (.int (Int32.ofNat t)), .val (.int fb), .val (.ref b1), .val (.int (Int32.ofNat (t + own_len pt))), .val (.int (1 : Int32))] [(.int fb), (.int (Int32.ofNat t)), (.int (k + (1 : Int32))), (.int pt), (.int ((own_enc pt t (fun _ => fb)) 7))])) (fun tt_ kk_ => XS.iload X27.here hx rfl (hb hby at_430) rfl kk_) ?_
    refine Ends.to (T' := T27) (g' := (mkF m 434 #[.val (.int p1), .val (.int p2), .val (.int p3), .val (.int p4), .val (.int k), .val (.int r), .val (.int pt), .val (.int (k + (1 : Int32))), .val (.int (Int32.ofNat t)), .val (.int fb), .val (.ref b1), .val (.int (Int32.ofNat (t + own_len pt))), .val (.int (1 : Int32))] [(.int (7 : Int32)), (.int fb), (.int (Int32.ofNat t)), (.int (k + (1 : Int32))), (.int pt), (.int ((own_enc pt t (fun _ => fb)) 7))])) (fun tt_ kk_ => XS.bipush X27.here hx rfl (hb hby at_432) kk_) ?_
    obtain ⟨_, _, ⟨T28, L28, k28, n28⟩, -, X28, ⟨Lc28, hQ28, l28, y28, z28⟩, st28⟩ := Jvm.LawKit.callS X27 hx (y := (⟨"com/example/predicate/predicate/document/Utf8EncodePinLaw", "expected", "(IIIBI)B"⟩ : MethodName)) hown (mvT hZ (hw _ (List.mem_of_getElem? (i := 6) rfl))) (mvT hZ (hw _ (List.mem_of_getElem? (i := 7) rfl))) (mvT hZ (hw _ (List.mem_of_getElem? (i := 8) rfl))) (mvT hZ (hw _ (List.mem_of_getElem? (i := 9) rfl))) (by decide) (backOf (W := 1) (rm2 l Z a0 hw [] pt (k + (1 : Int32)) (Int32.ofNat t) fb (7 : Int32) T20.heap n0 Zs) hZ (hw _ (List.mem_of_getElem? (i := 9) rfl)) (hw _ (List.mem_of_getElem? (i := 8) rfl)) (by decide) (by decide)) (g := (mkF m 434 #[.val (.int p1), .val (.int p2), .val (.int p3), .val (.int p4), .val (.int k), .val (.int r), .val (.int pt), .val (.int (k + (1 : Int32))), .val (.int (Int32.ofNat t)), .val (.int fb), .val (.ref b1), .val (.int (Int32.ofNat (t + own_len pt))), .val (.int (1 : Int32))] [(.int (7 : Int32)), (.int fb), (.int (Int32.ofNat t)), (.int (k + (1 : Int32))), (.int pt), (.int ((own_enc pt t (fun _ => fb)) 7))])) rfl (by rw [hml]; rfl) (argsL := [(.int pt), (.int (k + (1 : Int32))), (.int (Int32.ofNat t)), (.int fb), (.int (7 : Int32))]) (rest := [(.int ((own_enc pt t (fun _ => fb)) 7))]) (lenOf pd_2 rfl) rfl (by show 2 * 0 + _ ≤ _; exact Nat.le_of_eq rfl) (hb hby at_434) (fun _ _ => ⟨rfl, e27q, (by decide : 1 + 0 ≤ _), (by decide : 8 + 0 ≤ _)⟩)
    dsimp only [Pt.U, Pt.locs, Pt.cells, Pt.slots] at X28 l28 y28 z28 st28 hQ28
    subst l28 y28 z28
    obtain ⟨rfl, N28q, e28q⟩ := hQ28
    have N28 := Fr.app N27 N28q
    refine Ends.to (T' := T28) (g' := (mkF m 437 #[.val (.int p1), .val (.int p2), .val (.int p3), .val (.int p4), .val (.int k), .val (.int r), .val (.int pt), .val (.int (k + (1 : Int32))), .val (.int (Int32.ofNat t)), .val (.int fb), .val (.ref b1), .val (.int (Int32.ofNat (t + own_len pt))), .val (.int (1 : Int32))] [(.int (own_ex pt (k + (1 : Int32)) ((7 : Int32) - (Int32.ofNat t)) fb)), (.int ((own_enc pt t (fun _ => fb)) 7))])) (fun tt_ kk_ => st28 tt_ kk_) ?_
    refine Ends.to (T' := T28) (g' := (mkF m 440 #[.val (.int p1), .val (.int p2), .val (.int p3), .val (.int p4), .val (.int k), .val (.int r), .val (.int pt), .val (.int (k + (1 : Int32))), .val (.int (Int32.ofNat t)), .val (.int fb), .val (.ref b1), .val (.int (Int32.ofNat (t + own_len pt))), .val (.int (1 : Int32))] [])) (fun tt_ kk_ => XS.icmpNo X28.here hx rfl (hb hby at_437) rfl (teq (own_same hk ht hfb 7 (by decide))).2 kk_) ?_
    refine Ends.to (T' := T28) (g' := (mkF m 441 #[.val (.int p1), .val (.int p2), .val (.int p3), .val (.int p4), .val (.int k), .val (.int r), .val (.int pt), .val (.int (k + (1 : Int32))), .val (.int (Int32.ofNat t)), .val (.int fb), .val (.ref b1), .val (.int (Int32.ofNat (t + own_len pt))), .val (.int (1 : Int32))] [(.int (1 : Int32))])) (fun tt_ kk_ => XS.iconst X28.here hx rfl (hb hby at_440) kk_) ?_
    refine Ends.to (T' := T28) (g' := (mkF m 445 #[.val (.int p1), .val (.int p2), .val (.int p3), .val (.int p4), .val (.int k), .val (.int r), .val (.int pt), .val (.int (k + (1 : Int32))), .val (.int (Int32.ofNat t)), .val (.int fb), .val (.ref b1), .val (.int (Int32.ofNat (t + own_len pt))), .val (.int (1 : Int32))] [(.int (1 : Int32))])) (fun tt_ kk_ => XS.goto X28.here hx rfl (pc0 := 441) (pc' := 445) rfl (hb hby at_441) (by decide) (by decide) kk_) ?_
    refine Ends.to (T' := T28) (g' := (mkF m 447 #[.val (.int p1), .val (.int p2), .val (.int p3), .val (.int p4), .val (.int k), .val (.int r), .val (.int pt), .val (.int (k + (1 : Int32))), .val (.int (Int32.ofNat t)), .val (.int fb), .val (.ref b1), .val (.int (Int32.ofNat (t + own_len pt))), .val (.int (1 : Int32))] [])) (fun tt_ kk_ => XS.istore X28.here hx rfl (hb hby at_445) rfl (l' := #[.val (.int p1), .val (.int p2), .val (.int p3), .val (.int p4), .val (.int k), .val (.int r), .val (.int pt), .val (.int (k + (1 : Int32))), .val (.int (Int32.ofNat t)), .val (.int fb), .val (.ref b1), .val (.int (Int32.ofNat (t + own_len pt))), .val (.int (1 : Int32))]) rfl kk_) ?_
    refine Ends.to (T' := T28) (g' := (mkF m 449 #[.val (.int p1), .val (.int p2), .val (.int p3), .val (.int p4), .val (.int k), .val (.int r), .val (.int pt), .val (.int (k + (1 : Int32))), .val (.int (Int32.ofNat t)), .val (.int fb), .val (.ref b1), .val (.int (Int32.ofNat (t + own_len pt))), .val (.int (1 : Int32))] [(.int (1 : Int32))])) (fun tt_ kk_ => XS.iload X28.here hx rfl (hb hby at_447) rfl kk_) ?_
    exact Ends.retN (t := .boolean) (by simp) X28 hx hret (hb hby at_449) hlk (by decide) (by decide) ⟨by decide, N28⟩
  refine Ends.to (T' := s₁) (g' := (mkF m 1 #[.val (.int p1), .val (.int p2), .val (.int p3), .val (.int p4), .unset, .unset, .unset, .unset, .unset, .unset, .unset, .unset, .unset] [(.int p1)])) (fun tt_ kk_ => XS.iloadN X0.here hx rfl (hb hby at_0) rfl kk_) ?_
  refine Ends.to (T' := s₁) (g' := (mkF m 2 #[.val (.int p1), .val (.int p2), .val (.int p3), .val (.int p4), .unset, .unset, .unset, .unset, .unset, .unset, .unset, .unset, .unset] [(.int (3 : Int32)), (.int p1)])) (fun tt_ kk_ => XS.iconst X0.here hx rfl (hb hby at_1) kk_) ?_
  refine Ends.to (T' := s₁) (g' := (mkF m 3 #[.val (.int p1), .val (.int p2), .val (.int p3), .val (.int p4), .unset, .unset, .unset, .unset, .unset, .unset, .unset, .unset, .unset] [(.int (p1 &&& (3 : Int32)))])) (fun tt_ kk_ => XS.iand X0.here hx rfl (hb hby at_2) rfl kk_) ?_
  refine Ends.to (T' := s₁) (g' := (mkF m 5 #[.val (.int p1), .val (.int p2), .val (.int p3), .val (.int p4), .val (.int (p1 &&& (3 : Int32))), .unset, .unset, .unset, .unset, .unset, .unset, .unset, .unset] [])) (fun tt_ kk_ => XS.istore X0.here hx rfl (hb hby at_3) rfl (l' := #[.val (.int p1), .val (.int p2), .val (.int p3), .val (.int p4), .val (.int (p1 &&& (3 : Int32))), .unset, .unset, .unset, .unset, .unset, .unset, .unset, .unset]) rfl kk_) ?_
  generalize hk : (p1 &&& (3 : Int32)) = k
  have hk0 := own_k4 hk
  refine Ends.to (T' := s₁) (g' := (mkF m 6 #[.val (.int p1), .val (.int p2), .val (.int p3), .val (.int p4), .val (.int k), .unset, .unset, .unset, .unset, .unset, .unset, .unset, .unset] [(.int p2)])) (fun tt_ kk_ => XS.iloadN X0.here hx rfl (hb hby at_5) rfl kk_) ?_
  refine Ends.to (T' := s₁) (g' := (mkF m 8 #[.val (.int p1), .val (.int p2), .val (.int p3), .val (.int p4), .val (.int k), .unset, .unset, .unset, .unset, .unset, .unset, .unset, .unset] [(.int (2147483647 : Int32)), (.int p2)])) (fun tt_ kk_ => X0.ldcInt hx hown (mvT hZ (hw _ (List.mem_of_getElem? (i := 0) rfl))) (g := (mkF m 6 #[.val (.int p1), .val (.int p2), .val (.int p3), .val (.int p4), .val (.int k), .unset, .unset, .unset, .unset, .unset, .unset, .unset, .unset] [(.int p2)])) rfl (hb hby at_6) _ kk_) ?_
  refine Ends.to (T' := s₁) (g' := (mkF m 9 #[.val (.int p1), .val (.int p2), .val (.int p3), .val (.int p4), .val (.int k), .unset, .unset, .unset, .unset, .unset, .unset, .unset, .unset] [(.int (p2 &&& (2147483647 : Int32)))])) (fun tt_ kk_ => XS.iand X0.here hx rfl (hb hby at_8) rfl kk_) ?_
  refine Ends.to (T' := s₁) (g' := (mkF m 11 #[.val (.int p1), .val (.int p2), .val (.int p3), .val (.int p4), .val (.int k), .val (.int (p2 &&& (2147483647 : Int32))), .unset, .unset, .unset, .unset, .unset, .unset, .unset] [])) (fun tt_ kk_ => XS.istore X0.here hx rfl (hb hby at_9) rfl (l' := #[.val (.int p1), .val (.int p2), .val (.int p3), .val (.int p4), .val (.int k), .val (.int (p2 &&& (2147483647 : Int32))), .unset, .unset, .unset, .unset, .unset, .unset, .unset]) rfl kk_) ?_
  generalize hr : (p2 &&& (2147483647 : Int32)) = r
  have hr0 := own_r hr
  refine Ends.to (T' := s₁) (g' := (mkF m 13 #[.val (.int p1), .val (.int p2), .val (.int p3), .val (.int p4), .val (.int k), .val (.int r), .unset, .unset, .unset, .unset, .unset, .unset, .unset] [(.int k)])) (fun tt_ kk_ => XS.iload X0.here hx rfl (hb hby at_11) rfl kk_) ?_
  by_cases hc13 : k = (0 : Int32)
  · refine Ends.to (T' := s₁) (g' := (mkF m 16 #[.val (.int p1), .val (.int p2), .val (.int p3), .val (.int p4), .val (.int k), .val (.int r), .unset, .unset, .unset, .unset, .unset, .unset, .unset] [])) (fun tt_ kk_ => XS.ifNo X0.here hx rfl (hb hby at_13) rfl ((if0 _ _).trans (teq hc13).2) kk_) ?_
    refine Ends.to (T' := s₁) (g' := (mkF m 18 #[.val (.int p1), .val (.int p2), .val (.int p3), .val (.int p4), .val (.int k), .val (.int r), .unset, .unset, .unset, .unset, .unset, .unset, .unset] [(.int r)])) (fun tt_ kk_ => XS.iload X0.here hx rfl (hb hby at_16) rfl kk_) ?_
    refine Ends.to (T' := s₁) (g' := (mkF m 21 #[.val (.int p1), .val (.int p2), .val (.int p3), .val (.int p4), .val (.int k), .val (.int r), .unset, .unset, .unset, .unset, .unset, .unset, .unset] [(.int (128 : Int32)), (.int r)])) (fun tt_ kk_ => XS.sipush X0.here hx rfl (hb hby at_18) kk_) ?_
    refine Ends.to (T' := s₁) (g' := (mkF m 22 #[.val (.int p1), .val (.int p2), .val (.int p3), .val (.int p4), .val (.int k), .val (.int r), .unset, .unset, .unset, .unset, .unset, .unset, .unset] [(.int (r % (128 : Int32)))])) (fun tt_ kk_ => Jvm.RoadKit.iremM X0 hx rfl (hb hby at_21) rfl (by decide) kk_) ?_
    refine Ends.to (T' := s₁) (g' := (mkF m 24 #[.val (.int p1), .val (.int p2), .val (.int p3), .val (.int p4), .val (.int k), .val (.int r), .val (.int (r % (128 : Int32))), .unset, .unset, .unset, .unset, .unset, .unset] [])) (fun tt_ kk_ => XS.istore X0.here hx rfl (hb hby at_22) rfl (l' := #[.val (.int p1), .val (.int p2), .val (.int p3), .val (.int p4), .val (.int k), .val (.int r), .val (.int (r % (128 : Int32))), .unset, .unset, .unset, .unset, .unset, .unset]) rfl kk_) ?_
    generalize hpt : (r % (128 : Int32)) = pt
    refine Ends.to (T' := s₁) (g' := (mkF m 93 #[.val (.int p1), .val (.int p2), .val (.int p3), .val (.int p4), .val (.int k), .val (.int r), .val (.int pt), .unset, .unset, .unset, .unset, .unset, .unset] [])) (fun tt_ kk_ => XS.goto X0.here hx rfl (pc0 := 24) (pc' := 93) rfl (hb hby at_24) (by decide) (by decide) kk_) ?_
    exact tail k r pt (own_k0 hr0 hc13 hpt)
  · refine Ends.to (T' := s₁) (g' := (mkF m 27 #[.val (.int p1), .val (.int p2), .val (.int p3), .val (.int p4), .val (.int k), .val (.int r), .unset, .unset, .unset, .unset, .unset, .unset, .unset] [])) (fun tt_ kk_ => XS.ifYes X0.here hx rfl (pc0 := 13) (pc' := 27) rfl (hb hby at_13) rfl ((if0 _ _).trans (feq hc13).2) (by decide) (by decide) kk_) ?_
    refine Ends.to (T' := s₁) (g' := (mkF m 29 #[.val (.int p1), .val (.int p2), .val (.int p3), .val (.int p4), .val (.int k), .val (.int r), .unset, .unset, .unset, .unset, .unset, .unset, .unset] [(.int k)])) (fun tt_ kk_ => XS.iload X0.here hx rfl (hb hby at_27) rfl kk_) ?_
    refine Ends.to (T' := s₁) (g' := (mkF m 30 #[.val (.int p1), .val (.int p2), .val (.int p3), .val (.int p4), .val (.int k), .val (.int r), .unset, .unset, .unset, .unset, .unset, .unset, .unset] [(.int (1 : Int32)), (.int k)])) (fun tt_ kk_ => XS.iconst X0.here hx rfl (hb hby at_29) kk_) ?_
    by_cases hc30 : k = (1 : Int32)
    · refine Ends.to (T' := s₁) (g' := (mkF m 33 #[.val (.int p1), .val (.int p2), .val (.int p3), .val (.int p4), .val (.int k), .val (.int r), .unset, .unset, .unset, .unset, .unset, .unset, .unset] [])) (fun tt_ kk_ => XS.icmpNo X0.here hx rfl (hb hby at_30) rfl (teq hc30).2 kk_) ?_
      refine Ends.to (T' := s₁) (g' := (mkF m 36 #[.val (.int p1), .val (.int p2), .val (.int p3), .val (.int p4), .val (.int k), .val (.int r), .unset, .unset, .unset, .unset, .unset, .unset, .unset] [(.int (128 : Int32))])) (fun tt_ kk_ => XS.sipush X0.here hx rfl (hb hby at_33) kk_) ?_
      refine Ends.to (T' := s₁) (g' := (mkF m 38 #[.val (.int p1), .val (.int p2), .val (.int p3), .val (.int p4), .val (.int k), .val (.int r), .unset, .unset, .unset, .unset, .unset, .unset, .unset] [(.int r), (.int (128 : Int32))])) (fun tt_ kk_ => XS.iload X0.here hx rfl (hb hby at_36) rfl kk_) ?_
      refine Ends.to (T' := s₁) (g' := (mkF m 41 #[.val (.int p1), .val (.int p2), .val (.int p3), .val (.int p4), .val (.int k), .val (.int r), .unset, .unset, .unset, .unset, .unset, .unset, .unset] [(.int (1920 : Int32)), (.int r), (.int (128 : Int32))])) (fun tt_ kk_ => XS.sipush X0.here hx rfl (hb hby at_38) kk_) ?_
      refine Ends.to (T' := s₁) (g' := (mkF m 42 #[.val (.int p1), .val (.int p2), .val (.int p3), .val (.int p4), .val (.int k), .val (.int r), .unset, .unset, .unset, .unset, .unset, .unset, .unset] [(.int (r % (1920 : Int32))), (.int (128 : Int32))])) (fun tt_ kk_ => Jvm.RoadKit.iremM X0 hx rfl (hb hby at_41) rfl (by decide) kk_) ?_
      refine Ends.to (T' := s₁) (g' := (mkF m 43 #[.val (.int p1), .val (.int p2), .val (.int p3), .val (.int p4), .val (.int k), .val (.int r), .unset, .unset, .unset, .unset, .unset, .unset, .unset] [(.int ((128 : Int32) + (r % (1920 : Int32))))])) (fun tt_ kk_ => XS.iadd X0.here hx rfl (hb hby at_42) rfl kk_) ?_
      refine Ends.to (T' := s₁) (g' := (mkF m 45 #[.val (.int p1), .val (.int p2), .val (.int p3), .val (.int p4), .val (.int k), .val (.int r), .val (.int ((128 : Int32) + (r % (1920 : Int32)))), .unset, .unset, .unset, .unset, .unset, .unset] [])) (fun tt_ kk_ => XS.istore X0.here hx rfl (hb hby at_43) rfl (l' := #[.val (.int p1), .val (.int p2), .val (.int p3), .val (.int p4), .val (.int k), .val (.int r), .val (.int ((128 : Int32) + (r % (1920 : Int32)))), .unset, .unset, .unset, .unset, .unset, .unset]) rfl kk_) ?_
      generalize hpt : ((128 : Int32) + (r % (1920 : Int32))) = pt
      refine Ends.to (T' := s₁) (g' := (mkF m 93 #[.val (.int p1), .val (.int p2), .val (.int p3), .val (.int p4), .val (.int k), .val (.int r), .val (.int pt), .unset, .unset, .unset, .unset, .unset, .unset] [])) (fun tt_ kk_ => XS.goto X0.here hx rfl (pc0 := 45) (pc' := 93) rfl (hb hby at_45) (by decide) (by decide) kk_) ?_
      exact tail k r pt (own_k1 hr0 hc30 hpt)
    · refine Ends.to (T' := s₁) (g' := (mkF m 48 #[.val (.int p1), .val (.int p2), .val (.int p3), .val (.int p4), .val (.int k), .val (.int r), .unset, .unset, .unset, .unset, .unset, .unset, .unset] [])) (fun tt_ kk_ => XS.icmpYes X0.here hx rfl (pc0 := 30) (pc' := 48) rfl (hb hby at_30) rfl (feq hc30).2 (by decide) (by decide) kk_) ?_
      refine Ends.to (T' := s₁) (g' := (mkF m 50 #[.val (.int p1), .val (.int p2), .val (.int p3), .val (.int p4), .val (.int k), .val (.int r), .unset, .unset, .unset, .unset, .unset, .unset, .unset] [(.int k)])) (fun tt_ kk_ => XS.iload X0.here hx rfl (hb hby at_48) rfl kk_) ?_
      refine Ends.to (T' := s₁) (g' := (mkF m 51 #[.val (.int p1), .val (.int p2), .val (.int p3), .val (.int p4), .val (.int k), .val (.int r), .unset, .unset, .unset, .unset, .unset, .unset, .unset] [(.int (2 : Int32)), (.int k)])) (fun tt_ kk_ => XS.iconst X0.here hx rfl (hb hby at_50) kk_) ?_
      by_cases hc51 : k = (2 : Int32)
      · refine Ends.to (T' := s₁) (g' := (mkF m 54 #[.val (.int p1), .val (.int p2), .val (.int p3), .val (.int p4), .val (.int k), .val (.int r), .unset, .unset, .unset, .unset, .unset, .unset, .unset] [])) (fun tt_ kk_ => XS.icmpNo X0.here hx rfl (hb hby at_51) rfl (teq hc51).2 kk_) ?_
        refine Ends.to (T' := s₁) (g' := (mkF m 57 #[.val (.int p1), .val (.int p2), .val (.int p3), .val (.int p4), .val (.int k), .val (.int r), .unset, .unset, .unset, .unset, .unset, .unset, .unset] [(.int (2048 : Int32))])) (fun tt_ kk_ => XS.sipush X0.here hx rfl (hb hby at_54) kk_) ?_
        refine Ends.to (T' := s₁) (g' := (mkF m 59 #[.val (.int p1), .val (.int p2), .val (.int p3), .val (.int p4), .val (.int k), .val (.int r), .unset, .unset, .unset, .unset, .unset, .unset, .unset] [(.int r), (.int (2048 : Int32))])) (fun tt_ kk_ => XS.iload X0.here hx rfl (hb hby at_57) rfl kk_) ?_
        refine Ends.to (T' := s₁) (g' := (mkF m 61 #[.val (.int p1), .val (.int p2), .val (.int p3), .val (.int p4), .val (.int k), .val (.int r), .unset, .unset, .unset, .unset, .unset, .unset, .unset] [(.int (61440 : Int32)), (.int r), (.int (2048 : Int32))])) (fun tt_ kk_ => X0.ldcInt hx hown (mvT hZ (hw _ (List.mem_of_getElem? (i := 14) rfl))) (g := (mkF m 59 #[.val (.int p1), .val (.int p2), .val (.int p3), .val (.int p4), .val (.int k), .val (.int r), .unset, .unset, .unset, .unset, .unset, .unset, .unset] [(.int r), (.int (2048 : Int32))])) rfl (hb hby at_59) _ kk_) ?_
        refine Ends.to (T' := s₁) (g' := (mkF m 62 #[.val (.int p1), .val (.int p2), .val (.int p3), .val (.int p4), .val (.int k), .val (.int r), .unset, .unset, .unset, .unset, .unset, .unset, .unset] [(.int (r % (61440 : Int32))), (.int (2048 : Int32))])) (fun tt_ kk_ => Jvm.RoadKit.iremM X0 hx rfl (hb hby at_61) rfl (by decide) kk_) ?_
        refine Ends.to (T' := s₁) (g' := (mkF m 63 #[.val (.int p1), .val (.int p2), .val (.int p3), .val (.int p4), .val (.int k), .val (.int r), .unset, .unset, .unset, .unset, .unset, .unset, .unset] [(.int ((2048 : Int32) + (r % (61440 : Int32))))])) (fun tt_ kk_ => XS.iadd X0.here hx rfl (hb hby at_62) rfl kk_) ?_
        refine Ends.to (T' := s₁) (g' := (mkF m 65 #[.val (.int p1), .val (.int p2), .val (.int p3), .val (.int p4), .val (.int k), .val (.int r), .val (.int ((2048 : Int32) + (r % (61440 : Int32)))), .unset, .unset, .unset, .unset, .unset, .unset] [])) (fun tt_ kk_ => XS.istore X0.here hx rfl (hb hby at_63) rfl (l' := #[.val (.int p1), .val (.int p2), .val (.int p3), .val (.int p4), .val (.int k), .val (.int r), .val (.int ((2048 : Int32) + (r % (61440 : Int32)))), .unset, .unset, .unset, .unset, .unset, .unset]) rfl kk_) ?_
        generalize hpt : ((2048 : Int32) + (r % (61440 : Int32))) = pt
        refine Ends.to (T' := s₁) (g' := (mkF m 67 #[.val (.int p1), .val (.int p2), .val (.int p3), .val (.int p4), .val (.int k), .val (.int r), .val (.int pt), .unset, .unset, .unset, .unset, .unset, .unset] [(.int pt)])) (fun tt_ kk_ => XS.iload X0.here hx rfl (hb hby at_65) rfl kk_) ?_
        refine Ends.to (T' := s₁) (g' := (mkF m 69 #[.val (.int p1), .val (.int p2), .val (.int p3), .val (.int p4), .val (.int k), .val (.int r), .val (.int pt), .unset, .unset, .unset, .unset, .unset, .unset] [(.int (55296 : Int32)), (.int pt)])) (fun tt_ kk_ => X0.ldcInt hx hown (mvT hZ (hw _ (List.mem_of_getElem? (i := 15) rfl))) (g := (mkF m 67 #[.val (.int p1), .val (.int p2), .val (.int p3), .val (.int p4), .val (.int k), .val (.int r), .val (.int pt), .unset, .unset, .unset, .unset, .unset, .unset] [(.int pt)])) rfl (hb hby at_67) _ kk_) ?_
        by_cases hc69 : pt < (55296 : Int32)
        · refine Ends.to (T' := s₁) (g' := (mkF m 93 #[.val (.int p1), .val (.int p2), .val (.int p3), .val (.int p4), .val (.int k), .val (.int r), .val (.int pt), .unset, .unset, .unset, .unset, .unset, .unset] [])) (fun tt_ kk_ => XS.icmpYes X0.here hx rfl (pc0 := 69) (pc' := 93) rfl (hb hby at_69) rfl (tlt hc69).1 (by decide) (by decide) kk_) ?_
          exact tail k r pt (own_k2a hr0 hc51 hpt)
        · refine Ends.to (T' := s₁) (g' := (mkF m 72 #[.val (.int p1), .val (.int p2), .val (.int p3), .val (.int p4), .val (.int k), .val (.int r), .val (.int pt), .unset, .unset, .unset, .unset, .unset, .unset] [])) (fun tt_ kk_ => XS.icmpNo X0.here hx rfl (hb hby at_69) rfl (flt hc69).1 kk_) ?_
          refine Ends.to (T' := s₁) (g' := (mkF m 74 #[.val (.int p1), .val (.int p2), .val (.int p3), .val (.int p4), .val (.int k), .val (.int r), .val (.int pt), .unset, .unset, .unset, .unset, .unset, .unset] [(.int pt)])) (fun tt_ kk_ => XS.iload X0.here hx rfl (hb hby at_72) rfl kk_) ?_
          refine Ends.to (T' := s₁) (g' := (mkF m 77 #[.val (.int p1), .val (.int p2), .val (.int p3), .val (.int p4), .val (.int k), .val (.int r), .val (.int pt), .unset, .unset, .unset, .unset, .unset, .unset] [(.int (2048 : Int32)), (.int pt)])) (fun tt_ kk_ => XS.sipush X0.here hx rfl (hb hby at_74) kk_) ?_
          refine Ends.to (T' := s₁) (g' := (mkF m 78 #[.val (.int p1), .val (.int p2), .val (.int p3), .val (.int p4), .val (.int k), .val (.int r), .val (.int pt), .unset, .unset, .unset, .unset, .unset, .unset] [(.int (pt + (2048 : Int32)))])) (fun tt_ kk_ => XS.iadd X0.here hx rfl (hb hby at_77) rfl kk_) ?_
          refine Ends.to (T' := s₁) (g' := (mkF m 80 #[.val (.int p1), .val (.int p2), .val (.int p3), .val (.int p4), .val (.int k), .val (.int r), .val (.int (pt + (2048 : Int32))), .unset, .unset, .unset, .unset, .unset, .unset] [])) (fun tt_ kk_ => XS.istore X0.here hx rfl (hb hby at_78) rfl (l' := #[.val (.int p1), .val (.int p2), .val (.int p3), .val (.int p4), .val (.int k), .val (.int r), .val (.int (pt + (2048 : Int32))), .unset, .unset, .unset, .unset, .unset, .unset]) rfl kk_) ?_
          generalize hpu : (pt + (2048 : Int32)) = pu
          refine Ends.to (T' := s₁) (g' := (mkF m 93 #[.val (.int p1), .val (.int p2), .val (.int p3), .val (.int p4), .val (.int k), .val (.int r), .val (.int pu), .unset, .unset, .unset, .unset, .unset, .unset] [])) (fun tt_ kk_ => XS.goto X0.here hx rfl (pc0 := 80) (pc' := 93) rfl (hb hby at_80) (by decide) (by decide) kk_) ?_
          exact tail k r pu (own_k2b hr0 hc51 hpt hpu)
      · refine Ends.to (T' := s₁) (g' := (mkF m 83 #[.val (.int p1), .val (.int p2), .val (.int p3), .val (.int p4), .val (.int k), .val (.int r), .unset, .unset, .unset, .unset, .unset, .unset, .unset] [])) (fun tt_ kk_ => XS.icmpYes X0.here hx rfl (pc0 := 51) (pc' := 83) rfl (hb hby at_51) rfl (feq hc51).2 (by decide) (by decide) kk_) ?_
        refine Ends.to (T' := s₁) (g' := (mkF m 85 #[.val (.int p1), .val (.int p2), .val (.int p3), .val (.int p4), .val (.int k), .val (.int r), .unset, .unset, .unset, .unset, .unset, .unset, .unset] [(.int (65536 : Int32))])) (fun tt_ kk_ => X0.ldcInt hx hown (mvT hZ (hw _ (List.mem_of_getElem? (i := 10) rfl))) (g := (mkF m 83 #[.val (.int p1), .val (.int p2), .val (.int p3), .val (.int p4), .val (.int k), .val (.int r), .unset, .unset, .unset, .unset, .unset, .unset, .unset] [])) rfl (hb hby at_83) _ kk_) ?_
        refine Ends.to (T' := s₁) (g' := (mkF m 87 #[.val (.int p1), .val (.int p2), .val (.int p3), .val (.int p4), .val (.int k), .val (.int r), .unset, .unset, .unset, .unset, .unset, .unset, .unset] [(.int r), (.int (65536 : Int32))])) (fun tt_ kk_ => XS.iload X0.here hx rfl (hb hby at_85) rfl kk_) ?_
        refine Ends.to (T' := s₁) (g' := (mkF m 89 #[.val (.int p1), .val (.int p2), .val (.int p3), .val (.int p4), .val (.int k), .val (.int r), .unset, .unset, .unset, .unset, .unset, .unset, .unset] [(.int (1048576 : Int32)), (.int r), (.int (65536 : Int32))])) (fun tt_ kk_ => X0.ldcInt hx hown (mvT hZ (hw _ (List.mem_of_getElem? (i := 11) rfl))) (g := (mkF m 87 #[.val (.int p1), .val (.int p2), .val (.int p3), .val (.int p4), .val (.int k), .val (.int r), .unset, .unset, .unset, .unset, .unset, .unset, .unset] [(.int r), (.int (65536 : Int32))])) rfl (hb hby at_87) _ kk_) ?_
        refine Ends.to (T' := s₁) (g' := (mkF m 90 #[.val (.int p1), .val (.int p2), .val (.int p3), .val (.int p4), .val (.int k), .val (.int r), .unset, .unset, .unset, .unset, .unset, .unset, .unset] [(.int (r % (1048576 : Int32))), (.int (65536 : Int32))])) (fun tt_ kk_ => Jvm.RoadKit.iremM X0 hx rfl (hb hby at_89) rfl (by decide) kk_) ?_
        refine Ends.to (T' := s₁) (g' := (mkF m 91 #[.val (.int p1), .val (.int p2), .val (.int p3), .val (.int p4), .val (.int k), .val (.int r), .unset, .unset, .unset, .unset, .unset, .unset, .unset] [(.int ((65536 : Int32) + (r % (1048576 : Int32))))])) (fun tt_ kk_ => XS.iadd X0.here hx rfl (hb hby at_90) rfl kk_) ?_
        refine Ends.to (T' := s₁) (g' := (mkF m 93 #[.val (.int p1), .val (.int p2), .val (.int p3), .val (.int p4), .val (.int k), .val (.int r), .val (.int ((65536 : Int32) + (r % (1048576 : Int32)))), .unset, .unset, .unset, .unset, .unset, .unset] [])) (fun tt_ kk_ => XS.istore X0.here hx rfl (hb hby at_91) rfl (l' := #[.val (.int p1), .val (.int p2), .val (.int p3), .val (.int p4), .val (.int k), .val (.int r), .val (.int ((65536 : Int32) + (r % (1048576 : Int32)))), .unset, .unset, .unset, .unset, .unset, .unset]) rfl kk_) ?_
        generalize hpt : ((65536 : Int32) + (r % (1048576 : Int32))) = pt
        exact tail k r pt (own_k3 hk0 hr0 hc13 hc30 hc51 hpt)
set_option maxRecDepth 65536 in
set_option maxHeartbeats 40000000 in
theorem comes_1 {Post : Tables → Env → Array Value → State → Outcome → State → Prop} (hpost : ∀ tb e args s v u, (limb_1_1.after args s (.returned v) u = true ∧ limb_1_2.after args s (.returned v) u = true ∧ True) → FrameEnd s (.returned v) u (Jvm.fieldLocs frame_1_writes args s ++ Jvm.arrayLocs frame_1_arrays args s ++ Jvm.staticLocs frame_1_statics s) 16 128 → Post tb e args s (.returned v) u) :
    ArmFor flags0 classFile x code maxLocals ret World_1 tables_1 room_1 Calls_1 rest_1 Pre_1 Post := by
  intro l hfl _ _ p e ha hc hk s m args below hf hA hF happ hP
  obtain ⟨hcalls, hrest, hpre⟩ := hP
  obtain ⟨-, -, -, hnamed, -, -, -, hat⟩ := (Spec.applies_iff hf).mp happ
  obtain ⟨hg, hn⟩ := and_e (Cond.before_iff.mp (show (Jvm.Cond.and given_1 narrow_1).before args s = true from hpre))
  obtain ⟨hcount, t0⟩ := and_e hg
  obtain ⟨k0, t1⟩ := and_e t0
  obtain ⟨k1, t2⟩ := and_e t1
  obtain ⟨k2, t3⟩ := and_e t2
  obtain ⟨w0, w1, w2, w3, rfl⟩ : ∃ w0 w1 w2 w3 : Value, args = #[w0, w1, w2, w3] := by
    have hs : args.size = 4 := by simpa [Cond.value, given_1] using hcount
    obtain ⟨L⟩ := args
    match L, hs with
    | [w0, w1, w2, w3], _ => exact ⟨w0, w1, w2, w3, rfl⟩
  have hw := fun d (hd : d ∈ tables_1) => atoms_spec (ws := Jvm.Cond.code x code maxLocals ret :: tables_1) hat d (List.mem_cons_of_mem _ hd)
  obtain ⟨i0, ei0⟩ := is_v k0
  obtain rfl : w0 = (.int i0) := Option.some.inj ei0
  obtain ⟨i1, ei1⟩ := is_v k1
  obtain rfl : w1 = (.int i1) := Option.some.inj ei1
  obtain ⟨i2, ei2⟩ := is_v k2
  obtain rfl : w2 = (.int i2) := Option.some.inj ei2
  obtain ⟨i3, ei3⟩ := is_v t3
  obtain rfl : w3 = (.int i3) := Option.some.inj ei3
  obtain ⟨n, o, h1, h2, h3, _, L, rfl, ⟨rfl, N⟩, hq⟩ := rm0 l s _ hw tables_1 i0 i1 i2 i3 s.heap s.heap.size (Nat.le_refl _) p e ha hc hk s m _ below hf ((Spec.applies_iff_loose hf).mp happ).1 ⟨rfl, State.Warmed39.refl s, rfl⟩ trivial
  refine ⟨n, _, h1, h2, h3, hpost _ _ _ _ _ _ ⟨Cond.after_iff.mpr rfl, Cond.after_iff.mpr (eq_i res_at (Term.int_eval (1)) rfl), trivial⟩ ⟨hq.1, hq.2.1, (hq.2.2.sift fun y hy => Or.inr (N y hy)).mono (by decide) (by decide)⟩⟩
theorem main_1_1 : Claimed_1_1 := comes_1 fun _ _ _ _ _ _ h hF => ⟨h.1, hF⟩
theorem main_1_2 : Claimed_1_2 := comes_1 fun _ _ _ _ _ _ h hF => ⟨h.2.1, hF⟩
end Jvm.Pilot.@@N@@
namespace Jvm.Pilot.@@N@@
open Jvm Jvm.ClassFile Sem Op Lib Jvm.Free Jvm.Stand Jvm.Pilot.@@N@@.Jvm.D
/-! MADE BY PROGRAM (witnessworld.py) out of the Statement's table words and the real class files: 9 classes; the members and pool entries that the words name. The judged class is class 1, her method 1. -/
namespace start1
open Jvm.ClassFile
def u (s : String) : CpInfo := .utf8 (stringToUtf16 s)
/-- a pool by its gaps: so many unusable entries, then the entry; so many at the end -/
def gap : Nat → List CpInfo → List CpInfo
  | 0, r => r
  | n + 1, r => .unusable :: gap n r
def poolList (es : List (Nat × CpInfo)) (last : Nat) : List CpInfo := es.foldr (fun e r => gap e.1 (e.2 :: r)) (gap last [])
def pool (es : List (Nat × CpInfo)) (last : Nat) : Array CpInfo := ⟨poolList es last⟩
def fileOf (pool : Array CpInfo) (this : Nat) (attrs : Array Attribute := #[]) (ms : Array MethodInfo := #[]) (fl : Nat := 33) (sup : Nat := 0) (ifs : Array Nat := #[]) (fds : Array FieldInfo := #[]) : ClassFile where
  minorVersion := 0
  majorVersion := 65
  constantPool := pool
  accessFlags := fl
  thisClass := this
  superClass := sup
  interfaces := ifs
  fields := fds
  methods := ms
  attributes := attrs
def plain (name : String) (sup : Option ClassId) : Class where
  name := name
  kind := .ordinary
  loader := none
  accessFlags := 33
  super := sup
  interfaces := #[]
  cf := none
  fields := #[]
  methods := #[]
  instanceTypes := #[]
  staticTypes := #[]
  resolved := #[]
  callSites := []
  init := .initialized
  statics := none
  mirror := none

def pool0 : Array CpInfo := pool [(5, u "<init>"), (0, u "()V"), (1, .class_ 10), (1, u "java/lang/Object")] 113

def k0m0 : Method := { name := "<init>", desc := "()V", sig := { parameters := [], returnType := none }, accessFlags := 1, code := none }
/-- java/lang/Object -/
def k0 : Class := { plain "java/lang/Object" none with
  accessFlags := 33
  interfaces := #[]
  cf := some (fileOf pool0 8 #[] #[{ accessFlags := 1, nameIndex := 5, descriptorIndex := 6, attributes := #[] }] 33 0 #[] #[])
  fields := #[]
  methods := #[k0m0]
  instanceTypes := #[]
  staticTypes := #[]
  resolved := Array.replicate 124 none
  statics := none }

def pool1 : Array CpInfo := pool [(2, .class_ 4), (1, u "java/lang/Object"), (0, u "<init>"), (0, u "()V"), (0, .integer 2147483647), (0, .integer 61440), (0, .integer 55296), (0, .integer 65536), (0, .integer 1048576), (0, .methodref 13 14), (0, .class_ 15), (0, .nameAndType 16 17), (0, u "com/example/predicate/predicate/document/Utf8"), (0, u "encode"), (0, u "(I[BI)I"), (0, .methodref 19 20), (0, .class_ 21), (0, .nameAndType 22 23), (0, u "com/example/predicate/predicate/document/Utf8EncodePinLaw"), (0, u "expected"), (0, u "(IIIBI)B"), (0, .integer 262144), (2, u "law"), (0, u "(IIII)Z")] 5

def k1m0 : Method := { name := "<init>", desc := "()V", sig := { parameters := [], returnType := none }, accessFlags := 1, code := none }
def k1c1 : Code := { maxStack := 6, maxLocals := 13, code := code, exceptionTable := #[], attributes := #[] }
def k1m1 : Method := { name := "law", desc := "(IIII)Z", sig := { parameters := [.int, .int, .int, .int], returnType := some .boolean }, accessFlags := 9, code := some k1c1 }
def k1c2 : Code := { maxStack := 3, maxLocals := 8, code := method_3_code, exceptionTable := #[], attributes := #[] }
def k1m2 : Method := { name := "expected", desc := "(IIIBI)B", sig := { parameters := [.int, .int, .int, .byte, .int], returnType := some .byte }, accessFlags := 10, code := some k1c2 }
/-- com/example/predicate/predicate/document/Utf8EncodePinLaw -/
def k1 : Class := { plain "com/example/predicate/predicate/document/Utf8EncodePinLaw" (some 0) with
  accessFlags := 49
  interfaces := #[]
  cf := some (fileOf pool1 19 #[] #[{ accessFlags := 1, nameIndex := 5, descriptorIndex := 6, attributes := #[] }, { accessFlags := 9, nameIndex := 27, descriptorIndex := 28, attributes := #[] }, { accessFlags := 10, nameIndex := 22, descriptorIndex := 23, attributes := #[] }] 49 2 #[] #[])
  fields := #[]
  methods := #[k1m0, k1m1, k1m2]
  instanceTypes := #[]
  staticTypes := #[]
  resolved := Array.replicate 34 none
  statics := none }

def pool2 : Array CpInfo := pool [(2, .class_ 4), (1, u "java/lang/Object"), (0, u "<init>"), (0, u "()V"), (0, .integer 65536), (1, .class_ 11), (1, u "com/example/predicate/predicate/document/Utf8"), (0, u "LONGS"), (0, u "Ljava/lang/invoke/VarHandle;"), (53, u "HIGHS"), (0, u "J"), (1, u "CASES"), (2, u "ONES"), (0, u "LOWS"), (2, u "encode"), (0, u "(I[BI)I")] 20

def k2m0 : Method := { name := "<init>", desc := "()V", sig := { parameters := [], returnType := none }, accessFlags := 2, code := none }
def k2c1 : Code := { maxStack := 5, maxLocals := 4, code := prog_39_method_2_code, exceptionTable := #[], attributes := #[] }
def k2m1 : Method := { name := "encode", desc := "(I[BI)I", sig := { parameters := [.int, (.array .byte), .int], returnType := some .int }, accessFlags := 8, code := some k2c1 }
/-- com/example/predicate/predicate/document/Utf8 -/
def k2 : Class := { plain "com/example/predicate/predicate/document/Utf8" (some 0) with
  accessFlags := 48
  interfaces := #[]
  cf := some (fileOf pool2 9 #[] #[{ accessFlags := 2, nameIndex := 5, descriptorIndex := 6, attributes := #[] }, { accessFlags := 8, nameIndex := 77, descriptorIndex := 78, attributes := #[] }] 48 2 #[] #[{ accessFlags := 26, nameIndex := 12, descriptorIndex := 13, attributes := #[] }, { accessFlags := 24, nameIndex := 67, descriptorIndex := 68, attributes := #[] }, { accessFlags := 24, nameIndex := 70, descriptorIndex := 68, attributes := #[] }, { accessFlags := 26, nameIndex := 73, descriptorIndex := 68, attributes := #[] }, { accessFlags := 26, nameIndex := 74, descriptorIndex := 68, attributes := #[] }])
  fields := #[{ name := "LONGS", type := (.object "java/lang/invoke/VarHandle"), accessFlags := 26, slot := 0, constantValue := 0 }, { name := "HIGHS", type := .long, accessFlags := 24, slot := 1, constantValue := 0 }, { name := "CASES", type := .long, accessFlags := 24, slot := 2, constantValue := 0 }, { name := "ONES", type := .long, accessFlags := 26, slot := 3, constantValue := 0 }, { name := "LOWS", type := .long, accessFlags := 26, slot := 4, constantValue := 0 }]
  methods := #[k2m0, k2m1]
  instanceTypes := #[]
  staticTypes := #[(.object "java/lang/invoke/VarHandle"), .long, .long, .long, .long]
  resolved := Array.replicate 99 none
  statics := none }

def pool3 : Array CpInfo := pool [(1, u "java/lang/Cloneable"), (0, .class_ 1), (0, u "java/lang/Object"), (0, .class_ 3)] 3

/-- java/lang/Cloneable -/
def k3 : Class := { plain "java/lang/Cloneable" (some 0) with
  accessFlags := 1537
  interfaces := #[]
  cf := some (fileOf pool3 2 #[] #[] 1537 4 #[] #[])
  fields := #[]
  methods := #[]
  instanceTypes := #[]
  staticTypes := #[]
  resolved := Array.replicate 8 none
  statics := none }

def pool4 : Array CpInfo := pool [(1, u "java/io/Serializable"), (0, .class_ 1), (0, u "java/lang/Object"), (0, .class_ 3)] 3

/-- java/io/Serializable -/
def k4 : Class := { plain "java/io/Serializable" (some 0) with
  accessFlags := 1537
  interfaces := #[]
  cf := some (fileOf pool4 2 #[] #[] 1537 4 #[] #[])
  fields := #[]
  methods := #[]
  instanceTypes := #[]
  staticTypes := #[]
  resolved := Array.replicate 8 none
  statics := none }

/-- the primitive byte -/
def k5 : Class := { plain "byte" none with kind := .primitive 'B', accessFlags := 0x411 }
/-- [B -/
def k6 : Class := { plain "[B" (some 0) with kind := .array 5 .byte, interfaces := #[3, 4], accessFlags := 1041 }

/-- the primitive int -/
def k7 : Class := { plain "int" none with kind := .primitive 'I', accessFlags := 0x411 }
/-- [I -/
def k8 : Class := { plain "[I" (some 0) with kind := .array 7 .int, interfaces := #[3, 4], accessFlags := 1041 }

def heap : Heap := #[]
def classes : Array Class := #[k0, k1, k2, k3, k4, k5, k6, k7, k8]
def interned : List (Array UInt16 × Addr) := []
def slotsUsed : Nat := 0
def theMethod : MethodId := ⟨1, 1⟩
def args0 : Array Value := #[.int 1, .int 300, .int 2, .int 7]
def aboutOver (below : List Frame) : State where
  vm := { classes := classes, interned := interned.toArray }
  heap := heap
  slotsUsed := slotsUsed
  threads := #[{ frames := .invoking theMethod args0 :: below }]
def below0 : List Frame := [.native { method := ⟨0, 0⟩, args := #[] }]
def about1 : State := aboutOver below0
def p0 : Program := .bare "" "" ""
def e0 : Env := launch0.env 0 0 0
theorem w_frames : about1.frames = Frame.invoking theMethod args0 :: below0 := rfl
set_option maxRecDepth 65536 in
theorem w_args : argsFit about1.vm theMethod args0 = true := by decide +kernel
set_option maxRecDepth 65536 in
theorem w_heap : heapFits about1 = true := by decide +kernel
set_option maxRecDepth 65536 in
theorem w_runnable : about1.curStatus? = some .runnable := by decide +kernel
set_option maxRecDepth 65536 in
theorem w_alone : about1.alone = true := by decide +kernel
set_option maxRecDepth 65536 in
theorem w_named : about1.methodNamed? x = some theMethod := by decide +kernel
set_option maxRecDepth 65536 in
theorem w_hears : about1.hears theMethod below0 = true := by decide +kernel
set_option maxRecDepth 65536 in
theorem w_ripe : about1.ripe theMethod args0 below0 = true := by decide +kernel
theorem w_running : about1.status = .running := rfl
set_option maxRecDepth 65536 in
theorem w_room : about1.hasRoom e0.platform room_1 = true :=
  launch0.hasRoom_least _ room_1 (by decide +kernel) (by decide +kernel) (by decide +kernel) (by decide +kernel) (by decide +kernel) (by decide +kernel)
theorem allAtoms_all (ts : List Jvm.Cond) (a : Array Jvm.Value) (st : Jvm.State) : (allAtoms ts).before a st = ts.all (fun c => c.before a st) := by
  induction ts with
  | nil => rfl
  | cons c t ih =>
    show (Jvm.Cond.and c (allAtoms t)).before a st = _
    rw [Jvm.Cond.before_and, ih, List.all_cons]
def words1 : List Jvm.Cond := Jvm.Cond.code x code maxLocals ret :: tables_1
/-- a 'code' word, met by the world's own term for the bytes: nothing is compared byte by byte -/
theorem code_word {y : MethodName} {bytes : ByteArray} {mx : Nat} {rt : Option FieldType} {a : Array Value} {s : State} {m : MethodId} {meth : Method} {c : Code} (h1 : s.methodNamed? y = some m) (h2 : s.vm.method? m = some meth) (h3 : meth.code = some c) (h4 : c.code = bytes)
    (h5 : (c.maxLocals == mx && c.exceptionTable.isEmpty && decide (c.maxStack ≤ mostOperands) && decide (meth.sig.returnType = rt) && !meth.locks && decide (parseMethodDescriptor y.desc = some meth.sig)) = true) : (Jvm.Cond.code y bytes mx rt).before a s = true := by
  simp only [Bool.and_eq_true, beq_iff_eq, Bool.not_eq_true', decide_eq_true_eq] at h5
  obtain ⟨⟨⟨⟨⟨g1, g2⟩, g3⟩, g4⟩, g5⟩, g6⟩ := h5
  simp [Cond.before, Cond.holds, Cond.value, h1, h2, h3, h4, g1, g2, g3, g4, g5, g6]
def isCode : Jvm.Cond → Bool
  | .code _ _ _ _ => true
  | _ => false
theorem all_split {L : List Jvm.Cond} {P : Jvm.Cond → Bool} (h1 : L.all (fun c => isCode c || P c) = true) (h2 : ∀ c ∈ L.filter isCode, P c = true) : L.all P = true := by
  refine List.all_eq_true.mpr fun c hc => ?_
  have h := List.all_eq_true.mp h1 c hc
  rcases Bool.eq_false_or_eq_true (isCode c) with hi | hi
  · exact h2 c (List.mem_filter.mpr ⟨hc, hi⟩)
  · simpa [hi] using h
set_option maxRecDepth 65536 in
theorem w_c0 : (Jvm.Cond.code x code maxLocals ret).before args0 about1 = true := code_word (m := ⟨1, 1⟩) (meth := k1m1) (c := k1c1) (by decide +kernel) rfl rfl rfl (by decide +kernel)
set_option maxRecDepth 65536 in
theorem w_c1 : (Jvm.Cond.code ({ cls := "com/example/predicate/predicate/document/Utf8", name := "encode", desc := "(I[BI)I" } : Jvm.MethodName) prog_39_method_2_code (4 : Nat) (Option.some Jvm.ClassFile.FieldType.int)).before args0 about1 = true := code_word (m := ⟨2, 1⟩) (meth := k2m1) (c := k2c1) (by decide +kernel) rfl rfl rfl (by decide +kernel)
set_option maxRecDepth 65536 in
theorem w_c2 : (Jvm.Cond.code ({ cls := "com/example/predicate/predicate/document/Utf8EncodePinLaw", name := "expected", desc := "(IIIBI)B" } : Jvm.MethodName) method_3_code (8 : Nat) (Option.some Jvm.ClassFile.FieldType.byte)).before args0 about1 = true := code_word (m := ⟨1, 2⟩) (meth := k1m2) (c := k1c2) (by decide +kernel) rfl rfl rfl (by decide +kernel)
def codes1 : List Jvm.Cond := [Jvm.Cond.code x code maxLocals ret, Jvm.Cond.code ({ cls := "com/example/predicate/predicate/document/Utf8", name := "encode", desc := "(I[BI)I" } : Jvm.MethodName) prog_39_method_2_code (4 : Nat) (Option.some Jvm.ClassFile.FieldType.int), Jvm.Cond.code ({ cls := "com/example/predicate/predicate/document/Utf8EncodePinLaw", name := "expected", desc := "(IIIBI)B" } : Jvm.MethodName) method_3_code (8 : Nat) (Option.some Jvm.ClassFile.FieldType.byte)]
set_option maxRecDepth 65536 in
theorem codes_eq : words1.filter isCode = codes1 := rfl
theorem w_codes : ∀ c ∈ words1.filter isCode, c.before args0 about1 = true := by
  rw [codes_eq]
  intro c hc
  simp only [codes1, List.mem_cons, List.not_mem_nil, or_false] at hc
  rcases hc with rfl | rfl | rfl
  · exact w_c0
  · exact w_c1
  · exact w_c2
set_option maxRecDepth 65536 in
theorem w_t1 : words1.all (fun c => isCode c || c.before args0 about1) = true := by decide +kernel
theorem w_tables : (allAtoms (Jvm.Cond.code x code maxLocals ret :: tables_1)).before args0 about1 = true := by
  rw [allAtoms_all]
  show words1.all (fun c => c.before args0 about1) = true
  refine all_split ?_ w_codes
  rw [w_t1]
set_option maxRecDepth 65536 in
theorem w_case : (Jvm.Cond.and given_1 narrow_1).before args0 about1 = true := by decide +kernel
theorem w_applies : (headSpec (Jvm.Cond.code x code maxLocals ret :: tables_1) room_1).applies x e0.platform about1 = true :=
  (Spec.applies_iff w_frames).mpr ⟨w_running, w_runnable, w_alone, w_named, w_hears, w_ripe, w_room, w_tables⟩
theorem atStart : AtStart classFile x code maxLocals ret World_1 tables_1 room_1 Calls_1 rest_1 Pre_1 launch0 p0 e0 about1 theMethod args0 below0 :=
  ⟨lists_1, trivial, launch0.admits_env _ _ _, launch0.least_env, fairChoices_fair.cas, fairChoices_fair.clock, w_frames, w_args, w_heap, w_applies, trivial, trivial, w_case⟩
end start1
theorem witness_1 : WitnessClaimed_1 := ⟨start1.p0, start1.e0, start1.about1, start1.theMethod, start1.args0, start1.below0, start1.atStart⟩
end Jvm.Pilot.@@N@@
