import JvmDerived
import JvmDerived.Pilot.@@N@@Statement
import JvmDerived.Pilot.@@N@@Code
set_option linter.unusedVariables false
set_option linter.unusedSimpArgs false
@@BLOCK:NumsL.lean.txt@@
namespace Jvm.Pilot.@@N@@
open Jvm Jvm.ClassFile Sem Op Lib Jvm.Free Jvm.Stand Jvm.LawKit Jvm.RoadKit Bundle Jvm.Pilot.@@N@@.Jvm.D
/-! ## Our kit: from a frame the run comes to an end of which Q speaks -/
def Ends (p : Program) (e : Env) (below : List Frame) (s : State) (C S : Nat) (Q : Option Value → Heap → List Loc → Prop) (T : State) (g : JFrame) : Prop :=
  ∃ s₂ o, Steps p.tables e below (T.setTop g) s₂ ∧ s₂.status = .running ∧ Ended s₂ below o ∧ ∃ v L, o = .returned v ∧ Q v s₂.heap L ∧ FrameEnd s o s₂ L C S
abbrev Pays (l : Launch) (y : MethodName) (bytes : ByteArray) (maxL : Nat) (rt : Option FieldType) (ws : List Jvm.Cond) (rm : Room) (as : Array Value) (Z : State) (h0 : Heap) (Q : Option Value → Heap → List Loc → Prop) : Prop :=
  MetFree l y (head1 (Jvm.Cond.code y bytes maxL rt :: ws) rm) (fun a U => a = as ∧ Z.Warmed39 U.vm ∧ U.heap = h0) (fun _ _ _ _ _ => True) (fun _ U o U' => ∃ v L, o = .returned v ∧ Q v U'.heap L ∧ FrameEnd U o U' L rm.cells rm.slots)
section Kit
variable {p : Program} {l : Launch} {e : Env} {R : Room} {s : State} {m : MethodId} {args : Array Value} {below : List Frame} {meth : Method} {c : Code} {T T' : State} {locs : List Loc} {cells slots : Nat} {Z : State} {h h' h0 : Heap} {C S : Nat} {Q : Option Value → Heap → List Loc → Prop} {g g' : JFrame} {pc : Nat} {Ls : Array Slot} {rest : List Value}
theorem Ends.to (k : ∀ t, Steps p.tables e below (T'.setTop g') t → Steps p.tables e below (T.setTop g) t) (q : Ends p e below s C S Q T' g') : Ends p e below s C S Q T g := by
  obtain ⟨s₂, o, st, r⟩ := q
  exact ⟨s₂, o, k _ st, r⟩
theorem Ends.cast (k : g = g') (q : Ends p e below s C S Q T g') : Ends p e below s C S Q T g := k ▸ q
theorem Ends.retI {z : Int32} (X : Stand p l e R s m args below meth c T locs cells slots) (hx : p.tables.exec = Jvm.exec) (hret : meth.sig.returnType = some .int) (hd : decode c.code pc = .ok (.ireturn, 1)) (hlk : meth.locks = false) (hc : cells ≤ C) (hs : slots ≤ S) (q : Q (some (.int z)) T.heap locs) :
    Ends p e below s C S Q T (mkF m pc Ls (.int z :: rest)) := by
  obtain ⟨fs, hr, hrun, hended, hW, hsame⟩ := X.leave (v := some (.int z)) (fun h => by rw [hret] at h; cases h) hlk
  refine ⟨_, _, ?_, hrun, hended, _, _, rfl, q, ⟨_, rfl⟩, hW, hsame.mono hc hs⟩
  have hm' : T.vm.method? m = some meth := X.method'
  have hn : narrow .int (.int z) = .int z := rfl
  show Steps p.tables e below (T.setTop { method := m, pc := pc, locals := Ls, stack := _ :: rest, locked := none }) _
  jvm_step X.here [X.here.top, hx, hd, hm', hret, hn]
  first | (intro acts; rw [hr _ acts rfl rfl rfl]) | rw [hr _ _ rfl rfl rfl]
  exact Steps.refl _
theorem Ends.retN {z : Int32} {t : FieldType} (ht : t = .boolean ∨ t = .byte ∨ t = .char ∨ t = .short) (X : Stand p l e R s m args below meth c T locs cells slots) (hx : p.tables.exec = Jvm.exec) (hret : meth.sig.returnType = some t) (hd : decode c.code pc = .ok (.ireturn, 1)) (hlk : meth.locks = false) (hc : cells ≤ C) (hs : slots ≤ S) (q : Q (some (.int (nar t z))) T.heap locs) :
    Ends p e below s C S Q T (mkF m pc Ls (.int z :: rest)) := by
  obtain ⟨fs, hr, hrun, hended, hW, hsame⟩ := X.leave (v := some (.int (nar t z))) (fun h => by rw [hret] at h; cases h) hlk
  exact ⟨_, _, Jvm.RoadKit.retN X hx hret ht hd hr, hrun, hended, _, _, rfl, q, ⟨_, rfl⟩, hW, hsame.mono hc hs⟩
theorem Ends.retJ {z : Int64} (X : Stand p l e R s m args below meth c T locs cells slots) (hx : p.tables.exec = Jvm.exec) (hret : meth.sig.returnType = some .long) (hd : decode c.code pc = .ok (.lreturn, 1)) (hlk : meth.locks = false) (hc : cells ≤ C) (hs : slots ≤ S) (q : Q (some (.long z)) T.heap locs) :
    Ends p e below s C S Q T (mkF m pc Ls [.long z]) := by
  obtain ⟨fs, hr, hrun, hended, hW, hsame⟩ := X.leave (v := some (.long z)) (fun h => by rw [hret] at h; cases h) hlk
  exact ⟨_, _, X.lreturnOut hx hret hd hr, hrun, hended, _, _, rfl, q, ⟨_, rfl⟩, hW, hsame.mono hc hs⟩
theorem Ends.retV (X : Stand p l e R s m args below meth c T locs cells slots) (hx : p.tables.exec = Jvm.exec) (hret : meth.sig.returnType = none) (hd : decode c.code pc = .ok (.return_, 1)) (hlk : meth.locks = false) (hc : cells ≤ C) (hs : slots ≤ S) (q : Q none T.heap locs) :
    Ends p e below s C S Q T (mkF m pc Ls []) := by
  obtain ⟨fs, hr, hrun, hended, hW, hsame⟩ := X.leave (v := none) (fun _ => rfl) hlk
  exact ⟨_, _, X.returnOut hx hret hd hr, hrun, hended, _, _, rfl, q, ⟨_, rfl⟩, hW, hsame.mono hc hs⟩
theorem Ends.retA {a : Addr} {t : FieldType} (X : Stand p l e R s m args below meth c T locs cells slots) (hx : p.tables.exec = Jvm.exec) (hret : meth.sig.returnType = some (.array t)) (hd : decode c.code pc = .ok (.areturn, 1)) (hlk : meth.locks = false) (hc : cells ≤ C) (hs : slots ≤ S) (q : Q (some (.ref a)) T.heap locs) :
    Ends p e below s C S Q T (mkF m pc Ls (.ref a :: rest)) := by
  obtain ⟨fs, hr, hrun, hended, hW, hsame⟩ := X.leave (v := some (.ref a)) (fun h => by rw [hret] at h; cases h) hlk
  refine ⟨_, _, ?_, hrun, hended, _, _, rfl, q, ⟨_, rfl⟩, hW, hsame.mono hc hs⟩
  have hm' : T.vm.method? m = some meth := X.method'
  show Steps p.tables e below (T.setTop { method := m, pc := pc, locals := Ls, stack := _ :: rest, locked := none }) _
  jvm_step X.here [X.here.top, hx, hd, hm', hret, Value.isRef, FieldType.isReference]
  first | (intro acts; rw [hr _ acts rfl rfl rfl]) | rw [hr _ _ rfl rfl rfl]
  exact Steps.refl _
theorem Pays.of {y : MethodName} {bytes : ByteArray} {maxL : Nat} {rt : Option FieldType} {ws : List Jvm.Cond} {rm : Room} {as : Array Value} (hp : plainFor y = true)
    (body : ∀ (p : Program) (e : Env) (s : State) (m : MethodId) (below : List Frame) (meth : Method) (c : Code) (s₁ : State), p.tables.exec = Jvm.exec → c.code = bytes → c.maxLocals = maxL → s.vm.findClass y.cls = some m.cls → meth.name = y.name → meth.sig.returnType = rt → meth.locks = false → Z.Warmed39 s.vm →
      Stand p l e rm s m as below meth c s₁ [] 0 0 → s₁.heap = h0 → Ends p e below s rm.cells rm.slots Q s₁ (entryFrame m as maxL)) : Pays l y bytes maxL rt ws rm as Z h0 Q := by
  refine MetFree.of_bodySF hp hisR ?_
  intro p e s m args below meth c s₁ Bd hml0 hP hK
  obtain ⟨rfl, hZ, hh⟩ := hP
  exact body p e s m below meth c s₁ Bd.exec Bd.bytes hml0 (findClass_of_methodNamed Bd.named) (name_of_methodNamed Bd.named Bd.method).1 Bd.returns Bd.notSynchronized hZ (Stand.of_body Bd) (by rw [← hh, Bd.state]; rfl)
/-! ## An array by its values -/
def BA (Z : State) (h : Heap) (a : Addr) (ty : FieldType) (n : Nat) (f : Nat → Value) : Prop := ∃ cl : Cell, Arr Z h a cl ty ∧ cl.slots.size = n ∧ ∀ j, j < n → cl.slots[j]? = some (f j)
abbrev BB (Z : State) (h : Heap) (a : Addr) (n : Nat) (f : Nat → Int32) : Prop := BA Z h a .byte n (fun j => .int (f j))
abbrev BL (Z : State) (h : Heap) (a : Addr) (n : Nat) (f : Nat → Int64) : Prop := BA Z h a .long n (fun j => .long (f j))
def upd {α : Type} (f : Nat → α) (i : Nat) (x : α) : Nat → α := fun j => if j = i then x else f j
theorem upd_same {α : Type} (f : Nat → α) (i : Nat) (x : α) : upd f i x i = x := if_pos rfl
theorem upd_ne {α : Type} (f : Nat → α) {i j : Nat} (x : α) (q : j ≠ i) : upd f i x j = f j := if_neg q
variable {a b : Addr} {ty : FieldType} {n i sl : Nat} {f : Nat → Value} {v : Value} {ws : List Addr} {j x z : Int32}
theorem BA.ext (E : Ext h h') (B : BA Z h a ty n f) : BA Z h' a ty n f := by obtain ⟨cl, A, r⟩ := B; exact ⟨cl, A.ext E, r⟩
theorem BA.other (W : Wr h h' a sl v) (B : BA Z h b ty n f) (q : b ≠ a) : BA Z h' b ty n f := by obtain ⟨cl, A, r⟩ := B; exact ⟨cl, A.other W q, r⟩
theorem BA.keep (B : BA Z h a ty n f) (K : Keep h h' ws) (q : a ∉ ws) : BA Z h' a ty n f := by obtain ⟨cl, A, r⟩ := B; exact ⟨cl, ⟨K.2.1 a cl A.1 q, A.2⟩, r⟩
theorem BA.lt (B : BA Z h a ty n f) : a < h.size := by obtain ⟨cl, A, r⟩ := B; exact A.lt
theorem BA.congr {f' : Nat → Value} (B : BA Z h a ty n f) (q : ∀ j, j < n → f j = f' j) : BA Z h a ty n f' := by obtain ⟨cl, A, s, r⟩ := B; exact ⟨cl, A, s, fun j hj => (r j hj).trans (congrArg some (q j hj))⟩
theorem BA.set (W : Wr h h' a i v) (B : BA Z h a ty n f) (hi : i < n) : BA Z h' a ty n (upd f i v) := by
  obtain ⟨cl, A, s, r⟩ := B
  refine ⟨cl.setSlot i v, A.same W, by simp [Cell.setSlot, s], fun j hj => ?_⟩
  show (cl.slots.setIfInBounds i v)[j]? = _
  by_cases e : j = i
  · subst e
    rw [upd_same, Array.getElem?_setIfInBounds_self_of_lt (by rw [s]; exact hi)]
  · rw [upd_ne _ _ e, Array.getElem?_setIfInBounds_ne (Ne.symm e)]
    exact r j hj
theorem BA.inb {cl : Cell} (s : cl.slots.size = n) (h0 : ¬ j < 0) (hi : j.toNatClampNeg = i) (hn : i < n) : ¬ (j < 0 ∨ cl.slots.size ≤ j.toNatClampNeg) := by
  rintro (q | q)
  · exact h0 q
  · rw [hi, s] at q; exact absurd hn (Nat.not_lt.mpr q)
theorem BA.stB {f : Nat → Int32} (X : Stand p l e R s m args below meth c T locs cells slots) (hx : p.tables.exec = Jvm.exec) (hZ : Z.Warmed39 s.vm) (eT : T.heap = h) (B : BB Z h a n f) (h0 : ¬ j < 0) (hi : j.toNatClampNeg = i) (hn : i < n) (hg : g.method = m) (hs : g.stack = .int x :: .int j :: .ref a :: rest) (hd : decode c.code g.pc = .ok (.bastore, 1)) :
    ∃ T' h', Stand p l e R s m args below meth c T' (locs ++ [⟨a, j.toNatClampNeg⟩]) cells slots ∧ T'.heap = h' ∧ Wr h h' a j.toNatClampNeg (.int (nar .byte x)) ∧ BB Z h' a n (upd f i x.toInt8.toInt32) ∧ ∀ target, Steps p.tables e below (T'.setTop { g with pc := g.pc + 1, stack := rest }) target → Steps p.tables e below (T.setTop g) target := by
  obtain ⟨cl, A, s, r⟩ := id B
  obtain ⟨T', h', X', e', W, st⟩ := Jvm.RoadKit.stB X hx hZ eT A (BA.inb s h0 hi hn) hg hs hd
  refine ⟨T', h', X', e', W, ?_, st⟩
  rw [hi] at W
  refine (BA.set W B hn).congr fun j _ => ?_
  by_cases e : j = i
  · subst e; rw [upd_same, upd_same]; rfl
  · rw [upd_ne _ _ e, upd_ne _ _ e]
theorem BA.stL {f : Nat → Int64} {x : Int64} (X : Stand p l e R s m args below meth c T locs cells slots) (hx : p.tables.exec = Jvm.exec) (hZ : Z.Warmed39 s.vm) (eT : T.heap = h) (B : BL Z h a n f) (h0 : ¬ j < 0) (hi : j.toNatClampNeg = i) (hn : i < n) (hg : g.method = m) (hs : g.stack = .long x :: .int j :: .ref a :: rest) (hd : decode c.code g.pc = .ok (.lastore, 1)) :
    ∃ T' h', Stand p l e R s m args below meth c T' (locs ++ [⟨a, j.toNatClampNeg⟩]) cells slots ∧ T'.heap = h' ∧ Wr h h' a j.toNatClampNeg (.long x) ∧ BL Z h' a n (upd f i x) ∧ ∀ target, Steps p.tables e below (T'.setTop { g with pc := g.pc + 1, stack := rest }) target → Steps p.tables e below (T.setTop g) target := by
  obtain ⟨cl, A, s, r⟩ := id B
  obtain ⟨T', h', X', e', W, st⟩ := Jvm.RoadKit.stJ X hx hZ eT A (BA.inb s h0 hi hn) hg hs hd
  refine ⟨T', h', X', e', W, ?_, st⟩
  rw [hi] at W
  refine (BA.set W B hn).congr fun j _ => ?_
  by_cases e : j = i
  · subst e; rw [upd_same, upd_same]
  · rw [upd_ne _ _ e, upd_ne _ _ e]
theorem BA.ldB {f : Nat → Int32} (X : Stand p l e R s m args below meth c T locs cells slots) (hx : p.tables.exec = Jvm.exec) (hZ : Z.Warmed39 s.vm) (eT : T.heap = h) (B : BB Z h a n f) (h0 : ¬ j < 0) (hi : j.toNatClampNeg = i) (hn : i < n) (hg : g.method = m) (hs : g.stack = .int j :: .ref a :: rest) (hd : decode c.code g.pc = .ok (.baload, 1)) (target : State)
    (k : Steps p.tables e below (T.setTop { g with pc := g.pc + 1, stack := .int (f i) :: rest }) target) : Steps p.tables e below (T.setTop g) target := by
  obtain ⟨cl, A, s, r⟩ := id B
  exact X.baloadBytes hx (j := j) (v := .int (f i)) (by rw [eT]; exact A.1) (State.isArrayOf_alike hZ.alike A.2.1) A.2.2 (BA.inb s h0 hi hn) (by rw [hi]; exact r i hn) hg hs hd target k
theorem BA.ldL {f : Nat → Int64} (X : Stand p l e R s m args below meth c T locs cells slots) (hx : p.tables.exec = Jvm.exec) (hZ : Z.Warmed39 s.vm) (eT : T.heap = h) (B : BL Z h a n f) (h0 : ¬ j < 0) (hi : j.toNatClampNeg = i) (hn : i < n) (hg : g.method = m) (hs : g.stack = .int j :: .ref a :: rest) (hd : decode c.code g.pc = .ok (.laload, 1)) (target : State)
    (k : Steps p.tables e below (T.setTop { g with pc := g.pc + 1, stack := .long (f i) :: rest }) target) : Steps p.tables e below (T.setTop g) target := by
  obtain ⟨cl, A, s, r⟩ := id B
  exact X.laload hx (j := j) (v := .long (f i)) (by rw [eT]; exact A.1) (State.isArrayOf_alike hZ.alike A.2.1) A.2.2 (BA.inb s h0 hi hn) (by rw [hi]; exact r i hn) hg hs hd target k
theorem BA.len (X : Stand p l e R s m args below meth c T locs cells slots) (hx : p.tables.exec = Jvm.exec) (hZ : Z.Warmed39 s.vm) (eT : T.heap = h) (B : BA Z h a ty n f) (hz : n.toInt32 = z) (hg : g.method = m) (hs : g.stack = .ref a :: rest) (hd : decode c.code g.pc = .ok (.arraylength, 1)) (target : State)
    (k : Steps p.tables e below (T.setTop { g with pc := g.pc + 1, stack := .int z :: rest }) target) : Steps p.tables e below (T.setTop g) target := by
  obtain ⟨cl, A, s, r⟩ := B
  exact X.arraylength hx (by rw [eT]; exact A.1) (State.isArrayOf_alike hZ.alike A.2.1) hg hs hd target (by rw [s, hz]; exact k)
theorem BA.freshB {k : ClassId} (A : Arr Z h a (newA k .byte z) .byte) (q : z.toNatClampNeg = n) : BB Z h a n (fun _ => 0) := by
  refine ⟨_, A, (sz_new _ _ _).trans q, fun j hj => ?_⟩
  have hj' : j < z.toNatClampNeg := by rw [q]; exact hj
  simp [newA, hj', defaultValue]
theorem BA.freshL {k : ClassId} (A : Arr Z h a (newA k .long z) .long) (q : z.toNatClampNeg = n) : BL Z h a n (fun _ => 0) := by
  refine ⟨_, A, (sz_new _ _ _).trans q, fun j hj => ?_⟩
  have hj' : j < z.toNatClampNeg := by rw [q]; exact hj
  simp [newA, hj', defaultValue]
end Kit
theorem d1_0 : decode method_2_code 0 = .ok (.iload_n 1, 1) := by decide +kernel
theorem d1_1 : decode method_2_code 1 = .ok (.ldc 7, 2) := by decide +kernel
theorem d1_3 : decode method_2_code 3 = .ok (.iand, 1) := by decide +kernel
theorem d1_4 : decode method_2_code 4 = .ok (.istore_n 2, 1) := by decide +kernel
theorem d1_5 : decode method_2_code 5 = .ok (.iload_n 0, 1) := by decide +kernel
theorem d1_6 : decode method_2_code 6 = .ok (.iconst 3, 1) := by decide +kernel
theorem d1_7 : decode method_2_code 7 = .ok (.iand, 1) := by decide +kernel
theorem d1_8 : decode method_2_code 8 = .ok (.istore_n 3, 1) := by decide +kernel
theorem d1_9 : decode method_2_code 9 = .ok (.iload_n 3, 1) := by decide +kernel
theorem d1_10 : decode method_2_code 10 = .ok (.ifCond .ne 12, 3) := by decide +kernel
theorem d1_13 : decode method_2_code 13 = .ok (.iload_n 1, 1) := by decide +kernel
theorem d1_14 : decode method_2_code 14 = .ok (.bipush 127, 2) := by decide +kernel
theorem d1_16 : decode method_2_code 16 = .ok (.iand, 1) := by decide +kernel
theorem d1_17 : decode method_2_code 17 = .ok (.istore 4, 2) := by decide +kernel
theorem d1_19 : decode method_2_code 19 = .ok (.goto 73, 3) := by decide +kernel
theorem d1_22 : decode method_2_code 22 = .ok (.iload_n 3, 1) := by decide +kernel
theorem d1_23 : decode method_2_code 23 = .ok (.iconst 1, 1) := by decide +kernel
theorem d1_24 : decode method_2_code 24 = .ok (.if_icmp .ne 17, 3) := by decide +kernel
theorem d1_27 : decode method_2_code 27 = .ok (.sipush 128, 3) := by decide +kernel
theorem d1_30 : decode method_2_code 30 = .ok (.iload_n 2, 1) := by decide +kernel
theorem d1_31 : decode method_2_code 31 = .ok (.sipush 1920, 3) := by decide +kernel
theorem d1_34 : decode method_2_code 34 = .ok (.irem, 1) := by decide +kernel
theorem d1_35 : decode method_2_code 35 = .ok (.iadd, 1) := by decide +kernel
theorem d1_36 : decode method_2_code 36 = .ok (.istore 4, 2) := by decide +kernel
theorem d1_38 : decode method_2_code 38 = .ok (.goto 54, 3) := by decide +kernel
theorem d1_41 : decode method_2_code 41 = .ok (.iload_n 3, 1) := by decide +kernel
theorem d1_42 : decode method_2_code 42 = .ok (.iconst 2, 1) := by decide +kernel
theorem d1_43 : decode method_2_code 43 = .ok (.if_icmp .ne 40, 3) := by decide +kernel
theorem d1_46 : decode method_2_code 46 = .ok (.iload_n 2, 1) := by decide +kernel
theorem d1_47 : decode method_2_code 47 = .ok (.ldc 8, 2) := by decide +kernel
theorem d1_49 : decode method_2_code 49 = .ok (.irem, 1) := by decide +kernel
theorem d1_50 : decode method_2_code 50 = .ok (.istore 5, 2) := by decide +kernel
theorem d1_52 : decode method_2_code 52 = .ok (.iload 5, 2) := by decide +kernel
theorem d1_54 : decode method_2_code 54 = .ok (.ldc 9, 2) := by decide +kernel
theorem d1_56 : decode method_2_code 56 = .ok (.if_icmp .ge 14, 3) := by decide +kernel
theorem d1_59 : decode method_2_code 59 = .ok (.sipush 2048, 3) := by decide +kernel
theorem d1_62 : decode method_2_code 62 = .ok (.iload 5, 2) := by decide +kernel
theorem d1_64 : decode method_2_code 64 = .ok (.iadd, 1) := by decide +kernel
theorem d1_65 : decode method_2_code 65 = .ok (.istore 4, 2) := by decide +kernel
theorem d1_67 : decode method_2_code 67 = .ok (.goto 13, 3) := by decide +kernel
theorem d1_70 : decode method_2_code 70 = .ok (.ldc 10, 2) := by decide +kernel
theorem d1_72 : decode method_2_code 72 = .ok (.iload 5, 2) := by decide +kernel
theorem d1_74 : decode method_2_code 74 = .ok (.ldc 9, 2) := by decide +kernel
theorem d1_76 : decode method_2_code 76 = .ok (.isub, 1) := by decide +kernel
theorem d1_77 : decode method_2_code 77 = .ok (.iadd, 1) := by decide +kernel
theorem d1_78 : decode method_2_code 78 = .ok (.istore 4, 2) := by decide +kernel
theorem d1_80 : decode method_2_code 80 = .ok (.goto 12, 3) := by decide +kernel
theorem d1_83 : decode method_2_code 83 = .ok (.ldc 11, 2) := by decide +kernel
theorem d1_85 : decode method_2_code 85 = .ok (.iload_n 2, 1) := by decide +kernel
theorem d1_86 : decode method_2_code 86 = .ok (.ldc 12, 2) := by decide +kernel
theorem d1_88 : decode method_2_code 88 = .ok (.irem, 1) := by decide +kernel
theorem d1_89 : decode method_2_code 89 = .ok (.iadd, 1) := by decide +kernel
theorem d1_90 : decode method_2_code 90 = .ok (.istore 4, 2) := by decide +kernel
theorem d1_92 : decode method_2_code 92 = .ok (.iload 4, 2) := by decide +kernel
theorem d1_94 : decode method_2_code 94 = .ok (.ireturn, 1) := by decide +kernel
theorem pn_1 : plainName "com/example/predicate/predicate/document/Utf8CodePointPinLaw" = true := by first | (simp [plainName, overriddenIn]; done) | decide +kernel
theorem pd_1 : parseMethodDescriptor "(II)I" = some ⟨[.int, .int], some .int⟩ := by decide +kernel
theorem ef_1 (m : MethodId) (x0 : Int32) (x1 : Int32) : entryFrame m #[(.int x0), (.int x1)] 6 = mkF m 0 #[.val (.int x0), .val (.int x1), .unset, .unset, .unset, .unset] [] := by first | (simp [entryFrame, mkF, argsToLocals, Value.category]; done) | rfl
theorem d2_0 : decode prog_39_method_2_code 0 = .ok (.iload_n 2, 1) := by decide +kernel
theorem d2_1 : decode prog_39_method_2_code 1 = .ok (.istore_n 3, 1) := by decide +kernel
theorem d2_2 : decode prog_39_method_2_code 2 = .ok (.iload_n 0, 1) := by decide +kernel
theorem d2_3 : decode prog_39_method_2_code 3 = .ok (.sipush 128, 3) := by decide +kernel
theorem d2_6 : decode prog_39_method_2_code 6 = .ok (.if_icmp .ge 14, 3) := by decide +kernel
theorem d2_9 : decode prog_39_method_2_code 9 = .ok (.aload_n 1, 1) := by decide +kernel
theorem d2_10 : decode prog_39_method_2_code 10 = .ok (.iload_n 3, 1) := by decide +kernel
theorem d2_11 : decode prog_39_method_2_code 11 = .ok (.iinc 3 1, 3) := by decide +kernel
theorem d2_14 : decode prog_39_method_2_code 14 = .ok (.iload_n 0, 1) := by decide +kernel
theorem d2_15 : decode prog_39_method_2_code 15 = .ok (.i2b, 1) := by decide +kernel
theorem d2_16 : decode prog_39_method_2_code 16 = .ok (.bastore, 1) := by decide +kernel
theorem d2_17 : decode prog_39_method_2_code 17 = .ok (.goto 166, 3) := by decide +kernel
theorem d2_20 : decode prog_39_method_2_code 20 = .ok (.iload_n 0, 1) := by decide +kernel
theorem d2_21 : decode prog_39_method_2_code 21 = .ok (.sipush 2048, 3) := by decide +kernel
theorem d2_24 : decode prog_39_method_2_code 24 = .ok (.if_icmp .ge 36, 3) := by decide +kernel
theorem d2_27 : decode prog_39_method_2_code 27 = .ok (.aload_n 1, 1) := by decide +kernel
theorem d2_28 : decode prog_39_method_2_code 28 = .ok (.iload_n 3, 1) := by decide +kernel
theorem d2_29 : decode prog_39_method_2_code 29 = .ok (.iinc 3 1, 3) := by decide +kernel
theorem d2_32 : decode prog_39_method_2_code 32 = .ok (.sipush 192, 3) := by decide +kernel
theorem d2_35 : decode prog_39_method_2_code 35 = .ok (.iload_n 0, 1) := by decide +kernel
theorem d2_36 : decode prog_39_method_2_code 36 = .ok (.bipush 6, 2) := by decide +kernel
theorem d2_38 : decode prog_39_method_2_code 38 = .ok (.ishr, 1) := by decide +kernel
theorem d2_39 : decode prog_39_method_2_code 39 = .ok (.ior, 1) := by decide +kernel
theorem d2_40 : decode prog_39_method_2_code 40 = .ok (.i2b, 1) := by decide +kernel
theorem d2_41 : decode prog_39_method_2_code 41 = .ok (.bastore, 1) := by decide +kernel
theorem d2_42 : decode prog_39_method_2_code 42 = .ok (.aload_n 1, 1) := by decide +kernel
theorem d2_43 : decode prog_39_method_2_code 43 = .ok (.iload_n 3, 1) := by decide +kernel
theorem d2_44 : decode prog_39_method_2_code 44 = .ok (.iinc 3 1, 3) := by decide +kernel
theorem d2_47 : decode prog_39_method_2_code 47 = .ok (.sipush 128, 3) := by decide +kernel
theorem d2_50 : decode prog_39_method_2_code 50 = .ok (.iload_n 0, 1) := by decide +kernel
theorem d2_51 : decode prog_39_method_2_code 51 = .ok (.bipush 63, 2) := by decide +kernel
theorem d2_53 : decode prog_39_method_2_code 53 = .ok (.iand, 1) := by decide +kernel
theorem d2_54 : decode prog_39_method_2_code 54 = .ok (.ior, 1) := by decide +kernel
theorem d2_55 : decode prog_39_method_2_code 55 = .ok (.i2b, 1) := by decide +kernel
theorem d2_56 : decode prog_39_method_2_code 56 = .ok (.bastore, 1) := by decide +kernel
theorem d2_57 : decode prog_39_method_2_code 57 = .ok (.goto 126, 3) := by decide +kernel
theorem d2_60 : decode prog_39_method_2_code 60 = .ok (.iload_n 0, 1) := by decide +kernel
theorem d2_61 : decode prog_39_method_2_code 61 = .ok (.ldc 7, 2) := by decide +kernel
theorem d2_63 : decode prog_39_method_2_code 63 = .ok (.if_icmp .ge 54, 3) := by decide +kernel
theorem d2_66 : decode prog_39_method_2_code 66 = .ok (.aload_n 1, 1) := by decide +kernel
theorem d2_67 : decode prog_39_method_2_code 67 = .ok (.iload_n 3, 1) := by decide +kernel
theorem d2_68 : decode prog_39_method_2_code 68 = .ok (.iinc 3 1, 3) := by decide +kernel
theorem d2_71 : decode prog_39_method_2_code 71 = .ok (.sipush 224, 3) := by decide +kernel
theorem d2_74 : decode prog_39_method_2_code 74 = .ok (.iload_n 0, 1) := by decide +kernel
theorem d2_75 : decode prog_39_method_2_code 75 = .ok (.bipush 12, 2) := by decide +kernel
theorem d2_77 : decode prog_39_method_2_code 77 = .ok (.ishr, 1) := by decide +kernel
theorem d2_78 : decode prog_39_method_2_code 78 = .ok (.ior, 1) := by decide +kernel
theorem d2_79 : decode prog_39_method_2_code 79 = .ok (.i2b, 1) := by decide +kernel
theorem d2_80 : decode prog_39_method_2_code 80 = .ok (.bastore, 1) := by decide +kernel
theorem d2_81 : decode prog_39_method_2_code 81 = .ok (.aload_n 1, 1) := by decide +kernel
theorem d2_82 : decode prog_39_method_2_code 82 = .ok (.iload_n 3, 1) := by decide +kernel
theorem d2_83 : decode prog_39_method_2_code 83 = .ok (.iinc 3 1, 3) := by decide +kernel
theorem d2_86 : decode prog_39_method_2_code 86 = .ok (.sipush 128, 3) := by decide +kernel
theorem d2_89 : decode prog_39_method_2_code 89 = .ok (.iload_n 0, 1) := by decide +kernel
theorem d2_90 : decode prog_39_method_2_code 90 = .ok (.bipush 6, 2) := by decide +kernel
theorem d2_92 : decode prog_39_method_2_code 92 = .ok (.ishr, 1) := by decide +kernel
theorem d2_93 : decode prog_39_method_2_code 93 = .ok (.bipush 63, 2) := by decide +kernel
theorem d2_95 : decode prog_39_method_2_code 95 = .ok (.iand, 1) := by decide +kernel
theorem d2_96 : decode prog_39_method_2_code 96 = .ok (.ior, 1) := by decide +kernel
theorem d2_97 : decode prog_39_method_2_code 97 = .ok (.i2b, 1) := by decide +kernel
theorem d2_98 : decode prog_39_method_2_code 98 = .ok (.bastore, 1) := by decide +kernel
theorem d2_99 : decode prog_39_method_2_code 99 = .ok (.aload_n 1, 1) := by decide +kernel
theorem d2_100 : decode prog_39_method_2_code 100 = .ok (.iload_n 3, 1) := by decide +kernel
theorem d2_101 : decode prog_39_method_2_code 101 = .ok (.iinc 3 1, 3) := by decide +kernel
theorem d2_104 : decode prog_39_method_2_code 104 = .ok (.sipush 128, 3) := by decide +kernel
theorem d2_107 : decode prog_39_method_2_code 107 = .ok (.iload_n 0, 1) := by decide +kernel
theorem d2_108 : decode prog_39_method_2_code 108 = .ok (.bipush 63, 2) := by decide +kernel
theorem d2_110 : decode prog_39_method_2_code 110 = .ok (.iand, 1) := by decide +kernel
theorem d2_111 : decode prog_39_method_2_code 111 = .ok (.ior, 1) := by decide +kernel
theorem d2_112 : decode prog_39_method_2_code 112 = .ok (.i2b, 1) := by decide +kernel
theorem d2_113 : decode prog_39_method_2_code 113 = .ok (.bastore, 1) := by decide +kernel
theorem d2_114 : decode prog_39_method_2_code 114 = .ok (.goto 69, 3) := by decide +kernel
theorem d2_117 : decode prog_39_method_2_code 117 = .ok (.aload_n 1, 1) := by decide +kernel
theorem d2_118 : decode prog_39_method_2_code 118 = .ok (.iload_n 3, 1) := by decide +kernel
theorem d2_119 : decode prog_39_method_2_code 119 = .ok (.iinc 3 1, 3) := by decide +kernel
theorem d2_122 : decode prog_39_method_2_code 122 = .ok (.sipush 240, 3) := by decide +kernel
theorem d2_125 : decode prog_39_method_2_code 125 = .ok (.iload_n 0, 1) := by decide +kernel
theorem d2_126 : decode prog_39_method_2_code 126 = .ok (.bipush 18, 2) := by decide +kernel
theorem d2_128 : decode prog_39_method_2_code 128 = .ok (.ishr, 1) := by decide +kernel
theorem d2_129 : decode prog_39_method_2_code 129 = .ok (.ior, 1) := by decide +kernel
theorem d2_130 : decode prog_39_method_2_code 130 = .ok (.i2b, 1) := by decide +kernel
theorem d2_131 : decode prog_39_method_2_code 131 = .ok (.bastore, 1) := by decide +kernel
theorem d2_132 : decode prog_39_method_2_code 132 = .ok (.aload_n 1, 1) := by decide +kernel
theorem d2_133 : decode prog_39_method_2_code 133 = .ok (.iload_n 3, 1) := by decide +kernel
theorem d2_134 : decode prog_39_method_2_code 134 = .ok (.iinc 3 1, 3) := by decide +kernel
theorem d2_137 : decode prog_39_method_2_code 137 = .ok (.sipush 128, 3) := by decide +kernel
theorem d2_140 : decode prog_39_method_2_code 140 = .ok (.iload_n 0, 1) := by decide +kernel
theorem d2_141 : decode prog_39_method_2_code 141 = .ok (.bipush 12, 2) := by decide +kernel
theorem d2_143 : decode prog_39_method_2_code 143 = .ok (.ishr, 1) := by decide +kernel
theorem d2_144 : decode prog_39_method_2_code 144 = .ok (.bipush 63, 2) := by decide +kernel
theorem d2_146 : decode prog_39_method_2_code 146 = .ok (.iand, 1) := by decide +kernel
theorem d2_147 : decode prog_39_method_2_code 147 = .ok (.ior, 1) := by decide +kernel
theorem d2_148 : decode prog_39_method_2_code 148 = .ok (.i2b, 1) := by decide +kernel
theorem d2_149 : decode prog_39_method_2_code 149 = .ok (.bastore, 1) := by decide +kernel
theorem d2_150 : decode prog_39_method_2_code 150 = .ok (.aload_n 1, 1) := by decide +kernel
theorem d2_151 : decode prog_39_method_2_code 151 = .ok (.iload_n 3, 1) := by decide +kernel
theorem d2_152 : decode prog_39_method_2_code 152 = .ok (.iinc 3 1, 3) := by decide +kernel
theorem d2_155 : decode prog_39_method_2_code 155 = .ok (.sipush 128, 3) := by decide +kernel
theorem d2_158 : decode prog_39_method_2_code 158 = .ok (.iload_n 0, 1) := by decide +kernel
theorem d2_159 : decode prog_39_method_2_code 159 = .ok (.bipush 6, 2) := by decide +kernel
theorem d2_161 : decode prog_39_method_2_code 161 = .ok (.ishr, 1) := by decide +kernel
theorem d2_162 : decode prog_39_method_2_code 162 = .ok (.bipush 63, 2) := by decide +kernel
theorem d2_164 : decode prog_39_method_2_code 164 = .ok (.iand, 1) := by decide +kernel
theorem d2_165 : decode prog_39_method_2_code 165 = .ok (.ior, 1) := by decide +kernel
theorem d2_166 : decode prog_39_method_2_code 166 = .ok (.i2b, 1) := by decide +kernel
theorem d2_167 : decode prog_39_method_2_code 167 = .ok (.bastore, 1) := by decide +kernel
theorem d2_168 : decode prog_39_method_2_code 168 = .ok (.aload_n 1, 1) := by decide +kernel
theorem d2_169 : decode prog_39_method_2_code 169 = .ok (.iload_n 3, 1) := by decide +kernel
theorem d2_170 : decode prog_39_method_2_code 170 = .ok (.iinc 3 1, 3) := by decide +kernel
theorem d2_173 : decode prog_39_method_2_code 173 = .ok (.sipush 128, 3) := by decide +kernel
theorem d2_176 : decode prog_39_method_2_code 176 = .ok (.iload_n 0, 1) := by decide +kernel
theorem d2_177 : decode prog_39_method_2_code 177 = .ok (.bipush 63, 2) := by decide +kernel
theorem d2_179 : decode prog_39_method_2_code 179 = .ok (.iand, 1) := by decide +kernel
theorem d2_180 : decode prog_39_method_2_code 180 = .ok (.ior, 1) := by decide +kernel
theorem d2_181 : decode prog_39_method_2_code 181 = .ok (.i2b, 1) := by decide +kernel
theorem d2_182 : decode prog_39_method_2_code 182 = .ok (.bastore, 1) := by decide +kernel
theorem d2_183 : decode prog_39_method_2_code 183 = .ok (.iload_n 3, 1) := by decide +kernel
theorem d2_184 : decode prog_39_method_2_code 184 = .ok (.ireturn, 1) := by decide +kernel
theorem pn_2 : plainName "com/example/predicate/predicate/document/Utf8" = true := by first | (simp [plainName, overriddenIn]; done) | decide +kernel
theorem pd_2 : parseMethodDescriptor "(I[BI)I" = some ⟨[.int, (.array .byte), .int], some .int⟩ := by decide +kernel
theorem ef_2 (m : MethodId) (x0 : Int32) (x1 : Addr) (x2 : Int32) : entryFrame m #[(.int x0), (.ref x1), (.int x2)] 4 = mkF m 0 #[.val (.int x0), .val (.ref x1), .val (.int x2), .unset] [] := by first | (simp [entryFrame, mkF, argsToLocals, Value.category]; done) | rfl
theorem d3_0 : decode prog_39_method_3_code 0 = .ok (.aload_n 0, 1) := by decide +kernel
theorem d3_1 : decode prog_39_method_3_code 1 = .ok (.iload_n 1, 1) := by decide +kernel
theorem d3_2 : decode prog_39_method_3_code 2 = .ok (.baload, 1) := by decide +kernel
theorem d3_3 : decode prog_39_method_3_code 3 = .ok (.sipush 255, 3) := by decide +kernel
theorem d3_6 : decode prog_39_method_3_code 6 = .ok (.iand, 1) := by decide +kernel
theorem d3_7 : decode prog_39_method_3_code 7 = .ok (.istore_n 2, 1) := by decide +kernel
theorem d3_8 : decode prog_39_method_3_code 8 = .ok (.iload_n 2, 1) := by decide +kernel
theorem d3_9 : decode prog_39_method_3_code 9 = .ok (.sipush 128, 3) := by decide +kernel
theorem d3_12 : decode prog_39_method_3_code 12 = .ok (.if_icmp .ge 8, 3) := by decide +kernel
theorem d3_15 : decode prog_39_method_3_code 15 = .ok (.iload_n 2, 1) := by decide +kernel
theorem d3_16 : decode prog_39_method_3_code 16 = .ok (.istore_n 3, 1) := by decide +kernel
theorem d3_17 : decode prog_39_method_3_code 17 = .ok (.goto 110, 3) := by decide +kernel
theorem d3_20 : decode prog_39_method_3_code 20 = .ok (.iload_n 2, 1) := by decide +kernel
theorem d3_21 : decode prog_39_method_3_code 21 = .ok (.sipush 224, 3) := by decide +kernel
theorem d3_24 : decode prog_39_method_3_code 24 = .ok (.if_icmp .ge 23, 3) := by decide +kernel
theorem d3_27 : decode prog_39_method_3_code 27 = .ok (.iload_n 2, 1) := by decide +kernel
theorem d3_28 : decode prog_39_method_3_code 28 = .ok (.bipush 31, 2) := by decide +kernel
theorem d3_30 : decode prog_39_method_3_code 30 = .ok (.iand, 1) := by decide +kernel
theorem d3_31 : decode prog_39_method_3_code 31 = .ok (.bipush 6, 2) := by decide +kernel
theorem d3_33 : decode prog_39_method_3_code 33 = .ok (.ishl, 1) := by decide +kernel
theorem d3_34 : decode prog_39_method_3_code 34 = .ok (.aload_n 0, 1) := by decide +kernel
theorem d3_35 : decode prog_39_method_3_code 35 = .ok (.iload_n 1, 1) := by decide +kernel
theorem d3_36 : decode prog_39_method_3_code 36 = .ok (.iconst 1, 1) := by decide +kernel
theorem d3_37 : decode prog_39_method_3_code 37 = .ok (.iadd, 1) := by decide +kernel
theorem d3_38 : decode prog_39_method_3_code 38 = .ok (.baload, 1) := by decide +kernel
theorem d3_39 : decode prog_39_method_3_code 39 = .ok (.bipush 63, 2) := by decide +kernel
theorem d3_41 : decode prog_39_method_3_code 41 = .ok (.iand, 1) := by decide +kernel
theorem d3_42 : decode prog_39_method_3_code 42 = .ok (.ior, 1) := by decide +kernel
theorem d3_43 : decode prog_39_method_3_code 43 = .ok (.istore_n 3, 1) := by decide +kernel
theorem d3_44 : decode prog_39_method_3_code 44 = .ok (.goto 83, 3) := by decide +kernel
theorem d3_47 : decode prog_39_method_3_code 47 = .ok (.iload_n 2, 1) := by decide +kernel
theorem d3_48 : decode prog_39_method_3_code 48 = .ok (.sipush 240, 3) := by decide +kernel
theorem d3_51 : decode prog_39_method_3_code 51 = .ok (.if_icmp .ge 35, 3) := by decide +kernel
theorem d3_54 : decode prog_39_method_3_code 54 = .ok (.iload_n 2, 1) := by decide +kernel
theorem d3_55 : decode prog_39_method_3_code 55 = .ok (.bipush 15, 2) := by decide +kernel
theorem d3_57 : decode prog_39_method_3_code 57 = .ok (.iand, 1) := by decide +kernel
theorem d3_58 : decode prog_39_method_3_code 58 = .ok (.bipush 12, 2) := by decide +kernel
theorem d3_60 : decode prog_39_method_3_code 60 = .ok (.ishl, 1) := by decide +kernel
theorem d3_61 : decode prog_39_method_3_code 61 = .ok (.aload_n 0, 1) := by decide +kernel
theorem d3_62 : decode prog_39_method_3_code 62 = .ok (.iload_n 1, 1) := by decide +kernel
theorem d3_63 : decode prog_39_method_3_code 63 = .ok (.iconst 1, 1) := by decide +kernel
theorem d3_64 : decode prog_39_method_3_code 64 = .ok (.iadd, 1) := by decide +kernel
theorem d3_65 : decode prog_39_method_3_code 65 = .ok (.baload, 1) := by decide +kernel
theorem d3_66 : decode prog_39_method_3_code 66 = .ok (.bipush 63, 2) := by decide +kernel
theorem d3_68 : decode prog_39_method_3_code 68 = .ok (.iand, 1) := by decide +kernel
theorem d3_69 : decode prog_39_method_3_code 69 = .ok (.bipush 6, 2) := by decide +kernel
theorem d3_71 : decode prog_39_method_3_code 71 = .ok (.ishl, 1) := by decide +kernel
theorem d3_72 : decode prog_39_method_3_code 72 = .ok (.ior, 1) := by decide +kernel
theorem d3_73 : decode prog_39_method_3_code 73 = .ok (.aload_n 0, 1) := by decide +kernel
theorem d3_74 : decode prog_39_method_3_code 74 = .ok (.iload_n 1, 1) := by decide +kernel
theorem d3_75 : decode prog_39_method_3_code 75 = .ok (.iconst 2, 1) := by decide +kernel
theorem d3_76 : decode prog_39_method_3_code 76 = .ok (.iadd, 1) := by decide +kernel
theorem d3_77 : decode prog_39_method_3_code 77 = .ok (.baload, 1) := by decide +kernel
theorem d3_78 : decode prog_39_method_3_code 78 = .ok (.bipush 63, 2) := by decide +kernel
theorem d3_80 : decode prog_39_method_3_code 80 = .ok (.iand, 1) := by decide +kernel
theorem d3_81 : decode prog_39_method_3_code 81 = .ok (.ior, 1) := by decide +kernel
theorem d3_82 : decode prog_39_method_3_code 82 = .ok (.istore_n 3, 1) := by decide +kernel
theorem d3_83 : decode prog_39_method_3_code 83 = .ok (.goto 44, 3) := by decide +kernel
theorem d3_86 : decode prog_39_method_3_code 86 = .ok (.iload_n 2, 1) := by decide +kernel
theorem d3_87 : decode prog_39_method_3_code 87 = .ok (.bipush 7, 2) := by decide +kernel
theorem d3_89 : decode prog_39_method_3_code 89 = .ok (.iand, 1) := by decide +kernel
theorem d3_90 : decode prog_39_method_3_code 90 = .ok (.bipush 18, 2) := by decide +kernel
theorem d3_92 : decode prog_39_method_3_code 92 = .ok (.ishl, 1) := by decide +kernel
theorem d3_93 : decode prog_39_method_3_code 93 = .ok (.aload_n 0, 1) := by decide +kernel
theorem d3_94 : decode prog_39_method_3_code 94 = .ok (.iload_n 1, 1) := by decide +kernel
theorem d3_95 : decode prog_39_method_3_code 95 = .ok (.iconst 1, 1) := by decide +kernel
theorem d3_96 : decode prog_39_method_3_code 96 = .ok (.iadd, 1) := by decide +kernel
theorem d3_97 : decode prog_39_method_3_code 97 = .ok (.baload, 1) := by decide +kernel
theorem d3_98 : decode prog_39_method_3_code 98 = .ok (.bipush 63, 2) := by decide +kernel
theorem d3_100 : decode prog_39_method_3_code 100 = .ok (.iand, 1) := by decide +kernel
theorem d3_101 : decode prog_39_method_3_code 101 = .ok (.bipush 12, 2) := by decide +kernel
theorem d3_103 : decode prog_39_method_3_code 103 = .ok (.ishl, 1) := by decide +kernel
theorem d3_104 : decode prog_39_method_3_code 104 = .ok (.ior, 1) := by decide +kernel
theorem d3_105 : decode prog_39_method_3_code 105 = .ok (.aload_n 0, 1) := by decide +kernel
theorem d3_106 : decode prog_39_method_3_code 106 = .ok (.iload_n 1, 1) := by decide +kernel
theorem d3_107 : decode prog_39_method_3_code 107 = .ok (.iconst 2, 1) := by decide +kernel
theorem d3_108 : decode prog_39_method_3_code 108 = .ok (.iadd, 1) := by decide +kernel
theorem d3_109 : decode prog_39_method_3_code 109 = .ok (.baload, 1) := by decide +kernel
theorem d3_110 : decode prog_39_method_3_code 110 = .ok (.bipush 63, 2) := by decide +kernel
theorem d3_112 : decode prog_39_method_3_code 112 = .ok (.iand, 1) := by decide +kernel
theorem d3_113 : decode prog_39_method_3_code 113 = .ok (.bipush 6, 2) := by decide +kernel
theorem d3_115 : decode prog_39_method_3_code 115 = .ok (.ishl, 1) := by decide +kernel
theorem d3_116 : decode prog_39_method_3_code 116 = .ok (.ior, 1) := by decide +kernel
theorem d3_117 : decode prog_39_method_3_code 117 = .ok (.aload_n 0, 1) := by decide +kernel
theorem d3_118 : decode prog_39_method_3_code 118 = .ok (.iload_n 1, 1) := by decide +kernel
theorem d3_119 : decode prog_39_method_3_code 119 = .ok (.iconst 3, 1) := by decide +kernel
theorem d3_120 : decode prog_39_method_3_code 120 = .ok (.iadd, 1) := by decide +kernel
theorem d3_121 : decode prog_39_method_3_code 121 = .ok (.baload, 1) := by decide +kernel
theorem d3_122 : decode prog_39_method_3_code 122 = .ok (.bipush 63, 2) := by decide +kernel
theorem d3_124 : decode prog_39_method_3_code 124 = .ok (.iand, 1) := by decide +kernel
theorem d3_125 : decode prog_39_method_3_code 125 = .ok (.ior, 1) := by decide +kernel
theorem d3_126 : decode prog_39_method_3_code 126 = .ok (.istore_n 3, 1) := by decide +kernel
theorem d3_127 : decode prog_39_method_3_code 127 = .ok (.iload_n 3, 1) := by decide +kernel
theorem d3_128 : decode prog_39_method_3_code 128 = .ok (.ireturn, 1) := by decide +kernel
theorem pn_3 : plainName "com/example/predicate/predicate/document/Utf8" = true := by first | (simp [plainName, overriddenIn]; done) | decide +kernel
theorem pd_3 : parseMethodDescriptor "([BI)I" = some ⟨[(.array .byte), .int], some .int⟩ := by decide +kernel
theorem ef_3 (m : MethodId) (x0 : Addr) (x1 : Int32) : entryFrame m #[(.ref x0), (.int x1)] 4 = mkF m 0 #[.val (.ref x0), .val (.int x1), .unset, .unset] [] := by first | (simp [entryFrame, mkF, argsToLocals, Value.category]; done) | rfl
theorem pn_0 : plainName "com/example/predicate/predicate/document/Utf8CodePointPinLaw" = true := by first | (simp [plainName, overriddenIn]; done) | decide +kernel
theorem pd_0 : parseMethodDescriptor "(IIIJ)Z" = some ⟨[.int, .int, .int, .long], some .boolean⟩ := by decide +kernel
theorem ef_0 (m : MethodId) (x0 : Int32) (x1 : Int32) (x2 : Int32) (x3 : Int64) : entryFrame m #[(.int x0), (.int x1), (.int x2), (.long x3)] maxLocals = mkF m 0 #[.val (.int x0), .val (.int x1), .val (.int x2), .val (.long x3), .second, .unset, .unset, .unset] [] := by first | (simp [entryFrame, mkF, argsToLocals, Value.category, maxLocals]; done) | rfl
theorem own_inc (n : Nat) : Int32.ofNat n + (1 : Int32) = Int32.ofNat (n + 1) := (Int32.ofNat_add n 1).symm
theorem own_toInt {n : Nat} (h : n < 2147483648) : (Int32.ofNat n).toInt = n := Int32.toInt_ofNat_of_lt h
theorem own_nneg {n : Nat} (h : n < 2147483648) : ¬ Int32.ofNat n < 0 := fun q => by
  have := Int32.lt_iff_toInt_lt.mp q
  rw [own_toInt h] at this; simp at this; omega
theorem own_clamp {n : Nat} (h : n < 2147483648) : (Int32.ofNat n).toNatClampNeg = n := by
  show (Int32.ofNat n).toInt.toNat = n
  rw [own_toInt h]; rfl
theorem own_addk (n : Nat) {k : Nat} {z : Int32} (hz : z = Int32.ofNat k) : Int32.ofNat n + z = Int32.ofNat (n + k) := by rw [hz, Int32.ofNat_add]
theorem own_of {x : Int32} (h : 0 ≤ x.toInt) : ∃ n : Nat, x = Int32.ofNat n ∧ (n : Int) = x.toInt := by
  have r := rng32 x
  refine ⟨x.toInt.toNat, ?_, by omega⟩
  apply Int32.toInt_inj.mp
  rw [own_toInt (by omega)]; omega
theorem own_31 (x : Int32) : 0 ≤ (x &&& 2147483647).toInt := by
  have e := Jvm.Kit.i32_mask x 2147483647 (k := 31) (by decide) (by decide)
  omega
def own_by (x : Int32) : Int32 := x.toInt8.toInt32.toInt8.toInt32
def own_len (P : Int32) : Nat := if P < 128 then 1 else if P < 2048 then 2 else if P < 65536 then 3 else 4
def own_enc (P : Int32) (t : Nat) (f : Nat → Int32) : Nat → Int32 :=
  if P < 128 then upd f t (own_by P)
  else if P < 2048 then upd (upd f t (own_by ((192 : Int32) ||| (P >>> ((6 : Int32) &&& 31))))) (t + 1) (own_by ((128 : Int32) ||| (P &&& 63)))
  else if P < 65536 then upd (upd (upd f t (own_by ((224 : Int32) ||| (P >>> ((12 : Int32) &&& 31))))) (t + 1) (own_by ((128 : Int32) ||| ((P >>> ((6 : Int32) &&& 31)) &&& 63)))) (t + 1 + 1) (own_by ((128 : Int32) ||| (P &&& 63)))
  else upd (upd (upd (upd f t (own_by ((240 : Int32) ||| (P >>> ((18 : Int32) &&& 31))))) (t + 1) (own_by ((128 : Int32) ||| ((P >>> ((12 : Int32) &&& 31)) &&& 63)))) (t + 1 + 1) (own_by ((128 : Int32) ||| ((P >>> ((6 : Int32) &&& 31)) &&& 63)))) (t + 1 + 1 + 1) (own_by ((128 : Int32) ||| (P &&& 63)))
set_option maxRecDepth 65536 in
set_option maxHeartbeats 40000000 in
def Q_rm2 (Z : State) (p1 : Int32) (a1 : Addr) (t : Nat) (f : Nat → Int32) (h0 : Heap) (n0 : Nat) : Option Value → Heap → List Loc → Prop := fun v h L => v = some (.int (Int32.ofNat (t + own_len p1))) ∧ Fr n0 L ∧ Keep h0 h [a1] ∧ BB Z h a1 8 (own_enc p1 t f)
set_option maxRecDepth 65536 in
set_option maxHeartbeats 40000000 in
theorem rm2 (l : Launch) (Z : State) (a0 : Array Value) (hw : ∀ d ∈ tables_1, d.before a0 Z = true) (ws : List Jvm.Cond) (p1 : Int32) (a1 : Addr) (t : Nat) (f : Nat → Int32) (h0 : Heap) (n0 : Nat) (Z0 : n0 ≤ h0.size) (ht : t + 4 ≤ 8) (B1 : BB Z h0 a1 8 f) (g1 : n0 ≤ a1) :
    Pays l (⟨"com/example/predicate/predicate/document/Utf8", "encode", "(I[BI)I"⟩ : MethodName) prog_39_method_2_code 4 (some .int) ws ({ frames := 0, cells := 0, slots := 0, locals := 0 } : Room) #[(.int p1), (.ref a1), (.int (Int32.ofNat t))] Z h0 (Q_rm2 Z p1 a1 t f h0 n0) := by
  refine Pays.of (plainFor_of_name pn_2) ?_
  intro p e s m below meth c s₁ hx hby hml hown hnm hret hlk hZ X0 e0
  have hown : s.vm.findClass "com/example/predicate/predicate/document/Utf8" = some m.cls := hown
  have hnm : meth.name = "encode" := hnm
  have hml : c.maxLocals = 4 := hml
  show Ends p e below s _ _ (fun v h L => v = some (.int (Int32.ofNat (t + own_len p1))) ∧ Fr n0 L ∧ Keep h0 h [a1] ∧ BB Z h a1 8 (own_enc p1 t f)) s₁ _
  refine Ends.cast (ef_2 m p1 a1 (Int32.ofNat t)) ?_
  have N0 := Fr.nil n0
  have K1 := Keep.refl h0 [a1]
  refine Ends.to (T' := s₁) (g' := (mkF m 1 #[.val (.int p1), .val (.ref a1), .val (.int (Int32.ofNat t)), .unset] [(.int (Int32.ofNat t))])) (fun tt_ kk_ => XS.iloadN X0.here hx rfl (hb hby d2_0) rfl kk_) ?_
  refine Ends.to (T' := s₁) (g' := (mkF m 2 #[.val (.int p1), .val (.ref a1), .val (.int (Int32.ofNat t)), .val (.int (Int32.ofNat t))] [])) (fun tt_ kk_ => XS.istoreN X0.here hx rfl (hb hby d2_1) rfl (l' := #[.val (.int p1), .val (.ref a1), .val (.int (Int32.ofNat t)), .val (.int (Int32.ofNat t))]) rfl kk_) ?_
  refine Ends.to (T' := s₁) (g' := (mkF m 3 #[.val (.int p1), .val (.ref a1), .val (.int (Int32.ofNat t)), .val (.int (Int32.ofNat t))] [(.int p1)])) (fun tt_ kk_ => XS.iloadN X0.here hx rfl (hb hby d2_2) rfl kk_) ?_
  refine Ends.to (T' := s₁) (g' := (mkF m 6 #[.val (.int p1), .val (.ref a1), .val (.int (Int32.ofNat t)), .val (.int (Int32.ofNat t))] [(.int (128 : Int32)), (.int p1)])) (fun tt_ kk_ => XS.sipush X0.here hx rfl (hb hby d2_3) kk_) ?_
  by_cases hc6 : p1 < (128 : Int32)
  · refine Ends.to (T' := s₁) (g' := (mkF m 9 #[.val (.int p1), .val (.ref a1), .val (.int (Int32.ofNat t)), .val (.int (Int32.ofNat t))] [])) (fun tt_ kk_ => XS.icmpNo X0.here hx rfl (hb hby d2_6) rfl (tlt hc6).2.1 kk_) ?_
    refine Ends.to (T' := s₁) (g' := (mkF m 10 #[.val (.int p1), .val (.ref a1), .val (.int (Int32.ofNat t)), .val (.int (Int32.ofNat t))] [(.ref a1)])) (fun tt_ kk_ => XS.aloadN X0.here hx rfl (hb hby d2_9) rfl rfl kk_) ?_
    refine Ends.to (T' := s₁) (g' := (mkF m 11 #[.val (.int p1), .val (.ref a1), .val (.int (Int32.ofNat t)), .val (.int (Int32.ofNat t))] [(.int (Int32.ofNat t)), (.ref a1)])) (fun tt_ kk_ => XS.iloadN X0.here hx rfl (hb hby d2_10) rfl kk_) ?_
    refine Ends.to (T' := s₁) (g' := (mkF m 14 #[.val (.int p1), .val (.ref a1), .val (.int (Int32.ofNat t)), .val (.int ((Int32.ofNat t) + (1 : Int32)))] [(.int (Int32.ofNat t)), (.ref a1)])) (fun tt_ kk_ => XS.iinc X0.here hx rfl (hb hby d2_11) rfl (l' := #[.val (.int p1), .val (.ref a1), .val (.int (Int32.ofNat t)), .val (.int ((Int32.ofNat t) + (1 : Int32)))]) rfl kk_) ?_
    rw [own_inc]
    refine Ends.to (T' := s₁) (g' := (mkF m 15 #[.val (.int p1), .val (.ref a1), .val (.int (Int32.ofNat t)), .val (.int (Int32.ofNat (t + 1)))] [(.int p1), (.int (Int32.ofNat t)), (.ref a1)])) (fun tt_ kk_ => XS.iloadN X0.here hx rfl (hb hby d2_14) rfl kk_) ?_
    refine Ends.to (T' := s₁) (g' := (mkF m 16 #[.val (.int p1), .val (.ref a1), .val (.int (Int32.ofNat t)), .val (.int (Int32.ofNat (t + 1)))] [(.int (p1.toInt8.toInt32)), (.int (Int32.ofNat t)), (.ref a1)])) (fun tt_ kk_ => XS.i2b X0.here hx rfl (hb hby d2_15) rfl kk_) ?_
    obtain ⟨T1, h1, X1, e1, W1, B1', st1⟩ := BA.stB X0 hx hZ e0 B1 (j := (Int32.ofNat t)) (i := t) (own_nneg (by omega)) (own_clamp (by omega)) (by omega) (g := (mkF m 16 #[.val (.int p1), .val (.ref a1), .val (.int (Int32.ofNat t)), .val (.int (Int32.ofNat (t + 1)))] [(.int (p1.toInt8.toInt32)), (.int (Int32.ofNat t)), (.ref a1)])) rfl rfl (hb hby d2_16)
    have K1 := Keep.wr K1 W1 (Or.inl (List.mem_of_getElem? (i := 0) rfl))
    have B1 := B1'
    clear B1'
    have N1 := Fr.snoc X1 N0 g1
    refine Ends.to (T' := T1) (g' := (mkF m 17 #[.val (.int p1), .val (.ref a1), .val (.int (Int32.ofNat t)), .val (.int (Int32.ofNat (t + 1)))] [])) (fun tt_ kk_ => st1 tt_ kk_) ?_
    refine Ends.to (T' := T1) (g' := (mkF m 183 #[.val (.int p1), .val (.ref a1), .val (.int (Int32.ofNat t)), .val (.int (Int32.ofNat (t + 1)))] [])) (fun tt_ kk_ => XS.goto X1.here hx rfl (pc0 := 17) (pc' := 183) rfl (hb hby d2_17) (by decide) (by decide) kk_) ?_
    refine Ends.to (T' := T1) (g' := (mkF m 184 #[.val (.int p1), .val (.ref a1), .val (.int (Int32.ofNat t)), .val (.int (Int32.ofNat (t + 1)))] [(.int (Int32.ofNat (t + 1)))])) (fun tt_ kk_ => XS.iloadN X1.here hx rfl (hb hby d2_183) rfl kk_) ?_
    exact Ends.retI X1 hx hret (hb hby d2_184) hlk (by decide) (by decide) ⟨by simp only [own_len, if_pos hc6], N1, by rw [e1]; exact ⟨K1, by simp only [own_enc, if_pos hc6]; exact B1⟩⟩
  · refine Ends.to (T' := s₁) (g' := (mkF m 20 #[.val (.int p1), .val (.ref a1), .val (.int (Int32.ofNat t)), .val (.int (Int32.ofNat t))] [])) (fun tt_ kk_ => XS.icmpYes X0.here hx rfl (pc0 := 6) (pc' := 20) rfl (hb hby d2_6) rfl (flt hc6).2.1 (by decide) (by decide) kk_) ?_
    refine Ends.to (T' := s₁) (g' := (mkF m 21 #[.val (.int p1), .val (.ref a1), .val (.int (Int32.ofNat t)), .val (.int (Int32.ofNat t))] [(.int p1)])) (fun tt_ kk_ => XS.iloadN X0.here hx rfl (hb hby d2_20) rfl kk_) ?_
    refine Ends.to (T' := s₁) (g' := (mkF m 24 #[.val (.int p1), .val (.ref a1), .val (.int (Int32.ofNat t)), .val (.int (Int32.ofNat t))] [(.int (2048 : Int32)), (.int p1)])) (fun tt_ kk_ => XS.sipush X0.here hx rfl (hb hby d2_21) kk_) ?_
    by_cases hc24 : p1 < (2048 : Int32)
    · refine Ends.to (T' := s₁) (g' := (mkF m 27 #[.val (.int p1), .val (.ref a1), .val (.int (Int32.ofNat t)), .val (.int (Int32.ofNat t))] [])) (fun tt_ kk_ => XS.icmpNo X0.here hx rfl (hb hby d2_24) rfl (tlt hc24).2.1 kk_) ?_
      refine Ends.to (T' := s₁) (g' := (mkF m 28 #[.val (.int p1), .val (.ref a1), .val (.int (Int32.ofNat t)), .val (.int (Int32.ofNat t))] [(.ref a1)])) (fun tt_ kk_ => XS.aloadN X0.here hx rfl (hb hby d2_27) rfl rfl kk_) ?_
      refine Ends.to (T' := s₁) (g' := (mkF m 29 #[.val (.int p1), .val (.ref a1), .val (.int (Int32.ofNat t)), .val (.int (Int32.ofNat t))] [(.int (Int32.ofNat t)), (.ref a1)])) (fun tt_ kk_ => XS.iloadN X0.here hx rfl (hb hby d2_28) rfl kk_) ?_
      refine Ends.to (T' := s₁) (g' := (mkF m 32 #[.val (.int p1), .val (.ref a1), .val (.int (Int32.ofNat t)), .val (.int ((Int32.ofNat t) + (1 : Int32)))] [(.int (Int32.ofNat t)), (.ref a1)])) (fun tt_ kk_ => XS.iinc X0.here hx rfl (hb hby d2_29) rfl (l' := #[.val (.int p1), .val (.ref a1), .val (.int (Int32.ofNat t)), .val (.int ((Int32.ofNat t) + (1 : Int32)))]) rfl kk_) ?_
      rw [own_inc]
      refine Ends.to (T' := s₁) (g' := (mkF m 35 #[.val (.int p1), .val (.ref a1), .val (.int (Int32.ofNat t)), .val (.int (Int32.ofNat (t + 1)))] [(.int (192 : Int32)), (.int (Int32.ofNat t)), (.ref a1)])) (fun tt_ kk_ => XS.sipush X0.here hx rfl (hb hby d2_32) kk_) ?_
      refine Ends.to (T' := s₁) (g' := (mkF m 36 #[.val (.int p1), .val (.ref a1), .val (.int (Int32.ofNat t)), .val (.int (Int32.ofNat (t + 1)))] [(.int p1), (.int (192 : Int32)), (.int (Int32.ofNat t)), (.ref a1)])) (fun tt_ kk_ => XS.iloadN X0.here hx rfl (hb hby d2_35) rfl kk_) ?_
      refine Ends.to (T' := s₁) (g' := (mkF m 38 #[.val (.int p1), .val (.ref a1), .val (.int (Int32.ofNat t)), .val (.int (Int32.ofNat (t + 1)))] [(.int (6 : Int32)), (.int p1), (.int (192 : Int32)), (.int (Int32.ofNat t)), (.ref a1)])) (fun tt_ kk_ => XS.bipush X0.here hx rfl (hb hby d2_36) kk_) ?_
      refine Ends.to (T' := s₁) (g' := (mkF m 39 #[.val (.int p1), .val (.ref a1), .val (.int (Int32.ofNat t)), .val (.int (Int32.ofNat (t + 1)))] [(.int (p1 >>> ((6 : Int32) &&& 31))), (.int (192 : Int32)), (.int (Int32.ofNat t)), (.ref a1)])) (fun tt_ kk_ => XS.ishr X0.here hx rfl (hb hby d2_38) rfl kk_) ?_
      refine Ends.to (T' := s₁) (g' := (mkF m 40 #[.val (.int p1), .val (.ref a1), .val (.int (Int32.ofNat t)), .val (.int (Int32.ofNat (t + 1)))] [(.int ((192 : Int32) ||| (p1 >>> ((6 : Int32) &&& 31)))), (.int (Int32.ofNat t)), (.ref a1)])) (fun tt_ kk_ => XS.ior X0.here hx rfl (hb hby d2_39) rfl kk_) ?_
      refine Ends.to (T' := s₁) (g' := (mkF m 41 #[.val (.int p1), .val (.ref a1), .val (.int (Int32.ofNat t)), .val (.int (Int32.ofNat (t + 1)))] [(.int (((192 : Int32) ||| (p1 >>> ((6 : Int32) &&& 31))).toInt8.toInt32)), (.int (Int32.ofNat t)), (.ref a1)])) (fun tt_ kk_ => XS.i2b X0.here hx rfl (hb hby d2_40) rfl kk_) ?_
      obtain ⟨T2, h2, X2, e2, W2, B1', st2⟩ := BA.stB X0 hx hZ e0 B1 (j := (Int32.ofNat t)) (i := t) (own_nneg (by omega)) (own_clamp (by omega)) (by omega) (g := (mkF m 41 #[.val (.int p1), .val (.ref a1), .val (.int (Int32.ofNat t)), .val (.int (Int32.ofNat (t + 1)))] [(.int (((192 : Int32) ||| (p1 >>> ((6 : Int32) &&& 31))).toInt8.toInt32)), (.int (Int32.ofNat t)), (.ref a1)])) rfl rfl (hb hby d2_41)
      have K1 := Keep.wr K1 W2 (Or.inl (List.mem_of_getElem? (i := 0) rfl))
      have B1 := B1'
      clear B1'
      have N2 := Fr.snoc X2 N0 g1
      refine Ends.to (T' := T2) (g' := (mkF m 42 #[.val (.int p1), .val (.ref a1), .val (.int (Int32.ofNat t)), .val (.int (Int32.ofNat (t + 1)))] [])) (fun tt_ kk_ => st2 tt_ kk_) ?_
      refine Ends.to (T' := T2) (g' := (mkF m 43 #[.val (.int p1), .val (.ref a1), .val (.int (Int32.ofNat t)), .val (.int (Int32.ofNat (t + 1)))] [(.ref a1)])) (fun tt_ kk_ => XS.aloadN X2.here hx rfl (hb hby d2_42) rfl rfl kk_) ?_
      refine Ends.to (T' := T2) (g' := (mkF m 44 #[.val (.int p1), .val (.ref a1), .val (.int (Int32.ofNat t)), .val (.int (Int32.ofNat (t + 1)))] [(.int (Int32.ofNat (t + 1))), (.ref a1)])) (fun tt_ kk_ => XS.iloadN X2.here hx rfl (hb hby d2_43) rfl kk_) ?_
      refine Ends.to (T' := T2) (g' := (mkF m 47 #[.val (.int p1), .val (.ref a1), .val (.int (Int32.ofNat t)), .val (.int ((Int32.ofNat (t + 1)) + (1 : Int32)))] [(.int (Int32.ofNat (t + 1))), (.ref a1)])) (fun tt_ kk_ => XS.iinc X2.here hx rfl (hb hby d2_44) rfl (l' := #[.val (.int p1), .val (.ref a1), .val (.int (Int32.ofNat t)), .val (.int ((Int32.ofNat (t + 1)) + (1 : Int32)))]) rfl kk_) ?_
      rw [own_inc]
      refine Ends.to (T' := T2) (g' := (mkF m 50 #[.val (.int p1), .val (.ref a1), .val (.int (Int32.ofNat t)), .val (.int (Int32.ofNat (t + 1 + 1)))] [(.int (128 : Int32)), (.int (Int32.ofNat (t + 1))), (.ref a1)])) (fun tt_ kk_ => XS.sipush X2.here hx rfl (hb hby d2_47) kk_) ?_
      refine Ends.to (T' := T2) (g' := (mkF m 51 #[.val (.int p1), .val (.ref a1), .val (.int (Int32.ofNat t)), .val (.int (Int32.ofNat (t + 1 + 1)))] [(.int p1), (.int (128 : Int32)), (.int (Int32.ofNat (t + 1))), (.ref a1)])) (fun tt_ kk_ => XS.iloadN X2.here hx rfl (hb hby d2_50) rfl kk_) ?_
      refine Ends.to (T' := T2) (g' := (mkF m 53 #[.val (.int p1), .val (.ref a1), .val (.int (Int32.ofNat t)), .val (.int (Int32.ofNat (t + 1 + 1)))] [(.int (63 : Int32)), (.int p1), (.int (128 : Int32)), (.int (Int32.ofNat (t + 1))), (.ref a1)])) (fun tt_ kk_ => XS.bipush X2.here hx rfl (hb hby d2_51) kk_) ?_
      refine Ends.to (T' := T2) (g' := (mkF m 54 #[.val (.int p1), .val (.ref a1), .val (.int (Int32.ofNat t)), .val (.int (Int32.ofNat (t + 1 + 1)))] [(.int (p1 &&& (63 : Int32))), (.int (128 : Int32)), (.int (Int32.ofNat (t + 1))), (.ref a1)])) (fun tt_ kk_ => XS.iand X2.here hx rfl (hb hby d2_53) rfl kk_) ?_
      refine Ends.to (T' := T2) (g' := (mkF m 55 #[.val (.int p1), .val (.ref a1), .val (.int (Int32.ofNat t)), .val (.int (Int32.ofNat (t + 1 + 1)))] [(.int ((128 : Int32) ||| (p1 &&& (63 : Int32)))), (.int (Int32.ofNat (t + 1))), (.ref a1)])) (fun tt_ kk_ => XS.ior X2.here hx rfl (hb hby d2_54) rfl kk_) ?_
      refine Ends.to (T' := T2) (g' := (mkF m 56 #[.val (.int p1), .val (.ref a1), .val (.int (Int32.ofNat t)), .val (.int (Int32.ofNat (t + 1 + 1)))] [(.int (((128 : Int32) ||| (p1 &&& (63 : Int32))).toInt8.toInt32)), (.int (Int32.ofNat (t + 1))), (.ref a1)])) (fun tt_ kk_ => XS.i2b X2.here hx rfl (hb hby d2_55) rfl kk_) ?_
      obtain ⟨T3, h3, X3, e3, W3, B1', st3⟩ := BA.stB X2 hx hZ e2 B1 (j := (Int32.ofNat (t + 1))) (i := (t + 1)) (own_nneg (by omega)) (own_clamp (by omega)) (by omega) (g := (mkF m 56 #[.val (.int p1), .val (.ref a1), .val (.int (Int32.ofNat t)), .val (.int (Int32.ofNat (t + 1 + 1)))] [(.int (((128 : Int32) ||| (p1 &&& (63 : Int32))).toInt8.toInt32)), (.int (Int32.ofNat (t + 1))), (.ref a1)])) rfl rfl (hb hby d2_56)
      have K1 := Keep.wr K1 W3 (Or.inl (List.mem_of_getElem? (i := 0) rfl))
      have B1 := B1'
      clear B1'
      have N3 := Fr.snoc X3 N2 g1
      refine Ends.to (T' := T3) (g' := (mkF m 57 #[.val (.int p1), .val (.ref a1), .val (.int (Int32.ofNat t)), .val (.int (Int32.ofNat (t + 1 + 1)))] [])) (fun tt_ kk_ => st3 tt_ kk_) ?_
      refine Ends.to (T' := T3) (g' := (mkF m 183 #[.val (.int p1), .val (.ref a1), .val (.int (Int32.ofNat t)), .val (.int (Int32.ofNat (t + 1 + 1)))] [])) (fun tt_ kk_ => XS.goto X3.here hx rfl (pc0 := 57) (pc' := 183) rfl (hb hby d2_57) (by decide) (by decide) kk_) ?_
      refine Ends.to (T' := T3) (g' := (mkF m 184 #[.val (.int p1), .val (.ref a1), .val (.int (Int32.ofNat t)), .val (.int (Int32.ofNat (t + 1 + 1)))] [(.int (Int32.ofNat (t + 1 + 1)))])) (fun tt_ kk_ => XS.iloadN X3.here hx rfl (hb hby d2_183) rfl kk_) ?_
      exact Ends.retI X3 hx hret (hb hby d2_184) hlk (by decide) (by decide) ⟨by simp only [own_len, if_neg hc6, if_pos hc24], N3, by rw [e3]; exact ⟨K1, by simp only [own_enc, if_neg hc6, if_pos hc24]; exact B1⟩⟩
    · refine Ends.to (T' := s₁) (g' := (mkF m 60 #[.val (.int p1), .val (.ref a1), .val (.int (Int32.ofNat t)), .val (.int (Int32.ofNat t))] [])) (fun tt_ kk_ => XS.icmpYes X0.here hx rfl (pc0 := 24) (pc' := 60) rfl (hb hby d2_24) rfl (flt hc24).2.1 (by decide) (by decide) kk_) ?_
      refine Ends.to (T' := s₁) (g' := (mkF m 61 #[.val (.int p1), .val (.ref a1), .val (.int (Int32.ofNat t)), .val (.int (Int32.ofNat t))] [(.int p1)])) (fun tt_ kk_ => XS.iloadN X0.here hx rfl (hb hby d2_60) rfl kk_) ?_
      refine Ends.to (T' := s₁) (g' := (mkF m 63 #[.val (.int p1), .val (.ref a1), .val (.int (Int32.ofNat t)), .val (.int (Int32.ofNat t))] [(.int (65536 : Int32)), (.int p1)])) (fun tt_ kk_ => X0.ldcInt hx hown (mvT hZ (hw _ (List.mem_of_getElem? (i := 15) rfl))) (g := (mkF m 61 #[.val (.int p1), .val (.ref a1), .val (.int (Int32.ofNat t)), .val (.int (Int32.ofNat t))] [(.int p1)])) rfl (hb hby d2_61) _ kk_) ?_
      by_cases hc63 : p1 < (65536 : Int32)
      · refine Ends.to (T' := s₁) (g' := (mkF m 66 #[.val (.int p1), .val (.ref a1), .val (.int (Int32.ofNat t)), .val (.int (Int32.ofNat t))] [])) (fun tt_ kk_ => XS.icmpNo X0.here hx rfl (hb hby d2_63) rfl (tlt hc63).2.1 kk_) ?_
        refine Ends.to (T' := s₁) (g' := (mkF m 67 #[.val (.int p1), .val (.ref a1), .val (.int (Int32.ofNat t)), .val (.int (Int32.ofNat t))] [(.ref a1)])) (fun tt_ kk_ => XS.aloadN X0.here hx rfl (hb hby d2_66) rfl rfl kk_) ?_
        refine Ends.to (T' := s₁) (g' := (mkF m 68 #[.val (.int p1), .val (.ref a1), .val (.int (Int32.ofNat t)), .val (.int (Int32.ofNat t))] [(.int (Int32.ofNat t)), (.ref a1)])) (fun tt_ kk_ => XS.iloadN X0.here hx rfl (hb hby d2_67) rfl kk_) ?_
        refine Ends.to (T' := s₁) (g' := (mkF m 71 #[.val (.int p1), .val (.ref a1), .val (.int (Int32.ofNat t)), .val (.int ((Int32.ofNat t) + (1 : Int32)))] [(.int (Int32.ofNat t)), (.ref a1)])) (fun tt_ kk_ => XS.iinc X0.here hx rfl (hb hby d2_68) rfl (l' := #[.val (.int p1), .val (.ref a1), .val (.int (Int32.ofNat t)), .val (.int ((Int32.ofNat t) + (1 : Int32)))]) rfl kk_) ?_
        rw [own_inc]
        refine Ends.to (T' := s₁) (g' := (mkF m 74 #[.val (.int p1), .val (.ref a1), .val (.int (Int32.ofNat t)), .val (.int (Int32.ofNat (t + 1)))] [(.int (224 : Int32)), (.int (Int32.ofNat t)), (.ref a1)])) (fun tt_ kk_ => XS.sipush X0.here hx rfl (hb hby d2_71) kk_) ?_
        refine Ends.to (T' := s₁) (g' := (mkF m 75 #[.val (.int p1), .val (.ref a1), .val (.int (Int32.ofNat t)), .val (.int (Int32.ofNat (t + 1)))] [(.int p1), (.int (224 : Int32)), (.int (Int32.ofNat t)), (.ref a1)])) (fun tt_ kk_ => XS.iloadN X0.here hx rfl (hb hby d2_74) rfl kk_) ?_
        refine Ends.to (T' := s₁) (g' := (mkF m 77 #[.val (.int p1), .val (.ref a1), .val (.int (Int32.ofNat t)), .val (.int (Int32.ofNat (t + 1)))] [(.int (12 : Int32)), (.int p1), (.int (224 : Int32)), (.int (Int32.ofNat t)), (.ref a1)])) (fun tt_ kk_ => XS.bipush X0.here hx rfl (hb hby d2_75) kk_) ?_
        refine Ends.to (T' := s₁) (g' := (mkF m 78 #[.val (.int p1), .val (.ref a1), .val (.int (Int32.ofNat t)), .val (.int (Int32.ofNat (t + 1)))] [(.int (p1 >>> ((12 : Int32) &&& 31))), (.int (224 : Int32)), (.int (Int32.ofNat t)), (.ref a1)])) (fun tt_ kk_ => XS.ishr X0.here hx rfl (hb hby d2_77) rfl kk_) ?_
        refine Ends.to (T' := s₁) (g' := (mkF m 79 #[.val (.int p1), .val (.ref a1), .val (.int (Int32.ofNat t)), .val (.int (Int32.ofNat (t + 1)))] [(.int ((224 : Int32) ||| (p1 >>> ((12 : Int32) &&& 31)))), (.int (Int32.ofNat t)), (.ref a1)])) (fun tt_ kk_ => XS.ior X0.here hx rfl (hb hby d2_78) rfl kk_) ?_
        refine Ends.to (T' := s₁) (g' := (mkF m 80 #[.val (.int p1), .val (.ref a1), .val (.int (Int32.ofNat t)), .val (.int (Int32.ofNat (t + 1)))] [(.int (((224 : Int32) ||| (p1 >>> ((12 : Int32) &&& 31))).toInt8.toInt32)), (.int (Int32.ofNat t)), (.ref a1)])) (fun tt_ kk_ => XS.i2b X0.here hx rfl (hb hby d2_79) rfl kk_) ?_
        obtain ⟨T4, h4, X4, e4, W4, B1', st4⟩ := BA.stB X0 hx hZ e0 B1 (j := (Int32.ofNat t)) (i := t) (own_nneg (by omega)) (own_clamp (by omega)) (by omega) (g := (mkF m 80 #[.val (.int p1), .val (.ref a1), .val (.int (Int32.ofNat t)), .val (.int (Int32.ofNat (t + 1)))] [(.int (((224 : Int32) ||| (p1 >>> ((12 : Int32) &&& 31))).toInt8.toInt32)), (.int (Int32.ofNat t)), (.ref a1)])) rfl rfl (hb hby d2_80)
        have K1 := Keep.wr K1 W4 (Or.inl (List.mem_of_getElem? (i := 0) rfl))
        have B1 := B1'
        clear B1'
        have N4 := Fr.snoc X4 N0 g1
        refine Ends.to (T' := T4) (g' := (mkF m 81 #[.val (.int p1), .val (.ref a1), .val (.int (Int32.ofNat t)), .val (.int (Int32.ofNat (t + 1)))] [])) (fun tt_ kk_ => st4 tt_ kk_) ?_
        refine Ends.to (T' := T4) (g' := (mkF m 82 #[.val (.int p1), .val (.ref a1), .val (.int (Int32.ofNat t)), .val (.int (Int32.ofNat (t + 1)))] [(.ref a1)])) (fun tt_ kk_ => XS.aloadN X4.here hx rfl (hb hby d2_81) rfl rfl kk_) ?_
        refine Ends.to (T' := T4) (g' := (mkF m 83 #[.val (.int p1), .val (.ref a1), .val (.int (Int32.ofNat t)), .val (.int (Int32.ofNat (t + 1)))] [(.int (Int32.ofNat (t + 1))), (.ref a1)])) (fun tt_ kk_ => XS.iloadN X4.here hx rfl (hb hby d2_82) rfl kk_) ?_
        refine Ends.to (T' := T4) (g' := (mkF m 86 #[.val (.int p1), .val (.ref a1), .val (.int (Int32.ofNat t)), .val (.int ((Int32.ofNat (t + 1)) + (1 : Int32)))] [(.int (Int32.ofNat (t + 1))), (.ref a1)])) (fun tt_ kk_ => XS.iinc X4.here hx rfl (hb hby d2_83) rfl (l' := #[.val (.int p1), .val (.ref a1), .val (.int (Int32.ofNat t)), .val (.int ((Int32.ofNat (t + 1)) + (1 : Int32)))]) rfl kk_) ?_
        rw [own_inc]
        refine Ends.to (T' := T4) (g' := (mkF m 89 #[.val (.int p1), .val (.ref a1), .val (.int (Int32.ofNat t)), .val (.int (Int32.ofNat (t + 1 + 1)))] [(.int (128 : Int32)), (.int (Int32.ofNat (t + 1))), (.ref a1)])) (fun tt_ kk_ => XS.sipush X4.here hx rfl (hb hby d2_86) kk_) ?_
        refine Ends.to (T' := T4) (g' := (mkF m 90 #[.val (.int p1), .val (.ref a1), .val (.int (Int32.ofNat t)), .val (.int (Int32.ofNat (t + 1 + 1)))] [(.int p1), (.int (128 : Int32)), (.int (Int32.ofNat (t + 1))), (.ref a1)])) (fun tt_ kk_ => XS.iloadN X4.here hx rfl (hb hby d2_89) rfl kk_) ?_
        refine Ends.to (T' := T4) (g' := (mkF m 92 #[.val (.int p1), .val (.ref a1), .val (.int (Int32.ofNat t)), .val (.int (Int32.ofNat (t + 1 + 1)))] [(.int (6 : Int32)), (.int p1), (.int (128 : Int32)), (.int (Int32.ofNat (t + 1))), (.ref a1)])) (fun tt_ kk_ => XS.bipush X4.here hx rfl (hb hby d2_90) kk_) ?_
        refine Ends.to (T' := T4) (g' := (mkF m 93 #[.val (.int p1), .val (.ref a1), .val (.int (Int32.ofNat t)), .val (.int (Int32.ofNat (t + 1 + 1)))] [(.int (p1 >>> ((6 : Int32) &&& 31))), (.int (128 : Int32)), (.int (Int32.ofNat (t + 1))), (.ref a1)])) (fun tt_ kk_ => XS.ishr X4.here hx rfl (hb hby d2_92) rfl kk_) ?_
        refine Ends.to (T' := T4) (g' := (mkF m 95 #[.val (.int p1), .val (.ref a1), .val (.int (Int32.ofNat t)), .val (.int (Int32.ofNat (t + 1 + 1)))] [(.int (63 : Int32)), (.int (p1 >>> ((6 : Int32) &&& 31))), (.int (128 : Int32)), (.int (Int32.ofNat (t + 1))), (.ref a1)])) (fun tt_ kk_ => XS.bipush X4.here hx rfl (hb hby d2_93) kk_) ?_
        refine Ends.to (T' := T4) (g' := (mkF m 96 #[.val (.int p1), .val (.ref a1), .val (.int (Int32.ofNat t)), .val (.int (Int32.ofNat (t + 1 + 1)))] [(.int ((p1 >>> ((6 : Int32) &&& 31)) &&& (63 : Int32))), (.int (128 : Int32)), (.int (Int32.ofNat (t + 1))), (.ref a1)])) (fun tt_ kk_ => XS.iand X4.here hx rfl (hb hby d2_95) rfl kk_) ?_
        refine Ends.to (T' := T4) (g' := (mkF m 97 #[.val (.int p1), .val (.ref a1), .val (.int (Int32.ofNat t)), .val (.int (Int32.ofNat (t + 1 + 1)))] [(.int ((128 : Int32) ||| ((p1 >>> ((6 : Int32) &&& 31)) &&& (63 : Int32)))), (.int (Int32.ofNat (t + 1))), (.ref a1)])) (fun tt_ kk_ => XS.ior X4.here hx rfl (hb hby d2_96) rfl kk_) ?_
        refine Ends.to (T' := T4) (g' := (mkF m 98 #[.val (.int p1), .val (.ref a1), .val (.int (Int32.ofNat t)), .val (.int (Int32.ofNat (t + 1 + 1)))] [(.int (((128 : Int32) ||| ((p1 >>> ((6 : Int32) &&& 31)) &&& (63 : Int32))).toInt8.toInt32)), (.int (Int32.ofNat (t + 1))), (.ref a1)])) (fun tt_ kk_ => XS.i2b X4.here hx rfl (hb hby d2_97) rfl kk_) ?_
        obtain ⟨T5, h5, X5, e5, W5, B1', st5⟩ := BA.stB X4 hx hZ e4 B1 (j := (Int32.ofNat (t + 1))) (i := (t + 1)) (own_nneg (by omega)) (own_clamp (by omega)) (by omega) (g := (mkF m 98 #[.val (.int p1), .val (.ref a1), .val (.int (Int32.ofNat t)), .val (.int (Int32.ofNat (t + 1 + 1)))] [(.int (((128 : Int32) ||| ((p1 >>> ((6 : Int32) &&& 31)) &&& (63 : Int32))).toInt8.toInt32)), (.int (Int32.ofNat (t + 1))), (.ref a1)])) rfl rfl (hb hby d2_98)
        have K1 := Keep.wr K1 W5 (Or.inl (List.mem_of_getElem? (i := 0) rfl))
        have B1 := B1'
        clear B1'
        have N5 := Fr.snoc X5 N4 g1
        refine Ends.to (T' := T5) (g' := (mkF m 99 #[.val (.int p1), .val (.ref a1), .val (.int (Int32.ofNat t)), .val (.int (Int32.ofNat (t + 1 + 1)))] [])) (fun tt_ kk_ => st5 tt_ kk_) ?_
        refine Ends.to (T' := T5) (g' := (mkF m 100 #[.val (.int p1), .val (.ref a1), .val (.int (Int32.ofNat t)), .val (.int (Int32.ofNat (t + 1 + 1)))] [(.ref a1)])) (fun tt_ kk_ => XS.aloadN X5.here hx rfl (hb hby d2_99) rfl rfl kk_) ?_
        refine Ends.to (T' := T5) (g' := (mkF m 101 #[.val (.int p1), .val (.ref a1), .val (.int (Int32.ofNat t)), .val (.int (Int32.ofNat (t + 1 + 1)))] [(.int (Int32.ofNat (t + 1 + 1))), (.ref a1)])) (fun tt_ kk_ => XS.iloadN X5.here hx rfl (hb hby d2_100) rfl kk_) ?_
        refine Ends.to (T' := T5) (g' := (mkF m 104 #[.val (.int p1), .val (.ref a1), .val (.int (Int32.ofNat t)), .val (.int ((Int32.ofNat (t + 1 + 1)) + (1 : Int32)))] [(.int (Int32.ofNat (t + 1 + 1))), (.ref a1)])) (fun tt_ kk_ => XS.iinc X5.here hx rfl (hb hby d2_101) rfl (l' := #[.val (.int p1), .val (.ref a1), .val (.int (Int32.ofNat t)), .val (.int ((Int32.ofNat (t + 1 + 1)) + (1 : Int32)))]) rfl kk_) ?_
        rw [own_inc]
        refine Ends.to (T' := T5) (g' := (mkF m 107 #[.val (.int p1), .val (.ref a1), .val (.int (Int32.ofNat t)), .val (.int (Int32.ofNat (t + 1 + 1 + 1)))] [(.int (128 : Int32)), (.int (Int32.ofNat (t + 1 + 1))), (.ref a1)])) (fun tt_ kk_ => XS.sipush X5.here hx rfl (hb hby d2_104) kk_) ?_
        refine Ends.to (T' := T5) (g' := (mkF m 108 #[.val (.int p1), .val (.ref a1), .val (.int (Int32.ofNat t)), .val (.int (Int32.ofNat (t + 1 + 1 + 1)))] [(.int p1), (.int (128 : Int32)), (.int (Int32.ofNat (t + 1 + 1))), (.ref a1)])) (fun tt_ kk_ => XS.iloadN X5.here hx rfl (hb hby d2_107) rfl kk_) ?_
        refine Ends.to (T' := T5) (g' := (mkF m 110 #[.val (.int p1), .val (.ref a1), .val (.int (Int32.ofNat t)), .val (.int (Int32.ofNat (t + 1 + 1 + 1)))] [(.int (63 : Int32)), (.int p1), (.int (128 : Int32)), (.int (Int32.ofNat (t + 1 + 1))), (.ref a1)])) (fun tt_ kk_ => XS.bipush X5.here hx rfl (hb hby d2_108) kk_) ?_
        refine Ends.to (T' := T5) (g' := (mkF m 111 #[.val (.int p1), .val (.ref a1), .val (.int (Int32.ofNat t)), .val (.int (Int32.ofNat (t + 1 + 1 + 1)))] [(.int (p1 &&& (63 : Int32))), (.int (128 : Int32)), (.int (Int32.ofNat (t + 1 + 1))), (.ref a1)])) (fun tt_ kk_ => XS.iand X5.here hx rfl (hb hby d2_110) rfl kk_) ?_
        refine Ends.to (T' := T5) (g' := (mkF m 112 #[.val (.int p1), .val (.ref a1), .val (.int (Int32.ofNat t)), .val (.int (Int32.ofNat (t + 1 + 1 + 1)))] [(.int ((128 : Int32) ||| (p1 &&& (63 : Int32)))), (.int (Int32.ofNat (t + 1 + 1))), (.ref a1)])) (fun tt_ kk_ => XS.ior X5.here hx rfl (hb hby d2_111) rfl kk_) ?_
        refine Ends.to (T' := T5) (g' := (mkF m 113 #[.val (.int p1), .val (.ref a1), .val (.int (Int32.ofNat t)), .val (.int (Int32.ofNat (t + 1 + 1 + 1)))] [(.int (((128 : Int32) ||| (p1 &&& (63 : Int32))).toInt8.toInt32)), (.int (Int32.ofNat (t + 1 + 1))), (.ref a1)])) (fun tt_ kk_ => XS.i2b X5.here hx rfl (hb hby d2_112) rfl kk_) ?_
        obtain ⟨T6, h6, X6, e6, W6, B1', st6⟩ := BA.stB X5 hx hZ e5 B1 (j := (Int32.ofNat (t + 1 + 1))) (i := (t + 1 + 1)) (own_nneg (by omega)) (own_clamp (by omega)) (by omega) (g := (mkF m 113 #[.val (.int p1), .val (.ref a1), .val (.int (Int32.ofNat t)), .val (.int (Int32.ofNat (t + 1 + 1 + 1)))] [(.int (((128 : Int32) ||| (p1 &&& (63 : Int32))).toInt8.toInt32)), (.int (Int32.ofNat (t + 1 + 1))), (.ref a1)])) rfl rfl (hb hby d2_113)
        have K1 := Keep.wr K1 W6 (Or.inl (List.mem_of_getElem? (i := 0) rfl))
        have B1 := B1'
        clear B1'
        have N6 := Fr.snoc X6 N5 g1
        refine Ends.to (T' := T6) (g' := (mkF m 114 #[.val (.int p1), .val (.ref a1), .val (.int (Int32.ofNat t)), .val (.int (Int32.ofNat (t + 1 + 1 + 1)))] [])) (fun tt_ kk_ => st6 tt_ kk_) ?_
        refine Ends.to (T' := T6) (g' := (mkF m 183 #[.val (.int p1), .val (.ref a1), .val (.int (Int32.ofNat t)), .val (.int (Int32.ofNat (t + 1 + 1 + 1)))] [])) (fun tt_ kk_ => XS.goto X6.here hx rfl (pc0 := 114) (pc' := 183) rfl (hb hby d2_114) (by decide) (by decide) kk_) ?_
        refine Ends.to (T' := T6) (g' := (mkF m 184 #[.val (.int p1), .val (.ref a1), .val (.int (Int32.ofNat t)), .val (.int (Int32.ofNat (t + 1 + 1 + 1)))] [(.int (Int32.ofNat (t + 1 + 1 + 1)))])) (fun tt_ kk_ => XS.iloadN X6.here hx rfl (hb hby d2_183) rfl kk_) ?_
        exact Ends.retI X6 hx hret (hb hby d2_184) hlk (by decide) (by decide) ⟨by simp only [own_len, if_neg hc6, if_neg hc24, if_pos hc63], N6, by rw [e6]; exact ⟨K1, by simp only [own_enc, if_neg hc6, if_neg hc24, if_pos hc63]; exact B1⟩⟩
      · refine Ends.to (T' := s₁) (g' := (mkF m 117 #[.val (.int p1), .val (.ref a1), .val (.int (Int32.ofNat t)), .val (.int (Int32.ofNat t))] [])) (fun tt_ kk_ => XS.icmpYes X0.here hx rfl (pc0 := 63) (pc' := 117) rfl (hb hby d2_63) rfl (flt hc63).2.1 (by decide) (by decide) kk_) ?_
        refine Ends.to (T' := s₁) (g' := (mkF m 118 #[.val (.int p1), .val (.ref a1), .val (.int (Int32.ofNat t)), .val (.int (Int32.ofNat t))] [(.ref a1)])) (fun tt_ kk_ => XS.aloadN X0.here hx rfl (hb hby d2_117) rfl rfl kk_) ?_
        refine Ends.to (T' := s₁) (g' := (mkF m 119 #[.val (.int p1), .val (.ref a1), .val (.int (Int32.ofNat t)), .val (.int (Int32.ofNat t))] [(.int (Int32.ofNat t)), (.ref a1)])) (fun tt_ kk_ => XS.iloadN X0.here hx rfl (hb hby d2_118) rfl kk_) ?_
        refine Ends.to (T' := s₁) (g' := (mkF m 122 #[.val (.int p1), .val (.ref a1), .val (.int (Int32.ofNat t)), .val (.int ((Int32.ofNat t) + (1 : Int32)))] [(.int (Int32.ofNat t)), (.ref a1)])) (fun tt_ kk_ => XS.iinc X0.here hx rfl (hb hby d2_119) rfl (l' := #[.val (.int p1), .val (.ref a1), .val (.int (Int32.ofNat t)), .val (.int ((Int32.ofNat t) + (1 : Int32)))]) rfl kk_) ?_
        rw [own_inc]
        refine Ends.to (T' := s₁) (g' := (mkF m 125 #[.val (.int p1), .val (.ref a1), .val (.int (Int32.ofNat t)), .val (.int (Int32.ofNat (t + 1)))] [(.int (240 : Int32)), (.int (Int32.ofNat t)), (.ref a1)])) (fun tt_ kk_ => XS.sipush X0.here hx rfl (hb hby d2_122) kk_) ?_
        refine Ends.to (T' := s₁) (g' := (mkF m 126 #[.val (.int p1), .val (.ref a1), .val (.int (Int32.ofNat t)), .val (.int (Int32.ofNat (t + 1)))] [(.int p1), (.int (240 : Int32)), (.int (Int32.ofNat t)), (.ref a1)])) (fun tt_ kk_ => XS.iloadN X0.here hx rfl (hb hby d2_125) rfl kk_) ?_
        refine Ends.to (T' := s₁) (g' := (mkF m 128 #[.val (.int p1), .val (.ref a1), .val (.int (Int32.ofNat t)), .val (.int (Int32.ofNat (t + 1)))] [(.int (18 : Int32)), (.int p1), (.int (240 : Int32)), (.int (Int32.ofNat t)), (.ref a1)])) (fun tt_ kk_ => XS.bipush X0.here hx rfl (hb hby d2_126) kk_) ?_
        refine Ends.to (T' := s₁) (g' := (mkF m 129 #[.val (.int p1), .val (.ref a1), .val (.int (Int32.ofNat t)), .val (.int (Int32.ofNat (t + 1)))] [(.int (p1 >>> ((18 : Int32) &&& 31))), (.int (240 : Int32)), (.int (Int32.ofNat t)), (.ref a1)])) (fun tt_ kk_ => XS.ishr X0.here hx rfl (hb hby d2_128) rfl kk_) ?_
        refine Ends.to (T' := s₁) (g' := (mkF m 130 #[.val (.int p1), .val (.ref a1), .val (.int (Int32.ofNat t)), .val (.int (Int32.ofNat (t + 1)))] [(.int ((240 : Int32) ||| (p1 >>> ((18 : Int32) &&& 31)))), (.int (Int32.ofNat t)), (.ref a1)])) (fun tt_ kk_ => XS.ior X0.here hx rfl (hb hby d2_129) rfl kk_) ?_
        refine Ends.to (T' := s₁) (g' := (mkF m 131 #[.val (.int p1), .val (.ref a1), .val (.int (Int32.ofNat t)), .val (.int (Int32.ofNat (t + 1)))] [(.int (((240 : Int32) ||| (p1 >>> ((18 : Int32) &&& 31))).toInt8.toInt32)), (.int (Int32.ofNat t)), (.ref a1)])) (fun tt_ kk_ => XS.i2b X0.here hx rfl (hb hby d2_130) rfl kk_) ?_
        obtain ⟨T7, h7, X7, e7, W7, B1', st7⟩ := BA.stB X0 hx hZ e0 B1 (j := (Int32.ofNat t)) (i := t) (own_nneg (by omega)) (own_clamp (by omega)) (by omega) (g := (mkF m 131 #[.val (.int p1), .val (.ref a1), .val (.int (Int32.ofNat t)), .val (.int (Int32.ofNat (t + 1)))] [(.int (((240 : Int32) ||| (p1 >>> ((18 : Int32) &&& 31))).toInt8.toInt32)), (.int (Int32.ofNat t)), (.ref a1)])) rfl rfl (hb hby d2_131)
        have K1 := Keep.wr K1 W7 (Or.inl (List.mem_of_getElem? (i := 0) rfl))
        have B1 := B1'
        clear B1'
        have N7 := Fr.snoc X7 N0 g1
        refine Ends.to (T' := T7) (g' := (mkF m 132 #[.val (.int p1), .val (.ref a1), .val (.int (Int32.ofNat t)), .val (.int (Int32.ofNat (t + 1)))] [])) (fun tt_ kk_ => st7 tt_ kk_) ?_
        refine Ends.to (T' := T7) (g' := (mkF m 133 #[.val (.int p1), .val (.ref a1), .val (.int (Int32.ofNat t)), .val (.int (Int32.ofNat (t + 1)))] [(.ref a1)])) (fun tt_ kk_ => XS.aloadN X7.here hx rfl (hb hby d2_132) rfl rfl kk_) ?_
        refine Ends.to (T' := T7) (g' := (mkF m 134 #[.val (.int p1), .val (.ref a1), .val (.int (Int32.ofNat t)), .val (.int (Int32.ofNat (t + 1)))] [(.int (Int32.ofNat (t + 1))), (.ref a1)])) (fun tt_ kk_ => XS.iloadN X7.here hx rfl (hb hby d2_133) rfl kk_) ?_
        refine Ends.to (T' := T7) (g' := (mkF m 137 #[.val (.int p1), .val (.ref a1), .val (.int (Int32.ofNat t)), .val (.int ((Int32.ofNat (t + 1)) + (1 : Int32)))] [(.int (Int32.ofNat (t + 1))), (.ref a1)])) (fun tt_ kk_ => XS.iinc X7.here hx rfl (hb hby d2_134) rfl (l' := #[.val (.int p1), .val (.ref a1), .val (.int (Int32.ofNat t)), .val (.int ((Int32.ofNat (t + 1)) + (1 : Int32)))]) rfl kk_) ?_
        rw [own_inc]
        refine Ends.to (T' := T7) (g' := (mkF m 140 #[.val (.int p1), .val (.ref a1), .val (.int (Int32.ofNat t)), .val (.int (Int32.ofNat (t + 1 + 1)))] [(.int (128 : Int32)), (.int (Int32.ofNat (t + 1))), (.ref a1)])) (fun tt_ kk_ => XS.sipush X7.here hx rfl (hb hby d2_137) kk_) ?_
        refine Ends.to (T' := T7) (g' := (mkF m 141 #[.val (.int p1), .val (.ref a1), .val (.int (Int32.ofNat t)), .val (.int (Int32.ofNat (t + 1 + 1)))] [(.int p1), (.int (128 : Int32)), (.int (Int32.ofNat (t + 1))), (.ref a1)])) (fun tt_ kk_ => XS.iloadN X7.here hx rfl (hb hby d2_140) rfl kk_) ?_
        refine Ends.to (T' := T7) (g' := (mkF m 143 #[.val (.int p1), .val (.ref a1), .val (.int (Int32.ofNat t)), .val (.int (Int32.ofNat (t + 1 + 1)))] [(.int (12 : Int32)), (.int p1), (.int (128 : Int32)), (.int (Int32.ofNat (t + 1))), (.ref a1)])) (fun tt_ kk_ => XS.bipush X7.here hx rfl (hb hby d2_141) kk_) ?_
        refine Ends.to (T' := T7) (g' := (mkF m 144 #[.val (.int p1), .val (.ref a1), .val (.int (Int32.ofNat t)), .val (.int (Int32.ofNat (t + 1 + 1)))] [(.int (p1 >>> ((12 : Int32) &&& 31))), (.int (128 : Int32)), (.int (Int32.ofNat (t + 1))), (.ref a1)])) (fun tt_ kk_ => XS.ishr X7.here hx rfl (hb hby d2_143) rfl kk_) ?_
        refine Ends.to (T' := T7) (g' := (mkF m 146 #[.val (.int p1), .val (.ref a1), .val (.int (Int32.ofNat t)), .val (.int (Int32.ofNat (t + 1 + 1)))] [(.int (63 : Int32)), (.int (p1 >>> ((12 : Int32) &&& 31))), (.int (128 : Int32)), (.int (Int32.ofNat (t + 1))), (.ref a1)])) (fun tt_ kk_ => XS.bipush X7.here hx rfl (hb hby d2_144) kk_) ?_
        refine Ends.to (T' := T7) (g' := (mkF m 147 #[.val (.int p1), .val (.ref a1), .val (.int (Int32.ofNat t)), .val (.int (Int32.ofNat (t + 1 + 1)))] [(.int ((p1 >>> ((12 : Int32) &&& 31)) &&& (63 : Int32))), (.int (128 : Int32)), (.int (Int32.ofNat (t + 1))), (.ref a1)])) (fun tt_ kk_ => XS.iand X7.here hx rfl (hb hby d2_146) rfl kk_) ?_
        refine Ends.to (T' := T7) (g' := (mkF m 148 #[.val (.int p1), .val (.ref a1), .val (.int (Int32.ofNat t)), .val (.int (Int32.ofNat (t + 1 + 1)))] [(.int ((128 : Int32) ||| ((p1 >>> ((12 : Int32) &&& 31)) &&& (63 : Int32)))), (.int (Int32.ofNat (t + 1))), (.ref a1)])) (fun tt_ kk_ => XS.ior X7.here hx rfl (hb hby d2_147) rfl kk_) ?_
        refine Ends.to (T' := T7) (g' := (mkF m 149 #[.val (.int p1), .val (.ref a1), .val (.int (Int32.ofNat t)), .val (.int (Int32.ofNat (t + 1 + 1)))] [(.int (((128 : Int32) ||| ((p1 >>> ((12 : Int32) &&& 31)) &&& (63 : Int32))).toInt8.toInt32)), (.int (Int32.ofNat (t + 1))), (.ref a1)])) (fun tt_ kk_ => XS.i2b X7.here hx rfl (hb hby d2_148) rfl kk_) ?_
        obtain ⟨T8, h8, X8, e8, W8, B1', st8⟩ := BA.stB X7 hx hZ e7 B1 (j := (Int32.ofNat (t + 1))) (i := (t + 1)) (own_nneg (by omega)) (own_clamp (by omega)) (by omega) (g := (mkF m 149 #[.val (.int p1), .val (.ref a1), .val (.int (Int32.ofNat t)), .val (.int (Int32.ofNat (t + 1 + 1)))] [(.int (((128 : Int32) ||| ((p1 >>> ((12 : Int32) &&& 31)) &&& (63 : Int32))).toInt8.toInt32)), (.int (Int32.ofNat (t + 1))), (.ref a1)])) rfl rfl (hb hby d2_149)
        have K1 := Keep.wr K1 W8 (Or.inl (List.mem_of_getElem? (i := 0) rfl))
        have B1 := B1'
        clear B1'
        have N8 := Fr.snoc X8 N7 g1
        refine Ends.to (T' := T8) (g' := (mkF m 150 #[.val (.int p1), .val (.ref a1), .val (.int (Int32.ofNat t)), .val (.int (Int32.ofNat (t + 1 + 1)))] [])) (fun tt_ kk_ => st8 tt_ kk_) ?_
        refine Ends.to (T' := T8) (g' := (mkF m 151 #[.val (.int p1), .val (.ref a1), .val (.int (Int32.ofNat t)), .val (.int (Int32.ofNat (t + 1 + 1)))] [(.ref a1)])) (fun tt_ kk_ => XS.aloadN X8.here hx rfl (hb hby d2_150) rfl rfl kk_) ?_
        refine Ends.to (T' := T8) (g' := (mkF m 152 #[.val (.int p1), .val (.ref a1), .val (.int (Int32.ofNat t)), .val (.int (Int32.ofNat (t + 1 + 1)))] [(.int (Int32.ofNat (t + 1 + 1))), (.ref a1)])) (fun tt_ kk_ => XS.iloadN X8.here hx rfl (hb hby d2_151) rfl kk_) ?_
        refine Ends.to (T' := T8) (g' := (mkF m 155 #[.val (.int p1), .val (.ref a1), .val (.int (Int32.ofNat t)), .val (.int ((Int32.ofNat (t + 1 + 1)) + (1 : Int32)))] [(.int (Int32.ofNat (t + 1 + 1))), (.ref a1)])) (fun tt_ kk_ => XS.iinc X8.here hx rfl (hb hby d2_152) rfl (l' := #[.val (.int p1), .val (.ref a1), .val (.int (Int32.ofNat t)), .val (.int ((Int32.ofNat (t + 1 + 1)) + (1 : Int32)))]) rfl kk_) ?_
        rw [own_inc]
        refine Ends.to (T' := T8) (g' := (mkF m 158 #[.val (.int p1), .val (.ref a1), .val (.int (Int32.ofNat t)), .val (.int (Int32.ofNat (t + 1 + 1 + 1)))] [(.int (128 : Int32)), (.int (Int32.ofNat (t + 1 + 1))), (.ref a1)])) (fun tt_ kk_ => XS.sipush X8.here hx rfl (hb hby d2_155) kk_) ?_
        refine Ends.to (T' := T8) (g' := (mkF m 159 #[.val (.int p1), .val (.ref a1), .val (.int (Int32.ofNat t)), .val (.int (Int32.ofNat (t + 1 + 1 + 1)))] [(.int p1), (.int (128 : Int32)), (.int (Int32.ofNat (t + 1 + 1))), (.ref a1)])) (fun tt_ kk_ => XS.iloadN X8.here hx rfl (hb hby d2_158) rfl kk_) ?_
        refine Ends.to (T' := T8) (g' := (mkF m 161 #[.val (.int p1), .val (.ref a1), .val (.int (Int32.ofNat t)), .val (.int (Int32.ofNat (t + 1 + 1 + 1)))] [(.int (6 : Int32)), (.int p1), (.int (128 : Int32)), (.int (Int32.ofNat (t + 1 + 1))), (.ref a1)])) (fun tt_ kk_ => XS.bipush X8.here hx rfl (hb hby d2_159) kk_) ?_
        refine Ends.to (T' := T8) (g' := (mkF m 162 #[.val (.int p1), .val (.ref a1), .val (.int (Int32.ofNat t)), .val (.int (Int32.ofNat (t + 1 + 1 + 1)))] [(.int (p1 >>> ((6 : Int32) &&& 31))), (.int (128 : Int32)), (.int (Int32.ofNat (t + 1 + 1))), (.ref a1)])) (fun tt_ kk_ => XS.ishr X8.here hx rfl (hb hby d2_161) rfl kk_) ?_
        refine Ends.to (T' := T8) (g' := (mkF m 164 #[.val (.int p1), .val (.ref a1), .val (.int (Int32.ofNat t)), .val (.int (Int32.ofNat (t + 1 + 1 + 1)))] [(.int (63 : Int32)), (.int (p1 >>> ((6 : Int32) &&& 31))), (.int (128 : Int32)), (.int (Int32.ofNat (t + 1 + 1))), (.ref a1)])) (fun tt_ kk_ => XS.bipush X8.here hx rfl (hb hby d2_162) kk_) ?_
        refine Ends.to (T' := T8) (g' := (mkF m 165 #[.val (.int p1), .val (.ref a1), .val (.int (Int32.ofNat t)), .val (.int (Int32.ofNat (t + 1 + 1 + 1)))] [(.int ((p1 >>> ((6 : Int32) &&& 31)) &&& (63 : Int32))), (.int (128 : Int32)), (.int (Int32.ofNat (t + 1 + 1))), (.ref a1)])) (fun tt_ kk_ => XS.iand X8.here hx rfl (hb hby d2_164) rfl kk_) ?_
        refine Ends.to (T' := T8) (g' := (mkF m 166 #[.val (.int p1), .val (.ref a1), .val (.int (Int32.ofNat t)), .val (.int (Int32.ofNat (t + 1 + 1 + 1)))] [(.int ((128 : Int32) ||| ((p1 >>> ((6 : Int32) &&& 31)) &&& (63 : Int32)))), (.int (Int32.ofNat (t + 1 + 1))), (.ref a1)])) (fun tt_ kk_ => XS.ior X8.here hx rfl (hb hby d2_165) rfl kk_) ?_
        refine Ends.to (T' := T8) (g' := (mkF m 167 #[.val (.int p1), .val (.ref a1), .val (.int (Int32.ofNat t)), .val (.int (Int32.ofNat (t + 1 + 1 + 1)))] [(.int (((128 : Int32) ||| ((p1 >>> ((6 : Int32) &&& 31)) &&& (63 : Int32))).toInt8.toInt32)), (.int (Int32.ofNat (t + 1 + 1))), (.ref a1)])) (fun tt_ kk_ => XS.i2b X8.here hx rfl (hb hby d2_166) rfl kk_) ?_
        obtain ⟨T9, h9, X9, e9, W9, B1', st9⟩ := BA.stB X8 hx hZ e8 B1 (j := (Int32.ofNat (t + 1 + 1))) (i := (t + 1 + 1)) (own_nneg (by omega)) (own_clamp (by omega)) (by omega) (g := (mkF m 167 #[.val (.int p1), .val (.ref a1), .val (.int (Int32.ofNat t)), .val (.int (Int32.ofNat (t + 1 + 1 + 1)))] [(.int (((128 : Int32) ||| ((p1 >>> ((6 : Int32) &&& 31)) &&& (63 : Int32))).toInt8.toInt32)), (.int (Int32.ofNat (t + 1 + 1))), (.ref a1)])) rfl rfl (hb hby d2_167)
        have K1 := Keep.wr K1 W9 (Or.inl (List.mem_of_getElem? (i := 0) rfl))
        have B1 := B1'
        clear B1'
        have N9 := Fr.snoc X9 N8 g1
        refine Ends.to (T' := T9) (g' := (mkF m 168 #[.val (.int p1), .val (.ref a1), .val (.int (Int32.ofNat t)), .val (.int (Int32.ofNat (t + 1 + 1 + 1)))] [])) (fun tt_ kk_ => st9 tt_ kk_) ?_
        refine Ends.to (T' := T9) (g' := (mkF m 169 #[.val (.int p1), .val (.ref a1), .val (.int (Int32.ofNat t)), .val (.int (Int32.ofNat (t + 1 + 1 + 1)))] [(.ref a1)])) (fun tt_ kk_ => XS.aloadN X9.here hx rfl (hb hby d2_168) rfl rfl kk_) ?_
        refine Ends.to (T' := T9) (g' := (mkF m 170 #[.val (.int p1), .val (.ref a1), .val (.int (Int32.ofNat t)), .val (.int (Int32.ofNat (t + 1 + 1 + 1)))] [(.int (Int32.ofNat (t + 1 + 1 + 1))), (.ref a1)])) (fun tt_ kk_ => XS.iloadN X9.here hx rfl (hb hby d2_169) rfl kk_) ?_
        refine Ends.to (T' := T9) (g' := (mkF m 173 #[.val (.int p1), .val (.ref a1), .val (.int (Int32.ofNat t)), .val (.int ((Int32.ofNat (t + 1 + 1 + 1)) + (1 : Int32)))] [(.int (Int32.ofNat (t + 1 + 1 + 1))), (.ref a1)])) (fun tt_ kk_ => XS.iinc X9.here hx rfl (hb hby d2_170) rfl (l' := #[.val (.int p1), .val (.ref a1), .val (.int (Int32.ofNat t)), .val (.int ((Int32.ofNat (t + 1 + 1 + 1)) + (1 : Int32)))]) rfl kk_) ?_
        rw [own_inc]
        refine Ends.to (T' := T9) (g' := (mkF m 176 #[.val (.int p1), .val (.ref a1), .val (.int (Int32.ofNat t)), .val (.int (Int32.ofNat (t + 1 + 1 + 1 + 1)))] [(.int (128 : Int32)), (.int (Int32.ofNat (t + 1 + 1 + 1))), (.ref a1)])) (fun tt_ kk_ => XS.sipush X9.here hx rfl (hb hby d2_173) kk_) ?_
        refine Ends.to (T' := T9) (g' := (mkF m 177 #[.val (.int p1), .val (.ref a1), .val (.int (Int32.ofNat t)), .val (.int (Int32.ofNat (t + 1 + 1 + 1 + 1)))] [(.int p1), (.int (128 : Int32)), (.int (Int32.ofNat (t + 1 + 1 + 1))), (.ref a1)])) (fun tt_ kk_ => XS.iloadN X9.here hx rfl (hb hby d2_176) rfl kk_) ?_
        refine Ends.to (T' := T9) (g' := (mkF m 179 #[.val (.int p1), .val (.ref a1), .val (.int (Int32.ofNat t)), .val (.int (Int32.ofNat (t + 1 + 1 + 1 + 1)))] [(.int (63 : Int32)), (.int p1), (.int (128 : Int32)), (.int (Int32.ofNat (t + 1 + 1 + 1))), (.ref a1)])) (fun tt_ kk_ => XS.bipush X9.here hx rfl (hb hby d2_177) kk_) ?_
        refine Ends.to (T' := T9) (g' := (mkF m 180 #[.val (.int p1), .val (.ref a1), .val (.int (Int32.ofNat t)), .val (.int (Int32.ofNat (t + 1 + 1 + 1 + 1)))] [(.int (p1 &&& (63 : Int32))), (.int (128 : Int32)), (.int (Int32.ofNat (t + 1 + 1 + 1))), (.ref a1)])) (fun tt_ kk_ => XS.iand X9.here hx rfl (hb hby d2_179) rfl kk_) ?_
        refine Ends.to (T' := T9) (g' := (mkF m 181 #[.val (.int p1), .val (.ref a1), .val (.int (Int32.ofNat t)), .val (.int (Int32.ofNat (t + 1 + 1 + 1 + 1)))] [(.int ((128 : Int32) ||| (p1 &&& (63 : Int32)))), (.int (Int32.ofNat (t + 1 + 1 + 1))), (.ref a1)])) (fun tt_ kk_ => XS.ior X9.here hx rfl (hb hby d2_180) rfl kk_) ?_
        refine Ends.to (T' := T9) (g' := (mkF m 182 #[.val (.int p1), .val (.ref a1), .val (.int (Int32.ofNat t)), .val (.int (Int32.ofNat (t + 1 + 1 + 1 + 1)))] [(.int (((128 : Int32) ||| (p1 &&& (63 : Int32))).toInt8.toInt32)), (.int (Int32.ofNat (t + 1 + 1 + 1))), (.ref a1)])) (fun tt_ kk_ => XS.i2b X9.here hx rfl (hb hby d2_181) rfl kk_) ?_
        obtain ⟨T10, h10, X10, e10, W10, B1', st10⟩ := BA.stB X9 hx hZ e9 B1 (j := (Int32.ofNat (t + 1 + 1 + 1))) (i := (t + 1 + 1 + 1)) (own_nneg (by omega)) (own_clamp (by omega)) (by omega) (g := (mkF m 182 #[.val (.int p1), .val (.ref a1), .val (.int (Int32.ofNat t)), .val (.int (Int32.ofNat (t + 1 + 1 + 1 + 1)))] [(.int (((128 : Int32) ||| (p1 &&& (63 : Int32))).toInt8.toInt32)), (.int (Int32.ofNat (t + 1 + 1 + 1))), (.ref a1)])) rfl rfl (hb hby d2_182)
        have K1 := Keep.wr K1 W10 (Or.inl (List.mem_of_getElem? (i := 0) rfl))
        have B1 := B1'
        clear B1'
        have N10 := Fr.snoc X10 N9 g1
        refine Ends.to (T' := T10) (g' := (mkF m 183 #[.val (.int p1), .val (.ref a1), .val (.int (Int32.ofNat t)), .val (.int (Int32.ofNat (t + 1 + 1 + 1 + 1)))] [])) (fun tt_ kk_ => st10 tt_ kk_) ?_
        refine Ends.to (T' := T10) (g' := (mkF m 184 #[.val (.int p1), .val (.ref a1), .val (.int (Int32.ofNat t)), .val (.int (Int32.ofNat (t + 1 + 1 + 1 + 1)))] [(.int (Int32.ofNat (t + 1 + 1 + 1 + 1)))])) (fun tt_ kk_ => XS.iloadN X10.here hx rfl (hb hby d2_183) rfl kk_) ?_
        exact Ends.retI X10 hx hret (hb hby d2_184) hlk (by decide) (by decide) ⟨by simp only [own_len, if_neg hc6, if_neg hc24, if_neg hc63], N10, by rw [e10]; exact ⟨K1, by simp only [own_enc, if_neg hc6, if_neg hc24, if_neg hc63]; exact B1⟩⟩
def own_cp (g : Nat → Int32) (t : Nat) : Int32 :=
  if (g t &&& 255) < 128 then (g t &&& 255)
  else if (g t &&& 255) < 224 then ((((g t &&& 255) &&& 31) <<< (6 &&& 31)) ||| (g (t + 1) &&& 63))
  else if (g t &&& 255) < 240 then (((((g t &&& 255) &&& 15) <<< (12 &&& 31)) ||| ((g (t + 1) &&& 63) <<< (6 &&& 31))) ||| (g (t + 2) &&& 63))
  else ((((((g t &&& 255) &&& 7) <<< (18 &&& 31)) ||| ((g (t + 1) &&& 63) <<< (12 &&& 31))) ||| ((g (t + 2) &&& 63) <<< (6 &&& 31))) ||| (g (t + 3) &&& 63))
set_option maxRecDepth 65536 in
set_option maxHeartbeats 40000000 in
def Q_rm3 (Z : State) (a1 : Addr) (t : Nat) (f : Nat → Int32) (h0 : Heap) (n0 : Nat) : Option Value → Heap → List Loc → Prop := fun v h L => v = some (.int (own_cp f t)) ∧ Fr n0 L ∧ h = h0
set_option maxRecDepth 65536 in
set_option maxHeartbeats 40000000 in
theorem rm3 (l : Launch) (Z : State) (a0 : Array Value) (hw : ∀ d ∈ tables_1, d.before a0 Z = true) (ws : List Jvm.Cond) (a1 : Addr) (t : Nat) (f : Nat → Int32) (h0 : Heap) (n0 : Nat) (Z0 : n0 ≤ h0.size) (ht : t + 4 ≤ 8) (B1 : BB Z h0 a1 8 f) :
    Pays l (⟨"com/example/predicate/predicate/document/Utf8", "codePoint", "([BI)I"⟩ : MethodName) prog_39_method_3_code 4 (some .int) ws ({ frames := 0, cells := 0, slots := 0, locals := 0 } : Room) #[(.ref a1), (.int (Int32.ofNat t))] Z h0 (Q_rm3 Z a1 t f h0 n0) := by
  refine Pays.of (plainFor_of_name pn_3) ?_
  intro p e s m below meth c s₁ hx hby hml hown hnm hret hlk hZ X0 e0
  have hown : s.vm.findClass "com/example/predicate/predicate/document/Utf8" = some m.cls := hown
  have hnm : meth.name = "codePoint" := hnm
  have hml : c.maxLocals = 4 := hml
  show Ends p e below s _ _ (fun v h L => v = some (.int (own_cp f t)) ∧ Fr n0 L ∧ h = h0) s₁ _
  refine Ends.cast (ef_3 m a1 (Int32.ofNat t)) ?_
  have N0 := Fr.nil n0
  refine Ends.to (T' := s₁) (g' := (mkF m 1 #[.val (.ref a1), .val (.int (Int32.ofNat t)), .unset, .unset] [(.ref a1)])) (fun tt_ kk_ => XS.aloadN X0.here hx rfl (hb hby d3_0) rfl rfl kk_) ?_
  refine Ends.to (T' := s₁) (g' := (mkF m 2 #[.val (.ref a1), .val (.int (Int32.ofNat t)), .unset, .unset] [(.int (Int32.ofNat t)), (.ref a1)])) (fun tt_ kk_ => XS.iloadN X0.here hx rfl (hb hby d3_1) rfl kk_) ?_
  refine Ends.to (T' := s₁) (g' := (mkF m 3 #[.val (.ref a1), .val (.int (Int32.ofNat t)), .unset, .unset] [(.int (f t))])) (fun tt_ kk_ => BA.ldB X0 hx hZ e0 B1 (j := (Int32.ofNat t)) (i := t) (own_nneg (by omega)) (own_clamp (by omega)) (by omega) (g := (mkF m 2 #[.val (.ref a1), .val (.int (Int32.ofNat t)), .unset, .unset] [(.int (Int32.ofNat t)), (.ref a1)])) rfl rfl (hb hby d3_2) tt_ kk_) ?_
  refine Ends.to (T' := s₁) (g' := (mkF m 6 #[.val (.ref a1), .val (.int (Int32.ofNat t)), .unset, .unset] [(.int (255 : Int32)), (.int (f t))])) (fun tt_ kk_ => XS.sipush X0.here hx rfl (hb hby d3_3) kk_) ?_
  refine Ends.to (T' := s₁) (g' := (mkF m 7 #[.val (.ref a1), .val (.int (Int32.ofNat t)), .unset, .unset] [(.int ((f t) &&& (255 : Int32)))])) (fun tt_ kk_ => XS.iand X0.here hx rfl (hb hby d3_6) rfl kk_) ?_
  refine Ends.to (T' := s₁) (g' := (mkF m 8 #[.val (.ref a1), .val (.int (Int32.ofNat t)), .val (.int ((f t) &&& (255 : Int32))), .unset] [])) (fun tt_ kk_ => XS.istoreN X0.here hx rfl (hb hby d3_7) rfl (l' := #[.val (.ref a1), .val (.int (Int32.ofNat t)), .val (.int ((f t) &&& (255 : Int32))), .unset]) rfl kk_) ?_
  refine Ends.to (T' := s₁) (g' := (mkF m 9 #[.val (.ref a1), .val (.int (Int32.ofNat t)), .val (.int ((f t) &&& (255 : Int32))), .unset] [(.int ((f t) &&& (255 : Int32)))])) (fun tt_ kk_ => XS.iloadN X0.here hx rfl (hb hby d3_8) rfl kk_) ?_
  refine Ends.to (T' := s₁) (g' := (mkF m 12 #[.val (.ref a1), .val (.int (Int32.ofNat t)), .val (.int ((f t) &&& (255 : Int32))), .unset] [(.int (128 : Int32)), (.int ((f t) &&& (255 : Int32)))])) (fun tt_ kk_ => XS.sipush X0.here hx rfl (hb hby d3_9) kk_) ?_
  by_cases hc12 : ((f t) &&& (255 : Int32)) < (128 : Int32)
  · refine Ends.to (T' := s₁) (g' := (mkF m 15 #[.val (.ref a1), .val (.int (Int32.ofNat t)), .val (.int ((f t) &&& (255 : Int32))), .unset] [])) (fun tt_ kk_ => XS.icmpNo X0.here hx rfl (hb hby d3_12) rfl (tlt hc12).2.1 kk_) ?_
    refine Ends.to (T' := s₁) (g' := (mkF m 16 #[.val (.ref a1), .val (.int (Int32.ofNat t)), .val (.int ((f t) &&& (255 : Int32))), .unset] [(.int ((f t) &&& (255 : Int32)))])) (fun tt_ kk_ => XS.iloadN X0.here hx rfl (hb hby d3_15) rfl kk_) ?_
    refine Ends.to (T' := s₁) (g' := (mkF m 17 #[.val (.ref a1), .val (.int (Int32.ofNat t)), .val (.int ((f t) &&& (255 : Int32))), .val (.int ((f t) &&& (255 : Int32)))] [])) (fun tt_ kk_ => XS.istoreN X0.here hx rfl (hb hby d3_16) rfl (l' := #[.val (.ref a1), .val (.int (Int32.ofNat t)), .val (.int ((f t) &&& (255 : Int32))), .val (.int ((f t) &&& (255 : Int32)))]) rfl kk_) ?_
    refine Ends.to (T' := s₁) (g' := (mkF m 127 #[.val (.ref a1), .val (.int (Int32.ofNat t)), .val (.int ((f t) &&& (255 : Int32))), .val (.int ((f t) &&& (255 : Int32)))] [])) (fun tt_ kk_ => XS.goto X0.here hx rfl (pc0 := 17) (pc' := 127) rfl (hb hby d3_17) (by decide) (by decide) kk_) ?_
    refine Ends.to (T' := s₁) (g' := (mkF m 128 #[.val (.ref a1), .val (.int (Int32.ofNat t)), .val (.int ((f t) &&& (255 : Int32))), .val (.int ((f t) &&& (255 : Int32)))] [(.int ((f t) &&& (255 : Int32)))])) (fun tt_ kk_ => XS.iloadN X0.here hx rfl (hb hby d3_127) rfl kk_) ?_
    exact Ends.retI X0 hx hret (hb hby d3_128) hlk (by decide) (by decide) ⟨by simp only [own_cp, if_pos hc12], N0, e0⟩
  · refine Ends.to (T' := s₁) (g' := (mkF m 20 #[.val (.ref a1), .val (.int (Int32.ofNat t)), .val (.int ((f t) &&& (255 : Int32))), .unset] [])) (fun tt_ kk_ => XS.icmpYes X0.here hx rfl (pc0 := 12) (pc' := 20) rfl (hb hby d3_12) rfl (flt hc12).2.1 (by decide) (by decide) kk_) ?_
    refine Ends.to (T' := s₁) (g' := (mkF m 21 #[.val (.ref a1), .val (.int (Int32.ofNat t)), .val (.int ((f t) &&& (255 : Int32))), .unset] [(.int ((f t) &&& (255 : Int32)))])) (fun tt_ kk_ => XS.iloadN X0.here hx rfl (hb hby d3_20) rfl kk_) ?_
    refine Ends.to (T' := s₁) (g' := (mkF m 24 #[.val (.ref a1), .val (.int (Int32.ofNat t)), .val (.int ((f t) &&& (255 : Int32))), .unset] [(.int (224 : Int32)), (.int ((f t) &&& (255 : Int32)))])) (fun tt_ kk_ => XS.sipush X0.here hx rfl (hb hby d3_21) kk_) ?_
    by_cases hc24 : ((f t) &&& (255 : Int32)) < (224 : Int32)
    · refine Ends.to (T' := s₁) (g' := (mkF m 27 #[.val (.ref a1), .val (.int (Int32.ofNat t)), .val (.int ((f t) &&& (255 : Int32))), .unset] [])) (fun tt_ kk_ => XS.icmpNo X0.here hx rfl (hb hby d3_24) rfl (tlt hc24).2.1 kk_) ?_
      refine Ends.to (T' := s₁) (g' := (mkF m 28 #[.val (.ref a1), .val (.int (Int32.ofNat t)), .val (.int ((f t) &&& (255 : Int32))), .unset] [(.int ((f t) &&& (255 : Int32)))])) (fun tt_ kk_ => XS.iloadN X0.here hx rfl (hb hby d3_27) rfl kk_) ?_
      refine Ends.to (T' := s₁) (g' := (mkF m 30 #[.val (.ref a1), .val (.int (Int32.ofNat t)), .val (.int ((f t) &&& (255 : Int32))), .unset] [(.int (31 : Int32)), (.int ((f t) &&& (255 : Int32)))])) (fun tt_ kk_ => XS.bipush X0.here hx rfl (hb hby d3_28) kk_) ?_
      refine Ends.to (T' := s₁) (g' := (mkF m 31 #[.val (.ref a1), .val (.int (Int32.ofNat t)), .val (.int ((f t) &&& (255 : Int32))), .unset] [(.int (((f t) &&& (255 : Int32)) &&& (31 : Int32)))])) (fun tt_ kk_ => XS.iand X0.here hx rfl (hb hby d3_30) rfl kk_) ?_
      refine Ends.to (T' := s₁) (g' := (mkF m 33 #[.val (.ref a1), .val (.int (Int32.ofNat t)), .val (.int ((f t) &&& (255 : Int32))), .unset] [(.int (6 : Int32)), (.int (((f t) &&& (255 : Int32)) &&& (31 : Int32)))])) (fun tt_ kk_ => XS.bipush X0.here hx rfl (hb hby d3_31) kk_) ?_
      refine Ends.to (T' := s₁) (g' := (mkF m 34 #[.val (.ref a1), .val (.int (Int32.ofNat t)), .val (.int ((f t) &&& (255 : Int32))), .unset] [(.int ((((f t) &&& (255 : Int32)) &&& (31 : Int32)) <<< ((6 : Int32) &&& 31)))])) (fun tt_ kk_ => XS.ishl X0.here hx rfl (hb hby d3_33) rfl kk_) ?_
      refine Ends.to (T' := s₁) (g' := (mkF m 35 #[.val (.ref a1), .val (.int (Int32.ofNat t)), .val (.int ((f t) &&& (255 : Int32))), .unset] [(.ref a1), (.int ((((f t) &&& (255 : Int32)) &&& (31 : Int32)) <<< ((6 : Int32) &&& 31)))])) (fun tt_ kk_ => XS.aloadN X0.here hx rfl (hb hby d3_34) rfl rfl kk_) ?_
      refine Ends.to (T' := s₁) (g' := (mkF m 36 #[.val (.ref a1), .val (.int (Int32.ofNat t)), .val (.int ((f t) &&& (255 : Int32))), .unset] [(.int (Int32.ofNat t)), (.ref a1), (.int ((((f t) &&& (255 : Int32)) &&& (31 : Int32)) <<< ((6 : Int32) &&& 31)))])) (fun tt_ kk_ => XS.iloadN X0.here hx rfl (hb hby d3_35) rfl kk_) ?_
      refine Ends.to (T' := s₁) (g' := (mkF m 37 #[.val (.ref a1), .val (.int (Int32.ofNat t)), .val (.int ((f t) &&& (255 : Int32))), .unset] [(.int (1 : Int32)), (.int (Int32.ofNat t)), (.ref a1), (.int ((((f t) &&& (255 : Int32)) &&& (31 : Int32)) <<< ((6 : Int32) &&& 31)))])) (fun tt_ kk_ => XS.iconst X0.here hx rfl (hb hby d3_36) kk_) ?_
      refine Ends.to (T' := s₁) (g' := (mkF m 38 #[.val (.ref a1), .val (.int (Int32.ofNat t)), .val (.int ((f t) &&& (255 : Int32))), .unset] [(.int ((Int32.ofNat t) + (1 : Int32))), (.ref a1), (.int ((((f t) &&& (255 : Int32)) &&& (31 : Int32)) <<< ((6 : Int32) &&& 31)))])) (fun tt_ kk_ => XS.iadd X0.here hx rfl (hb hby d3_37) rfl kk_) ?_
      refine Ends.to (T' := s₁) (g' := (mkF m 39 #[.val (.ref a1), .val (.int (Int32.ofNat t)), .val (.int ((f t) &&& (255 : Int32))), .unset] [(.int (f (t + 1))), (.int ((((f t) &&& (255 : Int32)) &&& (31 : Int32)) <<< ((6 : Int32) &&& 31)))])) (fun tt_ kk_ => BA.ldB X0 hx hZ e0 B1 (j := ((Int32.ofNat t) + (1 : Int32))) (i := (t + 1)) (by rw [own_addk t (k := 1) (z := 1) rfl]; exact own_nneg (by omega)) (by rw [own_addk t (k := 1) (z := 1) rfl]; exact own_clamp (by omega)) (by omega) (g := (mkF m 38 #[.val (.ref a1), .val (.int (Int32.ofNat t)), .val (.int ((f t) &&& (255 : Int32))), .unset] [(.int ((Int32.ofNat t) + (1 : Int32))), (.ref a1), (.int ((((f t) &&& (255 : Int32)) &&& (31 : Int32)) <<< ((6 : Int32) &&& 31)))])) rfl rfl (hb hby d3_38) tt_ kk_) ?_
      refine Ends.to (T' := s₁) (g' := (mkF m 41 #[.val (.ref a1), .val (.int (Int32.ofNat t)), .val (.int ((f t) &&& (255 : Int32))), .unset] [(.int (63 : Int32)), (.int (f (t + 1))), (.int ((((f t) &&& (255 : Int32)) &&& (31 : Int32)) <<< ((6 : Int32) &&& 31)))])) (fun tt_ kk_ => XS.bipush X0.here hx rfl (hb hby d3_39) kk_) ?_
      refine Ends.to (T' := s₁) (g' := (mkF m 42 #[.val (.ref a1), .val (.int (Int32.ofNat t)), .val (.int ((f t) &&& (255 : Int32))), .unset] [(.int ((f (t + 1)) &&& (63 : Int32))), (.int ((((f t) &&& (255 : Int32)) &&& (31 : Int32)) <<< ((6 : Int32) &&& 31)))])) (fun tt_ kk_ => XS.iand X0.here hx rfl (hb hby d3_41) rfl kk_) ?_
      refine Ends.to (T' := s₁) (g' := (mkF m 43 #[.val (.ref a1), .val (.int (Int32.ofNat t)), .val (.int ((f t) &&& (255 : Int32))), .unset] [(.int (((((f t) &&& (255 : Int32)) &&& (31 : Int32)) <<< ((6 : Int32) &&& 31)) ||| ((f (t + 1)) &&& (63 : Int32))))])) (fun tt_ kk_ => XS.ior X0.here hx rfl (hb hby d3_42) rfl kk_) ?_
      refine Ends.to (T' := s₁) (g' := (mkF m 44 #[.val (.ref a1), .val (.int (Int32.ofNat t)), .val (.int ((f t) &&& (255 : Int32))), .val (.int (((((f t) &&& (255 : Int32)) &&& (31 : Int32)) <<< ((6 : Int32) &&& 31)) ||| ((f (t + 1)) &&& (63 : Int32))))] [])) (fun tt_ kk_ => XS.istoreN X0.here hx rfl (hb hby d3_43) rfl (l' := #[.val (.ref a1), .val (.int (Int32.ofNat t)), .val (.int ((f t) &&& (255 : Int32))), .val (.int (((((f t) &&& (255 : Int32)) &&& (31 : Int32)) <<< ((6 : Int32) &&& 31)) ||| ((f (t + 1)) &&& (63 : Int32))))]) rfl kk_) ?_
      refine Ends.to (T' := s₁) (g' := (mkF m 127 #[.val (.ref a1), .val (.int (Int32.ofNat t)), .val (.int ((f t) &&& (255 : Int32))), .val (.int (((((f t) &&& (255 : Int32)) &&& (31 : Int32)) <<< ((6 : Int32) &&& 31)) ||| ((f (t + 1)) &&& (63 : Int32))))] [])) (fun tt_ kk_ => XS.goto X0.here hx rfl (pc0 := 44) (pc' := 127) rfl (hb hby d3_44) (by decide) (by decide) kk_) ?_
      refine Ends.to (T' := s₁) (g' := (mkF m 128 #[.val (.ref a1), .val (.int (Int32.ofNat t)), .val (.int ((f t) &&& (255 : Int32))), .val (.int (((((f t) &&& (255 : Int32)) &&& (31 : Int32)) <<< ((6 : Int32) &&& 31)) ||| ((f (t + 1)) &&& (63 : Int32))))] [(.int (((((f t) &&& (255 : Int32)) &&& (31 : Int32)) <<< ((6 : Int32) &&& 31)) ||| ((f (t + 1)) &&& (63 : Int32))))])) (fun tt_ kk_ => XS.iloadN X0.here hx rfl (hb hby d3_127) rfl kk_) ?_
      exact Ends.retI X0 hx hret (hb hby d3_128) hlk (by decide) (by decide) ⟨by simp only [own_cp, if_neg hc12, if_pos hc24], N0, e0⟩
    · refine Ends.to (T' := s₁) (g' := (mkF m 47 #[.val (.ref a1), .val (.int (Int32.ofNat t)), .val (.int ((f t) &&& (255 : Int32))), .unset] [])) (fun tt_ kk_ => XS.icmpYes X0.here hx rfl (pc0 := 24) (pc' := 47) rfl (hb hby d3_24) rfl (flt hc24).2.1 (by decide) (by decide) kk_) ?_
      refine Ends.to (T' := s₁) (g' := (mkF m 48 #[.val (.ref a1), .val (.int (Int32.ofNat t)), .val (.int ((f t) &&& (255 : Int32))), .unset] [(.int ((f t) &&& (255 : Int32)))])) (fun tt_ kk_ => XS.iloadN X0.here hx rfl (hb hby d3_47) rfl kk_) ?_
      refine Ends.to (T' := s₁) (g' := (mkF m 51 #[.val (.ref a1), .val (.int (Int32.ofNat t)), .val (.int ((f t) &&& (255 : Int32))), .unset] [(.int (240 : Int32)), (.int ((f t) &&& (255 : Int32)))])) (fun tt_ kk_ => XS.sipush X0.here hx rfl (hb hby d3_48) kk_) ?_
      by_cases hc51 : ((f t) &&& (255 : Int32)) < (240 : Int32)
      · refine Ends.to (T' := s₁) (g' := (mkF m 54 #[.val (.ref a1), .val (.int (Int32.ofNat t)), .val (.int ((f t) &&& (255 : Int32))), .unset] [])) (fun tt_ kk_ => XS.icmpNo X0.here hx rfl (hb hby d3_51) rfl (tlt hc51).2.1 kk_) ?_
        refine Ends.to (T' := s₁) (g' := (mkF m 55 #[.val (.ref a1), .val (.int (Int32.ofNat t)), .val (.int ((f t) &&& (255 : Int32))), .unset] [(.int ((f t) &&& (255 : Int32)))])) (fun tt_ kk_ => XS.iloadN X0.here hx rfl (hb hby d3_54) rfl kk_) ?_
        refine Ends.to (T' := s₁) (g' := (mkF m 57 #[.val (.ref a1), .val (.int (Int32.ofNat t)), .val (.int ((f t) &&& (255 : Int32))), .unset] [(.int (15 : Int32)), (.int ((f t) &&& (255 : Int32)))])) (fun tt_ kk_ => XS.bipush X0.here hx rfl (hb hby d3_55) kk_) ?_
        refine Ends.to (T' := s₁) (g' := (mkF m 58 #[.val (.ref a1), .val (.int (Int32.ofNat t)), .val (.int ((f t) &&& (255 : Int32))), .unset] [(.int (((f t) &&& (255 : Int32)) &&& (15 : Int32)))])) (fun tt_ kk_ => XS.iand X0.here hx rfl (hb hby d3_57) rfl kk_) ?_
        refine Ends.to (T' := s₁) (g' := (mkF m 60 #[.val (.ref a1), .val (.int (Int32.ofNat t)), .val (.int ((f t) &&& (255 : Int32))), .unset] [(.int (12 : Int32)), (.int (((f t) &&& (255 : Int32)) &&& (15 : Int32)))])) (fun tt_ kk_ => XS.bipush X0.here hx rfl (hb hby d3_58) kk_) ?_
        refine Ends.to (T' := s₁) (g' := (mkF m 61 #[.val (.ref a1), .val (.int (Int32.ofNat t)), .val (.int ((f t) &&& (255 : Int32))), .unset] [(.int ((((f t) &&& (255 : Int32)) &&& (15 : Int32)) <<< ((12 : Int32) &&& 31)))])) (fun tt_ kk_ => XS.ishl X0.here hx rfl (hb hby d3_60) rfl kk_) ?_
        refine Ends.to (T' := s₁) (g' := (mkF m 62 #[.val (.ref a1), .val (.int (Int32.ofNat t)), .val (.int ((f t) &&& (255 : Int32))), .unset] [(.ref a1), (.int ((((f t) &&& (255 : Int32)) &&& (15 : Int32)) <<< ((12 : Int32) &&& 31)))])) (fun tt_ kk_ => XS.aloadN X0.here hx rfl (hb hby d3_61) rfl rfl kk_) ?_
        refine Ends.to (T' := s₁) (g' := (mkF m 63 #[.val (.ref a1), .val (.int (Int32.ofNat t)), .val (.int ((f t) &&& (255 : Int32))), .unset] [(.int (Int32.ofNat t)), (.ref a1), (.int ((((f t) &&& (255 : Int32)) &&& (15 : Int32)) <<< ((12 : Int32) &&& 31)))])) (fun tt_ kk_ => XS.iloadN X0.here hx rfl (hb hby d3_62) rfl kk_) ?_
        refine Ends.to (T' := s₁) (g' := (mkF m 64 #[.val (.ref a1), .val (.int (Int32.ofNat t)), .val (.int ((f t) &&& (255 : Int32))), .unset] [(.int (1 : Int32)), (.int (Int32.ofNat t)), (.ref a1), (.int ((((f t) &&& (255 : Int32)) &&& (15 : Int32)) <<< ((12 : Int32) &&& 31)))])) (fun tt_ kk_ => XS.iconst X0.here hx rfl (hb hby d3_63) kk_) ?_
        refine Ends.to (T' := s₁) (g' := (mkF m 65 #[.val (.ref a1), .val (.int (Int32.ofNat t)), .val (.int ((f t) &&& (255 : Int32))), .unset] [(.int ((Int32.ofNat t) + (1 : Int32))), (.ref a1), (.int ((((f t) &&& (255 : Int32)) &&& (15 : Int32)) <<< ((12 : Int32) &&& 31)))])) (fun tt_ kk_ => XS.iadd X0.here hx rfl (hb hby d3_64) rfl kk_) ?_
        refine Ends.to (T' := s₁) (g' := (mkF m 66 #[.val (.ref a1), .val (.int (Int32.ofNat t)), .val (.int ((f t) &&& (255 : Int32))), .unset] [(.int (f (t + 1))), (.int ((((f t) &&& (255 : Int32)) &&& (15 : Int32)) <<< ((12 : Int32) &&& 31)))])) (fun tt_ kk_ => BA.ldB X0 hx hZ e0 B1 (j := ((Int32.ofNat t) + (1 : Int32))) (i := (t + 1)) (by rw [own_addk t (k := 1) (z := 1) rfl]; exact own_nneg (by omega)) (by rw [own_addk t (k := 1) (z := 1) rfl]; exact own_clamp (by omega)) (by omega) (g := (mkF m 65 #[.val (.ref a1), .val (.int (Int32.ofNat t)), .val (.int ((f t) &&& (255 : Int32))), .unset] [(.int ((Int32.ofNat t) + (1 : Int32))), (.ref a1), (.int ((((f t) &&& (255 : Int32)) &&& (15 : Int32)) <<< ((12 : Int32) &&& 31)))])) rfl rfl (hb hby d3_65) tt_ kk_) ?_
        refine Ends.to (T' := s₁) (g' := (mkF m 68 #[.val (.ref a1), .val (.int (Int32.ofNat t)), .val (.int ((f t) &&& (255 : Int32))), .unset] [(.int (63 : Int32)), (.int (f (t + 1))), (.int ((((f t) &&& (255 : Int32)) &&& (15 : Int32)) <<< ((12 : Int32) &&& 31)))])) (fun tt_ kk_ => XS.bipush X0.here hx rfl (hb hby d3_66) kk_) ?_
        refine Ends.to (T' := s₁) (g' := (mkF m 69 #[.val (.ref a1), .val (.int (Int32.ofNat t)), .val (.int ((f t) &&& (255 : Int32))), .unset] [(.int ((f (t + 1)) &&& (63 : Int32))), (.int ((((f t) &&& (255 : Int32)) &&& (15 : Int32)) <<< ((12 : Int32) &&& 31)))])) (fun tt_ kk_ => XS.iand X0.here hx rfl (hb hby d3_68) rfl kk_) ?_
        refine Ends.to (T' := s₁) (g' := (mkF m 71 #[.val (.ref a1), .val (.int (Int32.ofNat t)), .val (.int ((f t) &&& (255 : Int32))), .unset] [(.int (6 : Int32)), (.int ((f (t + 1)) &&& (63 : Int32))), (.int ((((f t) &&& (255 : Int32)) &&& (15 : Int32)) <<< ((12 : Int32) &&& 31)))])) (fun tt_ kk_ => XS.bipush X0.here hx rfl (hb hby d3_69) kk_) ?_
        refine Ends.to (T' := s₁) (g' := (mkF m 72 #[.val (.ref a1), .val (.int (Int32.ofNat t)), .val (.int ((f t) &&& (255 : Int32))), .unset] [(.int (((f (t + 1)) &&& (63 : Int32)) <<< ((6 : Int32) &&& 31))), (.int ((((f t) &&& (255 : Int32)) &&& (15 : Int32)) <<< ((12 : Int32) &&& 31)))])) (fun tt_ kk_ => XS.ishl X0.here hx rfl (hb hby d3_71) rfl kk_) ?_
        refine Ends.to (T' := s₁) (g' := (mkF m 73 #[.val (.ref a1), .val (.int (Int32.ofNat t)), .val (.int ((f t) &&& (255 : Int32))), .unset] [(.int (((((f t) &&& (255 : Int32)) &&& (15 : Int32)) <<< ((12 : Int32) &&& 31)) ||| (((f (t + 1)) &&& (63 : Int32)) <<< ((6 : Int32) &&& 31))))])) (fun tt_ kk_ => XS.ior X0.here hx rfl (hb hby d3_72) rfl kk_) ?_
        refine Ends.to (T' := s₁) (g' := (mkF m 74 #[.val (.ref a1), .val (.int (Int32.ofNat t)), .val (.int ((f t) &&& (255 : Int32))), .unset] [(.ref a1), (.int (((((f t) &&& (255 : Int32)) &&& (15 : Int32)) <<< ((12 : Int32) &&& 31)) ||| (((f (t + 1)) &&& (63 : Int32)) <<< ((6 : Int32) &&& 31))))])) (fun tt_ kk_ => XS.aloadN X0.here hx rfl (hb hby d3_73) rfl rfl kk_) ?_
        refine Ends.to (T' := s₁) (g' := (mkF m 75 #[.val (.ref a1), .val (.int (Int32.ofNat t)), .val (.int ((f t) &&& (255 : Int32))), .unset] [(.int (Int32.ofNat t)), (.ref a1), (.int (((((f t) &&& (255 : Int32)) &&& (15 : Int32)) <<< ((12 : Int32) &&& 31)) ||| (((f (t + 1)) &&& (63 : Int32)) <<< ((6 : Int32) &&& 31))))])) (fun tt_ kk_ => XS.iloadN X0.here hx rfl (hb hby d3_74) rfl kk_) ?_
        refine Ends.to (T' := s₁) (g' := (mkF m 76 #[.val (.ref a1), .val (.int (Int32.ofNat t)), .val (.int ((f t) &&& (255 : Int32))), .unset] [(.int (2 : Int32)), (.int (Int32.ofNat t)), (.ref a1), (.int (((((f t) &&& (255 : Int32)) &&& (15 : Int32)) <<< ((12 : Int32) &&& 31)) ||| (((f (t + 1)) &&& (63 : Int32)) <<< ((6 : Int32) &&& 31))))])) (fun tt_ kk_ => XS.iconst X0.here hx rfl (hb hby d3_75) kk_) ?_
        refine Ends.to (T' := s₁) (g' := (mkF m 77 #[.val (.ref a1), .val (.int (Int32.ofNat t)), .val (.int ((f t) &&& (255 : Int32))), .unset] [(.int ((Int32.ofNat t) + (2 : Int32))), (.ref a1), (.int (((((f t) &&& (255 : Int32)) &&& (15 : Int32)) <<< ((12 : Int32) &&& 31)) ||| (((f (t + 1)) &&& (63 : Int32)) <<< ((6 : Int32) &&& 31))))])) (fun tt_ kk_ => XS.iadd X0.here hx rfl (hb hby d3_76) rfl kk_) ?_
        refine Ends.to (T' := s₁) (g' := (mkF m 78 #[.val (.ref a1), .val (.int (Int32.ofNat t)), .val (.int ((f t) &&& (255 : Int32))), .unset] [(.int (f (t + 2))), (.int (((((f t) &&& (255 : Int32)) &&& (15 : Int32)) <<< ((12 : Int32) &&& 31)) ||| (((f (t + 1)) &&& (63 : Int32)) <<< ((6 : Int32) &&& 31))))])) (fun tt_ kk_ => BA.ldB X0 hx hZ e0 B1 (j := ((Int32.ofNat t) + (2 : Int32))) (i := (t + 2)) (by rw [own_addk t (k := 2) (z := 2) rfl]; exact own_nneg (by omega)) (by rw [own_addk t (k := 2) (z := 2) rfl]; exact own_clamp (by omega)) (by omega) (g := (mkF m 77 #[.val (.ref a1), .val (.int (Int32.ofNat t)), .val (.int ((f t) &&& (255 : Int32))), .unset] [(.int ((Int32.ofNat t) + (2 : Int32))), (.ref a1), (.int (((((f t) &&& (255 : Int32)) &&& (15 : Int32)) <<< ((12 : Int32) &&& 31)) ||| (((f (t + 1)) &&& (63 : Int32)) <<< ((6 : Int32) &&& 31))))])) rfl rfl (hb hby d3_77) tt_ kk_) ?_
        refine Ends.to (T' := s₁) (g' := (mkF m 80 #[.val (.ref a1), .val (.int (Int32.ofNat t)), .val (.int ((f t) &&& (255 : Int32))), .unset] [(.int (63 : Int32)), (.int (f (t + 2))), (.int (((((f t) &&& (255 : Int32)) &&& (15 : Int32)) <<< ((12 : Int32) &&& 31)) ||| (((f (t + 1)) &&& (63 : Int32)) <<< ((6 : Int32) &&& 31))))])) (fun tt_ kk_ => XS.bipush X0.here hx rfl (hb hby d3_78) kk_) ?_
        refine Ends.to (T' := s₁) (g' := (mkF m 81 #[.val (.ref a1), .val (.int (Int32.ofNat t)), .val (.int ((f t) &&& (255 : Int32))), .unset] [(.int ((f (t + 2)) &&& (63 : Int32))), (.int (((((f t) &&& (255 : Int32)) &&& (15 : Int32)) <<< ((12 : Int32) &&& 31)) ||| (((f (t + 1)) &&& (63 : Int32)) <<< ((6 : Int32) &&& 31))))])) (fun tt_ kk_ => XS.iand X0.here hx rfl (hb hby d3_80) rfl kk_) ?_
        refine Ends.to (T' := s₁) (g' := (mkF m 82 #[.val (.ref a1), .val (.int (Int32.ofNat t)), .val (.int ((f t) &&& (255 : Int32))), .unset] [(.int ((((((f t) &&& (255 : Int32)) &&& (15 : Int32)) <<< ((12 : Int32) &&& 31)) ||| (((f (t + 1)) &&& (63 : Int32)) <<< ((6 : Int32) &&& 31))) ||| ((f (t + 2)) &&& (63 : Int32))))])) (fun tt_ kk_ => XS.ior X0.here hx rfl (hb hby d3_81) rfl kk_) ?_
        refine Ends.to (T' := s₁) (g' := (mkF m 83 #[.val (.ref a1), .val (.int (Int32.ofNat t)), .val (.int ((f t) &&& (255 : Int32))), .val (.int ((((((f t) &&& (255 : Int32)) &&& (15 : Int32)) <<< ((12 : Int32) &&& 31)) ||| (((f (t + 1)) &&& (63 : Int32)) <<< ((6 : Int32) &&& 31))) ||| ((f (t + 2)) &&& (63 : Int32))))] [])) (fun tt_ kk_ => XS.istoreN X0.here hx rfl (hb hby d3_82) rfl (l' := #[.val (.ref a1), .val (.int (Int32.ofNat t)), .val (.int ((f t) &&& (255 : Int32))), .val (.int ((((((f t) &&& (255 : Int32)) &&& (15 : Int32)) <<< ((12 : Int32) &&& 31)) ||| (((f (t + 1)) &&& (63 : Int32)) <<< ((6 : Int32) &&& 31))) ||| ((f (t + 2)) &&& (63 : Int32))))]) rfl kk_) ?_
        refine Ends.to (T' := s₁) (g' := (mkF m 127 #[.val (.ref a1), .val (.int (Int32.ofNat t)), .val (.int ((f t) &&& (255 : Int32))), .val (.int ((((((f t) &&& (255 : Int32)) &&& (15 : Int32)) <<< ((12 : Int32) &&& 31)) ||| (((f (t + 1)) &&& (63 : Int32)) <<< ((6 : Int32) &&& 31))) ||| ((f (t + 2)) &&& (63 : Int32))))] [])) (fun tt_ kk_ => XS.goto X0.here hx rfl (pc0 := 83) (pc' := 127) rfl (hb hby d3_83) (by decide) (by decide) kk_) ?_
        refine Ends.to (T' := s₁) (g' := (mkF m 128 #[.val (.ref a1), .val (.int (Int32.ofNat t)), .val (.int ((f t) &&& (255 : Int32))), .val (.int ((((((f t) &&& (255 : Int32)) &&& (15 : Int32)) <<< ((12 : Int32) &&& 31)) ||| (((f (t + 1)) &&& (63 : Int32)) <<< ((6 : Int32) &&& 31))) ||| ((f (t + 2)) &&& (63 : Int32))))] [(.int ((((((f t) &&& (255 : Int32)) &&& (15 : Int32)) <<< ((12 : Int32) &&& 31)) ||| (((f (t + 1)) &&& (63 : Int32)) <<< ((6 : Int32) &&& 31))) ||| ((f (t + 2)) &&& (63 : Int32))))])) (fun tt_ kk_ => XS.iloadN X0.here hx rfl (hb hby d3_127) rfl kk_) ?_
        exact Ends.retI X0 hx hret (hb hby d3_128) hlk (by decide) (by decide) ⟨by simp only [own_cp, if_neg hc12, if_neg hc24, if_pos hc51], N0, e0⟩
      · refine Ends.to (T' := s₁) (g' := (mkF m 86 #[.val (.ref a1), .val (.int (Int32.ofNat t)), .val (.int ((f t) &&& (255 : Int32))), .unset] [])) (fun tt_ kk_ => XS.icmpYes X0.here hx rfl (pc0 := 51) (pc' := 86) rfl (hb hby d3_51) rfl (flt hc51).2.1 (by decide) (by decide) kk_) ?_
        refine Ends.to (T' := s₁) (g' := (mkF m 87 #[.val (.ref a1), .val (.int (Int32.ofNat t)), .val (.int ((f t) &&& (255 : Int32))), .unset] [(.int ((f t) &&& (255 : Int32)))])) (fun tt_ kk_ => XS.iloadN X0.here hx rfl (hb hby d3_86) rfl kk_) ?_
        refine Ends.to (T' := s₁) (g' := (mkF m 89 #[.val (.ref a1), .val (.int (Int32.ofNat t)), .val (.int ((f t) &&& (255 : Int32))), .unset] [(.int (7 : Int32)), (.int ((f t) &&& (255 : Int32)))])) (fun tt_ kk_ => XS.bipush X0.here hx rfl (hb hby d3_87) kk_) ?_
        refine Ends.to (T' := s₁) (g' := (mkF m 90 #[.val (.ref a1), .val (.int (Int32.ofNat t)), .val (.int ((f t) &&& (255 : Int32))), .unset] [(.int (((f t) &&& (255 : Int32)) &&& (7 : Int32)))])) (fun tt_ kk_ => XS.iand X0.here hx rfl (hb hby d3_89) rfl kk_) ?_
        refine Ends.to (T' := s₁) (g' := (mkF m 92 #[.val (.ref a1), .val (.int (Int32.ofNat t)), .val (.int ((f t) &&& (255 : Int32))), .unset] [(.int (18 : Int32)), (.int (((f t) &&& (255 : Int32)) &&& (7 : Int32)))])) (fun tt_ kk_ => XS.bipush X0.here hx rfl (hb hby d3_90) kk_) ?_
        refine Ends.to (T' := s₁) (g' := (mkF m 93 #[.val (.ref a1), .val (.int (Int32.ofNat t)), .val (.int ((f t) &&& (255 : Int32))), .unset] [(.int ((((f t) &&& (255 : Int32)) &&& (7 : Int32)) <<< ((18 : Int32) &&& 31)))])) (fun tt_ kk_ => XS.ishl X0.here hx rfl (hb hby d3_92) rfl kk_) ?_
        refine Ends.to (T' := s₁) (g' := (mkF m 94 #[.val (.ref a1), .val (.int (Int32.ofNat t)), .val (.int ((f t) &&& (255 : Int32))), .unset] [(.ref a1), (.int ((((f t) &&& (255 : Int32)) &&& (7 : Int32)) <<< ((18 : Int32) &&& 31)))])) (fun tt_ kk_ => XS.aloadN X0.here hx rfl (hb hby d3_93) rfl rfl kk_) ?_
        refine Ends.to (T' := s₁) (g' := (mkF m 95 #[.val (.ref a1), .val (.int (Int32.ofNat t)), .val (.int ((f t) &&& (255 : Int32))), .unset] [(.int (Int32.ofNat t)), (.ref a1), (.int ((((f t) &&& (255 : Int32)) &&& (7 : Int32)) <<< ((18 : Int32) &&& 31)))])) (fun tt_ kk_ => XS.iloadN X0.here hx rfl (hb hby d3_94) rfl kk_) ?_
        refine Ends.to (T' := s₁) (g' := (mkF m 96 #[.val (.ref a1), .val (.int (Int32.ofNat t)), .val (.int ((f t) &&& (255 : Int32))), .unset] [(.int (1 : Int32)), (.int (Int32.ofNat t)), (.ref a1), (.int ((((f t) &&& (255 : Int32)) &&& (7 : Int32)) <<< ((18 : Int32) &&& 31)))])) (fun tt_ kk_ => XS.iconst X0.here hx rfl (hb hby d3_95) kk_) ?_
        refine Ends.to (T' := s₁) (g' := (mkF m 97 #[.val (.ref a1), .val (.int (Int32.ofNat t)), .val (.int ((f t) &&& (255 : Int32))), .unset] [(.int ((Int32.ofNat t) + (1 : Int32))), (.ref a1), (.int ((((f t) &&& (255 : Int32)) &&& (7 : Int32)) <<< ((18 : Int32) &&& 31)))])) (fun tt_ kk_ => XS.iadd X0.here hx rfl (hb hby d3_96) rfl kk_) ?_
        refine Ends.to (T' := s₁) (g' := (mkF m 98 #[.val (.ref a1), .val (.int (Int32.ofNat t)), .val (.int ((f t) &&& (255 : Int32))), .unset] [(.int (f (t + 1))), (.int ((((f t) &&& (255 : Int32)) &&& (7 : Int32)) <<< ((18 : Int32) &&& 31)))])) (fun tt_ kk_ => BA.ldB X0 hx hZ e0 B1 (j := ((Int32.ofNat t) + (1 : Int32))) (i := (t + 1)) (by rw [own_addk t (k := 1) (z := 1) rfl]; exact own_nneg (by omega)) (by rw [own_addk t (k := 1) (z := 1) rfl]; exact own_clamp (by omega)) (by omega) (g := (mkF m 97 #[.val (.ref a1), .val (.int (Int32.ofNat t)), .val (.int ((f t) &&& (255 : Int32))), .unset] [(.int ((Int32.ofNat t) + (1 : Int32))), (.ref a1), (.int ((((f t) &&& (255 : Int32)) &&& (7 : Int32)) <<< ((18 : Int32) &&& 31)))])) rfl rfl (hb hby d3_97) tt_ kk_) ?_
        refine Ends.to (T' := s₁) (g' := (mkF m 100 #[.val (.ref a1), .val (.int (Int32.ofNat t)), .val (.int ((f t) &&& (255 : Int32))), .unset] [(.int (63 : Int32)), (.int (f (t + 1))), (.int ((((f t) &&& (255 : Int32)) &&& (7 : Int32)) <<< ((18 : Int32) &&& 31)))])) (fun tt_ kk_ => XS.bipush X0.here hx rfl (hb hby d3_98) kk_) ?_
        refine Ends.to (T' := s₁) (g' := (mkF m 101 #[.val (.ref a1), .val (.int (Int32.ofNat t)), .val (.int ((f t) &&& (255 : Int32))), .unset] [(.int ((f (t + 1)) &&& (63 : Int32))), (.int ((((f t) &&& (255 : Int32)) &&& (7 : Int32)) <<< ((18 : Int32) &&& 31)))])) (fun tt_ kk_ => XS.iand X0.here hx rfl (hb hby d3_100) rfl kk_) ?_
        refine Ends.to (T' := s₁) (g' := (mkF m 103 #[.val (.ref a1), .val (.int (Int32.ofNat t)), .val (.int ((f t) &&& (255 : Int32))), .unset] [(.int (12 : Int32)), (.int ((f (t + 1)) &&& (63 : Int32))), (.int ((((f t) &&& (255 : Int32)) &&& (7 : Int32)) <<< ((18 : Int32) &&& 31)))])) (fun tt_ kk_ => XS.bipush X0.here hx rfl (hb hby d3_101) kk_) ?_
        refine Ends.to (T' := s₁) (g' := (mkF m 104 #[.val (.ref a1), .val (.int (Int32.ofNat t)), .val (.int ((f t) &&& (255 : Int32))), .unset] [(.int (((f (t + 1)) &&& (63 : Int32)) <<< ((12 : Int32) &&& 31))), (.int ((((f t) &&& (255 : Int32)) &&& (7 : Int32)) <<< ((18 : Int32) &&& 31)))])) (fun tt_ kk_ => XS.ishl X0.here hx rfl (hb hby d3_103) rfl kk_) ?_
        refine Ends.to (T' := s₁) (g' := (mkF m 105 #[.val (.ref a1), .val (.int (Int32.ofNat t)), .val (.int ((f t) &&& (255 : Int32))), .unset] [(.int (((((f t) &&& (255 : Int32)) &&& (7 : Int32)) <<< ((18 : Int32) &&& 31)) ||| (((f (t + 1)) &&& (63 : Int32)) <<< ((12 : Int32) &&& 31))))])) (fun tt_ kk_ => XS.ior X0.here hx rfl (hb hby d3_104) rfl kk_) ?_
        refine Ends.to (T' := s₁) (g' := (mkF m 106 #[.val (.ref a1), .val (.int (Int32.ofNat t)), .val (.int ((f t) &&& (255 : Int32))), .unset] [(.ref a1), (.int (((((f t) &&& (255 : Int32)) &&& (7 : Int32)) <<< ((18 : Int32) &&& 31)) ||| (((f (t + 1)) &&& (63 : Int32)) <<< ((12 : Int32) &&& 31))))])) (fun tt_ kk_ => XS.aloadN X0.here hx rfl (hb hby d3_105) rfl rfl kk_) ?_
        refine Ends.to (T' := s₁) (g' := (mkF m 107 #[.val (.ref a1), .val (.int (Int32.ofNat t)), .val (.int ((f t) &&& (255 : Int32))), .unset] [(.int (Int32.ofNat t)), (.ref a1), (.int (((((f t) &&& (255 : Int32)) &&& (7 : Int32)) <<< ((18 : Int32) &&& 31)) ||| (((f (t + 1)) &&& (63 : Int32)) <<< ((12 : Int32) &&& 31))))])) (fun tt_ kk_ => XS.iloadN X0.here hx rfl (hb hby d3_106) rfl kk_) ?_
        refine Ends.to (T' := s₁) (g' := (mkF m 108 #[.val (.ref a1), .val (.int (Int32.ofNat t)), .val (.int ((f t) &&& (255 : Int32))), .unset] [(.int (2 : Int32)), (.int (Int32.ofNat t)), (.ref a1), (.int (((((f t) &&& (255 : Int32)) &&& (7 : Int32)) <<< ((18 : Int32) &&& 31)) ||| (((f (t + 1)) &&& (63 : Int32)) <<< ((12 : Int32) &&& 31))))])) (fun tt_ kk_ => XS.iconst X0.here hx rfl (hb hby d3_107) kk_) ?_
        refine Ends.to (T' := s₁) (g' := (mkF m 109 #[.val (.ref a1), .val (.int (Int32.ofNat t)), .val (.int ((f t) &&& (255 : Int32))), .unset] [(.int ((Int32.ofNat t) + (2 : Int32))), (.ref a1), (.int (((((f t) &&& (255 : Int32)) &&& (7 : Int32)) <<< ((18 : Int32) &&& 31)) ||| (((f (t + 1)) &&& (63 : Int32)) <<< ((12 : Int32) &&& 31))))])) (fun tt_ kk_ => XS.iadd X0.here hx rfl (hb hby d3_108) rfl kk_) ?_
        refine Ends.to (T' := s₁) (g' := (mkF m 110 #[.val (.ref a1), .val (.int (Int32.ofNat t)), .val (.int ((f t) &&& (255 : Int32))), .unset] [(.int (f (t + 2))), (.int (((((f t) &&& (255 : Int32)) &&& (7 : Int32)) <<< ((18 : Int32) &&& 31)) ||| (((f (t + 1)) &&& (63 : Int32)) <<< ((12 : Int32) &&& 31))))])) (fun tt_ kk_ => BA.ldB X0 hx hZ e0 B1 (j := ((Int32.ofNat t) + (2 : Int32))) (i := (t + 2)) (by rw [own_addk t (k := 2) (z := 2) rfl]; exact own_nneg (by omega)) (by rw [own_addk t (k := 2) (z := 2) rfl]; exact own_clamp (by omega)) (by omega) (g := (mkF m 109 #[.val (.ref a1), .val (.int (Int32.ofNat t)), .val (.int ((f t) &&& (255 : Int32))), .unset] [(.int ((Int32.ofNat t) + (2 : Int32))), (.ref a1), (.int (((((f t) &&& (255 : Int32)) &&& (7 : Int32)) <<< ((18 : Int32) &&& 31)) ||| (((f (t + 1)) &&& (63 : Int32)) <<< ((12 : Int32) &&& 31))))])) rfl rfl (hb hby d3_109) tt_ kk_) ?_
        refine Ends.to (T' := s₁) (g' := (mkF m 112 #[.val (.ref a1), .val (.int (Int32.ofNat t)), .val (.int ((f t) &&& (255 : Int32))), .unset] [(.int (63 : Int32)), (.int (f (t + 2))), (.int (((((f t) &&& (255 : Int32)) &&& (7 : Int32)) <<< ((18 : Int32) &&& 31)) ||| (((f (t + 1)) &&& (63 : Int32)) <<< ((12 : Int32) &&& 31))))])) (fun tt_ kk_ => XS.bipush X0.here hx rfl (hb hby d3_110) kk_) ?_
        refine Ends.to (T' := s₁) (g' := (mkF m 113 #[.val (.ref a1), .val (.int (Int32.ofNat t)), .val (.int ((f t) &&& (255 : Int32))), .unset] [(.int ((f (t + 2)) &&& (63 : Int32))), (.int (((((f t) &&& (255 : Int32)) &&& (7 : Int32)) <<< ((18 : Int32) &&& 31)) ||| (((f (t + 1)) &&& (63 : Int32)) <<< ((12 : Int32) &&& 31))))])) (fun tt_ kk_ => XS.iand X0.here hx rfl (hb hby d3_112) rfl kk_) ?_
        refine Ends.to (T' := s₁) (g' := (mkF m 115 #[.val (.ref a1), .val (.int (Int32.ofNat t)), .val (.int ((f t) &&& (255 : Int32))), .unset] [(.int (6 : Int32)), (.int ((f (t + 2)) &&& (63 : Int32))), (.int (((((f t) &&& (255 : Int32)) &&& (7 : Int32)) <<< ((18 : Int32) &&& 31)) ||| (((f (t + 1)) &&& (63 : Int32)) <<< ((12 : Int32) &&& 31))))])) (fun tt_ kk_ => XS.bipush X0.here hx rfl (hb hby d3_113) kk_) ?_
        refine Ends.to (T' := s₁) (g' := (mkF m 116 #[.val (.ref a1), .val (.int (Int32.ofNat t)), .val (.int ((f t) &&& (255 : Int32))), .unset] [(.int (((f (t + 2)) &&& (63 : Int32)) <<< ((6 : Int32) &&& 31))), (.int (((((f t) &&& (255 : Int32)) &&& (7 : Int32)) <<< ((18 : Int32) &&& 31)) ||| (((f (t + 1)) &&& (63 : Int32)) <<< ((12 : Int32) &&& 31))))])) (fun tt_ kk_ => XS.ishl X0.here hx rfl (hb hby d3_115) rfl kk_) ?_
        refine Ends.to (T' := s₁) (g' := (mkF m 117 #[.val (.ref a1), .val (.int (Int32.ofNat t)), .val (.int ((f t) &&& (255 : Int32))), .unset] [(.int ((((((f t) &&& (255 : Int32)) &&& (7 : Int32)) <<< ((18 : Int32) &&& 31)) ||| (((f (t + 1)) &&& (63 : Int32)) <<< ((12 : Int32) &&& 31))) ||| (((f (t + 2)) &&& (63 : Int32)) <<< ((6 : Int32) &&& 31))))])) (fun tt_ kk_ => XS.ior X0.here hx rfl (hb hby d3_116) rfl kk_) ?_
        refine Ends.to (T' := s₁) (g' := (mkF m 118 #[.val (.ref a1), .val (.int (Int32.ofNat t)), .val (.int ((f t) &&& (255 : Int32))), .unset] [(.ref a1), (.int ((((((f t) &&& (255 : Int32)) &&& (7 : Int32)) <<< ((18 : Int32) &&& 31)) ||| (((f (t + 1)) &&& (63 : Int32)) <<< ((12 : Int32) &&& 31))) ||| (((f (t + 2)) &&& (63 : Int32)) <<< ((6 : Int32) &&& 31))))])) (fun tt_ kk_ => XS.aloadN X0.here hx rfl (hb hby d3_117) rfl rfl kk_) ?_
        refine Ends.to (T' := s₁) (g' := (mkF m 119 #[.val (.ref a1), .val (.int (Int32.ofNat t)), .val (.int ((f t) &&& (255 : Int32))), .unset] [(.int (Int32.ofNat t)), (.ref a1), (.int ((((((f t) &&& (255 : Int32)) &&& (7 : Int32)) <<< ((18 : Int32) &&& 31)) ||| (((f (t + 1)) &&& (63 : Int32)) <<< ((12 : Int32) &&& 31))) ||| (((f (t + 2)) &&& (63 : Int32)) <<< ((6 : Int32) &&& 31))))])) (fun tt_ kk_ => XS.iloadN X0.here hx rfl (hb hby d3_118) rfl kk_) ?_
        refine Ends.to (T' := s₁) (g' := (mkF m 120 #[.val (.ref a1), .val (.int (Int32.ofNat t)), .val (.int ((f t) &&& (255 : Int32))), .unset] [(.int (3 : Int32)), (.int (Int32.ofNat t)), (.ref a1), (.int ((((((f t) &&& (255 : Int32)) &&& (7 : Int32)) <<< ((18 : Int32) &&& 31)) ||| (((f (t + 1)) &&& (63 : Int32)) <<< ((12 : Int32) &&& 31))) ||| (((f (t + 2)) &&& (63 : Int32)) <<< ((6 : Int32) &&& 31))))])) (fun tt_ kk_ => XS.iconst X0.here hx rfl (hb hby d3_119) kk_) ?_
        refine Ends.to (T' := s₁) (g' := (mkF m 121 #[.val (.ref a1), .val (.int (Int32.ofNat t)), .val (.int ((f t) &&& (255 : Int32))), .unset] [(.int ((Int32.ofNat t) + (3 : Int32))), (.ref a1), (.int ((((((f t) &&& (255 : Int32)) &&& (7 : Int32)) <<< ((18 : Int32) &&& 31)) ||| (((f (t + 1)) &&& (63 : Int32)) <<< ((12 : Int32) &&& 31))) ||| (((f (t + 2)) &&& (63 : Int32)) <<< ((6 : Int32) &&& 31))))])) (fun tt_ kk_ => XS.iadd X0.here hx rfl (hb hby d3_120) rfl kk_) ?_
        refine Ends.to (T' := s₁) (g' := (mkF m 122 #[.val (.ref a1), .val (.int (Int32.ofNat t)), .val (.int ((f t) &&& (255 : Int32))), .unset] [(.int (f (t + 3))), (.int ((((((f t) &&& (255 : Int32)) &&& (7 : Int32)) <<< ((18 : Int32) &&& 31)) ||| (((f (t + 1)) &&& (63 : Int32)) <<< ((12 : Int32) &&& 31))) ||| (((f (t + 2)) &&& (63 : Int32)) <<< ((6 : Int32) &&& 31))))])) (fun tt_ kk_ => BA.ldB X0 hx hZ e0 B1 (j := ((Int32.ofNat t) + (3 : Int32))) (i := (t + 3)) (by rw [own_addk t (k := 3) (z := 3) rfl]; exact own_nneg (by omega)) (by rw [own_addk t (k := 3) (z := 3) rfl]; exact own_clamp (by omega)) (by omega) (g := (mkF m 121 #[.val (.ref a1), .val (.int (Int32.ofNat t)), .val (.int ((f t) &&& (255 : Int32))), .unset] [(.int ((Int32.ofNat t) + (3 : Int32))), (.ref a1), (.int ((((((f t) &&& (255 : Int32)) &&& (7 : Int32)) <<< ((18 : Int32) &&& 31)) ||| (((f (t + 1)) &&& (63 : Int32)) <<< ((12 : Int32) &&& 31))) ||| (((f (t + 2)) &&& (63 : Int32)) <<< ((6 : Int32) &&& 31))))])) rfl rfl (hb hby d3_121) tt_ kk_) ?_
        refine Ends.to (T' := s₁) (g' := (mkF m 124 #[.val (.ref a1), .val (.int (Int32.ofNat t)), .val (.int ((f t) &&& (255 : Int32))), .unset] [(.int (63 : Int32)), (.int (f (t + 3))), (.int ((((((f t) &&& (255 : Int32)) &&& (7 : Int32)) <<< ((18 : Int32) &&& 31)) ||| (((f (t + 1)) &&& (63 : Int32)) <<< ((12 : Int32) &&& 31))) ||| (((f (t + 2)) &&& (63 : Int32)) <<< ((6 : Int32) &&& 31))))])) (fun tt_ kk_ => XS.bipush X0.here hx rfl (hb hby d3_122) kk_) ?_
        refine Ends.to (T' := s₁) (g' := (mkF m 125 #[.val (.ref a1), .val (.int (Int32.ofNat t)), .val (.int ((f t) &&& (255 : Int32))), .unset] [(.int ((f (t + 3)) &&& (63 : Int32))), (.int ((((((f t) &&& (255 : Int32)) &&& (7 : Int32)) <<< ((18 : Int32) &&& 31)) ||| (((f (t + 1)) &&& (63 : Int32)) <<< ((12 : Int32) &&& 31))) ||| (((f (t + 2)) &&& (63 : Int32)) <<< ((6 : Int32) &&& 31))))])) (fun tt_ kk_ => XS.iand X0.here hx rfl (hb hby d3_124) rfl kk_) ?_
        refine Ends.to (T' := s₁) (g' := (mkF m 126 #[.val (.ref a1), .val (.int (Int32.ofNat t)), .val (.int ((f t) &&& (255 : Int32))), .unset] [(.int (((((((f t) &&& (255 : Int32)) &&& (7 : Int32)) <<< ((18 : Int32) &&& 31)) ||| (((f (t + 1)) &&& (63 : Int32)) <<< ((12 : Int32) &&& 31))) ||| (((f (t + 2)) &&& (63 : Int32)) <<< ((6 : Int32) &&& 31))) ||| ((f (t + 3)) &&& (63 : Int32))))])) (fun tt_ kk_ => XS.ior X0.here hx rfl (hb hby d3_125) rfl kk_) ?_
        refine Ends.to (T' := s₁) (g' := (mkF m 127 #[.val (.ref a1), .val (.int (Int32.ofNat t)), .val (.int ((f t) &&& (255 : Int32))), .val (.int (((((((f t) &&& (255 : Int32)) &&& (7 : Int32)) <<< ((18 : Int32) &&& 31)) ||| (((f (t + 1)) &&& (63 : Int32)) <<< ((12 : Int32) &&& 31))) ||| (((f (t + 2)) &&& (63 : Int32)) <<< ((6 : Int32) &&& 31))) ||| ((f (t + 3)) &&& (63 : Int32))))] [])) (fun tt_ kk_ => XS.istoreN X0.here hx rfl (hb hby d3_126) rfl (l' := #[.val (.ref a1), .val (.int (Int32.ofNat t)), .val (.int ((f t) &&& (255 : Int32))), .val (.int (((((((f t) &&& (255 : Int32)) &&& (7 : Int32)) <<< ((18 : Int32) &&& 31)) ||| (((f (t + 1)) &&& (63 : Int32)) <<< ((12 : Int32) &&& 31))) ||| (((f (t + 2)) &&& (63 : Int32)) <<< ((6 : Int32) &&& 31))) ||| ((f (t + 3)) &&& (63 : Int32))))]) rfl kk_) ?_
        refine Ends.to (T' := s₁) (g' := (mkF m 128 #[.val (.ref a1), .val (.int (Int32.ofNat t)), .val (.int ((f t) &&& (255 : Int32))), .val (.int (((((((f t) &&& (255 : Int32)) &&& (7 : Int32)) <<< ((18 : Int32) &&& 31)) ||| (((f (t + 1)) &&& (63 : Int32)) <<< ((12 : Int32) &&& 31))) ||| (((f (t + 2)) &&& (63 : Int32)) <<< ((6 : Int32) &&& 31))) ||| ((f (t + 3)) &&& (63 : Int32))))] [(.int (((((((f t) &&& (255 : Int32)) &&& (7 : Int32)) <<< ((18 : Int32) &&& 31)) ||| (((f (t + 1)) &&& (63 : Int32)) <<< ((12 : Int32) &&& 31))) ||| (((f (t + 2)) &&& (63 : Int32)) <<< ((6 : Int32) &&& 31))) ||| ((f (t + 3)) &&& (63 : Int32))))])) (fun tt_ kk_ => XS.iloadN X0.here hx rfl (hb hby d3_127) rfl kk_) ?_
        exact Ends.retI X0 hx hret (hb hby d3_128) hlk (by decide) (by decide) ⟨by simp only [own_cp, if_neg hc12, if_neg hc24, if_neg hc51], N0, e0⟩
def own_point (k x : Int32) : Int32 :=
  if k &&& 3 = 0 then x &&& 127
  else if k &&& 3 = 1 then 128 + (x &&& 2147483647) % 1920
  else if k &&& 3 = 2 then (if (x &&& 2147483647) % 61440 < 53248 then 2048 + (x &&& 2147483647) % 61440 else 57344 + ((x &&& 2147483647) % 61440 - 53248))
  else 65536 + (x &&& 2147483647) % 1048576
set_option maxRecDepth 65536 in
set_option maxHeartbeats 40000000 in
def Q_rm1 (Z : State) (p1 p2 : Int32) (h0 : Heap) (n0 : Nat) : Option Value → Heap → List Loc → Prop := fun v h L => v = some (.int (own_point p1 p2)) ∧ Fr n0 L ∧ h = h0
set_option maxRecDepth 65536 in
set_option maxHeartbeats 40000000 in
theorem rm1 (l : Launch) (Z : State) (a0 : Array Value) (hw : ∀ d ∈ tables_1, d.before a0 Z = true) (ws : List Jvm.Cond) (p1 p2 : Int32) (h0 : Heap) (n0 : Nat) (Z0 : n0 ≤ h0.size) :
    Pays l (⟨"com/example/predicate/predicate/document/Utf8CodePointPinLaw", "pointOf", "(II)I"⟩ : MethodName) method_2_code 6 (some .int) ws ({ frames := 0, cells := 0, slots := 0, locals := 0 } : Room) #[(.int p1), (.int p2)] Z h0 (Q_rm1 Z p1 p2 h0 n0) := by
  refine Pays.of (plainFor_of_name pn_1) ?_
  intro p e s m below meth c s₁ hx hby hml hown hnm hret hlk hZ X0 e0
  have hown : s.vm.findClass "com/example/predicate/predicate/document/Utf8CodePointPinLaw" = some m.cls := hown
  have hnm : meth.name = "pointOf" := hnm
  have hml : c.maxLocals = 6 := hml
  show Ends p e below s _ _ (fun v h L => v = some (.int (own_point p1 p2)) ∧ Fr n0 L ∧ h = h0) s₁ _
  refine Ends.cast (ef_1 m p1 p2) ?_
  have N0 := Fr.nil n0
  refine Ends.to (T' := s₁) (g' := (mkF m 1 #[.val (.int p1), .val (.int p2), .unset, .unset, .unset, .unset] [(.int p2)])) (fun tt_ kk_ => XS.iloadN X0.here hx rfl (hb hby d1_0) rfl kk_) ?_
  refine Ends.to (T' := s₁) (g' := (mkF m 3 #[.val (.int p1), .val (.int p2), .unset, .unset, .unset, .unset] [(.int (2147483647 : Int32)), (.int p2)])) (fun tt_ kk_ => X0.ldcInt hx hown (mvT hZ (hw _ (List.mem_of_getElem? (i := 4) rfl))) (g := (mkF m 1 #[.val (.int p1), .val (.int p2), .unset, .unset, .unset, .unset] [(.int p2)])) rfl (hb hby d1_1) _ kk_) ?_
  refine Ends.to (T' := s₁) (g' := (mkF m 4 #[.val (.int p1), .val (.int p2), .unset, .unset, .unset, .unset] [(.int (p2 &&& (2147483647 : Int32)))])) (fun tt_ kk_ => XS.iand X0.here hx rfl (hb hby d1_3) rfl kk_) ?_
  refine Ends.to (T' := s₁) (g' := (mkF m 5 #[.val (.int p1), .val (.int p2), .val (.int (p2 &&& (2147483647 : Int32))), .unset, .unset, .unset] [])) (fun tt_ kk_ => XS.istoreN X0.here hx rfl (hb hby d1_4) rfl (l' := #[.val (.int p1), .val (.int p2), .val (.int (p2 &&& (2147483647 : Int32))), .unset, .unset, .unset]) rfl kk_) ?_
  refine Ends.to (T' := s₁) (g' := (mkF m 6 #[.val (.int p1), .val (.int p2), .val (.int (p2 &&& (2147483647 : Int32))), .unset, .unset, .unset] [(.int p1)])) (fun tt_ kk_ => XS.iloadN X0.here hx rfl (hb hby d1_5) rfl kk_) ?_
  refine Ends.to (T' := s₁) (g' := (mkF m 7 #[.val (.int p1), .val (.int p2), .val (.int (p2 &&& (2147483647 : Int32))), .unset, .unset, .unset] [(.int (3 : Int32)), (.int p1)])) (fun tt_ kk_ => XS.iconst X0.here hx rfl (hb hby d1_6) kk_) ?_
  refine Ends.to (T' := s₁) (g' := (mkF m 8 #[.val (.int p1), .val (.int p2), .val (.int (p2 &&& (2147483647 : Int32))), .unset, .unset, .unset] [(.int (p1 &&& (3 : Int32)))])) (fun tt_ kk_ => XS.iand X0.here hx rfl (hb hby d1_7) rfl kk_) ?_
  refine Ends.to (T' := s₁) (g' := (mkF m 9 #[.val (.int p1), .val (.int p2), .val (.int (p2 &&& (2147483647 : Int32))), .val (.int (p1 &&& (3 : Int32))), .unset, .unset] [])) (fun tt_ kk_ => XS.istoreN X0.here hx rfl (hb hby d1_8) rfl (l' := #[.val (.int p1), .val (.int p2), .val (.int (p2 &&& (2147483647 : Int32))), .val (.int (p1 &&& (3 : Int32))), .unset, .unset]) rfl kk_) ?_
  refine Ends.to (T' := s₁) (g' := (mkF m 10 #[.val (.int p1), .val (.int p2), .val (.int (p2 &&& (2147483647 : Int32))), .val (.int (p1 &&& (3 : Int32))), .unset, .unset] [(.int (p1 &&& (3 : Int32)))])) (fun tt_ kk_ => XS.iloadN X0.here hx rfl (hb hby d1_9) rfl kk_) ?_
  by_cases hc10 : (p1 &&& (3 : Int32)) = (0 : Int32)
  · refine Ends.to (T' := s₁) (g' := (mkF m 13 #[.val (.int p1), .val (.int p2), .val (.int (p2 &&& (2147483647 : Int32))), .val (.int (p1 &&& (3 : Int32))), .unset, .unset] [])) (fun tt_ kk_ => XS.ifNo X0.here hx rfl (hb hby d1_10) rfl ((if0 _ _).trans (teq hc10).2) kk_) ?_
    refine Ends.to (T' := s₁) (g' := (mkF m 14 #[.val (.int p1), .val (.int p2), .val (.int (p2 &&& (2147483647 : Int32))), .val (.int (p1 &&& (3 : Int32))), .unset, .unset] [(.int p2)])) (fun tt_ kk_ => XS.iloadN X0.here hx rfl (hb hby d1_13) rfl kk_) ?_
    refine Ends.to (T' := s₁) (g' := (mkF m 16 #[.val (.int p1), .val (.int p2), .val (.int (p2 &&& (2147483647 : Int32))), .val (.int (p1 &&& (3 : Int32))), .unset, .unset] [(.int (127 : Int32)), (.int p2)])) (fun tt_ kk_ => XS.bipush X0.here hx rfl (hb hby d1_14) kk_) ?_
    refine Ends.to (T' := s₁) (g' := (mkF m 17 #[.val (.int p1), .val (.int p2), .val (.int (p2 &&& (2147483647 : Int32))), .val (.int (p1 &&& (3 : Int32))), .unset, .unset] [(.int (p2 &&& (127 : Int32)))])) (fun tt_ kk_ => XS.iand X0.here hx rfl (hb hby d1_16) rfl kk_) ?_
    refine Ends.to (T' := s₁) (g' := (mkF m 19 #[.val (.int p1), .val (.int p2), .val (.int (p2 &&& (2147483647 : Int32))), .val (.int (p1 &&& (3 : Int32))), .val (.int (p2 &&& (127 : Int32))), .unset] [])) (fun tt_ kk_ => XS.istore X0.here hx rfl (hb hby d1_17) rfl (l' := #[.val (.int p1), .val (.int p2), .val (.int (p2 &&& (2147483647 : Int32))), .val (.int (p1 &&& (3 : Int32))), .val (.int (p2 &&& (127 : Int32))), .unset]) rfl kk_) ?_
    refine Ends.to (T' := s₁) (g' := (mkF m 92 #[.val (.int p1), .val (.int p2), .val (.int (p2 &&& (2147483647 : Int32))), .val (.int (p1 &&& (3 : Int32))), .val (.int (p2 &&& (127 : Int32))), .unset] [])) (fun tt_ kk_ => XS.goto X0.here hx rfl (pc0 := 19) (pc' := 92) rfl (hb hby d1_19) (by decide) (by decide) kk_) ?_
    refine Ends.to (T' := s₁) (g' := (mkF m 94 #[.val (.int p1), .val (.int p2), .val (.int (p2 &&& (2147483647 : Int32))), .val (.int (p1 &&& (3 : Int32))), .val (.int (p2 &&& (127 : Int32))), .unset] [(.int (p2 &&& (127 : Int32)))])) (fun tt_ kk_ => XS.iload X0.here hx rfl (hb hby d1_92) rfl kk_) ?_
    exact Ends.retI X0 hx hret (hb hby d1_94) hlk (by decide) (by decide) ⟨by simp only [own_point, if_pos hc10], N0, e0⟩
  · refine Ends.to (T' := s₁) (g' := (mkF m 22 #[.val (.int p1), .val (.int p2), .val (.int (p2 &&& (2147483647 : Int32))), .val (.int (p1 &&& (3 : Int32))), .unset, .unset] [])) (fun tt_ kk_ => XS.ifYes X0.here hx rfl (pc0 := 10) (pc' := 22) rfl (hb hby d1_10) rfl ((if0 _ _).trans (feq hc10).2) (by decide) (by decide) kk_) ?_
    refine Ends.to (T' := s₁) (g' := (mkF m 23 #[.val (.int p1), .val (.int p2), .val (.int (p2 &&& (2147483647 : Int32))), .val (.int (p1 &&& (3 : Int32))), .unset, .unset] [(.int (p1 &&& (3 : Int32)))])) (fun tt_ kk_ => XS.iloadN X0.here hx rfl (hb hby d1_22) rfl kk_) ?_
    refine Ends.to (T' := s₁) (g' := (mkF m 24 #[.val (.int p1), .val (.int p2), .val (.int (p2 &&& (2147483647 : Int32))), .val (.int (p1 &&& (3 : Int32))), .unset, .unset] [(.int (1 : Int32)), (.int (p1 &&& (3 : Int32)))])) (fun tt_ kk_ => XS.iconst X0.here hx rfl (hb hby d1_23) kk_) ?_
    by_cases hc24 : (p1 &&& (3 : Int32)) = (1 : Int32)
    · refine Ends.to (T' := s₁) (g' := (mkF m 27 #[.val (.int p1), .val (.int p2), .val (.int (p2 &&& (2147483647 : Int32))), .val (.int (p1 &&& (3 : Int32))), .unset, .unset] [])) (fun tt_ kk_ => XS.icmpNo X0.here hx rfl (hb hby d1_24) rfl (teq hc24).2 kk_) ?_
      refine Ends.to (T' := s₁) (g' := (mkF m 30 #[.val (.int p1), .val (.int p2), .val (.int (p2 &&& (2147483647 : Int32))), .val (.int (p1 &&& (3 : Int32))), .unset, .unset] [(.int (128 : Int32))])) (fun tt_ kk_ => XS.sipush X0.here hx rfl (hb hby d1_27) kk_) ?_
      refine Ends.to (T' := s₁) (g' := (mkF m 31 #[.val (.int p1), .val (.int p2), .val (.int (p2 &&& (2147483647 : Int32))), .val (.int (p1 &&& (3 : Int32))), .unset, .unset] [(.int (p2 &&& (2147483647 : Int32))), (.int (128 : Int32))])) (fun tt_ kk_ => XS.iloadN X0.here hx rfl (hb hby d1_30) rfl kk_) ?_
      refine Ends.to (T' := s₁) (g' := (mkF m 34 #[.val (.int p1), .val (.int p2), .val (.int (p2 &&& (2147483647 : Int32))), .val (.int (p1 &&& (3 : Int32))), .unset, .unset] [(.int (1920 : Int32)), (.int (p2 &&& (2147483647 : Int32))), (.int (128 : Int32))])) (fun tt_ kk_ => XS.sipush X0.here hx rfl (hb hby d1_31) kk_) ?_
      refine Ends.to (T' := s₁) (g' := (mkF m 35 #[.val (.int p1), .val (.int p2), .val (.int (p2 &&& (2147483647 : Int32))), .val (.int (p1 &&& (3 : Int32))), .unset, .unset] [(.int ((p2 &&& (2147483647 : Int32)) % (1920 : Int32))), (.int (128 : Int32))])) (fun tt_ kk_ => Jvm.RoadKit.iremM X0 hx rfl (hb hby d1_34) rfl (by decide) kk_) ?_
      refine Ends.to (T' := s₁) (g' := (mkF m 36 #[.val (.int p1), .val (.int p2), .val (.int (p2 &&& (2147483647 : Int32))), .val (.int (p1 &&& (3 : Int32))), .unset, .unset] [(.int ((128 : Int32) + ((p2 &&& (2147483647 : Int32)) % (1920 : Int32))))])) (fun tt_ kk_ => XS.iadd X0.here hx rfl (hb hby d1_35) rfl kk_) ?_
      refine Ends.to (T' := s₁) (g' := (mkF m 38 #[.val (.int p1), .val (.int p2), .val (.int (p2 &&& (2147483647 : Int32))), .val (.int (p1 &&& (3 : Int32))), .val (.int ((128 : Int32) + ((p2 &&& (2147483647 : Int32)) % (1920 : Int32)))), .unset] [])) (fun tt_ kk_ => XS.istore X0.here hx rfl (hb hby d1_36) rfl (l' := #[.val (.int p1), .val (.int p2), .val (.int (p2 &&& (2147483647 : Int32))), .val (.int (p1 &&& (3 : Int32))), .val (.int ((128 : Int32) + ((p2 &&& (2147483647 : Int32)) % (1920 : Int32)))), .unset]) rfl kk_) ?_
      refine Ends.to (T' := s₁) (g' := (mkF m 92 #[.val (.int p1), .val (.int p2), .val (.int (p2 &&& (2147483647 : Int32))), .val (.int (p1 &&& (3 : Int32))), .val (.int ((128 : Int32) + ((p2 &&& (2147483647 : Int32)) % (1920 : Int32)))), .unset] [])) (fun tt_ kk_ => XS.goto X0.here hx rfl (pc0 := 38) (pc' := 92) rfl (hb hby d1_38) (by decide) (by decide) kk_) ?_
      refine Ends.to (T' := s₁) (g' := (mkF m 94 #[.val (.int p1), .val (.int p2), .val (.int (p2 &&& (2147483647 : Int32))), .val (.int (p1 &&& (3 : Int32))), .val (.int ((128 : Int32) + ((p2 &&& (2147483647 : Int32)) % (1920 : Int32)))), .unset] [(.int ((128 : Int32) + ((p2 &&& (2147483647 : Int32)) % (1920 : Int32))))])) (fun tt_ kk_ => XS.iload X0.here hx rfl (hb hby d1_92) rfl kk_) ?_
      exact Ends.retI X0 hx hret (hb hby d1_94) hlk (by decide) (by decide) ⟨by simp only [own_point, if_neg hc10, if_pos hc24], N0, e0⟩
    · refine Ends.to (T' := s₁) (g' := (mkF m 41 #[.val (.int p1), .val (.int p2), .val (.int (p2 &&& (2147483647 : Int32))), .val (.int (p1 &&& (3 : Int32))), .unset, .unset] [])) (fun tt_ kk_ => XS.icmpYes X0.here hx rfl (pc0 := 24) (pc' := 41) rfl (hb hby d1_24) rfl (feq hc24).2 (by decide) (by decide) kk_) ?_
      refine Ends.to (T' := s₁) (g' := (mkF m 42 #[.val (.int p1), .val (.int p2), .val (.int (p2 &&& (2147483647 : Int32))), .val (.int (p1 &&& (3 : Int32))), .unset, .unset] [(.int (p1 &&& (3 : Int32)))])) (fun tt_ kk_ => XS.iloadN X0.here hx rfl (hb hby d1_41) rfl kk_) ?_
      refine Ends.to (T' := s₁) (g' := (mkF m 43 #[.val (.int p1), .val (.int p2), .val (.int (p2 &&& (2147483647 : Int32))), .val (.int (p1 &&& (3 : Int32))), .unset, .unset] [(.int (2 : Int32)), (.int (p1 &&& (3 : Int32)))])) (fun tt_ kk_ => XS.iconst X0.here hx rfl (hb hby d1_42) kk_) ?_
      by_cases hc43 : (p1 &&& (3 : Int32)) = (2 : Int32)
      · refine Ends.to (T' := s₁) (g' := (mkF m 46 #[.val (.int p1), .val (.int p2), .val (.int (p2 &&& (2147483647 : Int32))), .val (.int (p1 &&& (3 : Int32))), .unset, .unset] [])) (fun tt_ kk_ => XS.icmpNo X0.here hx rfl (hb hby d1_43) rfl (teq hc43).2 kk_) ?_
        refine Ends.to (T' := s₁) (g' := (mkF m 47 #[.val (.int p1), .val (.int p2), .val (.int (p2 &&& (2147483647 : Int32))), .val (.int (p1 &&& (3 : Int32))), .unset, .unset] [(.int (p2 &&& (2147483647 : Int32)))])) (fun tt_ kk_ => XS.iloadN X0.here hx rfl (hb hby d1_46) rfl kk_) ?_
        refine Ends.to (T' := s₁) (g' := (mkF m 49 #[.val (.int p1), .val (.int p2), .val (.int (p2 &&& (2147483647 : Int32))), .val (.int (p1 &&& (3 : Int32))), .unset, .unset] [(.int (61440 : Int32)), (.int (p2 &&& (2147483647 : Int32)))])) (fun tt_ kk_ => X0.ldcInt hx hown (mvT hZ (hw _ (List.mem_of_getElem? (i := 13) rfl))) (g := (mkF m 47 #[.val (.int p1), .val (.int p2), .val (.int (p2 &&& (2147483647 : Int32))), .val (.int (p1 &&& (3 : Int32))), .unset, .unset] [(.int (p2 &&& (2147483647 : Int32)))])) rfl (hb hby d1_47) _ kk_) ?_
        refine Ends.to (T' := s₁) (g' := (mkF m 50 #[.val (.int p1), .val (.int p2), .val (.int (p2 &&& (2147483647 : Int32))), .val (.int (p1 &&& (3 : Int32))), .unset, .unset] [(.int ((p2 &&& (2147483647 : Int32)) % (61440 : Int32)))])) (fun tt_ kk_ => Jvm.RoadKit.iremM X0 hx rfl (hb hby d1_49) rfl (by decide) kk_) ?_
        refine Ends.to (T' := s₁) (g' := (mkF m 52 #[.val (.int p1), .val (.int p2), .val (.int (p2 &&& (2147483647 : Int32))), .val (.int (p1 &&& (3 : Int32))), .unset, .val (.int ((p2 &&& (2147483647 : Int32)) % (61440 : Int32)))] [])) (fun tt_ kk_ => XS.istore X0.here hx rfl (hb hby d1_50) rfl (l' := #[.val (.int p1), .val (.int p2), .val (.int (p2 &&& (2147483647 : Int32))), .val (.int (p1 &&& (3 : Int32))), .unset, .val (.int ((p2 &&& (2147483647 : Int32)) % (61440 : Int32)))]) rfl kk_) ?_
        refine Ends.to (T' := s₁) (g' := (mkF m 54 #[.val (.int p1), .val (.int p2), .val (.int (p2 &&& (2147483647 : Int32))), .val (.int (p1 &&& (3 : Int32))), .unset, .val (.int ((p2 &&& (2147483647 : Int32)) % (61440 : Int32)))] [(.int ((p2 &&& (2147483647 : Int32)) % (61440 : Int32)))])) (fun tt_ kk_ => XS.iload X0.here hx rfl (hb hby d1_52) rfl kk_) ?_
        refine Ends.to (T' := s₁) (g' := (mkF m 56 #[.val (.int p1), .val (.int p2), .val (.int (p2 &&& (2147483647 : Int32))), .val (.int (p1 &&& (3 : Int32))), .unset, .val (.int ((p2 &&& (2147483647 : Int32)) % (61440 : Int32)))] [(.int (53248 : Int32)), (.int ((p2 &&& (2147483647 : Int32)) % (61440 : Int32)))])) (fun tt_ kk_ => X0.ldcInt hx hown (mvT hZ (hw _ (List.mem_of_getElem? (i := 14) rfl))) (g := (mkF m 54 #[.val (.int p1), .val (.int p2), .val (.int (p2 &&& (2147483647 : Int32))), .val (.int (p1 &&& (3 : Int32))), .unset, .val (.int ((p2 &&& (2147483647 : Int32)) % (61440 : Int32)))] [(.int ((p2 &&& (2147483647 : Int32)) % (61440 : Int32)))])) rfl (hb hby d1_54) _ kk_) ?_
        by_cases hc56 : ((p2 &&& (2147483647 : Int32)) % (61440 : Int32)) < (53248 : Int32)
        · refine Ends.to (T' := s₁) (g' := (mkF m 59 #[.val (.int p1), .val (.int p2), .val (.int (p2 &&& (2147483647 : Int32))), .val (.int (p1 &&& (3 : Int32))), .unset, .val (.int ((p2 &&& (2147483647 : Int32)) % (61440 : Int32)))] [])) (fun tt_ kk_ => XS.icmpNo X0.here hx rfl (hb hby d1_56) rfl (tlt hc56).2.1 kk_) ?_
          refine Ends.to (T' := s₁) (g' := (mkF m 62 #[.val (.int p1), .val (.int p2), .val (.int (p2 &&& (2147483647 : Int32))), .val (.int (p1 &&& (3 : Int32))), .unset, .val (.int ((p2 &&& (2147483647 : Int32)) % (61440 : Int32)))] [(.int (2048 : Int32))])) (fun tt_ kk_ => XS.sipush X0.here hx rfl (hb hby d1_59) kk_) ?_
          refine Ends.to (T' := s₁) (g' := (mkF m 64 #[.val (.int p1), .val (.int p2), .val (.int (p2 &&& (2147483647 : Int32))), .val (.int (p1 &&& (3 : Int32))), .unset, .val (.int ((p2 &&& (2147483647 : Int32)) % (61440 : Int32)))] [(.int ((p2 &&& (2147483647 : Int32)) % (61440 : Int32))), (.int (2048 : Int32))])) (fun tt_ kk_ => XS.iload X0.here hx rfl (hb hby d1_62) rfl kk_) ?_
          refine Ends.to (T' := s₁) (g' := (mkF m 65 #[.val (.int p1), .val (.int p2), .val (.int (p2 &&& (2147483647 : Int32))), .val (.int (p1 &&& (3 : Int32))), .unset, .val (.int ((p2 &&& (2147483647 : Int32)) % (61440 : Int32)))] [(.int ((2048 : Int32) + ((p2 &&& (2147483647 : Int32)) % (61440 : Int32))))])) (fun tt_ kk_ => XS.iadd X0.here hx rfl (hb hby d1_64) rfl kk_) ?_
          refine Ends.to (T' := s₁) (g' := (mkF m 67 #[.val (.int p1), .val (.int p2), .val (.int (p2 &&& (2147483647 : Int32))), .val (.int (p1 &&& (3 : Int32))), .val (.int ((2048 : Int32) + ((p2 &&& (2147483647 : Int32)) % (61440 : Int32)))), .val (.int ((p2 &&& (2147483647 : Int32)) % (61440 : Int32)))] [])) (fun tt_ kk_ => XS.istore X0.here hx rfl (hb hby d1_65) rfl (l' := #[.val (.int p1), .val (.int p2), .val (.int (p2 &&& (2147483647 : Int32))), .val (.int (p1 &&& (3 : Int32))), .val (.int ((2048 : Int32) + ((p2 &&& (2147483647 : Int32)) % (61440 : Int32)))), .val (.int ((p2 &&& (2147483647 : Int32)) % (61440 : Int32)))]) rfl kk_) ?_
          refine Ends.to (T' := s₁) (g' := (mkF m 80 #[.val (.int p1), .val (.int p2), .val (.int (p2 &&& (2147483647 : Int32))), .val (.int (p1 &&& (3 : Int32))), .val (.int ((2048 : Int32) + ((p2 &&& (2147483647 : Int32)) % (61440 : Int32)))), .val (.int ((p2 &&& (2147483647 : Int32)) % (61440 : Int32)))] [])) (fun tt_ kk_ => XS.goto X0.here hx rfl (pc0 := 67) (pc' := 80) rfl (hb hby d1_67) (by decide) (by decide) kk_) ?_
          refine Ends.to (T' := s₁) (g' := (mkF m 92 #[.val (.int p1), .val (.int p2), .val (.int (p2 &&& (2147483647 : Int32))), .val (.int (p1 &&& (3 : Int32))), .val (.int ((2048 : Int32) + ((p2 &&& (2147483647 : Int32)) % (61440 : Int32)))), .val (.int ((p2 &&& (2147483647 : Int32)) % (61440 : Int32)))] [])) (fun tt_ kk_ => XS.goto X0.here hx rfl (pc0 := 80) (pc' := 92) rfl (hb hby d1_80) (by decide) (by decide) kk_) ?_
          refine Ends.to (T' := s₁) (g' := (mkF m 94 #[.val (.int p1), .val (.int p2), .val (.int (p2 &&& (2147483647 : Int32))), .val (.int (p1 &&& (3 : Int32))), .val (.int ((2048 : Int32) + ((p2 &&& (2147483647 : Int32)) % (61440 : Int32)))), .val (.int ((p2 &&& (2147483647 : Int32)) % (61440 : Int32)))] [(.int ((2048 : Int32) + ((p2 &&& (2147483647 : Int32)) % (61440 : Int32))))])) (fun tt_ kk_ => XS.iload X0.here hx rfl (hb hby d1_92) rfl kk_) ?_
          exact Ends.retI X0 hx hret (hb hby d1_94) hlk (by decide) (by decide) ⟨by simp only [own_point, if_neg hc10, if_neg hc24, if_pos hc43, if_pos hc56], N0, e0⟩
        · refine Ends.to (T' := s₁) (g' := (mkF m 70 #[.val (.int p1), .val (.int p2), .val (.int (p2 &&& (2147483647 : Int32))), .val (.int (p1 &&& (3 : Int32))), .unset, .val (.int ((p2 &&& (2147483647 : Int32)) % (61440 : Int32)))] [])) (fun tt_ kk_ => XS.icmpYes X0.here hx rfl (pc0 := 56) (pc' := 70) rfl (hb hby d1_56) rfl (flt hc56).2.1 (by decide) (by decide) kk_) ?_
          refine Ends.to (T' := s₁) (g' := (mkF m 72 #[.val (.int p1), .val (.int p2), .val (.int (p2 &&& (2147483647 : Int32))), .val (.int (p1 &&& (3 : Int32))), .unset, .val (.int ((p2 &&& (2147483647 : Int32)) % (61440 : Int32)))] [(.int (57344 : Int32))])) (fun tt_ kk_ => X0.ldcInt hx hown (mvT hZ (hw _ (List.mem_of_getElem? (i := 18) rfl))) (g := (mkF m 70 #[.val (.int p1), .val (.int p2), .val (.int (p2 &&& (2147483647 : Int32))), .val (.int (p1 &&& (3 : Int32))), .unset, .val (.int ((p2 &&& (2147483647 : Int32)) % (61440 : Int32)))] [])) rfl (hb hby d1_70) _ kk_) ?_
          refine Ends.to (T' := s₁) (g' := (mkF m 74 #[.val (.int p1), .val (.int p2), .val (.int (p2 &&& (2147483647 : Int32))), .val (.int (p1 &&& (3 : Int32))), .unset, .val (.int ((p2 &&& (2147483647 : Int32)) % (61440 : Int32)))] [(.int ((p2 &&& (2147483647 : Int32)) % (61440 : Int32))), (.int (57344 : Int32))])) (fun tt_ kk_ => XS.iload X0.here hx rfl (hb hby d1_72) rfl kk_) ?_
          refine Ends.to (T' := s₁) (g' := (mkF m 76 #[.val (.int p1), .val (.int p2), .val (.int (p2 &&& (2147483647 : Int32))), .val (.int (p1 &&& (3 : Int32))), .unset, .val (.int ((p2 &&& (2147483647 : Int32)) % (61440 : Int32)))] [(.int (53248 : Int32)), (.int ((p2 &&& (2147483647 : Int32)) % (61440 : Int32))), (.int (57344 : Int32))])) (fun tt_ kk_ => X0.ldcInt hx hown (mvT hZ (hw _ (List.mem_of_getElem? (i := 14) rfl))) (g := (mkF m 74 #[.val (.int p1), .val (.int p2), .val (.int (p2 &&& (2147483647 : Int32))), .val (.int (p1 &&& (3 : Int32))), .unset, .val (.int ((p2 &&& (2147483647 : Int32)) % (61440 : Int32)))] [(.int ((p2 &&& (2147483647 : Int32)) % (61440 : Int32))), (.int (57344 : Int32))])) rfl (hb hby d1_74) _ kk_) ?_
          refine Ends.to (T' := s₁) (g' := (mkF m 77 #[.val (.int p1), .val (.int p2), .val (.int (p2 &&& (2147483647 : Int32))), .val (.int (p1 &&& (3 : Int32))), .unset, .val (.int ((p2 &&& (2147483647 : Int32)) % (61440 : Int32)))] [(.int (((p2 &&& (2147483647 : Int32)) % (61440 : Int32)) - (53248 : Int32))), (.int (57344 : Int32))])) (fun tt_ kk_ => XS.isub X0.here hx rfl (hb hby d1_76) rfl kk_) ?_
          refine Ends.to (T' := s₁) (g' := (mkF m 78 #[.val (.int p1), .val (.int p2), .val (.int (p2 &&& (2147483647 : Int32))), .val (.int (p1 &&& (3 : Int32))), .unset, .val (.int ((p2 &&& (2147483647 : Int32)) % (61440 : Int32)))] [(.int ((57344 : Int32) + (((p2 &&& (2147483647 : Int32)) % (61440 : Int32)) - (53248 : Int32))))])) (fun tt_ kk_ => XS.iadd X0.here hx rfl (hb hby d1_77) rfl kk_) ?_
          refine Ends.to (T' := s₁) (g' := (mkF m 80 #[.val (.int p1), .val (.int p2), .val (.int (p2 &&& (2147483647 : Int32))), .val (.int (p1 &&& (3 : Int32))), .val (.int ((57344 : Int32) + (((p2 &&& (2147483647 : Int32)) % (61440 : Int32)) - (53248 : Int32)))), .val (.int ((p2 &&& (2147483647 : Int32)) % (61440 : Int32)))] [])) (fun tt_ kk_ => XS.istore X0.here hx rfl (hb hby d1_78) rfl (l' := #[.val (.int p1), .val (.int p2), .val (.int (p2 &&& (2147483647 : Int32))), .val (.int (p1 &&& (3 : Int32))), .val (.int ((57344 : Int32) + (((p2 &&& (2147483647 : Int32)) % (61440 : Int32)) - (53248 : Int32)))), .val (.int ((p2 &&& (2147483647 : Int32)) % (61440 : Int32)))]) rfl kk_) ?_
          refine Ends.to (T' := s₁) (g' := (mkF m 92 #[.val (.int p1), .val (.int p2), .val (.int (p2 &&& (2147483647 : Int32))), .val (.int (p1 &&& (3 : Int32))), .val (.int ((57344 : Int32) + (((p2 &&& (2147483647 : Int32)) % (61440 : Int32)) - (53248 : Int32)))), .val (.int ((p2 &&& (2147483647 : Int32)) % (61440 : Int32)))] [])) (fun tt_ kk_ => XS.goto X0.here hx rfl (pc0 := 80) (pc' := 92) rfl (hb hby d1_80) (by decide) (by decide) kk_) ?_
          refine Ends.to (T' := s₁) (g' := (mkF m 94 #[.val (.int p1), .val (.int p2), .val (.int (p2 &&& (2147483647 : Int32))), .val (.int (p1 &&& (3 : Int32))), .val (.int ((57344 : Int32) + (((p2 &&& (2147483647 : Int32)) % (61440 : Int32)) - (53248 : Int32)))), .val (.int ((p2 &&& (2147483647 : Int32)) % (61440 : Int32)))] [(.int ((57344 : Int32) + (((p2 &&& (2147483647 : Int32)) % (61440 : Int32)) - (53248 : Int32))))])) (fun tt_ kk_ => XS.iload X0.here hx rfl (hb hby d1_92) rfl kk_) ?_
          exact Ends.retI X0 hx hret (hb hby d1_94) hlk (by decide) (by decide) ⟨by simp only [own_point, if_neg hc10, if_neg hc24, if_pos hc43, if_neg hc56], N0, e0⟩
      · refine Ends.to (T' := s₁) (g' := (mkF m 83 #[.val (.int p1), .val (.int p2), .val (.int (p2 &&& (2147483647 : Int32))), .val (.int (p1 &&& (3 : Int32))), .unset, .unset] [])) (fun tt_ kk_ => XS.icmpYes X0.here hx rfl (pc0 := 43) (pc' := 83) rfl (hb hby d1_43) rfl (feq hc43).2 (by decide) (by decide) kk_) ?_
        refine Ends.to (T' := s₁) (g' := (mkF m 85 #[.val (.int p1), .val (.int p2), .val (.int (p2 &&& (2147483647 : Int32))), .val (.int (p1 &&& (3 : Int32))), .unset, .unset] [(.int (65536 : Int32))])) (fun tt_ kk_ => X0.ldcInt hx hown (mvT hZ (hw _ (List.mem_of_getElem? (i := 16) rfl))) (g := (mkF m 83 #[.val (.int p1), .val (.int p2), .val (.int (p2 &&& (2147483647 : Int32))), .val (.int (p1 &&& (3 : Int32))), .unset, .unset] [])) rfl (hb hby d1_83) _ kk_) ?_
        refine Ends.to (T' := s₁) (g' := (mkF m 86 #[.val (.int p1), .val (.int p2), .val (.int (p2 &&& (2147483647 : Int32))), .val (.int (p1 &&& (3 : Int32))), .unset, .unset] [(.int (p2 &&& (2147483647 : Int32))), (.int (65536 : Int32))])) (fun tt_ kk_ => XS.iloadN X0.here hx rfl (hb hby d1_85) rfl kk_) ?_
        refine Ends.to (T' := s₁) (g' := (mkF m 88 #[.val (.int p1), .val (.int p2), .val (.int (p2 &&& (2147483647 : Int32))), .val (.int (p1 &&& (3 : Int32))), .unset, .unset] [(.int (1048576 : Int32)), (.int (p2 &&& (2147483647 : Int32))), (.int (65536 : Int32))])) (fun tt_ kk_ => X0.ldcInt hx hown (mvT hZ (hw _ (List.mem_of_getElem? (i := 17) rfl))) (g := (mkF m 86 #[.val (.int p1), .val (.int p2), .val (.int (p2 &&& (2147483647 : Int32))), .val (.int (p1 &&& (3 : Int32))), .unset, .unset] [(.int (p2 &&& (2147483647 : Int32))), (.int (65536 : Int32))])) rfl (hb hby d1_86) _ kk_) ?_
        refine Ends.to (T' := s₁) (g' := (mkF m 89 #[.val (.int p1), .val (.int p2), .val (.int (p2 &&& (2147483647 : Int32))), .val (.int (p1 &&& (3 : Int32))), .unset, .unset] [(.int ((p2 &&& (2147483647 : Int32)) % (1048576 : Int32))), (.int (65536 : Int32))])) (fun tt_ kk_ => Jvm.RoadKit.iremM X0 hx rfl (hb hby d1_88) rfl (by decide) kk_) ?_
        refine Ends.to (T' := s₁) (g' := (mkF m 90 #[.val (.int p1), .val (.int p2), .val (.int (p2 &&& (2147483647 : Int32))), .val (.int (p1 &&& (3 : Int32))), .unset, .unset] [(.int ((65536 : Int32) + ((p2 &&& (2147483647 : Int32)) % (1048576 : Int32))))])) (fun tt_ kk_ => XS.iadd X0.here hx rfl (hb hby d1_89) rfl kk_) ?_
        refine Ends.to (T' := s₁) (g' := (mkF m 92 #[.val (.int p1), .val (.int p2), .val (.int (p2 &&& (2147483647 : Int32))), .val (.int (p1 &&& (3 : Int32))), .val (.int ((65536 : Int32) + ((p2 &&& (2147483647 : Int32)) % (1048576 : Int32)))), .unset] [])) (fun tt_ kk_ => XS.istore X0.here hx rfl (hb hby d1_90) rfl (l' := #[.val (.int p1), .val (.int p2), .val (.int (p2 &&& (2147483647 : Int32))), .val (.int (p1 &&& (3 : Int32))), .val (.int ((65536 : Int32) + ((p2 &&& (2147483647 : Int32)) % (1048576 : Int32)))), .unset]) rfl kk_) ?_
        refine Ends.to (T' := s₁) (g' := (mkF m 94 #[.val (.int p1), .val (.int p2), .val (.int (p2 &&& (2147483647 : Int32))), .val (.int (p1 &&& (3 : Int32))), .val (.int ((65536 : Int32) + ((p2 &&& (2147483647 : Int32)) % (1048576 : Int32)))), .unset] [(.int ((65536 : Int32) + ((p2 &&& (2147483647 : Int32)) % (1048576 : Int32))))])) (fun tt_ kk_ => XS.iload X0.here hx rfl (hb hby d1_92) rfl kk_) ?_
        exact Ends.retI X0 hx hret (hb hby d1_94) hlk (by decide) (by decide) ⟨by simp only [own_point, if_neg hc10, if_neg hc24, if_neg hc43], N0, e0⟩
theorem own_rem {r y : Int32} {n : Int} (hr : 0 ≤ r.toInt) (hy : y.toInt = n) : (r % y).toInt = r.toInt % n := by rw [Jvm.Kit.i32_rem_nonneg hr, hy]
theorem own_pt_range {k x P : Int32} (h : own_point k x = P) : 0 ≤ P.toInt ∧ P.toInt < 2097152 := by
  have e0 := own_31 x
  have m := Jvm.Kit.i32_mask x 127 (k := 7) (by decide) (by decide)
  have e1 := own_rem (y := 1920) (n := 1920) e0 rfl
  have e2 := own_rem (y := 61440) (n := 61440) e0 rfl
  have e3 := own_rem (y := 1048576) (n := 1048576) e0 rfl
  have c1 : (128 : Int32).toInt = 128 := rfl
  have c2 : (2048 : Int32).toInt = 2048 := rfl
  have c3 : (57344 : Int32).toInt = 57344 := rfl
  have c4 : (53248 : Int32).toInt = 53248 := rfl
  have c5 : (65536 : Int32).toInt = 65536 := rfl
  subst h
  unfold own_point
  split
  · omega
  split
  · rw [Jvm.Kit.i32_add (by omega) (by omega)]; omega
  split
  · split
    · rw [Jvm.Kit.i32_add (by omega) (by omega)]; omega
    · rename_i q
      have q' : ¬ ((x &&& 2147483647) % 61440).toInt < 53248 := fun z => q (Int32.lt_iff_toInt_lt.mpr (by rw [c4]; exact z))
      have s : ((x &&& 2147483647) % 61440 - 53248).toInt = ((x &&& 2147483647) % 61440).toInt - (53248 : Int32).toInt := Jvm.Kit.i32_sub (by omega) (by omega)
      rw [Jvm.Kit.i32_add (by omega) (by omega)]; omega
  · rw [Jvm.Kit.i32_add (by omega) (by omega)]; omega
theorem own_at {x a : Int32} (h : x &&& 3 = a) : ∃ t : Nat, t + 4 ≤ 8 ∧ a = Int32.ofNat t := by
  have e := Jvm.Kit.i32_mask x 3 (k := 2) (by decide) (by decide)
  rw [h] at e
  obtain ⟨n, rfl, hn⟩ := own_of (x := a) (by omega)
  exact ⟨n, by omega, rfl⟩
theorem own_nat {n : Nat} (h : n < 4294967296) : (Int32.ofNat n).toBitVec.toNat = n := by
  show (BitVec.ofNat 32 n).toNat = n
  rw [BitVec.toNat_ofNat]; exact Nat.mod_eq_of_lt h
theorem own_shr {n : Nat} {s : Int32} {k : Nat} (hn : n < 2147483648) (hs : (s.toBitVec.smod 32).toNat = k) : Int32.ofNat n >>> s = Int32.ofNat (n / 2 ^ k) := by
  apply Int32.toInt_inj.mp
  have : n / 2 ^ k ≤ n := Nat.div_le_self _ _
  rw [Jvm.Kit.i32_shr _ s hs, own_toInt hn, own_toInt (by omega)]
  rw [Int.natCast_ediv, Int.natCast_pow]; rfl
theorem own_shl {n : Nat} {s : Int32} {k : Nat} (hn : n * 2 ^ k < 2147483648) (hs : (s.toBitVec.smod 32).toNat = k) : Int32.ofNat n <<< s = Int32.ofNat (n * 2 ^ k) := by
  apply Int32.toInt_inj.mp
  have : n ≤ n * 2 ^ k := Nat.le_mul_of_pos_right _ (Nat.two_pow_pos k)
  have e : ((n : Int) * 2 ^ k) = ((n * 2 ^ k : Nat) : Int) := by rw [Int.natCast_mul, Int.natCast_pow]; rfl
  have e1 : (Int32.ofNat n).toInt = n := own_toInt (by omega)
  rw [Jvm.Kit.i32_shl _ s hs (by rw [e1, e]; omega) (by rw [e1, e]; omega), e1, own_toInt hn, e]
theorem own_orr {a b k : Nat} (hb : b < 2 ^ k) (hs : a * 2 ^ k + b < 2147483648) : Int32.ofNat (a * 2 ^ k) ||| Int32.ofNat b = Int32.ofNat (a * 2 ^ k + b) := by
  apply Int32.toBitVec_inj.mp
  apply BitVec.eq_of_toNat_eq
  rw [Int32.toBitVec_or, BitVec.toNat_or, own_nat (by omega), own_nat (by omega), own_nat (by omega), Nat.mul_comm, Nat.two_pow_add_eq_or_of_lt hb]
theorem own_m63 {n : Nat} (hn : n < 2147483648) : Int32.ofNat n &&& 63 = Int32.ofNat (n % 64) := by
  apply Int32.toInt_inj.mp
  rw [Jvm.Kit.i32_mask _ 63 (k := 6) (by decide) (by decide), own_toInt hn, own_toInt (by omega)]; omega
theorem own_f1 : ∀ x : Fin 128, own_by (Int32.ofNat x.val) &&& 255 = Int32.ofNat x.val := by decide +kernel
theorem own_f2 : ∀ x : Fin 32, own_by ((192 : Int32) ||| Int32.ofNat x.val) &&& 255 = Int32.ofNat (192 + x.val) ∧ Int32.ofNat (192 + x.val) &&& 31 = Int32.ofNat x.val := by decide +kernel
theorem own_f3 : ∀ x : Fin 16, own_by ((224 : Int32) ||| Int32.ofNat x.val) &&& 255 = Int32.ofNat (224 + x.val) ∧ Int32.ofNat (224 + x.val) &&& 15 = Int32.ofNat x.val := by decide +kernel
theorem own_f4 : ∀ x : Fin 8, own_by ((240 : Int32) ||| Int32.ofNat x.val) &&& 255 = Int32.ofNat (240 + x.val) ∧ Int32.ofNat (240 + x.val) &&& 7 = Int32.ofNat x.val := by decide +kernel
theorem own_fc : ∀ x : Fin 64, own_by ((128 : Int32) ||| Int32.ofNat x.val) &&& 63 = Int32.ofNat x.val := by decide +kernel
theorem own_cont {x : Nat} (h : x < 64) : own_by ((128 : Int32) ||| Int32.ofNat x) &&& 63 = Int32.ofNat x := own_fc ⟨x, h⟩
theorem own_lt {a : Nat} {z : Int32} {b : Nat} (ha : a < 2147483648) (hz : z.toInt = b) : Int32.ofNat a < z ↔ a < b := by
  rw [Int32.lt_iff_toInt_lt, own_toInt ha, hz]; omega
theorem own_round {P : Int32} (hr : 0 ≤ P.toInt ∧ P.toInt < 2097152) (t : Nat) (F : Nat → Int32) : own_cp (own_enc P t F) t = P := by
  obtain ⟨n, rfl, hn⟩ := own_of hr.1
  have hn2 : n < 2097152 := by omega
  have l1 := own_lt (a := n) (z := 128) (b := 128) (by omega) rfl
  have l2 := own_lt (a := n) (z := 2048) (b := 2048) (by omega) rfl
  have l3 := own_lt (a := n) (z := 65536) (b := 65536) (by omega) rfl
  have s6 : Int32.ofNat n >>> ((6 : Int32) &&& 31) = Int32.ofNat (n / 64) := own_shr (k := 6) (by omega) (by decide)
  have s12 : Int32.ofNat n >>> ((12 : Int32) &&& 31) = Int32.ofNat (n / 4096) := own_shr (k := 12) (by omega) (by decide)
  have s18 : Int32.ofNat n >>> ((18 : Int32) &&& 31) = Int32.ofNat (n / 262144) := own_shr (k := 18) (by omega) (by decide)
  unfold own_enc own_cp
  by_cases c1 : n < 128
  · rw [if_pos (l1.mpr c1), upd_same, own_f1 ⟨n, c1⟩, if_pos (l1.mpr c1)]
  rw [if_neg (fun q => c1 (l1.mp q))]
  by_cases c2 : n < 2048
  · obtain ⟨g1, g2⟩ := own_f2 ⟨n / 64, by omega⟩
    dsimp only at g1 g2
    rw [if_pos (l2.mpr c2), upd_ne _ _ (show t ≠ t + 1 from by omega), upd_same, upd_same, s6, g1, own_m63 (by omega), own_cont (by omega), g2]
    rw [if_neg (fun q => by have := (own_lt (b := 128) (by omega) rfl).mp q; omega), if_pos ((own_lt (b := 224) (by omega) rfl).mpr (by omega))]
    rw [own_shl (k := 6) (by omega) (by decide), own_orr (by omega) (by omega)]
    exact congrArg Int32.ofNat (by omega)
  rw [if_neg (fun q => c2 (l2.mp q))]
  by_cases c3 : n < 65536
  · obtain ⟨g1, g2⟩ := own_f3 ⟨n / 4096, by omega⟩
    dsimp only at g1 g2
    rw [if_pos (l3.mpr c3), upd_ne _ _ (show t ≠ t + 1 + 1 from by omega), upd_ne _ _ (show t ≠ t + 1 from by omega), upd_same, upd_ne _ _ (show t + 1 ≠ t + 1 + 1 from by omega), upd_same, show t + 2 = t + 1 + 1 from rfl, upd_same, s12, s6, g1, own_m63 (n := n / 64) (by omega), own_m63 (n := n) (by omega), own_cont (x := n / 64 % 64) (by omega), own_cont (x := n % 64) (by omega), g2]
    rw [if_neg (fun q => by have := (own_lt (b := 128) (by omega) rfl).mp q; omega), if_neg (fun q => by have := (own_lt (b := 224) (by omega) rfl).mp q; omega), if_pos ((own_lt (b := 240) (by omega) rfl).mpr (by omega))]
    rw [own_shl (n := n / 4096) (k := 12) (by omega) (by decide), own_shl (n := n / 64 % 64) (k := 6) (by omega) (by decide), own_orr (k := 12) (by omega) (by omega)]
    rw [show n / 4096 * 2 ^ 12 + n / 64 % 64 * 2 ^ 6 = (n / 64) * 2 ^ 6 from by omega, own_orr (k := 6) (by omega) (by omega)]
    exact congrArg Int32.ofNat (by omega)
  rw [if_neg (fun q => c3 (l3.mp q))]
  obtain ⟨g1, g2⟩ := own_f4 ⟨n / 262144, by omega⟩
  dsimp only at g1 g2
  rw [upd_ne _ _ (show t ≠ t + 1 + 1 + 1 from by omega), upd_ne _ _ (show t ≠ t + 1 + 1 from by omega), upd_ne _ _ (show t ≠ t + 1 from by omega), upd_same, upd_ne _ _ (show t + 1 ≠ t + 1 + 1 + 1 from by omega), upd_ne _ _ (show t + 1 ≠ t + 1 + 1 from by omega), upd_same, show t + 2 = t + 1 + 1 from rfl, upd_ne _ _ (show t + 1 + 1 ≠ t + 1 + 1 + 1 from by omega), upd_same, show t + 3 = t + 1 + 1 + 1 from rfl, upd_same, s18, s12, s6, g1, own_m63 (n := n / 4096) (by omega), own_m63 (n := n / 64) (by omega), own_m63 (n := n) (by omega), own_cont (x := n / 4096 % 64) (by omega), own_cont (x := n / 64 % 64) (by omega), own_cont (x := n % 64) (by omega), g2]
  rw [if_neg (fun q => by have := (own_lt (b := 128) (by omega) rfl).mp q; omega), if_neg (fun q => by have := (own_lt (b := 224) (by omega) rfl).mp q; omega), if_neg (fun q => by have := (own_lt (b := 240) (by omega) rfl).mp q; omega)]
  rw [own_shl (n := n / 262144) (k := 18) (by omega) (by decide), own_shl (n := n / 4096 % 64) (k := 12) (by omega) (by decide), own_shl (n := n / 64 % 64) (k := 6) (by omega) (by decide), own_orr (k := 18) (by omega) (by omega)]
  rw [show n / 262144 * 2 ^ 18 + n / 4096 % 64 * 2 ^ 12 = (n / 4096) * 2 ^ 12 from by omega, own_orr (k := 12) (by omega) (by omega)]
  rw [show n / 4096 * 2 ^ 12 + n / 64 % 64 * 2 ^ 6 = (n / 64) * 2 ^ 6 from by omega, own_orr (k := 6) (by omega) (by omega)]
  exact congrArg Int32.ofNat (by omega)
set_option maxRecDepth 65536 in
set_option maxHeartbeats 40000000 in
def Q_rm0 (Z : State) (p1 p2 p3 : Int32) (q4 : Int64) (h0 : Heap) (n0 : Nat) : Option Value → Heap → List Loc → Prop := fun v h L => v = some (.int 1) ∧ Fr n0 L
set_option maxRecDepth 65536 in
set_option maxHeartbeats 40000000 in
theorem rm0 (l : Launch) (Z : State) (a0 : Array Value) (hw : ∀ d ∈ tables_1, d.before a0 Z = true) (ws : List Jvm.Cond) (p1 p2 p3 : Int32) (q4 : Int64) (h0 : Heap) (n0 : Nat) (Z0 : n0 ≤ h0.size) :
    Pays l x code maxLocals ret ws room_1 #[(.int p1), (.int p2), (.int p3), (.long q4)] Z h0 (Q_rm0 Z p1 p2 p3 q4 h0 n0) := by
  refine Pays.of (plainFor_of_name pn_0) ?_
  intro p e s m below meth c s₁ hx hby hml hown hnm hret hlk hZ X0 e0
  have hown : s.vm.findClass "com/example/predicate/predicate/document/Utf8CodePointPinLaw" = some m.cls := hown
  have hnm : meth.name = "law" := hnm
  have hml : c.maxLocals = 8 := hml
  show Ends p e below s _ _ (fun v h L => v = some (.int 1) ∧ Fr n0 L) s₁ _
  refine Ends.cast (ef_0 m p1 p2 p3 q4) ?_
  have N0 := Fr.nil n0
  have Zs := Z0
  refine Ends.to (T' := s₁) (g' := (mkF m 1 #[.val (.int p1), .val (.int p2), .val (.int p3), .val (.long q4), .second, .unset, .unset, .unset] [(.int p1)])) (fun tt_ kk_ => XS.iloadN X0.here hx rfl (hb hby at_0) rfl kk_) ?_
  refine Ends.to (T' := s₁) (g' := (mkF m 2 #[.val (.int p1), .val (.int p2), .val (.int p3), .val (.long q4), .second, .unset, .unset, .unset] [(.int p2), (.int p1)])) (fun tt_ kk_ => XS.iloadN X0.here hx rfl (hb hby at_1) rfl kk_) ?_
  obtain ⟨_, _, ⟨T11, L11, k11, n11⟩, -, X11, ⟨Lc11, hQ11, l11, y11, z11⟩, st11⟩ := Jvm.LawKit.callS X0 hx (y := (⟨"com/example/predicate/predicate/document/Utf8CodePointPinLaw", "pointOf", "(II)I"⟩ : MethodName)) hown (mvT hZ (hw _ (List.mem_of_getElem? (i := 0) rfl))) (mvT hZ (hw _ (List.mem_of_getElem? (i := 1) rfl))) (mvT hZ (hw _ (List.mem_of_getElem? (i := 2) rfl))) (mvT hZ (hw _ (List.mem_of_getElem? (i := 3) rfl))) (by decide) (backOf (W := 0) (rm1 l Z a0 hw [] p1 p2 h0 n0 Zs) hZ (hw _ (List.mem_of_getElem? (i := 3) rfl)) (hw _ (List.mem_of_getElem? (i := 2) rfl)) (by decide) (by decide)) (g := (mkF m 2 #[.val (.int p1), .val (.int p2), .val (.int p3), .val (.long q4), .second, .unset, .unset, .unset] [(.int p2), (.int p1)])) rfl (by rw [hml]; rfl) (argsL := [(.int p1), (.int p2)]) (rest := []) (lenOf pd_1 rfl) rfl (by show 2 * 0 + _ ≤ _; exact Nat.le_of_eq rfl) (hb hby at_2) (fun _ _ => ⟨rfl, e0, (by decide : 0 + 0 ≤ _), (by decide : 0 + 0 ≤ _)⟩)
  dsimp only [Pt.U, Pt.locs, Pt.cells, Pt.slots] at X11 l11 y11 z11 st11 hQ11
  subst l11 y11 z11
  obtain ⟨rfl, N11q, e11q⟩ := hQ11
  have N11 := Fr.app N0 N11q
  refine Ends.to (T' := T11) (g' := (mkF m 5 #[.val (.int p1), .val (.int p2), .val (.int p3), .val (.long q4), .second, .unset, .unset, .unset] [(.int (own_point p1 p2))])) (fun tt_ kk_ => st11 tt_ kk_) ?_
  refine Ends.to (T' := T11) (g' := (mkF m 7 #[.val (.int p1), .val (.int p2), .val (.int p3), .val (.long q4), .second, .val (.int (own_point p1 p2)), .unset, .unset] [])) (fun tt_ kk_ => XS.istore X11.here hx rfl (hb hby at_5) rfl (l' := #[.val (.int p1), .val (.int p2), .val (.int p3), .val (.long q4), .second, .val (.int (own_point p1 p2)), .unset, .unset]) rfl kk_) ?_
  generalize hpt : (own_point p1 p2) = pt
  have hr := own_pt_range hpt
  refine Ends.to (T' := T11) (g' := (mkF m 8 #[.val (.int p1), .val (.int p2), .val (.int p3), .val (.long q4), .second, .val (.int pt), .unset, .unset] [(.int p3)])) (fun tt_ kk_ => XS.iloadN X11.here hx rfl (hb hby at_7) rfl kk_) ?_
  refine Ends.to (T' := T11) (g' := (mkF m 9 #[.val (.int p1), .val (.int p2), .val (.int p3), .val (.long q4), .second, .val (.int pt), .unset, .unset] [(.int (3 : Int32)), (.int p3)])) (fun tt_ kk_ => XS.iconst X11.here hx rfl (hb hby at_8) kk_) ?_
  refine Ends.to (T' := T11) (g' := (mkF m 10 #[.val (.int p1), .val (.int p2), .val (.int p3), .val (.long q4), .second, .val (.int pt), .unset, .unset] [(.int (p3 &&& (3 : Int32)))])) (fun tt_ kk_ => XS.iand X11.here hx rfl (hb hby at_9) rfl kk_) ?_
  refine Ends.to (T' := T11) (g' := (mkF m 12 #[.val (.int p1), .val (.int p2), .val (.int p3), .val (.long q4), .second, .val (.int pt), .val (.int (p3 &&& (3 : Int32))), .unset] [])) (fun tt_ kk_ => XS.istore X11.here hx rfl (hb hby at_10) rfl (l' := #[.val (.int p1), .val (.int p2), .val (.int p3), .val (.long q4), .second, .val (.int pt), .val (.int (p3 &&& (3 : Int32))), .unset]) rfl kk_) ?_
  generalize hat1 : (p3 &&& (3 : Int32)) = at1
  obtain ⟨t, ht, rfl⟩ := own_at hat1
  refine Ends.to (T' := T11) (g' := (mkF m 14 #[.val (.int p1), .val (.int p2), .val (.int p3), .val (.long q4), .second, .val (.int pt), .val (.int (Int32.ofNat t)), .unset] [(.int (8 : Int32))])) (fun tt_ kk_ => XS.bipush X11.here hx rfl (hb hby at_12) kk_) ?_
  obtain ⟨T12, h12, k12, X12, e12, E12, A12, st12⟩ := newP X11 hx hZ (hw _ (List.mem_of_getElem? (i := 5) rfl)) e11q (g := (mkF m 14 #[.val (.int p1), .val (.int p2), .val (.int p3), .val (.long q4), .second, .val (.int pt), .val (.int (Int32.ofNat t)), .unset] [(.int (8 : Int32))])) rfl (hb hby at_14) rfl (by decide) (cap := 8) (by decide) (by decide) (by decide) (by decide)
  obtain ⟨b1, g_b1⟩ : ∃ z, z = h0.size := ⟨_, rfl⟩
  rw [← g_b1] at A12 st12
  have f_b1 : n0 ≤ b1 := Nat.le_trans Zs (Nat.le_of_eq g_b1.symm)
  have Zs := Nat.le_trans Zs E12.1
  have B_b1 : BB Z h12 b1 8 (fun _ => 0) := BA.freshB A12 rfl
  refine Ends.to (T' := T12) (g' := (mkF m 16 #[.val (.int p1), .val (.int p2), .val (.int p3), .val (.long q4), .second, .val (.int pt), .val (.int (Int32.ofNat t)), .unset] [(.ref b1)])) (fun tt_ kk_ => st12 tt_ kk_) ?_
  refine Ends.to (T' := T12) (g' := (mkF m 18 #[.val (.int p1), .val (.int p2), .val (.int p3), .val (.long q4), .second, .val (.int pt), .val (.int (Int32.ofNat t)), .val (.ref b1)] [])) (fun tt_ kk_ => XS.astore X12.here hx rfl (hb hby at_16) rfl rfl (l' := #[.val (.int p1), .val (.int p2), .val (.int p3), .val (.long q4), .second, .val (.int pt), .val (.int (Int32.ofNat t)), .val (.ref b1)]) rfl kk_) ?_
  refine Ends.to (T' := T12) (g' := (mkF m 20 #[.val (.int p1), .val (.int p2), .val (.int p3), .val (.long q4), .second, .val (.int pt), .val (.int (Int32.ofNat t)), .val (.ref b1)] [(.ref b1)])) (fun tt_ kk_ => XS.aload X12.here hx rfl (hb hby at_18) rfl rfl kk_) ?_
  refine Ends.to (T' := T12) (g' := (mkF m 21 #[.val (.int p1), .val (.int p2), .val (.int p3), .val (.long q4), .second, .val (.int pt), .val (.int (Int32.ofNat t)), .val (.ref b1)] [(.int (0 : Int32)), (.ref b1)])) (fun tt_ kk_ => XS.iconst X12.here hx rfl (hb hby at_20) kk_) ?_
  refine Ends.to (T' := T12) (g' := (mkF m 22 #[.val (.int p1), .val (.int p2), .val (.int p3), .val (.long q4), .second, .val (.int pt), .val (.int (Int32.ofNat t)), .val (.ref b1)] [(.long q4), (.int (0 : Int32)), (.ref b1)])) (fun tt_ kk_ => XS.lloadN X12.here hx rfl (hb hby at_21) rfl kk_) ?_
  refine Ends.to (T' := T12) (g' := (mkF m 23 #[.val (.int p1), .val (.int p2), .val (.int p3), .val (.long q4), .second, .val (.int pt), .val (.int (Int32.ofNat t)), .val (.ref b1)] [(.int (q4.toInt32)), (.int (0 : Int32)), (.ref b1)])) (fun tt_ kk_ => XS.l2i X12.here hx rfl (hb hby at_22) rfl kk_) ?_
  refine Ends.to (T' := T12) (g' := (mkF m 24 #[.val (.int p1), .val (.int p2), .val (.int p3), .val (.long q4), .second, .val (.int pt), .val (.int (Int32.ofNat t)), .val (.ref b1)] [(.int ((q4.toInt32).toInt8.toInt32)), (.int (0 : Int32)), (.ref b1)])) (fun tt_ kk_ => XS.i2b X12.here hx rfl (hb hby at_23) rfl kk_) ?_
  obtain ⟨T13, h13, X13, e13, W13, B_b1', st13⟩ := BA.stB X12 hx hZ e12 B_b1 (j := (0 : Int32)) (i := 0) (by decide) rfl (by decide) (g := (mkF m 24 #[.val (.int p1), .val (.int p2), .val (.int p3), .val (.long q4), .second, .val (.int pt), .val (.int (Int32.ofNat t)), .val (.ref b1)] [(.int ((q4.toInt32).toInt8.toInt32)), (.int (0 : Int32)), (.ref b1)])) rfl rfl (hb hby at_24)
  have Zs := Nat.le_trans Zs (Nat.le_of_eq (Wr.size W13).symm)
  have B_b1 := B_b1'
  clear B_b1'
  have N13 := Fr.snoc X13 N11 f_b1
  refine Ends.to (T' := T13) (g' := (mkF m 25 #[.val (.int p1), .val (.int p2), .val (.int p3), .val (.long q4), .second, .val (.int pt), .val (.int (Int32.ofNat t)), .val (.ref b1)] [])) (fun tt_ kk_ => st13 tt_ kk_) ?_
  refine Ends.to (T' := T13) (g' := (mkF m 27 #[.val (.int p1), .val (.int p2), .val (.int p3), .val (.long q4), .second, .val (.int pt), .val (.int (Int32.ofNat t)), .val (.ref b1)] [(.ref b1)])) (fun tt_ kk_ => XS.aload X13.here hx rfl (hb hby at_25) rfl rfl kk_) ?_
  refine Ends.to (T' := T13) (g' := (mkF m 28 #[.val (.int p1), .val (.int p2), .val (.int p3), .val (.long q4), .second, .val (.int pt), .val (.int (Int32.ofNat t)), .val (.ref b1)] [(.int (1 : Int32)), (.ref b1)])) (fun tt_ kk_ => XS.iconst X13.here hx rfl (hb hby at_27) kk_) ?_
  refine Ends.to (T' := T13) (g' := (mkF m 29 #[.val (.int p1), .val (.int p2), .val (.int p3), .val (.long q4), .second, .val (.int pt), .val (.int (Int32.ofNat t)), .val (.ref b1)] [(.long q4), (.int (1 : Int32)), (.ref b1)])) (fun tt_ kk_ => XS.lloadN X13.here hx rfl (hb hby at_28) rfl kk_) ?_
  refine Ends.to (T' := T13) (g' := (mkF m 31 #[.val (.int p1), .val (.int p2), .val (.int p3), .val (.long q4), .second, .val (.int pt), .val (.int (Int32.ofNat t)), .val (.ref b1)] [(.int (8 : Int32)), (.long q4), (.int (1 : Int32)), (.ref b1)])) (fun tt_ kk_ => XS.bipush X13.here hx rfl (hb hby at_29) kk_) ?_
  refine Ends.to (T' := T13) (g' := (mkF m 32 #[.val (.int p1), .val (.int p2), .val (.int p3), .val (.long q4), .second, .val (.int pt), .val (.int (Int32.ofNat t)), .val (.ref b1)] [(.long ((q4.toUInt64 >>> ((8 : Int32) &&& 0x3f).toInt64.toUInt64).toInt64)), (.int (1 : Int32)), (.ref b1)])) (fun tt_ kk_ => XS.lushr X13.here hx rfl (hb hby at_31) rfl kk_) ?_
  refine Ends.to (T' := T13) (g' := (mkF m 33 #[.val (.int p1), .val (.int p2), .val (.int p3), .val (.long q4), .second, .val (.int pt), .val (.int (Int32.ofNat t)), .val (.ref b1)] [(.int (((q4.toUInt64 >>> ((8 : Int32) &&& 0x3f).toInt64.toUInt64).toInt64).toInt32)), (.int (1 : Int32)), (.ref b1)])) (fun tt_ kk_ => XS.l2i X13.here hx rfl (hb hby at_32) rfl kk_) ?_
  refine Ends.to (T' := T13) (g' := (mkF m 34 #[.val (.int p1), .val (.int p2), .val (.int p3), .val (.long q4), .second, .val (.int pt), .val (.int (Int32.ofNat t)), .val (.ref b1)] [(.int ((((q4.toUInt64 >>> ((8 : Int32) &&& 0x3f).toInt64.toUInt64).toInt64).toInt32).toInt8.toInt32)), (.int (1 : Int32)), (.ref b1)])) (fun tt_ kk_ => XS.i2b X13.here hx rfl (hb hby at_33) rfl kk_) ?_
  obtain ⟨T14, h14, X14, e14, W14, B_b1', st14⟩ := BA.stB X13 hx hZ e13 B_b1 (j := (1 : Int32)) (i := 1) (by decide) rfl (by decide) (g := (mkF m 34 #[.val (.int p1), .val (.int p2), .val (.int p3), .val (.long q4), .second, .val (.int pt), .val (.int (Int32.ofNat t)), .val (.ref b1)] [(.int ((((q4.toUInt64 >>> ((8 : Int32) &&& 0x3f).toInt64.toUInt64).toInt64).toInt32).toInt8.toInt32)), (.int (1 : Int32)), (.ref b1)])) rfl rfl (hb hby at_34)
  have Zs := Nat.le_trans Zs (Nat.le_of_eq (Wr.size W14).symm)
  have B_b1 := B_b1'
  clear B_b1'
  have N14 := Fr.snoc X14 N13 f_b1
  refine Ends.to (T' := T14) (g' := (mkF m 35 #[.val (.int p1), .val (.int p2), .val (.int p3), .val (.long q4), .second, .val (.int pt), .val (.int (Int32.ofNat t)), .val (.ref b1)] [])) (fun tt_ kk_ => st14 tt_ kk_) ?_
  refine Ends.to (T' := T14) (g' := (mkF m 37 #[.val (.int p1), .val (.int p2), .val (.int p3), .val (.long q4), .second, .val (.int pt), .val (.int (Int32.ofNat t)), .val (.ref b1)] [(.ref b1)])) (fun tt_ kk_ => XS.aload X14.here hx rfl (hb hby at_35) rfl rfl kk_) ?_
  refine Ends.to (T' := T14) (g' := (mkF m 38 #[.val (.int p1), .val (.int p2), .val (.int p3), .val (.long q4), .second, .val (.int pt), .val (.int (Int32.ofNat t)), .val (.ref b1)] [(.int (2 : Int32)), (.ref b1)])) (fun tt_ kk_ => XS.iconst X14.here hx rfl (hb hby at_37) kk_) ?_
  refine Ends.to (T' := T14) (g' := (mkF m 39 #[.val (.int p1), .val (.int p2), .val (.int p3), .val (.long q4), .second, .val (.int pt), .val (.int (Int32.ofNat t)), .val (.ref b1)] [(.long q4), (.int (2 : Int32)), (.ref b1)])) (fun tt_ kk_ => XS.lloadN X14.here hx rfl (hb hby at_38) rfl kk_) ?_
  refine Ends.to (T' := T14) (g' := (mkF m 41 #[.val (.int p1), .val (.int p2), .val (.int p3), .val (.long q4), .second, .val (.int pt), .val (.int (Int32.ofNat t)), .val (.ref b1)] [(.int (16 : Int32)), (.long q4), (.int (2 : Int32)), (.ref b1)])) (fun tt_ kk_ => XS.bipush X14.here hx rfl (hb hby at_39) kk_) ?_
  refine Ends.to (T' := T14) (g' := (mkF m 42 #[.val (.int p1), .val (.int p2), .val (.int p3), .val (.long q4), .second, .val (.int pt), .val (.int (Int32.ofNat t)), .val (.ref b1)] [(.long ((q4.toUInt64 >>> ((16 : Int32) &&& 0x3f).toInt64.toUInt64).toInt64)), (.int (2 : Int32)), (.ref b1)])) (fun tt_ kk_ => XS.lushr X14.here hx rfl (hb hby at_41) rfl kk_) ?_
  refine Ends.to (T' := T14) (g' := (mkF m 43 #[.val (.int p1), .val (.int p2), .val (.int p3), .val (.long q4), .second, .val (.int pt), .val (.int (Int32.ofNat t)), .val (.ref b1)] [(.int (((q4.toUInt64 >>> ((16 : Int32) &&& 0x3f).toInt64.toUInt64).toInt64).toInt32)), (.int (2 : Int32)), (.ref b1)])) (fun tt_ kk_ => XS.l2i X14.here hx rfl (hb hby at_42) rfl kk_) ?_
  refine Ends.to (T' := T14) (g' := (mkF m 44 #[.val (.int p1), .val (.int p2), .val (.int p3), .val (.long q4), .second, .val (.int pt), .val (.int (Int32.ofNat t)), .val (.ref b1)] [(.int ((((q4.toUInt64 >>> ((16 : Int32) &&& 0x3f).toInt64.toUInt64).toInt64).toInt32).toInt8.toInt32)), (.int (2 : Int32)), (.ref b1)])) (fun tt_ kk_ => XS.i2b X14.here hx rfl (hb hby at_43) rfl kk_) ?_
  obtain ⟨T15, h15, X15, e15, W15, B_b1', st15⟩ := BA.stB X14 hx hZ e14 B_b1 (j := (2 : Int32)) (i := 2) (by decide) rfl (by decide) (g := (mkF m 44 #[.val (.int p1), .val (.int p2), .val (.int p3), .val (.long q4), .second, .val (.int pt), .val (.int (Int32.ofNat t)), .val (.ref b1)] [(.int ((((q4.toUInt64 >>> ((16 : Int32) &&& 0x3f).toInt64.toUInt64).toInt64).toInt32).toInt8.toInt32)), (.int (2 : Int32)), (.ref b1)])) rfl rfl (hb hby at_44)
  have Zs := Nat.le_trans Zs (Nat.le_of_eq (Wr.size W15).symm)
  have B_b1 := B_b1'
  clear B_b1'
  have N15 := Fr.snoc X15 N14 f_b1
  refine Ends.to (T' := T15) (g' := (mkF m 45 #[.val (.int p1), .val (.int p2), .val (.int p3), .val (.long q4), .second, .val (.int pt), .val (.int (Int32.ofNat t)), .val (.ref b1)] [])) (fun tt_ kk_ => st15 tt_ kk_) ?_
  refine Ends.to (T' := T15) (g' := (mkF m 47 #[.val (.int p1), .val (.int p2), .val (.int p3), .val (.long q4), .second, .val (.int pt), .val (.int (Int32.ofNat t)), .val (.ref b1)] [(.ref b1)])) (fun tt_ kk_ => XS.aload X15.here hx rfl (hb hby at_45) rfl rfl kk_) ?_
  refine Ends.to (T' := T15) (g' := (mkF m 48 #[.val (.int p1), .val (.int p2), .val (.int p3), .val (.long q4), .second, .val (.int pt), .val (.int (Int32.ofNat t)), .val (.ref b1)] [(.int (3 : Int32)), (.ref b1)])) (fun tt_ kk_ => XS.iconst X15.here hx rfl (hb hby at_47) kk_) ?_
  refine Ends.to (T' := T15) (g' := (mkF m 49 #[.val (.int p1), .val (.int p2), .val (.int p3), .val (.long q4), .second, .val (.int pt), .val (.int (Int32.ofNat t)), .val (.ref b1)] [(.long q4), (.int (3 : Int32)), (.ref b1)])) (fun tt_ kk_ => XS.lloadN X15.here hx rfl (hb hby at_48) rfl kk_) ?_
  refine Ends.to (T' := T15) (g' := (mkF m 51 #[.val (.int p1), .val (.int p2), .val (.int p3), .val (.long q4), .second, .val (.int pt), .val (.int (Int32.ofNat t)), .val (.ref b1)] [(.int (24 : Int32)), (.long q4), (.int (3 : Int32)), (.ref b1)])) (fun tt_ kk_ => XS.bipush X15.here hx rfl (hb hby at_49) kk_) ?_
  refine Ends.to (T' := T15) (g' := (mkF m 52 #[.val (.int p1), .val (.int p2), .val (.int p3), .val (.long q4), .second, .val (.int pt), .val (.int (Int32.ofNat t)), .val (.ref b1)] [(.long ((q4.toUInt64 >>> ((24 : Int32) &&& 0x3f).toInt64.toUInt64).toInt64)), (.int (3 : Int32)), (.ref b1)])) (fun tt_ kk_ => XS.lushr X15.here hx rfl (hb hby at_51) rfl kk_) ?_
  refine Ends.to (T' := T15) (g' := (mkF m 53 #[.val (.int p1), .val (.int p2), .val (.int p3), .val (.long q4), .second, .val (.int pt), .val (.int (Int32.ofNat t)), .val (.ref b1)] [(.int (((q4.toUInt64 >>> ((24 : Int32) &&& 0x3f).toInt64.toUInt64).toInt64).toInt32)), (.int (3 : Int32)), (.ref b1)])) (fun tt_ kk_ => XS.l2i X15.here hx rfl (hb hby at_52) rfl kk_) ?_
  refine Ends.to (T' := T15) (g' := (mkF m 54 #[.val (.int p1), .val (.int p2), .val (.int p3), .val (.long q4), .second, .val (.int pt), .val (.int (Int32.ofNat t)), .val (.ref b1)] [(.int ((((q4.toUInt64 >>> ((24 : Int32) &&& 0x3f).toInt64.toUInt64).toInt64).toInt32).toInt8.toInt32)), (.int (3 : Int32)), (.ref b1)])) (fun tt_ kk_ => XS.i2b X15.here hx rfl (hb hby at_53) rfl kk_) ?_
  obtain ⟨T16, h16, X16, e16, W16, B_b1', st16⟩ := BA.stB X15 hx hZ e15 B_b1 (j := (3 : Int32)) (i := 3) (by decide) rfl (by decide) (g := (mkF m 54 #[.val (.int p1), .val (.int p2), .val (.int p3), .val (.long q4), .second, .val (.int pt), .val (.int (Int32.ofNat t)), .val (.ref b1)] [(.int ((((q4.toUInt64 >>> ((24 : Int32) &&& 0x3f).toInt64.toUInt64).toInt64).toInt32).toInt8.toInt32)), (.int (3 : Int32)), (.ref b1)])) rfl rfl (hb hby at_54)
  have Zs := Nat.le_trans Zs (Nat.le_of_eq (Wr.size W16).symm)
  have B_b1 := B_b1'
  clear B_b1'
  have N16 := Fr.snoc X16 N15 f_b1
  refine Ends.to (T' := T16) (g' := (mkF m 55 #[.val (.int p1), .val (.int p2), .val (.int p3), .val (.long q4), .second, .val (.int pt), .val (.int (Int32.ofNat t)), .val (.ref b1)] [])) (fun tt_ kk_ => st16 tt_ kk_) ?_
  refine Ends.to (T' := T16) (g' := (mkF m 57 #[.val (.int p1), .val (.int p2), .val (.int p3), .val (.long q4), .second, .val (.int pt), .val (.int (Int32.ofNat t)), .val (.ref b1)] [(.ref b1)])) (fun tt_ kk_ => XS.aload X16.here hx rfl (hb hby at_55) rfl rfl kk_) ?_
  refine Ends.to (T' := T16) (g' := (mkF m 58 #[.val (.int p1), .val (.int p2), .val (.int p3), .val (.long q4), .second, .val (.int pt), .val (.int (Int32.ofNat t)), .val (.ref b1)] [(.int (4 : Int32)), (.ref b1)])) (fun tt_ kk_ => XS.iconst X16.here hx rfl (hb hby at_57) kk_) ?_
  refine Ends.to (T' := T16) (g' := (mkF m 59 #[.val (.int p1), .val (.int p2), .val (.int p3), .val (.long q4), .second, .val (.int pt), .val (.int (Int32.ofNat t)), .val (.ref b1)] [(.long q4), (.int (4 : Int32)), (.ref b1)])) (fun tt_ kk_ => XS.lloadN X16.here hx rfl (hb hby at_58) rfl kk_) ?_
  refine Ends.to (T' := T16) (g' := (mkF m 61 #[.val (.int p1), .val (.int p2), .val (.int p3), .val (.long q4), .second, .val (.int pt), .val (.int (Int32.ofNat t)), .val (.ref b1)] [(.int (32 : Int32)), (.long q4), (.int (4 : Int32)), (.ref b1)])) (fun tt_ kk_ => XS.bipush X16.here hx rfl (hb hby at_59) kk_) ?_
  refine Ends.to (T' := T16) (g' := (mkF m 62 #[.val (.int p1), .val (.int p2), .val (.int p3), .val (.long q4), .second, .val (.int pt), .val (.int (Int32.ofNat t)), .val (.ref b1)] [(.long ((q4.toUInt64 >>> ((32 : Int32) &&& 0x3f).toInt64.toUInt64).toInt64)), (.int (4 : Int32)), (.ref b1)])) (fun tt_ kk_ => XS.lushr X16.here hx rfl (hb hby at_61) rfl kk_) ?_
  refine Ends.to (T' := T16) (g' := (mkF m 63 #[.val (.int p1), .val (.int p2), .val (.int p3), .val (.long q4), .second, .val (.int pt), .val (.int (Int32.ofNat t)), .val (.ref b1)] [(.int (((q4.toUInt64 >>> ((32 : Int32) &&& 0x3f).toInt64.toUInt64).toInt64).toInt32)), (.int (4 : Int32)), (.ref b1)])) (fun tt_ kk_ => XS.l2i X16.here hx rfl (hb hby at_62) rfl kk_) ?_
  refine Ends.to (T' := T16) (g' := (mkF m 64 #[.val (.int p1), .val (.int p2), .val (.int p3), .val (.long q4), .second, .val (.int pt), .val (.int (Int32.ofNat t)), .val (.ref b1)] [(.int ((((q4.toUInt64 >>> ((32 : Int32) &&& 0x3f).toInt64.toUInt64).toInt64).toInt32).toInt8.toInt32)), (.int (4 : Int32)), (.ref b1)])) (fun tt_ kk_ => XS.i2b X16.here hx rfl (hb hby at_63) rfl kk_) ?_
  obtain ⟨T17, h17, X17, e17, W17, B_b1', st17⟩ := BA.stB X16 hx hZ e16 B_b1 (j := (4 : Int32)) (i := 4) (by decide) rfl (by decide) (g := (mkF m 64 #[.val (.int p1), .val (.int p2), .val (.int p3), .val (.long q4), .second, .val (.int pt), .val (.int (Int32.ofNat t)), .val (.ref b1)] [(.int ((((q4.toUInt64 >>> ((32 : Int32) &&& 0x3f).toInt64.toUInt64).toInt64).toInt32).toInt8.toInt32)), (.int (4 : Int32)), (.ref b1)])) rfl rfl (hb hby at_64)
  have Zs := Nat.le_trans Zs (Nat.le_of_eq (Wr.size W17).symm)
  have B_b1 := B_b1'
  clear B_b1'
  have N17 := Fr.snoc X17 N16 f_b1
  refine Ends.to (T' := T17) (g' := (mkF m 65 #[.val (.int p1), .val (.int p2), .val (.int p3), .val (.long q4), .second, .val (.int pt), .val (.int (Int32.ofNat t)), .val (.ref b1)] [])) (fun tt_ kk_ => st17 tt_ kk_) ?_
  refine Ends.to (T' := T17) (g' := (mkF m 67 #[.val (.int p1), .val (.int p2), .val (.int p3), .val (.long q4), .second, .val (.int pt), .val (.int (Int32.ofNat t)), .val (.ref b1)] [(.ref b1)])) (fun tt_ kk_ => XS.aload X17.here hx rfl (hb hby at_65) rfl rfl kk_) ?_
  refine Ends.to (T' := T17) (g' := (mkF m 68 #[.val (.int p1), .val (.int p2), .val (.int p3), .val (.long q4), .second, .val (.int pt), .val (.int (Int32.ofNat t)), .val (.ref b1)] [(.int (5 : Int32)), (.ref b1)])) (fun tt_ kk_ => XS.iconst X17.here hx rfl (hb hby at_67) kk_) ?_
  refine Ends.to (T' := T17) (g' := (mkF m 69 #[.val (.int p1), .val (.int p2), .val (.int p3), .val (.long q4), .second, .val (.int pt), .val (.int (Int32.ofNat t)), .val (.ref b1)] [(.long q4), (.int (5 : Int32)), (.ref b1)])) (fun tt_ kk_ => XS.lloadN X17.here hx rfl (hb hby at_68) rfl kk_) ?_
  refine Ends.to (T' := T17) (g' := (mkF m 71 #[.val (.int p1), .val (.int p2), .val (.int p3), .val (.long q4), .second, .val (.int pt), .val (.int (Int32.ofNat t)), .val (.ref b1)] [(.int (40 : Int32)), (.long q4), (.int (5 : Int32)), (.ref b1)])) (fun tt_ kk_ => XS.bipush X17.here hx rfl (hb hby at_69) kk_) ?_
  refine Ends.to (T' := T17) (g' := (mkF m 72 #[.val (.int p1), .val (.int p2), .val (.int p3), .val (.long q4), .second, .val (.int pt), .val (.int (Int32.ofNat t)), .val (.ref b1)] [(.long ((q4.toUInt64 >>> ((40 : Int32) &&& 0x3f).toInt64.toUInt64).toInt64)), (.int (5 : Int32)), (.ref b1)])) (fun tt_ kk_ => XS.lushr X17.here hx rfl (hb hby at_71) rfl kk_) ?_
  refine Ends.to (T' := T17) (g' := (mkF m 73 #[.val (.int p1), .val (.int p2), .val (.int p3), .val (.long q4), .second, .val (.int pt), .val (.int (Int32.ofNat t)), .val (.ref b1)] [(.int (((q4.toUInt64 >>> ((40 : Int32) &&& 0x3f).toInt64.toUInt64).toInt64).toInt32)), (.int (5 : Int32)), (.ref b1)])) (fun tt_ kk_ => XS.l2i X17.here hx rfl (hb hby at_72) rfl kk_) ?_
  refine Ends.to (T' := T17) (g' := (mkF m 74 #[.val (.int p1), .val (.int p2), .val (.int p3), .val (.long q4), .second, .val (.int pt), .val (.int (Int32.ofNat t)), .val (.ref b1)] [(.int ((((q4.toUInt64 >>> ((40 : Int32) &&& 0x3f).toInt64.toUInt64).toInt64).toInt32).toInt8.toInt32)), (.int (5 : Int32)), (.ref b1)])) (fun tt_ kk_ => XS.i2b X17.here hx rfl (hb hby at_73) rfl kk_) ?_
  obtain ⟨T18, h18, X18, e18, W18, B_b1', st18⟩ := BA.stB X17 hx hZ e17 B_b1 (j := (5 : Int32)) (i := 5) (by decide) rfl (by decide) (g := (mkF m 74 #[.val (.int p1), .val (.int p2), .val (.int p3), .val (.long q4), .second, .val (.int pt), .val (.int (Int32.ofNat t)), .val (.ref b1)] [(.int ((((q4.toUInt64 >>> ((40 : Int32) &&& 0x3f).toInt64.toUInt64).toInt64).toInt32).toInt8.toInt32)), (.int (5 : Int32)), (.ref b1)])) rfl rfl (hb hby at_74)
  have Zs := Nat.le_trans Zs (Nat.le_of_eq (Wr.size W18).symm)
  have B_b1 := B_b1'
  clear B_b1'
  have N18 := Fr.snoc X18 N17 f_b1
  refine Ends.to (T' := T18) (g' := (mkF m 75 #[.val (.int p1), .val (.int p2), .val (.int p3), .val (.long q4), .second, .val (.int pt), .val (.int (Int32.ofNat t)), .val (.ref b1)] [])) (fun tt_ kk_ => st18 tt_ kk_) ?_
  refine Ends.to (T' := T18) (g' := (mkF m 77 #[.val (.int p1), .val (.int p2), .val (.int p3), .val (.long q4), .second, .val (.int pt), .val (.int (Int32.ofNat t)), .val (.ref b1)] [(.ref b1)])) (fun tt_ kk_ => XS.aload X18.here hx rfl (hb hby at_75) rfl rfl kk_) ?_
  refine Ends.to (T' := T18) (g' := (mkF m 79 #[.val (.int p1), .val (.int p2), .val (.int p3), .val (.long q4), .second, .val (.int pt), .val (.int (Int32.ofNat t)), .val (.ref b1)] [(.int (6 : Int32)), (.ref b1)])) (fun tt_ kk_ => XS.bipush X18.here hx rfl (hb hby at_77) kk_) ?_
  refine Ends.to (T' := T18) (g' := (mkF m 80 #[.val (.int p1), .val (.int p2), .val (.int p3), .val (.long q4), .second, .val (.int pt), .val (.int (Int32.ofNat t)), .val (.ref b1)] [(.long q4), (.int (6 : Int32)), (.ref b1)])) (fun tt_ kk_ => XS.lloadN X18.here hx rfl (hb hby at_79) rfl kk_) ?_
  refine Ends.to (T' := T18) (g' := (mkF m 82 #[.val (.int p1), .val (.int p2), .val (.int p3), .val (.long q4), .second, .val (.int pt), .val (.int (Int32.ofNat t)), .val (.ref b1)] [(.int (48 : Int32)), (.long q4), (.int (6 : Int32)), (.ref b1)])) (fun tt_ kk_ => XS.bipush X18.here hx rfl (hb hby at_80) kk_) ?_
  refine Ends.to (T' := T18) (g' := (mkF m 83 #[.val (.int p1), .val (.int p2), .val (.int p3), .val (.long q4), .second, .val (.int pt), .val (.int (Int32.ofNat t)), .val (.ref b1)] [(.long ((q4.toUInt64 >>> ((48 : Int32) &&& 0x3f).toInt64.toUInt64).toInt64)), (.int (6 : Int32)), (.ref b1)])) (fun tt_ kk_ => XS.lushr X18.here hx rfl (hb hby at_82) rfl kk_) ?_
  refine Ends.to (T' := T18) (g' := (mkF m 84 #[.val (.int p1), .val (.int p2), .val (.int p3), .val (.long q4), .second, .val (.int pt), .val (.int (Int32.ofNat t)), .val (.ref b1)] [(.int (((q4.toUInt64 >>> ((48 : Int32) &&& 0x3f).toInt64.toUInt64).toInt64).toInt32)), (.int (6 : Int32)), (.ref b1)])) (fun tt_ kk_ => XS.l2i X18.here hx rfl (hb hby at_83) rfl kk_) ?_
  refine Ends.to (T' := T18) (g' := (mkF m 85 #[.val (.int p1), .val (.int p2), .val (.int p3), .val (.long q4), .second, .val (.int pt), .val (.int (Int32.ofNat t)), .val (.ref b1)] [(.int ((((q4.toUInt64 >>> ((48 : Int32) &&& 0x3f).toInt64.toUInt64).toInt64).toInt32).toInt8.toInt32)), (.int (6 : Int32)), (.ref b1)])) (fun tt_ kk_ => XS.i2b X18.here hx rfl (hb hby at_84) rfl kk_) ?_
  obtain ⟨T19, h19, X19, e19, W19, B_b1', st19⟩ := BA.stB X18 hx hZ e18 B_b1 (j := (6 : Int32)) (i := 6) (by decide) rfl (by decide) (g := (mkF m 85 #[.val (.int p1), .val (.int p2), .val (.int p3), .val (.long q4), .second, .val (.int pt), .val (.int (Int32.ofNat t)), .val (.ref b1)] [(.int ((((q4.toUInt64 >>> ((48 : Int32) &&& 0x3f).toInt64.toUInt64).toInt64).toInt32).toInt8.toInt32)), (.int (6 : Int32)), (.ref b1)])) rfl rfl (hb hby at_85)
  have Zs := Nat.le_trans Zs (Nat.le_of_eq (Wr.size W19).symm)
  have B_b1 := B_b1'
  clear B_b1'
  have N19 := Fr.snoc X19 N18 f_b1
  refine Ends.to (T' := T19) (g' := (mkF m 86 #[.val (.int p1), .val (.int p2), .val (.int p3), .val (.long q4), .second, .val (.int pt), .val (.int (Int32.ofNat t)), .val (.ref b1)] [])) (fun tt_ kk_ => st19 tt_ kk_) ?_
  refine Ends.to (T' := T19) (g' := (mkF m 88 #[.val (.int p1), .val (.int p2), .val (.int p3), .val (.long q4), .second, .val (.int pt), .val (.int (Int32.ofNat t)), .val (.ref b1)] [(.ref b1)])) (fun tt_ kk_ => XS.aload X19.here hx rfl (hb hby at_86) rfl rfl kk_) ?_
  refine Ends.to (T' := T19) (g' := (mkF m 90 #[.val (.int p1), .val (.int p2), .val (.int p3), .val (.long q4), .second, .val (.int pt), .val (.int (Int32.ofNat t)), .val (.ref b1)] [(.int (7 : Int32)), (.ref b1)])) (fun tt_ kk_ => XS.bipush X19.here hx rfl (hb hby at_88) kk_) ?_
  refine Ends.to (T' := T19) (g' := (mkF m 91 #[.val (.int p1), .val (.int p2), .val (.int p3), .val (.long q4), .second, .val (.int pt), .val (.int (Int32.ofNat t)), .val (.ref b1)] [(.long q4), (.int (7 : Int32)), (.ref b1)])) (fun tt_ kk_ => XS.lloadN X19.here hx rfl (hb hby at_90) rfl kk_) ?_
  refine Ends.to (T' := T19) (g' := (mkF m 93 #[.val (.int p1), .val (.int p2), .val (.int p3), .val (.long q4), .second, .val (.int pt), .val (.int (Int32.ofNat t)), .val (.ref b1)] [(.int (56 : Int32)), (.long q4), (.int (7 : Int32)), (.ref b1)])) (fun tt_ kk_ => XS.bipush X19.here hx rfl (hb hby at_91) kk_) ?_
  refine Ends.to (T' := T19) (g' := (mkF m 94 #[.val (.int p1), .val (.int p2), .val (.int p3), .val (.long q4), .second, .val (.int pt), .val (.int (Int32.ofNat t)), .val (.ref b1)] [(.long ((q4.toUInt64 >>> ((56 : Int32) &&& 0x3f).toInt64.toUInt64).toInt64)), (.int (7 : Int32)), (.ref b1)])) (fun tt_ kk_ => XS.lushr X19.here hx rfl (hb hby at_93) rfl kk_) ?_
  refine Ends.to (T' := T19) (g' := (mkF m 95 #[.val (.int p1), .val (.int p2), .val (.int p3), .val (.long q4), .second, .val (.int pt), .val (.int (Int32.ofNat t)), .val (.ref b1)] [(.int (((q4.toUInt64 >>> ((56 : Int32) &&& 0x3f).toInt64.toUInt64).toInt64).toInt32)), (.int (7 : Int32)), (.ref b1)])) (fun tt_ kk_ => XS.l2i X19.here hx rfl (hb hby at_94) rfl kk_) ?_
  refine Ends.to (T' := T19) (g' := (mkF m 96 #[.val (.int p1), .val (.int p2), .val (.int p3), .val (.long q4), .second, .val (.int pt), .val (.int (Int32.ofNat t)), .val (.ref b1)] [(.int ((((q4.toUInt64 >>> ((56 : Int32) &&& 0x3f).toInt64.toUInt64).toInt64).toInt32).toInt8.toInt32)), (.int (7 : Int32)), (.ref b1)])) (fun tt_ kk_ => XS.i2b X19.here hx rfl (hb hby at_95) rfl kk_) ?_
  obtain ⟨T20, h20, X20, e20, W20, B_b1', st20⟩ := BA.stB X19 hx hZ e19 B_b1 (j := (7 : Int32)) (i := 7) (by decide) rfl (by decide) (g := (mkF m 96 #[.val (.int p1), .val (.int p2), .val (.int p3), .val (.long q4), .second, .val (.int pt), .val (.int (Int32.ofNat t)), .val (.ref b1)] [(.int ((((q4.toUInt64 >>> ((56 : Int32) &&& 0x3f).toInt64.toUInt64).toInt64).toInt32).toInt8.toInt32)), (.int (7 : Int32)), (.ref b1)])) rfl rfl (hb hby at_96)
  have Zs := Nat.le_trans Zs (Nat.le_of_eq (Wr.size W20).symm)
  have B_b1 := B_b1'
  clear B_b1'
  have N20 := Fr.snoc X20 N19 f_b1
  refine Ends.to (T' := T20) (g' := (mkF m 97 #[.val (.int p1), .val (.int p2), .val (.int p3), .val (.long q4), .second, .val (.int pt), .val (.int (Int32.ofNat t)), .val (.ref b1)] [])) (fun tt_ kk_ => st20 tt_ kk_) ?_
  obtain ⟨F, B_b1⟩ : ∃ F, BB Z h20 b1 8 F := ⟨_, B_b1⟩
  refine Ends.to (T' := T20) (g' := (mkF m 99 #[.val (.int p1), .val (.int p2), .val (.int p3), .val (.long q4), .second, .val (.int pt), .val (.int (Int32.ofNat t)), .val (.ref b1)] [(.int pt)])) (fun tt_ kk_ => XS.iload X20.here hx rfl (hb hby at_97) rfl kk_) ?_
  refine Ends.to (T' := T20) (g' := (mkF m 101 #[.val (.int p1), .val (.int p2), .val (.int p3), .val (.long q4), .second, .val (.int pt), .val (.int (Int32.ofNat t)), .val (.ref b1)] [(.ref b1), (.int pt)])) (fun tt_ kk_ => XS.aload X20.here hx rfl (hb hby at_99) rfl rfl kk_) ?_
  refine Ends.to (T' := T20) (g' := (mkF m 103 #[.val (.int p1), .val (.int p2), .val (.int p3), .val (.long q4), .second, .val (.int pt), .val (.int (Int32.ofNat t)), .val (.ref b1)] [(.int (Int32.ofNat t)), (.ref b1), (.int pt)])) (fun tt_ kk_ => XS.iload X20.here hx rfl (hb hby at_101) rfl kk_) ?_
  obtain ⟨_, _, ⟨T21, L21, k21, n21⟩, -, X21, ⟨Lc21, hQ21, l21, y21, z21⟩, st21⟩ := Jvm.LawKit.callS X20 hx (y := (⟨"com/example/predicate/predicate/document/Utf8", "encode", "(I[BI)I"⟩ : MethodName)) hown (mvT hZ (hw _ (List.mem_of_getElem? (i := 6) rfl))) (mvT hZ (hw _ (List.mem_of_getElem? (i := 7) rfl))) (mvT hZ (hw _ (List.mem_of_getElem? (i := 8) rfl))) (mvT hZ (hw _ (List.mem_of_getElem? (i := 9) rfl))) (by decide) (backOf (W := 0) (rm2 l Z a0 hw [] pt b1 t F h20 n0 Zs ht B_b1 f_b1) hZ (hw _ (List.mem_of_getElem? (i := 9) rfl)) (hw _ (List.mem_of_getElem? (i := 8) rfl)) (by decide) (by decide)) (g := (mkF m 103 #[.val (.int p1), .val (.int p2), .val (.int p3), .val (.long q4), .second, .val (.int pt), .val (.int (Int32.ofNat t)), .val (.ref b1)] [(.int (Int32.ofNat t)), (.ref b1), (.int pt)])) rfl (by rw [hml]; rfl) (argsL := [(.int pt), (.ref b1), (.int (Int32.ofNat t))]) (rest := []) (lenOf pd_2 rfl) rfl (by show 2 * 0 + _ ≤ _; exact Nat.le_of_eq rfl) (hb hby at_103) (fun _ _ => ⟨rfl, e20, (by decide : 1 + 0 ≤ _), (by decide : 8 + 0 ≤ _)⟩)
  dsimp only [Pt.U, Pt.locs, Pt.cells, Pt.slots] at X21 l21 y21 z21 st21 hQ21
  subst l21 y21 z21
  obtain ⟨rfl, N21q, K21, G21⟩ := hQ21
  have N21 := Fr.app N20 N21q
  have Zs := Nat.le_trans Zs K21.1
  have B_b1 := G21
  refine Ends.to (T' := T21) (g' := (mkF m 106 #[.val (.int p1), .val (.int p2), .val (.int p3), .val (.long q4), .second, .val (.int pt), .val (.int (Int32.ofNat t)), .val (.ref b1)] [(.int (Int32.ofNat (t + own_len pt)))])) (fun tt_ kk_ => st21 tt_ kk_) ?_
  refine Ends.to (T' := T21) (g' := (mkF m 107 #[.val (.int p1), .val (.int p2), .val (.int p3), .val (.long q4), .second, .val (.int pt), .val (.int (Int32.ofNat t)), .val (.ref b1)] [])) (fun tt_ kk_ => XS.pop X21.here hx rfl (hb hby at_106) rfl rfl kk_) ?_
  refine Ends.to (T' := T21) (g' := (mkF m 109 #[.val (.int p1), .val (.int p2), .val (.int p3), .val (.long q4), .second, .val (.int pt), .val (.int (Int32.ofNat t)), .val (.ref b1)] [(.ref b1)])) (fun tt_ kk_ => XS.aload X21.here hx rfl (hb hby at_107) rfl rfl kk_) ?_
  refine Ends.to (T' := T21) (g' := (mkF m 111 #[.val (.int p1), .val (.int p2), .val (.int p3), .val (.long q4), .second, .val (.int pt), .val (.int (Int32.ofNat t)), .val (.ref b1)] [(.int (Int32.ofNat t)), (.ref b1)])) (fun tt_ kk_ => XS.iload X21.here hx rfl (hb hby at_109) rfl kk_) ?_
  obtain ⟨_, _, ⟨T22, L22, k22, n22⟩, -, X22, ⟨Lc22, hQ22, l22, y22, z22⟩, st22⟩ := Jvm.LawKit.callS X21 hx (y := (⟨"com/example/predicate/predicate/document/Utf8", "codePoint", "([BI)I"⟩ : MethodName)) hown (mvT hZ (hw _ (List.mem_of_getElem? (i := 10) rfl))) (mvT hZ (hw _ (List.mem_of_getElem? (i := 11) rfl))) (mvT hZ (hw _ (List.mem_of_getElem? (i := 8) rfl))) (mvT hZ (hw _ (List.mem_of_getElem? (i := 12) rfl))) (by decide) (backOf (W := 0) (rm3 l Z a0 hw [] b1 t (own_enc pt t F) T21.heap n0 Zs ht B_b1) hZ (hw _ (List.mem_of_getElem? (i := 12) rfl)) (hw _ (List.mem_of_getElem? (i := 8) rfl)) (by decide) (by decide)) (g := (mkF m 111 #[.val (.int p1), .val (.int p2), .val (.int p3), .val (.long q4), .second, .val (.int pt), .val (.int (Int32.ofNat t)), .val (.ref b1)] [(.int (Int32.ofNat t)), (.ref b1)])) rfl (by rw [hml]; rfl) (argsL := [(.ref b1), (.int (Int32.ofNat t))]) (rest := []) (lenOf pd_3 rfl) rfl (by show 2 * 0 + _ ≤ _; exact Nat.le_of_eq rfl) (hb hby at_111) (fun _ _ => ⟨rfl, rfl, (by decide : 1 + 0 ≤ _), (by decide : 8 + 0 ≤ _)⟩)
  dsimp only [Pt.U, Pt.locs, Pt.cells, Pt.slots] at X22 l22 y22 z22 st22 hQ22
  subst l22 y22 z22
  obtain ⟨rfl, N22q, e22q⟩ := hQ22
  have N22 := Fr.app N21 N22q
  refine Ends.to (T' := T22) (g' := (mkF m 114 #[.val (.int p1), .val (.int p2), .val (.int p3), .val (.long q4), .second, .val (.int pt), .val (.int (Int32.ofNat t)), .val (.ref b1)] [(.int (own_cp (own_enc pt t F) t))])) (fun tt_ kk_ => st22 tt_ kk_) ?_
  refine Ends.to (T' := T22) (g' := (mkF m 116 #[.val (.int p1), .val (.int p2), .val (.int p3), .val (.long q4), .second, .val (.int pt), .val (.int (Int32.ofNat t)), .val (.ref b1)] [(.int pt), (.int (own_cp (own_enc pt t F) t))])) (fun tt_ kk_ => XS.iload X22.here hx rfl (hb hby at_114) rfl kk_) ?_
  refine Ends.to (T' := T22) (g' := (mkF m 119 #[.val (.int p1), .val (.int p2), .val (.int p3), .val (.long q4), .second, .val (.int pt), .val (.int (Int32.ofNat t)), .val (.ref b1)] [])) (fun tt_ kk_ => XS.icmpNo X22.here hx rfl (hb hby at_116) rfl (teq (own_round hr t F)).2 kk_) ?_
  refine Ends.to (T' := T22) (g' := (mkF m 120 #[.val (.int p1), .val (.int p2), .val (.int p3), .val (.long q4), .second, .val (.int pt), .val (.int (Int32.ofNat t)), .val (.ref b1)] [(.int (1 : Int32))])) (fun tt_ kk_ => XS.iconst X22.here hx rfl (hb hby at_119) kk_) ?_
  refine Ends.to (T' := T22) (g' := (mkF m 124 #[.val (.int p1), .val (.int p2), .val (.int p3), .val (.long q4), .second, .val (.int pt), .val (.int (Int32.ofNat t)), .val (.ref b1)] [(.int (1 : Int32))])) (fun tt_ kk_ => XS.goto X22.here hx rfl (pc0 := 120) (pc' := 124) rfl (hb hby at_120) (by decide) (by decide) kk_) ?_
  exact Ends.retN (t := .boolean) (by simp) X22 hx hret (hb hby at_124) hlk (by decide) (by decide) ⟨by decide, N22⟩
set_option maxRecDepth 65536 in
set_option maxHeartbeats 40000000 in
theorem comes_1 {Post : Tables → Env → Array Value → State → Outcome → State → Prop} (hpost : ∀ tb e args s v u, (limb_1_1.after args s (.returned v) u = true ∧ limb_1_2.after args s (.returned v) u = true ∧ True) → FrameEnd s (.returned v) u (Jvm.fieldLocs frame_1_writes args s ++ Jvm.arrayLocs frame_1_arrays args s ++ Jvm.staticLocs frame_1_statics s) 16 128 → Post tb e args s (.returned v) u) :
    ArmFor flags0 classFile x code maxLocals ret World_1 tables_1 room_1 Calls_1 rest_1 Pre_1 Post := by
  intro l hfl _ _ p e ha hc hk s m args below hf hA hF happ hP
  obtain ⟨hcalls, hrest, hpre⟩ := hP
  obtain ⟨-, -, -, hnamed, -, -, -, hat⟩ := (Spec.applies_iff hf).mp happ
  obtain ⟨hg, hn⟩ := and_e (Cond.before_iff.mp (show (Jvm.Cond.and given_1 narrow_1).before args s = true from hpre))
  obtain ⟨hcount, t0⟩ := and_e hg
  obtain ⟨k0, t1⟩ := and_e t0
  obtain ⟨k1, t2⟩ := and_e t1
  obtain ⟨k2, t3⟩ := and_e t2
  obtain ⟨w0, w1, w2, w3, rfl⟩ : ∃ w0 w1 w2 w3 : Value, args = #[w0, w1, w2, w3] := by
    have hs : args.size = 4 := by simpa [Cond.value, given_1] using hcount
    obtain ⟨L⟩ := args
    match L, hs with
    | [w0, w1, w2, w3], _ => exact ⟨w0, w1, w2, w3, rfl⟩
  have hw := fun d (hd : d ∈ tables_1) => atoms_spec (ws := Jvm.Cond.code x code maxLocals ret :: tables_1) hat d (List.mem_cons_of_mem _ hd)
  obtain ⟨i0, ei0⟩ := is_v k0
  obtain rfl : w0 = (.int i0) := Option.some.inj ei0
  obtain ⟨i1, ei1⟩ := is_v k1
  obtain rfl : w1 = (.int i1) := Option.some.inj ei1
  obtain ⟨i2, ei2⟩ := is_v k2
  obtain rfl : w2 = (.int i2) := Option.some.inj ei2
  obtain ⟨i3, ei3⟩ := isL_v t3
  obtain rfl : w3 = (.long i3) := Option.some.inj ei3
  obtain ⟨n, o, h1, h2, h3, _, L, rfl, ⟨rfl, N⟩, hq⟩ := rm0 l s _ hw tables_1 i0 i1 i2 i3 s.heap s.heap.size (Nat.le_refl _) p e ha hc hk s m _ below hf ((Spec.applies_iff_loose hf).mp happ).1 ⟨rfl, State.Warmed39.refl s, rfl⟩ trivial
  refine ⟨n, _, h1, h2, h3, hpost _ _ _ _ _ _ ⟨Cond.after_iff.mpr rfl, Cond.after_iff.mpr (eq_i res_at (Term.int_eval (1)) rfl), trivial⟩ ⟨hq.1, hq.2.1, (hq.2.2.sift fun y hy => Or.inr (N y hy)).mono (by decide) (by decide)⟩⟩
theorem main_1_1 : Claimed_1_1 := comes_1 fun _ _ _ _ _ _ h hF => ⟨h.1, hF⟩
theorem main_1_2 : Claimed_1_2 := comes_1 fun _ _ _ _ _ _ h hF => ⟨h.2.1, hF⟩
end Jvm.Pilot.@@N@@
namespace Jvm.Pilot.@@N@@
open Jvm Jvm.ClassFile Sem Op Lib Jvm.Free Jvm.Stand Jvm.Pilot.@@N@@.Jvm.D
/-! MADE BY PROGRAM (witnessworld.py) out of the Statement's table words and the real class files: 9 classes; the members and pool entries that the words name. The judged class is class 1, her method 2. -/
namespace start1
open Jvm.ClassFile
def u (s : String) : CpInfo := .utf8 (stringToUtf16 s)
/-- a pool by its gaps: so many unusable entries, then the entry; so many at the end -/
def gap : Nat → List CpInfo → List CpInfo
  | 0, r => r
  | n + 1, r => .unusable :: gap n r
def poolList (es : List (Nat × CpInfo)) (last : Nat) : List CpInfo := es.foldr (fun e r => gap e.1 (e.2 :: r)) (gap last [])
def pool (es : List (Nat × CpInfo)) (last : Nat) : Array CpInfo := ⟨poolList es last⟩
def fileOf (pool : Array CpInfo) (this : Nat) (attrs : Array Attribute := #[]) (ms : Array MethodInfo := #[]) (fl : Nat := 33) (sup : Nat := 0) (ifs : Array Nat := #[]) (fds : Array FieldInfo := #[]) : ClassFile where
  minorVersion := 0
  majorVersion := 65
  constantPool := pool
  accessFlags := fl
  thisClass := this
  superClass := sup
  interfaces := ifs
  fields := fds
  methods := ms
  attributes := attrs
def plain (name : String) (sup : Option ClassId) : Class where
  name := name
  kind := .ordinary
  loader := none
  accessFlags := 33
  super := sup
  interfaces := #[]
  cf := none
  fields := #[]
  methods := #[]
  instanceTypes := #[]
  staticTypes := #[]
  resolved := #[]
  callSites := []
  init := .initialized
  statics := none
  mirror := none

def pool0 : Array CpInfo := pool [(5, u "<init>"), (0, u "()V"), (1, .class_ 10), (1, u "java/lang/Object")] 113

def k0m0 : Method := { name := "<init>", desc := "()V", sig := { parameters := [], returnType := none }, accessFlags := 1, code := none }
/-- java/lang/Object -/
def k0 : Class := { plain "java/lang/Object" none with
  accessFlags := 33
  interfaces := #[]
  cf := some (fileOf pool0 8 #[] #[{ accessFlags := 1, nameIndex := 5, descriptorIndex := 6, attributes := #[] }] 33 0 #[] #[])
  fields := #[]
  methods := #[k0m0]
  instanceTypes := #[]
  staticTypes := #[]
  resolved := Array.replicate 124 none
  statics := none }

def pool1 : Array CpInfo := pool [(2, .class_ 4), (1, u "java/lang/Object"), (0, u "<init>"), (0, u "()V"), (0, .integer 2147483647), (0, .integer 61440), (0, .integer 53248), (0, .integer 57344), (0, .integer 65536), (0, .integer 1048576), (0, .methodref 14 15), (0, .class_ 16), (0, .nameAndType 17 18), (0, u "com/example/predicate/predicate/document/Utf8CodePointPinLaw"), (0, u "pointOf"), (0, u "(II)I"), (0, .methodref 20 21), (0, .class_ 22), (0, .nameAndType 23 24), (0, u "com/example/predicate/predicate/document/Utf8"), (0, u "encode"), (0, u "(I[BI)I"), (0, .methodref 20 26), (0, .nameAndType 27 28), (0, u "codePoint"), (0, u "([BI)I"), (3, u "law"), (0, u "(IIIJ)Z")] 4

def k1m0 : Method := { name := "<init>", desc := "()V", sig := { parameters := [], returnType := none }, accessFlags := 2, code := none }
def k1c1 : Code := { maxStack := 3, maxLocals := 6, code := method_2_code, exceptionTable := #[], attributes := #[] }
def k1m1 : Method := { name := "pointOf", desc := "(II)I", sig := { parameters := [.int, .int], returnType := some .int }, accessFlags := 10, code := some k1c1 }
def k1c2 : Code := { maxStack := 5, maxLocals := 8, code := code, exceptionTable := #[], attributes := #[] }
def k1m2 : Method := { name := "law", desc := "(IIIJ)Z", sig := { parameters := [.int, .int, .int, .long], returnType := some .boolean }, accessFlags := 9, code := some k1c2 }
/-- com/example/predicate/predicate/document/Utf8CodePointPinLaw -/
def k1 : Class := { plain "com/example/predicate/predicate/document/Utf8CodePointPinLaw" (some 0) with
  accessFlags := 49
  interfaces := #[]
  cf := some (fileOf pool1 14 #[] #[{ accessFlags := 2, nameIndex := 5, descriptorIndex := 6, attributes := #[] }, { accessFlags := 10, nameIndex := 17, descriptorIndex := 18, attributes := #[] }, { accessFlags := 9, nameIndex := 32, descriptorIndex := 33, attributes := #[] }] 49 2 #[] #[])
  fields := #[]
  methods := #[k1m0, k1m1, k1m2]
  instanceTypes := #[]
  staticTypes := #[]
  resolved := Array.replicate 38 none
  statics := none }

def pool2 : Array CpInfo := pool [(2, .class_ 4), (1, u "java/lang/Object"), (0, u "<init>"), (0, u "()V"), (0, .integer 65536), (1, .class_ 11), (1, u "com/example/predicate/predicate/document/Utf8"), (0, u "LONGS"), (0, u "Ljava/lang/invoke/VarHandle;"), (53, u "HIGHS"), (0, u "J"), (1, u "CASES"), (2, u "ONES"), (0, u "LOWS"), (2, u "encode"), (0, u "(I[BI)I"), (1, u "codePoint"), (0, u "([BI)I")] 17

def k2m0 : Method := { name := "<init>", desc := "()V", sig := { parameters := [], returnType := none }, accessFlags := 2, code := none }
def k2c1 : Code := { maxStack := 5, maxLocals := 4, code := prog_39_method_2_code, exceptionTable := #[], attributes := #[] }
def k2m1 : Method := { name := "encode", desc := "(I[BI)I", sig := { parameters := [.int, (.array .byte), .int], returnType := some .int }, accessFlags := 8, code := some k2c1 }
def k2c2 : Code := { maxStack := 4, maxLocals := 4, code := prog_39_method_3_code, exceptionTable := #[], attributes := #[] }
def k2m2 : Method := { name := "codePoint", desc := "([BI)I", sig := { parameters := [(.array .byte), .int], returnType := some .int }, accessFlags := 8, code := some k2c2 }
/-- com/example/predicate/predicate/document/Utf8 -/
def k2 : Class := { plain "com/example/predicate/predicate/document/Utf8" (some 0) with
  accessFlags := 48
  interfaces := #[]
  cf := some (fileOf pool2 9 #[] #[{ accessFlags := 2, nameIndex := 5, descriptorIndex := 6, attributes := #[] }, { accessFlags := 8, nameIndex := 77, descriptorIndex := 78, attributes := #[] }, { accessFlags := 8, nameIndex := 80, descriptorIndex := 81, attributes := #[] }] 48 2 #[] #[{ accessFlags := 26, nameIndex := 12, descriptorIndex := 13, attributes := #[] }, { accessFlags := 24, nameIndex := 67, descriptorIndex := 68, attributes := #[] }, { accessFlags := 24, nameIndex := 70, descriptorIndex := 68, attributes := #[] }, { accessFlags := 26, nameIndex := 73, descriptorIndex := 68, attributes := #[] }, { accessFlags := 26, nameIndex := 74, descriptorIndex := 68, attributes := #[] }])
  fields := #[{ name := "LONGS", type := (.object "java/lang/invoke/VarHandle"), accessFlags := 26, slot := 0, constantValue := 0 }, { name := "HIGHS", type := .long, accessFlags := 24, slot := 1, constantValue := 0 }, { name := "CASES", type := .long, accessFlags := 24, slot := 2, constantValue := 0 }, { name := "ONES", type := .long, accessFlags := 26, slot := 3, constantValue := 0 }, { name := "LOWS", type := .long, accessFlags := 26, slot := 4, constantValue := 0 }]
  methods := #[k2m0, k2m1, k2m2]
  instanceTypes := #[]
  staticTypes := #[(.object "java/lang/invoke/VarHandle"), .long, .long, .long, .long]
  resolved := Array.replicate 99 none
  statics := none }

def pool3 : Array CpInfo := pool [(1, u "java/lang/Cloneable"), (0, .class_ 1), (0, u "java/lang/Object"), (0, .class_ 3)] 3

/-- java/lang/Cloneable -/
def k3 : Class := { plain "java/lang/Cloneable" (some 0) with
  accessFlags := 1537
  interfaces := #[]
  cf := some (fileOf pool3 2 #[] #[] 1537 4 #[] #[])
  fields := #[]
  methods := #[]
  instanceTypes := #[]
  staticTypes := #[]
  resolved := Array.replicate 8 none
  statics := none }

def pool4 : Array CpInfo := pool [(1, u "java/io/Serializable"), (0, .class_ 1), (0, u "java/lang/Object"), (0, .class_ 3)] 3

/-- java/io/Serializable -/
def k4 : Class := { plain "java/io/Serializable" (some 0) with
  accessFlags := 1537
  interfaces := #[]
  cf := some (fileOf pool4 2 #[] #[] 1537 4 #[] #[])
  fields := #[]
  methods := #[]
  instanceTypes := #[]
  staticTypes := #[]
  resolved := Array.replicate 8 none
  statics := none }

/-- the primitive byte -/
def k5 : Class := { plain "byte" none with kind := .primitive 'B', accessFlags := 0x411 }
/-- [B -/
def k6 : Class := { plain "[B" (some 0) with kind := .array 5 .byte, interfaces := #[3, 4], accessFlags := 1041 }

/-- the primitive int -/
def k7 : Class := { plain "int" none with kind := .primitive 'I', accessFlags := 0x411 }
/-- [I -/
def k8 : Class := { plain "[I" (some 0) with kind := .array 7 .int, interfaces := #[3, 4], accessFlags := 1041 }

def heap : Heap := #[]
def classes : Array Class := #[k0, k1, k2, k3, k4, k5, k6, k7, k8]
def interned : List (Array UInt16 × Addr) := []
def slotsUsed : Nat := 0
def theMethod : MethodId := ⟨1, 2⟩
def args0 : Array Value := #[.int 1, .int 300, .int 2, .long 7]
def aboutOver (below : List Frame) : State where
  vm := { classes := classes, interned := interned.toArray }
  heap := heap
  slotsUsed := slotsUsed
  threads := #[{ frames := .invoking theMethod args0 :: below }]
def below0 : List Frame := [.native { method := ⟨0, 0⟩, args := #[] }]
def about1 : State := aboutOver below0
def p0 : Program := .bare "" "" ""
def e0 : Env := launch0.env 0 0 0
theorem w_frames : about1.frames = Frame.invoking theMethod args0 :: below0 := rfl
set_option maxRecDepth 65536 in
theorem w_args : argsFit about1.vm theMethod args0 = true := by decide +kernel
set_option maxRecDepth 65536 in
theorem w_heap : heapFits about1 = true := by decide +kernel
set_option maxRecDepth 65536 in
theorem w_runnable : about1.curStatus? = some .runnable := by decide +kernel
set_option maxRecDepth 65536 in
theorem w_alone : about1.alone = true := by decide +kernel
set_option maxRecDepth 65536 in
theorem w_named : about1.methodNamed? x = some theMethod := by decide +kernel
set_option maxRecDepth 65536 in
theorem w_hears : about1.hears theMethod below0 = true := by decide +kernel
set_option maxRecDepth 65536 in
theorem w_ripe : about1.ripe theMethod args0 below0 = true := by decide +kernel
theorem w_running : about1.status = .running := rfl
set_option maxRecDepth 65536 in
theorem w_room : about1.hasRoom e0.platform room_1 = true :=
  launch0.hasRoom_least _ room_1 (by decide +kernel) (by decide +kernel) (by decide +kernel) (by decide +kernel) (by decide +kernel) (by decide +kernel)
theorem allAtoms_all (ts : List Jvm.Cond) (a : Array Jvm.Value) (st : Jvm.State) : (allAtoms ts).before a st = ts.all (fun c => c.before a st) := by
  induction ts with
  | nil => rfl
  | cons c t ih =>
    show (Jvm.Cond.and c (allAtoms t)).before a st = _
    rw [Jvm.Cond.before_and, ih, List.all_cons]
def words1 : List Jvm.Cond := Jvm.Cond.code x code maxLocals ret :: tables_1
/-- a 'code' word, met by the world's own term for the bytes: nothing is compared byte by byte -/
theorem code_word {y : MethodName} {bytes : ByteArray} {mx : Nat} {rt : Option FieldType} {a : Array Value} {s : State} {m : MethodId} {meth : Method} {c : Code} (h1 : s.methodNamed? y = some m) (h2 : s.vm.method? m = some meth) (h3 : meth.code = some c) (h4 : c.code = bytes)
    (h5 : (c.maxLocals == mx && c.exceptionTable.isEmpty && decide (c.maxStack ≤ mostOperands) && decide (meth.sig.returnType = rt) && !meth.locks && decide (parseMethodDescriptor y.desc = some meth.sig)) = true) : (Jvm.Cond.code y bytes mx rt).before a s = true := by
  simp only [Bool.and_eq_true, beq_iff_eq, Bool.not_eq_true', decide_eq_true_eq] at h5
  obtain ⟨⟨⟨⟨⟨g1, g2⟩, g3⟩, g4⟩, g5⟩, g6⟩ := h5
  simp [Cond.before, Cond.holds, Cond.value, h1, h2, h3, h4, g1, g2, g3, g4, g5, g6]
def isCode : Jvm.Cond → Bool
  | .code _ _ _ _ => true
  | _ => false
theorem all_split {L : List Jvm.Cond} {P : Jvm.Cond → Bool} (h1 : L.all (fun c => isCode c || P c) = true) (h2 : ∀ c ∈ L.filter isCode, P c = true) : L.all P = true := by
  refine List.all_eq_true.mpr fun c hc => ?_
  have h := List.all_eq_true.mp h1 c hc
  rcases Bool.eq_false_or_eq_true (isCode c) with hi | hi
  · exact h2 c (List.mem_filter.mpr ⟨hc, hi⟩)
  · simpa [hi] using h
set_option maxRecDepth 65536 in
theorem w_c0 : (Jvm.Cond.code x code maxLocals ret).before args0 about1 = true := code_word (m := ⟨1, 2⟩) (meth := k1m2) (c := k1c2) (by decide +kernel) rfl rfl rfl (by decide +kernel)
set_option maxRecDepth 65536 in
theorem w_c1 : (Jvm.Cond.code ({ cls := "com/example/predicate/predicate/document/Utf8CodePointPinLaw", name := "pointOf", desc := "(II)I" } : Jvm.MethodName) method_2_code (6 : Nat) (Option.some Jvm.ClassFile.FieldType.int)).before args0 about1 = true := code_word (m := ⟨1, 1⟩) (meth := k1m1) (c := k1c1) (by decide +kernel) rfl rfl rfl (by decide +kernel)
set_option maxRecDepth 65536 in
theorem w_c2 : (Jvm.Cond.code ({ cls := "com/example/predicate/predicate/document/Utf8", name := "encode", desc := "(I[BI)I" } : Jvm.MethodName) prog_39_method_2_code (4 : Nat) (Option.some Jvm.ClassFile.FieldType.int)).before args0 about1 = true := code_word (m := ⟨2, 1⟩) (meth := k2m1) (c := k2c1) (by decide +kernel) rfl rfl rfl (by decide +kernel)
set_option maxRecDepth 65536 in
theorem w_c3 : (Jvm.Cond.code ({ cls := "com/example/predicate/predicate/document/Utf8", name := "codePoint", desc := "([BI)I" } : Jvm.MethodName) prog_39_method_3_code (4 : Nat) (Option.some Jvm.ClassFile.FieldType.int)).before args0 about1 = true := code_word (m := ⟨2, 2⟩) (meth := k2m2) (c := k2c2) (by decide +kernel) rfl rfl rfl (by decide +kernel)
def codes1 : List Jvm.Cond := [Jvm.Cond.code x code maxLocals ret, Jvm.Cond.code ({ cls := "com/example/predicate/predicate/document/Utf8CodePointPinLaw", name := "pointOf", desc := "(II)I" } : Jvm.MethodName) method_2_code (6 : Nat) (Option.some Jvm.ClassFile.FieldType.int), Jvm.Cond.code ({ cls := "com/example/predicate/predicate/document/Utf8", name := "encode", desc := "(I[BI)I" } : Jvm.MethodName) prog_39_method_2_code (4 : Nat) (Option.some Jvm.ClassFile.FieldType.int), Jvm.Cond.code ({ cls := "com/example/predicate/predicate/document/Utf8", name := "codePoint", desc := "([BI)I" } : Jvm.MethodName) prog_39_method_3_code (4 : Nat) (Option.some Jvm.ClassFile.FieldType.int)]
set_option maxRecDepth 65536 in
theorem codes_eq : words1.filter isCode = codes1 := rfl
theorem w_codes : ∀ c ∈ words1.filter isCode, c.before args0 about1 = true := by
  rw [codes_eq]
  intro c hc
  simp only [codes1, List.mem_cons, List.not_mem_nil, or_false] at hc
  rcases hc with rfl | rfl | rfl | rfl
  · exact w_c0
  · exact w_c1
  · exact w_c2
  · exact w_c3
set_option maxRecDepth 65536 in
theorem w_t1 : words1.all (fun c => isCode c || c.before args0 about1) = true := by decide +kernel
theorem w_tables : (allAtoms (Jvm.Cond.code x code maxLocals ret :: tables_1)).before args0 about1 = true := by
  rw [allAtoms_all]
  show words1.all (fun c => c.before args0 about1) = true
  refine all_split ?_ w_codes
  rw [w_t1]
set_option maxRecDepth 65536 in
theorem w_case : (Jvm.Cond.and given_1 narrow_1).before args0 about1 = true := by decide +kernel
theorem w_applies : (headSpec (Jvm.Cond.code x code maxLocals ret :: tables_1) room_1).applies x e0.platform about1 = true :=
  (Spec.applies_iff w_frames).mpr ⟨w_running, w_runnable, w_alone, w_named, w_hears, w_ripe, w_room, w_tables⟩
theorem atStart : AtStart classFile x code maxLocals ret World_1 tables_1 room_1 Calls_1 rest_1 Pre_1 launch0 p0 e0 about1 theMethod args0 below0 :=
  ⟨lists_1, trivial, launch0.admits_env _ _ _, launch0.least_env, fairChoices_fair.cas, fairChoices_fair.clock, w_frames, w_args, w_heap, w_applies, trivial, trivial, w_case⟩
end start1
theorem witness_1 : WitnessClaimed_1 := ⟨start1.p0, start1.e0, start1.about1, start1.theMethod, start1.args0, start1.below0, start1.atStart⟩
end Jvm.Pilot.@@N@@
