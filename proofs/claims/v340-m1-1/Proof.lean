import JvmDerived
import JvmDerived.Pilot.@@N@@Statement
import JvmDerived.Pilot.@@N@@Code
set_option linter.unusedVariables false
set_option linter.unusedSimpArgs false
@@BLOCK:NumsL.lean.txt@@
namespace Jvm.Pilot.@@N@@
open Jvm Jvm.ClassFile Sem Op Lib Jvm.Free Jvm.Stand Jvm.LawKit Jvm.RoadKit Bundle Jvm.Pilot.@@N@@.Jvm.D
/-! ## Our kit: from a frame the run comes to an end of which Q speaks -/
def Ends (p : Program) (e : Env) (below : List Frame) (s : State) (C S : Nat) (Q : Option Value → Heap → List Loc → Prop) (T : State) (g : JFrame) : Prop :=
  ∃ s₂ o, Steps p.tables e below (T.setTop g) s₂ ∧ s₂.status = .running ∧ Ended s₂ below o ∧ ∃ v L, o = .returned v ∧ Q v s₂.heap L ∧ FrameEnd s o s₂ L C S
abbrev Pays (l : Launch) (y : MethodName) (bytes : ByteArray) (maxL : Nat) (rt : Option FieldType) (ws : List Jvm.Cond) (rm : Room) (as : Array Value) (Z : State) (h0 : Heap) (Q : Option Value → Heap → List Loc → Prop) : Prop :=
  MetFree l y (head1 (Jvm.Cond.code y bytes maxL rt :: ws) rm) (fun a U => a = as ∧ Z.Warmed39 U.vm ∧ U.heap = h0) (fun _ _ _ _ _ => True) (fun _ U o U' => ∃ v L, o = .returned v ∧ Q v U'.heap L ∧ FrameEnd U o U' L rm.cells rm.slots)
section Kit
variable {p : Program} {l : Launch} {e : Env} {R : Room} {s : State} {m : MethodId} {args : Array Value} {below : List Frame} {meth : Method} {c : Code} {T T' : State} {locs : List Loc} {cells slots : Nat} {Z : State} {h h' h0 : Heap} {C S : Nat} {Q : Option Value → Heap → List Loc → Prop} {g g' : JFrame} {pc : Nat} {Ls : Array Slot} {rest : List Value}
theorem Ends.to (k : ∀ t, Steps p.tables e below (T'.setTop g') t → Steps p.tables e below (T.setTop g) t) (q : Ends p e below s C S Q T' g') : Ends p e below s C S Q T g := by
  obtain ⟨s₂, o, st, r⟩ := q
  exact ⟨s₂, o, k _ st, r⟩
theorem Ends.cast (k : g = g') (q : Ends p e below s C S Q T g') : Ends p e below s C S Q T g := k ▸ q
theorem Ends.retI {z : Int32} (X : Stand p l e R s m args below meth c T locs cells slots) (hx : p.tables.exec = Jvm.exec) (hret : meth.sig.returnType = some .int) (hd : decode c.code pc = .ok (.ireturn, 1)) (hlk : meth.locks = false) (hc : cells ≤ C) (hs : slots ≤ S) (q : Q (some (.int z)) T.heap locs) :
    Ends p e below s C S Q T (mkF m pc Ls (.int z :: rest)) := by
  obtain ⟨fs, hr, hrun, hended, hW, hsame⟩ := X.leave (v := some (.int z)) (fun h => by rw [hret] at h; cases h) hlk
  refine ⟨_, _, ?_, hrun, hended, _, _, rfl, q, ⟨_, rfl⟩, hW, hsame.mono hc hs⟩
  have hm' : T.vm.method? m = some meth := X.method'
  have hn : narrow .int (.int z) = .int z := rfl
  show Steps p.tables e below (T.setTop { method := m, pc := pc, locals := Ls, stack := _ :: rest, locked := none }) _
  jvm_step X.here [X.here.top, hx, hd, hm', hret, hn]
  first | (intro acts; rw [hr _ acts rfl rfl rfl]) | rw [hr _ _ rfl rfl rfl]
  exact Steps.refl _
theorem Ends.retN {z : Int32} {t : FieldType} (ht : t = .boolean ∨ t = .byte ∨ t = .char ∨ t = .short) (X : Stand p l e R s m args below meth c T locs cells slots) (hx : p.tables.exec = Jvm.exec) (hret : meth.sig.returnType = some t) (hd : decode c.code pc = .ok (.ireturn, 1)) (hlk : meth.locks = false) (hc : cells ≤ C) (hs : slots ≤ S) (q : Q (some (.int (nar t z))) T.heap locs) :
    Ends p e below s C S Q T (mkF m pc Ls (.int z :: rest)) := by
  obtain ⟨fs, hr, hrun, hended, hW, hsame⟩ := X.leave (v := some (.int (nar t z))) (fun h => by rw [hret] at h; cases h) hlk
  exact ⟨_, _, Jvm.RoadKit.retN X hx hret ht hd hr, hrun, hended, _, _, rfl, q, ⟨_, rfl⟩, hW, hsame.mono hc hs⟩
theorem Ends.retJ {z : Int64} (X : Stand p l e R s m args below meth c T locs cells slots) (hx : p.tables.exec = Jvm.exec) (hret : meth.sig.returnType = some .long) (hd : decode c.code pc = .ok (.lreturn, 1)) (hlk : meth.locks = false) (hc : cells ≤ C) (hs : slots ≤ S) (q : Q (some (.long z)) T.heap locs) :
    Ends p e below s C S Q T (mkF m pc Ls [.long z]) := by
  obtain ⟨fs, hr, hrun, hended, hW, hsame⟩ := X.leave (v := some (.long z)) (fun h => by rw [hret] at h; cases h) hlk
  exact ⟨_, _, X.lreturnOut hx hret hd hr, hrun, hended, _, _, rfl, q, ⟨_, rfl⟩, hW, hsame.mono hc hs⟩
theorem Ends.retV (X : Stand p l e R s m args below meth c T locs cells slots) (hx : p.tables.exec = Jvm.exec) (hret : meth.sig.returnType = none) (hd : decode c.code pc = .ok (.return_, 1)) (hlk : meth.locks = false) (hc : cells ≤ C) (hs : slots ≤ S) (q : Q none T.heap locs) :
    Ends p e below s C S Q T (mkF m pc Ls []) := by
  obtain ⟨fs, hr, hrun, hended, hW, hsame⟩ := X.leave (v := none) (fun _ => rfl) hlk
  exact ⟨_, _, X.returnOut hx hret hd hr, hrun, hended, _, _, rfl, q, ⟨_, rfl⟩, hW, hsame.mono hc hs⟩
theorem Ends.retA {a : Addr} {t : FieldType} (X : Stand p l e R s m args below meth c T locs cells slots) (hx : p.tables.exec = Jvm.exec) (hret : meth.sig.returnType = some (.array t)) (hd : decode c.code pc = .ok (.areturn, 1)) (hlk : meth.locks = false) (hc : cells ≤ C) (hs : slots ≤ S) (q : Q (some (.ref a)) T.heap locs) :
    Ends p e below s C S Q T (mkF m pc Ls (.ref a :: rest)) := by
  obtain ⟨fs, hr, hrun, hended, hW, hsame⟩ := X.leave (v := some (.ref a)) (fun h => by rw [hret] at h; cases h) hlk
  refine ⟨_, _, ?_, hrun, hended, _, _, rfl, q, ⟨_, rfl⟩, hW, hsame.mono hc hs⟩
  have hm' : T.vm.method? m = some meth := X.method'
  show Steps p.tables e below (T.setTop { method := m, pc := pc, locals := Ls, stack := _ :: rest, locked := none }) _
  jvm_step X.here [X.here.top, hx, hd, hm', hret, Value.isRef, FieldType.isReference]
  first | (intro acts; rw [hr _ acts rfl rfl rfl]) | rw [hr _ _ rfl rfl rfl]
  exact Steps.refl _
theorem Pays.of {y : MethodName} {bytes : ByteArray} {maxL : Nat} {rt : Option FieldType} {ws : List Jvm.Cond} {rm : Room} {as : Array Value} (hp : plainFor y = true)
    (body : ∀ (p : Program) (e : Env) (s : State) (m : MethodId) (below : List Frame) (meth : Method) (c : Code) (s₁ : State), p.tables.exec = Jvm.exec → c.code = bytes → c.maxLocals = maxL → s.vm.findClass y.cls = some m.cls → meth.name = y.name → meth.sig.returnType = rt → meth.locks = false → Z.Warmed39 s.vm →
      Stand p l e rm s m as below meth c s₁ [] 0 0 → s₁.heap = h0 → Ends p e below s rm.cells rm.slots Q s₁ (entryFrame m as maxL)) : Pays l y bytes maxL rt ws rm as Z h0 Q := by
  refine MetFree.of_bodySF hp hisR ?_
  intro p e s m args below meth c s₁ Bd hml0 hP hK
  obtain ⟨rfl, hZ, hh⟩ := hP
  exact body p e s m below meth c s₁ Bd.exec Bd.bytes hml0 (findClass_of_methodNamed Bd.named) (name_of_methodNamed Bd.named Bd.method).1 Bd.returns Bd.notSynchronized hZ (Stand.of_body Bd) (by rw [← hh, Bd.state]; rfl)
/-! ## An array by its values -/
def BA (Z : State) (h : Heap) (a : Addr) (ty : FieldType) (n : Nat) (f : Nat → Value) : Prop := ∃ cl : Cell, Arr Z h a cl ty ∧ cl.slots.size = n ∧ ∀ j, j < n → cl.slots[j]? = some (f j)
abbrev BB (Z : State) (h : Heap) (a : Addr) (n : Nat) (f : Nat → Int32) : Prop := BA Z h a .byte n (fun j => .int (f j))
abbrev BL (Z : State) (h : Heap) (a : Addr) (n : Nat) (f : Nat → Int64) : Prop := BA Z h a .long n (fun j => .long (f j))
def upd {α : Type} (f : Nat → α) (i : Nat) (x : α) : Nat → α := fun j => if j = i then x else f j
theorem upd_same {α : Type} (f : Nat → α) (i : Nat) (x : α) : upd f i x i = x := if_pos rfl
theorem upd_ne {α : Type} (f : Nat → α) {i j : Nat} (x : α) (q : j ≠ i) : upd f i x j = f j := if_neg q
variable {a b : Addr} {ty : FieldType} {n i sl : Nat} {f : Nat → Value} {v : Value} {ws : List Addr} {j x z : Int32}
theorem BA.ext (E : Ext h h') (B : BA Z h a ty n f) : BA Z h' a ty n f := by obtain ⟨cl, A, r⟩ := B; exact ⟨cl, A.ext E, r⟩
theorem BA.other (W : Wr h h' a sl v) (B : BA Z h b ty n f) (q : b ≠ a) : BA Z h' b ty n f := by obtain ⟨cl, A, r⟩ := B; exact ⟨cl, A.other W q, r⟩
theorem BA.keep (B : BA Z h a ty n f) (K : Keep h h' ws) (q : a ∉ ws) : BA Z h' a ty n f := by obtain ⟨cl, A, r⟩ := B; exact ⟨cl, ⟨K.2.1 a cl A.1 q, A.2⟩, r⟩
theorem BA.lt (B : BA Z h a ty n f) : a < h.size := by obtain ⟨cl, A, r⟩ := B; exact A.lt
theorem BA.congr {f' : Nat → Value} (B : BA Z h a ty n f) (q : ∀ j, j < n → f j = f' j) : BA Z h a ty n f' := by obtain ⟨cl, A, s, r⟩ := B; exact ⟨cl, A, s, fun j hj => (r j hj).trans (congrArg some (q j hj))⟩
theorem BA.set (W : Wr h h' a i v) (B : BA Z h a ty n f) (hi : i < n) : BA Z h' a ty n (upd f i v) := by
  obtain ⟨cl, A, s, r⟩ := B
  refine ⟨cl.setSlot i v, A.same W, by simp [Cell.setSlot, s], fun j hj => ?_⟩
  show (cl.slots.setIfInBounds i v)[j]? = _
  by_cases e : j = i
  · subst e
    rw [upd_same, Array.getElem?_setIfInBounds_self_of_lt (by rw [s]; exact hi)]
  · rw [upd_ne _ _ e, Array.getElem?_setIfInBounds_ne (Ne.symm e)]
    exact r j hj
theorem BA.inb {cl : Cell} (s : cl.slots.size = n) (h0 : ¬ j < 0) (hi : j.toNatClampNeg = i) (hn : i < n) : ¬ (j < 0 ∨ cl.slots.size ≤ j.toNatClampNeg) := by
  rintro (q | q)
  · exact h0 q
  · rw [hi, s] at q; exact absurd hn (Nat.not_lt.mpr q)
theorem BA.stB {f : Nat → Int32} (X : Stand p l e R s m args below meth c T locs cells slots) (hx : p.tables.exec = Jvm.exec) (hZ : Z.Warmed39 s.vm) (eT : T.heap = h) (B : BB Z h a n f) (h0 : ¬ j < 0) (hi : j.toNatClampNeg = i) (hn : i < n) (hg : g.method = m) (hs : g.stack = .int x :: .int j :: .ref a :: rest) (hd : decode c.code g.pc = .ok (.bastore, 1)) :
    ∃ T' h', Stand p l e R s m args below meth c T' (locs ++ [⟨a, j.toNatClampNeg⟩]) cells slots ∧ T'.heap = h' ∧ Wr h h' a j.toNatClampNeg (.int (nar .byte x)) ∧ BB Z h' a n (upd f i x.toInt8.toInt32) ∧ ∀ target, Steps p.tables e below (T'.setTop { g with pc := g.pc + 1, stack := rest }) target → Steps p.tables e below (T.setTop g) target := by
  obtain ⟨cl, A, s, r⟩ := id B
  obtain ⟨T', h', X', e', W, st⟩ := Jvm.RoadKit.stB X hx hZ eT A (BA.inb s h0 hi hn) hg hs hd
  refine ⟨T', h', X', e', W, ?_, st⟩
  rw [hi] at W
  refine (BA.set W B hn).congr fun j _ => ?_
  by_cases e : j = i
  · subst e; rw [upd_same, upd_same]; rfl
  · rw [upd_ne _ _ e, upd_ne _ _ e]
theorem BA.stL {f : Nat → Int64} {x : Int64} (X : Stand p l e R s m args below meth c T locs cells slots) (hx : p.tables.exec = Jvm.exec) (hZ : Z.Warmed39 s.vm) (eT : T.heap = h) (B : BL Z h a n f) (h0 : ¬ j < 0) (hi : j.toNatClampNeg = i) (hn : i < n) (hg : g.method = m) (hs : g.stack = .long x :: .int j :: .ref a :: rest) (hd : decode c.code g.pc = .ok (.lastore, 1)) :
    ∃ T' h', Stand p l e R s m args below meth c T' (locs ++ [⟨a, j.toNatClampNeg⟩]) cells slots ∧ T'.heap = h' ∧ Wr h h' a j.toNatClampNeg (.long x) ∧ BL Z h' a n (upd f i x) ∧ ∀ target, Steps p.tables e below (T'.setTop { g with pc := g.pc + 1, stack := rest }) target → Steps p.tables e below (T.setTop g) target := by
  obtain ⟨cl, A, s, r⟩ := id B
  obtain ⟨T', h', X', e', W, st⟩ := Jvm.RoadKit.stJ X hx hZ eT A (BA.inb s h0 hi hn) hg hs hd
  refine ⟨T', h', X', e', W, ?_, st⟩
  rw [hi] at W
  refine (BA.set W B hn).congr fun j _ => ?_
  by_cases e : j = i
  · subst e; rw [upd_same, upd_same]
  · rw [upd_ne _ _ e, upd_ne _ _ e]
theorem BA.ldB {f : Nat → Int32} (X : Stand p l e R s m args below meth c T locs cells slots) (hx : p.tables.exec = Jvm.exec) (hZ : Z.Warmed39 s.vm) (eT : T.heap = h) (B : BB Z h a n f) (h0 : ¬ j < 0) (hi : j.toNatClampNeg = i) (hn : i < n) (hg : g.method = m) (hs : g.stack = .int j :: .ref a :: rest) (hd : decode c.code g.pc = .ok (.baload, 1)) (target : State)
    (k : Steps p.tables e below (T.setTop { g with pc := g.pc + 1, stack := .int (f i) :: rest }) target) : Steps p.tables e below (T.setTop g) target := by
  obtain ⟨cl, A, s, r⟩ := id B
  exact X.baloadBytes hx (j := j) (v := .int (f i)) (by rw [eT]; exact A.1) (State.isArrayOf_alike hZ.alike A.2.1) A.2.2 (BA.inb s h0 hi hn) (by rw [hi]; exact r i hn) hg hs hd target k
theorem BA.ldL {f : Nat → Int64} (X : Stand p l e R s m args below meth c T locs cells slots) (hx : p.tables.exec = Jvm.exec) (hZ : Z.Warmed39 s.vm) (eT : T.heap = h) (B : BL Z h a n f) (h0 : ¬ j < 0) (hi : j.toNatClampNeg = i) (hn : i < n) (hg : g.method = m) (hs : g.stack = .int j :: .ref a :: rest) (hd : decode c.code g.pc = .ok (.laload, 1)) (target : State)
    (k : Steps p.tables e below (T.setTop { g with pc := g.pc + 1, stack := .long (f i) :: rest }) target) : Steps p.tables e below (T.setTop g) target := by
  obtain ⟨cl, A, s, r⟩ := id B
  exact X.laload hx (j := j) (v := .long (f i)) (by rw [eT]; exact A.1) (State.isArrayOf_alike hZ.alike A.2.1) A.2.2 (BA.inb s h0 hi hn) (by rw [hi]; exact r i hn) hg hs hd target k
theorem BA.len (X : Stand p l e R s m args below meth c T locs cells slots) (hx : p.tables.exec = Jvm.exec) (hZ : Z.Warmed39 s.vm) (eT : T.heap = h) (B : BA Z h a ty n f) (hz : n.toInt32 = z) (hg : g.method = m) (hs : g.stack = .ref a :: rest) (hd : decode c.code g.pc = .ok (.arraylength, 1)) (target : State)
    (k : Steps p.tables e below (T.setTop { g with pc := g.pc + 1, stack := .int z :: rest }) target) : Steps p.tables e below (T.setTop g) target := by
  obtain ⟨cl, A, s, r⟩ := B
  exact X.arraylength hx (by rw [eT]; exact A.1) (State.isArrayOf_alike hZ.alike A.2.1) hg hs hd target (by rw [s, hz]; exact k)
theorem BA.freshB {k : ClassId} (A : Arr Z h a (newA k .byte z) .byte) (q : z.toNatClampNeg = n) : BB Z h a n (fun _ => 0) := by
  refine ⟨_, A, (sz_new _ _ _).trans q, fun j hj => ?_⟩
  have hj' : j < z.toNatClampNeg := by rw [q]; exact hj
  simp [newA, hj', defaultValue]
theorem BA.freshL {k : ClassId} (A : Arr Z h a (newA k .long z) .long) (q : z.toNatClampNeg = n) : BL Z h a n (fun _ => 0) := by
  refine ⟨_, A, (sz_new _ _ _).trans q, fun j hj => ?_⟩
  have hj' : j < z.toNatClampNeg := by rw [q]; exact hj
  simp [newA, hj', defaultValue]
end Kit
theorem d1_0 : decode method_3_code 0 = .ok (.iload_n 0, 1) := by decide +kernel
theorem d1_1 : decode method_3_code 1 = .ok (.bipush (-128), 2) := by decide +kernel
theorem d1_3 : decode method_3_code 3 = .ok (.iand, 1) := by decide +kernel
theorem d1_4 : decode method_3_code 4 = .ok (.ifCond .ne 5, 3) := by decide +kernel
theorem d1_7 : decode method_3_code 7 = .ok (.iconst 1, 1) := by decide +kernel
theorem d1_8 : decode method_3_code 8 = .ok (.ireturn, 1) := by decide +kernel
theorem d1_9 : decode method_3_code 9 = .ok (.iload_n 0, 1) := by decide +kernel
theorem d1_10 : decode method_3_code 10 = .ok (.sipush (-16384), 3) := by decide +kernel
theorem d1_13 : decode method_3_code 13 = .ok (.iand, 1) := by decide +kernel
theorem d1_14 : decode method_3_code 14 = .ok (.ifCond .ne 5, 3) := by decide +kernel
theorem d1_17 : decode method_3_code 17 = .ok (.iconst 2, 1) := by decide +kernel
theorem d1_18 : decode method_3_code 18 = .ok (.ireturn, 1) := by decide +kernel
theorem d1_19 : decode method_3_code 19 = .ok (.iload_n 0, 1) := by decide +kernel
theorem d1_20 : decode method_3_code 20 = .ok (.ldc 24, 2) := by decide +kernel
theorem d1_22 : decode method_3_code 22 = .ok (.iand, 1) := by decide +kernel
theorem d1_23 : decode method_3_code 23 = .ok (.ifCond .ne 5, 3) := by decide +kernel
theorem d1_26 : decode method_3_code 26 = .ok (.iconst 3, 1) := by decide +kernel
theorem d1_27 : decode method_3_code 27 = .ok (.ireturn, 1) := by decide +kernel
theorem d1_28 : decode method_3_code 28 = .ok (.iload_n 0, 1) := by decide +kernel
theorem d1_29 : decode method_3_code 29 = .ok (.ldc 25, 2) := by decide +kernel
theorem d1_31 : decode method_3_code 31 = .ok (.iand, 1) := by decide +kernel
theorem d1_32 : decode method_3_code 32 = .ok (.ifCond .ne 5, 3) := by decide +kernel
theorem d1_35 : decode method_3_code 35 = .ok (.iconst 4, 1) := by decide +kernel
theorem d1_36 : decode method_3_code 36 = .ok (.ireturn, 1) := by decide +kernel
theorem d1_37 : decode method_3_code 37 = .ok (.iconst 5, 1) := by decide +kernel
theorem d1_38 : decode method_3_code 38 = .ok (.ireturn, 1) := by decide +kernel
theorem pn_1 : plainName "com/example/trieval/trieval/index/IndexFileWriteVarIntPinLaw" = true := by first | (simp [plainName, overriddenIn]; done) | decide +kernel
theorem pd_1 : parseMethodDescriptor "(I)I" = some ⟨[.int], some .int⟩ := by decide +kernel
theorem ef_1 (m : MethodId) (x0 : Int32) : entryFrame m #[(.int x0)] 1 = mkF m 0 #[.val (.int x0)] [] := by first | (simp [entryFrame, mkF, argsToLocals, Value.category]; done) | rfl
theorem d2_0 : decode prog_55_method_5_code 0 = .ok (.iload_n 1, 1) := by decide +kernel
theorem d2_1 : decode prog_55_method_5_code 1 = .ok (.istore_n 3, 1) := by decide +kernel
theorem d2_2 : decode prog_55_method_5_code 2 = .ok (.iload_n 2, 1) := by decide +kernel
theorem d2_3 : decode prog_55_method_5_code 3 = .ok (.istore 4, 2) := by decide +kernel
theorem d2_5 : decode prog_55_method_5_code 5 = .ok (.iload 4, 2) := by decide +kernel
theorem d2_7 : decode prog_55_method_5_code 7 = .ok (.bipush (-128), 2) := by decide +kernel
theorem d2_9 : decode prog_55_method_5_code 9 = .ok (.iand, 1) := by decide +kernel
theorem d2_10 : decode prog_55_method_5_code 10 = .ok (.ifCond .eq 29, 3) := by decide +kernel
theorem d2_13 : decode prog_55_method_5_code 13 = .ok (.aload_n 0, 1) := by decide +kernel
theorem d2_14 : decode prog_55_method_5_code 14 = .ok (.iload_n 3, 1) := by decide +kernel
theorem d2_15 : decode prog_55_method_5_code 15 = .ok (.iinc 3 1, 3) := by decide +kernel
theorem d2_18 : decode prog_55_method_5_code 18 = .ok (.iload 4, 2) := by decide +kernel
theorem d2_20 : decode prog_55_method_5_code 20 = .ok (.bipush 127, 2) := by decide +kernel
theorem d2_22 : decode prog_55_method_5_code 22 = .ok (.iand, 1) := by decide +kernel
theorem d2_23 : decode prog_55_method_5_code 23 = .ok (.sipush 128, 3) := by decide +kernel
theorem d2_26 : decode prog_55_method_5_code 26 = .ok (.ior, 1) := by decide +kernel
theorem d2_27 : decode prog_55_method_5_code 27 = .ok (.i2b, 1) := by decide +kernel
theorem d2_28 : decode prog_55_method_5_code 28 = .ok (.bastore, 1) := by decide +kernel
theorem d2_29 : decode prog_55_method_5_code 29 = .ok (.iload 4, 2) := by decide +kernel
theorem d2_31 : decode prog_55_method_5_code 31 = .ok (.bipush 7, 2) := by decide +kernel
theorem d2_33 : decode prog_55_method_5_code 33 = .ok (.iushr, 1) := by decide +kernel
theorem d2_34 : decode prog_55_method_5_code 34 = .ok (.istore 4, 2) := by decide +kernel
theorem d2_36 : decode prog_55_method_5_code 36 = .ok (.goto (-31), 3) := by decide +kernel
theorem d2_39 : decode prog_55_method_5_code 39 = .ok (.aload_n 0, 1) := by decide +kernel
theorem d2_40 : decode prog_55_method_5_code 40 = .ok (.iload_n 3, 1) := by decide +kernel
theorem d2_41 : decode prog_55_method_5_code 41 = .ok (.iinc 3 1, 3) := by decide +kernel
theorem d2_44 : decode prog_55_method_5_code 44 = .ok (.iload 4, 2) := by decide +kernel
theorem d2_46 : decode prog_55_method_5_code 46 = .ok (.i2b, 1) := by decide +kernel
theorem d2_47 : decode prog_55_method_5_code 47 = .ok (.bastore, 1) := by decide +kernel
theorem d2_48 : decode prog_55_method_5_code 48 = .ok (.iload_n 3, 1) := by decide +kernel
theorem d2_49 : decode prog_55_method_5_code 49 = .ok (.ireturn, 1) := by decide +kernel
theorem pn_2 : plainName "com/example/trieval/trieval/index/IndexFile" = true := by first | (simp [plainName, overriddenIn]; done) | decide +kernel
theorem pd_2 : parseMethodDescriptor "([BII)I" = some ⟨[(.array .byte), .int, .int], some .int⟩ := by decide +kernel
theorem ef_2 (m : MethodId) (x0 : Addr) (x1 : Int32) (x2 : Int32) : entryFrame m #[(.ref x0), (.int x1), (.int x2)] 5 = mkF m 0 #[.val (.ref x0), .val (.int x1), .val (.int x2), .unset, .unset] [] := by first | (simp [entryFrame, mkF, argsToLocals, Value.category]; done) | rfl
theorem d3_0 : decode method_4_code 0 = .ok (.iload_n 0, 1) := by decide +kernel
theorem d3_1 : decode method_4_code 1 = .ok (.iload_n 1, 1) := by decide +kernel
theorem d3_2 : decode method_4_code 2 = .ok (.if_icmp .lt 10, 3) := by decide +kernel
theorem d3_5 : decode method_4_code 5 = .ok (.iload_n 0, 1) := by decide +kernel
theorem d3_6 : decode method_4_code 6 = .ok (.iload_n 1, 1) := by decide +kernel
theorem d3_7 : decode method_4_code 7 = .ok (.iload_n 2, 1) := by decide +kernel
theorem d3_8 : decode method_4_code 8 = .ok (.iadd, 1) := by decide +kernel
theorem d3_9 : decode method_4_code 9 = .ok (.if_icmp .lt 6, 3) := by decide +kernel
theorem d3_12 : decode method_4_code 12 = .ok (.iload 4, 2) := by decide +kernel
theorem d3_14 : decode method_4_code 14 = .ok (.ireturn, 1) := by decide +kernel
theorem d3_15 : decode method_4_code 15 = .ok (.iload_n 0, 1) := by decide +kernel
theorem d3_16 : decode method_4_code 16 = .ok (.iload_n 1, 1) := by decide +kernel
theorem d3_17 : decode method_4_code 17 = .ok (.isub, 1) := by decide +kernel
theorem d3_18 : decode method_4_code 18 = .ok (.istore 5, 2) := by decide +kernel
theorem d3_20 : decode method_4_code 20 = .ok (.iload_n 3, 1) := by decide +kernel
theorem d3_21 : decode method_4_code 21 = .ok (.bipush 7, 2) := by decide +kernel
theorem d3_23 : decode method_4_code 23 = .ok (.iload 5, 2) := by decide +kernel
theorem d3_25 : decode method_4_code 25 = .ok (.imul, 1) := by decide +kernel
theorem d3_26 : decode method_4_code 26 = .ok (.iushr, 1) := by decide +kernel
theorem d3_27 : decode method_4_code 27 = .ok (.bipush 127, 2) := by decide +kernel
theorem d3_29 : decode method_4_code 29 = .ok (.iand, 1) := by decide +kernel
theorem d3_30 : decode method_4_code 30 = .ok (.istore 6, 2) := by decide +kernel
theorem d3_32 : decode method_4_code 32 = .ok (.iload 5, 2) := by decide +kernel
theorem d3_34 : decode method_4_code 34 = .ok (.iload_n 2, 1) := by decide +kernel
theorem d3_35 : decode method_4_code 35 = .ok (.iconst 1, 1) := by decide +kernel
theorem d3_36 : decode method_4_code 36 = .ok (.isub, 1) := by decide +kernel
theorem d3_37 : decode method_4_code 37 = .ok (.if_icmp .ge 11, 3) := by decide +kernel
theorem d3_40 : decode method_4_code 40 = .ok (.iload 6, 2) := by decide +kernel
theorem d3_42 : decode method_4_code 42 = .ok (.sipush 128, 3) := by decide +kernel
theorem d3_45 : decode method_4_code 45 = .ok (.ior, 1) := by decide +kernel
theorem d3_46 : decode method_4_code 46 = .ok (.istore 6, 2) := by decide +kernel
theorem d3_48 : decode method_4_code 48 = .ok (.iload 6, 2) := by decide +kernel
theorem d3_50 : decode method_4_code 50 = .ok (.i2b, 1) := by decide +kernel
theorem d3_51 : decode method_4_code 51 = .ok (.ireturn, 1) := by decide +kernel
theorem pn_3 : plainName "com/example/trieval/trieval/index/IndexFileWriteVarIntPinLaw" = true := by first | (simp [plainName, overriddenIn]; done) | decide +kernel
theorem pd_3 : parseMethodDescriptor "(IIIIB)B" = some ⟨[.int, .int, .int, .int, .byte], some .byte⟩ := by decide +kernel
theorem ef_3 (m : MethodId) (x0 : Int32) (x1 : Int32) (x2 : Int32) (x3 : Int32) (x4 : Int32) : entryFrame m #[(.int x0), (.int x1), (.int x2), (.int x3), (.int x4)] 7 = mkF m 0 #[.val (.int x0), .val (.int x1), .val (.int x2), .val (.int x3), .val (.int x4), .unset, .unset] [] := by first | (simp [entryFrame, mkF, argsToLocals, Value.category]; done) | rfl
theorem pn_0 : plainName "com/example/trieval/trieval/index/IndexFileWriteVarIntPinLaw" = true := by first | (simp [plainName, overriddenIn]; done) | decide +kernel
theorem pd_0 : parseMethodDescriptor "(III)Z" = some ⟨[.int, .int, .int], some .boolean⟩ := by decide +kernel
theorem ef_0 (m : MethodId) (x0 : Int32) (x1 : Int32) (x2 : Int32) : entryFrame m #[(.int x0), (.int x1), (.int x2)] maxLocals = mkF m 0 #[.val (.int x0), .val (.int x1), .val (.int x2), .unset, .unset, .unset, .unset, .unset, .unset] [] := by first | (simp [entryFrame, mkF, argsToLocals, Value.category, maxLocals]; done) | rfl
theorem own_inc (n : Nat) : Int32.ofNat n + (1 : Int32) = Int32.ofNat (n + 1) := (Int32.ofNat_add n 1).symm
theorem own_toInt {n : Nat} (h : n < 2147483648) : (Int32.ofNat n).toInt = n := Int32.toInt_ofNat_of_lt h
theorem own_nneg {n : Nat} (h : n < 2147483648) : ¬ Int32.ofNat n < 0 := fun q => by
  have := Int32.lt_iff_toInt_lt.mp q
  rw [own_toInt h] at this; simp at this; omega
theorem own_clamp {n : Nat} (h : n < 2147483648) : (Int32.ofNat n).toNatClampNeg = n := by
  show (Int32.ofNat n).toInt.toNat = n
  rw [own_toInt h]; rfl
theorem own_addk (n : Nat) {k : Nat} {z : Int32} (hz : z = Int32.ofNat k) : Int32.ofNat n + z = Int32.ofNat (n + k) := by rw [hz, Int32.ofNat_add]
theorem own_of {x : Int32} (h : 0 ≤ x.toInt) : ∃ n : Nat, x = Int32.ofNat n ∧ (n : Int) = x.toInt := by
  have r := rng32 x
  refine ⟨x.toInt.toNat, ?_, by omega⟩
  apply Int32.toInt_inj.mp
  rw [own_toInt (by omega)]; omega
theorem own_31 (x : Int32) : 0 ≤ (x &&& 2147483647).toInt := by
  have e := Jvm.Kit.i32_mask x 2147483647 (k := 31) (by decide) (by decide)
  omega
def own_by (x : Int32) : Int32 := x.toInt8.toInt32.toInt8.toInt32
def own_s7 (v : Int32) : Int32 := (v.toUInt32 >>> ((7 : Int32) &&& 31).toUInt32).toInt32
def own_u (v : Int32) : Nat := v.toUInt32.toNat
def own_nb : Nat → Int32 → Nat
  | 0, _ => 1
  | k + 1, v => if v &&& (-128) = 0 then 1 else own_nb k (own_s7 v) + 1
def own_wv : Nat → Int32 → Nat → (Nat → Int32) → (Nat → Int32)
  | 0, v, i, f => upd f i (own_by v)
  | k + 1, v, i, f => if v &&& (-128) = 0 then upd f i (own_by v) else own_wv k (own_s7 v) (i + 1) (upd f i (own_by ((v &&& 127) ||| 128)))
theorem own_u_s7 (v : Int32) : own_u (own_s7 v) = own_u v / 128 := by
  show (v.toUInt32 >>> ((7 : Int32) &&& 31).toUInt32).toNat = _
  rw [UInt32.toNat_shiftRight, show (((7 : Int32) &&& 31).toUInt32).toNat = 7 from by decide, Nat.shiftRight_eq_div_pow]
  rfl
theorem own_u_lt (v : Int32) : own_u v < 4294967296 := v.toUInt32.toNat_lt
theorem own_u_inj {v w : Int32} (h : own_u v = own_u w) : v = w := by
  apply Int32.toBitVec_inj.mp
  exact BitVec.eq_of_toNat_eq h
theorem own_u_and (v w : Int32) : own_u (v &&& w) = own_u v &&& own_u w := by
  show (v &&& w).toBitVec.toNat = _
  rw [Int32.toBitVec_and, BitVec.toNat_and]; rfl
theorem own_hi {v m : Int32} {k : Nat} (hk : k ≤ 32) (hm : ∀ i : Fin 32, (own_u m).testBit i.val = decide (k ≤ i.val)) : v &&& m = 0 ↔ own_u v < 2 ^ k := by
  have ev : own_u (v &&& m) = own_u v &&& own_u m := own_u_and v m
  constructor
  · intro h
    apply Nat.lt_pow_two_of_testBit
    intro i hi
    by_cases h32 : i < 32
    · have e := hm ⟨i, h32⟩
      have q : (own_u v &&& own_u m).testBit i = false := by rw [← ev, h]; exact Nat.zero_testBit i
      rw [Nat.testBit_and, e] at q
      simpa [show k ≤ i from hi] using q
    · exact Nat.testBit_lt_two_pow (Nat.lt_of_lt_of_le (own_u_lt v) (Nat.pow_le_pow_right (show 2 > 0 from by decide) (show 32 ≤ i from by omega)))
  · intro h
    apply own_u_inj
    rw [ev]
    show own_u v &&& own_u m = 0
    apply Nat.eq_of_testBit_eq
    intro i
    rw [Nat.testBit_and, Nat.zero_testBit]
    by_cases hi : k ≤ i
    · rw [Nat.testBit_lt_two_pow (Nat.lt_of_lt_of_le h (Nat.pow_le_pow_right (show 2 > 0 from by decide) hi))]; rfl
    · have e := hm ⟨i, by omega⟩
      rw [e]; simp [hi]
theorem own_h7 (v : Int32) : v &&& (-128) = 0 ↔ own_u v < 128 := own_hi (k := 7) (by decide) (by decide)
set_option maxRecDepth 65536 in
set_option maxHeartbeats 40000000 in
def Q_rm2 (Z : State) (a1 : Addr) (t : Nat) (p3 : Int32) (f : Nat → Int32) (h0 : Heap) (n0 : Nat) : Option Value → Heap → List Loc → Prop := fun v h L => v = some (.int (Int32.ofNat (t + own_nb 4 p3))) ∧ Fr n0 L ∧ Keep h0 h [a1] ∧ BB Z h a1 12 (own_wv 4 p3 t f)
set_option maxRecDepth 65536 in
set_option maxHeartbeats 40000000 in
theorem rm2 (l : Launch) (Z : State) (a0 : Array Value) (hw : ∀ d ∈ tables_1, d.before a0 Z = true) (ws : List Jvm.Cond) (a1 : Addr) (t : Nat) (p3 : Int32) (f : Nat → Int32) (h0 : Heap) (n0 : Nat) (Z0 : n0 ≤ h0.size) (ht : t + 5 ≤ 12) (B1 : BB Z h0 a1 12 f) (g1 : n0 ≤ a1) :
    Pays l (⟨"com/example/trieval/trieval/index/IndexFile", "writeVarInt", "([BII)I"⟩ : MethodName) prog_55_method_5_code 5 (some .int) ws ({ frames := 0, cells := 0, slots := 0, locals := 0 } : Room) #[(.ref a1), (.int (Int32.ofNat t)), (.int p3)] Z h0 (Q_rm2 Z a1 t p3 f h0 n0) := by
  refine Pays.of (plainFor_of_name pn_2) ?_
  intro p e s m below meth c s₁ hx hby hml hown hnm hret hlk hZ X0 e0
  have hown : s.vm.findClass "com/example/trieval/trieval/index/IndexFile" = some m.cls := hown
  have hnm : meth.name = "writeVarInt" := hnm
  have hml : c.maxLocals = 5 := hml
  show Ends p e below s _ _ (fun v h L => v = some (.int (Int32.ofNat (t + own_nb 4 p3))) ∧ Fr n0 L ∧ Keep h0 h [a1] ∧ BB Z h a1 12 (own_wv 4 p3 t f)) s₁ _
  refine Ends.cast (ef_2 m a1 (Int32.ofNat t) p3) ?_
  have N0 := Fr.nil n0
  have loop : ∀ (k : Nat) (v : Int32) (i : Nat) (f : Nat → Int32) (T : State) (locs : List Loc) (h : Heap), own_u v < 128 * 128 ^ k → i + k + 1 ≤ 12 → Stand p l e ({ frames := 0, cells := 0, slots := 0, locals := 0 } : Room) s m #[(.ref a1), (.int (Int32.ofNat t)), (.int p3)] below meth c T locs 0 0 → T.heap = h → Fr n0 locs → Keep h0 h [a1] → BB Z h a1 12 f →
      ∀ {Q : Option Value → Heap → List Loc → Prop}, (∀ h L, Fr n0 L → Keep h0 h [a1] → BB Z h a1 12 (own_wv k v i f) → Q (some (.int (Int32.ofNat (i + own_nb k v)))) h L) → Ends p e below s 0 0 Q T (mkF m 5 #[.val (.ref a1), .val (.int (Int32.ofNat t)), .val (.int p3), .val (.int (Int32.ofNat i)), .val (.int v)] []) := by
    intro k
    induction k with
    | zero =>
      intro v i f T locs h hv hi X eT N K B Q hQ
      have hz : v &&& (-128) = 0 := (own_h7 v).mpr (by simpa using hv)
      refine Ends.to (T' := T) (g' := (mkF m 7 #[.val (.ref a1), .val (.int (Int32.ofNat t)), .val (.int p3), .val (.int (Int32.ofNat i)), .val (.int v)] [(.int v)])) (fun tt_ kk_ => XS.iload X.here hx rfl (hb hby d2_5) rfl kk_) ?_
      refine Ends.to (T' := T) (g' := (mkF m 9 #[.val (.ref a1), .val (.int (Int32.ofNat t)), .val (.int p3), .val (.int (Int32.ofNat i)), .val (.int v)] [(.int (-128 : Int32)), (.int v)])) (fun tt_ kk_ => XS.bipush X.here hx rfl (hb hby d2_7) kk_) ?_
      refine Ends.to (T' := T) (g' := (mkF m 10 #[.val (.ref a1), .val (.int (Int32.ofNat t)), .val (.int p3), .val (.int (Int32.ofNat i)), .val (.int v)] [(.int (v &&& (-128 : Int32)))])) (fun tt_ kk_ => XS.iand X.here hx rfl (hb hby d2_9) rfl kk_) ?_
      refine Ends.to (T' := T) (g' := (mkF m 39 #[.val (.ref a1), .val (.int (Int32.ofNat t)), .val (.int p3), .val (.int (Int32.ofNat i)), .val (.int v)] [])) (fun tt_ kk_ => XS.ifYes X.here hx rfl (pc0 := 10) (pc' := 39) rfl (hb hby d2_10) rfl ((if0 _ _).trans (teq hz).1) (by decide) (by decide) kk_) ?_
      refine Ends.to (T' := T) (g' := (mkF m 40 #[.val (.ref a1), .val (.int (Int32.ofNat t)), .val (.int p3), .val (.int (Int32.ofNat i)), .val (.int v)] [(.ref a1)])) (fun tt_ kk_ => XS.aloadN X.here hx rfl (hb hby d2_39) rfl rfl kk_) ?_
      refine Ends.to (T' := T) (g' := (mkF m 41 #[.val (.ref a1), .val (.int (Int32.ofNat t)), .val (.int p3), .val (.int (Int32.ofNat i)), .val (.int v)] [(.int (Int32.ofNat i)), (.ref a1)])) (fun tt_ kk_ => XS.iloadN X.here hx rfl (hb hby d2_40) rfl kk_) ?_
      refine Ends.to (T' := T) (g' := (mkF m 44 #[.val (.ref a1), .val (.int (Int32.ofNat t)), .val (.int p3), .val (.int ((Int32.ofNat i) + (1 : Int32))), .val (.int v)] [(.int (Int32.ofNat i)), (.ref a1)])) (fun tt_ kk_ => XS.iinc X.here hx rfl (hb hby d2_41) rfl (l' := #[.val (.ref a1), .val (.int (Int32.ofNat t)), .val (.int p3), .val (.int ((Int32.ofNat i) + (1 : Int32))), .val (.int v)]) rfl kk_) ?_
      rw [own_inc]
      refine Ends.to (T' := T) (g' := (mkF m 46 #[.val (.ref a1), .val (.int (Int32.ofNat t)), .val (.int p3), .val (.int (Int32.ofNat (i + 1))), .val (.int v)] [(.int v), (.int (Int32.ofNat i)), (.ref a1)])) (fun tt_ kk_ => XS.iload X.here hx rfl (hb hby d2_44) rfl kk_) ?_
      refine Ends.to (T' := T) (g' := (mkF m 47 #[.val (.ref a1), .val (.int (Int32.ofNat t)), .val (.int p3), .val (.int (Int32.ofNat (i + 1))), .val (.int v)] [(.int (v.toInt8.toInt32)), (.int (Int32.ofNat i)), (.ref a1)])) (fun tt_ kk_ => XS.i2b X.here hx rfl (hb hby d2_46) rfl kk_) ?_
      obtain ⟨T1, h1, X1, e1, W1, B', st1⟩ := BA.stB X hx hZ eT B (j := (Int32.ofNat i)) (i := i) (own_nneg (by omega)) (own_clamp (by omega)) (by omega) (g := (mkF m 47 #[.val (.ref a1), .val (.int (Int32.ofNat t)), .val (.int p3), .val (.int (Int32.ofNat (i + 1))), .val (.int v)] [(.int (v.toInt8.toInt32)), (.int (Int32.ofNat i)), (.ref a1)])) rfl rfl (hb hby d2_47)
      have K := Keep.wr K W1 (Or.inl (List.mem_of_getElem? (i := 0) rfl))
      have B := B'
      clear B'
      have N1 := Fr.snoc X1 N g1
      refine Ends.to (T' := T1) (g' := (mkF m 48 #[.val (.ref a1), .val (.int (Int32.ofNat t)), .val (.int p3), .val (.int (Int32.ofNat (i + 1))), .val (.int v)] [])) (fun tt_ kk_ => st1 tt_ kk_) ?_
      refine Ends.to (T' := T1) (g' := (mkF m 49 #[.val (.ref a1), .val (.int (Int32.ofNat t)), .val (.int p3), .val (.int (Int32.ofNat (i + 1))), .val (.int v)] [(.int (Int32.ofNat (i + 1)))])) (fun tt_ kk_ => XS.iloadN X1.here hx rfl (hb hby d2_48) rfl kk_) ?_
      refine Ends.retI X1 hx hret (hb hby d2_49) hlk (by decide) (by decide) ?_
      have q := hQ T1.heap _ N1 (by rw [e1]; exact K) (by rw [e1]; simp only [own_wv]; exact B)
      simp only [own_nb] at q
      exact q
    | succ k ih =>
      intro v i f T locs h hv hi X eT N K B Q hQ
      rw [Nat.pow_succ] at hv
      refine Ends.to (T' := T) (g' := (mkF m 7 #[.val (.ref a1), .val (.int (Int32.ofNat t)), .val (.int p3), .val (.int (Int32.ofNat i)), .val (.int v)] [(.int v)])) (fun tt_ kk_ => XS.iload X.here hx rfl (hb hby d2_5) rfl kk_) ?_
      refine Ends.to (T' := T) (g' := (mkF m 9 #[.val (.ref a1), .val (.int (Int32.ofNat t)), .val (.int p3), .val (.int (Int32.ofNat i)), .val (.int v)] [(.int (-128 : Int32)), (.int v)])) (fun tt_ kk_ => XS.bipush X.here hx rfl (hb hby d2_7) kk_) ?_
      refine Ends.to (T' := T) (g' := (mkF m 10 #[.val (.ref a1), .val (.int (Int32.ofNat t)), .val (.int p3), .val (.int (Int32.ofNat i)), .val (.int v)] [(.int (v &&& (-128 : Int32)))])) (fun tt_ kk_ => XS.iand X.here hx rfl (hb hby d2_9) rfl kk_) ?_
      by_cases hc10 : (v &&& (-128 : Int32)) = (0 : Int32)
      · refine Ends.to (T' := T) (g' := (mkF m 39 #[.val (.ref a1), .val (.int (Int32.ofNat t)), .val (.int p3), .val (.int (Int32.ofNat i)), .val (.int v)] [])) (fun tt_ kk_ => XS.ifYes X.here hx rfl (pc0 := 10) (pc' := 39) rfl (hb hby d2_10) rfl ((if0 _ _).trans (teq hc10).1) (by decide) (by decide) kk_) ?_
        refine Ends.to (T' := T) (g' := (mkF m 40 #[.val (.ref a1), .val (.int (Int32.ofNat t)), .val (.int p3), .val (.int (Int32.ofNat i)), .val (.int v)] [(.ref a1)])) (fun tt_ kk_ => XS.aloadN X.here hx rfl (hb hby d2_39) rfl rfl kk_) ?_
        refine Ends.to (T' := T) (g' := (mkF m 41 #[.val (.ref a1), .val (.int (Int32.ofNat t)), .val (.int p3), .val (.int (Int32.ofNat i)), .val (.int v)] [(.int (Int32.ofNat i)), (.ref a1)])) (fun tt_ kk_ => XS.iloadN X.here hx rfl (hb hby d2_40) rfl kk_) ?_
        refine Ends.to (T' := T) (g' := (mkF m 44 #[.val (.ref a1), .val (.int (Int32.ofNat t)), .val (.int p3), .val (.int ((Int32.ofNat i) + (1 : Int32))), .val (.int v)] [(.int (Int32.ofNat i)), (.ref a1)])) (fun tt_ kk_ => XS.iinc X.here hx rfl (hb hby d2_41) rfl (l' := #[.val (.ref a1), .val (.int (Int32.ofNat t)), .val (.int p3), .val (.int ((Int32.ofNat i) + (1 : Int32))), .val (.int v)]) rfl kk_) ?_
        rw [own_inc]
        refine Ends.to (T' := T) (g' := (mkF m 46 #[.val (.ref a1), .val (.int (Int32.ofNat t)), .val (.int p3), .val (.int (Int32.ofNat (i + 1))), .val (.int v)] [(.int v), (.int (Int32.ofNat i)), (.ref a1)])) (fun tt_ kk_ => XS.iload X.here hx rfl (hb hby d2_44) rfl kk_) ?_
        refine Ends.to (T' := T) (g' := (mkF m 47 #[.val (.ref a1), .val (.int (Int32.ofNat t)), .val (.int p3), .val (.int (Int32.ofNat (i + 1))), .val (.int v)] [(.int (v.toInt8.toInt32)), (.int (Int32.ofNat i)), (.ref a1)])) (fun tt_ kk_ => XS.i2b X.here hx rfl (hb hby d2_46) rfl kk_) ?_
        obtain ⟨T2, h2, X2, e2, W2, B', st2⟩ := BA.stB X hx hZ eT B (j := (Int32.ofNat i)) (i := i) (own_nneg (by omega)) (own_clamp (by omega)) (by omega) (g := (mkF m 47 #[.val (.ref a1), .val (.int (Int32.ofNat t)), .val (.int p3), .val (.int (Int32.ofNat (i + 1))), .val (.int v)] [(.int (v.toInt8.toInt32)), (.int (Int32.ofNat i)), (.ref a1)])) rfl rfl (hb hby d2_47)
        have K := Keep.wr K W2 (Or.inl (List.mem_of_getElem? (i := 0) rfl))
        have B := B'
        clear B'
        have N2 := Fr.snoc X2 N g1
        refine Ends.to (T' := T2) (g' := (mkF m 48 #[.val (.ref a1), .val (.int (Int32.ofNat t)), .val (.int p3), .val (.int (Int32.ofNat (i + 1))), .val (.int v)] [])) (fun tt_ kk_ => st2 tt_ kk_) ?_
        refine Ends.to (T' := T2) (g' := (mkF m 49 #[.val (.ref a1), .val (.int (Int32.ofNat t)), .val (.int p3), .val (.int (Int32.ofNat (i + 1))), .val (.int v)] [(.int (Int32.ofNat (i + 1)))])) (fun tt_ kk_ => XS.iloadN X2.here hx rfl (hb hby d2_48) rfl kk_) ?_
        refine Ends.retI X2 hx hret (hb hby d2_49) hlk (by decide) (by decide) ?_
        have q := hQ T2.heap _ N2 (by rw [e2]; exact K) (by rw [e2]; simp only [own_wv, if_pos hc10]; exact B)
        simp only [own_nb, if_pos hc10] at q
        exact q
      · refine Ends.to (T' := T) (g' := (mkF m 13 #[.val (.ref a1), .val (.int (Int32.ofNat t)), .val (.int p3), .val (.int (Int32.ofNat i)), .val (.int v)] [])) (fun tt_ kk_ => XS.ifNo X.here hx rfl (hb hby d2_10) rfl ((if0 _ _).trans (feq hc10).1) kk_) ?_
        refine Ends.to (T' := T) (g' := (mkF m 14 #[.val (.ref a1), .val (.int (Int32.ofNat t)), .val (.int p3), .val (.int (Int32.ofNat i)), .val (.int v)] [(.ref a1)])) (fun tt_ kk_ => XS.aloadN X.here hx rfl (hb hby d2_13) rfl rfl kk_) ?_
        refine Ends.to (T' := T) (g' := (mkF m 15 #[.val (.ref a1), .val (.int (Int32.ofNat t)), .val (.int p3), .val (.int (Int32.ofNat i)), .val (.int v)] [(.int (Int32.ofNat i)), (.ref a1)])) (fun tt_ kk_ => XS.iloadN X.here hx rfl (hb hby d2_14) rfl kk_) ?_
        refine Ends.to (T' := T) (g' := (mkF m 18 #[.val (.ref a1), .val (.int (Int32.ofNat t)), .val (.int p3), .val (.int ((Int32.ofNat i) + (1 : Int32))), .val (.int v)] [(.int (Int32.ofNat i)), (.ref a1)])) (fun tt_ kk_ => XS.iinc X.here hx rfl (hb hby d2_15) rfl (l' := #[.val (.ref a1), .val (.int (Int32.ofNat t)), .val (.int p3), .val (.int ((Int32.ofNat i) + (1 : Int32))), .val (.int v)]) rfl kk_) ?_
        rw [own_inc]
        refine Ends.to (T' := T) (g' := (mkF m 20 #[.val (.ref a1), .val (.int (Int32.ofNat t)), .val (.int p3), .val (.int (Int32.ofNat (i + 1))), .val (.int v)] [(.int v), (.int (Int32.ofNat i)), (.ref a1)])) (fun tt_ kk_ => XS.iload X.here hx rfl (hb hby d2_18) rfl kk_) ?_
        refine Ends.to (T' := T) (g' := (mkF m 22 #[.val (.ref a1), .val (.int (Int32.ofNat t)), .val (.int p3), .val (.int (Int32.ofNat (i + 1))), .val (.int v)] [(.int (127 : Int32)), (.int v), (.int (Int32.ofNat i)), (.ref a1)])) (fun tt_ kk_ => XS.bipush X.here hx rfl (hb hby d2_20) kk_) ?_
        refine Ends.to (T' := T) (g' := (mkF m 23 #[.val (.ref a1), .val (.int (Int32.ofNat t)), .val (.int p3), .val (.int (Int32.ofNat (i + 1))), .val (.int v)] [(.int (v &&& (127 : Int32))), (.int (Int32.ofNat i)), (.ref a1)])) (fun tt_ kk_ => XS.iand X.here hx rfl (hb hby d2_22) rfl kk_) ?_
        refine Ends.to (T' := T) (g' := (mkF m 26 #[.val (.ref a1), .val (.int (Int32.ofNat t)), .val (.int p3), .val (.int (Int32.ofNat (i + 1))), .val (.int v)] [(.int (128 : Int32)), (.int (v &&& (127 : Int32))), (.int (Int32.ofNat i)), (.ref a1)])) (fun tt_ kk_ => XS.sipush X.here hx rfl (hb hby d2_23) kk_) ?_
        refine Ends.to (T' := T) (g' := (mkF m 27 #[.val (.ref a1), .val (.int (Int32.ofNat t)), .val (.int p3), .val (.int (Int32.ofNat (i + 1))), .val (.int v)] [(.int ((v &&& (127 : Int32)) ||| (128 : Int32))), (.int (Int32.ofNat i)), (.ref a1)])) (fun tt_ kk_ => XS.ior X.here hx rfl (hb hby d2_26) rfl kk_) ?_
        refine Ends.to (T' := T) (g' := (mkF m 28 #[.val (.ref a1), .val (.int (Int32.ofNat t)), .val (.int p3), .val (.int (Int32.ofNat (i + 1))), .val (.int v)] [(.int (((v &&& (127 : Int32)) ||| (128 : Int32)).toInt8.toInt32)), (.int (Int32.ofNat i)), (.ref a1)])) (fun tt_ kk_ => XS.i2b X.here hx rfl (hb hby d2_27) rfl kk_) ?_
        obtain ⟨T3, h3, X3, e3, W3, B', st3⟩ := BA.stB X hx hZ eT B (j := (Int32.ofNat i)) (i := i) (own_nneg (by omega)) (own_clamp (by omega)) (by omega) (g := (mkF m 28 #[.val (.ref a1), .val (.int (Int32.ofNat t)), .val (.int p3), .val (.int (Int32.ofNat (i + 1))), .val (.int v)] [(.int (((v &&& (127 : Int32)) ||| (128 : Int32)).toInt8.toInt32)), (.int (Int32.ofNat i)), (.ref a1)])) rfl rfl (hb hby d2_28)
        have K := Keep.wr K W3 (Or.inl (List.mem_of_getElem? (i := 0) rfl))
        have B := B'
        clear B'
        have N3 := Fr.snoc X3 N g1
        refine Ends.to (T' := T3) (g' := (mkF m 29 #[.val (.ref a1), .val (.int (Int32.ofNat t)), .val (.int p3), .val (.int (Int32.ofNat (i + 1))), .val (.int v)] [])) (fun tt_ kk_ => st3 tt_ kk_) ?_
        refine Ends.to (T' := T3) (g' := (mkF m 31 #[.val (.ref a1), .val (.int (Int32.ofNat t)), .val (.int p3), .val (.int (Int32.ofNat (i + 1))), .val (.int v)] [(.int v)])) (fun tt_ kk_ => XS.iload X3.here hx rfl (hb hby d2_29) rfl kk_) ?_
        refine Ends.to (T' := T3) (g' := (mkF m 33 #[.val (.ref a1), .val (.int (Int32.ofNat t)), .val (.int p3), .val (.int (Int32.ofNat (i + 1))), .val (.int v)] [(.int (7 : Int32)), (.int v)])) (fun tt_ kk_ => XS.bipush X3.here hx rfl (hb hby d2_31) kk_) ?_
        refine Ends.to (T' := T3) (g' := (mkF m 34 #[.val (.ref a1), .val (.int (Int32.ofNat t)), .val (.int p3), .val (.int (Int32.ofNat (i + 1))), .val (.int v)] [(.int ((v.toUInt32 >>> ((7 : Int32) &&& 31).toUInt32).toInt32))])) (fun tt_ kk_ => XS.iushr X3.here hx rfl (hb hby d2_33) rfl kk_) ?_
        refine Ends.to (T' := T3) (g' := (mkF m 36 #[.val (.ref a1), .val (.int (Int32.ofNat t)), .val (.int p3), .val (.int (Int32.ofNat (i + 1))), .val (.int ((v.toUInt32 >>> ((7 : Int32) &&& 31).toUInt32).toInt32))] [])) (fun tt_ kk_ => XS.istore X3.here hx rfl (hb hby d2_34) rfl (l' := #[.val (.ref a1), .val (.int (Int32.ofNat t)), .val (.int p3), .val (.int (Int32.ofNat (i + 1))), .val (.int ((v.toUInt32 >>> ((7 : Int32) &&& 31).toUInt32).toInt32))]) rfl kk_) ?_
        refine Ends.to (T' := T3) (g' := (mkF m 5 #[.val (.ref a1), .val (.int (Int32.ofNat t)), .val (.int p3), .val (.int (Int32.ofNat (i + 1))), .val (.int ((v.toUInt32 >>> ((7 : Int32) &&& 31).toUInt32).toInt32))] [])) (fun tt_ kk_ => XS.goto X3.here hx rfl (pc0 := 36) (pc' := 5) rfl (hb hby d2_36) (by decide) (by decide) kk_) ?_
        exact ih (own_s7 v) (i + 1) _ T3 _ h3 (by rw [own_u_s7]; omega) (by omega) X3 e3 N3 K B (fun h L a b c => by have q := hQ h L a b; simp only [own_wv, own_nb, if_neg hc10] at q; rw [show i + 1 + own_nb k (own_s7 v) = i + (own_nb k (own_s7 v) + 1) from by omega]; exact q c)
  refine Ends.to (T' := s₁) (g' := (mkF m 1 #[.val (.ref a1), .val (.int (Int32.ofNat t)), .val (.int p3), .unset, .unset] [(.int (Int32.ofNat t))])) (fun tt_ kk_ => XS.iloadN X0.here hx rfl (hb hby d2_0) rfl kk_) ?_
  refine Ends.to (T' := s₁) (g' := (mkF m 2 #[.val (.ref a1), .val (.int (Int32.ofNat t)), .val (.int p3), .val (.int (Int32.ofNat t)), .unset] [])) (fun tt_ kk_ => XS.istoreN X0.here hx rfl (hb hby d2_1) rfl (l' := #[.val (.ref a1), .val (.int (Int32.ofNat t)), .val (.int p3), .val (.int (Int32.ofNat t)), .unset]) rfl kk_) ?_
  refine Ends.to (T' := s₁) (g' := (mkF m 3 #[.val (.ref a1), .val (.int (Int32.ofNat t)), .val (.int p3), .val (.int (Int32.ofNat t)), .unset] [(.int p3)])) (fun tt_ kk_ => XS.iloadN X0.here hx rfl (hb hby d2_2) rfl kk_) ?_
  refine Ends.to (T' := s₁) (g' := (mkF m 5 #[.val (.ref a1), .val (.int (Int32.ofNat t)), .val (.int p3), .val (.int (Int32.ofNat t)), .val (.int p3)] [])) (fun tt_ kk_ => XS.istore X0.here hx rfl (hb hby d2_3) rfl (l' := #[.val (.ref a1), .val (.int (Int32.ofNat t)), .val (.int p3), .val (.int (Int32.ofNat t)), .val (.int p3)]) rfl kk_) ?_
  exact loop 4 p3 t f _ [] h0 (by have := own_u_lt p3; omega) (by omega) X0 e0 N0 (Keep.refl _ _) B1 (fun h L a b c => ⟨rfl, a, b, c⟩)
def own_ln (v : Int32) : Int32 := if v &&& (-128) = 0 then 1 else if v &&& (-16384) = 0 then 2 else if v &&& (-2097152) = 0 then 3 else if v &&& (-268435456) = 0 then 4 else 5
def own_xp (i o n v f : Int32) : Int32 :=
  if i < o then f.toInt8.toInt32 else if i < o + n then
    (if i - o < n - 1 then own_by (((v.toUInt32 >>> ((7 * (i - o)) &&& 31).toUInt32).toInt32 &&& 127) ||| 128) else own_by ((v.toUInt32 >>> ((7 * (i - o)) &&& 31).toUInt32).toInt32 &&& 127))
  else f.toInt8.toInt32
set_option maxRecDepth 65536 in
set_option maxHeartbeats 40000000 in
def Q_rm1 (Z : State) (p1 : Int32) (h0 : Heap) (n0 : Nat) : Option Value → Heap → List Loc → Prop := fun v h L => v = some (.int (own_ln p1)) ∧ Fr n0 L ∧ h = h0
set_option maxRecDepth 65536 in
set_option maxHeartbeats 40000000 in
theorem rm1 (l : Launch) (Z : State) (a0 : Array Value) (hw : ∀ d ∈ tables_1, d.before a0 Z = true) (ws : List Jvm.Cond) (p1 : Int32) (h0 : Heap) (n0 : Nat) (Z0 : n0 ≤ h0.size) :
    Pays l (⟨"com/example/trieval/trieval/index/IndexFileWriteVarIntPinLaw", "length", "(I)I"⟩ : MethodName) method_3_code 1 (some .int) ws ({ frames := 0, cells := 0, slots := 0, locals := 0 } : Room) #[(.int p1)] Z h0 (Q_rm1 Z p1 h0 n0) := by
  refine Pays.of (plainFor_of_name pn_1) ?_
  intro p e s m below meth c s₁ hx hby hml hown hnm hret hlk hZ X0 e0
  have hown : s.vm.findClass "com/example/trieval/trieval/index/IndexFileWriteVarIntPinLaw" = some m.cls := hown
  have hnm : meth.name = "length" := hnm
  have hml : c.maxLocals = 1 := hml
  show Ends p e below s _ _ (fun v h L => v = some (.int (own_ln p1)) ∧ Fr n0 L ∧ h = h0) s₁ _
  refine Ends.cast (ef_1 m p1) ?_
  have N0 := Fr.nil n0
  refine Ends.to (T' := s₁) (g' := (mkF m 1 #[.val (.int p1)] [(.int p1)])) (fun tt_ kk_ => XS.iloadN X0.here hx rfl (hb hby d1_0) rfl kk_) ?_
  refine Ends.to (T' := s₁) (g' := (mkF m 3 #[.val (.int p1)] [(.int (-128 : Int32)), (.int p1)])) (fun tt_ kk_ => XS.bipush X0.here hx rfl (hb hby d1_1) kk_) ?_
  refine Ends.to (T' := s₁) (g' := (mkF m 4 #[.val (.int p1)] [(.int (p1 &&& (-128 : Int32)))])) (fun tt_ kk_ => XS.iand X0.here hx rfl (hb hby d1_3) rfl kk_) ?_
  by_cases hc4 : (p1 &&& (-128 : Int32)) = (0 : Int32)
  · refine Ends.to (T' := s₁) (g' := (mkF m 7 #[.val (.int p1)] [])) (fun tt_ kk_ => XS.ifNo X0.here hx rfl (hb hby d1_4) rfl ((if0 _ _).trans (teq hc4).2) kk_) ?_
    refine Ends.to (T' := s₁) (g' := (mkF m 8 #[.val (.int p1)] [(.int (1 : Int32))])) (fun tt_ kk_ => XS.iconst X0.here hx rfl (hb hby d1_7) kk_) ?_
    exact Ends.retI X0 hx hret (hb hby d1_8) hlk (by decide) (by decide) ⟨by simp only [own_ln, if_pos hc4], N0, e0⟩
  · refine Ends.to (T' := s₁) (g' := (mkF m 9 #[.val (.int p1)] [])) (fun tt_ kk_ => XS.ifYes X0.here hx rfl (pc0 := 4) (pc' := 9) rfl (hb hby d1_4) rfl ((if0 _ _).trans (feq hc4).2) (by decide) (by decide) kk_) ?_
    refine Ends.to (T' := s₁) (g' := (mkF m 10 #[.val (.int p1)] [(.int p1)])) (fun tt_ kk_ => XS.iloadN X0.here hx rfl (hb hby d1_9) rfl kk_) ?_
    refine Ends.to (T' := s₁) (g' := (mkF m 13 #[.val (.int p1)] [(.int (-16384 : Int32)), (.int p1)])) (fun tt_ kk_ => XS.sipush X0.here hx rfl (hb hby d1_10) kk_) ?_
    refine Ends.to (T' := s₁) (g' := (mkF m 14 #[.val (.int p1)] [(.int (p1 &&& (-16384 : Int32)))])) (fun tt_ kk_ => XS.iand X0.here hx rfl (hb hby d1_13) rfl kk_) ?_
    by_cases hc14 : (p1 &&& (-16384 : Int32)) = (0 : Int32)
    · refine Ends.to (T' := s₁) (g' := (mkF m 17 #[.val (.int p1)] [])) (fun tt_ kk_ => XS.ifNo X0.here hx rfl (hb hby d1_14) rfl ((if0 _ _).trans (teq hc14).2) kk_) ?_
      refine Ends.to (T' := s₁) (g' := (mkF m 18 #[.val (.int p1)] [(.int (2 : Int32))])) (fun tt_ kk_ => XS.iconst X0.here hx rfl (hb hby d1_17) kk_) ?_
      exact Ends.retI X0 hx hret (hb hby d1_18) hlk (by decide) (by decide) ⟨by simp only [own_ln, if_neg hc4, if_pos hc14], N0, e0⟩
    · refine Ends.to (T' := s₁) (g' := (mkF m 19 #[.val (.int p1)] [])) (fun tt_ kk_ => XS.ifYes X0.here hx rfl (pc0 := 14) (pc' := 19) rfl (hb hby d1_14) rfl ((if0 _ _).trans (feq hc14).2) (by decide) (by decide) kk_) ?_
      refine Ends.to (T' := s₁) (g' := (mkF m 20 #[.val (.int p1)] [(.int p1)])) (fun tt_ kk_ => XS.iloadN X0.here hx rfl (hb hby d1_19) rfl kk_) ?_
      refine Ends.to (T' := s₁) (g' := (mkF m 22 #[.val (.int p1)] [(.int (-2097152 : Int32)), (.int p1)])) (fun tt_ kk_ => X0.ldcInt hx hown (mvT hZ (hw _ (List.mem_of_getElem? (i := 13) rfl))) (g := (mkF m 20 #[.val (.int p1)] [(.int p1)])) rfl (hb hby d1_20) _ kk_) ?_
      refine Ends.to (T' := s₁) (g' := (mkF m 23 #[.val (.int p1)] [(.int (p1 &&& (-2097152 : Int32)))])) (fun tt_ kk_ => XS.iand X0.here hx rfl (hb hby d1_22) rfl kk_) ?_
      by_cases hc23 : (p1 &&& (-2097152 : Int32)) = (0 : Int32)
      · refine Ends.to (T' := s₁) (g' := (mkF m 26 #[.val (.int p1)] [])) (fun tt_ kk_ => XS.ifNo X0.here hx rfl (hb hby d1_23) rfl ((if0 _ _).trans (teq hc23).2) kk_) ?_
        refine Ends.to (T' := s₁) (g' := (mkF m 27 #[.val (.int p1)] [(.int (3 : Int32))])) (fun tt_ kk_ => XS.iconst X0.here hx rfl (hb hby d1_26) kk_) ?_
        exact Ends.retI X0 hx hret (hb hby d1_27) hlk (by decide) (by decide) ⟨by simp only [own_ln, if_neg hc4, if_neg hc14, if_pos hc23], N0, e0⟩
      · refine Ends.to (T' := s₁) (g' := (mkF m 28 #[.val (.int p1)] [])) (fun tt_ kk_ => XS.ifYes X0.here hx rfl (pc0 := 23) (pc' := 28) rfl (hb hby d1_23) rfl ((if0 _ _).trans (feq hc23).2) (by decide) (by decide) kk_) ?_
        refine Ends.to (T' := s₁) (g' := (mkF m 29 #[.val (.int p1)] [(.int p1)])) (fun tt_ kk_ => XS.iloadN X0.here hx rfl (hb hby d1_28) rfl kk_) ?_
        refine Ends.to (T' := s₁) (g' := (mkF m 31 #[.val (.int p1)] [(.int (-268435456 : Int32)), (.int p1)])) (fun tt_ kk_ => X0.ldcInt hx hown (mvT hZ (hw _ (List.mem_of_getElem? (i := 14) rfl))) (g := (mkF m 29 #[.val (.int p1)] [(.int p1)])) rfl (hb hby d1_29) _ kk_) ?_
        refine Ends.to (T' := s₁) (g' := (mkF m 32 #[.val (.int p1)] [(.int (p1 &&& (-268435456 : Int32)))])) (fun tt_ kk_ => XS.iand X0.here hx rfl (hb hby d1_31) rfl kk_) ?_
        by_cases hc32 : (p1 &&& (-268435456 : Int32)) = (0 : Int32)
        · refine Ends.to (T' := s₁) (g' := (mkF m 35 #[.val (.int p1)] [])) (fun tt_ kk_ => XS.ifNo X0.here hx rfl (hb hby d1_32) rfl ((if0 _ _).trans (teq hc32).2) kk_) ?_
          refine Ends.to (T' := s₁) (g' := (mkF m 36 #[.val (.int p1)] [(.int (4 : Int32))])) (fun tt_ kk_ => XS.iconst X0.here hx rfl (hb hby d1_35) kk_) ?_
          exact Ends.retI X0 hx hret (hb hby d1_36) hlk (by decide) (by decide) ⟨by simp only [own_ln, if_neg hc4, if_neg hc14, if_neg hc23, if_pos hc32], N0, e0⟩
        · refine Ends.to (T' := s₁) (g' := (mkF m 37 #[.val (.int p1)] [])) (fun tt_ kk_ => XS.ifYes X0.here hx rfl (pc0 := 32) (pc' := 37) rfl (hb hby d1_32) rfl ((if0 _ _).trans (feq hc32).2) (by decide) (by decide) kk_) ?_
          refine Ends.to (T' := s₁) (g' := (mkF m 38 #[.val (.int p1)] [(.int (5 : Int32))])) (fun tt_ kk_ => XS.iconst X0.here hx rfl (hb hby d1_37) kk_) ?_
          exact Ends.retI X0 hx hret (hb hby d1_38) hlk (by decide) (by decide) ⟨by simp only [own_ln, if_neg hc4, if_neg hc14, if_neg hc23, if_neg hc32], N0, e0⟩
set_option maxRecDepth 65536 in
set_option maxHeartbeats 40000000 in
def Q_rm3 (Z : State) (p1 p2 p3 p4 p5 : Int32) (h0 : Heap) (n0 : Nat) : Option Value → Heap → List Loc → Prop := fun v h L => v = some (.int (own_xp p1 p2 p3 p4 p5)) ∧ Fr n0 L ∧ h = h0
set_option maxRecDepth 65536 in
set_option maxHeartbeats 40000000 in
theorem rm3 (l : Launch) (Z : State) (a0 : Array Value) (hw : ∀ d ∈ tables_1, d.before a0 Z = true) (ws : List Jvm.Cond) (p1 p2 p3 p4 p5 : Int32) (h0 : Heap) (n0 : Nat) (Z0 : n0 ≤ h0.size) :
    Pays l (⟨"com/example/trieval/trieval/index/IndexFileWriteVarIntPinLaw", "expected", "(IIIIB)B"⟩ : MethodName) method_4_code 7 (some .byte) ws ({ frames := 0, cells := 0, slots := 0, locals := 0 } : Room) #[(.int p1), (.int p2), (.int p3), (.int p4), (.int p5)] Z h0 (Q_rm3 Z p1 p2 p3 p4 p5 h0 n0) := by
  refine Pays.of (plainFor_of_name pn_3) ?_
  intro p e s m below meth c s₁ hx hby hml hown hnm hret hlk hZ X0 e0
  have hown : s.vm.findClass "com/example/trieval/trieval/index/IndexFileWriteVarIntPinLaw" = some m.cls := hown
  have hnm : meth.name = "expected" := hnm
  have hml : c.maxLocals = 7 := hml
  show Ends p e below s _ _ (fun v h L => v = some (.int (own_xp p1 p2 p3 p4 p5)) ∧ Fr n0 L ∧ h = h0) s₁ _
  refine Ends.cast (ef_3 m p1 p2 p3 p4 p5) ?_
  have N0 := Fr.nil n0
  refine Ends.to (T' := s₁) (g' := (mkF m 1 #[.val (.int p1), .val (.int p2), .val (.int p3), .val (.int p4), .val (.int p5), .unset, .unset] [(.int p1)])) (fun tt_ kk_ => XS.iloadN X0.here hx rfl (hb hby d3_0) rfl kk_) ?_
  refine Ends.to (T' := s₁) (g' := (mkF m 2 #[.val (.int p1), .val (.int p2), .val (.int p3), .val (.int p4), .val (.int p5), .unset, .unset] [(.int p2), (.int p1)])) (fun tt_ kk_ => XS.iloadN X0.here hx rfl (hb hby d3_1) rfl kk_) ?_
  by_cases hc2 : p1 < p2
  · refine Ends.to (T' := s₁) (g' := (mkF m 12 #[.val (.int p1), .val (.int p2), .val (.int p3), .val (.int p4), .val (.int p5), .unset, .unset] [])) (fun tt_ kk_ => XS.icmpYes X0.here hx rfl (pc0 := 2) (pc' := 12) rfl (hb hby d3_2) rfl (tlt hc2).1 (by decide) (by decide) kk_) ?_
    refine Ends.to (T' := s₁) (g' := (mkF m 14 #[.val (.int p1), .val (.int p2), .val (.int p3), .val (.int p4), .val (.int p5), .unset, .unset] [(.int p5)])) (fun tt_ kk_ => XS.iload X0.here hx rfl (hb hby d3_12) rfl kk_) ?_
    exact Ends.retN (t := .byte) (by simp) X0 hx hret (hb hby d3_14) hlk (by decide) (by decide) ⟨by simp only [own_xp, nar, if_pos hc2] ; first | done | rfl, N0, e0⟩
  · refine Ends.to (T' := s₁) (g' := (mkF m 5 #[.val (.int p1), .val (.int p2), .val (.int p3), .val (.int p4), .val (.int p5), .unset, .unset] [])) (fun tt_ kk_ => XS.icmpNo X0.here hx rfl (hb hby d3_2) rfl (flt hc2).1 kk_) ?_
    refine Ends.to (T' := s₁) (g' := (mkF m 6 #[.val (.int p1), .val (.int p2), .val (.int p3), .val (.int p4), .val (.int p5), .unset, .unset] [(.int p1)])) (fun tt_ kk_ => XS.iloadN X0.here hx rfl (hb hby d3_5) rfl kk_) ?_
    refine Ends.to (T' := s₁) (g' := (mkF m 7 #[.val (.int p1), .val (.int p2), .val (.int p3), .val (.int p4), .val (.int p5), .unset, .unset] [(.int p2), (.int p1)])) (fun tt_ kk_ => XS.iloadN X0.here hx rfl (hb hby d3_6) rfl kk_) ?_
    refine Ends.to (T' := s₁) (g' := (mkF m 8 #[.val (.int p1), .val (.int p2), .val (.int p3), .val (.int p4), .val (.int p5), .unset, .unset] [(.int p3), (.int p2), (.int p1)])) (fun tt_ kk_ => XS.iloadN X0.here hx rfl (hb hby d3_7) rfl kk_) ?_
    refine Ends.to (T' := s₁) (g' := (mkF m 9 #[.val (.int p1), .val (.int p2), .val (.int p3), .val (.int p4), .val (.int p5), .unset, .unset] [(.int (p2 + p3)), (.int p1)])) (fun tt_ kk_ => XS.iadd X0.here hx rfl (hb hby d3_8) rfl kk_) ?_
    by_cases hc9 : p1 < (p2 + p3)
    · refine Ends.to (T' := s₁) (g' := (mkF m 15 #[.val (.int p1), .val (.int p2), .val (.int p3), .val (.int p4), .val (.int p5), .unset, .unset] [])) (fun tt_ kk_ => XS.icmpYes X0.here hx rfl (pc0 := 9) (pc' := 15) rfl (hb hby d3_9) rfl (tlt hc9).1 (by decide) (by decide) kk_) ?_
      refine Ends.to (T' := s₁) (g' := (mkF m 16 #[.val (.int p1), .val (.int p2), .val (.int p3), .val (.int p4), .val (.int p5), .unset, .unset] [(.int p1)])) (fun tt_ kk_ => XS.iloadN X0.here hx rfl (hb hby d3_15) rfl kk_) ?_
      refine Ends.to (T' := s₁) (g' := (mkF m 17 #[.val (.int p1), .val (.int p2), .val (.int p3), .val (.int p4), .val (.int p5), .unset, .unset] [(.int p2), (.int p1)])) (fun tt_ kk_ => XS.iloadN X0.here hx rfl (hb hby d3_16) rfl kk_) ?_
      refine Ends.to (T' := s₁) (g' := (mkF m 18 #[.val (.int p1), .val (.int p2), .val (.int p3), .val (.int p4), .val (.int p5), .unset, .unset] [(.int (p1 - p2))])) (fun tt_ kk_ => XS.isub X0.here hx rfl (hb hby d3_17) rfl kk_) ?_
      refine Ends.to (T' := s₁) (g' := (mkF m 20 #[.val (.int p1), .val (.int p2), .val (.int p3), .val (.int p4), .val (.int p5), .val (.int (p1 - p2)), .unset] [])) (fun tt_ kk_ => XS.istore X0.here hx rfl (hb hby d3_18) rfl (l' := #[.val (.int p1), .val (.int p2), .val (.int p3), .val (.int p4), .val (.int p5), .val (.int (p1 - p2)), .unset]) rfl kk_) ?_
      refine Ends.to (T' := s₁) (g' := (mkF m 21 #[.val (.int p1), .val (.int p2), .val (.int p3), .val (.int p4), .val (.int p5), .val (.int (p1 - p2)), .unset] [(.int p4)])) (fun tt_ kk_ => XS.iloadN X0.here hx rfl (hb hby d3_20) rfl kk_) ?_
      refine Ends.to (T' := s₁) (g' := (mkF m 23 #[.val (.int p1), .val (.int p2), .val (.int p3), .val (.int p4), .val (.int p5), .val (.int (p1 - p2)), .unset] [(.int (7 : Int32)), (.int p4)])) (fun tt_ kk_ => XS.bipush X0.here hx rfl (hb hby d3_21) kk_) ?_
      refine Ends.to (T' := s₁) (g' := (mkF m 25 #[.val (.int p1), .val (.int p2), .val (.int p3), .val (.int p4), .val (.int p5), .val (.int (p1 - p2)), .unset] [(.int (p1 - p2)), (.int (7 : Int32)), (.int p4)])) (fun tt_ kk_ => XS.iload X0.here hx rfl (hb hby d3_23) rfl kk_) ?_
      refine Ends.to (T' := s₁) (g' := (mkF m 26 #[.val (.int p1), .val (.int p2), .val (.int p3), .val (.int p4), .val (.int p5), .val (.int (p1 - p2)), .unset] [(.int ((7 : Int32) * (p1 - p2))), (.int p4)])) (fun tt_ kk_ => XS.imul X0.here hx rfl (hb hby d3_25) rfl kk_) ?_
      refine Ends.to (T' := s₁) (g' := (mkF m 27 #[.val (.int p1), .val (.int p2), .val (.int p3), .val (.int p4), .val (.int p5), .val (.int (p1 - p2)), .unset] [(.int ((p4.toUInt32 >>> (((7 : Int32) * (p1 - p2)) &&& 31).toUInt32).toInt32))])) (fun tt_ kk_ => XS.iushr X0.here hx rfl (hb hby d3_26) rfl kk_) ?_
      refine Ends.to (T' := s₁) (g' := (mkF m 29 #[.val (.int p1), .val (.int p2), .val (.int p3), .val (.int p4), .val (.int p5), .val (.int (p1 - p2)), .unset] [(.int (127 : Int32)), (.int ((p4.toUInt32 >>> (((7 : Int32) * (p1 - p2)) &&& 31).toUInt32).toInt32))])) (fun tt_ kk_ => XS.bipush X0.here hx rfl (hb hby d3_27) kk_) ?_
      refine Ends.to (T' := s₁) (g' := (mkF m 30 #[.val (.int p1), .val (.int p2), .val (.int p3), .val (.int p4), .val (.int p5), .val (.int (p1 - p2)), .unset] [(.int (((p4.toUInt32 >>> (((7 : Int32) * (p1 - p2)) &&& 31).toUInt32).toInt32) &&& (127 : Int32)))])) (fun tt_ kk_ => XS.iand X0.here hx rfl (hb hby d3_29) rfl kk_) ?_
      refine Ends.to (T' := s₁) (g' := (mkF m 32 #[.val (.int p1), .val (.int p2), .val (.int p3), .val (.int p4), .val (.int p5), .val (.int (p1 - p2)), .val (.int (((p4.toUInt32 >>> (((7 : Int32) * (p1 - p2)) &&& 31).toUInt32).toInt32) &&& (127 : Int32)))] [])) (fun tt_ kk_ => XS.istore X0.here hx rfl (hb hby d3_30) rfl (l' := #[.val (.int p1), .val (.int p2), .val (.int p3), .val (.int p4), .val (.int p5), .val (.int (p1 - p2)), .val (.int (((p4.toUInt32 >>> (((7 : Int32) * (p1 - p2)) &&& 31).toUInt32).toInt32) &&& (127 : Int32)))]) rfl kk_) ?_
      refine Ends.to (T' := s₁) (g' := (mkF m 34 #[.val (.int p1), .val (.int p2), .val (.int p3), .val (.int p4), .val (.int p5), .val (.int (p1 - p2)), .val (.int (((p4.toUInt32 >>> (((7 : Int32) * (p1 - p2)) &&& 31).toUInt32).toInt32) &&& (127 : Int32)))] [(.int (p1 - p2))])) (fun tt_ kk_ => XS.iload X0.here hx rfl (hb hby d3_32) rfl kk_) ?_
      refine Ends.to (T' := s₁) (g' := (mkF m 35 #[.val (.int p1), .val (.int p2), .val (.int p3), .val (.int p4), .val (.int p5), .val (.int (p1 - p2)), .val (.int (((p4.toUInt32 >>> (((7 : Int32) * (p1 - p2)) &&& 31).toUInt32).toInt32) &&& (127 : Int32)))] [(.int p3), (.int (p1 - p2))])) (fun tt_ kk_ => XS.iloadN X0.here hx rfl (hb hby d3_34) rfl kk_) ?_
      refine Ends.to (T' := s₁) (g' := (mkF m 36 #[.val (.int p1), .val (.int p2), .val (.int p3), .val (.int p4), .val (.int p5), .val (.int (p1 - p2)), .val (.int (((p4.toUInt32 >>> (((7 : Int32) * (p1 - p2)) &&& 31).toUInt32).toInt32) &&& (127 : Int32)))] [(.int (1 : Int32)), (.int p3), (.int (p1 - p2))])) (fun tt_ kk_ => XS.iconst X0.here hx rfl (hb hby d3_35) kk_) ?_
      refine Ends.to (T' := s₁) (g' := (mkF m 37 #[.val (.int p1), .val (.int p2), .val (.int p3), .val (.int p4), .val (.int p5), .val (.int (p1 - p2)), .val (.int (((p4.toUInt32 >>> (((7 : Int32) * (p1 - p2)) &&& 31).toUInt32).toInt32) &&& (127 : Int32)))] [(.int (p3 - (1 : Int32))), (.int (p1 - p2))])) (fun tt_ kk_ => XS.isub X0.here hx rfl (hb hby d3_36) rfl kk_) ?_
      by_cases hc37 : (p1 - p2) < (p3 - (1 : Int32))
      · refine Ends.to (T' := s₁) (g' := (mkF m 40 #[.val (.int p1), .val (.int p2), .val (.int p3), .val (.int p4), .val (.int p5), .val (.int (p1 - p2)), .val (.int (((p4.toUInt32 >>> (((7 : Int32) * (p1 - p2)) &&& 31).toUInt32).toInt32) &&& (127 : Int32)))] [])) (fun tt_ kk_ => XS.icmpNo X0.here hx rfl (hb hby d3_37) rfl (tlt hc37).2.1 kk_) ?_
        refine Ends.to (T' := s₁) (g' := (mkF m 42 #[.val (.int p1), .val (.int p2), .val (.int p3), .val (.int p4), .val (.int p5), .val (.int (p1 - p2)), .val (.int (((p4.toUInt32 >>> (((7 : Int32) * (p1 - p2)) &&& 31).toUInt32).toInt32) &&& (127 : Int32)))] [(.int (((p4.toUInt32 >>> (((7 : Int32) * (p1 - p2)) &&& 31).toUInt32).toInt32) &&& (127 : Int32)))])) (fun tt_ kk_ => XS.iload X0.here hx rfl (hb hby d3_40) rfl kk_) ?_
        refine Ends.to (T' := s₁) (g' := (mkF m 45 #[.val (.int p1), .val (.int p2), .val (.int p3), .val (.int p4), .val (.int p5), .val (.int (p1 - p2)), .val (.int (((p4.toUInt32 >>> (((7 : Int32) * (p1 - p2)) &&& 31).toUInt32).toInt32) &&& (127 : Int32)))] [(.int (128 : Int32)), (.int (((p4.toUInt32 >>> (((7 : Int32) * (p1 - p2)) &&& 31).toUInt32).toInt32) &&& (127 : Int32)))])) (fun tt_ kk_ => XS.sipush X0.here hx rfl (hb hby d3_42) kk_) ?_
        refine Ends.to (T' := s₁) (g' := (mkF m 46 #[.val (.int p1), .val (.int p2), .val (.int p3), .val (.int p4), .val (.int p5), .val (.int (p1 - p2)), .val (.int (((p4.toUInt32 >>> (((7 : Int32) * (p1 - p2)) &&& 31).toUInt32).toInt32) &&& (127 : Int32)))] [(.int ((((p4.toUInt32 >>> (((7 : Int32) * (p1 - p2)) &&& 31).toUInt32).toInt32) &&& (127 : Int32)) ||| (128 : Int32)))])) (fun tt_ kk_ => XS.ior X0.here hx rfl (hb hby d3_45) rfl kk_) ?_
        refine Ends.to (T' := s₁) (g' := (mkF m 48 #[.val (.int p1), .val (.int p2), .val (.int p3), .val (.int p4), .val (.int p5), .val (.int (p1 - p2)), .val (.int ((((p4.toUInt32 >>> (((7 : Int32) * (p1 - p2)) &&& 31).toUInt32).toInt32) &&& (127 : Int32)) ||| (128 : Int32)))] [])) (fun tt_ kk_ => XS.istore X0.here hx rfl (hb hby d3_46) rfl (l' := #[.val (.int p1), .val (.int p2), .val (.int p3), .val (.int p4), .val (.int p5), .val (.int (p1 - p2)), .val (.int ((((p4.toUInt32 >>> (((7 : Int32) * (p1 - p2)) &&& 31).toUInt32).toInt32) &&& (127 : Int32)) ||| (128 : Int32)))]) rfl kk_) ?_
        refine Ends.to (T' := s₁) (g' := (mkF m 50 #[.val (.int p1), .val (.int p2), .val (.int p3), .val (.int p4), .val (.int p5), .val (.int (p1 - p2)), .val (.int ((((p4.toUInt32 >>> (((7 : Int32) * (p1 - p2)) &&& 31).toUInt32).toInt32) &&& (127 : Int32)) ||| (128 : Int32)))] [(.int ((((p4.toUInt32 >>> (((7 : Int32) * (p1 - p2)) &&& 31).toUInt32).toInt32) &&& (127 : Int32)) ||| (128 : Int32)))])) (fun tt_ kk_ => XS.iload X0.here hx rfl (hb hby d3_48) rfl kk_) ?_
        refine Ends.to (T' := s₁) (g' := (mkF m 51 #[.val (.int p1), .val (.int p2), .val (.int p3), .val (.int p4), .val (.int p5), .val (.int (p1 - p2)), .val (.int ((((p4.toUInt32 >>> (((7 : Int32) * (p1 - p2)) &&& 31).toUInt32).toInt32) &&& (127 : Int32)) ||| (128 : Int32)))] [(.int (((((p4.toUInt32 >>> (((7 : Int32) * (p1 - p2)) &&& 31).toUInt32).toInt32) &&& (127 : Int32)) ||| (128 : Int32)).toInt8.toInt32))])) (fun tt_ kk_ => XS.i2b X0.here hx rfl (hb hby d3_50) rfl kk_) ?_
        exact Ends.retN (t := .byte) (by simp) X0 hx hret (hb hby d3_51) hlk (by decide) (by decide) ⟨by simp only [own_xp, nar, if_neg hc2, if_pos hc9, if_pos hc37] ; first | done | rfl, N0, e0⟩
      · refine Ends.to (T' := s₁) (g' := (mkF m 48 #[.val (.int p1), .val (.int p2), .val (.int p3), .val (.int p4), .val (.int p5), .val (.int (p1 - p2)), .val (.int (((p4.toUInt32 >>> (((7 : Int32) * (p1 - p2)) &&& 31).toUInt32).toInt32) &&& (127 : Int32)))] [])) (fun tt_ kk_ => XS.icmpYes X0.here hx rfl (pc0 := 37) (pc' := 48) rfl (hb hby d3_37) rfl (flt hc37).2.1 (by decide) (by decide) kk_) ?_
        refine Ends.to (T' := s₁) (g' := (mkF m 50 #[.val (.int p1), .val (.int p2), .val (.int p3), .val (.int p4), .val (.int p5), .val (.int (p1 - p2)), .val (.int (((p4.toUInt32 >>> (((7 : Int32) * (p1 - p2)) &&& 31).toUInt32).toInt32) &&& (127 : Int32)))] [(.int (((p4.toUInt32 >>> (((7 : Int32) * (p1 - p2)) &&& 31).toUInt32).toInt32) &&& (127 : Int32)))])) (fun tt_ kk_ => XS.iload X0.here hx rfl (hb hby d3_48) rfl kk_) ?_
        refine Ends.to (T' := s₁) (g' := (mkF m 51 #[.val (.int p1), .val (.int p2), .val (.int p3), .val (.int p4), .val (.int p5), .val (.int (p1 - p2)), .val (.int (((p4.toUInt32 >>> (((7 : Int32) * (p1 - p2)) &&& 31).toUInt32).toInt32) &&& (127 : Int32)))] [(.int ((((p4.toUInt32 >>> (((7 : Int32) * (p1 - p2)) &&& 31).toUInt32).toInt32) &&& (127 : Int32)).toInt8.toInt32))])) (fun tt_ kk_ => XS.i2b X0.here hx rfl (hb hby d3_50) rfl kk_) ?_
        exact Ends.retN (t := .byte) (by simp) X0 hx hret (hb hby d3_51) hlk (by decide) (by decide) ⟨by simp only [own_xp, nar, if_neg hc2, if_pos hc9, if_neg hc37] ; first | done | rfl, N0, e0⟩
    · refine Ends.to (T' := s₁) (g' := (mkF m 12 #[.val (.int p1), .val (.int p2), .val (.int p3), .val (.int p4), .val (.int p5), .unset, .unset] [])) (fun tt_ kk_ => XS.icmpNo X0.here hx rfl (hb hby d3_9) rfl (flt hc9).1 kk_) ?_
      refine Ends.to (T' := s₁) (g' := (mkF m 14 #[.val (.int p1), .val (.int p2), .val (.int p3), .val (.int p4), .val (.int p5), .unset, .unset] [(.int p5)])) (fun tt_ kk_ => XS.iload X0.here hx rfl (hb hby d3_12) rfl kk_) ?_
      exact Ends.retN (t := .byte) (by simp) X0 hx hret (hb hby d3_14) hlk (by decide) (by decide) ⟨by simp only [own_xp, nar, if_neg hc2, if_neg hc9] ; first | done | rfl, N0, e0⟩
theorem own_nb4 (v : Int32) : own_nb 4 v = if own_u v < 128 then 1 else if own_u v < 16384 then 2 else if own_u v < 2097152 then 3 else if own_u v < 268435456 then 4 else 5 := by
  simp only [own_nb, own_h7, own_u_s7]
  have := own_u_lt v
  by_cases a : own_u v < 128
  · simp only [if_pos a]
  by_cases b : own_u v < 16384
  · simp only [if_neg a, if_pos b, if_pos (show own_u v / 128 < 128 from by omega)]
  by_cases c : own_u v < 2097152
  · simp only [if_neg a, if_neg b, if_pos c, if_neg (show ¬ own_u v / 128 < 128 from by omega), if_pos (show own_u v / 128 / 128 < 128 from by omega)]
  by_cases d : own_u v < 268435456
  · simp only [if_neg a, if_neg b, if_neg c, if_pos d, if_neg (show ¬ own_u v / 128 < 128 from by omega), if_neg (show ¬ own_u v / 128 / 128 < 128 from by omega), if_pos (show own_u v / 128 / 128 / 128 < 128 from by omega)]
  · simp only [if_neg a, if_neg b, if_neg c, if_neg d, if_neg (show ¬ own_u v / 128 < 128 from by omega), if_neg (show ¬ own_u v / 128 / 128 < 128 from by omega), if_neg (show ¬ own_u v / 128 / 128 / 128 < 128 from by omega)]
def own_sd : Nat → Int32 → Int32
  | 0, v => v
  | d + 1, v => own_sd d (own_s7 v)
def own_bt (v : Int32) (n d : Nat) : Int32 := if d + 1 < n then own_by ((own_sd d v &&& 127) ||| 128) else own_by (own_sd d v)
theorem own_nb_pos (k : Nat) (v : Int32) : 1 ≤ own_nb k v := by
  cases k with
  | zero => exact Nat.le_refl _
  | succ k => unfold own_nb; split <;> omega
theorem own_wv_at : ∀ (k : Nat) (v : Int32) (i : Nat) (f : Nat → Int32) (j : Nat), own_wv k v i f j = if j < i ∨ i + own_nb k v ≤ j then f j else own_bt v (own_nb k v) (j - i) := by
  intro k
  induction k with
  | zero =>
    intro v i f j
    show upd f i (own_by v) j = if j < i ∨ i + 1 ≤ j then f j else own_bt v 1 (j - i)
    by_cases e : j = i
    · subst e
      rw [upd_same, if_neg (by omega), Nat.sub_self]; rfl
    · rw [upd_ne _ _ e, if_pos (by omega)]
  | succ k ih =>
    intro v i f j
    by_cases hc : v &&& (-128) = 0
    · simp only [own_wv, own_nb, if_pos hc]
      by_cases e : j = i
      · subst e
        rw [upd_same, if_neg (by omega), Nat.sub_self]; rfl
      · rw [upd_ne _ _ e, if_pos (by omega)]
    · simp only [own_wv, own_nb, if_neg hc]
      rw [ih]
      have hp := own_nb_pos k (own_s7 v)
      by_cases e : j = i
      · subst e
        rw [if_pos (by omega), upd_same, if_neg (by omega), Nat.sub_self]
        unfold own_bt
        rw [if_pos (by omega)]; rfl
      by_cases h1 : j < i ∨ i + (own_nb k (own_s7 v) + 1) ≤ j
      · rw [if_pos h1, if_pos (by omega), upd_ne _ _ e]
      · rw [if_neg h1, if_neg (by omega)]
        obtain ⟨d, rfl⟩ : ∃ d, j = i + 1 + d := ⟨j - (i + 1), by omega⟩
        rw [show i + 1 + d - (i + 1) = d from by omega, show i + 1 + d - i = d + 1 from by omega]
        unfold own_bt
        by_cases h2 : d + 1 < own_nb k (own_s7 v)
        · rw [if_pos h2, if_pos (by omega)]; rfl
        · rw [if_neg h2, if_neg (by omega)]; rfl
theorem own_h14 (v : Int32) : v &&& (-16384) = 0 ↔ own_u v < 16384 := own_hi (k := 14) (by decide) (by decide)
theorem own_h21 (v : Int32) : v &&& (-2097152) = 0 ↔ own_u v < 2097152 := own_hi (k := 21) (by decide) (by decide)
theorem own_h28 (v : Int32) : v &&& (-268435456) = 0 ↔ own_u v < 268435456 := own_hi (k := 28) (by decide) (by decide)
theorem own_ln_eq (v : Int32) : own_ln v = Int32.ofNat (own_nb 4 v) := by
  rw [own_nb4]
  unfold own_ln
  simp only [own_h7, own_h14, own_h21, own_h28]
  split
  · decide
  split
  · decide
  split
  · decide
  split <;> decide
theorem own_next (v : Int32) (t : Nat) : Int32.ofNat (t + own_nb 4 v) = Int32.ofNat t + own_ln v := by rw [own_ln_eq, Int32.ofNat_add]
theorem own_rem {r y : Int32} {n : Int} (hr : 0 ≤ r.toInt) (hy : y.toInt = n) : (r % y).toInt = r.toInt % n := by rw [Jvm.Kit.i32_rem_nonneg hr, hy]
theorem own_at {x a : Int32} (h : (x &&& 2147483647) % 7 = a) : ∃ t : Nat, t + 5 ≤ 12 ∧ a = Int32.ofNat t := by
  have e := own_rem (y := 7) (n := 7) (own_31 x) rfl
  rw [h] at e
  obtain ⟨n, rfl, hn⟩ := own_of (x := a) (by omega)
  exact ⟨n, by omega, rfl⟩
theorem own_b8 {x z : Int32} (h : x.toInt8.toInt32 = z) : z.toInt8.toInt32 = z := by rw [← h, Int8.toInt8_toInt32]
theorem own_fill {z : Int32} (hz : z.toInt8.toInt32 = z) : ∀ j, j < 12 → Value.int (upd (upd (upd (upd (upd (upd (upd (upd (upd (upd (upd (upd (fun _ => (0 : Int32)) 0 z.toInt8.toInt32) 1 z.toInt8.toInt32) 2 z.toInt8.toInt32) 3 z.toInt8.toInt32) 4 z.toInt8.toInt32) 5 z.toInt8.toInt32) 6 z.toInt8.toInt32) 7 z.toInt8.toInt32) 8 z.toInt8.toInt32) 9 z.toInt8.toInt32) 10 z.toInt8.toInt32) 11 z.toInt8.toInt32 j) = Value.int z := by
  intro j hj
  have : j = 0 ∨ j = 1 ∨ j = 2 ∨ j = 3 ∨ j = 4 ∨ j = 5 ∨ j = 6 ∨ j = 7 ∨ j = 8 ∨ j = 9 ∨ j = 10 ∨ j = 11 := by omega
  rcases this with rfl | rfl | rfl | rfl | rfl | rfl | rfl | rfl | rfl | rfl | rfl | rfl <;> simp [upd, hz]
theorem own_cmp {a b : Nat} (ha : a < 64) (hb : b < 64) : (Int32.ofNat a < Int32.ofNat b ↔ a < b) := by
  rw [Int32.lt_iff_toInt_lt, own_toInt (by omega), own_toInt (by omega)]; omega
theorem own_subn {a b : Nat} (hb : b ≤ a) (ha : a < 64) : Int32.ofNat a - Int32.ofNat b = Int32.ofNat (a - b) := by
  apply Int32.toInt_inj.mp
  rw [Jvm.Kit.i32_sub (by rw [own_toInt (by omega), own_toInt (by omega)]; omega) (by rw [own_toInt (by omega), own_toInt (by omega)]; omega), own_toInt (by omega), own_toInt (by omega), own_toInt (by omega)]; omega
theorem own_u_sd : ∀ (d : Nat) (v : Int32), own_u (own_sd d v) = own_u v / 128 ^ d := by
  intro d
  induction d with
  | zero => intro v; simp [own_sd]
  | succ d ih => intro v; rw [own_sd, ih, own_u_s7, Nat.div_div_eq_div_mul, Nat.pow_succ, Nat.mul_comm]
theorem own_sd_eq (v : Int32) {d : Nat} (hd : d ≤ 4) : (v.toUInt32 >>> ((7 * Int32.ofNat d) &&& 31).toUInt32).toInt32 = own_sd d v := by
  apply own_u_inj
  rw [own_u_sd]
  show (v.toUInt32 >>> ((7 * Int32.ofNat d) &&& 31).toUInt32).toNat = _
  rw [UInt32.toNat_shiftRight, Nat.shiftRight_eq_div_pow]
  have : d = 0 ∨ d = 1 ∨ d = 2 ∨ d = 3 ∨ d = 4 := by omega
  rcases this with rfl | rfl | rfl | rfl | rfl <;> rfl
theorem own_127 {x : Int32} (h : own_u x < 128) : x &&& 127 = x := by
  apply own_u_inj
  rw [own_u_and, show own_u 127 = 2 ^ 7 - 1 from by decide, Nat.and_two_pow_sub_one_eq_mod]
  exact Nat.mod_eq_of_lt h
theorem own_nb_le (v : Int32) : own_nb 4 v ≤ 5 := by rw [own_nb4]; split <;> (try split) <;> (try split) <;> (try split) <;> omega
theorem own_last (v : Int32) {d : Nat} (h : d + 1 = own_nb 4 v) : own_u (own_sd d v) < 128 := by
  rw [own_u_sd]
  rw [own_nb4] at h
  have := own_u_lt v
  split at h
  · obtain rfl : d = 0 := by omega
    simpa using by assumption
  split at h
  · obtain rfl : d = 1 := by omega
    rw [show 128 ^ 1 = 128 from rfl]; omega
  split at h
  · obtain rfl : d = 2 := by omega
    rw [show 128 ^ 2 = 16384 from rfl]; omega
  split at h
  · obtain rfl : d = 3 := by omega
    rw [show 128 ^ 3 = 2097152 from rfl]; omega
  · obtain rfl : d = 4 := by omega
    rw [show 128 ^ 4 = 268435456 from rfl]; omega
theorem own_same (v : Int32) {t : Nat} {fb : Int32} (ht : t + 5 ≤ 12) (hf : fb.toInt8.toInt32 = fb) (i : Nat) (hi : i < 12) : own_wv 4 v t (fun _ => fb) i = own_xp (Int32.ofNat i) (Int32.ofNat t) (own_ln v) v fb := by
  rw [own_wv_at, own_ln_eq]
  have h5 := own_nb_le v
  have h1 := own_nb_pos 4 v
  unfold own_xp
  by_cases a : i < t
  · rw [if_pos (Or.inl a), if_pos ((own_cmp (by omega) (by omega)).mpr a), hf]
  rw [if_neg (fun q => a ((own_cmp (by omega) (by omega)).mp q)), ← Int32.ofNat_add]
  by_cases b : t + own_nb 4 v ≤ i
  · rw [if_pos (Or.inr b), if_neg (fun q => by have := (own_cmp (by omega) (by omega)).mp q; omega), hf]
  rw [if_neg (by omega), if_pos ((own_cmp (by omega) (by omega)).mpr (by omega)), own_subn (by omega) (by omega), own_sd_eq v (by omega)]
  rw [show (1 : Int32) = Int32.ofNat 1 from rfl, own_subn (a := own_nb 4 v) (b := 1) (by omega) (by omega)]
  unfold own_bt
  by_cases e : i - t + 1 < own_nb 4 v
  · rw [if_pos e, if_pos ((own_cmp (by omega) (by omega)).mpr (by omega))]
  · rw [if_neg e, if_neg (fun q => by have := (own_cmp (by omega) (by omega)).mp q; omega), own_127 (own_last v (by omega))]
theorem own_nexL {v ln : Int32} (hl : own_ln v = ln) (t : Nat) : Int32.ofNat (t + own_nb 4 v) = Int32.ofNat t + ln := hl ▸ own_next v t
theorem own_samL {v ln : Int32} {t : Nat} {fb : Int32} {W : Nat → Int32} (hW : own_wv 4 v t (fun _ => fb) = W) (hl : own_ln v = ln) (ht : t + 5 ≤ 12) (hf : fb.toInt8.toInt32 = fb) (i : Nat) (hi : i < 12) : W i = own_xp (Int32.ofNat i) (Int32.ofNat t) ln v fb := by
  subst hW hl
  exact own_same v ht hf i hi
set_option maxRecDepth 65536 in
set_option maxHeartbeats 40000000 in
def Q_rm0 (Z : State) (p1 p2 p3 : Int32) (h0 : Heap) (n0 : Nat) : Option Value → Heap → List Loc → Prop := fun v h L => v = some (.int 1) ∧ Fr n0 L
set_option maxRecDepth 65536 in
set_option maxHeartbeats 40000000 in
theorem rm0 (l : Launch) (Z : State) (a0 : Array Value) (hw : ∀ d ∈ tables_1, d.before a0 Z = true) (ws : List Jvm.Cond) (p1 p2 p3 : Int32) (h0 : Heap) (n0 : Nat) (Z0 : n0 ≤ h0.size) :
    Pays l x code maxLocals ret ws room_1 #[(.int p1), (.int p2), (.int p3)] Z h0 (Q_rm0 Z p1 p2 p3 h0 n0) := by
  refine Pays.of (plainFor_of_name pn_0) ?_
  intro p e s m below meth c s₁ hx hby hml hown hnm hret hlk hZ X0 e0
  have hown : s.vm.findClass "com/example/trieval/trieval/index/IndexFileWriteVarIntPinLaw" = some m.cls := hown
  have hnm : meth.name = "law" := hnm
  have hml : c.maxLocals = 9 := hml
  show Ends p e below s _ _ (fun v h L => v = some (.int 1) ∧ Fr n0 L) s₁ _
  refine Ends.cast (ef_0 m p1 p2 p3) ?_
  have N0 := Fr.nil n0
  have Zs := Z0
  refine Ends.to (T' := s₁) (g' := (mkF m 1 #[.val (.int p1), .val (.int p2), .val (.int p3), .unset, .unset, .unset, .unset, .unset, .unset] [(.int p2)])) (fun tt_ kk_ => XS.iloadN X0.here hx rfl (hb hby at_0) rfl kk_) ?_
  refine Ends.to (T' := s₁) (g' := (mkF m 3 #[.val (.int p1), .val (.int p2), .val (.int p3), .unset, .unset, .unset, .unset, .unset, .unset] [(.int (2147483647 : Int32)), (.int p2)])) (fun tt_ kk_ => X0.ldcInt hx hown (mvT hZ (hw _ (List.mem_of_getElem? (i := 0) rfl))) (g := (mkF m 1 #[.val (.int p1), .val (.int p2), .val (.int p3), .unset, .unset, .unset, .unset, .unset, .unset] [(.int p2)])) rfl (hb hby at_1) _ kk_) ?_
  refine Ends.to (T' := s₁) (g' := (mkF m 4 #[.val (.int p1), .val (.int p2), .val (.int p3), .unset, .unset, .unset, .unset, .unset, .unset] [(.int (p2 &&& (2147483647 : Int32)))])) (fun tt_ kk_ => XS.iand X0.here hx rfl (hb hby at_3) rfl kk_) ?_
  refine Ends.to (T' := s₁) (g' := (mkF m 6 #[.val (.int p1), .val (.int p2), .val (.int p3), .unset, .unset, .unset, .unset, .unset, .unset] [(.int (7 : Int32)), (.int (p2 &&& (2147483647 : Int32)))])) (fun tt_ kk_ => XS.bipush X0.here hx rfl (hb hby at_4) kk_) ?_
  refine Ends.to (T' := s₁) (g' := (mkF m 7 #[.val (.int p1), .val (.int p2), .val (.int p3), .unset, .unset, .unset, .unset, .unset, .unset] [(.int ((p2 &&& (2147483647 : Int32)) % (7 : Int32)))])) (fun tt_ kk_ => Jvm.RoadKit.iremM X0 hx rfl (hb hby at_6) rfl (by decide) kk_) ?_
  refine Ends.to (T' := s₁) (g' := (mkF m 8 #[.val (.int p1), .val (.int p2), .val (.int p3), .val (.int ((p2 &&& (2147483647 : Int32)) % (7 : Int32))), .unset, .unset, .unset, .unset, .unset] [])) (fun tt_ kk_ => XS.istoreN X0.here hx rfl (hb hby at_7) rfl (l' := #[.val (.int p1), .val (.int p2), .val (.int p3), .val (.int ((p2 &&& (2147483647 : Int32)) % (7 : Int32))), .unset, .unset, .unset, .unset, .unset]) rfl kk_) ?_
  generalize hat1 : ((p2 &&& (2147483647 : Int32)) % (7 : Int32)) = at1
  obtain ⟨t, ht, rfl⟩ := own_at hat1
  refine Ends.to (T' := s₁) (g' := (mkF m 9 #[.val (.int p1), .val (.int p2), .val (.int p3), .val (.int (Int32.ofNat t)), .unset, .unset, .unset, .unset, .unset] [(.int p3)])) (fun tt_ kk_ => XS.iloadN X0.here hx rfl (hb hby at_8) rfl kk_) ?_
  refine Ends.to (T' := s₁) (g' := (mkF m 10 #[.val (.int p1), .val (.int p2), .val (.int p3), .val (.int (Int32.ofNat t)), .unset, .unset, .unset, .unset, .unset] [(.int (p3.toInt8.toInt32))])) (fun tt_ kk_ => XS.i2b X0.here hx rfl (hb hby at_9) rfl kk_) ?_
  refine Ends.to (T' := s₁) (g' := (mkF m 12 #[.val (.int p1), .val (.int p2), .val (.int p3), .val (.int (Int32.ofNat t)), .val (.int (p3.toInt8.toInt32)), .unset, .unset, .unset, .unset] [])) (fun tt_ kk_ => XS.istore X0.here hx rfl (hb hby at_10) rfl (l' := #[.val (.int p1), .val (.int p2), .val (.int p3), .val (.int (Int32.ofNat t)), .val (.int (p3.toInt8.toInt32)), .unset, .unset, .unset, .unset]) rfl kk_) ?_
  generalize hfb : (p3.toInt8.toInt32) = fb
  refine Ends.to (T' := s₁) (g' := (mkF m 14 #[.val (.int p1), .val (.int p2), .val (.int p3), .val (.int (Int32.ofNat t)), .val (.int fb), .unset, .unset, .unset, .unset] [(.int (12 : Int32))])) (fun tt_ kk_ => XS.bipush X0.here hx rfl (hb hby at_12) kk_) ?_
  obtain ⟨T4, h4, k4, X4, e4, E4, A4, st4⟩ := newP X0 hx hZ (hw _ (List.mem_of_getElem? (i := 1) rfl)) e0 (g := (mkF m 14 #[.val (.int p1), .val (.int p2), .val (.int p3), .val (.int (Int32.ofNat t)), .val (.int fb), .unset, .unset, .unset, .unset] [(.int (12 : Int32))])) rfl (hb hby at_14) rfl (by decide) (cap := 12) (by decide) (by decide) (by decide) (by decide)
  obtain ⟨b1, g_b1⟩ : ∃ z, z = h0.size := ⟨_, rfl⟩
  rw [← g_b1] at A4 st4
  have f_b1 : n0 ≤ b1 := Nat.le_trans Zs (Nat.le_of_eq g_b1.symm)
  have Zs := Nat.le_trans Zs E4.1
  have B_b1 : BB Z h4 b1 12 (fun _ => 0) := BA.freshB A4 rfl
  refine Ends.to (T' := T4) (g' := (mkF m 16 #[.val (.int p1), .val (.int p2), .val (.int p3), .val (.int (Int32.ofNat t)), .val (.int fb), .unset, .unset, .unset, .unset] [(.ref b1)])) (fun tt_ kk_ => st4 tt_ kk_) ?_
  refine Ends.to (T' := T4) (g' := (mkF m 17 #[.val (.int p1), .val (.int p2), .val (.int p3), .val (.int (Int32.ofNat t)), .val (.int fb), .unset, .unset, .unset, .unset] [(.ref b1), (.ref b1)])) (fun tt_ kk_ => XS.dup X4.here hx rfl (hb hby at_16) rfl rfl kk_) ?_
  refine Ends.to (T' := T4) (g' := (mkF m 18 #[.val (.int p1), .val (.int p2), .val (.int p3), .val (.int (Int32.ofNat t)), .val (.int fb), .unset, .unset, .unset, .unset] [(.int (0 : Int32)), (.ref b1), (.ref b1)])) (fun tt_ kk_ => XS.iconst X4.here hx rfl (hb hby at_17) kk_) ?_
  refine Ends.to (T' := T4) (g' := (mkF m 20 #[.val (.int p1), .val (.int p2), .val (.int p3), .val (.int (Int32.ofNat t)), .val (.int fb), .unset, .unset, .unset, .unset] [(.int fb), (.int (0 : Int32)), (.ref b1), (.ref b1)])) (fun tt_ kk_ => XS.iload X4.here hx rfl (hb hby at_18) rfl kk_) ?_
  obtain ⟨T5, h5, X5, e5, W5, B_b1', st5⟩ := BA.stB X4 hx hZ e4 B_b1 (j := (0 : Int32)) (i := 0) (by decide) rfl (by decide) (g := (mkF m 20 #[.val (.int p1), .val (.int p2), .val (.int p3), .val (.int (Int32.ofNat t)), .val (.int fb), .unset, .unset, .unset, .unset] [(.int fb), (.int (0 : Int32)), (.ref b1), (.ref b1)])) rfl rfl (hb hby at_20)
  have Zs := Nat.le_trans Zs (Nat.le_of_eq (Wr.size W5).symm)
  have B_b1 := B_b1'
  clear B_b1'
  have N5 := Fr.snoc X5 N0 f_b1
  refine Ends.to (T' := T5) (g' := (mkF m 21 #[.val (.int p1), .val (.int p2), .val (.int p3), .val (.int (Int32.ofNat t)), .val (.int fb), .unset, .unset, .unset, .unset] [(.ref b1)])) (fun tt_ kk_ => st5 tt_ kk_) ?_
  refine Ends.to (T' := T5) (g' := (mkF m 22 #[.val (.int p1), .val (.int p2), .val (.int p3), .val (.int (Int32.ofNat t)), .val (.int fb), .unset, .unset, .unset, .unset] [(.ref b1), (.ref b1)])) (fun tt_ kk_ => XS.dup X5.here hx rfl (hb hby at_21) rfl rfl kk_) ?_
  refine Ends.to (T' := T5) (g' := (mkF m 23 #[.val (.int p1), .val (.int p2), .val (.int p3), .val (.int (Int32.ofNat t)), .val (.int fb), .unset, .unset, .unset, .unset] [(.int (1 : Int32)), (.ref b1), (.ref b1)])) (fun tt_ kk_ => XS.iconst X5.here hx rfl (hb hby at_22) kk_) ?_
  refine Ends.to (T' := T5) (g' := (mkF m 25 #[.val (.int p1), .val (.int p2), .val (.int p3), .val (.int (Int32.ofNat t)), .val (.int fb), .unset, .unset, .unset, .unset] [(.int fb), (.int (1 : Int32)), (.ref b1), (.ref b1)])) (fun tt_ kk_ => XS.iload X5.here hx rfl (hb hby at_23) rfl kk_) ?_
  obtain ⟨T6, h6, X6, e6, W6, B_b1', st6⟩ := BA.stB X5 hx hZ e5 B_b1 (j := (1 : Int32)) (i := 1) (by decide) rfl (by decide) (g := (mkF m 25 #[.val (.int p1), .val (.int p2), .val (.int p3), .val (.int (Int32.ofNat t)), .val (.int fb), .unset, .unset, .unset, .unset] [(.int fb), (.int (1 : Int32)), (.ref b1), (.ref b1)])) rfl rfl (hb hby at_25)
  have Zs := Nat.le_trans Zs (Nat.le_of_eq (Wr.size W6).symm)
  have B_b1 := B_b1'
  clear B_b1'
  have N6 := Fr.snoc X6 N5 f_b1
  refine Ends.to (T' := T6) (g' := (mkF m 26 #[.val (.int p1), .val (.int p2), .val (.int p3), .val (.int (Int32.ofNat t)), .val (.int fb), .unset, .unset, .unset, .unset] [(.ref b1)])) (fun tt_ kk_ => st6 tt_ kk_) ?_
  refine Ends.to (T' := T6) (g' := (mkF m 27 #[.val (.int p1), .val (.int p2), .val (.int p3), .val (.int (Int32.ofNat t)), .val (.int fb), .unset, .unset, .unset, .unset] [(.ref b1), (.ref b1)])) (fun tt_ kk_ => XS.dup X6.here hx rfl (hb hby at_26) rfl rfl kk_) ?_
  refine Ends.to (T' := T6) (g' := (mkF m 28 #[.val (.int p1), .val (.int p2), .val (.int p3), .val (.int (Int32.ofNat t)), .val (.int fb), .unset, .unset, .unset, .unset] [(.int (2 : Int32)), (.ref b1), (.ref b1)])) (fun tt_ kk_ => XS.iconst X6.here hx rfl (hb hby at_27) kk_) ?_
  refine Ends.to (T' := T6) (g' := (mkF m 30 #[.val (.int p1), .val (.int p2), .val (.int p3), .val (.int (Int32.ofNat t)), .val (.int fb), .unset, .unset, .unset, .unset] [(.int fb), (.int (2 : Int32)), (.ref b1), (.ref b1)])) (fun tt_ kk_ => XS.iload X6.here hx rfl (hb hby at_28) rfl kk_) ?_
  obtain ⟨T7, h7, X7, e7, W7, B_b1', st7⟩ := BA.stB X6 hx hZ e6 B_b1 (j := (2 : Int32)) (i := 2) (by decide) rfl (by decide) (g := (mkF m 30 #[.val (.int p1), .val (.int p2), .val (.int p3), .val (.int (Int32.ofNat t)), .val (.int fb), .unset, .unset, .unset, .unset] [(.int fb), (.int (2 : Int32)), (.ref b1), (.ref b1)])) rfl rfl (hb hby at_30)
  have Zs := Nat.le_trans Zs (Nat.le_of_eq (Wr.size W7).symm)
  have B_b1 := B_b1'
  clear B_b1'
  have N7 := Fr.snoc X7 N6 f_b1
  refine Ends.to (T' := T7) (g' := (mkF m 31 #[.val (.int p1), .val (.int p2), .val (.int p3), .val (.int (Int32.ofNat t)), .val (.int fb), .unset, .unset, .unset, .unset] [(.ref b1)])) (fun tt_ kk_ => st7 tt_ kk_) ?_
  refine Ends.to (T' := T7) (g' := (mkF m 32 #[.val (.int p1), .val (.int p2), .val (.int p3), .val (.int (Int32.ofNat t)), .val (.int fb), .unset, .unset, .unset, .unset] [(.ref b1), (.ref b1)])) (fun tt_ kk_ => XS.dup X7.here hx rfl (hb hby at_31) rfl rfl kk_) ?_
  refine Ends.to (T' := T7) (g' := (mkF m 33 #[.val (.int p1), .val (.int p2), .val (.int p3), .val (.int (Int32.ofNat t)), .val (.int fb), .unset, .unset, .unset, .unset] [(.int (3 : Int32)), (.ref b1), (.ref b1)])) (fun tt_ kk_ => XS.iconst X7.here hx rfl (hb hby at_32) kk_) ?_
  refine Ends.to (T' := T7) (g' := (mkF m 35 #[.val (.int p1), .val (.int p2), .val (.int p3), .val (.int (Int32.ofNat t)), .val (.int fb), .unset, .unset, .unset, .unset] [(.int fb), (.int (3 : Int32)), (.ref b1), (.ref b1)])) (fun tt_ kk_ => XS.iload X7.here hx rfl (hb hby at_33) rfl kk_) ?_
  obtain ⟨T8, h8, X8, e8, W8, B_b1', st8⟩ := BA.stB X7 hx hZ e7 B_b1 (j := (3 : Int32)) (i := 3) (by decide) rfl (by decide) (g := (mkF m 35 #[.val (.int p1), .val (.int p2), .val (.int p3), .val (.int (Int32.ofNat t)), .val (.int fb), .unset, .unset, .unset, .unset] [(.int fb), (.int (3 : Int32)), (.ref b1), (.ref b1)])) rfl rfl (hb hby at_35)
  have Zs := Nat.le_trans Zs (Nat.le_of_eq (Wr.size W8).symm)
  have B_b1 := B_b1'
  clear B_b1'
  have N8 := Fr.snoc X8 N7 f_b1
  refine Ends.to (T' := T8) (g' := (mkF m 36 #[.val (.int p1), .val (.int p2), .val (.int p3), .val (.int (Int32.ofNat t)), .val (.int fb), .unset, .unset, .unset, .unset] [(.ref b1)])) (fun tt_ kk_ => st8 tt_ kk_) ?_
  refine Ends.to (T' := T8) (g' := (mkF m 37 #[.val (.int p1), .val (.int p2), .val (.int p3), .val (.int (Int32.ofNat t)), .val (.int fb), .unset, .unset, .unset, .unset] [(.ref b1), (.ref b1)])) (fun tt_ kk_ => XS.dup X8.here hx rfl (hb hby at_36) rfl rfl kk_) ?_
  refine Ends.to (T' := T8) (g' := (mkF m 38 #[.val (.int p1), .val (.int p2), .val (.int p3), .val (.int (Int32.ofNat t)), .val (.int fb), .unset, .unset, .unset, .unset] [(.int (4 : Int32)), (.ref b1), (.ref b1)])) (fun tt_ kk_ => XS.iconst X8.here hx rfl (hb hby at_37) kk_) ?_
  refine Ends.to (T' := T8) (g' := (mkF m 40 #[.val (.int p1), .val (.int p2), .val (.int p3), .val (.int (Int32.ofNat t)), .val (.int fb), .unset, .unset, .unset, .unset] [(.int fb), (.int (4 : Int32)), (.ref b1), (.ref b1)])) (fun tt_ kk_ => XS.iload X8.here hx rfl (hb hby at_38) rfl kk_) ?_
  obtain ⟨T9, h9, X9, e9, W9, B_b1', st9⟩ := BA.stB X8 hx hZ e8 B_b1 (j := (4 : Int32)) (i := 4) (by decide) rfl (by decide) (g := (mkF m 40 #[.val (.int p1), .val (.int p2), .val (.int p3), .val (.int (Int32.ofNat t)), .val (.int fb), .unset, .unset, .unset, .unset] [(.int fb), (.int (4 : Int32)), (.ref b1), (.ref b1)])) rfl rfl (hb hby at_40)
  have Zs := Nat.le_trans Zs (Nat.le_of_eq (Wr.size W9).symm)
  have B_b1 := B_b1'
  clear B_b1'
  have N9 := Fr.snoc X9 N8 f_b1
  refine Ends.to (T' := T9) (g' := (mkF m 41 #[.val (.int p1), .val (.int p2), .val (.int p3), .val (.int (Int32.ofNat t)), .val (.int fb), .unset, .unset, .unset, .unset] [(.ref b1)])) (fun tt_ kk_ => st9 tt_ kk_) ?_
  refine Ends.to (T' := T9) (g' := (mkF m 42 #[.val (.int p1), .val (.int p2), .val (.int p3), .val (.int (Int32.ofNat t)), .val (.int fb), .unset, .unset, .unset, .unset] [(.ref b1), (.ref b1)])) (fun tt_ kk_ => XS.dup X9.here hx rfl (hb hby at_41) rfl rfl kk_) ?_
  refine Ends.to (T' := T9) (g' := (mkF m 43 #[.val (.int p1), .val (.int p2), .val (.int p3), .val (.int (Int32.ofNat t)), .val (.int fb), .unset, .unset, .unset, .unset] [(.int (5 : Int32)), (.ref b1), (.ref b1)])) (fun tt_ kk_ => XS.iconst X9.here hx rfl (hb hby at_42) kk_) ?_
  refine Ends.to (T' := T9) (g' := (mkF m 45 #[.val (.int p1), .val (.int p2), .val (.int p3), .val (.int (Int32.ofNat t)), .val (.int fb), .unset, .unset, .unset, .unset] [(.int fb), (.int (5 : Int32)), (.ref b1), (.ref b1)])) (fun tt_ kk_ => XS.iload X9.here hx rfl (hb hby at_43) rfl kk_) ?_
  obtain ⟨T10, h10, X10, e10, W10, B_b1', st10⟩ := BA.stB X9 hx hZ e9 B_b1 (j := (5 : Int32)) (i := 5) (by decide) rfl (by decide) (g := (mkF m 45 #[.val (.int p1), .val (.int p2), .val (.int p3), .val (.int (Int32.ofNat t)), .val (.int fb), .unset, .unset, .unset, .unset] [(.int fb), (.int (5 : Int32)), (.ref b1), (.ref b1)])) rfl rfl (hb hby at_45)
  have Zs := Nat.le_trans Zs (Nat.le_of_eq (Wr.size W10).symm)
  have B_b1 := B_b1'
  clear B_b1'
  have N10 := Fr.snoc X10 N9 f_b1
  refine Ends.to (T' := T10) (g' := (mkF m 46 #[.val (.int p1), .val (.int p2), .val (.int p3), .val (.int (Int32.ofNat t)), .val (.int fb), .unset, .unset, .unset, .unset] [(.ref b1)])) (fun tt_ kk_ => st10 tt_ kk_) ?_
  refine Ends.to (T' := T10) (g' := (mkF m 47 #[.val (.int p1), .val (.int p2), .val (.int p3), .val (.int (Int32.ofNat t)), .val (.int fb), .unset, .unset, .unset, .unset] [(.ref b1), (.ref b1)])) (fun tt_ kk_ => XS.dup X10.here hx rfl (hb hby at_46) rfl rfl kk_) ?_
  refine Ends.to (T' := T10) (g' := (mkF m 49 #[.val (.int p1), .val (.int p2), .val (.int p3), .val (.int (Int32.ofNat t)), .val (.int fb), .unset, .unset, .unset, .unset] [(.int (6 : Int32)), (.ref b1), (.ref b1)])) (fun tt_ kk_ => XS.bipush X10.here hx rfl (hb hby at_47) kk_) ?_
  refine Ends.to (T' := T10) (g' := (mkF m 51 #[.val (.int p1), .val (.int p2), .val (.int p3), .val (.int (Int32.ofNat t)), .val (.int fb), .unset, .unset, .unset, .unset] [(.int fb), (.int (6 : Int32)), (.ref b1), (.ref b1)])) (fun tt_ kk_ => XS.iload X10.here hx rfl (hb hby at_49) rfl kk_) ?_
  obtain ⟨T11, h11, X11, e11, W11, B_b1', st11⟩ := BA.stB X10 hx hZ e10 B_b1 (j := (6 : Int32)) (i := 6) (by decide) rfl (by decide) (g := (mkF m 51 #[.val (.int p1), .val (.int p2), .val (.int p3), .val (.int (Int32.ofNat t)), .val (.int fb), .unset, .unset, .unset, .unset] [(.int fb), (.int (6 : Int32)), (.ref b1), (.ref b1)])) rfl rfl (hb hby at_51)
  have Zs := Nat.le_trans Zs (Nat.le_of_eq (Wr.size W11).symm)
  have B_b1 := B_b1'
  clear B_b1'
  have N11 := Fr.snoc X11 N10 f_b1
  refine Ends.to (T' := T11) (g' := (mkF m 52 #[.val (.int p1), .val (.int p2), .val (.int p3), .val (.int (Int32.ofNat t)), .val (.int fb), .unset, .unset, .unset, .unset] [(.ref b1)])) (fun tt_ kk_ => st11 tt_ kk_) ?_
  refine Ends.to (T' := T11) (g' := (mkF m 53 #[.val (.int p1), .val (.int p2), .val (.int p3), .val (.int (Int32.ofNat t)), .val (.int fb), .unset, .unset, .unset, .unset] [(.ref b1), (.ref b1)])) (fun tt_ kk_ => XS.dup X11.here hx rfl (hb hby at_52) rfl rfl kk_) ?_
  refine Ends.to (T' := T11) (g' := (mkF m 55 #[.val (.int p1), .val (.int p2), .val (.int p3), .val (.int (Int32.ofNat t)), .val (.int fb), .unset, .unset, .unset, .unset] [(.int (7 : Int32)), (.ref b1), (.ref b1)])) (fun tt_ kk_ => XS.bipush X11.here hx rfl (hb hby at_53) kk_) ?_
  refine Ends.to (T' := T11) (g' := (mkF m 57 #[.val (.int p1), .val (.int p2), .val (.int p3), .val (.int (Int32.ofNat t)), .val (.int fb), .unset, .unset, .unset, .unset] [(.int fb), (.int (7 : Int32)), (.ref b1), (.ref b1)])) (fun tt_ kk_ => XS.iload X11.here hx rfl (hb hby at_55) rfl kk_) ?_
  obtain ⟨T12, h12, X12, e12, W12, B_b1', st12⟩ := BA.stB X11 hx hZ e11 B_b1 (j := (7 : Int32)) (i := 7) (by decide) rfl (by decide) (g := (mkF m 57 #[.val (.int p1), .val (.int p2), .val (.int p3), .val (.int (Int32.ofNat t)), .val (.int fb), .unset, .unset, .unset, .unset] [(.int fb), (.int (7 : Int32)), (.ref b1), (.ref b1)])) rfl rfl (hb hby at_57)
  have Zs := Nat.le_trans Zs (Nat.le_of_eq (Wr.size W12).symm)
  have B_b1 := B_b1'
  clear B_b1'
  have N12 := Fr.snoc X12 N11 f_b1
  refine Ends.to (T' := T12) (g' := (mkF m 58 #[.val (.int p1), .val (.int p2), .val (.int p3), .val (.int (Int32.ofNat t)), .val (.int fb), .unset, .unset, .unset, .unset] [(.ref b1)])) (fun tt_ kk_ => st12 tt_ kk_) ?_
  refine Ends.to (T' := T12) (g' := (mkF m 59 #[.val (.int p1), .val (.int p2), .val (.int p3), .val (.int (Int32.ofNat t)), .val (.int fb), .unset, .unset, .unset, .unset] [(.ref b1), (.ref b1)])) (fun tt_ kk_ => XS.dup X12.here hx rfl (hb hby at_58) rfl rfl kk_) ?_
  refine Ends.to (T' := T12) (g' := (mkF m 61 #[.val (.int p1), .val (.int p2), .val (.int p3), .val (.int (Int32.ofNat t)), .val (.int fb), .unset, .unset, .unset, .unset] [(.int (8 : Int32)), (.ref b1), (.ref b1)])) (fun tt_ kk_ => XS.bipush X12.here hx rfl (hb hby at_59) kk_) ?_
  refine Ends.to (T' := T12) (g' := (mkF m 63 #[.val (.int p1), .val (.int p2), .val (.int p3), .val (.int (Int32.ofNat t)), .val (.int fb), .unset, .unset, .unset, .unset] [(.int fb), (.int (8 : Int32)), (.ref b1), (.ref b1)])) (fun tt_ kk_ => XS.iload X12.here hx rfl (hb hby at_61) rfl kk_) ?_
  obtain ⟨T13, h13, X13, e13, W13, B_b1', st13⟩ := BA.stB X12 hx hZ e12 B_b1 (j := (8 : Int32)) (i := 8) (by decide) rfl (by decide) (g := (mkF m 63 #[.val (.int p1), .val (.int p2), .val (.int p3), .val (.int (Int32.ofNat t)), .val (.int fb), .unset, .unset, .unset, .unset] [(.int fb), (.int (8 : Int32)), (.ref b1), (.ref b1)])) rfl rfl (hb hby at_63)
  have Zs := Nat.le_trans Zs (Nat.le_of_eq (Wr.size W13).symm)
  have B_b1 := B_b1'
  clear B_b1'
  have N13 := Fr.snoc X13 N12 f_b1
  refine Ends.to (T' := T13) (g' := (mkF m 64 #[.val (.int p1), .val (.int p2), .val (.int p3), .val (.int (Int32.ofNat t)), .val (.int fb), .unset, .unset, .unset, .unset] [(.ref b1)])) (fun tt_ kk_ => st13 tt_ kk_) ?_
  refine Ends.to (T' := T13) (g' := (mkF m 65 #[.val (.int p1), .val (.int p2), .val (.int p3), .val (.int (Int32.ofNat t)), .val (.int fb), .unset, .unset, .unset, .unset] [(.ref b1), (.ref b1)])) (fun tt_ kk_ => XS.dup X13.here hx rfl (hb hby at_64) rfl rfl kk_) ?_
  refine Ends.to (T' := T13) (g' := (mkF m 67 #[.val (.int p1), .val (.int p2), .val (.int p3), .val (.int (Int32.ofNat t)), .val (.int fb), .unset, .unset, .unset, .unset] [(.int (9 : Int32)), (.ref b1), (.ref b1)])) (fun tt_ kk_ => XS.bipush X13.here hx rfl (hb hby at_65) kk_) ?_
  refine Ends.to (T' := T13) (g' := (mkF m 69 #[.val (.int p1), .val (.int p2), .val (.int p3), .val (.int (Int32.ofNat t)), .val (.int fb), .unset, .unset, .unset, .unset] [(.int fb), (.int (9 : Int32)), (.ref b1), (.ref b1)])) (fun tt_ kk_ => XS.iload X13.here hx rfl (hb hby at_67) rfl kk_) ?_
  obtain ⟨T14, h14, X14, e14, W14, B_b1', st14⟩ := BA.stB X13 hx hZ e13 B_b1 (j := (9 : Int32)) (i := 9) (by decide) rfl (by decide) (g := (mkF m 69 #[.val (.int p1), .val (.int p2), .val (.int p3), .val (.int (Int32.ofNat t)), .val (.int fb), .unset, .unset, .unset, .unset] [(.int fb), (.int (9 : Int32)), (.ref b1), (.ref b1)])) rfl rfl (hb hby at_69)
  have Zs := Nat.le_trans Zs (Nat.le_of_eq (Wr.size W14).symm)
  have B_b1 := B_b1'
  clear B_b1'
  have N14 := Fr.snoc X14 N13 f_b1
  refine Ends.to (T' := T14) (g' := (mkF m 70 #[.val (.int p1), .val (.int p2), .val (.int p3), .val (.int (Int32.ofNat t)), .val (.int fb), .unset, .unset, .unset, .unset] [(.ref b1)])) (fun tt_ kk_ => st14 tt_ kk_) ?_
  refine Ends.to (T' := T14) (g' := (mkF m 71 #[.val (.int p1), .val (.int p2), .val (.int p3), .val (.int (Int32.ofNat t)), .val (.int fb), .unset, .unset, .unset, .unset] [(.ref b1), (.ref b1)])) (fun tt_ kk_ => XS.dup X14.here hx rfl (hb hby at_70) rfl rfl kk_) ?_
  refine Ends.to (T' := T14) (g' := (mkF m 73 #[.val (.int p1), .val (.int p2), .val (.int p3), .val (.int (Int32.ofNat t)), .val (.int fb), .unset, .unset, .unset, .unset] [(.int (10 : Int32)), (.ref b1), (.ref b1)])) (fun tt_ kk_ => XS.bipush X14.here hx rfl (hb hby at_71) kk_) ?_
  refine Ends.to (T' := T14) (g' := (mkF m 75 #[.val (.int p1), .val (.int p2), .val (.int p3), .val (.int (Int32.ofNat t)), .val (.int fb), .unset, .unset, .unset, .unset] [(.int fb), (.int (10 : Int32)), (.ref b1), (.ref b1)])) (fun tt_ kk_ => XS.iload X14.here hx rfl (hb hby at_73) rfl kk_) ?_
  obtain ⟨T15, h15, X15, e15, W15, B_b1', st15⟩ := BA.stB X14 hx hZ e14 B_b1 (j := (10 : Int32)) (i := 10) (by decide) rfl (by decide) (g := (mkF m 75 #[.val (.int p1), .val (.int p2), .val (.int p3), .val (.int (Int32.ofNat t)), .val (.int fb), .unset, .unset, .unset, .unset] [(.int fb), (.int (10 : Int32)), (.ref b1), (.ref b1)])) rfl rfl (hb hby at_75)
  have Zs := Nat.le_trans Zs (Nat.le_of_eq (Wr.size W15).symm)
  have B_b1 := B_b1'
  clear B_b1'
  have N15 := Fr.snoc X15 N14 f_b1
  refine Ends.to (T' := T15) (g' := (mkF m 76 #[.val (.int p1), .val (.int p2), .val (.int p3), .val (.int (Int32.ofNat t)), .val (.int fb), .unset, .unset, .unset, .unset] [(.ref b1)])) (fun tt_ kk_ => st15 tt_ kk_) ?_
  refine Ends.to (T' := T15) (g' := (mkF m 77 #[.val (.int p1), .val (.int p2), .val (.int p3), .val (.int (Int32.ofNat t)), .val (.int fb), .unset, .unset, .unset, .unset] [(.ref b1), (.ref b1)])) (fun tt_ kk_ => XS.dup X15.here hx rfl (hb hby at_76) rfl rfl kk_) ?_
  refine Ends.to (T' := T15) (g' := (mkF m 79 #[.val (.int p1), .val (.int p2), .val (.int p3), .val (.int (Int32.ofNat t)), .val (.int fb), .unset, .unset, .unset, .unset] [(.int (11 : Int32)), (.ref b1), (.ref b1)])) (fun tt_ kk_ => XS.bipush X15.here hx rfl (hb hby at_77) kk_) ?_
  refine Ends.to (T' := T15) (g' := (mkF m 81 #[.val (.int p1), .val (.int p2), .val (.int p3), .val (.int (Int32.ofNat t)), .val (.int fb), .unset, .unset, .unset, .unset] [(.int fb), (.int (11 : Int32)), (.ref b1), (.ref b1)])) (fun tt_ kk_ => XS.iload X15.here hx rfl (hb hby at_79) rfl kk_) ?_
  obtain ⟨T16, h16, X16, e16, W16, B_b1', st16⟩ := BA.stB X15 hx hZ e15 B_b1 (j := (11 : Int32)) (i := 11) (by decide) rfl (by decide) (g := (mkF m 81 #[.val (.int p1), .val (.int p2), .val (.int p3), .val (.int (Int32.ofNat t)), .val (.int fb), .unset, .unset, .unset, .unset] [(.int fb), (.int (11 : Int32)), (.ref b1), (.ref b1)])) rfl rfl (hb hby at_81)
  have Zs := Nat.le_trans Zs (Nat.le_of_eq (Wr.size W16).symm)
  have B_b1 := B_b1'
  clear B_b1'
  have N16 := Fr.snoc X16 N15 f_b1
  refine Ends.to (T' := T16) (g' := (mkF m 82 #[.val (.int p1), .val (.int p2), .val (.int p3), .val (.int (Int32.ofNat t)), .val (.int fb), .unset, .unset, .unset, .unset] [(.ref b1)])) (fun tt_ kk_ => st16 tt_ kk_) ?_
  have B_b1 : BB Z h16 b1 12 (fun _ => fb) := B_b1.congr (own_fill (own_b8 hfb))
  refine Ends.to (T' := T16) (g' := (mkF m 84 #[.val (.int p1), .val (.int p2), .val (.int p3), .val (.int (Int32.ofNat t)), .val (.int fb), .val (.ref b1), .unset, .unset, .unset] [])) (fun tt_ kk_ => XS.astore X16.here hx rfl (hb hby at_82) rfl rfl (l' := #[.val (.int p1), .val (.int p2), .val (.int p3), .val (.int (Int32.ofNat t)), .val (.int fb), .val (.ref b1), .unset, .unset, .unset]) rfl kk_) ?_
  refine Ends.to (T' := T16) (g' := (mkF m 85 #[.val (.int p1), .val (.int p2), .val (.int p3), .val (.int (Int32.ofNat t)), .val (.int fb), .val (.ref b1), .unset, .unset, .unset] [(.int p1)])) (fun tt_ kk_ => XS.iloadN X16.here hx rfl (hb hby at_84) rfl kk_) ?_
  obtain ⟨_, _, ⟨T17, L17, k17, n17⟩, -, X17, ⟨Lc17, hQ17, l17, y17, z17⟩, st17⟩ := Jvm.LawKit.callS X16 hx (y := (⟨"com/example/trieval/trieval/index/IndexFileWriteVarIntPinLaw", "length", "(I)I"⟩ : MethodName)) hown (mvT hZ (hw _ (List.mem_of_getElem? (i := 2) rfl))) (mvT hZ (hw _ (List.mem_of_getElem? (i := 3) rfl))) (mvT hZ (hw _ (List.mem_of_getElem? (i := 4) rfl))) (mvT hZ (hw _ (List.mem_of_getElem? (i := 5) rfl))) (by decide) (backOf (W := 0) (rm1 l Z a0 hw [] p1 h16 n0 Zs) hZ (hw _ (List.mem_of_getElem? (i := 5) rfl)) (hw _ (List.mem_of_getElem? (i := 4) rfl)) (by decide) (by decide)) (g := (mkF m 85 #[.val (.int p1), .val (.int p2), .val (.int p3), .val (.int (Int32.ofNat t)), .val (.int fb), .val (.ref b1), .unset, .unset, .unset] [(.int p1)])) rfl (by rw [hml]; rfl) (argsL := [(.int p1)]) (rest := []) (lenOf pd_1 rfl) rfl (by show 2 * 0 + _ ≤ _; exact Nat.le_of_eq rfl) (hb hby at_85) (fun _ _ => ⟨rfl, e16, (by decide : 1 + 0 ≤ _), (by decide : 12 + 0 ≤ _)⟩)
  dsimp only [Pt.U, Pt.locs, Pt.cells, Pt.slots] at X17 l17 y17 z17 st17 hQ17
  subst y17 z17
  obtain ⟨rfl, N17q, e17q⟩ := hQ17
  have N17 : Fr n0 L17 := by rw [l17]; exact Fr.app N16 N17q
  refine Ends.to (T' := T17) (g' := (mkF m 88 #[.val (.int p1), .val (.int p2), .val (.int p3), .val (.int (Int32.ofNat t)), .val (.int fb), .val (.ref b1), .unset, .unset, .unset] [(.int (own_ln p1))])) (fun tt_ kk_ => st17 tt_ kk_) ?_
  refine Ends.to (T' := T17) (g' := (mkF m 90 #[.val (.int p1), .val (.int p2), .val (.int p3), .val (.int (Int32.ofNat t)), .val (.int fb), .val (.ref b1), .val (.int (own_ln p1)), .unset, .unset] [])) (fun tt_ kk_ => XS.istore X17.here hx rfl (hb hby at_88) rfl (l' := #[.val (.int p1), .val (.int p2), .val (.int p3), .val (.int (Int32.ofNat t)), .val (.int fb), .val (.ref b1), .val (.int (own_ln p1)), .unset, .unset]) rfl kk_) ?_
  generalize hln : (own_ln p1) = ln
  refine Ends.to (T' := T17) (g' := (mkF m 92 #[.val (.int p1), .val (.int p2), .val (.int p3), .val (.int (Int32.ofNat t)), .val (.int fb), .val (.ref b1), .val (.int ln), .unset, .unset] [(.ref b1)])) (fun tt_ kk_ => XS.aload X17.here hx rfl (hb hby at_90) rfl rfl kk_) ?_
  refine Ends.to (T' := T17) (g' := (mkF m 93 #[.val (.int p1), .val (.int p2), .val (.int p3), .val (.int (Int32.ofNat t)), .val (.int fb), .val (.ref b1), .val (.int ln), .unset, .unset] [(.int (Int32.ofNat t)), (.ref b1)])) (fun tt_ kk_ => XS.iloadN X17.here hx rfl (hb hby at_92) rfl kk_) ?_
  refine Ends.to (T' := T17) (g' := (mkF m 94 #[.val (.int p1), .val (.int p2), .val (.int p3), .val (.int (Int32.ofNat t)), .val (.int fb), .val (.ref b1), .val (.int ln), .unset, .unset] [(.int p1), (.int (Int32.ofNat t)), (.ref b1)])) (fun tt_ kk_ => XS.iloadN X17.here hx rfl (hb hby at_93) rfl kk_) ?_
  obtain ⟨_, _, ⟨T18, L18, k18, n18⟩, -, X18, ⟨Lc18, hQ18, l18, y18, z18⟩, st18⟩ := Jvm.LawKit.callS X17 hx (y := (⟨"com/example/trieval/trieval/index/IndexFile", "writeVarInt", "([BII)I"⟩ : MethodName)) hown (mvT hZ (hw _ (List.mem_of_getElem? (i := 6) rfl))) (mvT hZ (hw _ (List.mem_of_getElem? (i := 7) rfl))) (mvT hZ (hw _ (List.mem_of_getElem? (i := 8) rfl))) (mvT hZ (hw _ (List.mem_of_getElem? (i := 9) rfl))) (by decide) (backOf (W := 0) (rm2 l Z a0 hw [] b1 t p1 (fun _ => fb) h16 n0 Zs ht B_b1 f_b1) hZ (hw _ (List.mem_of_getElem? (i := 9) rfl)) (hw _ (List.mem_of_getElem? (i := 8) rfl)) (by decide) (by decide)) (g := (mkF m 94 #[.val (.int p1), .val (.int p2), .val (.int p3), .val (.int (Int32.ofNat t)), .val (.int fb), .val (.ref b1), .val (.int ln), .unset, .unset] [(.int p1), (.int (Int32.ofNat t)), (.ref b1)])) rfl (by rw [hml]; rfl) (argsL := [(.ref b1), (.int (Int32.ofNat t)), (.int p1)]) (rest := []) (lenOf pd_2 rfl) rfl (by show 2 * 0 + _ ≤ _; exact Nat.le_of_eq rfl) (hb hby at_94) (fun _ _ => ⟨rfl, e17q, (by decide : 1 + 0 ≤ _), (by decide : 12 + 0 ≤ _)⟩)
  dsimp only [Pt.U, Pt.locs, Pt.cells, Pt.slots] at X18 l18 y18 z18 st18 hQ18
  subst y18 z18
  obtain ⟨rfl, N18q, K18, G18⟩ := hQ18
  have N18 : Fr n0 L18 := by rw [l18]; exact Fr.app N17 N18q
  have Zs := Nat.le_trans Zs K18.1
  have B_b1 := G18
  refine Ends.to (T' := T18) (g' := (mkF m 97 #[.val (.int p1), .val (.int p2), .val (.int p3), .val (.int (Int32.ofNat t)), .val (.int fb), .val (.ref b1), .val (.int ln), .unset, .unset] [(.int (Int32.ofNat (t + own_nb 4 p1)))])) (fun tt_ kk_ => st18 tt_ kk_) ?_
  refine Ends.to (T' := T18) (g' := (mkF m 99 #[.val (.int p1), .val (.int p2), .val (.int p3), .val (.int (Int32.ofNat t)), .val (.int fb), .val (.ref b1), .val (.int ln), .val (.int (Int32.ofNat (t + own_nb 4 p1))), .unset] [])) (fun tt_ kk_ => XS.istore X18.here hx rfl (hb hby at_97) rfl (l' := #[.val (.int p1), .val (.int p2), .val (.int p3), .val (.int (Int32.ofNat t)), .val (.int fb), .val (.ref b1), .val (.int ln), .val (.int (Int32.ofNat (t + own_nb 4 p1))), .unset]) rfl kk_) ?_
  generalize hnx : (Int32.ofNat (t + own_nb 4 p1)) = nx
  generalize hW : own_wv 4 p1 t (fun _ => fb) = W at B_b1
  refine Ends.to (T' := T18) (g' := (mkF m 101 #[.val (.int p1), .val (.int p2), .val (.int p3), .val (.int (Int32.ofNat t)), .val (.int fb), .val (.ref b1), .val (.int ln), .val (.int nx), .unset] [(.int nx)])) (fun tt_ kk_ => XS.iload X18.here hx rfl (hb hby at_99) rfl kk_) ?_
  refine Ends.to (T' := T18) (g' := (mkF m 102 #[.val (.int p1), .val (.int p2), .val (.int p3), .val (.int (Int32.ofNat t)), .val (.int fb), .val (.ref b1), .val (.int ln), .val (.int nx), .unset] [(.int (Int32.ofNat t)), (.int nx)])) (fun tt_ kk_ => XS.iloadN X18.here hx rfl (hb hby at_101) rfl kk_) ?_
  refine Ends.to (T' := T18) (g' := (mkF m 104 #[.val (.int p1), .val (.int p2), .val (.int p3), .val (.int (Int32.ofNat t)), .val (.int fb), .val (.ref b1), .val (.int ln), .val (.int nx), .unset] [(.int ln), (.int (Int32.ofNat t)), (.int nx)])) (fun tt_ kk_ => XS.iload X18.here hx rfl (hb hby at_102) rfl kk_) ?_
  refine Ends.to (T' := T18) (g' := (mkF m 105 #[.val (.int p1), .val (.int p2), .val (.int p3), .val (.int (Int32.ofNat t)), .val (.int fb), .val (.ref b1), .val (.int ln), .val (.int nx), .unset] [(.int ((Int32.ofNat t) + ln)), (.int nx)])) (fun tt_ kk_ => XS.iadd X18.here hx rfl (hb hby at_104) rfl kk_) ?_
  refine Ends.to (T' := T18) (g' := (mkF m 108 #[.val (.int p1), .val (.int p2), .val (.int p3), .val (.int (Int32.ofNat t)), .val (.int fb), .val (.ref b1), .val (.int ln), .val (.int nx), .unset] [])) (fun tt_ kk_ => XS.icmpNo X18.here hx rfl (hb hby at_105) rfl (teq (hnx.symm.trans (own_nexL hln t))).2 kk_) ?_
  refine Ends.to (T' := T18) (g' := (mkF m 109 #[.val (.int p1), .val (.int p2), .val (.int p3), .val (.int (Int32.ofNat t)), .val (.int fb), .val (.ref b1), .val (.int ln), .val (.int nx), .unset] [(.int (1 : Int32))])) (fun tt_ kk_ => XS.iconst X18.here hx rfl (hb hby at_108) kk_) ?_
  refine Ends.to (T' := T18) (g' := (mkF m 113 #[.val (.int p1), .val (.int p2), .val (.int p3), .val (.int (Int32.ofNat t)), .val (.int fb), .val (.ref b1), .val (.int ln), .val (.int nx), .unset] [(.int (1 : Int32))])) (fun tt_ kk_ => XS.goto X18.here hx rfl (pc0 := 109) (pc' := 113) rfl (hb hby at_109) (by decide) (by decide) kk_) ?_
  refine Ends.to (T' := T18) (g' := (mkF m 115 #[.val (.int p1), .val (.int p2), .val (.int p3), .val (.int (Int32.ofNat t)), .val (.int fb), .val (.ref b1), .val (.int ln), .val (.int nx), .val (.int (1 : Int32))] [])) (fun tt_ kk_ => XS.istore X18.here hx rfl (hb hby at_113) rfl (l' := #[.val (.int p1), .val (.int p2), .val (.int p3), .val (.int (Int32.ofNat t)), .val (.int fb), .val (.ref b1), .val (.int ln), .val (.int nx), .val (.int (1 : Int32))]) rfl kk_) ?_
  refine Ends.to (T' := T18) (g' := (mkF m 117 #[.val (.int p1), .val (.int p2), .val (.int p3), .val (.int (Int32.ofNat t)), .val (.int fb), .val (.ref b1), .val (.int ln), .val (.int nx), .val (.int (1 : Int32))] [(.int (1 : Int32))])) (fun tt_ kk_ => XS.iload X18.here hx rfl (hb hby at_115) rfl kk_) ?_
  refine Ends.to (T' := T18) (g' := (mkF m 120 #[.val (.int p1), .val (.int p2), .val (.int p3), .val (.int (Int32.ofNat t)), .val (.int fb), .val (.ref b1), .val (.int ln), .val (.int nx), .val (.int (1 : Int32))] [])) (fun tt_ kk_ => XS.ifNo X18.here hx rfl (hb hby at_117) rfl ((if0 _ _).trans (feq (by decide)).1) kk_) ?_
  refine Ends.to (T' := T18) (g' := (mkF m 122 #[.val (.int p1), .val (.int p2), .val (.int p3), .val (.int (Int32.ofNat t)), .val (.int fb), .val (.ref b1), .val (.int ln), .val (.int nx), .val (.int (1 : Int32))] [(.ref b1)])) (fun tt_ kk_ => XS.aload X18.here hx rfl (hb hby at_120) rfl rfl kk_) ?_
  refine Ends.to (T' := T18) (g' := (mkF m 123 #[.val (.int p1), .val (.int p2), .val (.int p3), .val (.int (Int32.ofNat t)), .val (.int fb), .val (.ref b1), .val (.int ln), .val (.int nx), .val (.int (1 : Int32))] [(.int (0 : Int32)), (.ref b1)])) (fun tt_ kk_ => XS.iconst X18.here hx rfl (hb hby at_122) kk_) ?_
  refine Ends.to (T' := T18) (g' := (mkF m 124 #[.val (.int p1), .val (.int p2), .val (.int p3), .val (.int (Int32.ofNat t)), .val (.int fb), .val (.ref b1), .val (.int ln), .val (.int nx), .val (.int (1 : Int32))] [(.int (W 0))])) (fun tt_ kk_ => BA.ldB X18 hx hZ rfl B_b1 (j := (0 : Int32)) (i := 0) (by decide) rfl (by decide) (g := (mkF m 123 #[.val (.int p1), .val (.int p2), .val (.int p3), .val (.int (Int32.ofNat t)), .val (.int fb), .val (.ref b1), .val (.int ln), .val (.int nx), .val (.int (1 : Int32))] [(.int (0 : Int32)), (.ref b1)])) rfl rfl (hb hby at_123) tt_ kk_) ?_
  refine Ends.to (T' := T18) (g' := (mkF m 125 #[.val (.int p1), .val (.int p2), .val (.int p3), .val (.int (Int32.ofNat t)), .val (.int fb), .val (.ref b1), .val (.int ln), .val (.int nx), .val (.int (1 : Int32))] [(.int (0 : Int32)), (.int (W 0))])) (fun tt_ kk_ => XS.iconst X18.here hx rfl (hb hby at_124) kk_) ?_
  refine Ends.to (T' := T18) (g' := (mkF m 126 #[.val (.int p1), .val (.int p2), .val (.int p3), .val (.int (Int32.ofNat t)), .val (.int fb), .val (.ref b1), .val (.int ln), .val (.int nx), .val (.int (1 : Int32))] [(.int (Int32.ofNat t)), (.int (0 : Int32)), (.int (W 0))])) (fun tt_ kk_ => XS.iloadN X18.here hx rfl (hb hby at_125) rfl kk_) ?_
  refine Ends.to (T' := T18) (g' := (mkF m 128 #[.val (.int p1), .val (.int p2), .val (.int p3), .val (.int (Int32.ofNat t)), .val (.int fb), .val (.ref b1), .val (.int ln), .val (.int nx), .val (.int (1 : Int32))] [(.int ln), (.int (Int32.ofNat t)), (.int (0 : Int32)), (.int (W 0))])) (fun tt_ kk_ => XS.iload X18.here hx rfl (hb hby at_126) rfl kk_) ?_
  refine Ends.to (T' := T18) (g' := (mkF m 129 #[.val (.int p1), .val (.int p2), .val (.int p3), .val (.int (Int32.ofNat t)), .val (.int fb), .val (.ref b1), .val (.int ln), .val (.int nx), .val (.int (1 : Int32))] [(.int p1), (.int ln), (.int (Int32.ofNat t)), (.int (0 : Int32)), (.int (W 0))])) (fun tt_ kk_ => XS.iloadN X18.here hx rfl (hb hby at_128) rfl kk_) ?_
  refine Ends.to (T' := T18) (g' := (mkF m 131 #[.val (.int p1), .val (.int p2), .val (.int p3), .val (.int (Int32.ofNat t)), .val (.int fb), .val (.ref b1), .val (.int ln), .val (.int nx), .val (.int (1 : Int32))] [(.int fb), (.int p1), (.int ln), (.int (Int32.ofNat t)), (.int (0 : Int32)), (.int (W 0))])) (fun tt_ kk_ => XS.iload X18.here hx rfl (hb hby at_129) rfl kk_) ?_
  obtain ⟨_, _, ⟨T19, L19, k19, n19⟩, -, X19, ⟨Lc19, hQ19, l19, y19, z19⟩, st19⟩ := Jvm.LawKit.callS X18 hx (y := (⟨"com/example/trieval/trieval/index/IndexFileWriteVarIntPinLaw", "expected", "(IIIIB)B"⟩ : MethodName)) hown (mvT hZ (hw _ (List.mem_of_getElem? (i := 10) rfl))) (mvT hZ (hw _ (List.mem_of_getElem? (i := 11) rfl))) (mvT hZ (hw _ (List.mem_of_getElem? (i := 4) rfl))) (mvT hZ (hw _ (List.mem_of_getElem? (i := 12) rfl))) (by decide) (backOf (W := 1) (rm3 l Z a0 hw [] (0 : Int32) (Int32.ofNat t) ln p1 fb T18.heap n0 Zs) hZ (hw _ (List.mem_of_getElem? (i := 12) rfl)) (hw _ (List.mem_of_getElem? (i := 4) rfl)) (by decide) (by decide)) (g := (mkF m 131 #[.val (.int p1), .val (.int p2), .val (.int p3), .val (.int (Int32.ofNat t)), .val (.int fb), .val (.ref b1), .val (.int ln), .val (.int nx), .val (.int (1 : Int32))] [(.int fb), (.int p1), (.int ln), (.int (Int32.ofNat t)), (.int (0 : Int32)), (.int (W 0))])) rfl (by rw [hml]; rfl) (argsL := [(.int (0 : Int32)), (.int (Int32.ofNat t)), (.int ln), (.int p1), (.int fb)]) (rest := [(.int (W 0))]) (lenOf pd_3 rfl) rfl (by show 2 * 0 + _ ≤ _; exact Nat.le_of_eq rfl) (hb hby at_131) (fun _ _ => ⟨rfl, rfl, (by decide : 1 + 0 ≤ _), (by decide : 12 + 0 ≤ _)⟩)
  dsimp only [Pt.U, Pt.locs, Pt.cells, Pt.slots] at X19 l19 y19 z19 st19 hQ19
  subst y19 z19
  obtain ⟨rfl, N19q, e19q⟩ := hQ19
  have N19 : Fr n0 L19 := by rw [l19]; exact Fr.app N18 N19q
  refine Ends.to (T' := T19) (g' := (mkF m 134 #[.val (.int p1), .val (.int p2), .val (.int p3), .val (.int (Int32.ofNat t)), .val (.int fb), .val (.ref b1), .val (.int ln), .val (.int nx), .val (.int (1 : Int32))] [(.int (own_xp (0 : Int32) (Int32.ofNat t) ln p1 fb)), (.int (W 0))])) (fun tt_ kk_ => st19 tt_ kk_) ?_
  refine Ends.to (T' := T19) (g' := (mkF m 137 #[.val (.int p1), .val (.int p2), .val (.int p3), .val (.int (Int32.ofNat t)), .val (.int fb), .val (.ref b1), .val (.int ln), .val (.int nx), .val (.int (1 : Int32))] [])) (fun tt_ kk_ => XS.icmpNo X19.here hx rfl (hb hby at_134) rfl (teq (own_samL hW hln ht (own_b8 hfb) 0 (by decide))).2 kk_) ?_
  refine Ends.to (T' := T19) (g' := (mkF m 138 #[.val (.int p1), .val (.int p2), .val (.int p3), .val (.int (Int32.ofNat t)), .val (.int fb), .val (.ref b1), .val (.int ln), .val (.int nx), .val (.int (1 : Int32))] [(.int (1 : Int32))])) (fun tt_ kk_ => XS.iconst X19.here hx rfl (hb hby at_137) kk_) ?_
  refine Ends.to (T' := T19) (g' := (mkF m 142 #[.val (.int p1), .val (.int p2), .val (.int p3), .val (.int (Int32.ofNat t)), .val (.int fb), .val (.ref b1), .val (.int ln), .val (.int nx), .val (.int (1 : Int32))] [(.int (1 : Int32))])) (fun tt_ kk_ => XS.goto X19.here hx rfl (pc0 := 138) (pc' := 142) rfl (hb hby at_138) (by decide) (by decide) kk_) ?_
  refine Ends.to (T' := T19) (g' := (mkF m 144 #[.val (.int p1), .val (.int p2), .val (.int p3), .val (.int (Int32.ofNat t)), .val (.int fb), .val (.ref b1), .val (.int ln), .val (.int nx), .val (.int (1 : Int32))] [])) (fun tt_ kk_ => XS.istore X19.here hx rfl (hb hby at_142) rfl (l' := #[.val (.int p1), .val (.int p2), .val (.int p3), .val (.int (Int32.ofNat t)), .val (.int fb), .val (.ref b1), .val (.int ln), .val (.int nx), .val (.int (1 : Int32))]) rfl kk_) ?_
  refine Ends.to (T' := T19) (g' := (mkF m 146 #[.val (.int p1), .val (.int p2), .val (.int p3), .val (.int (Int32.ofNat t)), .val (.int fb), .val (.ref b1), .val (.int ln), .val (.int nx), .val (.int (1 : Int32))] [(.int (1 : Int32))])) (fun tt_ kk_ => XS.iload X19.here hx rfl (hb hby at_144) rfl kk_) ?_
  refine Ends.to (T' := T19) (g' := (mkF m 149 #[.val (.int p1), .val (.int p2), .val (.int p3), .val (.int (Int32.ofNat t)), .val (.int fb), .val (.ref b1), .val (.int ln), .val (.int nx), .val (.int (1 : Int32))] [])) (fun tt_ kk_ => XS.ifNo X19.here hx rfl (hb hby at_146) rfl ((if0 _ _).trans (feq (by decide)).1) kk_) ?_
  refine Ends.to (T' := T19) (g' := (mkF m 151 #[.val (.int p1), .val (.int p2), .val (.int p3), .val (.int (Int32.ofNat t)), .val (.int fb), .val (.ref b1), .val (.int ln), .val (.int nx), .val (.int (1 : Int32))] [(.ref b1)])) (fun tt_ kk_ => XS.aload X19.here hx rfl (hb hby at_149) rfl rfl kk_) ?_
  refine Ends.to (T' := T19) (g' := (mkF m 152 #[.val (.int p1), .val (.int p2), .val (.int p3), .val (.int (Int32.ofNat t)), .val (.int fb), .val (.ref b1), .val (.int ln), .val (.int nx), .val (.int (1 : Int32))] [(.int (1 : Int32)), (.ref b1)])) (fun tt_ kk_ => XS.iconst X19.here hx rfl (hb hby at_151) kk_) ?_
  refine Ends.to (T' := T19) (g' := (mkF m 153 #[.val (.int p1), .val (.int p2), .val (.int p3), .val (.int (Int32.ofNat t)), .val (.int fb), .val (.ref b1), .val (.int ln), .val (.int nx), .val (.int (1 : Int32))] [(.int (W 1))])) (fun tt_ kk_ => BA.ldB X19 hx hZ e19q B_b1 (j := (1 : Int32)) (i := 1) (by decide) rfl (by decide) (g := (mkF m 152 #[.val (.int p1), .val (.int p2), .val (.int p3), .val (.int (Int32.ofNat t)), .val (.int fb), .val (.ref b1), .val (.int ln), .val (.int nx), .val (.int (1 : Int32))] [(.int (1 : Int32)), (.ref b1)])) rfl rfl (hb hby at_152) tt_ kk_) ?_
  refine Ends.to (T' := T19) (g' := (mkF m 154 #[.val (.int p1), .val (.int p2), .val (.int p3), .val (.int (Int32.ofNat t)), .val (.int fb), .val (.ref b1), .val (.int ln), .val (.int nx), .val (.int (1 : Int32))] [(.int (1 : Int32)), (.int (W 1))])) (fun tt_ kk_ => XS.iconst X19.here hx rfl (hb hby at_153) kk_) ?_
  refine Ends.to (T' := T19) (g' := (mkF m 155 #[.val (.int p1), .val (.int p2), .val (.int p3), .val (.int (Int32.ofNat t)), .val (.int fb), .val (.ref b1), .val (.int ln), .val (.int nx), .val (.int (1 : Int32))] [(.int (Int32.ofNat t)), (.int (1 : Int32)), (.int (W 1))])) (fun tt_ kk_ => XS.iloadN X19.here hx rfl (hb hby at_154) rfl kk_) ?_
  refine Ends.to (T' := T19) (g' := (mkF m 157 #[.val (.int p1), .val (.int p2), .val (.int p3), .val (.int (Int32.ofNat t)), .val (.int fb), .val (.ref b1), .val (.int ln), .val (.int nx), .val (.int (1 : Int32))] [(.int ln), (.int (Int32.ofNat t)), (.int (1 : Int32)), (.int (W 1))])) (fun tt_ kk_ => XS.iload X19.here hx rfl (hb hby at_155) rfl kk_) ?_
  refine Ends.to (T' := T19) (g' := (mkF m 158 #[.val (.int p1), .val (.int p2), .val (.int p3), .val (.int (Int32.ofNat t)), .val (.int fb), .val (.ref b1), .val (.int ln), .val (.int nx), .val (.int (1 : Int32))] [(.int p1), (.int ln), (.int (Int32.ofNat t)), (.int (1 : Int32)), (.int (W 1))])) (fun tt_ kk_ => XS.iloadN X19.here hx rfl (hb hby at_157) rfl kk_) ?_
  refine Ends.to (T' := T19) (g' := (mkF m 160 #[.val (.int p1), .val (.int p2), .val (.int p3), .val (.int (Int32.ofNat t)), .val (.int fb), .val (.ref b1), .val (.int ln), .val (.int nx), .val (.int (1 : Int32))] [(.int fb), (.int p1), (.int ln), (.int (Int32.ofNat t)), (.int (1 : Int32)), (.int (W 1))])) (fun tt_ kk_ => XS.iload X19.here hx rfl (hb hby at_158) rfl kk_) ?_
  obtain ⟨_, _, ⟨T20, L20, k20, n20⟩, -, X20, ⟨Lc20, hQ20, l20, y20, z20⟩, st20⟩ := Jvm.LawKit.callS X19 hx (y := (⟨"com/example/trieval/trieval/index/IndexFileWriteVarIntPinLaw", "expected", "(IIIIB)B"⟩ : MethodName)) hown (mvT hZ (hw _ (List.mem_of_getElem? (i := 10) rfl))) (mvT hZ (hw _ (List.mem_of_getElem? (i := 11) rfl))) (mvT hZ (hw _ (List.mem_of_getElem? (i := 4) rfl))) (mvT hZ (hw _ (List.mem_of_getElem? (i := 12) rfl))) (by decide) (backOf (W := 1) (rm3 l Z a0 hw [] (1 : Int32) (Int32.ofNat t) ln p1 fb T18.heap n0 Zs) hZ (hw _ (List.mem_of_getElem? (i := 12) rfl)) (hw _ (List.mem_of_getElem? (i := 4) rfl)) (by decide) (by decide)) (g := (mkF m 160 #[.val (.int p1), .val (.int p2), .val (.int p3), .val (.int (Int32.ofNat t)), .val (.int fb), .val (.ref b1), .val (.int ln), .val (.int nx), .val (.int (1 : Int32))] [(.int fb), (.int p1), (.int ln), (.int (Int32.ofNat t)), (.int (1 : Int32)), (.int (W 1))])) rfl (by rw [hml]; rfl) (argsL := [(.int (1 : Int32)), (.int (Int32.ofNat t)), (.int ln), (.int p1), (.int fb)]) (rest := [(.int (W 1))]) (lenOf pd_3 rfl) rfl (by show 2 * 0 + _ ≤ _; exact Nat.le_of_eq rfl) (hb hby at_160) (fun _ _ => ⟨rfl, e19q, (by decide : 1 + 0 ≤ _), (by decide : 12 + 0 ≤ _)⟩)
  dsimp only [Pt.U, Pt.locs, Pt.cells, Pt.slots] at X20 l20 y20 z20 st20 hQ20
  subst y20 z20
  obtain ⟨rfl, N20q, e20q⟩ := hQ20
  have N20 : Fr n0 L20 := by rw [l20]; exact Fr.app N19 N20q
  refine Ends.to (T' := T20) (g' := (mkF m 163 #[.val (.int p1), .val (.int p2), .val (.int p3), .val (.int (Int32.ofNat t)), .val (.int fb), .val (.ref b1), .val (.int ln), .val (.int nx), .val (.int (1 : Int32))] [(.int (own_xp (1 : Int32) (Int32.ofNat t) ln p1 fb)), (.int (W 1))])) (fun tt_ kk_ => st20 tt_ kk_) ?_
  refine Ends.to (T' := T20) (g' := (mkF m 166 #[.val (.int p1), .val (.int p2), .val (.int p3), .val (.int (Int32.ofNat t)), .val (.int fb), .val (.ref b1), .val (.int ln), .val (.int nx), .val (.int (1 : Int32))] [])) (fun tt_ kk_ => XS.icmpNo X20.here hx rfl (hb hby at_163) rfl (teq (own_samL hW hln ht (own_b8 hfb) 1 (by decide))).2 kk_) ?_
  refine Ends.to (T' := T20) (g' := (mkF m 167 #[.val (.int p1), .val (.int p2), .val (.int p3), .val (.int (Int32.ofNat t)), .val (.int fb), .val (.ref b1), .val (.int ln), .val (.int nx), .val (.int (1 : Int32))] [(.int (1 : Int32))])) (fun tt_ kk_ => XS.iconst X20.here hx rfl (hb hby at_166) kk_) ?_
  refine Ends.to (T' := T20) (g' := (mkF m 171 #[.val (.int p1), .val (.int p2), .val (.int p3), .val (.int (Int32.ofNat t)), .val (.int fb), .val (.ref b1), .val (.int ln), .val (.int nx), .val (.int (1 : Int32))] [(.int (1 : Int32))])) (fun tt_ kk_ => XS.goto X20.here hx rfl (pc0 := 167) (pc' := 171) rfl (hb hby at_167) (by decide) (by decide) kk_) ?_
  refine Ends.to (T' := T20) (g' := (mkF m 173 #[.val (.int p1), .val (.int p2), .val (.int p3), .val (.int (Int32.ofNat t)), .val (.int fb), .val (.ref b1), .val (.int ln), .val (.int nx), .val (.int (1 : Int32))] [])) (fun tt_ kk_ => XS.istore X20.here hx rfl (hb hby at_171) rfl (l' := #[.val (.int p1), .val (.int p2), .val (.int p3), .val (.int (Int32.ofNat t)), .val (.int fb), .val (.ref b1), .val (.int ln), .val (.int nx), .val (.int (1 : Int32))]) rfl kk_) ?_
  refine Ends.to (T' := T20) (g' := (mkF m 175 #[.val (.int p1), .val (.int p2), .val (.int p3), .val (.int (Int32.ofNat t)), .val (.int fb), .val (.ref b1), .val (.int ln), .val (.int nx), .val (.int (1 : Int32))] [(.int (1 : Int32))])) (fun tt_ kk_ => XS.iload X20.here hx rfl (hb hby at_173) rfl kk_) ?_
  refine Ends.to (T' := T20) (g' := (mkF m 178 #[.val (.int p1), .val (.int p2), .val (.int p3), .val (.int (Int32.ofNat t)), .val (.int fb), .val (.ref b1), .val (.int ln), .val (.int nx), .val (.int (1 : Int32))] [])) (fun tt_ kk_ => XS.ifNo X20.here hx rfl (hb hby at_175) rfl ((if0 _ _).trans (feq (by decide)).1) kk_) ?_
  refine Ends.to (T' := T20) (g' := (mkF m 180 #[.val (.int p1), .val (.int p2), .val (.int p3), .val (.int (Int32.ofNat t)), .val (.int fb), .val (.ref b1), .val (.int ln), .val (.int nx), .val (.int (1 : Int32))] [(.ref b1)])) (fun tt_ kk_ => XS.aload X20.here hx rfl (hb hby at_178) rfl rfl kk_) ?_
  refine Ends.to (T' := T20) (g' := (mkF m 181 #[.val (.int p1), .val (.int p2), .val (.int p3), .val (.int (Int32.ofNat t)), .val (.int fb), .val (.ref b1), .val (.int ln), .val (.int nx), .val (.int (1 : Int32))] [(.int (2 : Int32)), (.ref b1)])) (fun tt_ kk_ => XS.iconst X20.here hx rfl (hb hby at_180) kk_) ?_
  refine Ends.to (T' := T20) (g' := (mkF m 182 #[.val (.int p1), .val (.int p2), .val (.int p3), .val (.int (Int32.ofNat t)), .val (.int fb), .val (.ref b1), .val (.int ln), .val (.int nx), .val (.int (1 : Int32))] [(.int (W 2))])) (fun tt_ kk_ => BA.ldB X20 hx hZ e20q B_b1 (j := (2 : Int32)) (i := 2) (by decide) rfl (by decide) (g := (mkF m 181 #[.val (.int p1), .val (.int p2), .val (.int p3), .val (.int (Int32.ofNat t)), .val (.int fb), .val (.ref b1), .val (.int ln), .val (.int nx), .val (.int (1 : Int32))] [(.int (2 : Int32)), (.ref b1)])) rfl rfl (hb hby at_181) tt_ kk_) ?_
  refine Ends.to (T' := T20) (g' := (mkF m 183 #[.val (.int p1), .val (.int p2), .val (.int p3), .val (.int (Int32.ofNat t)), .val (.int fb), .val (.ref b1), .val (.int ln), .val (.int nx), .val (.int (1 : Int32))] [(.int (2 : Int32)), (.int (W 2))])) (fun tt_ kk_ => XS.iconst X20.here hx rfl (hb hby at_182) kk_) ?_
  refine Ends.to (T' := T20) (g' := (mkF m 184 #[.val (.int p1), .val (.int p2), .val (.int p3), .val (.int (Int32.ofNat t)), .val (.int fb), .val (.ref b1), .val (.int ln), .val (.int nx), .val (.int (1 : Int32))] [(.int (Int32.ofNat t)), (.int (2 : Int32)), (.int (W 2))])) (fun tt_ kk_ => XS.iloadN X20.here hx rfl (hb hby at_183) rfl kk_) ?_
  refine Ends.to (T' := T20) (g' := (mkF m 186 #[.val (.int p1), .val (.int p2), .val (.int p3), .val (.int (Int32.ofNat t)), .val (.int fb), .val (.ref b1), .val (.int ln), .val (.int nx), .val (.int (1 : Int32))] [(.int ln), (.int (Int32.ofNat t)), (.int (2 : Int32)), (.int (W 2))])) (fun tt_ kk_ => XS.iload X20.here hx rfl (hb hby at_184) rfl kk_) ?_
  refine Ends.to (T' := T20) (g' := (mkF m 187 #[.val (.int p1), .val (.int p2), .val (.int p3), .val (.int (Int32.ofNat t)), .val (.int fb), .val (.ref b1), .val (.int ln), .val (.int nx), .val (.int (1 : Int32))] [(.int p1), (.int ln), (.int (Int32.ofNat t)), (.int (2 : Int32)), (.int (W 2))])) (fun tt_ kk_ => XS.iloadN X20.here hx rfl (hb hby at_186) rfl kk_) ?_
  refine Ends.to (T' := T20) (g' := (mkF m 189 #[.val (.int p1), .val (.int p2), .val (.int p3), .val (.int (Int32.ofNat t)), .val (.int fb), .val (.ref b1), .val (.int ln), .val (.int nx), .val (.int (1 : Int32))] [(.int fb), (.int p1), (.int ln), (.int (Int32.ofNat t)), (.int (2 : Int32)), (.int (W 2))])) (fun tt_ kk_ => XS.iload X20.here hx rfl (hb hby at_187) rfl kk_) ?_
  obtain ⟨_, _, ⟨T21, L21, k21, n21⟩, -, X21, ⟨Lc21, hQ21, l21, y21, z21⟩, st21⟩ := Jvm.LawKit.callS X20 hx (y := (⟨"com/example/trieval/trieval/index/IndexFileWriteVarIntPinLaw", "expected", "(IIIIB)B"⟩ : MethodName)) hown (mvT hZ (hw _ (List.mem_of_getElem? (i := 10) rfl))) (mvT hZ (hw _ (List.mem_of_getElem? (i := 11) rfl))) (mvT hZ (hw _ (List.mem_of_getElem? (i := 4) rfl))) (mvT hZ (hw _ (List.mem_of_getElem? (i := 12) rfl))) (by decide) (backOf (W := 1) (rm3 l Z a0 hw [] (2 : Int32) (Int32.ofNat t) ln p1 fb T18.heap n0 Zs) hZ (hw _ (List.mem_of_getElem? (i := 12) rfl)) (hw _ (List.mem_of_getElem? (i := 4) rfl)) (by decide) (by decide)) (g := (mkF m 189 #[.val (.int p1), .val (.int p2), .val (.int p3), .val (.int (Int32.ofNat t)), .val (.int fb), .val (.ref b1), .val (.int ln), .val (.int nx), .val (.int (1 : Int32))] [(.int fb), (.int p1), (.int ln), (.int (Int32.ofNat t)), (.int (2 : Int32)), (.int (W 2))])) rfl (by rw [hml]; rfl) (argsL := [(.int (2 : Int32)), (.int (Int32.ofNat t)), (.int ln), (.int p1), (.int fb)]) (rest := [(.int (W 2))]) (lenOf pd_3 rfl) rfl (by show 2 * 0 + _ ≤ _; exact Nat.le_of_eq rfl) (hb hby at_189) (fun _ _ => ⟨rfl, e20q, (by decide : 1 + 0 ≤ _), (by decide : 12 + 0 ≤ _)⟩)
  dsimp only [Pt.U, Pt.locs, Pt.cells, Pt.slots] at X21 l21 y21 z21 st21 hQ21
  subst y21 z21
  obtain ⟨rfl, N21q, e21q⟩ := hQ21
  have N21 : Fr n0 L21 := by rw [l21]; exact Fr.app N20 N21q
  refine Ends.to (T' := T21) (g' := (mkF m 192 #[.val (.int p1), .val (.int p2), .val (.int p3), .val (.int (Int32.ofNat t)), .val (.int fb), .val (.ref b1), .val (.int ln), .val (.int nx), .val (.int (1 : Int32))] [(.int (own_xp (2 : Int32) (Int32.ofNat t) ln p1 fb)), (.int (W 2))])) (fun tt_ kk_ => st21 tt_ kk_) ?_
  refine Ends.to (T' := T21) (g' := (mkF m 195 #[.val (.int p1), .val (.int p2), .val (.int p3), .val (.int (Int32.ofNat t)), .val (.int fb), .val (.ref b1), .val (.int ln), .val (.int nx), .val (.int (1 : Int32))] [])) (fun tt_ kk_ => XS.icmpNo X21.here hx rfl (hb hby at_192) rfl (teq (own_samL hW hln ht (own_b8 hfb) 2 (by decide))).2 kk_) ?_
  refine Ends.to (T' := T21) (g' := (mkF m 196 #[.val (.int p1), .val (.int p2), .val (.int p3), .val (.int (Int32.ofNat t)), .val (.int fb), .val (.ref b1), .val (.int ln), .val (.int nx), .val (.int (1 : Int32))] [(.int (1 : Int32))])) (fun tt_ kk_ => XS.iconst X21.here hx rfl (hb hby at_195) kk_) ?_
  refine Ends.to (T' := T21) (g' := (mkF m 200 #[.val (.int p1), .val (.int p2), .val (.int p3), .val (.int (Int32.ofNat t)), .val (.int fb), .val (.ref b1), .val (.int ln), .val (.int nx), .val (.int (1 : Int32))] [(.int (1 : Int32))])) (fun tt_ kk_ => XS.goto X21.here hx rfl (pc0 := 196) (pc' := 200) rfl (hb hby at_196) (by decide) (by decide) kk_) ?_
  refine Ends.to (T' := T21) (g' := (mkF m 202 #[.val (.int p1), .val (.int p2), .val (.int p3), .val (.int (Int32.ofNat t)), .val (.int fb), .val (.ref b1), .val (.int ln), .val (.int nx), .val (.int (1 : Int32))] [])) (fun tt_ kk_ => XS.istore X21.here hx rfl (hb hby at_200) rfl (l' := #[.val (.int p1), .val (.int p2), .val (.int p3), .val (.int (Int32.ofNat t)), .val (.int fb), .val (.ref b1), .val (.int ln), .val (.int nx), .val (.int (1 : Int32))]) rfl kk_) ?_
  refine Ends.to (T' := T21) (g' := (mkF m 204 #[.val (.int p1), .val (.int p2), .val (.int p3), .val (.int (Int32.ofNat t)), .val (.int fb), .val (.ref b1), .val (.int ln), .val (.int nx), .val (.int (1 : Int32))] [(.int (1 : Int32))])) (fun tt_ kk_ => XS.iload X21.here hx rfl (hb hby at_202) rfl kk_) ?_
  refine Ends.to (T' := T21) (g' := (mkF m 207 #[.val (.int p1), .val (.int p2), .val (.int p3), .val (.int (Int32.ofNat t)), .val (.int fb), .val (.ref b1), .val (.int ln), .val (.int nx), .val (.int (1 : Int32))] [])) (fun tt_ kk_ => XS.ifNo X21.here hx rfl (hb hby at_204) rfl ((if0 _ _).trans (feq (by decide)).1) kk_) ?_
  refine Ends.to (T' := T21) (g' := (mkF m 209 #[.val (.int p1), .val (.int p2), .val (.int p3), .val (.int (Int32.ofNat t)), .val (.int fb), .val (.ref b1), .val (.int ln), .val (.int nx), .val (.int (1 : Int32))] [(.ref b1)])) (fun tt_ kk_ => XS.aload X21.here hx rfl (hb hby at_207) rfl rfl kk_) ?_
  refine Ends.to (T' := T21) (g' := (mkF m 210 #[.val (.int p1), .val (.int p2), .val (.int p3), .val (.int (Int32.ofNat t)), .val (.int fb), .val (.ref b1), .val (.int ln), .val (.int nx), .val (.int (1 : Int32))] [(.int (3 : Int32)), (.ref b1)])) (fun tt_ kk_ => XS.iconst X21.here hx rfl (hb hby at_209) kk_) ?_
  refine Ends.to (T' := T21) (g' := (mkF m 211 #[.val (.int p1), .val (.int p2), .val (.int p3), .val (.int (Int32.ofNat t)), .val (.int fb), .val (.ref b1), .val (.int ln), .val (.int nx), .val (.int (1 : Int32))] [(.int (W 3))])) (fun tt_ kk_ => BA.ldB X21 hx hZ e21q B_b1 (j := (3 : Int32)) (i := 3) (by decide) rfl (by decide) (g := (mkF m 210 #[.val (.int p1), .val (.int p2), .val (.int p3), .val (.int (Int32.ofNat t)), .val (.int fb), .val (.ref b1), .val (.int ln), .val (.int nx), .val (.int (1 : Int32))] [(.int (3 : Int32)), (.ref b1)])) rfl rfl (hb hby at_210) tt_ kk_) ?_
  refine Ends.to (T' := T21) (g' := (mkF m 212 #[.val (.int p1), .val (.int p2), .val (.int p3), .val (.int (Int32.ofNat t)), .val (.int fb), .val (.ref b1), .val (.int ln), .val (.int nx), .val (.int (1 : Int32))] [(.int (3 : Int32)), (.int (W 3))])) (fun tt_ kk_ => XS.iconst X21.here hx rfl (hb hby at_211) kk_) ?_
  refine Ends.to (T' := T21) (g' := (mkF m 213 #[.val (.int p1), .val (.int p2), .val (.int p3), .val (.int (Int32.ofNat t)), .val (.int fb), .val (.ref b1), .val (.int ln), .val (.int nx), .val (.int (1 : Int32))] [(.int (Int32.ofNat t)), (.int (3 : Int32)), (.int (W 3))])) (fun tt_ kk_ => XS.iloadN X21.here hx rfl (hb hby at_212) rfl kk_) ?_
  refine Ends.to (T' := T21) (g' := (mkF m 215 #[.val (.int p1), .val (.int p2), .val (.int p3), .val (.int (Int32.ofNat t)), .val (.int fb), .val (.ref b1), .val (.int ln), .val (.int nx), .val (.int (1 : Int32))] [(.int ln), (.int (Int32.ofNat t)), (.int (3 : Int32)), (.int (W 3))])) (fun tt_ kk_ => XS.iload X21.here hx rfl (hb hby at_213) rfl kk_) ?_
  refine Ends.to (T' := T21) (g' := (mkF m 216 #[.val (.int p1), .val (.int p2), .val (.int p3), .val (.int (Int32.ofNat t)), .val (.int fb), .val (.ref b1), .val (.int ln), .val (.int nx), .val (.int (1 : Int32))] [(.int p1), (.int ln), (.int (Int32.ofNat t)), (.int (3 : Int32)), (.int (W 3))])) (fun tt_ kk_ => XS.iloadN X21.here hx rfl (hb hby at_215) rfl kk_) ?_
  refine Ends.to (T' := T21) (g' := (mkF m 218 #[.val (.int p1), .val (.int p2), .val (.int p3), .val (.int (Int32.ofNat t)), .val (.int fb), .val (.ref b1), .val (.int ln), .val (.int nx), .val (.int (1 : Int32))] [(.int fb), (.int p1), (.int ln), (.int (Int32.ofNat t)), (.int (3 : Int32)), (.int (W 3))])) (fun tt_ kk_ => XS.iload X21.here hx rfl (hb hby at_216) rfl kk_) ?_
  obtain ⟨_, _, ⟨T22, L22, k22, n22⟩, -, X22, ⟨Lc22, hQ22, l22, y22, z22⟩, st22⟩ := Jvm.LawKit.callS X21 hx (y := (⟨"com/example/trieval/trieval/index/IndexFileWriteVarIntPinLaw", "expected", "(IIIIB)B"⟩ : MethodName)) hown (mvT hZ (hw _ (List.mem_of_getElem? (i := 10) rfl))) (mvT hZ (hw _ (List.mem_of_getElem? (i := 11) rfl))) (mvT hZ (hw _ (List.mem_of_getElem? (i := 4) rfl))) (mvT hZ (hw _ (List.mem_of_getElem? (i := 12) rfl))) (by decide) (backOf (W := 1) (rm3 l Z a0 hw [] (3 : Int32) (Int32.ofNat t) ln p1 fb T18.heap n0 Zs) hZ (hw _ (List.mem_of_getElem? (i := 12) rfl)) (hw _ (List.mem_of_getElem? (i := 4) rfl)) (by decide) (by decide)) (g := (mkF m 218 #[.val (.int p1), .val (.int p2), .val (.int p3), .val (.int (Int32.ofNat t)), .val (.int fb), .val (.ref b1), .val (.int ln), .val (.int nx), .val (.int (1 : Int32))] [(.int fb), (.int p1), (.int ln), (.int (Int32.ofNat t)), (.int (3 : Int32)), (.int (W 3))])) rfl (by rw [hml]; rfl) (argsL := [(.int (3 : Int32)), (.int (Int32.ofNat t)), (.int ln), (.int p1), (.int fb)]) (rest := [(.int (W 3))]) (lenOf pd_3 rfl) rfl (by show 2 * 0 + _ ≤ _; exact Nat.le_of_eq rfl) (hb hby at_218) (fun _ _ => ⟨rfl, e21q, (by decide : 1 + 0 ≤ _), (by decide : 12 + 0 ≤ _)⟩)
  dsimp only [Pt.U, Pt.locs, Pt.cells, Pt.slots] at X22 l22 y22 z22 st22 hQ22
  subst y22 z22
  obtain ⟨rfl, N22q, e22q⟩ := hQ22
  have N22 : Fr n0 L22 := by rw [l22]; exact Fr.app N21 N22q
  refine Ends.to (T' := T22) (g' := (mkF m 221 #[.val (.int p1), .val (.int p2), .val (.int p3), .val (.int (Int32.ofNat t)), .val (.int fb), .val (.ref b1), .val (.int ln), .val (.int nx), .val (.int (1 : Int32))] [(.int (own_xp (3 : Int32) (Int32.ofNat t) ln p1 fb)), (.int (W 3))])) (fun tt_ kk_ => st22 tt_ kk_) ?_
  refine Ends.to (T' := T22) (g' := (mkF m 224 #[.val (.int p1), .val (.int p2), .val (.int p3), .val (.int (Int32.ofNat t)), .val (.int fb), .val (.ref b1), .val (.int ln), .val (.int nx), .val (.int (1 : Int32))] [])) (fun tt_ kk_ => XS.icmpNo X22.here hx rfl (hb hby at_221) rfl (teq (own_samL hW hln ht (own_b8 hfb) 3 (by decide))).2 kk_) ?_
  refine Ends.to (T' := T22) (g' := (mkF m 225 #[.val (.int p1), .val (.int p2), .val (.int p3), .val (.int (Int32.ofNat t)), .val (.int fb), .val (.ref b1), .val (.int ln), .val (.int nx), .val (.int (1 : Int32))] [(.int (1 : Int32))])) (fun tt_ kk_ => XS.iconst X22.here hx rfl (hb hby at_224) kk_) ?_
  refine Ends.to (T' := T22) (g' := (mkF m 229 #[.val (.int p1), .val (.int p2), .val (.int p3), .val (.int (Int32.ofNat t)), .val (.int fb), .val (.ref b1), .val (.int ln), .val (.int nx), .val (.int (1 : Int32))] [(.int (1 : Int32))])) (fun tt_ kk_ => XS.goto X22.here hx rfl (pc0 := 225) (pc' := 229) rfl (hb hby at_225) (by decide) (by decide) kk_) ?_
  refine Ends.to (T' := T22) (g' := (mkF m 231 #[.val (.int p1), .val (.int p2), .val (.int p3), .val (.int (Int32.ofNat t)), .val (.int fb), .val (.ref b1), .val (.int ln), .val (.int nx), .val (.int (1 : Int32))] [])) (fun tt_ kk_ => XS.istore X22.here hx rfl (hb hby at_229) rfl (l' := #[.val (.int p1), .val (.int p2), .val (.int p3), .val (.int (Int32.ofNat t)), .val (.int fb), .val (.ref b1), .val (.int ln), .val (.int nx), .val (.int (1 : Int32))]) rfl kk_) ?_
  refine Ends.to (T' := T22) (g' := (mkF m 233 #[.val (.int p1), .val (.int p2), .val (.int p3), .val (.int (Int32.ofNat t)), .val (.int fb), .val (.ref b1), .val (.int ln), .val (.int nx), .val (.int (1 : Int32))] [(.int (1 : Int32))])) (fun tt_ kk_ => XS.iload X22.here hx rfl (hb hby at_231) rfl kk_) ?_
  refine Ends.to (T' := T22) (g' := (mkF m 236 #[.val (.int p1), .val (.int p2), .val (.int p3), .val (.int (Int32.ofNat t)), .val (.int fb), .val (.ref b1), .val (.int ln), .val (.int nx), .val (.int (1 : Int32))] [])) (fun tt_ kk_ => XS.ifNo X22.here hx rfl (hb hby at_233) rfl ((if0 _ _).trans (feq (by decide)).1) kk_) ?_
  refine Ends.to (T' := T22) (g' := (mkF m 238 #[.val (.int p1), .val (.int p2), .val (.int p3), .val (.int (Int32.ofNat t)), .val (.int fb), .val (.ref b1), .val (.int ln), .val (.int nx), .val (.int (1 : Int32))] [(.ref b1)])) (fun tt_ kk_ => XS.aload X22.here hx rfl (hb hby at_236) rfl rfl kk_) ?_
  refine Ends.to (T' := T22) (g' := (mkF m 239 #[.val (.int p1), .val (.int p2), .val (.int p3), .val (.int (Int32.ofNat t)), .val (.int fb), .val (.ref b1), .val (.int ln), .val (.int nx), .val (.int (1 : Int32))] [(.int (4 : Int32)), (.ref b1)])) (fun tt_ kk_ => XS.iconst X22.here hx rfl (hb hby at_238) kk_) ?_
  refine Ends.to (T' := T22) (g' := (mkF m 240 #[.val (.int p1), .val (.int p2), .val (.int p3), .val (.int (Int32.ofNat t)), .val (.int fb), .val (.ref b1), .val (.int ln), .val (.int nx), .val (.int (1 : Int32))] [(.int (W 4))])) (fun tt_ kk_ => BA.ldB X22 hx hZ e22q B_b1 (j := (4 : Int32)) (i := 4) (by decide) rfl (by decide) (g := (mkF m 239 #[.val (.int p1), .val (.int p2), .val (.int p3), .val (.int (Int32.ofNat t)), .val (.int fb), .val (.ref b1), .val (.int ln), .val (.int nx), .val (.int (1 : Int32))] [(.int (4 : Int32)), (.ref b1)])) rfl rfl (hb hby at_239) tt_ kk_) ?_
  refine Ends.to (T' := T22) (g' := (mkF m 241 #[.val (.int p1), .val (.int p2), .val (.int p3), .val (.int (Int32.ofNat t)), .val (.int fb), .val (.ref b1), .val (.int ln), .val (.int nx), .val (.int (1 : Int32))] [(.int (4 : Int32)), (.int (W 4))])) (fun tt_ kk_ => XS.iconst X22.here hx rfl (hb hby at_240) kk_) ?_
  refine Ends.to (T' := T22) (g' := (mkF m 242 #[.val (.int p1), .val (.int p2), .val (.int p3), .val (.int (Int32.ofNat t)), .val (.int fb), .val (.ref b1), .val (.int ln), .val (.int nx), .val (.int (1 : Int32))] [(.int (Int32.ofNat t)), (.int (4 : Int32)), (.int (W 4))])) (fun tt_ kk_ => XS.iloadN X22.here hx rfl (hb hby at_241) rfl kk_) ?_
  refine Ends.to (T' := T22) (g' := (mkF m 244 #[.val (.int p1), .val (.int p2), .val (.int p3), .val (.int (Int32.ofNat t)), .val (.int fb), .val (.ref b1), .val (.int ln), .val (.int nx), .val (.int (1 : Int32))] [(.int ln), (.int (Int32.ofNat t)), (.int (4 : Int32)), (.int (W 4))])) (fun tt_ kk_ => XS.iload X22.here hx rfl (hb hby at_242) rfl kk_) ?_
  refine Ends.to (T' := T22) (g' := (mkF m 245 #[.val (.int p1), .val (.int p2), .val (.int p3), .val (.int (Int32.ofNat t)), .val (.int fb), .val (.ref b1), .val (.int ln), .val (.int nx), .val (.int (1 : Int32))] [(.int p1), (.int ln), (.int (Int32.ofNat t)), (.int (4 : Int32)), (.int (W 4))])) (fun tt_ kk_ => XS.iloadN X22.here hx rfl (hb hby at_244) rfl kk_) ?_
  refine Ends.to (T' := T22) (g' := (mkF m 247 #[.val (.int p1), .val (.int p2), .val (.int p3), .val (.int (Int32.ofNat t)), .val (.int fb), .val (.ref b1), .val (.int ln), .val (.int nx), .val (.int (1 : Int32))] [(.int fb), (.int p1), (.int ln), (.int (Int32.ofNat t)), (.int (4 : Int32)), (.int (W 4))])) (fun tt_ kk_ => XS.iload X22.here hx rfl (hb hby at_245) rfl kk_) ?_
  obtain ⟨_, _, ⟨T23, L23, k23, n23⟩, -, X23, ⟨Lc23, hQ23, l23, y23, z23⟩, st23⟩ := Jvm.LawKit.callS X22 hx (y := (⟨"com/example/trieval/trieval/index/IndexFileWriteVarIntPinLaw", "expected", "(IIIIB)B"⟩ : MethodName)) hown (mvT hZ (hw _ (List.mem_of_getElem? (i := 10) rfl))) (mvT hZ (hw _ (List.mem_of_getElem? (i := 11) rfl))) (mvT hZ (hw _ (List.mem_of_getElem? (i := 4) rfl))) (mvT hZ (hw _ (List.mem_of_getElem? (i := 12) rfl))) (by decide) (backOf (W := 1) (rm3 l Z a0 hw [] (4 : Int32) (Int32.ofNat t) ln p1 fb T18.heap n0 Zs) hZ (hw _ (List.mem_of_getElem? (i := 12) rfl)) (hw _ (List.mem_of_getElem? (i := 4) rfl)) (by decide) (by decide)) (g := (mkF m 247 #[.val (.int p1), .val (.int p2), .val (.int p3), .val (.int (Int32.ofNat t)), .val (.int fb), .val (.ref b1), .val (.int ln), .val (.int nx), .val (.int (1 : Int32))] [(.int fb), (.int p1), (.int ln), (.int (Int32.ofNat t)), (.int (4 : Int32)), (.int (W 4))])) rfl (by rw [hml]; rfl) (argsL := [(.int (4 : Int32)), (.int (Int32.ofNat t)), (.int ln), (.int p1), (.int fb)]) (rest := [(.int (W 4))]) (lenOf pd_3 rfl) rfl (by show 2 * 0 + _ ≤ _; exact Nat.le_of_eq rfl) (hb hby at_247) (fun _ _ => ⟨rfl, e22q, (by decide : 1 + 0 ≤ _), (by decide : 12 + 0 ≤ _)⟩)
  dsimp only [Pt.U, Pt.locs, Pt.cells, Pt.slots] at X23 l23 y23 z23 st23 hQ23
  subst y23 z23
  obtain ⟨rfl, N23q, e23q⟩ := hQ23
  have N23 : Fr n0 L23 := by rw [l23]; exact Fr.app N22 N23q
  refine Ends.to (T' := T23) (g' := (mkF m 250 #[.val (.int p1), .val (.int p2), .val (.int p3), .val (.int (Int32.ofNat t)), .val (.int fb), .val (.ref b1), .val (.int ln), .val (.int nx), .val (.int (1 : Int32))] [(.int (own_xp (4 : Int32) (Int32.ofNat t) ln p1 fb)), (.int (W 4))])) (fun tt_ kk_ => st23 tt_ kk_) ?_
  refine Ends.to (T' := T23) (g' := (mkF m 253 #[.val (.int p1), .val (.int p2), .val (.int p3), .val (.int (Int32.ofNat t)), .val (.int fb), .val (.ref b1), .val (.int ln), .val (.int nx), .val (.int (1 : Int32))] [])) (fun tt_ kk_ => XS.icmpNo X23.here hx rfl (hb hby at_250) rfl (teq (own_samL hW hln ht (own_b8 hfb) 4 (by decide))).2 kk_) ?_
  refine Ends.to (T' := T23) (g' := (mkF m 254 #[.val (.int p1), .val (.int p2), .val (.int p3), .val (.int (Int32.ofNat t)), .val (.int fb), .val (.ref b1), .val (.int ln), .val (.int nx), .val (.int (1 : Int32))] [(.int (1 : Int32))])) (fun tt_ kk_ => XS.iconst X23.here hx rfl (hb hby at_253) kk_) ?_
  refine Ends.to (T' := T23) (g' := (mkF m 258 #[.val (.int p1), .val (.int p2), .val (.int p3), .val (.int (Int32.ofNat t)), .val (.int fb), .val (.ref b1), .val (.int ln), .val (.int nx), .val (.int (1 : Int32))] [(.int (1 : Int32))])) (fun tt_ kk_ => XS.goto X23.here hx rfl (pc0 := 254) (pc' := 258) rfl (hb hby at_254) (by decide) (by decide) kk_) ?_
  refine Ends.to (T' := T23) (g' := (mkF m 260 #[.val (.int p1), .val (.int p2), .val (.int p3), .val (.int (Int32.ofNat t)), .val (.int fb), .val (.ref b1), .val (.int ln), .val (.int nx), .val (.int (1 : Int32))] [])) (fun tt_ kk_ => XS.istore X23.here hx rfl (hb hby at_258) rfl (l' := #[.val (.int p1), .val (.int p2), .val (.int p3), .val (.int (Int32.ofNat t)), .val (.int fb), .val (.ref b1), .val (.int ln), .val (.int nx), .val (.int (1 : Int32))]) rfl kk_) ?_
  refine Ends.to (T' := T23) (g' := (mkF m 262 #[.val (.int p1), .val (.int p2), .val (.int p3), .val (.int (Int32.ofNat t)), .val (.int fb), .val (.ref b1), .val (.int ln), .val (.int nx), .val (.int (1 : Int32))] [(.int (1 : Int32))])) (fun tt_ kk_ => XS.iload X23.here hx rfl (hb hby at_260) rfl kk_) ?_
  refine Ends.to (T' := T23) (g' := (mkF m 265 #[.val (.int p1), .val (.int p2), .val (.int p3), .val (.int (Int32.ofNat t)), .val (.int fb), .val (.ref b1), .val (.int ln), .val (.int nx), .val (.int (1 : Int32))] [])) (fun tt_ kk_ => XS.ifNo X23.here hx rfl (hb hby at_262) rfl ((if0 _ _).trans (feq (by decide)).1) kk_) ?_
  refine Ends.to (T' := T23) (g' := (mkF m 267 #[.val (.int p1), .val (.int p2), .val (.int p3), .val (.int (Int32.ofNat t)), .val (.int fb), .val (.ref b1), .val (.int ln), .val (.int nx), .val (.int (1 : Int32))] [(.ref b1)])) (fun tt_ kk_ => XS.aload X23.here hx rfl (hb hby at_265) rfl rfl kk_) ?_
  refine Ends.to (T' := T23) (g' := (mkF m 268 #[.val (.int p1), .val (.int p2), .val (.int p3), .val (.int (Int32.ofNat t)), .val (.int fb), .val (.ref b1), .val (.int ln), .val (.int nx), .val (.int (1 : Int32))] [(.int (5 : Int32)), (.ref b1)])) (fun tt_ kk_ => XS.iconst X23.here hx rfl (hb hby at_267) kk_) ?_
  refine Ends.to (T' := T23) (g' := (mkF m 269 #[.val (.int p1), .val (.int p2), .val (.int p3), .val (.int (Int32.ofNat t)), .val (.int fb), .val (.ref b1), .val (.int ln), .val (.int nx), .val (.int (1 : Int32))] [(.int (W 5))])) (fun tt_ kk_ => BA.ldB X23 hx hZ e23q B_b1 (j := (5 : Int32)) (i := 5) (by decide) rfl (by decide) (g := (mkF m 268 #[.val (.int p1), .val (.int p2), .val (.int p3), .val (.int (Int32.ofNat t)), .val (.int fb), .val (.ref b1), .val (.int ln), .val (.int nx), .val (.int (1 : Int32))] [(.int (5 : Int32)), (.ref b1)])) rfl rfl (hb hby at_268) tt_ kk_) ?_
  refine Ends.to (T' := T23) (g' := (mkF m 270 #[.val (.int p1), .val (.int p2), .val (.int p3), .val (.int (Int32.ofNat t)), .val (.int fb), .val (.ref b1), .val (.int ln), .val (.int nx), .val (.int (1 : Int32))] [(.int (5 : Int32)), (.int (W 5))])) (fun tt_ kk_ => XS.iconst X23.here hx rfl (hb hby at_269) kk_) ?_
  refine Ends.to (T' := T23) (g' := (mkF m 271 #[.val (.int p1), .val (.int p2), .val (.int p3), .val (.int (Int32.ofNat t)), .val (.int fb), .val (.ref b1), .val (.int ln), .val (.int nx), .val (.int (1 : Int32))] [(.int (Int32.ofNat t)), (.int (5 : Int32)), (.int (W 5))])) (fun tt_ kk_ => XS.iloadN X23.here hx rfl (hb hby at_270) rfl kk_) ?_
  refine Ends.to (T' := T23) (g' := (mkF m 273 #[.val (.int p1), .val (.int p2), .val (.int p3), .val (.int (Int32.ofNat t)), .val (.int fb), .val (.ref b1), .val (.int ln), .val (.int nx), .val (.int (1 : Int32))] [(.int ln), (.int (Int32.ofNat t)), (.int (5 : Int32)), (.int (W 5))])) (fun tt_ kk_ => XS.iload X23.here hx rfl (hb hby at_271) rfl kk_) ?_
  refine Ends.to (T' := T23) (g' := (mkF m 274 #[.val (.int p1), .val (.int p2), .val (.int p3), .val (.int (Int32.ofNat t)), .val (.int fb), .val (.ref b1), .val (.int ln), .val (.int nx), .val (.int (1 : Int32))] [(.int p1), (.int ln), (.int (Int32.ofNat t)), (.int (5 : Int32)), (.int (W 5))])) (fun tt_ kk_ => XS.iloadN X23.here hx rfl (hb hby at_273) rfl kk_) ?_
  refine Ends.to (T' := T23) (g' := (mkF m 276 #[.val (.int p1), .val (.int p2), .val (.int p3), .val (.int (Int32.ofNat t)), .val (.int fb), .val (.ref b1), .val (.int ln), .val (.int nx), .val (.int (1 : Int32))] [(.int fb), (.int p1), (.int ln), (.int (Int32.ofNat t)), (.int (5 : Int32)), (.int (W 5))])) (fun tt_ kk_ => XS.iload X23.here hx rfl (hb hby at_274) rfl kk_) ?_
  obtain ⟨_, _, ⟨T24, L24, k24, n24⟩, -, X24, ⟨Lc24, hQ24, l24, y24, z24⟩, st24⟩ := Jvm.LawKit.callS X23 hx (y := (⟨"com/example/trieval/trieval/index/IndexFileWriteVarIntPinLaw", "expected", "(IIIIB)B"⟩ : MethodName)) hown (mvT hZ (hw _ (List.mem_of_getElem? (i := 10) rfl))) (mvT hZ (hw _ (List.mem_of_getElem? (i := 11) rfl))) (mvT hZ (hw _ (List.mem_of_getElem? (i := 4) rfl))) (mvT hZ (hw _ (List.mem_of_getElem? (i := 12) rfl))) (by decide) (backOf (W := 1) (rm3 l Z a0 hw [] (5 : Int32) (Int32.ofNat t) ln p1 fb T18.heap n0 Zs) hZ (hw _ (List.mem_of_getElem? (i := 12) rfl)) (hw _ (List.mem_of_getElem? (i := 4) rfl)) (by decide) (by decide)) (g := (mkF m 276 #[.val (.int p1), .val (.int p2), .val (.int p3), .val (.int (Int32.ofNat t)), .val (.int fb), .val (.ref b1), .val (.int ln), .val (.int nx), .val (.int (1 : Int32))] [(.int fb), (.int p1), (.int ln), (.int (Int32.ofNat t)), (.int (5 : Int32)), (.int (W 5))])) rfl (by rw [hml]; rfl) (argsL := [(.int (5 : Int32)), (.int (Int32.ofNat t)), (.int ln), (.int p1), (.int fb)]) (rest := [(.int (W 5))]) (lenOf pd_3 rfl) rfl (by show 2 * 0 + _ ≤ _; exact Nat.le_of_eq rfl) (hb hby at_276) (fun _ _ => ⟨rfl, e23q, (by decide : 1 + 0 ≤ _), (by decide : 12 + 0 ≤ _)⟩)
  dsimp only [Pt.U, Pt.locs, Pt.cells, Pt.slots] at X24 l24 y24 z24 st24 hQ24
  subst y24 z24
  obtain ⟨rfl, N24q, e24q⟩ := hQ24
  have N24 : Fr n0 L24 := by rw [l24]; exact Fr.app N23 N24q
  refine Ends.to (T' := T24) (g' := (mkF m 279 #[.val (.int p1), .val (.int p2), .val (.int p3), .val (.int (Int32.ofNat t)), .val (.int fb), .val (.ref b1), .val (.int ln), .val (.int nx), .val (.int (1 : Int32))] [(.int (own_xp (5 : Int32) (Int32.ofNat t) ln p1 fb)), (.int (W 5))])) (fun tt_ kk_ => st24 tt_ kk_) ?_
  refine Ends.to (T' := T24) (g' := (mkF m 282 #[.val (.int p1), .val (.int p2), .val (.int p3), .val (.int (Int32.ofNat t)), .val (.int fb), .val (.ref b1), .val (.int ln), .val (.int nx), .val (.int (1 : Int32))] [])) (fun tt_ kk_ => XS.icmpNo X24.here hx rfl (hb hby at_279) rfl (teq (own_samL hW hln ht (own_b8 hfb) 5 (by decide))).2 kk_) ?_
  refine Ends.to (T' := T24) (g' := (mkF m 283 #[.val (.int p1), .val (.int p2), .val (.int p3), .val (.int (Int32.ofNat t)), .val (.int fb), .val (.ref b1), .val (.int ln), .val (.int nx), .val (.int (1 : Int32))] [(.int (1 : Int32))])) (fun tt_ kk_ => XS.iconst X24.here hx rfl (hb hby at_282) kk_) ?_
  refine Ends.to (T' := T24) (g' := (mkF m 287 #[.val (.int p1), .val (.int p2), .val (.int p3), .val (.int (Int32.ofNat t)), .val (.int fb), .val (.ref b1), .val (.int ln), .val (.int nx), .val (.int (1 : Int32))] [(.int (1 : Int32))])) (fun tt_ kk_ => XS.goto X24.here hx rfl (pc0 := 283) (pc' := 287) rfl (hb hby at_283) (by decide) (by decide) kk_) ?_
  refine Ends.to (T' := T24) (g' := (mkF m 289 #[.val (.int p1), .val (.int p2), .val (.int p3), .val (.int (Int32.ofNat t)), .val (.int fb), .val (.ref b1), .val (.int ln), .val (.int nx), .val (.int (1 : Int32))] [])) (fun tt_ kk_ => XS.istore X24.here hx rfl (hb hby at_287) rfl (l' := #[.val (.int p1), .val (.int p2), .val (.int p3), .val (.int (Int32.ofNat t)), .val (.int fb), .val (.ref b1), .val (.int ln), .val (.int nx), .val (.int (1 : Int32))]) rfl kk_) ?_
  refine Ends.to (T' := T24) (g' := (mkF m 291 #[.val (.int p1), .val (.int p2), .val (.int p3), .val (.int (Int32.ofNat t)), .val (.int fb), .val (.ref b1), .val (.int ln), .val (.int nx), .val (.int (1 : Int32))] [(.int (1 : Int32))])) (fun tt_ kk_ => XS.iload X24.here hx rfl (hb hby at_289) rfl kk_) ?_
  refine Ends.to (T' := T24) (g' := (mkF m 294 #[.val (.int p1), .val (.int p2), .val (.int p3), .val (.int (Int32.ofNat t)), .val (.int fb), .val (.ref b1), .val (.int ln), .val (.int nx), .val (.int (1 : Int32))] [])) (fun tt_ kk_ => XS.ifNo X24.here hx rfl (hb hby at_291) rfl ((if0 _ _).trans (feq (by decide)).1) kk_) ?_
  refine Ends.to (T' := T24) (g' := (mkF m 296 #[.val (.int p1), .val (.int p2), .val (.int p3), .val (.int (Int32.ofNat t)), .val (.int fb), .val (.ref b1), .val (.int ln), .val (.int nx), .val (.int (1 : Int32))] [(.ref b1)])) (fun tt_ kk_ => XS.aload X24.here hx rfl (hb hby at_294) rfl rfl kk_) ?_
  refine Ends.to (T' := T24) (g' := (mkF m 298 #[.val (.int p1), .val (.int p2), .val (.int p3), .val (.int (Int32.ofNat t)), .val (.int fb), .val (.ref b1), .val (.int ln), .val (.int nx), .val (.int (1 : Int32))] [(.int (6 : Int32)), (.ref b1)])) (fun tt_ kk_ => XS.bipush X24.here hx rfl (hb hby at_296) kk_) ?_
  refine Ends.to (T' := T24) (g' := (mkF m 299 #[.val (.int p1), .val (.int p2), .val (.int p3), .val (.int (Int32.ofNat t)), .val (.int fb), .val (.ref b1), .val (.int ln), .val (.int nx), .val (.int (1 : Int32))] [(.int (W 6))])) (fun tt_ kk_ => BA.ldB X24 hx hZ e24q B_b1 (j := (6 : Int32)) (i := 6) (by decide) rfl (by decide) (g := (mkF m 298 #[.val (.int p1), .val (.int p2), .val (.int p3), .val (.int (Int32.ofNat t)), .val (.int fb), .val (.ref b1), .val (.int ln), .val (.int nx), .val (.int (1 : Int32))] [(.int (6 : Int32)), (.ref b1)])) rfl rfl (hb hby at_298) tt_ kk_) ?_
  refine Ends.to (T' := T24) (g' := (mkF m 301 #[.val (.int p1), .val (.int p2), .val (.int p3), .val (.int (Int32.ofNat t)), .val (.int fb), .val (.ref b1), .val (.int ln), .val (.int nx), .val (.int (1 : Int32))] [(.int (6 : Int32)), (.int (W 6))])) (fun tt_ kk_ => XS.bipush X24.here hx rfl (hb hby at_299) kk_) ?_
  refine Ends.to (T' := T24) (g' := (mkF m 302 #[.val (.int p1), .val (.int p2), .val (.int p3), .val (.int (Int32.ofNat t)), .val (.int fb), .val (.ref b1), .val (.int ln), .val (.int nx), .val (.int (1 : Int32))] [(.int (Int32.ofNat t)), (.int (6 : Int32)), (.int (W 6))])) (fun tt_ kk_ => XS.iloadN X24.here hx rfl (hb hby at_301) rfl kk_) ?_
  refine Ends.to (T' := T24) (g' := (mkF m 304 #[.val (.int p1), .val (.int p2), .val (.int p3), .val (.int (Int32.ofNat t)), .val (.int fb), .val (.ref b1), .val (.int ln), .val (.int nx), .val (.int (1 : Int32))] [(.int ln), (.int (Int32.ofNat t)), (.int (6 : Int32)), (.int (W 6))])) (fun tt_ kk_ => XS.iload X24.here hx rfl (hb hby at_302) rfl kk_) ?_
  refine Ends.to (T' := T24) (g' := (mkF m 305 #[.val (.int p1), .val (.int p2), .val (.int p3), .val (.int (Int32.ofNat t)), .val (.int fb), .val (.ref b1), .val (.int ln), .val (.int nx), .val (.int (1 : Int32))] [(.int p1), (.int ln), (.int (Int32.ofNat t)), (.int (6 : Int32)), (.int (W 6))])) (fun tt_ kk_ => XS.iloadN X24.here hx rfl (hb hby at_304) rfl kk_) ?_
  refine Ends.to (T' := T24) (g' := (mkF m 307 #[.val (.int p1), .val (.int p2), .val (.int p3), .val (.int (Int32.ofNat t)), .val (.int fb), .val (.ref b1), .val (.int ln), .val (.int nx), .val (.int (1 : Int32))] [(.int fb), (.int p1), (.int ln), (.int (Int32.ofNat t)), (.int (6 : Int32)), (.int (W 6))])) (fun tt_ kk_ => XS.iload X24.here hx rfl (hb hby at_305) rfl kk_) ?_
  obtain ⟨_, _, ⟨T25, L25, k25, n25⟩, -, X25, ⟨Lc25, hQ25, l25, y25, z25⟩, st25⟩ := Jvm.LawKit.callS X24 hx (y := (⟨"com/example/trieval/trieval/index/IndexFileWriteVarIntPinLaw", "expected", "(IIIIB)B"⟩ : MethodName)) hown (mvT hZ (hw _ (List.mem_of_getElem? (i := 10) rfl))) (mvT hZ (hw _ (List.mem_of_getElem? (i := 11) rfl))) (mvT hZ (hw _ (List.mem_of_getElem? (i := 4) rfl))) (mvT hZ (hw _ (List.mem_of_getElem? (i := 12) rfl))) (by decide) (backOf (W := 1) (rm3 l Z a0 hw [] (6 : Int32) (Int32.ofNat t) ln p1 fb T18.heap n0 Zs) hZ (hw _ (List.mem_of_getElem? (i := 12) rfl)) (hw _ (List.mem_of_getElem? (i := 4) rfl)) (by decide) (by decide)) (g := (mkF m 307 #[.val (.int p1), .val (.int p2), .val (.int p3), .val (.int (Int32.ofNat t)), .val (.int fb), .val (.ref b1), .val (.int ln), .val (.int nx), .val (.int (1 : Int32))] [(.int fb), (.int p1), (.int ln), (.int (Int32.ofNat t)), (.int (6 : Int32)), (.int (W 6))])) rfl (by rw [hml]; rfl) (argsL := [(.int (6 : Int32)), (.int (Int32.ofNat t)), (.int ln), (.int p1), (.int fb)]) (rest := [(.int (W 6))]) (lenOf pd_3 rfl) rfl (by show 2 * 0 + _ ≤ _; exact Nat.le_of_eq rfl) (hb hby at_307) (fun _ _ => ⟨rfl, e24q, (by decide : 1 + 0 ≤ _), (by decide : 12 + 0 ≤ _)⟩)
  dsimp only [Pt.U, Pt.locs, Pt.cells, Pt.slots] at X25 l25 y25 z25 st25 hQ25
  subst y25 z25
  obtain ⟨rfl, N25q, e25q⟩ := hQ25
  have N25 : Fr n0 L25 := by rw [l25]; exact Fr.app N24 N25q
  refine Ends.to (T' := T25) (g' := (mkF m 310 #[.val (.int p1), .val (.int p2), .val (.int p3), .val (.int (Int32.ofNat t)), .val (.int fb), .val (.ref b1), .val (.int ln), .val (.int nx), .val (.int (1 : Int32))] [(.int (own_xp (6 : Int32) (Int32.ofNat t) ln p1 fb)), (.int (W 6))])) (fun tt_ kk_ => st25 tt_ kk_) ?_
  refine Ends.to (T' := T25) (g' := (mkF m 313 #[.val (.int p1), .val (.int p2), .val (.int p3), .val (.int (Int32.ofNat t)), .val (.int fb), .val (.ref b1), .val (.int ln), .val (.int nx), .val (.int (1 : Int32))] [])) (fun tt_ kk_ => XS.icmpNo X25.here hx rfl (hb hby at_310) rfl (teq (own_samL hW hln ht (own_b8 hfb) 6 (by decide))).2 kk_) ?_
  refine Ends.to (T' := T25) (g' := (mkF m 314 #[.val (.int p1), .val (.int p2), .val (.int p3), .val (.int (Int32.ofNat t)), .val (.int fb), .val (.ref b1), .val (.int ln), .val (.int nx), .val (.int (1 : Int32))] [(.int (1 : Int32))])) (fun tt_ kk_ => XS.iconst X25.here hx rfl (hb hby at_313) kk_) ?_
  refine Ends.to (T' := T25) (g' := (mkF m 318 #[.val (.int p1), .val (.int p2), .val (.int p3), .val (.int (Int32.ofNat t)), .val (.int fb), .val (.ref b1), .val (.int ln), .val (.int nx), .val (.int (1 : Int32))] [(.int (1 : Int32))])) (fun tt_ kk_ => XS.goto X25.here hx rfl (pc0 := 314) (pc' := 318) rfl (hb hby at_314) (by decide) (by decide) kk_) ?_
  refine Ends.to (T' := T25) (g' := (mkF m 320 #[.val (.int p1), .val (.int p2), .val (.int p3), .val (.int (Int32.ofNat t)), .val (.int fb), .val (.ref b1), .val (.int ln), .val (.int nx), .val (.int (1 : Int32))] [])) (fun tt_ kk_ => XS.istore X25.here hx rfl (hb hby at_318) rfl (l' := #[.val (.int p1), .val (.int p2), .val (.int p3), .val (.int (Int32.ofNat t)), .val (.int fb), .val (.ref b1), .val (.int ln), .val (.int nx), .val (.int (1 : Int32))]) rfl kk_) ?_
  refine Ends.to (T' := T25) (g' := (mkF m 322 #[.val (.int p1), .val (.int p2), .val (.int p3), .val (.int (Int32.ofNat t)), .val (.int fb), .val (.ref b1), .val (.int ln), .val (.int nx), .val (.int (1 : Int32))] [(.int (1 : Int32))])) (fun tt_ kk_ => XS.iload X25.here hx rfl (hb hby at_320) rfl kk_) ?_
  refine Ends.to (T' := T25) (g' := (mkF m 325 #[.val (.int p1), .val (.int p2), .val (.int p3), .val (.int (Int32.ofNat t)), .val (.int fb), .val (.ref b1), .val (.int ln), .val (.int nx), .val (.int (1 : Int32))] [])) (fun tt_ kk_ => XS.ifNo X25.here hx rfl (hb hby at_322) rfl ((if0 _ _).trans (feq (by decide)).1) kk_) ?_
  refine Ends.to (T' := T25) (g' := (mkF m 327 #[.val (.int p1), .val (.int p2), .val (.int p3), .val (.int (Int32.ofNat t)), .val (.int fb), .val (.ref b1), .val (.int ln), .val (.int nx), .val (.int (1 : Int32))] [(.ref b1)])) (fun tt_ kk_ => XS.aload X25.here hx rfl (hb hby at_325) rfl rfl kk_) ?_
  refine Ends.to (T' := T25) (g' := (mkF m 329 #[.val (.int p1), .val (.int p2), .val (.int p3), .val (.int (Int32.ofNat t)), .val (.int fb), .val (.ref b1), .val (.int ln), .val (.int nx), .val (.int (1 : Int32))] [(.int (7 : Int32)), (.ref b1)])) (fun tt_ kk_ => XS.bipush X25.here hx rfl (hb hby at_327) kk_) ?_
  refine Ends.to (T' := T25) (g' := (mkF m 330 #[.val (.int p1), .val (.int p2), .val (.int p3), .val (.int (Int32.ofNat t)), .val (.int fb), .val (.ref b1), .val (.int ln), .val (.int nx), .val (.int (1 : Int32))] [(.int (W 7))])) (fun tt_ kk_ => BA.ldB X25 hx hZ e25q B_b1 (j := (7 : Int32)) (i := 7) (by decide) rfl (by decide) (g := (mkF m 329 #[.val (.int p1), .val (.int p2), .val (.int p3), .val (.int (Int32.ofNat t)), .val (.int fb), .val (.ref b1), .val (.int ln), .val (.int nx), .val (.int (1 : Int32))] [(.int (7 : Int32)), (.ref b1)])) rfl rfl (hb hby at_329) tt_ kk_) ?_
  refine Ends.to (T' := T25) (g' := (mkF m 332 #[.val (.int p1), .val (.int p2), .val (.int p3), .val (.int (Int32.ofNat t)), .val (.int fb), .val (.ref b1), .val (.int ln), .val (.int nx), .val (.int (1 : Int32))] [(.int (7 : Int32)), (.int (W 7))])) (fun tt_ kk_ => XS.bipush X25.here hx rfl (hb hby at_330) kk_) ?_
  refine Ends.to (T' := T25) (g' := (mkF m 333 #[.val (.int p1), .val (.int p2), .val (.int p3), .val (.int (Int32.ofNat t)), .val (.int fb), .val (.ref b1), .val (.int ln), .val (.int nx), .val (.int (1 : Int32))] [(.int (Int32.ofNat t)), (.int (7 : Int32)), (.int (W 7))])) (fun tt_ kk_ => XS.iloadN X25.here hx rfl (hb hby at_332) rfl kk_) ?_
  refine Ends.to (T' := T25) (g' := (mkF m 335 #[.val (.int p1), .val (.int p2), .val (.int p3), .val (.int (Int32.ofNat t)), .val (.int fb), .val (.ref b1), .val (.int ln), .val (.int nx), .val (.int (1 : Int32))] [(.int ln), (.int (Int32.ofNat t)), (.int (7 : Int32)), (.int (W 7))])) (fun tt_ kk_ => XS.iload X25.here hx rfl (hb hby at_333) rfl kk_) ?_
  refine Ends.to (T' := T25) (g' := (mkF m 336 #[.val (.int p1), .val (.int p2), .val (.int p3), .val (.int (Int32.ofNat t)), .val (.int fb), .val (.ref b1), .val (.int ln), .val (.int nx), .val (.int (1 : Int32))] [(.int p1), (.int ln), (.int (Int32.ofNat t)), (.int (7 : Int32)), (.int (W 7))])) (fun tt_ kk_ => XS.iloadN X25.here hx rfl (hb hby at_335) rfl kk_) ?_
  refine Ends.to (T' := T25) (g' := (mkF m 338 #[.val (.int p1), .val (.int p2), .val (.int p3), .val (.int (Int32.ofNat t)), .val (.int fb), .val (.ref b1), .val (.int ln), .val (.int nx), .val (.int (1 : Int32))] [(.int fb), (.int p1), (.int ln), (.int (Int32.ofNat t)), (.int (7 : Int32)), (.int (W 7))])) (fun tt_ kk_ => XS.iload X25.here hx rfl (hb hby at_336) rfl kk_) ?_
  obtain ⟨_, _, ⟨T26, L26, k26, n26⟩, -, X26, ⟨Lc26, hQ26, l26, y26, z26⟩, st26⟩ := Jvm.LawKit.callS X25 hx (y := (⟨"com/example/trieval/trieval/index/IndexFileWriteVarIntPinLaw", "expected", "(IIIIB)B"⟩ : MethodName)) hown (mvT hZ (hw _ (List.mem_of_getElem? (i := 10) rfl))) (mvT hZ (hw _ (List.mem_of_getElem? (i := 11) rfl))) (mvT hZ (hw _ (List.mem_of_getElem? (i := 4) rfl))) (mvT hZ (hw _ (List.mem_of_getElem? (i := 12) rfl))) (by decide) (backOf (W := 1) (rm3 l Z a0 hw [] (7 : Int32) (Int32.ofNat t) ln p1 fb T18.heap n0 Zs) hZ (hw _ (List.mem_of_getElem? (i := 12) rfl)) (hw _ (List.mem_of_getElem? (i := 4) rfl)) (by decide) (by decide)) (g := (mkF m 338 #[.val (.int p1), .val (.int p2), .val (.int p3), .val (.int (Int32.ofNat t)), .val (.int fb), .val (.ref b1), .val (.int ln), .val (.int nx), .val (.int (1 : Int32))] [(.int fb), (.int p1), (.int ln), (.int (Int32.ofNat t)), (.int (7 : Int32)), (.int (W 7))])) rfl (by rw [hml]; rfl) (argsL := [(.int (7 : Int32)), (.int (Int32.ofNat t)), (.int ln), (.int p1), (.int fb)]) (rest := [(.int (W 7))]) (lenOf pd_3 rfl) rfl (by show 2 * 0 + _ ≤ _; exact Nat.le_of_eq rfl) (hb hby at_338) (fun _ _ => ⟨rfl, e25q, (by decide : 1 + 0 ≤ _), (by decide : 12 + 0 ≤ _)⟩)
  dsimp only [Pt.U, Pt.locs, Pt.cells, Pt.slots] at X26 l26 y26 z26 st26 hQ26
  subst y26 z26
  obtain ⟨rfl, N26q, e26q⟩ := hQ26
  have N26 : Fr n0 L26 := by rw [l26]; exact Fr.app N25 N26q
  refine Ends.to (T' := T26) (g' := (mkF m 341 #[.val (.int p1), .val (.int p2), .val (.int p3), .val (.int (Int32.ofNat t)), .val (.int fb), .val (.ref b1), .val (.int ln), .val (.int nx), .val (.int (1 : Int32))] [(.int (own_xp (7 : Int32) (Int32.ofNat t) ln p1 fb)), (.int (W 7))])) (fun tt_ kk_ => st26 tt_ kk_) ?_
  refine Ends.to (T' := T26) (g' := (mkF m 344 #[.val (.int p1), .val (.int p2), .val (.int p3), .val (.int (Int32.ofNat t)), .val (.int fb), .val (.ref b1), .val (.int ln), .val (.int nx), .val (.int (1 : Int32))] [])) (fun tt_ kk_ => XS.icmpNo X26.here hx rfl (hb hby at_341) rfl (teq (own_samL hW hln ht (own_b8 hfb) 7 (by decide))).2 kk_) ?_
  refine Ends.to (T' := T26) (g' := (mkF m 345 #[.val (.int p1), .val (.int p2), .val (.int p3), .val (.int (Int32.ofNat t)), .val (.int fb), .val (.ref b1), .val (.int ln), .val (.int nx), .val (.int (1 : Int32))] [(.int (1 : Int32))])) (fun tt_ kk_ => XS.iconst X26.here hx rfl (hb hby at_344) kk_) ?_
  refine Ends.to (T' := T26) (g' := (mkF m 349 #[.val (.int p1), .val (.int p2), .val (.int p3), .val (.int (Int32.ofNat t)), .val (.int fb), .val (.ref b1), .val (.int ln), .val (.int nx), .val (.int (1 : Int32))] [(.int (1 : Int32))])) (fun tt_ kk_ => XS.goto X26.here hx rfl (pc0 := 345) (pc' := 349) rfl (hb hby at_345) (by decide) (by decide) kk_) ?_
  refine Ends.to (T' := T26) (g' := (mkF m 351 #[.val (.int p1), .val (.int p2), .val (.int p3), .val (.int (Int32.ofNat t)), .val (.int fb), .val (.ref b1), .val (.int ln), .val (.int nx), .val (.int (1 : Int32))] [])) (fun tt_ kk_ => XS.istore X26.here hx rfl (hb hby at_349) rfl (l' := #[.val (.int p1), .val (.int p2), .val (.int p3), .val (.int (Int32.ofNat t)), .val (.int fb), .val (.ref b1), .val (.int ln), .val (.int nx), .val (.int (1 : Int32))]) rfl kk_) ?_
  refine Ends.to (T' := T26) (g' := (mkF m 353 #[.val (.int p1), .val (.int p2), .val (.int p3), .val (.int (Int32.ofNat t)), .val (.int fb), .val (.ref b1), .val (.int ln), .val (.int nx), .val (.int (1 : Int32))] [(.int (1 : Int32))])) (fun tt_ kk_ => XS.iload X26.here hx rfl (hb hby at_351) rfl kk_) ?_
  refine Ends.to (T' := T26) (g' := (mkF m 356 #[.val (.int p1), .val (.int p2), .val (.int p3), .val (.int (Int32.ofNat t)), .val (.int fb), .val (.ref b1), .val (.int ln), .val (.int nx), .val (.int (1 : Int32))] [])) (fun tt_ kk_ => XS.ifNo X26.here hx rfl (hb hby at_353) rfl ((if0 _ _).trans (feq (by decide)).1) kk_) ?_
  refine Ends.to (T' := T26) (g' := (mkF m 358 #[.val (.int p1), .val (.int p2), .val (.int p3), .val (.int (Int32.ofNat t)), .val (.int fb), .val (.ref b1), .val (.int ln), .val (.int nx), .val (.int (1 : Int32))] [(.ref b1)])) (fun tt_ kk_ => XS.aload X26.here hx rfl (hb hby at_356) rfl rfl kk_) ?_
  refine Ends.to (T' := T26) (g' := (mkF m 360 #[.val (.int p1), .val (.int p2), .val (.int p3), .val (.int (Int32.ofNat t)), .val (.int fb), .val (.ref b1), .val (.int ln), .val (.int nx), .val (.int (1 : Int32))] [(.int (8 : Int32)), (.ref b1)])) (fun tt_ kk_ => XS.bipush X26.here hx rfl (hb hby at_358) kk_) ?_
  refine Ends.to (T' := T26) (g' := (mkF m 361 #[.val (.int p1), .val (.int p2), .val (.int p3), .val (.int (Int32.ofNat t)), .val (.int fb), .val (.ref b1), .val (.int ln), .val (.int nx), .val (.int (1 : Int32))] [(.int (W 8))])) (fun tt_ kk_ => BA.ldB X26 hx hZ e26q B_b1 (j := (8 : Int32)) (i := 8) (by decide) rfl (by decide) (g := (mkF m 360 #[.val (.int p1), .val (.int p2), .val (.int p3), .val (.int (Int32.ofNat t)), .val (.int fb), .val (.ref b1), .val (.int ln), .val (.int nx), .val (.int (1 : Int32))] [(.int (8 : Int32)), (.ref b1)])) rfl rfl (hb hby at_360) tt_ kk_) ?_
  refine Ends.to (T' := T26) (g' := (mkF m 363 #[.val (.int p1), .val (.int p2), .val (.int p3), .val (.int (Int32.ofNat t)), .val (.int fb), .val (.ref b1), .val (.int ln), .val (.int nx), .val (.int (1 : Int32))] [(.int (8 : Int32)), (.int (W 8))])) (fun tt_ kk_ => XS.bipush X26.here hx rfl (hb hby at_361) kk_) ?_
  refine Ends.to (T' := T26) (g' := (mkF m 364 #[.val (.int p1), .val (.int p2), .val (.int p3), .val (.int (Int32.ofNat t)), .val (.int fb), .val (.ref b1), .val (.int ln), .val (.int nx), .val (.int (1 : Int32))] [(.int (Int32.ofNat t)), (.int (8 : Int32)), (.int (W 8))])) (fun tt_ kk_ => XS.iloadN X26.here hx rfl (hb hby at_363) rfl kk_) ?_
  refine Ends.to (T' := T26) (g' := (mkF m 366 #[.val (.int p1), .val (.int p2), .val (.int p3), .val (.int (Int32.ofNat t)), .val (.int fb), .val (.ref b1), .val (.int ln), .val (.int nx), .val (.int (1 : Int32))] [(.int ln), (.int (Int32.ofNat t)), (.int (8 : Int32)), (.int (W 8))])) (fun tt_ kk_ => XS.iload X26.here hx rfl (hb hby at_364) rfl kk_) ?_
  refine Ends.to (T' := T26) (g' := (mkF m 367 #[.val (.int p1), .val (.int p2), .val (.int p3), .val (.int (Int32.ofNat t)), .val (.int fb), .val (.ref b1), .val (.int ln), .val (.int nx), .val (.int (1 : Int32))] [(.int p1), (.int ln), (.int (Int32.ofNat t)), (.int (8 : Int32)), (.int (W 8))])) (fun tt_ kk_ => XS.iloadN X26.here hx rfl (hb hby at_366) rfl kk_) ?_
  refine Ends.to (T' := T26) (g' := (mkF m 369 #[.val (.int p1), .val (.int p2), .val (.int p3), .val (.int (Int32.ofNat t)), .val (.int fb), .val (.ref b1), .val (.int ln), .val (.int nx), .val (.int (1 : Int32))] [(.int fb), (.int p1), (.int ln), (.int (Int32.ofNat t)), (.int (8 : Int32)), (.int (W 8))])) (fun tt_ kk_ => XS.iload X26.here hx rfl (hb hby at_367) rfl kk_) ?_
  obtain ⟨_, _, ⟨T27, L27, k27, n27⟩, -, X27, ⟨Lc27, hQ27, l27, y27, z27⟩, st27⟩ := Jvm.LawKit.callS X26 hx (y := (⟨"com/example/trieval/trieval/index/IndexFileWriteVarIntPinLaw", "expected", "(IIIIB)B"⟩ : MethodName)) hown (mvT hZ (hw _ (List.mem_of_getElem? (i := 10) rfl))) (mvT hZ (hw _ (List.mem_of_getElem? (i := 11) rfl))) (mvT hZ (hw _ (List.mem_of_getElem? (i := 4) rfl))) (mvT hZ (hw _ (List.mem_of_getElem? (i := 12) rfl))) (by decide) (backOf (W := 1) (rm3 l Z a0 hw [] (8 : Int32) (Int32.ofNat t) ln p1 fb T18.heap n0 Zs) hZ (hw _ (List.mem_of_getElem? (i := 12) rfl)) (hw _ (List.mem_of_getElem? (i := 4) rfl)) (by decide) (by decide)) (g := (mkF m 369 #[.val (.int p1), .val (.int p2), .val (.int p3), .val (.int (Int32.ofNat t)), .val (.int fb), .val (.ref b1), .val (.int ln), .val (.int nx), .val (.int (1 : Int32))] [(.int fb), (.int p1), (.int ln), (.int (Int32.ofNat t)), (.int (8 : Int32)), (.int (W 8))])) rfl (by rw [hml]; rfl) (argsL := [(.int (8 : Int32)), (.int (Int32.ofNat t)), (.int ln), (.int p1), (.int fb)]) (rest := [(.int (W 8))]) (lenOf pd_3 rfl) rfl (by show 2 * 0 + _ ≤ _; exact Nat.le_of_eq rfl) (hb hby at_369) (fun _ _ => ⟨rfl, e26q, (by decide : 1 + 0 ≤ _), (by decide : 12 + 0 ≤ _)⟩)
  dsimp only [Pt.U, Pt.locs, Pt.cells, Pt.slots] at X27 l27 y27 z27 st27 hQ27
  subst y27 z27
  obtain ⟨rfl, N27q, e27q⟩ := hQ27
  have N27 : Fr n0 L27 := by rw [l27]; exact Fr.app N26 N27q
  refine Ends.to (T' := T27) (g' := (mkF m 372 #[.val (.int p1), .val (.int p2), .val (.int p3), .val (.int (Int32.ofNat t)), .val (.int fb), .val (.ref b1), .val (.int ln), .val (.int nx), .val (.int (1 : Int32))] [(.int (own_xp (8 : Int32) (Int32.ofNat t) ln p1 fb)), (.int (W 8))])) (fun tt_ kk_ => st27 tt_ kk_) ?_
  refine Ends.to (T' := T27) (g' := (mkF m 375 #[.val (.int p1), .val (.int p2), .val (.int p3), .val (.int (Int32.ofNat t)), .val (.int fb), .val (.ref b1), .val (.int ln), .val (.int nx), .val (.int (1 : Int32))] [])) (fun tt_ kk_ => XS.icmpNo X27.here hx rfl (hb hby at_372) rfl (teq (own_samL hW hln ht (own_b8 hfb) 8 (by decide))).2 kk_) ?_
  refine Ends.to (T' := T27) (g' := (mkF m 376 #[.val (.int p1), .val (.int p2), .val (.int p3), .val (.int (Int32.ofNat t)), .val (.int fb), .val (.ref b1), .val (.int ln), .val (.int nx), .val (.int (1 : Int32))] [(.int (1 : Int32))])) (fun tt_ kk_ => XS.iconst X27.here hx rfl (hb hby at_375) kk_) ?_
  refine Ends.to (T' := T27) (g' := (mkF m 380 #[.val (.int p1), .val (.int p2), .val (.int p3), .val (.int (Int32.ofNat t)), .val (.int fb), .val (.ref b1), .val (.int ln), .val (.int nx), .val (.int (1 : Int32))] [(.int (1 : Int32))])) (fun tt_ kk_ => XS.goto X27.here hx rfl (pc0 := 376) (pc' := 380) rfl (hb hby at_376) (by decide) (by decide) kk_) ?_
  refine Ends.to (T' := T27) (g' := (mkF m 382 #[.val (.int p1), .val (.int p2), .val (.int p3), .val (.int (Int32.ofNat t)), .val (.int fb), .val (.ref b1), .val (.int ln), .val (.int nx), .val (.int (1 : Int32))] [])) (fun tt_ kk_ => XS.istore X27.here hx rfl (hb hby at_380) rfl (l' := #[.val (.int p1), .val (.int p2), .val (.int p3), .val (.int (Int32.ofNat t)), .val (.int fb), .val (.ref b1), .val (.int ln), .val (.int nx), .val (.int (1 : Int32))]) rfl kk_) ?_
  refine Ends.to (T' := T27) (g' := (mkF m 384 #[.val (.int p1), .val (.int p2), .val (.int p3), .val (.int (Int32.ofNat t)), .val (.int fb), .val (.ref b1), .val (.int ln), .val (.int nx), .val (.int (1 : Int32))] [(.int (1 : Int32))])) (fun tt_ kk_ => XS.iload X27.here hx rfl (hb hby at_382) rfl kk_) ?_
  refine Ends.to (T' := T27) (g' := (mkF m 387 #[.val (.int p1), .val (.int p2), .val (.int p3), .val (.int (Int32.ofNat t)), .val (.int fb), .val (.ref b1), .val (.int ln), .val (.int nx), .val (.int (1 : Int32))] [])) (fun tt_ kk_ => XS.ifNo X27.here hx rfl (hb hby at_384) rfl ((if0 _ _).trans (feq (by decide)).1) kk_) ?_
  refine Ends.to (T' := T27) (g' := (mkF m 389 #[.val (.int p1), .val (.int p2), .val (.int p3), .val (.int (Int32.ofNat t)), .val (.int fb), .val (.ref b1), .val (.int ln), .val (.int nx), .val (.int (1 : Int32))] [(.ref b1)])) (fun tt_ kk_ => XS.aload X27.here hx rfl (hb hby at_387) rfl rfl kk_) ?_
  refine Ends.to (T' := T27) (g' := (mkF m 391 #[.val (.int p1), .val (.int p2), .val (.int p3), .val (.int (Int32.ofNat t)), .val (.int fb), .val (.ref b1), .val (.int ln), .val (.int nx), .val (.int (1 : Int32))] [(.int (9 : Int32)), (.ref b1)])) (fun tt_ kk_ => XS.bipush X27.here hx rfl (hb hby at_389) kk_) ?_
  refine Ends.to (T' := T27) (g' := (mkF m 392 #[.val (.int p1), .val (.int p2), .val (.int p3), .val (.int (Int32.ofNat t)), .val (.int fb), .val (.ref b1), .val (.int ln), .val (.int nx), .val (.int (1 : Int32))] [(.int (W 9))])) (fun tt_ kk_ => BA.ldB X27 hx hZ e27q B_b1 (j := (9 : Int32)) (i := 9) (by decide) rfl (by decide) (g := (mkF m 391 #[.val (.int p1), .val (.int p2), .val (.int p3), .val (.int (Int32.ofNat t)), .val (.int fb), .val (.ref b1), .val (.int ln), .val (.int nx), .val (.int (1 : Int32))] [(.int (9 : Int32)), (.ref b1)])) rfl rfl (hb hby at_391) tt_ kk_) ?_
  refine Ends.to (T' := T27) (g' := (mkF m 394 #[.val (.int p1), .val (.int p2), .val (.int p3), .val (.int (Int32.ofNat t)), .val (.int fb), .val (.ref b1), .val (.int ln), .val (.int nx), .val (.int (1 : Int32))] [(.int (9 : Int32)), (.int (W 9))])) (fun tt_ kk_ => XS.bipush X27.here hx rfl (hb hby at_392) kk_) ?_
  refine Ends.to (T' := T27) (g' := (mkF m 395 #[.val (.int p1), .val (.int p2), .val (.int p3), .val (.int (Int32.ofNat t)), .val (.int fb), .val (.ref b1), .val (.int ln), .val (.int nx), .val (.int (1 : Int32))] [(.int (Int32.ofNat t)), (.int (9 : Int32)), (.int (W 9))])) (fun tt_ kk_ => XS.iloadN X27.here hx rfl (hb hby at_394) rfl kk_) ?_
  refine Ends.to (T' := T27) (g' := (mkF m 397 #[.val (.int p1), .val (.int p2), .val (.int p3), .val (.int (Int32.ofNat t)), .val (.int fb), .val (.ref b1), .val (.int ln), .val (.int nx), .val (.int (1 : Int32))] [(.int ln), (.int (Int32.ofNat t)), (.int (9 : Int32)), (.int (W 9))])) (fun tt_ kk_ => XS.iload X27.here hx rfl (hb hby at_395) rfl kk_) ?_
  refine Ends.to (T' := T27) (g' := (mkF m 398 #[.val (.int p1), .val (.int p2), .val (.int p3), .val (.int (Int32.ofNat t)), .val (.int fb), .val (.ref b1), .val (.int ln), .val (.int nx), .val (.int (1 : Int32))] [(.int p1), (.int ln), (.int (Int32.ofNat t)), (.int (9 : Int32)), (.int (W 9))])) (fun tt_ kk_ => XS.iloadN X27.here hx rfl (hb hby at_397) rfl kk_) ?_
  refine Ends.to (T' := T27) (g' := (mkF m 400 #[.val (.int p1), .val (.int p2), .val (.int p3), .val (.int (Int32.ofNat t)), .val (.int fb), .val (.ref b1), .val (.int ln), .val (.int nx), .val (.int (1 : Int32))] [(.int fb), (.int p1), (.int ln), (.int (Int32.ofNat t)), (.int (9 : Int32)), (.int (W 9))])) (fun tt_ kk_ => XS.iload X27.here hx rfl (hb hby at_398) rfl kk_) ?_
  obtain ⟨_, _, ⟨T28, L28, k28, n28⟩, -, X28, ⟨Lc28, hQ28, l28, y28, z28⟩, st28⟩ := Jvm.LawKit.callS X27 hx (y := (⟨"com/example/trieval/trieval/index/IndexFileWriteVarIntPinLaw", "expected", "(IIIIB)B"⟩ : MethodName)) hown (mvT hZ (hw _ (List.mem_of_getElem? (i := 10) rfl))) (mvT hZ (hw _ (List.mem_of_getElem? (i := 11) rfl))) (mvT hZ (hw _ (List.mem_of_getElem? (i := 4) rfl))) (mvT hZ (hw _ (List.mem_of_getElem? (i := 12) rfl))) (by decide) (backOf (W := 1) (rm3 l Z a0 hw [] (9 : Int32) (Int32.ofNat t) ln p1 fb T18.heap n0 Zs) hZ (hw _ (List.mem_of_getElem? (i := 12) rfl)) (hw _ (List.mem_of_getElem? (i := 4) rfl)) (by decide) (by decide)) (g := (mkF m 400 #[.val (.int p1), .val (.int p2), .val (.int p3), .val (.int (Int32.ofNat t)), .val (.int fb), .val (.ref b1), .val (.int ln), .val (.int nx), .val (.int (1 : Int32))] [(.int fb), (.int p1), (.int ln), (.int (Int32.ofNat t)), (.int (9 : Int32)), (.int (W 9))])) rfl (by rw [hml]; rfl) (argsL := [(.int (9 : Int32)), (.int (Int32.ofNat t)), (.int ln), (.int p1), (.int fb)]) (rest := [(.int (W 9))]) (lenOf pd_3 rfl) rfl (by show 2 * 0 + _ ≤ _; exact Nat.le_of_eq rfl) (hb hby at_400) (fun _ _ => ⟨rfl, e27q, (by decide : 1 + 0 ≤ _), (by decide : 12 + 0 ≤ _)⟩)
  dsimp only [Pt.U, Pt.locs, Pt.cells, Pt.slots] at X28 l28 y28 z28 st28 hQ28
  subst y28 z28
  obtain ⟨rfl, N28q, e28q⟩ := hQ28
  have N28 : Fr n0 L28 := by rw [l28]; exact Fr.app N27 N28q
  refine Ends.to (T' := T28) (g' := (mkF m 403 #[.val (.int p1), .val (.int p2), .val (.int p3), .val (.int (Int32.ofNat t)), .val (.int fb), .val (.ref b1), .val (.int ln), .val (.int nx), .val (.int (1 : Int32))] [(.int (own_xp (9 : Int32) (Int32.ofNat t) ln p1 fb)), (.int (W 9))])) (fun tt_ kk_ => st28 tt_ kk_) ?_
  refine Ends.to (T' := T28) (g' := (mkF m 406 #[.val (.int p1), .val (.int p2), .val (.int p3), .val (.int (Int32.ofNat t)), .val (.int fb), .val (.ref b1), .val (.int ln), .val (.int nx), .val (.int (1 : Int32))] [])) (fun tt_ kk_ => XS.icmpNo X28.here hx rfl (hb hby at_403) rfl (teq (own_samL hW hln ht (own_b8 hfb) 9 (by decide))).2 kk_) ?_
  refine Ends.to (T' := T28) (g' := (mkF m 407 #[.val (.int p1), .val (.int p2), .val (.int p3), .val (.int (Int32.ofNat t)), .val (.int fb), .val (.ref b1), .val (.int ln), .val (.int nx), .val (.int (1 : Int32))] [(.int (1 : Int32))])) (fun tt_ kk_ => XS.iconst X28.here hx rfl (hb hby at_406) kk_) ?_
  refine Ends.to (T' := T28) (g' := (mkF m 411 #[.val (.int p1), .val (.int p2), .val (.int p3), .val (.int (Int32.ofNat t)), .val (.int fb), .val (.ref b1), .val (.int ln), .val (.int nx), .val (.int (1 : Int32))] [(.int (1 : Int32))])) (fun tt_ kk_ => XS.goto X28.here hx rfl (pc0 := 407) (pc' := 411) rfl (hb hby at_407) (by decide) (by decide) kk_) ?_
  refine Ends.to (T' := T28) (g' := (mkF m 413 #[.val (.int p1), .val (.int p2), .val (.int p3), .val (.int (Int32.ofNat t)), .val (.int fb), .val (.ref b1), .val (.int ln), .val (.int nx), .val (.int (1 : Int32))] [])) (fun tt_ kk_ => XS.istore X28.here hx rfl (hb hby at_411) rfl (l' := #[.val (.int p1), .val (.int p2), .val (.int p3), .val (.int (Int32.ofNat t)), .val (.int fb), .val (.ref b1), .val (.int ln), .val (.int nx), .val (.int (1 : Int32))]) rfl kk_) ?_
  refine Ends.to (T' := T28) (g' := (mkF m 415 #[.val (.int p1), .val (.int p2), .val (.int p3), .val (.int (Int32.ofNat t)), .val (.int fb), .val (.ref b1), .val (.int ln), .val (.int nx), .val (.int (1 : Int32))] [(.int (1 : Int32))])) (fun tt_ kk_ => XS.iload X28.here hx rfl (hb hby at_413) rfl kk_) ?_
  refine Ends.to (T' := T28) (g' := (mkF m 418 #[.val (.int p1), .val (.int p2), .val (.int p3), .val (.int (Int32.ofNat t)), .val (.int fb), .val (.ref b1), .val (.int ln), .val (.int nx), .val (.int (1 : Int32))] [])) (fun tt_ kk_ => XS.ifNo X28.here hx rfl (hb hby at_415) rfl ((if0 _ _).trans (feq (by decide)).1) kk_) ?_
  refine Ends.to (T' := T28) (g' := (mkF m 420 #[.val (.int p1), .val (.int p2), .val (.int p3), .val (.int (Int32.ofNat t)), .val (.int fb), .val (.ref b1), .val (.int ln), .val (.int nx), .val (.int (1 : Int32))] [(.ref b1)])) (fun tt_ kk_ => XS.aload X28.here hx rfl (hb hby at_418) rfl rfl kk_) ?_
  refine Ends.to (T' := T28) (g' := (mkF m 422 #[.val (.int p1), .val (.int p2), .val (.int p3), .val (.int (Int32.ofNat t)), .val (.int fb), .val (.ref b1), .val (.int ln), .val (.int nx), .val (.int (1 : Int32))] [(.int (10 : Int32)), (.ref b1)])) (fun tt_ kk_ => XS.bipush X28.here hx rfl (hb hby at_420) kk_) ?_
  refine Ends.to (T' := T28) (g' := (mkF m 423 #[.val (.int p1), .val (.int p2), .val (.int p3), .val (.int (Int32.ofNat t)), .val (.int fb), .val (.ref b1), .val (.int ln), .val (.int nx), .val (.int (1 : Int32))] [(.int (W 10))])) (fun tt_ kk_ => BA.ldB X28 hx hZ e28q B_b1 (j := (10 : Int32)) (i := 10) (by decide) rfl (by decide) (g := (mkF m 422 #[.val (.int p1), .val (.int p2), .val (.int p3), .val (.int (Int32.ofNat t)), .val (.int fb), .val (.ref b1), .val (.int ln), .val (.int nx), .val (.int (1 : Int32))] [(.int (10 : Int32)), (.ref b1)])) rfl rfl (hb hby at_422) tt_ kk_) ?_
  refine Ends.to (T' := T28) (g' := (mkF m 425 #[.val (.int p1), .val (.int p2), .val (.int p3), .val (.int (Int32.ofNat t)), .val (.int fb), .val (.ref b1), .val (.int ln), .val (.int nx), .val (.int (1 : Int32))] [(.int (10 : Int32)), (.int (W 10))])) (fun tt_ kk_ => XS.bipush X28.here hx rfl (hb hby at_423) kk_) ?_
  refine Ends.to (T' := T28) (g' := (mkF m 426 #[.val (.int p1), .val (.int p2), .val (.int p3), .val (.int (Int32.ofNat t)), .val (.int fb), .val (.ref b1), .val (.int ln), .val (.int nx), .val (.int (1 : Int32))] [(.int (Int32.ofNat t)), (.int (10 : Int32)), (.int (W 10))])) (fun tt_ kk_ => XS.iloadN X28.here hx rfl (hb hby at_425) rfl kk_) ?_
  refine Ends.to (T' := T28) (g' := (mkF m 428 #[.val (.int p1), .val (.int p2), .val (.int p3), .val (.int (Int32.ofNat t)), .val (.int fb), .val (.ref b1), .val (.int ln), .val (.int nx), .val (.int (1 : Int32))] [(.int ln), (.int (Int32.ofNat t)), (.int (10 : Int32)), (.int (W 10))])) (fun tt_ kk_ => XS.iload X28.here hx rfl (hb hby at_426) rfl kk_) ?_
  refine Ends.to (T' := T28) (g' := (mkF m 429 #[.val (.int p1), .val (.int p2), .val (.int p3), .val (.int (Int32.ofNat t)), .val (.int fb), .val (.ref b1), .val (.int ln), .val (.int nx), .val (.int (1 : Int32))] [(.int p1), (.int ln), (.int (Int32.ofNat t)), (.int (10 : Int32)), (.int (W 10))])) (fun tt_ kk_ => XS.iloadN X28.here hx rfl (hb hby at_428) rfl kk_) ?_
  refine Ends.to (T' := T28) (g' := (mkF m 431 #[.val (.int p1), .val (.int p2), .val (.int p3), .val (.int (Int32.ofNat t)), .val (.int fb), .val (.ref b1), .val (.int ln), .val (.int nx), .val (.int (1 : Int32))] [(.int fb), (.int p1), (.int ln), (.int (Int32.ofNat t)), (.int (10 : Int32)), (.int (W 10))])) (fun tt_ kk_ => XS.iload X28.here hx rfl (hb hby at_429) rfl kk_) ?_
  obtain ⟨_, _, ⟨T29, L29, k29, n29⟩, -, X29, ⟨Lc29, hQ29, l29, y29, z29⟩, st29⟩ := Jvm.LawKit.callS X28 hx (y := (⟨"com/example/trieval/trieval/index/IndexFileWriteVarIntPinLaw", "expected", "(IIIIB)B"⟩ : MethodName)) hown (mvT hZ (hw _ (List.mem_of_getElem? (i := 10) rfl))) (mvT hZ (hw _ (List.mem_of_getElem? (i := 11) rfl))) (mvT hZ (hw _ (List.mem_of_getElem? (i := 4) rfl))) (mvT hZ (hw _ (List.mem_of_getElem? (i := 12) rfl))) (by decide) (backOf (W := 1) (rm3 l Z a0 hw [] (10 : Int32) (Int32.ofNat t) ln p1 fb T18.heap n0 Zs) hZ (hw _ (List.mem_of_getElem? (i := 12) rfl)) (hw _ (List.mem_of_getElem? (i := 4) rfl)) (by decide) (by decide)) (g := (mkF m 431 #[.val (.int p1), .val (.int p2), .val (.int p3), .val (.int (Int32.ofNat t)), .val (.int fb), .val (.ref b1), .val (.int ln), .val (.int nx), .val (.int (1 : Int32))] [(.int fb), (.int p1), (.int ln), (.int (Int32.ofNat t)), (.int (10 : Int32)), (.int (W 10))])) rfl (by rw [hml]; rfl) (argsL := [(.int (10 : Int32)), (.int (Int32.ofNat t)), (.int ln), (.int p1), (.int fb)]) (rest := [(.int (W 10))]) (lenOf pd_3 rfl) rfl (by show 2 * 0 + _ ≤ _; exact Nat.le_of_eq rfl) (hb hby at_431) (fun _ _ => ⟨rfl, e28q, (by decide : 1 + 0 ≤ _), (by decide : 12 + 0 ≤ _)⟩)
  dsimp only [Pt.U, Pt.locs, Pt.cells, Pt.slots] at X29 l29 y29 z29 st29 hQ29
  subst y29 z29
  obtain ⟨rfl, N29q, e29q⟩ := hQ29
  have N29 : Fr n0 L29 := by rw [l29]; exact Fr.app N28 N29q
  refine Ends.to (T' := T29) (g' := (mkF m 434 #[.val (.int p1), .val (.int p2), .val (.int p3), .val (.int (Int32.ofNat t)), .val (.int fb), .val (.ref b1), .val (.int ln), .val (.int nx), .val (.int (1 : Int32))] [(.int (own_xp (10 : Int32) (Int32.ofNat t) ln p1 fb)), (.int (W 10))])) (fun tt_ kk_ => st29 tt_ kk_) ?_
  refine Ends.to (T' := T29) (g' := (mkF m 437 #[.val (.int p1), .val (.int p2), .val (.int p3), .val (.int (Int32.ofNat t)), .val (.int fb), .val (.ref b1), .val (.int ln), .val (.int nx), .val (.int (1 : Int32))] [])) (fun tt_ kk_ => XS.icmpNo X29.here hx rfl (hb hby at_434) rfl (teq (own_samL hW hln ht (own_b8 hfb) 10 (by decide))).2 kk_) ?_
  refine Ends.to (T' := T29) (g' := (mkF m 438 #[.val (.int p1), .val (.int p2), .val (.int p3), .val (.int (Int32.ofNat t)), .val (.int fb), .val (.ref b1), .val (.int ln), .val (.int nx), .val (.int (1 : Int32))] [(.int (1 : Int32))])) (fun tt_ kk_ => XS.iconst X29.here hx rfl (hb hby at_437) kk_) ?_
  refine Ends.to (T' := T29) (g' := (mkF m 442 #[.val (.int p1), .val (.int p2), .val (.int p3), .val (.int (Int32.ofNat t)), .val (.int fb), .val (.ref b1), .val (.int ln), .val (.int nx), .val (.int (1 : Int32))] [(.int (1 : Int32))])) (fun tt_ kk_ => XS.goto X29.here hx rfl (pc0 := 438) (pc' := 442) rfl (hb hby at_438) (by decide) (by decide) kk_) ?_
  refine Ends.to (T' := T29) (g' := (mkF m 444 #[.val (.int p1), .val (.int p2), .val (.int p3), .val (.int (Int32.ofNat t)), .val (.int fb), .val (.ref b1), .val (.int ln), .val (.int nx), .val (.int (1 : Int32))] [])) (fun tt_ kk_ => XS.istore X29.here hx rfl (hb hby at_442) rfl (l' := #[.val (.int p1), .val (.int p2), .val (.int p3), .val (.int (Int32.ofNat t)), .val (.int fb), .val (.ref b1), .val (.int ln), .val (.int nx), .val (.int (1 : Int32))]) rfl kk_) ?_
  refine Ends.to (T' := T29) (g' := (mkF m 446 #[.val (.int p1), .val (.int p2), .val (.int p3), .val (.int (Int32.ofNat t)), .val (.int fb), .val (.ref b1), .val (.int ln), .val (.int nx), .val (.int (1 : Int32))] [(.int (1 : Int32))])) (fun tt_ kk_ => XS.iload X29.here hx rfl (hb hby at_444) rfl kk_) ?_
  refine Ends.to (T' := T29) (g' := (mkF m 449 #[.val (.int p1), .val (.int p2), .val (.int p3), .val (.int (Int32.ofNat t)), .val (.int fb), .val (.ref b1), .val (.int ln), .val (.int nx), .val (.int (1 : Int32))] [])) (fun tt_ kk_ => XS.ifNo X29.here hx rfl (hb hby at_446) rfl ((if0 _ _).trans (feq (by decide)).1) kk_) ?_
  refine Ends.to (T' := T29) (g' := (mkF m 451 #[.val (.int p1), .val (.int p2), .val (.int p3), .val (.int (Int32.ofNat t)), .val (.int fb), .val (.ref b1), .val (.int ln), .val (.int nx), .val (.int (1 : Int32))] [(.ref b1)])) (fun tt_ kk_ => XS.aload X29.here hx rfl (hb hby at_449) rfl rfl kk_) ?_
  refine Ends.to (T' := T29) (g' := (mkF m 453 #[.val (.int p1), .val (.int p2), .val (.int p3), .val (.int (Int32.ofNat t)), .val (.int fb), .val (.ref b1), .val (.int ln), .val (.int nx), .val (.int (1 : Int32))] [(.int (11 : Int32)), (.ref b1)])) (fun tt_ kk_ => XS.bipush X29.here hx rfl (hb hby at_451) kk_) ?_
  refine Ends.to (T' := T29) (g' := (mkF m 454 #[.val (.int p1), .val (.int p2), .val (.int p3), .val (.int (Int32.ofNat t)), .val (.int fb), .val (.ref b1), .val (.int ln), .val (.int nx), .val (.int (1 : Int32))] [(.int (W 11))])) (fun tt_ kk_ => BA.ldB X29 hx hZ e29q B_b1 (j := (11 : Int32)) (i := 11) (by decide) rfl (by decide) (g := (mkF m 453 #[.val (.int p1), .val (.int p2), .val (.int p3), .val (.int (Int32.ofNat t)), .val (.int fb), .val (.ref b1), .val (.int ln), .val (.int nx), .val (.int (1 : Int32))] [(.int (11 : Int32)), (.ref b1)])) rfl rfl (hb hby at_453) tt_ kk_) ?_
  refine Ends.to (T' := T29) (g' := (mkF m 456 #[.val (.int p1), .val (.int p2), .val (.int p3), .val (.int (Int32.ofNat t)), .val (.int fb), .val (.ref b1), .val (.int ln), .val (.int nx), .val (.int (1 : Int32))] [(.int (11 : Int32)), (.int (W 11))])) (fun tt_ kk_ => XS.bipush X29.here hx rfl (hb hby at_454) kk_) ?_
  refine Ends.to (T' := T29) (g' := (mkF m 457 #[.val (.int p1), .val (.int p2), .val (.int p3), .val (.int (Int32.ofNat t)), .val (.int fb), .val (.ref b1), .val (.int ln), .val (.int nx), .val (.int (1 : Int32))] [(.int (Int32.ofNat t)), (.int (11 : Int32)), (.int (W 11))])) (fun tt_ kk_ => XS.iloadN X29.here hx rfl (hb hby at_456) rfl kk_) ?_
  refine Ends.to (T' := T29) (g' := (mkF m 459 #[.val (.int p1), .val (.int p2), .val (.int p3), .val (.int (Int32.ofNat t)), .val (.int fb), .val (.ref b1), .val (.int ln), .val (.int nx), .val (.int (1 : Int32))] [(.int ln), (.int (Int32.ofNat t)), (.int (11 : Int32)), (.int (W 11))])) (fun tt_ kk_ => XS.iload X29.here hx rfl (hb hby at_457) rfl kk_) ?_
  refine Ends.to (T' := T29) (g' := (mkF m 460 #[.val (.int p1), .val (.int p2), .val (.int p3), .val (.int (Int32.ofNat t)), .val (.int fb), .val (.ref b1), .val (.int ln), .val (.int nx), .val (.int (1 : Int32))] [(.int p1), (.int ln), (.int (Int32.ofNat t)), (.int (11 : Int32)), (.int (W 11))])) (fun tt_ kk_ => XS.iloadN X29.here hx rfl (hb hby at_459) rfl kk_) ?_
  refine Ends.to (T' := T29) (g' := (mkF m 462 #[.val (.int p1), .val (.int p2), .val (.int p3), .val (.int (Int32.ofNat t)), .val (.int fb), .val (.ref b1), .val (.int ln), .val (.int nx), .val (.int (1 : Int32))] [(.int fb), (.int p1), (.int ln), (.int (Int32.ofNat t)), (.int (11 : Int32)), (.int (W 11))])) (fun tt_ kk_ => XS.iload X29.here hx rfl (hb hby at_460) rfl kk_) ?_
  obtain ⟨_, _, ⟨T30, L30, k30, n30⟩, -, X30, ⟨Lc30, hQ30, l30, y30, z30⟩, st30⟩ := Jvm.LawKit.callS X29 hx (y := (⟨"com/example/trieval/trieval/index/IndexFileWriteVarIntPinLaw", "expected", "(IIIIB)B"⟩ : MethodName)) hown (mvT hZ (hw _ (List.mem_of_getElem? (i := 10) rfl))) (mvT hZ (hw _ (List.mem_of_getElem? (i := 11) rfl))) (mvT hZ (hw _ (List.mem_of_getElem? (i := 4) rfl))) (mvT hZ (hw _ (List.mem_of_getElem? (i := 12) rfl))) (by decide) (backOf (W := 1) (rm3 l Z a0 hw [] (11 : Int32) (Int32.ofNat t) ln p1 fb T18.heap n0 Zs) hZ (hw _ (List.mem_of_getElem? (i := 12) rfl)) (hw _ (List.mem_of_getElem? (i := 4) rfl)) (by decide) (by decide)) (g := (mkF m 462 #[.val (.int p1), .val (.int p2), .val (.int p3), .val (.int (Int32.ofNat t)), .val (.int fb), .val (.ref b1), .val (.int ln), .val (.int nx), .val (.int (1 : Int32))] [(.int fb), (.int p1), (.int ln), (.int (Int32.ofNat t)), (.int (11 : Int32)), (.int (W 11))])) rfl (by rw [hml]; rfl) (argsL := [(.int (11 : Int32)), (.int (Int32.ofNat t)), (.int ln), (.int p1), (.int fb)]) (rest := [(.int (W 11))]) (lenOf pd_3 rfl) rfl (by show 2 * 0 + _ ≤ _; exact Nat.le_of_eq rfl) (hb hby at_462) (fun _ _ => ⟨rfl, e29q, (by decide : 1 + 0 ≤ _), (by decide : 12 + 0 ≤ _)⟩)
  dsimp only [Pt.U, Pt.locs, Pt.cells, Pt.slots] at X30 l30 y30 z30 st30 hQ30
  subst y30 z30
  obtain ⟨rfl, N30q, e30q⟩ := hQ30
  have N30 : Fr n0 L30 := by rw [l30]; exact Fr.app N29 N30q
  refine Ends.to (T' := T30) (g' := (mkF m 465 #[.val (.int p1), .val (.int p2), .val (.int p3), .val (.int (Int32.ofNat t)), .val (.int fb), .val (.ref b1), .val (.int ln), .val (.int nx), .val (.int (1 : Int32))] [(.int (own_xp (11 : Int32) (Int32.ofNat t) ln p1 fb)), (.int (W 11))])) (fun tt_ kk_ => st30 tt_ kk_) ?_
  refine Ends.to (T' := T30) (g' := (mkF m 468 #[.val (.int p1), .val (.int p2), .val (.int p3), .val (.int (Int32.ofNat t)), .val (.int fb), .val (.ref b1), .val (.int ln), .val (.int nx), .val (.int (1 : Int32))] [])) (fun tt_ kk_ => XS.icmpNo X30.here hx rfl (hb hby at_465) rfl (teq (own_samL hW hln ht (own_b8 hfb) 11 (by decide))).2 kk_) ?_
  refine Ends.to (T' := T30) (g' := (mkF m 469 #[.val (.int p1), .val (.int p2), .val (.int p3), .val (.int (Int32.ofNat t)), .val (.int fb), .val (.ref b1), .val (.int ln), .val (.int nx), .val (.int (1 : Int32))] [(.int (1 : Int32))])) (fun tt_ kk_ => XS.iconst X30.here hx rfl (hb hby at_468) kk_) ?_
  refine Ends.to (T' := T30) (g' := (mkF m 473 #[.val (.int p1), .val (.int p2), .val (.int p3), .val (.int (Int32.ofNat t)), .val (.int fb), .val (.ref b1), .val (.int ln), .val (.int nx), .val (.int (1 : Int32))] [(.int (1 : Int32))])) (fun tt_ kk_ => XS.goto X30.here hx rfl (pc0 := 469) (pc' := 473) rfl (hb hby at_469) (by decide) (by decide) kk_) ?_
  refine Ends.to (T' := T30) (g' := (mkF m 475 #[.val (.int p1), .val (.int p2), .val (.int p3), .val (.int (Int32.ofNat t)), .val (.int fb), .val (.ref b1), .val (.int ln), .val (.int nx), .val (.int (1 : Int32))] [])) (fun tt_ kk_ => XS.istore X30.here hx rfl (hb hby at_473) rfl (l' := #[.val (.int p1), .val (.int p2), .val (.int p3), .val (.int (Int32.ofNat t)), .val (.int fb), .val (.ref b1), .val (.int ln), .val (.int nx), .val (.int (1 : Int32))]) rfl kk_) ?_
  refine Ends.to (T' := T30) (g' := (mkF m 477 #[.val (.int p1), .val (.int p2), .val (.int p3), .val (.int (Int32.ofNat t)), .val (.int fb), .val (.ref b1), .val (.int ln), .val (.int nx), .val (.int (1 : Int32))] [(.int (1 : Int32))])) (fun tt_ kk_ => XS.iload X30.here hx rfl (hb hby at_475) rfl kk_) ?_
  exact Ends.retN (t := .boolean) (by simp) X30 hx hret (hb hby at_477) hlk (by decide) (by decide) ⟨by decide, N30⟩
set_option maxRecDepth 65536 in
set_option maxHeartbeats 40000000 in
theorem comes_1 {Post : Tables → Env → Array Value → State → Outcome → State → Prop} (hpost : ∀ tb e args s v u, (limb_1_1.after args s (.returned v) u = true ∧ limb_1_2.after args s (.returned v) u = true ∧ True) → FrameEnd s (.returned v) u (Jvm.fieldLocs frame_1_writes args s ++ Jvm.arrayLocs frame_1_arrays args s ++ Jvm.staticLocs frame_1_statics s) 16 128 → Post tb e args s (.returned v) u) :
    ArmFor flags0 classFile x code maxLocals ret World_1 tables_1 room_1 Calls_1 rest_1 Pre_1 Post := by
  intro l hfl _ _ p e ha hc hk s m args below hf hA hF happ hP
  obtain ⟨hcalls, hrest, hpre⟩ := hP
  obtain ⟨-, -, -, hnamed, -, -, -, hat⟩ := (Spec.applies_iff hf).mp happ
  obtain ⟨hg, hn⟩ := and_e (Cond.before_iff.mp (show (Jvm.Cond.and given_1 narrow_1).before args s = true from hpre))
  obtain ⟨hcount, t0⟩ := and_e hg
  obtain ⟨k0, t1⟩ := and_e t0
  obtain ⟨k1, t2⟩ := and_e t1
  obtain ⟨w0, w1, w2, rfl⟩ : ∃ w0 w1 w2 : Value, args = #[w0, w1, w2] := by
    have hs : args.size = 3 := by simpa [Cond.value, given_1] using hcount
    obtain ⟨L⟩ := args
    match L, hs with
    | [w0, w1, w2], _ => exact ⟨w0, w1, w2, rfl⟩
  have hw := fun d (hd : d ∈ tables_1) => atoms_spec (ws := Jvm.Cond.code x code maxLocals ret :: tables_1) hat d (List.mem_cons_of_mem _ hd)
  obtain ⟨i0, ei0⟩ := is_v k0
  obtain rfl : w0 = (.int i0) := Option.some.inj ei0
  obtain ⟨i1, ei1⟩ := is_v k1
  obtain rfl : w1 = (.int i1) := Option.some.inj ei1
  obtain ⟨i2, ei2⟩ := is_v t2
  obtain rfl : w2 = (.int i2) := Option.some.inj ei2
  obtain ⟨n, o, h1, h2, h3, _, L, rfl, ⟨rfl, N⟩, hq⟩ := rm0 l s _ hw tables_1 i0 i1 i2 s.heap s.heap.size (Nat.le_refl _) p e ha hc hk s m _ below hf ((Spec.applies_iff_loose hf).mp happ).1 ⟨rfl, State.Warmed39.refl s, rfl⟩ trivial
  refine ⟨n, _, h1, h2, h3, hpost _ _ _ _ _ _ ⟨Cond.after_iff.mpr rfl, Cond.after_iff.mpr (eq_i res_at (Term.int_eval (1)) rfl), trivial⟩ ⟨hq.1, hq.2.1, (hq.2.2.sift fun y hy => Or.inr (N y hy)).mono (by decide) (by decide)⟩⟩
theorem main_1_1 : Claimed_1_1 := comes_1 fun _ _ _ _ _ _ h hF => ⟨h.1, hF⟩
theorem main_1_2 : Claimed_1_2 := comes_1 fun _ _ _ _ _ _ h hF => ⟨h.2.1, hF⟩
end Jvm.Pilot.@@N@@
namespace Jvm.Pilot.@@N@@
open Jvm Jvm.ClassFile Sem Op Lib Jvm.Free Jvm.Stand Jvm.Pilot.@@N@@.Jvm.D
/-! MADE BY PROGRAM (witnessworld.py) out of the Statement's table words and the real class files: 9 classes; the members and pool entries that the words name. The judged class is class 1, her method 1. -/
namespace start1
open Jvm.ClassFile
def u (s : String) : CpInfo := .utf8 (stringToUtf16 s)
/-- a pool by its gaps: so many unusable entries, then the entry; so many at the end -/
def gap : Nat → List CpInfo → List CpInfo
  | 0, r => r
  | n + 1, r => .unusable :: gap n r
def poolList (es : List (Nat × CpInfo)) (last : Nat) : List CpInfo := es.foldr (fun e r => gap e.1 (e.2 :: r)) (gap last [])
def pool (es : List (Nat × CpInfo)) (last : Nat) : Array CpInfo := ⟨poolList es last⟩
def fileOf (pool : Array CpInfo) (this : Nat) (attrs : Array Attribute := #[]) (ms : Array MethodInfo := #[]) (fl : Nat := 33) (sup : Nat := 0) (ifs : Array Nat := #[]) (fds : Array FieldInfo := #[]) : ClassFile where
  minorVersion := 0
  majorVersion := 65
  constantPool := pool
  accessFlags := fl
  thisClass := this
  superClass := sup
  interfaces := ifs
  fields := fds
  methods := ms
  attributes := attrs
def plain (name : String) (sup : Option ClassId) : Class where
  name := name
  kind := .ordinary
  loader := none
  accessFlags := 33
  super := sup
  interfaces := #[]
  cf := none
  fields := #[]
  methods := #[]
  instanceTypes := #[]
  staticTypes := #[]
  resolved := #[]
  callSites := []
  init := .initialized
  statics := none
  mirror := none

def pool0 : Array CpInfo := pool [(5, u "<init>"), (0, u "()V"), (1, .class_ 10), (1, u "java/lang/Object")] 113

def k0m0 : Method := { name := "<init>", desc := "()V", sig := { parameters := [], returnType := none }, accessFlags := 1, code := none }
/-- java/lang/Object -/
def k0 : Class := { plain "java/lang/Object" none with
  accessFlags := 33
  interfaces := #[]
  cf := some (fileOf pool0 8 #[] #[{ accessFlags := 1, nameIndex := 5, descriptorIndex := 6, attributes := #[] }] 33 0 #[] #[])
  fields := #[]
  methods := #[k0m0]
  instanceTypes := #[]
  staticTypes := #[]
  resolved := Array.replicate 124 none
  statics := none }

def pool1 : Array CpInfo := pool [(2, .class_ 4), (1, u "java/lang/Object"), (0, u "<init>"), (0, u "()V"), (0, .integer 2147483647), (0, .methodref 9 10), (0, .class_ 11), (0, .nameAndType 12 13), (0, u "com/example/trieval/trieval/index/IndexFileWriteVarIntPinLaw"), (0, u "length"), (0, u "(I)I"), (0, .methodref 15 16), (0, .class_ 17), (0, .nameAndType 18 19), (0, u "com/example/trieval/trieval/index/IndexFile"), (0, u "writeVarInt"), (0, u "([BII)I"), (0, .methodref 9 21), (0, .nameAndType 22 23), (0, u "expected"), (0, u "(IIIIB)B"), (0, .integer 4292870144), (0, .integer 4026531840), (2, u "law"), (0, u "(III)Z")] 5

def k1m0 : Method := { name := "<init>", desc := "()V", sig := { parameters := [], returnType := none }, accessFlags := 2, code := none }
def k1c1 : Code := { maxStack := 6, maxLocals := 9, code := code, exceptionTable := #[], attributes := #[] }
def k1m1 : Method := { name := "law", desc := "(III)Z", sig := { parameters := [.int, .int, .int], returnType := some .boolean }, accessFlags := 9, code := some k1c1 }
def k1c2 : Code := { maxStack := 2, maxLocals := 1, code := method_3_code, exceptionTable := #[], attributes := #[] }
def k1m2 : Method := { name := "length", desc := "(I)I", sig := { parameters := [.int], returnType := some .int }, accessFlags := 10, code := some k1c2 }
def k1c3 : Code := { maxStack := 3, maxLocals := 7, code := method_4_code, exceptionTable := #[], attributes := #[] }
def k1m3 : Method := { name := "expected", desc := "(IIIIB)B", sig := { parameters := [.int, .int, .int, .int, .byte], returnType := some .byte }, accessFlags := 10, code := some k1c3 }
/-- com/example/trieval/trieval/index/IndexFileWriteVarIntPinLaw -/
def k1 : Class := { plain "com/example/trieval/trieval/index/IndexFileWriteVarIntPinLaw" (some 0) with
  accessFlags := 49
  interfaces := #[]
  cf := some (fileOf pool1 9 #[] #[{ accessFlags := 2, nameIndex := 5, descriptorIndex := 6, attributes := #[] }, { accessFlags := 9, nameIndex := 28, descriptorIndex := 29, attributes := #[] }, { accessFlags := 10, nameIndex := 12, descriptorIndex := 13, attributes := #[] }, { accessFlags := 10, nameIndex := 22, descriptorIndex := 23, attributes := #[] }] 49 2 #[] #[])
  fields := #[]
  methods := #[k1m0, k1m1, k1m2, k1m3]
  instanceTypes := #[]
  staticTypes := #[]
  resolved := Array.replicate 35 none
  statics := none }

def pool2 : Array CpInfo := pool [(1, .class_ 2), (0, u "com/example/trieval/trieval/index/IndexFile"), (1, .class_ 6), (1, u "java/lang/Object"), (0, u "<init>"), (0, u "()V"), (76, .class_ 86), (0, u "com/example/trieval/trieval/index/IndexFile$1"), (13, .class_ 102), (1, u "com/example/trieval/trieval/index/IndexFile$Footer"), (28, u "NAME"), (0, u "Ljava/lang/String;"), (1, u "TEMPORARY_NAME"), (2, u "LOCK_NAME"), (2, u "SPILL_PREFIX"), (2, u "MAGIC"), (0, u "I"), (0, u "VERSION"), (1, u "HEADER_SIZE"), (1, u "FOOTER_SIZE"), (1, u "PAGE_SIZE"), (9, u "writeVarInt"), (0, u "([BII)I"), (18, .class_ 182), (0, u "com/example/trieval/trieval/index/IndexFile$Entries"), (0, .class_ 184), (0, u "com/example/trieval/trieval/index/IndexFile$Source"), (0, .class_ 186), (0, u "com/example/trieval/trieval/index/IndexFile$DictionaryEntry"), (0, .class_ 188), (0, u "com/example/trieval/trieval/index/IndexFile$DocumentEntry"), (0, .class_ 190), (0, u "com/example/trieval/trieval/index/IndexFile$Metadata")] 25

def k2m0 : Method := { name := "<init>", desc := "()V", sig := { parameters := [], returnType := none }, accessFlags := 2, code := none }
def k2c1 : Code := { maxStack := 4, maxLocals := 5, code := prog_55_method_5_code, exceptionTable := #[], attributes := #[] }
def k2m1 : Method := { name := "writeVarInt", desc := "([BII)I", sig := { parameters := [(.array .byte), .int, .int], returnType := some .int }, accessFlags := 8, code := some k2c1 }
/-- com/example/trieval/trieval/index/IndexFile -/
def k2 : Class := { plain "com/example/trieval/trieval/index/IndexFile" (some 0) with
  accessFlags := 48
  interfaces := #[]
  cf := some (fileOf pool2 1 #[.nestMembers #[181, 183, 185, 187, 189, 100, 85]] #[{ accessFlags := 2, nameIndex := 7, descriptorIndex := 8, attributes := #[] }, { accessFlags := 8, nameIndex := 161, descriptorIndex := 162, attributes := #[] }] 48 4 #[] #[{ accessFlags := 24, nameIndex := 131, descriptorIndex := 132, attributes := #[] }, { accessFlags := 24, nameIndex := 134, descriptorIndex := 132, attributes := #[] }, { accessFlags := 24, nameIndex := 137, descriptorIndex := 132, attributes := #[] }, { accessFlags := 24, nameIndex := 140, descriptorIndex := 132, attributes := #[] }, { accessFlags := 24, nameIndex := 143, descriptorIndex := 144, attributes := #[] }, { accessFlags := 24, nameIndex := 145, descriptorIndex := 144, attributes := #[] }, { accessFlags := 24, nameIndex := 147, descriptorIndex := 144, attributes := #[] }, { accessFlags := 24, nameIndex := 149, descriptorIndex := 144, attributes := #[] }, { accessFlags := 24, nameIndex := 151, descriptorIndex := 144, attributes := #[] }])
  fields := #[{ name := "NAME", type := (.object "java/lang/String"), accessFlags := 24, slot := 0, constantValue := 0 }, { name := "TEMPORARY_NAME", type := (.object "java/lang/String"), accessFlags := 24, slot := 1, constantValue := 0 }, { name := "LOCK_NAME", type := (.object "java/lang/String"), accessFlags := 24, slot := 2, constantValue := 0 }, { name := "SPILL_PREFIX", type := (.object "java/lang/String"), accessFlags := 24, slot := 3, constantValue := 0 }, { name := "MAGIC", type := .int, accessFlags := 24, slot := 4, constantValue := 0 }, { name := "VERSION", type := .int, accessFlags := 24, slot := 5, constantValue := 0 }, { name := "HEADER_SIZE", type := .int, accessFlags := 24, slot := 6, constantValue := 0 }, { name := "FOOTER_SIZE", type := .int, accessFlags := 24, slot := 7, constantValue := 0 }, { name := "PAGE_SIZE", type := .int, accessFlags := 24, slot := 8, constantValue := 0 }]
  methods := #[k2m0, k2m1]
  instanceTypes := #[]
  staticTypes := #[(.object "java/lang/String"), (.object "java/lang/String"), (.object "java/lang/String"), (.object "java/lang/String"), .int, .int, .int, .int, .int]
  resolved := Array.replicate 216 none
  statics := none }

def pool3 : Array CpInfo := pool [(1, u "java/lang/Cloneable"), (0, .class_ 1), (0, u "java/lang/Object"), (0, .class_ 3)] 3

/-- java/lang/Cloneable -/
def k3 : Class := { plain "java/lang/Cloneable" (some 0) with
  accessFlags := 1537
  interfaces := #[]
  cf := some (fileOf pool3 2 #[] #[] 1537 4 #[] #[])
  fields := #[]
  methods := #[]
  instanceTypes := #[]
  staticTypes := #[]
  resolved := Array.replicate 8 none
  statics := none }

def pool4 : Array CpInfo := pool [(1, u "java/io/Serializable"), (0, .class_ 1), (0, u "java/lang/Object"), (0, .class_ 3)] 3

/-- java/io/Serializable -/
def k4 : Class := { plain "java/io/Serializable" (some 0) with
  accessFlags := 1537
  interfaces := #[]
  cf := some (fileOf pool4 2 #[] #[] 1537 4 #[] #[])
  fields := #[]
  methods := #[]
  instanceTypes := #[]
  staticTypes := #[]
  resolved := Array.replicate 8 none
  statics := none }

/-- the primitive byte -/
def k5 : Class := { plain "byte" none with kind := .primitive 'B', accessFlags := 0x411 }
/-- [B -/
def k6 : Class := { plain "[B" (some 0) with kind := .array 5 .byte, interfaces := #[3, 4], accessFlags := 1041 }

/-- the primitive int -/
def k7 : Class := { plain "int" none with kind := .primitive 'I', accessFlags := 0x411 }
/-- [I -/
def k8 : Class := { plain "[I" (some 0) with kind := .array 7 .int, interfaces := #[3, 4], accessFlags := 1041 }

def heap : Heap := #[]
def classes : Array Class := #[k0, k1, k2, k3, k4, k5, k6, k7, k8]
def interned : List (Array UInt16 × Addr) := []
def slotsUsed : Nat := 0
def theMethod : MethodId := ⟨1, 1⟩
def args0 : Array Value := #[.int 300, .int 2, .int 7]
def aboutOver (below : List Frame) : State where
  vm := { classes := classes, interned := interned.toArray }
  heap := heap
  slotsUsed := slotsUsed
  threads := #[{ frames := .invoking theMethod args0 :: below }]
def below0 : List Frame := [.native { method := ⟨0, 0⟩, args := #[] }]
def about1 : State := aboutOver below0
def p0 : Program := .bare "" "" ""
def e0 : Env := launch0.env 0 0 0
theorem w_frames : about1.frames = Frame.invoking theMethod args0 :: below0 := rfl
set_option maxRecDepth 65536 in
theorem w_args : argsFit about1.vm theMethod args0 = true := by decide +kernel
set_option maxRecDepth 65536 in
theorem w_heap : heapFits about1 = true := by decide +kernel
set_option maxRecDepth 65536 in
theorem w_runnable : about1.curStatus? = some .runnable := by decide +kernel
set_option maxRecDepth 65536 in
theorem w_alone : about1.alone = true := by decide +kernel
set_option maxRecDepth 65536 in
theorem w_named : about1.methodNamed? x = some theMethod := by decide +kernel
set_option maxRecDepth 65536 in
theorem w_hears : about1.hears theMethod below0 = true := by decide +kernel
set_option maxRecDepth 65536 in
theorem w_ripe : about1.ripe theMethod args0 below0 = true := by decide +kernel
theorem w_running : about1.status = .running := rfl
set_option maxRecDepth 65536 in
theorem w_room : about1.hasRoom e0.platform room_1 = true :=
  launch0.hasRoom_least _ room_1 (by decide +kernel) (by decide +kernel) (by decide +kernel) (by decide +kernel) (by decide +kernel) (by decide +kernel)
theorem allAtoms_all (ts : List Jvm.Cond) (a : Array Jvm.Value) (st : Jvm.State) : (allAtoms ts).before a st = ts.all (fun c => c.before a st) := by
  induction ts with
  | nil => rfl
  | cons c t ih =>
    show (Jvm.Cond.and c (allAtoms t)).before a st = _
    rw [Jvm.Cond.before_and, ih, List.all_cons]
def words1 : List Jvm.Cond := Jvm.Cond.code x code maxLocals ret :: tables_1
/-- a 'code' word, met by the world's own term for the bytes: nothing is compared byte by byte -/
theorem code_word {y : MethodName} {bytes : ByteArray} {mx : Nat} {rt : Option FieldType} {a : Array Value} {s : State} {m : MethodId} {meth : Method} {c : Code} (h1 : s.methodNamed? y = some m) (h2 : s.vm.method? m = some meth) (h3 : meth.code = some c) (h4 : c.code = bytes)
    (h5 : (c.maxLocals == mx && c.exceptionTable.isEmpty && decide (c.maxStack ≤ mostOperands) && decide (meth.sig.returnType = rt) && !meth.locks && decide (parseMethodDescriptor y.desc = some meth.sig)) = true) : (Jvm.Cond.code y bytes mx rt).before a s = true := by
  simp only [Bool.and_eq_true, beq_iff_eq, Bool.not_eq_true', decide_eq_true_eq] at h5
  obtain ⟨⟨⟨⟨⟨g1, g2⟩, g3⟩, g4⟩, g5⟩, g6⟩ := h5
  simp [Cond.before, Cond.holds, Cond.value, h1, h2, h3, h4, g1, g2, g3, g4, g5, g6]
def isCode : Jvm.Cond → Bool
  | .code _ _ _ _ => true
  | _ => false
theorem all_split {L : List Jvm.Cond} {P : Jvm.Cond → Bool} (h1 : L.all (fun c => isCode c || P c) = true) (h2 : ∀ c ∈ L.filter isCode, P c = true) : L.all P = true := by
  refine List.all_eq_true.mpr fun c hc => ?_
  have h := List.all_eq_true.mp h1 c hc
  rcases Bool.eq_false_or_eq_true (isCode c) with hi | hi
  · exact h2 c (List.mem_filter.mpr ⟨hc, hi⟩)
  · simpa [hi] using h
set_option maxRecDepth 65536 in
theorem w_c0 : (Jvm.Cond.code x code maxLocals ret).before args0 about1 = true := code_word (m := ⟨1, 1⟩) (meth := k1m1) (c := k1c1) (by decide +kernel) rfl rfl rfl (by decide +kernel)
set_option maxRecDepth 65536 in
theorem w_c1 : (Jvm.Cond.code ({ cls := "com/example/trieval/trieval/index/IndexFileWriteVarIntPinLaw", name := "length", desc := "(I)I" } : Jvm.MethodName) method_3_code (1 : Nat) (Option.some Jvm.ClassFile.FieldType.int)).before args0 about1 = true := code_word (m := ⟨1, 2⟩) (meth := k1m2) (c := k1c2) (by decide +kernel) rfl rfl rfl (by decide +kernel)
set_option maxRecDepth 65536 in
theorem w_c2 : (Jvm.Cond.code ({ cls := "com/example/trieval/trieval/index/IndexFile", name := "writeVarInt", desc := "([BII)I" } : Jvm.MethodName) prog_55_method_5_code (5 : Nat) (Option.some Jvm.ClassFile.FieldType.int)).before args0 about1 = true := code_word (m := ⟨2, 1⟩) (meth := k2m1) (c := k2c1) (by decide +kernel) rfl rfl rfl (by decide +kernel)
set_option maxRecDepth 65536 in
theorem w_c3 : (Jvm.Cond.code ({ cls := "com/example/trieval/trieval/index/IndexFileWriteVarIntPinLaw", name := "expected", desc := "(IIIIB)B" } : Jvm.MethodName) method_4_code (7 : Nat) (Option.some Jvm.ClassFile.FieldType.byte)).before args0 about1 = true := code_word (m := ⟨1, 3⟩) (meth := k1m3) (c := k1c3) (by decide +kernel) rfl rfl rfl (by decide +kernel)
def codes1 : List Jvm.Cond := [Jvm.Cond.code x code maxLocals ret, Jvm.Cond.code ({ cls := "com/example/trieval/trieval/index/IndexFileWriteVarIntPinLaw", name := "length", desc := "(I)I" } : Jvm.MethodName) method_3_code (1 : Nat) (Option.some Jvm.ClassFile.FieldType.int), Jvm.Cond.code ({ cls := "com/example/trieval/trieval/index/IndexFile", name := "writeVarInt", desc := "([BII)I" } : Jvm.MethodName) prog_55_method_5_code (5 : Nat) (Option.some Jvm.ClassFile.FieldType.int), Jvm.Cond.code ({ cls := "com/example/trieval/trieval/index/IndexFileWriteVarIntPinLaw", name := "expected", desc := "(IIIIB)B" } : Jvm.MethodName) method_4_code (7 : Nat) (Option.some Jvm.ClassFile.FieldType.byte)]
set_option maxRecDepth 65536 in
theorem codes_eq : words1.filter isCode = codes1 := rfl
theorem w_codes : ∀ c ∈ words1.filter isCode, c.before args0 about1 = true := by
  rw [codes_eq]
  intro c hc
  simp only [codes1, List.mem_cons, List.not_mem_nil, or_false] at hc
  rcases hc with rfl | rfl | rfl | rfl
  · exact w_c0
  · exact w_c1
  · exact w_c2
  · exact w_c3
set_option maxRecDepth 65536 in
theorem w_t1 : words1.all (fun c => isCode c || c.before args0 about1) = true := by decide +kernel
theorem w_tables : (allAtoms (Jvm.Cond.code x code maxLocals ret :: tables_1)).before args0 about1 = true := by
  rw [allAtoms_all]
  show words1.all (fun c => c.before args0 about1) = true
  refine all_split ?_ w_codes
  rw [w_t1]
set_option maxRecDepth 65536 in
theorem w_case : (Jvm.Cond.and given_1 narrow_1).before args0 about1 = true := by decide +kernel
theorem w_applies : (headSpec (Jvm.Cond.code x code maxLocals ret :: tables_1) room_1).applies x e0.platform about1 = true :=
  (Spec.applies_iff w_frames).mpr ⟨w_running, w_runnable, w_alone, w_named, w_hears, w_ripe, w_room, w_tables⟩
theorem atStart : AtStart classFile x code maxLocals ret World_1 tables_1 room_1 Calls_1 rest_1 Pre_1 launch0 p0 e0 about1 theMethod args0 below0 :=
  ⟨lists_1, trivial, launch0.admits_env _ _ _, launch0.least_env, fairChoices_fair.cas, fairChoices_fair.clock, w_frames, w_args, w_heap, w_applies, trivial, trivial, w_case⟩
end start1
theorem witness_1 : WitnessClaimed_1 := ⟨start1.p0, start1.e0, start1.about1, start1.theMethod, start1.args0, start1.below0, start1.atStart⟩
end Jvm.Pilot.@@N@@
