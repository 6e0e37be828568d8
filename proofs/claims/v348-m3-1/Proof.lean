import JvmDerived
import JvmDerived.Pilot.@@N@@Statement
import JvmDerived.Pilot.@@N@@Code
set_option linter.unusedVariables false
set_option linter.unusedSimpArgs false
@@BLOCK:NumsL.lean.txt@@
namespace Jvm.Pilot.@@N@@
open Jvm Jvm.ClassFile Sem Op Lib Jvm.Free Jvm.Stand Jvm.LawKit Jvm.RoadKit Bundle Jvm.Pilot.@@N@@.Jvm.D
/-! ## Our kit: from a frame the run comes to an end of which Q speaks -/
def Ends (p : Program) (e : Env) (below : List Frame) (s : State) (C S : Nat) (Q : Option Value → Heap → List Loc → Prop) (T : State) (g : JFrame) : Prop :=
  ∃ s₂ o, Steps p.tables e below (T.setTop g) s₂ ∧ s₂.status = .running ∧ Ended s₂ below o ∧ ∃ v L, o = .returned v ∧ Q v s₂.heap L ∧ FrameEnd s o s₂ L C S
abbrev Pays (l : Launch) (y : MethodName) (bytes : ByteArray) (maxL : Nat) (rt : Option FieldType) (ws : List Jvm.Cond) (rm : Room) (as : Array Value) (Z : State) (h0 : Heap) (Q : Option Value → Heap → List Loc → Prop) : Prop :=
  MetFree l y (head1 (Jvm.Cond.code y bytes maxL rt :: ws) rm) (fun a U => a = as ∧ Z.Warmed39 U.vm ∧ U.heap = h0) (fun _ _ _ _ _ => True) (fun _ U o U' => ∃ v L, o = .returned v ∧ Q v U'.heap L ∧ FrameEnd U o U' L rm.cells rm.slots)
section Kit
variable {p : Program} {l : Launch} {e : Env} {R : Room} {s : State} {m : MethodId} {args : Array Value} {below : List Frame} {meth : Method} {c : Code} {T T' : State} {locs : List Loc} {cells slots : Nat} {Z : State} {h h' h0 : Heap} {C S : Nat} {Q : Option Value → Heap → List Loc → Prop} {g g' : JFrame} {pc : Nat} {Ls : Array Slot} {rest : List Value}
theorem Ends.to (k : ∀ t, Steps p.tables e below (T'.setTop g') t → Steps p.tables e below (T.setTop g) t) (q : Ends p e below s C S Q T' g') : Ends p e below s C S Q T g := by
  obtain ⟨s₂, o, st, r⟩ := q
  exact ⟨s₂, o, k _ st, r⟩
theorem Ends.cast (k : g = g') (q : Ends p e below s C S Q T g') : Ends p e below s C S Q T g := k ▸ q
theorem Ends.retI {z : Int32} (X : Stand p l e R s m args below meth c T locs cells slots) (hx : p.tables.exec = Jvm.exec) (hret : meth.sig.returnType = some .int) (hd : decode c.code pc = .ok (.ireturn, 1)) (hlk : meth.locks = false) (hc : cells ≤ C) (hs : slots ≤ S) (q : Q (some (.int z)) T.heap locs) :
    Ends p e below s C S Q T (mkF m pc Ls (.int z :: rest)) := by
  obtain ⟨fs, hr, hrun, hended, hW, hsame⟩ := X.leave (v := some (.int z)) (fun h => by rw [hret] at h; cases h) hlk
  refine ⟨_, _, ?_, hrun, hended, _, _, rfl, q, ⟨_, rfl⟩, hW, hsame.mono hc hs⟩
  have hm' : T.vm.method? m = some meth := X.method'
  have hn : narrow .int (.int z) = .int z := rfl
  show Steps p.tables e below (T.setTop { method := m, pc := pc, locals := Ls, stack := _ :: rest, locked := none }) _
  jvm_step X.here [X.here.top, hx, hd, hm', hret, hn]
  first | (intro acts; rw [hr _ acts rfl rfl rfl]) | rw [hr _ _ rfl rfl rfl]
  exact Steps.refl _
theorem Ends.retN {z : Int32} {t : FieldType} (ht : t = .boolean ∨ t = .byte ∨ t = .char ∨ t = .short) (X : Stand p l e R s m args below meth c T locs cells slots) (hx : p.tables.exec = Jvm.exec) (hret : meth.sig.returnType = some t) (hd : decode c.code pc = .ok (.ireturn, 1)) (hlk : meth.locks = false) (hc : cells ≤ C) (hs : slots ≤ S) (q : Q (some (.int (nar t z))) T.heap locs) :
    Ends p e below s C S Q T (mkF m pc Ls (.int z :: rest)) := by
  obtain ⟨fs, hr, hrun, hended, hW, hsame⟩ := X.leave (v := some (.int (nar t z))) (fun h => by rw [hret] at h; cases h) hlk
  exact ⟨_, _, Jvm.RoadKit.retN X hx hret ht hd hr, hrun, hended, _, _, rfl, q, ⟨_, rfl⟩, hW, hsame.mono hc hs⟩
theorem Ends.retJ {z : Int64} (X : Stand p l e R s m args below meth c T locs cells slots) (hx : p.tables.exec = Jvm.exec) (hret : meth.sig.returnType = some .long) (hd : decode c.code pc = .ok (.lreturn, 1)) (hlk : meth.locks = false) (hc : cells ≤ C) (hs : slots ≤ S) (q : Q (some (.long z)) T.heap locs) :
    Ends p e below s C S Q T (mkF m pc Ls [.long z]) := by
  obtain ⟨fs, hr, hrun, hended, hW, hsame⟩ := X.leave (v := some (.long z)) (fun h => by rw [hret] at h; cases h) hlk
  exact ⟨_, _, X.lreturnOut hx hret hd hr, hrun, hended, _, _, rfl, q, ⟨_, rfl⟩, hW, hsame.mono hc hs⟩
theorem Ends.retV (X : Stand p l e R s m args below meth c T locs cells slots) (hx : p.tables.exec = Jvm.exec) (hret : meth.sig.returnType = none) (hd : decode c.code pc = .ok (.return_, 1)) (hlk : meth.locks = false) (hc : cells ≤ C) (hs : slots ≤ S) (q : Q none T.heap locs) :
    Ends p e below s C S Q T (mkF m pc Ls []) := by
  obtain ⟨fs, hr, hrun, hended, hW, hsame⟩ := X.leave (v := none) (fun _ => rfl) hlk
  exact ⟨_, _, X.returnOut hx hret hd hr, hrun, hended, _, _, rfl, q, ⟨_, rfl⟩, hW, hsame.mono hc hs⟩
theorem Ends.retA {a : Addr} {t : FieldType} (X : Stand p l e R s m args below meth c T locs cells slots) (hx : p.tables.exec = Jvm.exec) (hret : meth.sig.returnType = some (.array t)) (hd : decode c.code pc = .ok (.areturn, 1)) (hlk : meth.locks = false) (hc : cells ≤ C) (hs : slots ≤ S) (q : Q (some (.ref a)) T.heap locs) :
    Ends p e below s C S Q T (mkF m pc Ls (.ref a :: rest)) := by
  obtain ⟨fs, hr, hrun, hended, hW, hsame⟩ := X.leave (v := some (.ref a)) (fun h => by rw [hret] at h; cases h) hlk
  refine ⟨_, _, ?_, hrun, hended, _, _, rfl, q, ⟨_, rfl⟩, hW, hsame.mono hc hs⟩
  have hm' : T.vm.method? m = some meth := X.method'
  show Steps p.tables e below (T.setTop { method := m, pc := pc, locals := Ls, stack := _ :: rest, locked := none }) _
  jvm_step X.here [X.here.top, hx, hd, hm', hret, Value.isRef, FieldType.isReference]
  first | (intro acts; rw [hr _ acts rfl rfl rfl]) | rw [hr _ _ rfl rfl rfl]
  exact Steps.refl _
theorem Pays.of {y : MethodName} {bytes : ByteArray} {maxL : Nat} {rt : Option FieldType} {ws : List Jvm.Cond} {rm : Room} {as : Array Value} (hp : plainFor y = true)
    (body : ∀ (p : Program) (e : Env) (s : State) (m : MethodId) (below : List Frame) (meth : Method) (c : Code) (s₁ : State), p.tables.exec = Jvm.exec → c.code = bytes → c.maxLocals = maxL → s.vm.findClass y.cls = some m.cls → meth.name = y.name → meth.sig.returnType = rt → meth.locks = false → Z.Warmed39 s.vm →
      Stand p l e rm s m as below meth c s₁ [] 0 0 → s₁.heap = h0 → Ends p e below s rm.cells rm.slots Q s₁ (entryFrame m as maxL)) : Pays l y bytes maxL rt ws rm as Z h0 Q := by
  refine MetFree.of_bodySF hp hisR ?_
  intro p e s m args below meth c s₁ Bd hml0 hP hK
  obtain ⟨rfl, hZ, hh⟩ := hP
  exact body p e s m below meth c s₁ Bd.exec Bd.bytes hml0 (findClass_of_methodNamed Bd.named) (name_of_methodNamed Bd.named Bd.method).1 Bd.returns Bd.notSynchronized hZ (Stand.of_body Bd) (by rw [← hh, Bd.state]; rfl)
/-! ## An array by its values -/
def BA (Z : State) (h : Heap) (a : Addr) (ty : FieldType) (n : Nat) (f : Nat → Value) : Prop := ∃ cl : Cell, Arr Z h a cl ty ∧ cl.slots.size = n ∧ ∀ j, j < n → cl.slots[j]? = some (f j)
abbrev BB (Z : State) (h : Heap) (a : Addr) (n : Nat) (f : Nat → Int32) : Prop := BA Z h a .byte n (fun j => .int (f j))
abbrev BL (Z : State) (h : Heap) (a : Addr) (n : Nat) (f : Nat → Int64) : Prop := BA Z h a .long n (fun j => .long (f j))
def upd {α : Type} (f : Nat → α) (i : Nat) (x : α) : Nat → α := fun j => if j = i then x else f j
theorem upd_same {α : Type} (f : Nat → α) (i : Nat) (x : α) : upd f i x i = x := if_pos rfl
theorem upd_ne {α : Type} (f : Nat → α) {i j : Nat} (x : α) (q : j ≠ i) : upd f i x j = f j := if_neg q
variable {a b : Addr} {ty : FieldType} {n i sl : Nat} {f : Nat → Value} {v : Value} {ws : List Addr} {j x z : Int32}
theorem BA.ext (E : Ext h h') (B : BA Z h a ty n f) : BA Z h' a ty n f := by obtain ⟨cl, A, r⟩ := B; exact ⟨cl, A.ext E, r⟩
theorem BA.other (W : Wr h h' a sl v) (B : BA Z h b ty n f) (q : b ≠ a) : BA Z h' b ty n f := by obtain ⟨cl, A, r⟩ := B; exact ⟨cl, A.other W q, r⟩
theorem BA.keep (B : BA Z h a ty n f) (K : Keep h h' ws) (q : a ∉ ws) : BA Z h' a ty n f := by obtain ⟨cl, A, r⟩ := B; exact ⟨cl, ⟨K.2.1 a cl A.1 q, A.2⟩, r⟩
theorem BA.lt (B : BA Z h a ty n f) : a < h.size := by obtain ⟨cl, A, r⟩ := B; exact A.lt
theorem BA.congr {f' : Nat → Value} (B : BA Z h a ty n f) (q : ∀ j, j < n → f j = f' j) : BA Z h a ty n f' := by obtain ⟨cl, A, s, r⟩ := B; exact ⟨cl, A, s, fun j hj => (r j hj).trans (congrArg some (q j hj))⟩
theorem BA.set (W : Wr h h' a i v) (B : BA Z h a ty n f) (hi : i < n) : BA Z h' a ty n (upd f i v) := by
  obtain ⟨cl, A, s, r⟩ := B
  refine ⟨cl.setSlot i v, A.same W, by simp [Cell.setSlot, s], fun j hj => ?_⟩
  show (cl.slots.setIfInBounds i v)[j]? = _
  by_cases e : j = i
  · subst e
    rw [upd_same, Array.getElem?_setIfInBounds_self_of_lt (by rw [s]; exact hi)]
  · rw [upd_ne _ _ e, Array.getElem?_setIfInBounds_ne (Ne.symm e)]
    exact r j hj
theorem BA.inb {cl : Cell} (s : cl.slots.size = n) (h0 : ¬ j < 0) (hi : j.toNatClampNeg = i) (hn : i < n) : ¬ (j < 0 ∨ cl.slots.size ≤ j.toNatClampNeg) := by
  rintro (q | q)
  · exact h0 q
  · rw [hi, s] at q; exact absurd hn (Nat.not_lt.mpr q)
theorem BA.stB {f : Nat → Int32} (X : Stand p l e R s m args below meth c T locs cells slots) (hx : p.tables.exec = Jvm.exec) (hZ : Z.Warmed39 s.vm) (eT : T.heap = h) (B : BB Z h a n f) (h0 : ¬ j < 0) (hi : j.toNatClampNeg = i) (hn : i < n) (hg : g.method = m) (hs : g.stack = .int x :: .int j :: .ref a :: rest) (hd : decode c.code g.pc = .ok (.bastore, 1)) :
    ∃ T' h', Stand p l e R s m args below meth c T' (locs ++ [⟨a, j.toNatClampNeg⟩]) cells slots ∧ T'.heap = h' ∧ Wr h h' a j.toNatClampNeg (.int (nar .byte x)) ∧ BB Z h' a n (upd f i x.toInt8.toInt32) ∧ ∀ target, Steps p.tables e below (T'.setTop { g with pc := g.pc + 1, stack := rest }) target → Steps p.tables e below (T.setTop g) target := by
  obtain ⟨cl, A, s, r⟩ := id B
  obtain ⟨T', h', X', e', W, st⟩ := Jvm.RoadKit.stB X hx hZ eT A (BA.inb s h0 hi hn) hg hs hd
  refine ⟨T', h', X', e', W, ?_, st⟩
  rw [hi] at W
  refine (BA.set W B hn).congr fun j _ => ?_
  by_cases e : j = i
  · subst e; rw [upd_same, upd_same]; rfl
  · rw [upd_ne _ _ e, upd_ne _ _ e]
theorem BA.stL {f : Nat → Int64} {x : Int64} (X : Stand p l e R s m args below meth c T locs cells slots) (hx : p.tables.exec = Jvm.exec) (hZ : Z.Warmed39 s.vm) (eT : T.heap = h) (B : BL Z h a n f) (h0 : ¬ j < 0) (hi : j.toNatClampNeg = i) (hn : i < n) (hg : g.method = m) (hs : g.stack = .long x :: .int j :: .ref a :: rest) (hd : decode c.code g.pc = .ok (.lastore, 1)) :
    ∃ T' h', Stand p l e R s m args below meth c T' (locs ++ [⟨a, j.toNatClampNeg⟩]) cells slots ∧ T'.heap = h' ∧ Wr h h' a j.toNatClampNeg (.long x) ∧ BL Z h' a n (upd f i x) ∧ ∀ target, Steps p.tables e below (T'.setTop { g with pc := g.pc + 1, stack := rest }) target → Steps p.tables e below (T.setTop g) target := by
  obtain ⟨cl, A, s, r⟩ := id B
  obtain ⟨T', h', X', e', W, st⟩ := Jvm.RoadKit.stJ X hx hZ eT A (BA.inb s h0 hi hn) hg hs hd
  refine ⟨T', h', X', e', W, ?_, st⟩
  rw [hi] at W
  refine (BA.set W B hn).congr fun j _ => ?_
  by_cases e : j = i
  · subst e; rw [upd_same, upd_same]
  · rw [upd_ne _ _ e, upd_ne _ _ e]
theorem BA.ldB {f : Nat → Int32} (X : Stand p l e R s m args below meth c T locs cells slots) (hx : p.tables.exec = Jvm.exec) (hZ : Z.Warmed39 s.vm) (eT : T.heap = h) (B : BB Z h a n f) (h0 : ¬ j < 0) (hi : j.toNatClampNeg = i) (hn : i < n) (hg : g.method = m) (hs : g.stack = .int j :: .ref a :: rest) (hd : decode c.code g.pc = .ok (.baload, 1)) (target : State)
    (k : Steps p.tables e below (T.setTop { g with pc := g.pc + 1, stack := .int (f i) :: rest }) target) : Steps p.tables e below (T.setTop g) target := by
  obtain ⟨cl, A, s, r⟩ := id B
  exact X.baloadBytes hx (j := j) (v := .int (f i)) (by rw [eT]; exact A.1) (State.isArrayOf_alike hZ.alike A.2.1) A.2.2 (BA.inb s h0 hi hn) (by rw [hi]; exact r i hn) hg hs hd target k
theorem BA.ldL {f : Nat → Int64} (X : Stand p l e R s m args below meth c T locs cells slots) (hx : p.tables.exec = Jvm.exec) (hZ : Z.Warmed39 s.vm) (eT : T.heap = h) (B : BL Z h a n f) (h0 : ¬ j < 0) (hi : j.toNatClampNeg = i) (hn : i < n) (hg : g.method = m) (hs : g.stack = .int j :: .ref a :: rest) (hd : decode c.code g.pc = .ok (.laload, 1)) (target : State)
    (k : Steps p.tables e below (T.setTop { g with pc := g.pc + 1, stack := .long (f i) :: rest }) target) : Steps p.tables e below (T.setTop g) target := by
  obtain ⟨cl, A, s, r⟩ := id B
  exact X.laload hx (j := j) (v := .long (f i)) (by rw [eT]; exact A.1) (State.isArrayOf_alike hZ.alike A.2.1) A.2.2 (BA.inb s h0 hi hn) (by rw [hi]; exact r i hn) hg hs hd target k
theorem BA.len (X : Stand p l e R s m args below meth c T locs cells slots) (hx : p.tables.exec = Jvm.exec) (hZ : Z.Warmed39 s.vm) (eT : T.heap = h) (B : BA Z h a ty n f) (hz : n.toInt32 = z) (hg : g.method = m) (hs : g.stack = .ref a :: rest) (hd : decode c.code g.pc = .ok (.arraylength, 1)) (target : State)
    (k : Steps p.tables e below (T.setTop { g with pc := g.pc + 1, stack := .int z :: rest }) target) : Steps p.tables e below (T.setTop g) target := by
  obtain ⟨cl, A, s, r⟩ := B
  exact X.arraylength hx (by rw [eT]; exact A.1) (State.isArrayOf_alike hZ.alike A.2.1) hg hs hd target (by rw [s, hz]; exact k)
theorem BA.freshB {k : ClassId} (A : Arr Z h a (newA k .byte z) .byte) (q : z.toNatClampNeg = n) : BB Z h a n (fun _ => 0) := by
  refine ⟨_, A, (sz_new _ _ _).trans q, fun j hj => ?_⟩
  have hj' : j < z.toNatClampNeg := by rw [q]; exact hj
  simp [newA, hj', defaultValue]
theorem BA.freshL {k : ClassId} (A : Arr Z h a (newA k .long z) .long) (q : z.toNatClampNeg = n) : BL Z h a n (fun _ => 0) := by
  refine ⟨_, A, (sz_new _ _ _).trans q, fun j hj => ?_⟩
  have hj' : j < z.toNatClampNeg := by rw [q]; exact hj
  simp [newA, hj', defaultValue]
end Kit
theorem d2_0 : decode method_3_code 0 = .ok (.iload_n 2, 1) := by decide +kernel
theorem d2_1 : decode method_3_code 1 = .ok (.iload_n 3, 1) := by decide +kernel
theorem d2_2 : decode method_3_code 2 = .ok (.iushr, 1) := by decide +kernel
theorem d2_3 : decode method_3_code 3 = .ok (.iconst 1, 1) := by decide +kernel
theorem d2_4 : decode method_3_code 4 = .ok (.iand, 1) := by decide +kernel
theorem d2_5 : decode method_3_code 5 = .ok (.ifCond .eq 6, 3) := by decide +kernel
theorem d2_8 : decode method_3_code 8 = .ok (.bipush 32, 2) := by decide +kernel
theorem d2_10 : decode method_3_code 10 = .ok (.ireturn, 1) := by decide +kernel
theorem d2_11 : decode method_3_code 11 = .ok (.lload_n 0, 1) := by decide +kernel
theorem d2_12 : decode method_3_code 12 = .ok (.bipush 8, 2) := by decide +kernel
theorem d2_14 : decode method_3_code 14 = .ok (.iload_n 3, 1) := by decide +kernel
theorem d2_15 : decode method_3_code 15 = .ok (.imul, 1) := by decide +kernel
theorem d2_16 : decode method_3_code 16 = .ok (.lushr, 1) := by decide +kernel
theorem d2_17 : decode method_3_code 17 = .ok (.l2i, 1) := by decide +kernel
theorem d2_18 : decode method_3_code 18 = .ok (.i2b, 1) := by decide +kernel
theorem d2_19 : decode method_3_code 19 = .ok (.ireturn, 1) := by decide +kernel
theorem pn_2 : plainName "com/example/predicate/predicate/document/AttributeDeclarationNormalizePinLaw" = true := by first | (simp [plainName, overriddenIn]; done) | decide +kernel
theorem pd_2 : parseMethodDescriptor "(JII)B" = some ⟨[.long, .int, .int], some .byte⟩ := by decide +kernel
theorem ef_2 (m : MethodId) (x0 : Int64) (x1 : Int32) (x2 : Int32) : entryFrame m #[(.long x0), (.int x1), (.int x2)] 4 = mkF m 0 #[.val (.long x0), .second, .val (.int x1), .val (.int x2)] [] := by first | (simp [entryFrame, mkF, argsToLocals, Value.category]; done) | rfl
theorem d1_0 : decode method_4_code 0 = .ok (.bipush 8, 2) := by decide +kernel
theorem d1_2 : decode method_4_code 2 = .ok (.newarray .byte, 2) := by decide +kernel
theorem d1_4 : decode method_4_code 4 = .ok (.dup, 1) := by decide +kernel
theorem d1_5 : decode method_4_code 5 = .ok (.iconst 0, 1) := by decide +kernel
theorem d1_6 : decode method_4_code 6 = .ok (.lload_n 0, 1) := by decide +kernel
theorem d1_7 : decode method_4_code 7 = .ok (.iload_n 2, 1) := by decide +kernel
theorem d1_8 : decode method_4_code 8 = .ok (.iconst 0, 1) := by decide +kernel
theorem d1_9 : decode method_4_code 9 = .ok (.invokestatic 31, 3) := by decide +kernel
theorem d1_12 : decode method_4_code 12 = .ok (.bastore, 1) := by decide +kernel
theorem d1_13 : decode method_4_code 13 = .ok (.dup, 1) := by decide +kernel
theorem d1_14 : decode method_4_code 14 = .ok (.iconst 1, 1) := by decide +kernel
theorem d1_15 : decode method_4_code 15 = .ok (.lload_n 0, 1) := by decide +kernel
theorem d1_16 : decode method_4_code 16 = .ok (.iload_n 2, 1) := by decide +kernel
theorem d1_17 : decode method_4_code 17 = .ok (.iconst 1, 1) := by decide +kernel
theorem d1_18 : decode method_4_code 18 = .ok (.invokestatic 31, 3) := by decide +kernel
theorem d1_21 : decode method_4_code 21 = .ok (.bastore, 1) := by decide +kernel
theorem d1_22 : decode method_4_code 22 = .ok (.dup, 1) := by decide +kernel
theorem d1_23 : decode method_4_code 23 = .ok (.iconst 2, 1) := by decide +kernel
theorem d1_24 : decode method_4_code 24 = .ok (.lload_n 0, 1) := by decide +kernel
theorem d1_25 : decode method_4_code 25 = .ok (.iload_n 2, 1) := by decide +kernel
theorem d1_26 : decode method_4_code 26 = .ok (.iconst 2, 1) := by decide +kernel
theorem d1_27 : decode method_4_code 27 = .ok (.invokestatic 31, 3) := by decide +kernel
theorem d1_30 : decode method_4_code 30 = .ok (.bastore, 1) := by decide +kernel
theorem d1_31 : decode method_4_code 31 = .ok (.dup, 1) := by decide +kernel
theorem d1_32 : decode method_4_code 32 = .ok (.iconst 3, 1) := by decide +kernel
theorem d1_33 : decode method_4_code 33 = .ok (.lload_n 0, 1) := by decide +kernel
theorem d1_34 : decode method_4_code 34 = .ok (.iload_n 2, 1) := by decide +kernel
theorem d1_35 : decode method_4_code 35 = .ok (.iconst 3, 1) := by decide +kernel
theorem d1_36 : decode method_4_code 36 = .ok (.invokestatic 31, 3) := by decide +kernel
theorem d1_39 : decode method_4_code 39 = .ok (.bastore, 1) := by decide +kernel
theorem d1_40 : decode method_4_code 40 = .ok (.dup, 1) := by decide +kernel
theorem d1_41 : decode method_4_code 41 = .ok (.iconst 4, 1) := by decide +kernel
theorem d1_42 : decode method_4_code 42 = .ok (.lload_n 0, 1) := by decide +kernel
theorem d1_43 : decode method_4_code 43 = .ok (.iload_n 2, 1) := by decide +kernel
theorem d1_44 : decode method_4_code 44 = .ok (.iconst 4, 1) := by decide +kernel
theorem d1_45 : decode method_4_code 45 = .ok (.invokestatic 31, 3) := by decide +kernel
theorem d1_48 : decode method_4_code 48 = .ok (.bastore, 1) := by decide +kernel
theorem d1_49 : decode method_4_code 49 = .ok (.dup, 1) := by decide +kernel
theorem d1_50 : decode method_4_code 50 = .ok (.iconst 5, 1) := by decide +kernel
theorem d1_51 : decode method_4_code 51 = .ok (.lload_n 0, 1) := by decide +kernel
theorem d1_52 : decode method_4_code 52 = .ok (.iload_n 2, 1) := by decide +kernel
theorem d1_53 : decode method_4_code 53 = .ok (.iconst 5, 1) := by decide +kernel
theorem d1_54 : decode method_4_code 54 = .ok (.invokestatic 31, 3) := by decide +kernel
theorem d1_57 : decode method_4_code 57 = .ok (.bastore, 1) := by decide +kernel
theorem d1_58 : decode method_4_code 58 = .ok (.dup, 1) := by decide +kernel
theorem d1_59 : decode method_4_code 59 = .ok (.bipush 6, 2) := by decide +kernel
theorem d1_61 : decode method_4_code 61 = .ok (.lload_n 0, 1) := by decide +kernel
theorem d1_62 : decode method_4_code 62 = .ok (.iload_n 2, 1) := by decide +kernel
theorem d1_63 : decode method_4_code 63 = .ok (.bipush 6, 2) := by decide +kernel
theorem d1_65 : decode method_4_code 65 = .ok (.invokestatic 31, 3) := by decide +kernel
theorem d1_68 : decode method_4_code 68 = .ok (.bastore, 1) := by decide +kernel
theorem d1_69 : decode method_4_code 69 = .ok (.dup, 1) := by decide +kernel
theorem d1_70 : decode method_4_code 70 = .ok (.bipush 7, 2) := by decide +kernel
theorem d1_72 : decode method_4_code 72 = .ok (.lload_n 0, 1) := by decide +kernel
theorem d1_73 : decode method_4_code 73 = .ok (.iload_n 2, 1) := by decide +kernel
theorem d1_74 : decode method_4_code 74 = .ok (.bipush 7, 2) := by decide +kernel
theorem d1_76 : decode method_4_code 76 = .ok (.invokestatic 31, 3) := by decide +kernel
theorem d1_79 : decode method_4_code 79 = .ok (.bastore, 1) := by decide +kernel
theorem d1_80 : decode method_4_code 80 = .ok (.areturn, 1) := by decide +kernel
theorem pn_1 : plainName "com/example/predicate/predicate/document/AttributeDeclarationNormalizePinLaw" = true := by first | (simp [plainName, overriddenIn]; done) | decide +kernel
theorem pd_1 : parseMethodDescriptor "(JI)[B" = some ⟨[.long, .int], some (.array .byte)⟩ := by decide +kernel
theorem ef_1 (m : MethodId) (x0 : Int64) (x1 : Int32) : entryFrame m #[(.long x0), (.int x1)] 3 = mkF m 0 #[.val (.long x0), .second, .val (.int x1)] [] := by first | (simp [entryFrame, mkF, argsToLocals, Value.category]; done) | rfl
theorem d3_0 : decode prog_5_method_2_code 0 = .ok (.iload_n 2, 1) := by decide +kernel
theorem d3_1 : decode prog_5_method_2_code 1 = .ok (.istore 4, 2) := by decide +kernel
theorem d3_3 : decode prog_5_method_2_code 3 = .ok (.iload_n 3, 1) := by decide +kernel
theorem d3_4 : decode prog_5_method_2_code 4 = .ok (.ifCond .eq 98, 3) := by decide +kernel
theorem d3_7 : decode prog_5_method_2_code 7 = .ok (.iconst 0, 1) := by decide +kernel
theorem d3_8 : decode prog_5_method_2_code 8 = .ok (.istore 4, 2) := by decide +kernel
theorem d3_10 : decode prog_5_method_2_code 10 = .ok (.iconst 0, 1) := by decide +kernel
theorem d3_11 : decode prog_5_method_2_code 11 = .ok (.istore 5, 2) := by decide +kernel
theorem d3_13 : decode prog_5_method_2_code 13 = .ok (.iload 5, 2) := by decide +kernel
theorem d3_15 : decode prog_5_method_2_code 15 = .ok (.iload_n 2, 1) := by decide +kernel
theorem d3_16 : decode prog_5_method_2_code 16 = .ok (.if_icmp .ge 65, 3) := by decide +kernel
theorem d3_19 : decode prog_5_method_2_code 19 = .ok (.iload 4, 2) := by decide +kernel
theorem d3_21 : decode prog_5_method_2_code 21 = .ok (.ifCond .le 20, 3) := by decide +kernel
theorem d3_24 : decode prog_5_method_2_code 24 = .ok (.aload_n 0, 1) := by decide +kernel
theorem d3_25 : decode prog_5_method_2_code 25 = .ok (.iload_n 1, 1) := by decide +kernel
theorem d3_26 : decode prog_5_method_2_code 26 = .ok (.iload 5, 2) := by decide +kernel
theorem d3_28 : decode prog_5_method_2_code 28 = .ok (.iadd, 1) := by decide +kernel
theorem d3_29 : decode prog_5_method_2_code 29 = .ok (.iconst 1, 1) := by decide +kernel
theorem d3_30 : decode prog_5_method_2_code 30 = .ok (.isub, 1) := by decide +kernel
theorem d3_31 : decode prog_5_method_2_code 31 = .ok (.baload, 1) := by decide +kernel
theorem d3_32 : decode prog_5_method_2_code 32 = .ok (.bipush 32, 2) := by decide +kernel
theorem d3_34 : decode prog_5_method_2_code 34 = .ok (.if_icmp .eq 7, 3) := by decide +kernel
theorem d3_37 : decode prog_5_method_2_code 37 = .ok (.iconst 1, 1) := by decide +kernel
theorem d3_38 : decode prog_5_method_2_code 38 = .ok (.goto 4, 3) := by decide +kernel
theorem d3_41 : decode prog_5_method_2_code 41 = .ok (.iconst 0, 1) := by decide +kernel
theorem d3_42 : decode prog_5_method_2_code 42 = .ok (.istore 6, 2) := by decide +kernel
theorem d3_44 : decode prog_5_method_2_code 44 = .ok (.aload_n 0, 1) := by decide +kernel
theorem d3_45 : decode prog_5_method_2_code 45 = .ok (.iload_n 1, 1) := by decide +kernel
theorem d3_46 : decode prog_5_method_2_code 46 = .ok (.iload 5, 2) := by decide +kernel
theorem d3_48 : decode prog_5_method_2_code 48 = .ok (.iadd, 1) := by decide +kernel
theorem d3_49 : decode prog_5_method_2_code 49 = .ok (.baload, 1) := by decide +kernel
theorem d3_50 : decode prog_5_method_2_code 50 = .ok (.bipush 32, 2) := by decide +kernel
theorem d3_52 : decode prog_5_method_2_code 52 = .ok (.if_icmp .ne 8, 3) := by decide +kernel
theorem d3_55 : decode prog_5_method_2_code 55 = .ok (.iload 6, 2) := by decide +kernel
theorem d3_57 : decode prog_5_method_2_code 57 = .ok (.ifCond .eq 18, 3) := by decide +kernel
theorem d3_60 : decode prog_5_method_2_code 60 = .ok (.aload_n 0, 1) := by decide +kernel
theorem d3_61 : decode prog_5_method_2_code 61 = .ok (.iload_n 1, 1) := by decide +kernel
theorem d3_62 : decode prog_5_method_2_code 62 = .ok (.iload 4, 2) := by decide +kernel
theorem d3_64 : decode prog_5_method_2_code 64 = .ok (.iinc 4 1, 3) := by decide +kernel
theorem d3_67 : decode prog_5_method_2_code 67 = .ok (.iadd, 1) := by decide +kernel
theorem d3_68 : decode prog_5_method_2_code 68 = .ok (.aload_n 0, 1) := by decide +kernel
theorem d3_69 : decode prog_5_method_2_code 69 = .ok (.iload_n 1, 1) := by decide +kernel
theorem d3_70 : decode prog_5_method_2_code 70 = .ok (.iload 5, 2) := by decide +kernel
theorem d3_72 : decode prog_5_method_2_code 72 = .ok (.iadd, 1) := by decide +kernel
theorem d3_73 : decode prog_5_method_2_code 73 = .ok (.baload, 1) := by decide +kernel
theorem d3_74 : decode prog_5_method_2_code 74 = .ok (.bastore, 1) := by decide +kernel
theorem d3_75 : decode prog_5_method_2_code 75 = .ok (.iinc 5 1, 3) := by decide +kernel
theorem d3_78 : decode prog_5_method_2_code 78 = .ok (.goto (-65), 3) := by decide +kernel
theorem d3_81 : decode prog_5_method_2_code 81 = .ok (.iload 4, 2) := by decide +kernel
theorem d3_83 : decode prog_5_method_2_code 83 = .ok (.ifCond .le 19, 3) := by decide +kernel
theorem d3_86 : decode prog_5_method_2_code 86 = .ok (.aload_n 0, 1) := by decide +kernel
theorem d3_87 : decode prog_5_method_2_code 87 = .ok (.iload_n 1, 1) := by decide +kernel
theorem d3_88 : decode prog_5_method_2_code 88 = .ok (.iload 4, 2) := by decide +kernel
theorem d3_90 : decode prog_5_method_2_code 90 = .ok (.iadd, 1) := by decide +kernel
theorem d3_91 : decode prog_5_method_2_code 91 = .ok (.iconst 1, 1) := by decide +kernel
theorem d3_92 : decode prog_5_method_2_code 92 = .ok (.isub, 1) := by decide +kernel
theorem d3_93 : decode prog_5_method_2_code 93 = .ok (.baload, 1) := by decide +kernel
theorem d3_94 : decode prog_5_method_2_code 94 = .ok (.bipush 32, 2) := by decide +kernel
theorem d3_96 : decode prog_5_method_2_code 96 = .ok (.if_icmp .ne 6, 3) := by decide +kernel
theorem d3_99 : decode prog_5_method_2_code 99 = .ok (.iinc 4 (-1), 3) := by decide +kernel
theorem d3_102 : decode prog_5_method_2_code 102 = .ok (.iload 4, 2) := by decide +kernel
theorem d3_104 : decode prog_5_method_2_code 104 = .ok (.ireturn, 1) := by decide +kernel
theorem pn_3 : plainName "com/example/predicate/predicate/document/AttributeDeclaration" = true := by first | (simp [plainName, overriddenIn]; done) | decide +kernel
theorem pd_3 : parseMethodDescriptor "([BIIZ)I" = some ⟨[(.array .byte), .int, .int, .boolean], some .int⟩ := by decide +kernel
theorem ef_3 (m : MethodId) (x0 : Addr) (x1 : Int32) (x2 : Int32) (x3 : Int32) : entryFrame m #[(.ref x0), (.int x1), (.int x2), (.int x3)] 7 = mkF m 0 #[.val (.ref x0), .val (.int x1), .val (.int x2), .val (.int x3), .unset, .unset, .unset] [] := by first | (simp [entryFrame, mkF, argsToLocals, Value.category]; done) | rfl
theorem d4_0 : decode method_5_code 0 = .ok (.iload 5, 2) := by decide +kernel
theorem d4_2 : decode method_5_code 2 = .ok (.iload 4, 2) := by decide +kernel
theorem d4_4 : decode method_5_code 4 = .ok (.if_icmp .lt 5, 3) := by decide +kernel
theorem d4_7 : decode method_5_code 7 = .ok (.iload_n 1, 1) := by decide +kernel
theorem d4_8 : decode method_5_code 8 = .ok (.ireturn, 1) := by decide +kernel
theorem d4_9 : decode method_5_code 9 = .ok (.aload_n 2, 1) := by decide +kernel
theorem d4_10 : decode method_5_code 10 = .ok (.iload_n 3, 1) := by decide +kernel
theorem d4_11 : decode method_5_code 11 = .ok (.iload 5, 2) := by decide +kernel
theorem d4_13 : decode method_5_code 13 = .ok (.iadd, 1) := by decide +kernel
theorem d4_14 : decode method_5_code 14 = .ok (.baload, 1) := by decide +kernel
theorem d4_15 : decode method_5_code 15 = .ok (.istore 6, 2) := by decide +kernel
theorem d4_17 : decode method_5_code 17 = .ok (.iload 6, 2) := by decide +kernel
theorem d4_19 : decode method_5_code 19 = .ok (.bipush 32, 2) := by decide +kernel
theorem d4_21 : decode method_5_code 21 = .ok (.if_icmp .ne 5, 3) := by decide +kernel
theorem d4_24 : decode method_5_code 24 = .ok (.iload_n 1, 1) := by decide +kernel
theorem d4_25 : decode method_5_code 25 = .ok (.ireturn, 1) := by decide +kernel
theorem d4_26 : decode method_5_code 26 = .ok (.iload_n 1, 1) := by decide +kernel
theorem d4_27 : decode method_5_code 27 = .ok (.ifCond .le 25, 3) := by decide +kernel
theorem d4_30 : decode method_5_code 30 = .ok (.aload_n 2, 1) := by decide +kernel
theorem d4_31 : decode method_5_code 31 = .ok (.iload_n 3, 1) := by decide +kernel
theorem d4_32 : decode method_5_code 32 = .ok (.iload 5, 2) := by decide +kernel
theorem d4_34 : decode method_5_code 34 = .ok (.iadd, 1) := by decide +kernel
theorem d4_35 : decode method_5_code 35 = .ok (.iconst 1, 1) := by decide +kernel
theorem d4_36 : decode method_5_code 36 = .ok (.isub, 1) := by decide +kernel
theorem d4_37 : decode method_5_code 37 = .ok (.baload, 1) := by decide +kernel
theorem d4_38 : decode method_5_code 38 = .ok (.bipush 32, 2) := by decide +kernel
theorem d4_40 : decode method_5_code 40 = .ok (.if_icmp .ne 12, 3) := by decide +kernel
theorem d4_43 : decode method_5_code 43 = .ok (.aload_n 0, 1) := by decide +kernel
theorem d4_44 : decode method_5_code 44 = .ok (.iload_n 1, 1) := by decide +kernel
theorem d4_45 : decode method_5_code 45 = .ok (.bipush 32, 2) := by decide +kernel
theorem d4_47 : decode method_5_code 47 = .ok (.bastore, 1) := by decide +kernel
theorem d4_48 : decode method_5_code 48 = .ok (.iload_n 1, 1) := by decide +kernel
theorem d4_49 : decode method_5_code 49 = .ok (.iconst 1, 1) := by decide +kernel
theorem d4_50 : decode method_5_code 50 = .ok (.iadd, 1) := by decide +kernel
theorem d4_51 : decode method_5_code 51 = .ok (.istore_n 1, 1) := by decide +kernel
theorem d4_52 : decode method_5_code 52 = .ok (.aload_n 0, 1) := by decide +kernel
theorem d4_53 : decode method_5_code 53 = .ok (.iload_n 1, 1) := by decide +kernel
theorem d4_54 : decode method_5_code 54 = .ok (.iload 6, 2) := by decide +kernel
theorem d4_56 : decode method_5_code 56 = .ok (.bastore, 1) := by decide +kernel
theorem d4_57 : decode method_5_code 57 = .ok (.iload_n 1, 1) := by decide +kernel
theorem d4_58 : decode method_5_code 58 = .ok (.iconst 1, 1) := by decide +kernel
theorem d4_59 : decode method_5_code 59 = .ok (.iadd, 1) := by decide +kernel
theorem d4_60 : decode method_5_code 60 = .ok (.ireturn, 1) := by decide +kernel
theorem pn_4 : plainName "com/example/predicate/predicate/document/AttributeDeclarationNormalizePinLaw" = true := by first | (simp [plainName, overriddenIn]; done) | decide +kernel
theorem pd_4 : parseMethodDescriptor "([BI[BIII)I" = some ⟨[(.array .byte), .int, (.array .byte), .int, .int, .int], some .int⟩ := by decide +kernel
theorem ef_4 (m : MethodId) (x0 : Addr) (x1 : Int32) (x2 : Addr) (x3 : Int32) (x4 : Int32) (x5 : Int32) : entryFrame m #[(.ref x0), (.int x1), (.ref x2), (.int x3), (.int x4), (.int x5)] 7 = mkF m 0 #[.val (.ref x0), .val (.int x1), .val (.ref x2), .val (.int x3), .val (.int x4), .val (.int x5), .unset] [] := by first | (simp [entryFrame, mkF, argsToLocals, Value.category]; done) | rfl
theorem d5_0 : decode method_6_code 0 = .ok (.iload_n 3, 1) := by decide +kernel
theorem d5_1 : decode method_6_code 1 = .ok (.iload 4, 2) := by decide +kernel
theorem d5_3 : decode method_6_code 3 = .ok (.if_icmp .ge 14, 3) := by decide +kernel
theorem d5_6 : decode method_6_code 6 = .ok (.aload_n 0, 1) := by decide +kernel
theorem d5_7 : decode method_6_code 7 = .ok (.iload_n 2, 1) := by decide +kernel
theorem d5_8 : decode method_6_code 8 = .ok (.iload_n 3, 1) := by decide +kernel
theorem d5_9 : decode method_6_code 9 = .ok (.iadd, 1) := by decide +kernel
theorem d5_10 : decode method_6_code 10 = .ok (.baload, 1) := by decide +kernel
theorem d5_11 : decode method_6_code 11 = .ok (.aload_n 1, 1) := by decide +kernel
theorem d5_12 : decode method_6_code 12 = .ok (.iload_n 3, 1) := by decide +kernel
theorem d5_13 : decode method_6_code 13 = .ok (.baload, 1) := by decide +kernel
theorem d5_14 : decode method_6_code 14 = .ok (.if_icmp .ne 7, 3) := by decide +kernel
theorem d5_17 : decode method_6_code 17 = .ok (.iconst 1, 1) := by decide +kernel
theorem d5_18 : decode method_6_code 18 = .ok (.goto 4, 3) := by decide +kernel
theorem d5_21 : decode method_6_code 21 = .ok (.iconst 0, 1) := by decide +kernel
theorem d5_22 : decode method_6_code 22 = .ok (.ireturn, 1) := by decide +kernel
theorem pn_5 : plainName "com/example/predicate/predicate/document/AttributeDeclarationNormalizePinLaw" = true := by first | (simp [plainName, overriddenIn]; done) | decide +kernel
theorem pd_5 : parseMethodDescriptor "([B[BIII)Z" = some ⟨[(.array .byte), (.array .byte), .int, .int, .int], some .boolean⟩ := by decide +kernel
theorem ef_5 (m : MethodId) (x0 : Addr) (x1 : Addr) (x2 : Int32) (x3 : Int32) (x4 : Int32) : entryFrame m #[(.ref x0), (.ref x1), (.int x2), (.int x3), (.int x4)] 5 = mkF m 0 #[.val (.ref x0), .val (.ref x1), .val (.int x2), .val (.int x3), .val (.int x4)] [] := by first | (simp [entryFrame, mkF, argsToLocals, Value.category]; done) | rfl
theorem d6_0 : decode method_7_code 0 = .ok (.iload 4, 2) := by decide +kernel
theorem d6_2 : decode method_7_code 2 = .ok (.iload_n 2, 1) := by decide +kernel
theorem d6_3 : decode method_7_code 3 = .ok (.if_icmp .lt 11, 3) := by decide +kernel
theorem d6_6 : decode method_7_code 6 = .ok (.iload 4, 2) := by decide +kernel
theorem d6_8 : decode method_7_code 8 = .ok (.iload_n 2, 1) := by decide +kernel
theorem d6_9 : decode method_7_code 9 = .ok (.iload_n 3, 1) := by decide +kernel
theorem d6_10 : decode method_7_code 10 = .ok (.iadd, 1) := by decide +kernel
theorem d6_11 : decode method_7_code 11 = .ok (.if_icmp .lt 20, 3) := by decide +kernel
theorem d6_14 : decode method_7_code 14 = .ok (.aload_n 0, 1) := by decide +kernel
theorem d6_15 : decode method_7_code 15 = .ok (.iload 4, 2) := by decide +kernel
theorem d6_17 : decode method_7_code 17 = .ok (.baload, 1) := by decide +kernel
theorem d6_18 : decode method_7_code 18 = .ok (.aload_n 1, 1) := by decide +kernel
theorem d6_19 : decode method_7_code 19 = .ok (.iload 4, 2) := by decide +kernel
theorem d6_21 : decode method_7_code 21 = .ok (.baload, 1) := by decide +kernel
theorem d6_22 : decode method_7_code 22 = .ok (.if_icmp .ne 7, 3) := by decide +kernel
theorem d6_25 : decode method_7_code 25 = .ok (.iconst 1, 1) := by decide +kernel
theorem d6_26 : decode method_7_code 26 = .ok (.goto 4, 3) := by decide +kernel
theorem d6_29 : decode method_7_code 29 = .ok (.iconst 0, 1) := by decide +kernel
theorem d6_30 : decode method_7_code 30 = .ok (.ireturn, 1) := by decide +kernel
theorem d6_31 : decode method_7_code 31 = .ok (.iconst 1, 1) := by decide +kernel
theorem d6_32 : decode method_7_code 32 = .ok (.ireturn, 1) := by decide +kernel
theorem pn_6 : plainName "com/example/predicate/predicate/document/AttributeDeclarationNormalizePinLaw" = true := by first | (simp [plainName, overriddenIn]; done) | decide +kernel
theorem pd_6 : parseMethodDescriptor "([B[BIII)Z" = some ⟨[(.array .byte), (.array .byte), .int, .int, .int], some .boolean⟩ := by decide +kernel
theorem ef_6 (m : MethodId) (x0 : Addr) (x1 : Addr) (x2 : Int32) (x3 : Int32) (x4 : Int32) : entryFrame m #[(.ref x0), (.ref x1), (.int x2), (.int x3), (.int x4)] 5 = mkF m 0 #[.val (.ref x0), .val (.ref x1), .val (.int x2), .val (.int x3), .val (.int x4)] [] := by first | (simp [entryFrame, mkF, argsToLocals, Value.category]; done) | rfl
theorem pn_0 : plainName "com/example/predicate/predicate/document/AttributeDeclarationNormalizePinLaw" = true := by first | (simp [plainName, overriddenIn]; done) | decide +kernel
theorem pd_0 : parseMethodDescriptor "(JIIII)Z" = some ⟨[.long, .int, .int, .int, .int], some .boolean⟩ := by decide +kernel
theorem ef_0 (m : MethodId) (x0 : Int64) (x1 : Int32) (x2 : Int32) (x3 : Int32) (x4 : Int32) : entryFrame m #[(.long x0), (.int x1), (.int x2), (.int x3), (.int x4)] maxLocals = mkF m 0 #[.val (.long x0), .second, .val (.int x1), .val (.int x2), .val (.int x3), .val (.int x4), .unset, .unset, .unset, .unset, .unset, .unset, .unset, .unset] [] := by first | (simp [entryFrame, mkF, argsToLocals, Value.category, maxLocals]; done) | rfl
theorem own_inc (n : Nat) : Int32.ofNat n + (1 : Int32) = Int32.ofNat (n + 1) := (Int32.ofNat_add n 1).symm
theorem own_toInt {n : Nat} (h : n < 2147483648) : (Int32.ofNat n).toInt = n := Int32.toInt_ofNat_of_lt h
theorem own_nneg {n : Nat} (h : n < 2147483648) : ¬ Int32.ofNat n < 0 := fun q => by
  have := Int32.lt_iff_toInt_lt.mp q
  rw [own_toInt h] at this; simp at this; omega
theorem own_clamp {n : Nat} (h : n < 2147483648) : (Int32.ofNat n).toNatClampNeg = n := by
  show (Int32.ofNat n).toInt.toNat = n
  rw [own_toInt h]; rfl
theorem own_addk (n : Nat) {k : Nat} {z : Int32} (hz : z = Int32.ofNat k) : Int32.ofNat n + z = Int32.ofNat (n + k) := by rw [hz, Int32.ofNat_add]
theorem own_of {x : Int32} (h : 0 ≤ x.toInt) : ∃ n : Nat, x = Int32.ofNat n ∧ (n : Int) = x.toInt := by
  have r := rng32 x
  refine ⟨x.toInt.toNat, ?_, by omega⟩
  apply Int32.toInt_inj.mp
  rw [own_toInt (by omega)]; omega
theorem own_31 (x : Int32) : 0 ≤ (x &&& 2147483647).toInt := by
  have e := Jvm.Kit.i32_mask x 2147483647 (k := 31) (by decide) (by decide)
  omega
theorem own_sub1 {n : Nat} (h : 1 ≤ n) : Int32.ofNat n - (1 : Int32) = Int32.ofNat (n - 1) := by
  obtain ⟨k, rfl⟩ : ∃ k, n = k + 1 := ⟨n - 1, by omega⟩
  rw [← own_inc, Int32.add_sub_cancel]; rfl
theorem own_dec {n : Nat} (h : 1 ≤ n) : Int32.ofNat n + (-1 : Int32) = Int32.ofNat (n - 1) := by
  obtain ⟨k, rfl⟩ : ∃ k, n = k + 1 := ⟨n - 1, by omega⟩
  rw [← own_inc, Int32.add_assoc, show (1 : Int32) + -1 = 0 from by decide, Int32.add_zero]; rfl
theorem own_cmp {a b : Nat} (ha : a < 64) (hb : b < 64) : (Int32.ofNat a < Int32.ofNat b ↔ a < b) := by
  rw [Int32.lt_iff_toInt_lt, own_toInt (by omega), own_toInt (by omega)]; omega
theorem own_pos {a : Nat} (ha : a < 64) : ((0 : Int32) < Int32.ofNat a ↔ 0 < a) := own_cmp (a := 0) (by decide) ha
def own_by (x : Int32) : Int32 := x.toInt8.toInt32.toInt8.toInt32
def own_atb (q : Int64) (p i : Int32) : Int32 := if ((p.toUInt32 >>> (i &&& 31).toUInt32).toInt32 &&& 1) = 0 then own_by ((q.toUInt64 >>> ((8 * i) &&& 0x3f).toInt64.toUInt64).toInt64.toInt32) else (32 : Int32).toInt8.toInt32
set_option maxRecDepth 65536 in
set_option maxHeartbeats 40000000 in
def Q_rm2 (Z : State) (q1 : Int64) (p2 p3 : Int32) (h0 : Heap) (n0 : Nat) : Option Value → Heap → List Loc → Prop := fun v h L => v = some (.int (own_atb q1 p2 p3)) ∧ Fr n0 L ∧ h = h0
set_option maxRecDepth 65536 in
set_option maxHeartbeats 40000000 in
theorem rm2 (l : Launch) (Z : State) (a0 : Array Value) (hw : ∀ d ∈ tables_1, d.before a0 Z = true) (ws : List Jvm.Cond) (q1 : Int64) (p2 p3 : Int32) (h0 : Heap) (n0 : Nat) (Z0 : n0 ≤ h0.size) :
    Pays l (⟨"com/example/predicate/predicate/document/AttributeDeclarationNormalizePinLaw", "at", "(JII)B"⟩ : MethodName) method_3_code 4 (some .byte) ws ({ frames := 0, cells := 0, slots := 0, locals := 0 } : Room) #[(.long q1), (.int p2), (.int p3)] Z h0 (Q_rm2 Z q1 p2 p3 h0 n0) := by
  refine Pays.of (plainFor_of_name pn_2) ?_
  intro p e s m below meth c s₁ hx hby hml hown hnm hret hlk hZ X0 e0
  have hown : s.vm.findClass "com/example/predicate/predicate/document/AttributeDeclarationNormalizePinLaw" = some m.cls := hown
  have hnm : meth.name = "at" := hnm
  have hml : c.maxLocals = 4 := hml
  show Ends p e below s _ _ (fun v h L => v = some (.int (own_atb q1 p2 p3)) ∧ Fr n0 L ∧ h = h0) s₁ _
  refine Ends.cast (ef_2 m q1 p2 p3) ?_
  have N0 := Fr.nil n0
  refine Ends.to (T' := s₁) (g' := (mkF m 1 #[.val (.long q1), .second, .val (.int p2), .val (.int p3)] [(.int p2)])) (fun tt_ kk_ => XS.iloadN X0.here hx rfl (hb hby d2_0) rfl kk_) ?_
  refine Ends.to (T' := s₁) (g' := (mkF m 2 #[.val (.long q1), .second, .val (.int p2), .val (.int p3)] [(.int p3), (.int p2)])) (fun tt_ kk_ => XS.iloadN X0.here hx rfl (hb hby d2_1) rfl kk_) ?_
  refine Ends.to (T' := s₁) (g' := (mkF m 3 #[.val (.long q1), .second, .val (.int p2), .val (.int p3)] [(.int ((p2.toUInt32 >>> (p3 &&& 31).toUInt32).toInt32))])) (fun tt_ kk_ => XS.iushr X0.here hx rfl (hb hby d2_2) rfl kk_) ?_
  refine Ends.to (T' := s₁) (g' := (mkF m 4 #[.val (.long q1), .second, .val (.int p2), .val (.int p3)] [(.int (1 : Int32)), (.int ((p2.toUInt32 >>> (p3 &&& 31).toUInt32).toInt32))])) (fun tt_ kk_ => XS.iconst X0.here hx rfl (hb hby d2_3) kk_) ?_
  refine Ends.to (T' := s₁) (g' := (mkF m 5 #[.val (.long q1), .second, .val (.int p2), .val (.int p3)] [(.int (((p2.toUInt32 >>> (p3 &&& 31).toUInt32).toInt32) &&& (1 : Int32)))])) (fun tt_ kk_ => XS.iand X0.here hx rfl (hb hby d2_4) rfl kk_) ?_
  by_cases hc5 : (((p2.toUInt32 >>> (p3 &&& 31).toUInt32).toInt32) &&& (1 : Int32)) = (0 : Int32)
  · refine Ends.to (T' := s₁) (g' := (mkF m 11 #[.val (.long q1), .second, .val (.int p2), .val (.int p3)] [])) (fun tt_ kk_ => XS.ifYes X0.here hx rfl (pc0 := 5) (pc' := 11) rfl (hb hby d2_5) rfl ((if0 _ _).trans (teq hc5).1) (by decide) (by decide) kk_) ?_
    refine Ends.to (T' := s₁) (g' := (mkF m 12 #[.val (.long q1), .second, .val (.int p2), .val (.int p3)] [(.long q1)])) (fun tt_ kk_ => XS.lloadN X0.here hx rfl (hb hby d2_11) rfl kk_) ?_
    refine Ends.to (T' := s₁) (g' := (mkF m 14 #[.val (.long q1), .second, .val (.int p2), .val (.int p3)] [(.int (8 : Int32)), (.long q1)])) (fun tt_ kk_ => XS.bipush X0.here hx rfl (hb hby d2_12) kk_) ?_
    refine Ends.to (T' := s₁) (g' := (mkF m 15 #[.val (.long q1), .second, .val (.int p2), .val (.int p3)] [(.int p3), (.int (8 : Int32)), (.long q1)])) (fun tt_ kk_ => XS.iloadN X0.here hx rfl (hb hby d2_14) rfl kk_) ?_
    refine Ends.to (T' := s₁) (g' := (mkF m 16 #[.val (.long q1), .second, .val (.int p2), .val (.int p3)] [(.int ((8 : Int32) * p3)), (.long q1)])) (fun tt_ kk_ => XS.imul X0.here hx rfl (hb hby d2_15) rfl kk_) ?_
    refine Ends.to (T' := s₁) (g' := (mkF m 17 #[.val (.long q1), .second, .val (.int p2), .val (.int p3)] [(.long ((q1.toUInt64 >>> (((8 : Int32) * p3) &&& 0x3f).toInt64.toUInt64).toInt64))])) (fun tt_ kk_ => XS.lushr X0.here hx rfl (hb hby d2_16) rfl kk_) ?_
    refine Ends.to (T' := s₁) (g' := (mkF m 18 #[.val (.long q1), .second, .val (.int p2), .val (.int p3)] [(.int (((q1.toUInt64 >>> (((8 : Int32) * p3) &&& 0x3f).toInt64.toUInt64).toInt64).toInt32))])) (fun tt_ kk_ => XS.l2i X0.here hx rfl (hb hby d2_17) rfl kk_) ?_
    refine Ends.to (T' := s₁) (g' := (mkF m 19 #[.val (.long q1), .second, .val (.int p2), .val (.int p3)] [(.int ((((q1.toUInt64 >>> (((8 : Int32) * p3) &&& 0x3f).toInt64.toUInt64).toInt64).toInt32).toInt8.toInt32))])) (fun tt_ kk_ => XS.i2b X0.here hx rfl (hb hby d2_18) rfl kk_) ?_
    exact Ends.retN (t := .byte) (by simp) X0 hx hret (hb hby d2_19) hlk (by decide) (by decide) ⟨by simp only [own_atb, nar, if_pos hc5] ; first | done | rfl, N0, e0⟩
  · refine Ends.to (T' := s₁) (g' := (mkF m 8 #[.val (.long q1), .second, .val (.int p2), .val (.int p3)] [])) (fun tt_ kk_ => XS.ifNo X0.here hx rfl (hb hby d2_5) rfl ((if0 _ _).trans (feq hc5).1) kk_) ?_
    refine Ends.to (T' := s₁) (g' := (mkF m 10 #[.val (.long q1), .second, .val (.int p2), .val (.int p3)] [(.int (32 : Int32))])) (fun tt_ kk_ => XS.bipush X0.here hx rfl (hb hby d2_8) kk_) ?_
    exact Ends.retN (t := .byte) (by simp) X0 hx hret (hb hby d2_10) hlk (by decide) (by decide) ⟨by simp only [own_atb, nar, if_neg hc5] ; first | done | rfl, N0, e0⟩
def own_g (q : Int64) (p : Int32) : Nat → Int32 := (upd (upd (upd (upd (upd (upd (upd (upd (fun _ => (0 : Int32)) 0 (own_atb q p 0).toInt8.toInt32) 1 (own_atb q p 1).toInt8.toInt32) 2 (own_atb q p 2).toInt8.toInt32) 3 (own_atb q p 3).toInt8.toInt32) 4 (own_atb q p 4).toInt8.toInt32) 5 (own_atb q p 5).toInt8.toInt32) 6 (own_atb q p 6).toInt8.toInt32) 7 (own_atb q p 7).toInt8.toInt32)
set_option maxRecDepth 65536 in
set_option maxHeartbeats 40000000 in
def Q_rm1 (Z : State) (q1 : Int64) (p2 : Int32) (h0 : Heap) (n0 : Nat) : Option Value → Heap → List Loc → Prop := fun v h L => v = some (.ref h0.size) ∧ Fr n0 L ∧ Keep h0 h [] ∧ BB Z h h0.size 8 (own_g q1 p2)
set_option maxRecDepth 65536 in
set_option maxHeartbeats 40000000 in
theorem rm1 (l : Launch) (Z : State) (a0 : Array Value) (hw : ∀ d ∈ tables_1, d.before a0 Z = true) (ws : List Jvm.Cond) (q1 : Int64) (p2 : Int32) (h0 : Heap) (n0 : Nat) (Z0 : n0 ≤ h0.size) :
    Pays l (⟨"com/example/predicate/predicate/document/AttributeDeclarationNormalizePinLaw", "build", "(JI)[B"⟩ : MethodName) method_4_code 3 (some (.array .byte)) ws ({ frames := 1, cells := 1, slots := 8, locals := 18 } : Room) #[(.long q1), (.int p2)] Z h0 (Q_rm1 Z q1 p2 h0 n0) := by
  refine Pays.of (plainFor_of_name pn_1) ?_
  intro p e s m below meth c s₁ hx hby hml hown hnm hret hlk hZ X0 e0
  have hown : s.vm.findClass "com/example/predicate/predicate/document/AttributeDeclarationNormalizePinLaw" = some m.cls := hown
  have hnm : meth.name = "build" := hnm
  have hml : c.maxLocals = 3 := hml
  show Ends p e below s _ _ (fun v h L => v = some (.ref h0.size) ∧ Fr n0 L ∧ Keep h0 h [] ∧ BB Z h h0.size 8 (own_g q1 p2)) s₁ _
  refine Ends.cast (ef_1 m q1 p2) ?_
  have N0 := Fr.nil n0
  have Zs := Z0
  have K1 := Keep.refl h0 []
  refine Ends.to (T' := s₁) (g' := (mkF m 2 #[.val (.long q1), .second, .val (.int p2)] [(.int (8 : Int32))])) (fun tt_ kk_ => XS.bipush X0.here hx rfl (hb hby d1_0) kk_) ?_
  obtain ⟨T1, h1, k1, X1, e1, E1, A1, st1⟩ := newP X0 hx hZ (hw _ (List.mem_of_getElem? (i := 5) rfl)) e0 (g := (mkF m 2 #[.val (.long q1), .second, .val (.int p2)] [(.int (8 : Int32))])) rfl (hb hby d1_2) rfl (by decide) (cap := 8) (by decide) (by decide) (by decide) (by decide)
  obtain ⟨b1, g_b1⟩ : ∃ z, z = h0.size := ⟨_, rfl⟩
  rw [← g_b1] at A1 st1
  have f_b1 : n0 ≤ b1 := Nat.le_trans Zs (Nat.le_of_eq g_b1.symm)
  have Zs := Nat.le_trans Zs E1.1
  have K1 := Keep.ext K1 E1
  have B_b1 : BB Z h1 b1 8 (fun _ => 0) := BA.freshB A1 rfl
  refine Ends.to (T' := T1) (g' := (mkF m 4 #[.val (.long q1), .second, .val (.int p2)] [(.ref b1)])) (fun tt_ kk_ => st1 tt_ kk_) ?_
  refine Ends.to (T' := T1) (g' := (mkF m 5 #[.val (.long q1), .second, .val (.int p2)] [(.ref b1), (.ref b1)])) (fun tt_ kk_ => XS.dup X1.here hx rfl (hb hby d1_4) rfl rfl kk_) ?_
  refine Ends.to (T' := T1) (g' := (mkF m 6 #[.val (.long q1), .second, .val (.int p2)] [(.int (0 : Int32)), (.ref b1), (.ref b1)])) (fun tt_ kk_ => XS.iconst X1.here hx rfl (hb hby d1_5) kk_) ?_
  refine Ends.to (T' := T1) (g' := (mkF m 7 #[.val (.long q1), .second, .val (.int p2)] [(.long q1), (.int (0 : Int32)), (.ref b1), (.ref b1)])) (fun tt_ kk_ => XS.lloadN X1.here hx rfl (hb hby d1_6) rfl kk_) ?_
  refine Ends.to (T' := T1) (g' := (mkF m 8 #[.val (.long q1), .second, .val (.int p2)] [(.int p2), (.long q1), (.int (0 : Int32)), (.ref b1), (.ref b1)])) (fun tt_ kk_ => XS.iloadN X1.here hx rfl (hb hby d1_7) rfl kk_) ?_
  refine Ends.to (T' := T1) (g' := (mkF m 9 #[.val (.long q1), .second, .val (.int p2)] [(.int (0 : Int32)), (.int p2), (.long q1), (.int (0 : Int32)), (.ref b1), (.ref b1)])) (fun tt_ kk_ => XS.iconst X1.here hx rfl (hb hby d1_8) kk_) ?_
  obtain ⟨_, _, ⟨T2, L2, k2, n2⟩, -, X2, ⟨Lc2, hQ2, l2, y2, z2⟩, st2⟩ := Jvm.LawKit.callS X1 hx (y := (⟨"com/example/predicate/predicate/document/AttributeDeclarationNormalizePinLaw", "at", "(JII)B"⟩ : MethodName)) hown (mvT hZ (hw _ (List.mem_of_getElem? (i := 6) rfl))) (mvT hZ (hw _ (List.mem_of_getElem? (i := 7) rfl))) (mvT hZ (hw _ (List.mem_of_getElem? (i := 3) rfl))) (mvT hZ (hw _ (List.mem_of_getElem? (i := 8) rfl))) (by decide) (backOf (W := 3) (rm2 l Z a0 hw [] q1 p2 (0 : Int32) h1 n0 Zs) hZ (hw _ (List.mem_of_getElem? (i := 8) rfl)) (hw _ (List.mem_of_getElem? (i := 3) rfl)) (by decide) (by decide)) (g := (mkF m 9 #[.val (.long q1), .second, .val (.int p2)] [(.int (0 : Int32)), (.int p2), (.long q1), (.int (0 : Int32)), (.ref b1), (.ref b1)])) rfl (by rw [hml]; rfl) (argsL := [(.long q1), (.int p2), (.int (0 : Int32))]) (rest := [(.int (0 : Int32)), (.ref b1), (.ref b1)]) (lenOf pd_2 rfl) rfl (by show 2 * 0 + _ ≤ _; exact Nat.le_of_eq rfl) (hb hby d1_9) (fun _ _ => ⟨rfl, e1, (by decide : 1 + 0 ≤ _), (by decide : 8 + 0 ≤ _)⟩)
  dsimp only [Pt.U, Pt.locs, Pt.cells, Pt.slots] at X2 l2 y2 z2 st2 hQ2
  subst l2 y2 z2
  obtain ⟨rfl, N2q, e2q⟩ := hQ2
  have N2 := Fr.app N0 N2q
  refine Ends.to (T' := T2) (g' := (mkF m 12 #[.val (.long q1), .second, .val (.int p2)] [(.int (own_atb q1 p2 (0 : Int32))), (.int (0 : Int32)), (.ref b1), (.ref b1)])) (fun tt_ kk_ => st2 tt_ kk_) ?_
  obtain ⟨T3, h3, X3, e3, W3, B_b1', st3⟩ := BA.stB X2 hx hZ e2q B_b1 (j := (0 : Int32)) (i := 0) (by decide) rfl (by decide) (g := (mkF m 12 #[.val (.long q1), .second, .val (.int p2)] [(.int (own_atb q1 p2 (0 : Int32))), (.int (0 : Int32)), (.ref b1), (.ref b1)])) rfl rfl (hb hby d1_12)
  have Zs := Nat.le_trans Zs (Nat.le_of_eq (Wr.size W3).symm)
  have K1 := Keep.wr K1 W3 (Or.inr (Nat.le_of_eq g_b1.symm))
  have B_b1 := B_b1'
  clear B_b1'
  have N3 := Fr.snoc X3 N2 f_b1
  refine Ends.to (T' := T3) (g' := (mkF m 13 #[.val (.long q1), .second, .val (.int p2)] [(.ref b1)])) (fun tt_ kk_ => st3 tt_ kk_) ?_
  refine Ends.to (T' := T3) (g' := (mkF m 14 #[.val (.long q1), .second, .val (.int p2)] [(.ref b1), (.ref b1)])) (fun tt_ kk_ => XS.dup X3.here hx rfl (hb hby d1_13) rfl rfl kk_) ?_
  refine Ends.to (T' := T3) (g' := (mkF m 15 #[.val (.long q1), .second, .val (.int p2)] [(.int (1 : Int32)), (.ref b1), (.ref b1)])) (fun tt_ kk_ => XS.iconst X3.here hx rfl (hb hby d1_14) kk_) ?_
  refine Ends.to (T' := T3) (g' := (mkF m 16 #[.val (.long q1), .second, .val (.int p2)] [(.long q1), (.int (1 : Int32)), (.ref b1), (.ref b1)])) (fun tt_ kk_ => XS.lloadN X3.here hx rfl (hb hby d1_15) rfl kk_) ?_
  refine Ends.to (T' := T3) (g' := (mkF m 17 #[.val (.long q1), .second, .val (.int p2)] [(.int p2), (.long q1), (.int (1 : Int32)), (.ref b1), (.ref b1)])) (fun tt_ kk_ => XS.iloadN X3.here hx rfl (hb hby d1_16) rfl kk_) ?_
  refine Ends.to (T' := T3) (g' := (mkF m 18 #[.val (.long q1), .second, .val (.int p2)] [(.int (1 : Int32)), (.int p2), (.long q1), (.int (1 : Int32)), (.ref b1), (.ref b1)])) (fun tt_ kk_ => XS.iconst X3.here hx rfl (hb hby d1_17) kk_) ?_
  obtain ⟨_, _, ⟨T4, L4, k4, n4⟩, -, X4, ⟨Lc4, hQ4, l4, y4, z4⟩, st4⟩ := Jvm.LawKit.callS X3 hx (y := (⟨"com/example/predicate/predicate/document/AttributeDeclarationNormalizePinLaw", "at", "(JII)B"⟩ : MethodName)) hown (mvT hZ (hw _ (List.mem_of_getElem? (i := 6) rfl))) (mvT hZ (hw _ (List.mem_of_getElem? (i := 7) rfl))) (mvT hZ (hw _ (List.mem_of_getElem? (i := 3) rfl))) (mvT hZ (hw _ (List.mem_of_getElem? (i := 8) rfl))) (by decide) (backOf (W := 3) (rm2 l Z a0 hw [] q1 p2 (1 : Int32) h3 n0 Zs) hZ (hw _ (List.mem_of_getElem? (i := 8) rfl)) (hw _ (List.mem_of_getElem? (i := 3) rfl)) (by decide) (by decide)) (g := (mkF m 18 #[.val (.long q1), .second, .val (.int p2)] [(.int (1 : Int32)), (.int p2), (.long q1), (.int (1 : Int32)), (.ref b1), (.ref b1)])) rfl (by rw [hml]; rfl) (argsL := [(.long q1), (.int p2), (.int (1 : Int32))]) (rest := [(.int (1 : Int32)), (.ref b1), (.ref b1)]) (lenOf pd_2 rfl) rfl (by show 2 * 0 + _ ≤ _; exact Nat.le_of_eq rfl) (hb hby d1_18) (fun _ _ => ⟨rfl, e3, (by decide : 1 + 0 ≤ _), (by decide : 8 + 0 ≤ _)⟩)
  dsimp only [Pt.U, Pt.locs, Pt.cells, Pt.slots] at X4 l4 y4 z4 st4 hQ4
  subst l4 y4 z4
  obtain ⟨rfl, N4q, e4q⟩ := hQ4
  have N4 := Fr.app N3 N4q
  refine Ends.to (T' := T4) (g' := (mkF m 21 #[.val (.long q1), .second, .val (.int p2)] [(.int (own_atb q1 p2 (1 : Int32))), (.int (1 : Int32)), (.ref b1), (.ref b1)])) (fun tt_ kk_ => st4 tt_ kk_) ?_
  obtain ⟨T5, h5, X5, e5, W5, B_b1', st5⟩ := BA.stB X4 hx hZ e4q B_b1 (j := (1 : Int32)) (i := 1) (by decide) rfl (by decide) (g := (mkF m 21 #[.val (.long q1), .second, .val (.int p2)] [(.int (own_atb q1 p2 (1 : Int32))), (.int (1 : Int32)), (.ref b1), (.ref b1)])) rfl rfl (hb hby d1_21)
  have Zs := Nat.le_trans Zs (Nat.le_of_eq (Wr.size W5).symm)
  have K1 := Keep.wr K1 W5 (Or.inr (Nat.le_of_eq g_b1.symm))
  have B_b1 := B_b1'
  clear B_b1'
  have N5 := Fr.snoc X5 N4 f_b1
  refine Ends.to (T' := T5) (g' := (mkF m 22 #[.val (.long q1), .second, .val (.int p2)] [(.ref b1)])) (fun tt_ kk_ => st5 tt_ kk_) ?_
  refine Ends.to (T' := T5) (g' := (mkF m 23 #[.val (.long q1), .second, .val (.int p2)] [(.ref b1), (.ref b1)])) (fun tt_ kk_ => XS.dup X5.here hx rfl (hb hby d1_22) rfl rfl kk_) ?_
  refine Ends.to (T' := T5) (g' := (mkF m 24 #[.val (.long q1), .second, .val (.int p2)] [(.int (2 : Int32)), (.ref b1), (.ref b1)])) (fun tt_ kk_ => XS.iconst X5.here hx rfl (hb hby d1_23) kk_) ?_
  refine Ends.to (T' := T5) (g' := (mkF m 25 #[.val (.long q1), .second, .val (.int p2)] [(.long q1), (.int (2 : Int32)), (.ref b1), (.ref b1)])) (fun tt_ kk_ => XS.lloadN X5.here hx rfl (hb hby d1_24) rfl kk_) ?_
  refine Ends.to (T' := T5) (g' := (mkF m 26 #[.val (.long q1), .second, .val (.int p2)] [(.int p2), (.long q1), (.int (2 : Int32)), (.ref b1), (.ref b1)])) (fun tt_ kk_ => XS.iloadN X5.here hx rfl (hb hby d1_25) rfl kk_) ?_
  refine Ends.to (T' := T5) (g' := (mkF m 27 #[.val (.long q1), .second, .val (.int p2)] [(.int (2 : Int32)), (.int p2), (.long q1), (.int (2 : Int32)), (.ref b1), (.ref b1)])) (fun tt_ kk_ => XS.iconst X5.here hx rfl (hb hby d1_26) kk_) ?_
  obtain ⟨_, _, ⟨T6, L6, k6, n6⟩, -, X6, ⟨Lc6, hQ6, l6, y6, z6⟩, st6⟩ := Jvm.LawKit.callS X5 hx (y := (⟨"com/example/predicate/predicate/document/AttributeDeclarationNormalizePinLaw", "at", "(JII)B"⟩ : MethodName)) hown (mvT hZ (hw _ (List.mem_of_getElem? (i := 6) rfl))) (mvT hZ (hw _ (List.mem_of_getElem? (i := 7) rfl))) (mvT hZ (hw _ (List.mem_of_getElem? (i := 3) rfl))) (mvT hZ (hw _ (List.mem_of_getElem? (i := 8) rfl))) (by decide) (backOf (W := 3) (rm2 l Z a0 hw [] q1 p2 (2 : Int32) h5 n0 Zs) hZ (hw _ (List.mem_of_getElem? (i := 8) rfl)) (hw _ (List.mem_of_getElem? (i := 3) rfl)) (by decide) (by decide)) (g := (mkF m 27 #[.val (.long q1), .second, .val (.int p2)] [(.int (2 : Int32)), (.int p2), (.long q1), (.int (2 : Int32)), (.ref b1), (.ref b1)])) rfl (by rw [hml]; rfl) (argsL := [(.long q1), (.int p2), (.int (2 : Int32))]) (rest := [(.int (2 : Int32)), (.ref b1), (.ref b1)]) (lenOf pd_2 rfl) rfl (by show 2 * 0 + _ ≤ _; exact Nat.le_of_eq rfl) (hb hby d1_27) (fun _ _ => ⟨rfl, e5, (by decide : 1 + 0 ≤ _), (by decide : 8 + 0 ≤ _)⟩)
  dsimp only [Pt.U, Pt.locs, Pt.cells, Pt.slots] at X6 l6 y6 z6 st6 hQ6
  subst l6 y6 z6
  obtain ⟨rfl, N6q, e6q⟩ := hQ6
  have N6 := Fr.app N5 N6q
  refine Ends.to (T' := T6) (g' := (mkF m 30 #[.val (.long q1), .second, .val (.int p2)] [(.int (own_atb q1 p2 (2 : Int32))), (.int (2 : Int32)), (.ref b1), (.ref b1)])) (fun tt_ kk_ => st6 tt_ kk_) ?_
  obtain ⟨T7, h7, X7, e7, W7, B_b1', st7⟩ := BA.stB X6 hx hZ e6q B_b1 (j := (2 : Int32)) (i := 2) (by decide) rfl (by decide) (g := (mkF m 30 #[.val (.long q1), .second, .val (.int p2)] [(.int (own_atb q1 p2 (2 : Int32))), (.int (2 : Int32)), (.ref b1), (.ref b1)])) rfl rfl (hb hby d1_30)
  have Zs := Nat.le_trans Zs (Nat.le_of_eq (Wr.size W7).symm)
  have K1 := Keep.wr K1 W7 (Or.inr (Nat.le_of_eq g_b1.symm))
  have B_b1 := B_b1'
  clear B_b1'
  have N7 := Fr.snoc X7 N6 f_b1
  refine Ends.to (T' := T7) (g' := (mkF m 31 #[.val (.long q1), .second, .val (.int p2)] [(.ref b1)])) (fun tt_ kk_ => st7 tt_ kk_) ?_
  refine Ends.to (T' := T7) (g' := (mkF m 32 #[.val (.long q1), .second, .val (.int p2)] [(.ref b1), (.ref b1)])) (fun tt_ kk_ => XS.dup X7.here hx rfl (hb hby d1_31) rfl rfl kk_) ?_
  refine Ends.to (T' := T7) (g' := (mkF m 33 #[.val (.long q1), .second, .val (.int p2)] [(.int (3 : Int32)), (.ref b1), (.ref b1)])) (fun tt_ kk_ => XS.iconst X7.here hx rfl (hb hby d1_32) kk_) ?_
  refine Ends.to (T' := T7) (g' := (mkF m 34 #[.val (.long q1), .second, .val (.int p2)] [(.long q1), (.int (3 : Int32)), (.ref b1), (.ref b1)])) (fun tt_ kk_ => XS.lloadN X7.here hx rfl (hb hby d1_33) rfl kk_) ?_
  refine Ends.to (T' := T7) (g' := (mkF m 35 #[.val (.long q1), .second, .val (.int p2)] [(.int p2), (.long q1), (.int (3 : Int32)), (.ref b1), (.ref b1)])) (fun tt_ kk_ => XS.iloadN X7.here hx rfl (hb hby d1_34) rfl kk_) ?_
  refine Ends.to (T' := T7) (g' := (mkF m 36 #[.val (.long q1), .second, .val (.int p2)] [(.int (3 : Int32)), (.int p2), (.long q1), (.int (3 : Int32)), (.ref b1), (.ref b1)])) (fun tt_ kk_ => XS.iconst X7.here hx rfl (hb hby d1_35) kk_) ?_
  obtain ⟨_, _, ⟨T8, L8, k8, n8⟩, -, X8, ⟨Lc8, hQ8, l8, y8, z8⟩, st8⟩ := Jvm.LawKit.callS X7 hx (y := (⟨"com/example/predicate/predicate/document/AttributeDeclarationNormalizePinLaw", "at", "(JII)B"⟩ : MethodName)) hown (mvT hZ (hw _ (List.mem_of_getElem? (i := 6) rfl))) (mvT hZ (hw _ (List.mem_of_getElem? (i := 7) rfl))) (mvT hZ (hw _ (List.mem_of_getElem? (i := 3) rfl))) (mvT hZ (hw _ (List.mem_of_getElem? (i := 8) rfl))) (by decide) (backOf (W := 3) (rm2 l Z a0 hw [] q1 p2 (3 : Int32) h7 n0 Zs) hZ (hw _ (List.mem_of_getElem? (i := 8) rfl)) (hw _ (List.mem_of_getElem? (i := 3) rfl)) (by decide) (by decide)) (g := (mkF m 36 #[.val (.long q1), .second, .val (.int p2)] [(.int (3 : Int32)), (.int p2), (.long q1), (.int (3 : Int32)), (.ref b1), (.ref b1)])) rfl (by rw [hml]; rfl) (argsL := [(.long q1), (.int p2), (.int (3 : Int32))]) (rest := [(.int (3 : Int32)), (.ref b1), (.ref b1)]) (lenOf pd_2 rfl) rfl (by show 2 * 0 + _ ≤ _; exact Nat.le_of_eq rfl) (hb hby d1_36) (fun _ _ => ⟨rfl, e7, (by decide : 1 + 0 ≤ _), (by decide : 8 + 0 ≤ _)⟩)
  dsimp only [Pt.U, Pt.locs, Pt.cells, Pt.slots] at X8 l8 y8 z8 st8 hQ8
  subst l8 y8 z8
  obtain ⟨rfl, N8q, e8q⟩ := hQ8
  have N8 := Fr.app N7 N8q
  refine Ends.to (T' := T8) (g' := (mkF m 39 #[.val (.long q1), .second, .val (.int p2)] [(.int (own_atb q1 p2 (3 : Int32))), (.int (3 : Int32)), (.ref b1), (.ref b1)])) (fun tt_ kk_ => st8 tt_ kk_) ?_
  obtain ⟨T9, h9, X9, e9, W9, B_b1', st9⟩ := BA.stB X8 hx hZ e8q B_b1 (j := (3 : Int32)) (i := 3) (by decide) rfl (by decide) (g := (mkF m 39 #[.val (.long q1), .second, .val (.int p2)] [(.int (own_atb q1 p2 (3 : Int32))), (.int (3 : Int32)), (.ref b1), (.ref b1)])) rfl rfl (hb hby d1_39)
  have Zs := Nat.le_trans Zs (Nat.le_of_eq (Wr.size W9).symm)
  have K1 := Keep.wr K1 W9 (Or.inr (Nat.le_of_eq g_b1.symm))
  have B_b1 := B_b1'
  clear B_b1'
  have N9 := Fr.snoc X9 N8 f_b1
  refine Ends.to (T' := T9) (g' := (mkF m 40 #[.val (.long q1), .second, .val (.int p2)] [(.ref b1)])) (fun tt_ kk_ => st9 tt_ kk_) ?_
  refine Ends.to (T' := T9) (g' := (mkF m 41 #[.val (.long q1), .second, .val (.int p2)] [(.ref b1), (.ref b1)])) (fun tt_ kk_ => XS.dup X9.here hx rfl (hb hby d1_40) rfl rfl kk_) ?_
  refine Ends.to (T' := T9) (g' := (mkF m 42 #[.val (.long q1), .second, .val (.int p2)] [(.int (4 : Int32)), (.ref b1), (.ref b1)])) (fun tt_ kk_ => XS.iconst X9.here hx rfl (hb hby d1_41) kk_) ?_
  refine Ends.to (T' := T9) (g' := (mkF m 43 #[.val (.long q1), .second, .val (.int p2)] [(.long q1), (.int (4 : Int32)), (.ref b1), (.ref b1)])) (fun tt_ kk_ => XS.lloadN X9.here hx rfl (hb hby d1_42) rfl kk_) ?_
  refine Ends.to (T' := T9) (g' := (mkF m 44 #[.val (.long q1), .second, .val (.int p2)] [(.int p2), (.long q1), (.int (4 : Int32)), (.ref b1), (.ref b1)])) (fun tt_ kk_ => XS.iloadN X9.here hx rfl (hb hby d1_43) rfl kk_) ?_
  refine Ends.to (T' := T9) (g' := (mkF m 45 #[.val (.long q1), .second, .val (.int p2)] [(.int (4 : Int32)), (.int p2), (.long q1), (.int (4 : Int32)), (.ref b1), (.ref b1)])) (fun tt_ kk_ => XS.iconst X9.here hx rfl (hb hby d1_44) kk_) ?_
  obtain ⟨_, _, ⟨T10, L10, k10, n10⟩, -, X10, ⟨Lc10, hQ10, l10, y10, z10⟩, st10⟩ := Jvm.LawKit.callS X9 hx (y := (⟨"com/example/predicate/predicate/document/AttributeDeclarationNormalizePinLaw", "at", "(JII)B"⟩ : MethodName)) hown (mvT hZ (hw _ (List.mem_of_getElem? (i := 6) rfl))) (mvT hZ (hw _ (List.mem_of_getElem? (i := 7) rfl))) (mvT hZ (hw _ (List.mem_of_getElem? (i := 3) rfl))) (mvT hZ (hw _ (List.mem_of_getElem? (i := 8) rfl))) (by decide) (backOf (W := 3) (rm2 l Z a0 hw [] q1 p2 (4 : Int32) h9 n0 Zs) hZ (hw _ (List.mem_of_getElem? (i := 8) rfl)) (hw _ (List.mem_of_getElem? (i := 3) rfl)) (by decide) (by decide)) (g := (mkF m 45 #[.val (.long q1), .second, .val (.int p2)] [(.int (4 : Int32)), (.int p2), (.long q1), (.int (4 : Int32)), (.ref b1), (.ref b1)])) rfl (by rw [hml]; rfl) (argsL := [(.long q1), (.int p2), (.int (4 : Int32))]) (rest := [(.int (4 : Int32)), (.ref b1), (.ref b1)]) (lenOf pd_2 rfl) rfl (by show 2 * 0 + _ ≤ _; exact Nat.le_of_eq rfl) (hb hby d1_45) (fun _ _ => ⟨rfl, e9, (by decide : 1 + 0 ≤ _), (by decide : 8 + 0 ≤ _)⟩)
  dsimp only [Pt.U, Pt.locs, Pt.cells, Pt.slots] at X10 l10 y10 z10 st10 hQ10
  subst l10 y10 z10
  obtain ⟨rfl, N10q, e10q⟩ := hQ10
  have N10 := Fr.app N9 N10q
  refine Ends.to (T' := T10) (g' := (mkF m 48 #[.val (.long q1), .second, .val (.int p2)] [(.int (own_atb q1 p2 (4 : Int32))), (.int (4 : Int32)), (.ref b1), (.ref b1)])) (fun tt_ kk_ => st10 tt_ kk_) ?_
  obtain ⟨T11, h11, X11, e11, W11, B_b1', st11⟩ := BA.stB X10 hx hZ e10q B_b1 (j := (4 : Int32)) (i := 4) (by decide) rfl (by decide) (g := (mkF m 48 #[.val (.long q1), .second, .val (.int p2)] [(.int (own_atb q1 p2 (4 : Int32))), (.int (4 : Int32)), (.ref b1), (.ref b1)])) rfl rfl (hb hby d1_48)
  have Zs := Nat.le_trans Zs (Nat.le_of_eq (Wr.size W11).symm)
  have K1 := Keep.wr K1 W11 (Or.inr (Nat.le_of_eq g_b1.symm))
  have B_b1 := B_b1'
  clear B_b1'
  have N11 := Fr.snoc X11 N10 f_b1
  refine Ends.to (T' := T11) (g' := (mkF m 49 #[.val (.long q1), .second, .val (.int p2)] [(.ref b1)])) (fun tt_ kk_ => st11 tt_ kk_) ?_
  refine Ends.to (T' := T11) (g' := (mkF m 50 #[.val (.long q1), .second, .val (.int p2)] [(.ref b1), (.ref b1)])) (fun tt_ kk_ => XS.dup X11.here hx rfl (hb hby d1_49) rfl rfl kk_) ?_
  refine Ends.to (T' := T11) (g' := (mkF m 51 #[.val (.long q1), .second, .val (.int p2)] [(.int (5 : Int32)), (.ref b1), (.ref b1)])) (fun tt_ kk_ => XS.iconst X11.here hx rfl (hb hby d1_50) kk_) ?_
  refine Ends.to (T' := T11) (g' := (mkF m 52 #[.val (.long q1), .second, .val (.int p2)] [(.long q1), (.int (5 : Int32)), (.ref b1), (.ref b1)])) (fun tt_ kk_ => XS.lloadN X11.here hx rfl (hb hby d1_51) rfl kk_) ?_
  refine Ends.to (T' := T11) (g' := (mkF m 53 #[.val (.long q1), .second, .val (.int p2)] [(.int p2), (.long q1), (.int (5 : Int32)), (.ref b1), (.ref b1)])) (fun tt_ kk_ => XS.iloadN X11.here hx rfl (hb hby d1_52) rfl kk_) ?_
  refine Ends.to (T' := T11) (g' := (mkF m 54 #[.val (.long q1), .second, .val (.int p2)] [(.int (5 : Int32)), (.int p2), (.long q1), (.int (5 : Int32)), (.ref b1), (.ref b1)])) (fun tt_ kk_ => XS.iconst X11.here hx rfl (hb hby d1_53) kk_) ?_
  obtain ⟨_, _, ⟨T12, L12, k12, n12⟩, -, X12, ⟨Lc12, hQ12, l12, y12, z12⟩, st12⟩ := Jvm.LawKit.callS X11 hx (y := (⟨"com/example/predicate/predicate/document/AttributeDeclarationNormalizePinLaw", "at", "(JII)B"⟩ : MethodName)) hown (mvT hZ (hw _ (List.mem_of_getElem? (i := 6) rfl))) (mvT hZ (hw _ (List.mem_of_getElem? (i := 7) rfl))) (mvT hZ (hw _ (List.mem_of_getElem? (i := 3) rfl))) (mvT hZ (hw _ (List.mem_of_getElem? (i := 8) rfl))) (by decide) (backOf (W := 3) (rm2 l Z a0 hw [] q1 p2 (5 : Int32) h11 n0 Zs) hZ (hw _ (List.mem_of_getElem? (i := 8) rfl)) (hw _ (List.mem_of_getElem? (i := 3) rfl)) (by decide) (by decide)) (g := (mkF m 54 #[.val (.long q1), .second, .val (.int p2)] [(.int (5 : Int32)), (.int p2), (.long q1), (.int (5 : Int32)), (.ref b1), (.ref b1)])) rfl (by rw [hml]; rfl) (argsL := [(.long q1), (.int p2), (.int (5 : Int32))]) (rest := [(.int (5 : Int32)), (.ref b1), (.ref b1)]) (lenOf pd_2 rfl) rfl (by show 2 * 0 + _ ≤ _; exact Nat.le_of_eq rfl) (hb hby d1_54) (fun _ _ => ⟨rfl, e11, (by decide : 1 + 0 ≤ _), (by decide : 8 + 0 ≤ _)⟩)
  dsimp only [Pt.U, Pt.locs, Pt.cells, Pt.slots] at X12 l12 y12 z12 st12 hQ12
  subst l12 y12 z12
  obtain ⟨rfl, N12q, e12q⟩ := hQ12
  have N12 := Fr.app N11 N12q
  refine Ends.to (T' := T12) (g' := (mkF m 57 #[.val (.long q1), .second, .val (.int p2)] [(.int (own_atb q1 p2 (5 : Int32))), (.int (5 : Int32)), (.ref b1), (.ref b1)])) (fun tt_ kk_ => st12 tt_ kk_) ?_
  obtain ⟨T13, h13, X13, e13, W13, B_b1', st13⟩ := BA.stB X12 hx hZ e12q B_b1 (j := (5 : Int32)) (i := 5) (by decide) rfl (by decide) (g := (mkF m 57 #[.val (.long q1), .second, .val (.int p2)] [(.int (own_atb q1 p2 (5 : Int32))), (.int (5 : Int32)), (.ref b1), (.ref b1)])) rfl rfl (hb hby d1_57)
  have Zs := Nat.le_trans Zs (Nat.le_of_eq (Wr.size W13).symm)
  have K1 := Keep.wr K1 W13 (Or.inr (Nat.le_of_eq g_b1.symm))
  have B_b1 := B_b1'
  clear B_b1'
  have N13 := Fr.snoc X13 N12 f_b1
  refine Ends.to (T' := T13) (g' := (mkF m 58 #[.val (.long q1), .second, .val (.int p2)] [(.ref b1)])) (fun tt_ kk_ => st13 tt_ kk_) ?_
  refine Ends.to (T' := T13) (g' := (mkF m 59 #[.val (.long q1), .second, .val (.int p2)] [(.ref b1), (.ref b1)])) (fun tt_ kk_ => XS.dup X13.here hx rfl (hb hby d1_58) rfl rfl kk_) ?_
  refine Ends.to (T' := T13) (g' := (mkF m 61 #[.val (.long q1), .second, .val (.int p2)] [(.int (6 : Int32)), (.ref b1), (.ref b1)])) (fun tt_ kk_ => XS.bipush X13.here hx rfl (hb hby d1_59) kk_) ?_
  refine Ends.to (T' := T13) (g' := (mkF m 62 #[.val (.long q1), .second, .val (.int p2)] [(.long q1), (.int (6 : Int32)), (.ref b1), (.ref b1)])) (fun tt_ kk_ => XS.lloadN X13.here hx rfl (hb hby d1_61) rfl kk_) ?_
  refine Ends.to (T' := T13) (g' := (mkF m 63 #[.val (.long q1), .second, .val (.int p2)] [(.int p2), (.long q1), (.int (6 : Int32)), (.ref b1), (.ref b1)])) (fun tt_ kk_ => XS.iloadN X13.here hx rfl (hb hby d1_62) rfl kk_) ?_
  refine Ends.to (T' := T13) (g' := (mkF m 65 #[.val (.long q1), .second, .val (.int p2)] [(.int (6 : Int32)), (.int p2), (.long q1), (.int (6 : Int32)), (.ref b1), (.ref b1)])) (fun tt_ kk_ => XS.bipush X13.here hx rfl (hb hby d1_63) kk_) ?_
  obtain ⟨_, _, ⟨T14, L14, k14, n14⟩, -, X14, ⟨Lc14, hQ14, l14, y14, z14⟩, st14⟩ := Jvm.LawKit.callS X13 hx (y := (⟨"com/example/predicate/predicate/document/AttributeDeclarationNormalizePinLaw", "at", "(JII)B"⟩ : MethodName)) hown (mvT hZ (hw _ (List.mem_of_getElem? (i := 6) rfl))) (mvT hZ (hw _ (List.mem_of_getElem? (i := 7) rfl))) (mvT hZ (hw _ (List.mem_of_getElem? (i := 3) rfl))) (mvT hZ (hw _ (List.mem_of_getElem? (i := 8) rfl))) (by decide) (backOf (W := 3) (rm2 l Z a0 hw [] q1 p2 (6 : Int32) h13 n0 Zs) hZ (hw _ (List.mem_of_getElem? (i := 8) rfl)) (hw _ (List.mem_of_getElem? (i := 3) rfl)) (by decide) (by decide)) (g := (mkF m 65 #[.val (.long q1), .second, .val (.int p2)] [(.int (6 : Int32)), (.int p2), (.long q1), (.int (6 : Int32)), (.ref b1), (.ref b1)])) rfl (by rw [hml]; rfl) (argsL := [(.long q1), (.int p2), (.int (6 : Int32))]) (rest := [(.int (6 : Int32)), (.ref b1), (.ref b1)]) (lenOf pd_2 rfl) rfl (by show 2 * 0 + _ ≤ _; exact Nat.le_of_eq rfl) (hb hby d1_65) (fun _ _ => ⟨rfl, e13, (by decide : 1 + 0 ≤ _), (by decide : 8 + 0 ≤ _)⟩)
  dsimp only [Pt.U, Pt.locs, Pt.cells, Pt.slots] at X14 l14 y14 z14 st14 hQ14
  subst l14 y14 z14
  obtain ⟨rfl, N14q, e14q⟩ := hQ14
  have N14 := Fr.app N13 N14q
  refine Ends.to (T' := T14) (g' := (mkF m 68 #[.val (.long q1), .second, .val (.int p2)] [(.int (own_atb q1 p2 (6 : Int32))), (.int (6 : Int32)), (.ref b1), (.ref b1)])) (fun tt_ kk_ => st14 tt_ kk_) ?_
  obtain ⟨T15, h15, X15, e15, W15, B_b1', st15⟩ := BA.stB X14 hx hZ e14q B_b1 (j := (6 : Int32)) (i := 6) (by decide) rfl (by decide) (g := (mkF m 68 #[.val (.long q1), .second, .val (.int p2)] [(.int (own_atb q1 p2 (6 : Int32))), (.int (6 : Int32)), (.ref b1), (.ref b1)])) rfl rfl (hb hby d1_68)
  have Zs := Nat.le_trans Zs (Nat.le_of_eq (Wr.size W15).symm)
  have K1 := Keep.wr K1 W15 (Or.inr (Nat.le_of_eq g_b1.symm))
  have B_b1 := B_b1'
  clear B_b1'
  have N15 := Fr.snoc X15 N14 f_b1
  refine Ends.to (T' := T15) (g' := (mkF m 69 #[.val (.long q1), .second, .val (.int p2)] [(.ref b1)])) (fun tt_ kk_ => st15 tt_ kk_) ?_
  refine Ends.to (T' := T15) (g' := (mkF m 70 #[.val (.long q1), .second, .val (.int p2)] [(.ref b1), (.ref b1)])) (fun tt_ kk_ => XS.dup X15.here hx rfl (hb hby d1_69) rfl rfl kk_) ?_
  refine Ends.to (T' := T15) (g' := (mkF m 72 #[.val (.long q1), .second, .val (.int p2)] [(.int (7 : Int32)), (.ref b1), (.ref b1)])) (fun tt_ kk_ => XS.bipush X15.here hx rfl (hb hby d1_70) kk_) ?_
  refine Ends.to (T' := T15) (g' := (mkF m 73 #[.val (.long q1), .second, .val (.int p2)] [(.long q1), (.int (7 : Int32)), (.ref b1), (.ref b1)])) (fun tt_ kk_ => XS.lloadN X15.here hx rfl (hb hby d1_72) rfl kk_) ?_
  refine Ends.to (T' := T15) (g' := (mkF m 74 #[.val (.long q1), .second, .val (.int p2)] [(.int p2), (.long q1), (.int (7 : Int32)), (.ref b1), (.ref b1)])) (fun tt_ kk_ => XS.iloadN X15.here hx rfl (hb hby d1_73) rfl kk_) ?_
  refine Ends.to (T' := T15) (g' := (mkF m 76 #[.val (.long q1), .second, .val (.int p2)] [(.int (7 : Int32)), (.int p2), (.long q1), (.int (7 : Int32)), (.ref b1), (.ref b1)])) (fun tt_ kk_ => XS.bipush X15.here hx rfl (hb hby d1_74) kk_) ?_
  obtain ⟨_, _, ⟨T16, L16, k16, n16⟩, -, X16, ⟨Lc16, hQ16, l16, y16, z16⟩, st16⟩ := Jvm.LawKit.callS X15 hx (y := (⟨"com/example/predicate/predicate/document/AttributeDeclarationNormalizePinLaw", "at", "(JII)B"⟩ : MethodName)) hown (mvT hZ (hw _ (List.mem_of_getElem? (i := 6) rfl))) (mvT hZ (hw _ (List.mem_of_getElem? (i := 7) rfl))) (mvT hZ (hw _ (List.mem_of_getElem? (i := 3) rfl))) (mvT hZ (hw _ (List.mem_of_getElem? (i := 8) rfl))) (by decide) (backOf (W := 3) (rm2 l Z a0 hw [] q1 p2 (7 : Int32) h15 n0 Zs) hZ (hw _ (List.mem_of_getElem? (i := 8) rfl)) (hw _ (List.mem_of_getElem? (i := 3) rfl)) (by decide) (by decide)) (g := (mkF m 76 #[.val (.long q1), .second, .val (.int p2)] [(.int (7 : Int32)), (.int p2), (.long q1), (.int (7 : Int32)), (.ref b1), (.ref b1)])) rfl (by rw [hml]; rfl) (argsL := [(.long q1), (.int p2), (.int (7 : Int32))]) (rest := [(.int (7 : Int32)), (.ref b1), (.ref b1)]) (lenOf pd_2 rfl) rfl (by show 2 * 0 + _ ≤ _; exact Nat.le_of_eq rfl) (hb hby d1_76) (fun _ _ => ⟨rfl, e15, (by decide : 1 + 0 ≤ _), (by decide : 8 + 0 ≤ _)⟩)
  dsimp only [Pt.U, Pt.locs, Pt.cells, Pt.slots] at X16 l16 y16 z16 st16 hQ16
  subst l16 y16 z16
  obtain ⟨rfl, N16q, e16q⟩ := hQ16
  have N16 := Fr.app N15 N16q
  refine Ends.to (T' := T16) (g' := (mkF m 79 #[.val (.long q1), .second, .val (.int p2)] [(.int (own_atb q1 p2 (7 : Int32))), (.int (7 : Int32)), (.ref b1), (.ref b1)])) (fun tt_ kk_ => st16 tt_ kk_) ?_
  obtain ⟨T17, h17, X17, e17, W17, B_b1', st17⟩ := BA.stB X16 hx hZ e16q B_b1 (j := (7 : Int32)) (i := 7) (by decide) rfl (by decide) (g := (mkF m 79 #[.val (.long q1), .second, .val (.int p2)] [(.int (own_atb q1 p2 (7 : Int32))), (.int (7 : Int32)), (.ref b1), (.ref b1)])) rfl rfl (hb hby d1_79)
  have Zs := Nat.le_trans Zs (Nat.le_of_eq (Wr.size W17).symm)
  have K1 := Keep.wr K1 W17 (Or.inr (Nat.le_of_eq g_b1.symm))
  have B_b1 := B_b1'
  clear B_b1'
  have N17 := Fr.snoc X17 N16 f_b1
  refine Ends.to (T' := T17) (g' := (mkF m 80 #[.val (.long q1), .second, .val (.int p2)] [(.ref b1)])) (fun tt_ kk_ => st17 tt_ kk_) ?_
  exact Ends.retA X17 hx hret (hb hby d1_80) hlk (by decide) (by decide) ⟨congrArg (fun z => some (Value.ref z)) g_b1, N17, by rw [e17]; exact ⟨K1, g_b1 ▸ B_b1⟩⟩
set_option maxRecDepth 65536 in
set_option maxHeartbeats 40000000 in
def Q_rm3z (Z : State) (a1 : Addr) (s0 n : Nat) (h0 : Heap) (n0 : Nat) : Option Value → Heap → List Loc → Prop := fun v h L => v = some (.int (Int32.ofNat n)) ∧ Fr n0 L ∧ h = h0
set_option maxRecDepth 65536 in
set_option maxHeartbeats 40000000 in
theorem rm3z (l : Launch) (Z : State) (a0 : Array Value) (hw : ∀ d ∈ tables_1, d.before a0 Z = true) (ws : List Jvm.Cond) (a1 : Addr) (s0 n : Nat) (h0 : Heap) (n0 : Nat) (Z0 : n0 ≤ h0.size) :
    Pays l (⟨"com/example/predicate/predicate/document/AttributeDeclaration", "normalize", "([BIIZ)I"⟩ : MethodName) prog_5_method_2_code 7 (some .int) ws ({ frames := 0, cells := 0, slots := 0, locals := 0 } : Room) #[(.ref a1), (.int (Int32.ofNat s0)), (.int (Int32.ofNat n)), (.int (0 : Int32))] Z h0 (Q_rm3z Z a1 s0 n h0 n0) := by
  refine Pays.of (plainFor_of_name pn_3) ?_
  intro p e s m below meth c s₁ hx hby hml hown hnm hret hlk hZ X0 e0
  have hown : s.vm.findClass "com/example/predicate/predicate/document/AttributeDeclaration" = some m.cls := hown
  have hnm : meth.name = "normalize" := hnm
  have hml : c.maxLocals = 7 := hml
  show Ends p e below s _ _ (fun v h L => v = some (.int (Int32.ofNat n)) ∧ Fr n0 L ∧ h = h0) s₁ _
  refine Ends.cast (ef_3 m a1 (Int32.ofNat s0) (Int32.ofNat n) (0 : Int32)) ?_
  have N0 := Fr.nil n0
  refine Ends.to (T' := s₁) (g' := (mkF m 1 #[.val (.ref a1), .val (.int (Int32.ofNat s0)), .val (.int (Int32.ofNat n)), .val (.int (0 : Int32)), .unset, .unset, .unset] [(.int (Int32.ofNat n))])) (fun tt_ kk_ => XS.iloadN X0.here hx rfl (hb hby d3_0) rfl kk_) ?_
  refine Ends.to (T' := s₁) (g' := (mkF m 3 #[.val (.ref a1), .val (.int (Int32.ofNat s0)), .val (.int (Int32.ofNat n)), .val (.int (0 : Int32)), .val (.int (Int32.ofNat n)), .unset, .unset] [])) (fun tt_ kk_ => XS.istore X0.here hx rfl (hb hby d3_1) rfl (l' := #[.val (.ref a1), .val (.int (Int32.ofNat s0)), .val (.int (Int32.ofNat n)), .val (.int (0 : Int32)), .val (.int (Int32.ofNat n)), .unset, .unset]) rfl kk_) ?_
  refine Ends.to (T' := s₁) (g' := (mkF m 4 #[.val (.ref a1), .val (.int (Int32.ofNat s0)), .val (.int (Int32.ofNat n)), .val (.int (0 : Int32)), .val (.int (Int32.ofNat n)), .unset, .unset] [(.int (0 : Int32))])) (fun tt_ kk_ => XS.iloadN X0.here hx rfl (hb hby d3_3) rfl kk_) ?_
  refine Ends.to (T' := s₁) (g' := (mkF m 102 #[.val (.ref a1), .val (.int (Int32.ofNat s0)), .val (.int (Int32.ofNat n)), .val (.int (0 : Int32)), .val (.int (Int32.ofNat n)), .unset, .unset] [])) (fun tt_ kk_ => XS.ifYes X0.here hx rfl (pc0 := 4) (pc' := 102) rfl (hb hby d3_4) rfl ((if0 _ _).trans (teq rfl).1) (by decide) (by decide) kk_) ?_
  refine Ends.to (T' := s₁) (g' := (mkF m 104 #[.val (.ref a1), .val (.int (Int32.ofNat s0)), .val (.int (Int32.ofNat n)), .val (.int (0 : Int32)), .val (.int (Int32.ofNat n)), .unset, .unset] [(.int (Int32.ofNat n))])) (fun tt_ kk_ => XS.iload X0.here hx rfl (hb hby d3_102) rfl kk_) ?_
  exact Ends.retI X0 hx hret (hb hby d3_104) hlk (by decide) (by decide) ⟨rfl, N0, e0⟩
def own_nz (s : Nat) : Nat → Nat → Nat → (Nat → Int32) → Nat × (Nat → Int32)
  | 0, _, r, f => (r, f)
  | k + 1, i, r, f => if f (s + i) = 32 ∧ (r = 0 ∨ f (s + i - 1) = 32) then own_nz s k (i + 1) r f else own_nz s k (i + 1) (r + 1) (upd f (s + r) (f (s + i)).toInt8.toInt32)
def own_fin (s : Nat) (x : Nat × (Nat → Int32)) : Nat := if 0 < x.1 ∧ x.2 (s + x.1 - 1) = 32 then x.1 - 1 else x.1
set_option maxRecDepth 65536 in
set_option maxHeartbeats 40000000 in
def Q_rm3 (Z : State) (a1 : Addr) (s0 n : Nat) (f : Nat → Int32) (h0 : Heap) (n0 : Nat) : Option Value → Heap → List Loc → Prop := fun v h L => v = some (.int (Int32.ofNat (own_fin s0 (own_nz s0 n 0 0 f)))) ∧ Fr n0 L ∧ Keep h0 h [a1] ∧ BB Z h a1 8 (own_nz s0 n 0 0 f).2
set_option maxRecDepth 65536 in
set_option maxHeartbeats 40000000 in
theorem rm3 (l : Launch) (Z : State) (a0 : Array Value) (hw : ∀ d ∈ tables_1, d.before a0 Z = true) (ws : List Jvm.Cond) (a1 : Addr) (s0 n : Nat) (f : Nat → Int32) (h0 : Heap) (n0 : Nat) (Z0 : n0 ≤ h0.size) (hn : s0 + n ≤ 8) (B1 : BB Z h0 a1 8 f) (g1 : n0 ≤ a1) :
    Pays l (⟨"com/example/predicate/predicate/document/AttributeDeclaration", "normalize", "([BIIZ)I"⟩ : MethodName) prog_5_method_2_code 7 (some .int) ws ({ frames := 0, cells := 0, slots := 0, locals := 0 } : Room) #[(.ref a1), (.int (Int32.ofNat s0)), (.int (Int32.ofNat n)), (.int (1 : Int32))] Z h0 (Q_rm3 Z a1 s0 n f h0 n0) := by
  refine Pays.of (plainFor_of_name pn_3) ?_
  intro p e s m below meth c s₁ hx hby hml hown hnm hret hlk hZ X0 e0
  have hown : s.vm.findClass "com/example/predicate/predicate/document/AttributeDeclaration" = some m.cls := hown
  have hnm : meth.name = "normalize" := hnm
  have hml : c.maxLocals = 7 := hml
  show Ends p e below s _ _ (fun v h L => v = some (.int (Int32.ofNat (own_fin s0 (own_nz s0 n 0 0 f)))) ∧ Fr n0 L ∧ Keep h0 h [a1] ∧ BB Z h a1 8 (own_nz s0 n 0 0 f).2) s₁ _
  refine Ends.cast (ef_3 m a1 (Int32.ofNat s0) (Int32.ofNat n) (1 : Int32)) ?_
  have N0 := Fr.nil n0
  have loop : ∀ (k i r : Nat) (f : Nat → Int32) (sl : Slot) (T : State) (locs : List Loc) (h : Heap), i + k = n → r ≤ i → One sl → Stand p l e ({ frames := 0, cells := 0, slots := 0, locals := 0 } : Room) s m #[(.ref a1), (.int (Int32.ofNat s0)), (.int (Int32.ofNat n)), (.int (1 : Int32))] below meth c T locs 0 0 → T.heap = h → Fr n0 locs → Keep h0 h [a1] → BB Z h a1 8 f →
      ∀ {Q : Option Value → Heap → List Loc → Prop}, (∀ h L, Fr n0 L → Keep h0 h [a1] → BB Z h a1 8 (own_nz s0 k i r f).2 → Q (some (.int (Int32.ofNat (own_fin s0 (own_nz s0 k i r f))))) h L) → Ends p e below s 0 0 Q T (mkF m 13 #[.val (.ref a1), .val (.int (Int32.ofNat s0)), .val (.int (Int32.ofNat n)), .val (.int (1 : Int32)), .val (.int (Int32.ofNat r)), .val (.int (Int32.ofNat i)), sl] []) := by
    intro k
    induction k with
    | zero =>
      intro i r f sl T locs h hi hr hsl X eT N K B Q hQ
      refine Ends.to (T' := T) (g' := (mkF m 15 #[.val (.ref a1), .val (.int (Int32.ofNat s0)), .val (.int (Int32.ofNat n)), .val (.int (1 : Int32)), .val (.int (Int32.ofNat r)), .val (.int (Int32.ofNat i)), sl] [(.int (Int32.ofNat i))])) (fun tt_ kk_ => XS.iload X.here hx rfl (hb hby d3_13) rfl kk_) ?_
      refine Ends.to (T' := T) (g' := (mkF m 16 #[.val (.ref a1), .val (.int (Int32.ofNat s0)), .val (.int (Int32.ofNat n)), .val (.int (1 : Int32)), .val (.int (Int32.ofNat r)), .val (.int (Int32.ofNat i)), sl] [(.int (Int32.ofNat n)), (.int (Int32.ofNat i))])) (fun tt_ kk_ => XS.iloadN X.here hx rfl (hb hby d3_15) rfl kk_) ?_
      refine Ends.to (T' := T) (g' := (mkF m 81 #[.val (.ref a1), .val (.int (Int32.ofNat s0)), .val (.int (Int32.ofNat n)), .val (.int (1 : Int32)), .val (.int (Int32.ofNat r)), .val (.int (Int32.ofNat i)), sl] [])) (fun tt_ kk_ => XS.icmpYes X.here hx rfl (pc0 := 16) (pc' := 81) rfl (hb hby d3_16) rfl (flt (fun z => by have := (own_cmp (by omega) (by omega)).mp z; omega)).2.1 (by decide) (by decide) kk_) ?_
      refine Ends.to (T' := T) (g' := (mkF m 83 #[.val (.ref a1), .val (.int (Int32.ofNat s0)), .val (.int (Int32.ofNat n)), .val (.int (1 : Int32)), .val (.int (Int32.ofNat r)), .val (.int (Int32.ofNat i)), sl] [(.int (Int32.ofNat r))])) (fun tt_ kk_ => XS.iload X.here hx rfl (hb hby d3_81) rfl kk_) ?_
      by_cases hc83 : (0 : Int32) < (Int32.ofNat r)
      · refine Ends.to (T' := T) (g' := (mkF m 86 #[.val (.ref a1), .val (.int (Int32.ofNat s0)), .val (.int (Int32.ofNat n)), .val (.int (1 : Int32)), .val (.int (Int32.ofNat r)), .val (.int (Int32.ofNat i)), sl] [])) (fun tt_ kk_ => XS.ifNo X.here hx rfl (hb hby d3_83) rfl ((if0 _ _).trans (tlt hc83).2.2.2) kk_) ?_
        have r83 : 0 < r := (own_pos (by omega)).mp hc83
        refine Ends.to (T' := T) (g' := (mkF m 87 #[.val (.ref a1), .val (.int (Int32.ofNat s0)), .val (.int (Int32.ofNat n)), .val (.int (1 : Int32)), .val (.int (Int32.ofNat r)), .val (.int (Int32.ofNat i)), sl] [(.ref a1)])) (fun tt_ kk_ => XS.aloadN X.here hx rfl (hb hby d3_86) rfl rfl kk_) ?_
        refine Ends.to (T' := T) (g' := (mkF m 88 #[.val (.ref a1), .val (.int (Int32.ofNat s0)), .val (.int (Int32.ofNat n)), .val (.int (1 : Int32)), .val (.int (Int32.ofNat r)), .val (.int (Int32.ofNat i)), sl] [(.int (Int32.ofNat s0)), (.ref a1)])) (fun tt_ kk_ => XS.iloadN X.here hx rfl (hb hby d3_87) rfl kk_) ?_
        refine Ends.to (T' := T) (g' := (mkF m 90 #[.val (.ref a1), .val (.int (Int32.ofNat s0)), .val (.int (Int32.ofNat n)), .val (.int (1 : Int32)), .val (.int (Int32.ofNat r)), .val (.int (Int32.ofNat i)), sl] [(.int (Int32.ofNat r)), (.int (Int32.ofNat s0)), (.ref a1)])) (fun tt_ kk_ => XS.iload X.here hx rfl (hb hby d3_88) rfl kk_) ?_
        refine Ends.to (T' := T) (g' := (mkF m 91 #[.val (.ref a1), .val (.int (Int32.ofNat s0)), .val (.int (Int32.ofNat n)), .val (.int (1 : Int32)), .val (.int (Int32.ofNat r)), .val (.int (Int32.ofNat i)), sl] [(.int ((Int32.ofNat s0) + (Int32.ofNat r))), (.ref a1)])) (fun tt_ kk_ => XS.iadd X.here hx rfl (hb hby d3_90) rfl kk_) ?_
        refine Ends.to (T' := T) (g' := (mkF m 92 #[.val (.ref a1), .val (.int (Int32.ofNat s0)), .val (.int (Int32.ofNat n)), .val (.int (1 : Int32)), .val (.int (Int32.ofNat r)), .val (.int (Int32.ofNat i)), sl] [(.int (1 : Int32)), (.int ((Int32.ofNat s0) + (Int32.ofNat r))), (.ref a1)])) (fun tt_ kk_ => XS.iconst X.here hx rfl (hb hby d3_91) kk_) ?_
        refine Ends.to (T' := T) (g' := (mkF m 93 #[.val (.ref a1), .val (.int (Int32.ofNat s0)), .val (.int (Int32.ofNat n)), .val (.int (1 : Int32)), .val (.int (Int32.ofNat r)), .val (.int (Int32.ofNat i)), sl] [(.int (((Int32.ofNat s0) + (Int32.ofNat r)) - (1 : Int32))), (.ref a1)])) (fun tt_ kk_ => XS.isub X.here hx rfl (hb hby d3_92) rfl kk_) ?_
        refine Ends.to (T' := T) (g' := (mkF m 94 #[.val (.ref a1), .val (.int (Int32.ofNat s0)), .val (.int (Int32.ofNat n)), .val (.int (1 : Int32)), .val (.int (Int32.ofNat r)), .val (.int (Int32.ofNat i)), sl] [(.int (f (s0 + r - 1)))])) (fun tt_ kk_ => BA.ldB X hx hZ eT B (j := (((Int32.ofNat s0) + (Int32.ofNat r)) - (1 : Int32))) (i := (s0 + r - 1)) (by rw [← Int32.ofNat_add, own_sub1 (n := s0 + r) (by omega)]; exact own_nneg (by omega)) (by rw [← Int32.ofNat_add, own_sub1 (n := s0 + r) (by omega)]; exact own_clamp (by omega)) (by omega) (g := (mkF m 93 #[.val (.ref a1), .val (.int (Int32.ofNat s0)), .val (.int (Int32.ofNat n)), .val (.int (1 : Int32)), .val (.int (Int32.ofNat r)), .val (.int (Int32.ofNat i)), sl] [(.int (((Int32.ofNat s0) + (Int32.ofNat r)) - (1 : Int32))), (.ref a1)])) rfl rfl (hb hby d3_93) tt_ kk_) ?_
        refine Ends.to (T' := T) (g' := (mkF m 96 #[.val (.ref a1), .val (.int (Int32.ofNat s0)), .val (.int (Int32.ofNat n)), .val (.int (1 : Int32)), .val (.int (Int32.ofNat r)), .val (.int (Int32.ofNat i)), sl] [(.int (32 : Int32)), (.int (f (s0 + r - 1)))])) (fun tt_ kk_ => XS.bipush X.here hx rfl (hb hby d3_94) kk_) ?_
        by_cases hc96 : (f (s0 + r - 1)) = (32 : Int32)
        · refine Ends.to (T' := T) (g' := (mkF m 99 #[.val (.ref a1), .val (.int (Int32.ofNat s0)), .val (.int (Int32.ofNat n)), .val (.int (1 : Int32)), .val (.int (Int32.ofNat r)), .val (.int (Int32.ofNat i)), sl] [])) (fun tt_ kk_ => XS.icmpNo X.here hx rfl (hb hby d3_96) rfl (teq hc96).2 kk_) ?_
          refine Ends.to (T' := T) (g' := (mkF m 102 #[.val (.ref a1), .val (.int (Int32.ofNat s0)), .val (.int (Int32.ofNat n)), .val (.int (1 : Int32)), .val (.int ((Int32.ofNat r) + (-1 : Int32))), .val (.int (Int32.ofNat i)), sl] [])) (fun tt_ kk_ => XS.iinc X.here hx rfl (hb hby d3_99) rfl (l' := #[.val (.ref a1), .val (.int (Int32.ofNat s0)), .val (.int (Int32.ofNat n)), .val (.int (1 : Int32)), .val (.int ((Int32.ofNat r) + (-1 : Int32))), .val (.int (Int32.ofNat i)), sl]) rfl kk_) ?_
          rw [own_dec (n := r) (by omega)]
          refine Ends.to (T' := T) (g' := (mkF m 104 #[.val (.ref a1), .val (.int (Int32.ofNat s0)), .val (.int (Int32.ofNat n)), .val (.int (1 : Int32)), .val (.int (Int32.ofNat (r - 1))), .val (.int (Int32.ofNat i)), sl] [(.int (Int32.ofNat (r - 1)))])) (fun tt_ kk_ => XS.iload X.here hx rfl (hb hby d3_102) rfl kk_) ?_
          refine Ends.retI X hx hret (hb hby d3_104) hlk (by decide) (by decide) ?_
          have q := hQ T.heap _ N (by rw [eT]; exact K) (by rw [eT]; exact B)
          have ef : own_fin s0 (r, f) = r - 1 := if_pos ⟨r83, hc96⟩
          simp only [own_nz] at q
          rw [ef] at q
          exact q
        · refine Ends.to (T' := T) (g' := (mkF m 102 #[.val (.ref a1), .val (.int (Int32.ofNat s0)), .val (.int (Int32.ofNat n)), .val (.int (1 : Int32)), .val (.int (Int32.ofNat r)), .val (.int (Int32.ofNat i)), sl] [])) (fun tt_ kk_ => XS.icmpYes X.here hx rfl (pc0 := 96) (pc' := 102) rfl (hb hby d3_96) rfl (feq hc96).2 (by decide) (by decide) kk_) ?_
          refine Ends.to (T' := T) (g' := (mkF m 104 #[.val (.ref a1), .val (.int (Int32.ofNat s0)), .val (.int (Int32.ofNat n)), .val (.int (1 : Int32)), .val (.int (Int32.ofNat r)), .val (.int (Int32.ofNat i)), sl] [(.int (Int32.ofNat r))])) (fun tt_ kk_ => XS.iload X.here hx rfl (hb hby d3_102) rfl kk_) ?_
          refine Ends.retI X hx hret (hb hby d3_104) hlk (by decide) (by decide) ?_
          have q := hQ T.heap _ N (by rw [eT]; exact K) (by rw [eT]; exact B)
          have ef : own_fin s0 (r, f) = r := if_neg (fun z => hc96 z.2)
          simp only [own_nz] at q
          rw [ef] at q
          exact q
      · refine Ends.to (T' := T) (g' := (mkF m 102 #[.val (.ref a1), .val (.int (Int32.ofNat s0)), .val (.int (Int32.ofNat n)), .val (.int (1 : Int32)), .val (.int (Int32.ofNat r)), .val (.int (Int32.ofNat i)), sl] [])) (fun tt_ kk_ => XS.ifYes X.here hx rfl (pc0 := 83) (pc' := 102) rfl (hb hby d3_83) rfl ((if0 _ _).trans (flt hc83).2.2.2) (by decide) (by decide) kk_) ?_
        have r83 : r = 0 := Nat.eq_zero_of_not_pos (fun z => hc83 ((own_pos (by omega)).mpr z))
        refine Ends.to (T' := T) (g' := (mkF m 104 #[.val (.ref a1), .val (.int (Int32.ofNat s0)), .val (.int (Int32.ofNat n)), .val (.int (1 : Int32)), .val (.int (Int32.ofNat r)), .val (.int (Int32.ofNat i)), sl] [(.int (Int32.ofNat r))])) (fun tt_ kk_ => XS.iload X.here hx rfl (hb hby d3_102) rfl kk_) ?_
        refine Ends.retI X hx hret (hb hby d3_104) hlk (by decide) (by decide) ?_
        have q := hQ T.heap _ N (by rw [eT]; exact K) (by rw [eT]; exact B)
        have ef : own_fin s0 (r, f) = r := if_neg (fun z => by have := z.1; simp only at this; omega)
        simp only [own_nz] at q
        rw [ef] at q
        exact q
    | succ k ih =>
      intro i r f sl T locs h hi hr hsl X eT N K B Q hQ
      refine Ends.to (T' := T) (g' := (mkF m 15 #[.val (.ref a1), .val (.int (Int32.ofNat s0)), .val (.int (Int32.ofNat n)), .val (.int (1 : Int32)), .val (.int (Int32.ofNat r)), .val (.int (Int32.ofNat i)), sl] [(.int (Int32.ofNat i))])) (fun tt_ kk_ => XS.iload X.here hx rfl (hb hby d3_13) rfl kk_) ?_
      refine Ends.to (T' := T) (g' := (mkF m 16 #[.val (.ref a1), .val (.int (Int32.ofNat s0)), .val (.int (Int32.ofNat n)), .val (.int (1 : Int32)), .val (.int (Int32.ofNat r)), .val (.int (Int32.ofNat i)), sl] [(.int (Int32.ofNat n)), (.int (Int32.ofNat i))])) (fun tt_ kk_ => XS.iloadN X.here hx rfl (hb hby d3_15) rfl kk_) ?_
      refine Ends.to (T' := T) (g' := (mkF m 19 #[.val (.ref a1), .val (.int (Int32.ofNat s0)), .val (.int (Int32.ofNat n)), .val (.int (1 : Int32)), .val (.int (Int32.ofNat r)), .val (.int (Int32.ofNat i)), sl] [])) (fun tt_ kk_ => XS.icmpNo X.here hx rfl (hb hby d3_16) rfl (tlt ((own_cmp (by omega) (by omega)).mpr (by omega))).2.1 kk_) ?_
      refine Ends.to (T' := T) (g' := (mkF m 21 #[.val (.ref a1), .val (.int (Int32.ofNat s0)), .val (.int (Int32.ofNat n)), .val (.int (1 : Int32)), .val (.int (Int32.ofNat r)), .val (.int (Int32.ofNat i)), sl] [(.int (Int32.ofNat r))])) (fun tt_ kk_ => XS.iload X.here hx rfl (hb hby d3_19) rfl kk_) ?_
      by_cases hc21 : (0 : Int32) < (Int32.ofNat r)
      · refine Ends.to (T' := T) (g' := (mkF m 24 #[.val (.ref a1), .val (.int (Int32.ofNat s0)), .val (.int (Int32.ofNat n)), .val (.int (1 : Int32)), .val (.int (Int32.ofNat r)), .val (.int (Int32.ofNat i)), sl] [])) (fun tt_ kk_ => XS.ifNo X.here hx rfl (hb hby d3_21) rfl ((if0 _ _).trans (tlt hc21).2.2.2) kk_) ?_
        have r21 : 0 < r := (own_pos (by omega)).mp hc21
        refine Ends.to (T' := T) (g' := (mkF m 25 #[.val (.ref a1), .val (.int (Int32.ofNat s0)), .val (.int (Int32.ofNat n)), .val (.int (1 : Int32)), .val (.int (Int32.ofNat r)), .val (.int (Int32.ofNat i)), sl] [(.ref a1)])) (fun tt_ kk_ => XS.aloadN X.here hx rfl (hb hby d3_24) rfl rfl kk_) ?_
        refine Ends.to (T' := T) (g' := (mkF m 26 #[.val (.ref a1), .val (.int (Int32.ofNat s0)), .val (.int (Int32.ofNat n)), .val (.int (1 : Int32)), .val (.int (Int32.ofNat r)), .val (.int (Int32.ofNat i)), sl] [(.int (Int32.ofNat s0)), (.ref a1)])) (fun tt_ kk_ => XS.iloadN X.here hx rfl (hb hby d3_25) rfl kk_) ?_
        refine Ends.to (T' := T) (g' := (mkF m 28 #[.val (.ref a1), .val (.int (Int32.ofNat s0)), .val (.int (Int32.ofNat n)), .val (.int (1 : Int32)), .val (.int (Int32.ofNat r)), .val (.int (Int32.ofNat i)), sl] [(.int (Int32.ofNat i)), (.int (Int32.ofNat s0)), (.ref a1)])) (fun tt_ kk_ => XS.iload X.here hx rfl (hb hby d3_26) rfl kk_) ?_
        refine Ends.to (T' := T) (g' := (mkF m 29 #[.val (.ref a1), .val (.int (Int32.ofNat s0)), .val (.int (Int32.ofNat n)), .val (.int (1 : Int32)), .val (.int (Int32.ofNat r)), .val (.int (Int32.ofNat i)), sl] [(.int ((Int32.ofNat s0) + (Int32.ofNat i))), (.ref a1)])) (fun tt_ kk_ => XS.iadd X.here hx rfl (hb hby d3_28) rfl kk_) ?_
        refine Ends.to (T' := T) (g' := (mkF m 30 #[.val (.ref a1), .val (.int (Int32.ofNat s0)), .val (.int (Int32.ofNat n)), .val (.int (1 : Int32)), .val (.int (Int32.ofNat r)), .val (.int (Int32.ofNat i)), sl] [(.int (1 : Int32)), (.int ((Int32.ofNat s0) + (Int32.ofNat i))), (.ref a1)])) (fun tt_ kk_ => XS.iconst X.here hx rfl (hb hby d3_29) kk_) ?_
        refine Ends.to (T' := T) (g' := (mkF m 31 #[.val (.ref a1), .val (.int (Int32.ofNat s0)), .val (.int (Int32.ofNat n)), .val (.int (1 : Int32)), .val (.int (Int32.ofNat r)), .val (.int (Int32.ofNat i)), sl] [(.int (((Int32.ofNat s0) + (Int32.ofNat i)) - (1 : Int32))), (.ref a1)])) (fun tt_ kk_ => XS.isub X.here hx rfl (hb hby d3_30) rfl kk_) ?_
        refine Ends.to (T' := T) (g' := (mkF m 32 #[.val (.ref a1), .val (.int (Int32.ofNat s0)), .val (.int (Int32.ofNat n)), .val (.int (1 : Int32)), .val (.int (Int32.ofNat r)), .val (.int (Int32.ofNat i)), sl] [(.int (f (s0 + i - 1)))])) (fun tt_ kk_ => BA.ldB X hx hZ eT B (j := (((Int32.ofNat s0) + (Int32.ofNat i)) - (1 : Int32))) (i := (s0 + i - 1)) (by rw [← Int32.ofNat_add, own_sub1 (n := s0 + i) (by omega)]; exact own_nneg (by omega)) (by rw [← Int32.ofNat_add, own_sub1 (n := s0 + i) (by omega)]; exact own_clamp (by omega)) (by omega) (g := (mkF m 31 #[.val (.ref a1), .val (.int (Int32.ofNat s0)), .val (.int (Int32.ofNat n)), .val (.int (1 : Int32)), .val (.int (Int32.ofNat r)), .val (.int (Int32.ofNat i)), sl] [(.int (((Int32.ofNat s0) + (Int32.ofNat i)) - (1 : Int32))), (.ref a1)])) rfl rfl (hb hby d3_31) tt_ kk_) ?_
        refine Ends.to (T' := T) (g' := (mkF m 34 #[.val (.ref a1), .val (.int (Int32.ofNat s0)), .val (.int (Int32.ofNat n)), .val (.int (1 : Int32)), .val (.int (Int32.ofNat r)), .val (.int (Int32.ofNat i)), sl] [(.int (32 : Int32)), (.int (f (s0 + i - 1)))])) (fun tt_ kk_ => XS.bipush X.here hx rfl (hb hby d3_32) kk_) ?_
        by_cases hc34 : (f (s0 + i - 1)) = (32 : Int32)
        · refine Ends.to (T' := T) (g' := (mkF m 41 #[.val (.ref a1), .val (.int (Int32.ofNat s0)), .val (.int (Int32.ofNat n)), .val (.int (1 : Int32)), .val (.int (Int32.ofNat r)), .val (.int (Int32.ofNat i)), sl] [])) (fun tt_ kk_ => XS.icmpYes X.here hx rfl (pc0 := 34) (pc' := 41) rfl (hb hby d3_34) rfl (teq hc34).1 (by decide) (by decide) kk_) ?_
          refine Ends.to (T' := T) (g' := (mkF m 42 #[.val (.ref a1), .val (.int (Int32.ofNat s0)), .val (.int (Int32.ofNat n)), .val (.int (1 : Int32)), .val (.int (Int32.ofNat r)), .val (.int (Int32.ofNat i)), sl] [(.int (0 : Int32))])) (fun tt_ kk_ => XS.iconst X.here hx rfl (hb hby d3_41) kk_) ?_
          refine Ends.to (T' := T) (g' := (mkF m 44 #[.val (.ref a1), .val (.int (Int32.ofNat s0)), .val (.int (Int32.ofNat n)), .val (.int (1 : Int32)), .val (.int (Int32.ofNat r)), .val (.int (Int32.ofNat i)), .val (.int (0 : Int32))] [])) (fun tt_ kk_ => XS.istoreS X.here hx rfl (hb hby d3_42) rfl rfl hsl kk_) ?_
          refine Ends.to (T' := T) (g' := (mkF m 45 #[.val (.ref a1), .val (.int (Int32.ofNat s0)), .val (.int (Int32.ofNat n)), .val (.int (1 : Int32)), .val (.int (Int32.ofNat r)), .val (.int (Int32.ofNat i)), .val (.int (0 : Int32))] [(.ref a1)])) (fun tt_ kk_ => XS.aloadN X.here hx rfl (hb hby d3_44) rfl rfl kk_) ?_
          refine Ends.to (T' := T) (g' := (mkF m 46 #[.val (.ref a1), .val (.int (Int32.ofNat s0)), .val (.int (Int32.ofNat n)), .val (.int (1 : Int32)), .val (.int (Int32.ofNat r)), .val (.int (Int32.ofNat i)), .val (.int (0 : Int32))] [(.int (Int32.ofNat s0)), (.ref a1)])) (fun tt_ kk_ => XS.iloadN X.here hx rfl (hb hby d3_45) rfl kk_) ?_
          refine Ends.to (T' := T) (g' := (mkF m 48 #[.val (.ref a1), .val (.int (Int32.ofNat s0)), .val (.int (Int32.ofNat n)), .val (.int (1 : Int32)), .val (.int (Int32.ofNat r)), .val (.int (Int32.ofNat i)), .val (.int (0 : Int32))] [(.int (Int32.ofNat i)), (.int (Int32.ofNat s0)), (.ref a1)])) (fun tt_ kk_ => XS.iload X.here hx rfl (hb hby d3_46) rfl kk_) ?_
          refine Ends.to (T' := T) (g' := (mkF m 49 #[.val (.ref a1), .val (.int (Int32.ofNat s0)), .val (.int (Int32.ofNat n)), .val (.int (1 : Int32)), .val (.int (Int32.ofNat r)), .val (.int (Int32.ofNat i)), .val (.int (0 : Int32))] [(.int ((Int32.ofNat s0) + (Int32.ofNat i))), (.ref a1)])) (fun tt_ kk_ => XS.iadd X.here hx rfl (hb hby d3_48) rfl kk_) ?_
          refine Ends.to (T' := T) (g' := (mkF m 50 #[.val (.ref a1), .val (.int (Int32.ofNat s0)), .val (.int (Int32.ofNat n)), .val (.int (1 : Int32)), .val (.int (Int32.ofNat r)), .val (.int (Int32.ofNat i)), .val (.int (0 : Int32))] [(.int (f (s0 + i)))])) (fun tt_ kk_ => BA.ldB X hx hZ eT B (j := ((Int32.ofNat s0) + (Int32.ofNat i))) (i := (s0 + i)) (by rw [← Int32.ofNat_add]; exact own_nneg (by omega)) (by rw [← Int32.ofNat_add]; exact own_clamp (by omega)) (by omega) (g := (mkF m 49 #[.val (.ref a1), .val (.int (Int32.ofNat s0)), .val (.int (Int32.ofNat n)), .val (.int (1 : Int32)), .val (.int (Int32.ofNat r)), .val (.int (Int32.ofNat i)), .val (.int (0 : Int32))] [(.int ((Int32.ofNat s0) + (Int32.ofNat i))), (.ref a1)])) rfl rfl (hb hby d3_49) tt_ kk_) ?_
          refine Ends.to (T' := T) (g' := (mkF m 52 #[.val (.ref a1), .val (.int (Int32.ofNat s0)), .val (.int (Int32.ofNat n)), .val (.int (1 : Int32)), .val (.int (Int32.ofNat r)), .val (.int (Int32.ofNat i)), .val (.int (0 : Int32))] [(.int (32 : Int32)), (.int (f (s0 + i)))])) (fun tt_ kk_ => XS.bipush X.here hx rfl (hb hby d3_50) kk_) ?_
          by_cases hc52 : (f (s0 + i)) = (32 : Int32)
          · refine Ends.to (T' := T) (g' := (mkF m 55 #[.val (.ref a1), .val (.int (Int32.ofNat s0)), .val (.int (Int32.ofNat n)), .val (.int (1 : Int32)), .val (.int (Int32.ofNat r)), .val (.int (Int32.ofNat i)), .val (.int (0 : Int32))] [])) (fun tt_ kk_ => XS.icmpNo X.here hx rfl (hb hby d3_52) rfl (teq hc52).2 kk_) ?_
            refine Ends.to (T' := T) (g' := (mkF m 57 #[.val (.ref a1), .val (.int (Int32.ofNat s0)), .val (.int (Int32.ofNat n)), .val (.int (1 : Int32)), .val (.int (Int32.ofNat r)), .val (.int (Int32.ofNat i)), .val (.int (0 : Int32))] [(.int (0 : Int32))])) (fun tt_ kk_ => XS.iload X.here hx rfl (hb hby d3_55) rfl kk_) ?_
            refine Ends.to (T' := T) (g' := (mkF m 75 #[.val (.ref a1), .val (.int (Int32.ofNat s0)), .val (.int (Int32.ofNat n)), .val (.int (1 : Int32)), .val (.int (Int32.ofNat r)), .val (.int (Int32.ofNat i)), .val (.int (0 : Int32))] [])) (fun tt_ kk_ => XS.ifYes X.here hx rfl (pc0 := 57) (pc' := 75) rfl (hb hby d3_57) rfl ((if0 _ _).trans (teq rfl).1) (by decide) (by decide) kk_) ?_
            refine Ends.to (T' := T) (g' := (mkF m 78 #[.val (.ref a1), .val (.int (Int32.ofNat s0)), .val (.int (Int32.ofNat n)), .val (.int (1 : Int32)), .val (.int (Int32.ofNat r)), .val (.int ((Int32.ofNat i) + (1 : Int32))), .val (.int (0 : Int32))] [])) (fun tt_ kk_ => XS.iinc X.here hx rfl (hb hby d3_75) rfl (l' := #[.val (.ref a1), .val (.int (Int32.ofNat s0)), .val (.int (Int32.ofNat n)), .val (.int (1 : Int32)), .val (.int (Int32.ofNat r)), .val (.int ((Int32.ofNat i) + (1 : Int32))), .val (.int (0 : Int32))]) rfl kk_) ?_
            rw [own_inc]
            refine Ends.to (T' := T) (g' := (mkF m 13 #[.val (.ref a1), .val (.int (Int32.ofNat s0)), .val (.int (Int32.ofNat n)), .val (.int (1 : Int32)), .val (.int (Int32.ofNat r)), .val (.int (Int32.ofNat (i + 1))), .val (.int (0 : Int32))] [])) (fun tt_ kk_ => XS.goto X.here hx rfl (pc0 := 78) (pc' := 13) rfl (hb hby d3_78) (by decide) (by decide) kk_) ?_
            exact ih (i + 1) r _ _ T _ h (by omega) (by omega) (One.val rfl) X eT N K B (fun h L a b c => by have q := hQ h L a; simp only [own_nz] at q; rw [if_pos ⟨hc52, Or.inr hc34⟩] at q; exact q b c)
          · refine Ends.to (T' := T) (g' := (mkF m 60 #[.val (.ref a1), .val (.int (Int32.ofNat s0)), .val (.int (Int32.ofNat n)), .val (.int (1 : Int32)), .val (.int (Int32.ofNat r)), .val (.int (Int32.ofNat i)), .val (.int (0 : Int32))] [])) (fun tt_ kk_ => XS.icmpYes X.here hx rfl (pc0 := 52) (pc' := 60) rfl (hb hby d3_52) rfl (feq hc52).2 (by decide) (by decide) kk_) ?_
            refine Ends.to (T' := T) (g' := (mkF m 61 #[.val (.ref a1), .val (.int (Int32.ofNat s0)), .val (.int (Int32.ofNat n)), .val (.int (1 : Int32)), .val (.int (Int32.ofNat r)), .val (.int (Int32.ofNat i)), .val (.int (0 : Int32))] [(.ref a1)])) (fun tt_ kk_ => XS.aloadN X.here hx rfl (hb hby d3_60) rfl rfl kk_) ?_
            refine Ends.to (T' := T) (g' := (mkF m 62 #[.val (.ref a1), .val (.int (Int32.ofNat s0)), .val (.int (Int32.ofNat n)), .val (.int (1 : Int32)), .val (.int (Int32.ofNat r)), .val (.int (Int32.ofNat i)), .val (.int (0 : Int32))] [(.int (Int32.ofNat s0)), (.ref a1)])) (fun tt_ kk_ => XS.iloadN X.here hx rfl (hb hby d3_61) rfl kk_) ?_
            refine Ends.to (T' := T) (g' := (mkF m 64 #[.val (.ref a1), .val (.int (Int32.ofNat s0)), .val (.int (Int32.ofNat n)), .val (.int (1 : Int32)), .val (.int (Int32.ofNat r)), .val (.int (Int32.ofNat i)), .val (.int (0 : Int32))] [(.int (Int32.ofNat r)), (.int (Int32.ofNat s0)), (.ref a1)])) (fun tt_ kk_ => XS.iload X.here hx rfl (hb hby d3_62) rfl kk_) ?_
            refine Ends.to (T' := T) (g' := (mkF m 67 #[.val (.ref a1), .val (.int (Int32.ofNat s0)), .val (.int (Int32.ofNat n)), .val (.int (1 : Int32)), .val (.int ((Int32.ofNat r) + (1 : Int32))), .val (.int (Int32.ofNat i)), .val (.int (0 : Int32))] [(.int (Int32.ofNat r)), (.int (Int32.ofNat s0)), (.ref a1)])) (fun tt_ kk_ => XS.iinc X.here hx rfl (hb hby d3_64) rfl (l' := #[.val (.ref a1), .val (.int (Int32.ofNat s0)), .val (.int (Int32.ofNat n)), .val (.int (1 : Int32)), .val (.int ((Int32.ofNat r) + (1 : Int32))), .val (.int (Int32.ofNat i)), .val (.int (0 : Int32))]) rfl kk_) ?_
            rw [own_inc]
            refine Ends.to (T' := T) (g' := (mkF m 68 #[.val (.ref a1), .val (.int (Int32.ofNat s0)), .val (.int (Int32.ofNat n)), .val (.int (1 : Int32)), .val (.int (Int32.ofNat (r + 1))), .val (.int (Int32.ofNat i)), .val (.int (0 : Int32))] [(.int ((Int32.ofNat s0) + (Int32.ofNat r))), (.ref a1)])) (fun tt_ kk_ => XS.iadd X.here hx rfl (hb hby d3_67) rfl kk_) ?_
            refine Ends.to (T' := T) (g' := (mkF m 69 #[.val (.ref a1), .val (.int (Int32.ofNat s0)), .val (.int (Int32.ofNat n)), .val (.int (1 : Int32)), .val (.int (Int32.ofNat (r + 1))), .val (.int (Int32.ofNat i)), .val (.int (0 : Int32))] [(.ref a1), (.int ((Int32.ofNat s0) + (Int32.ofNat r))), (.ref a1)])) (fun tt_ kk_ => XS.aloadN X.here hx rfl (hb hby d3_68) rfl rfl kk_) ?_
            refine Ends.to (T' := T) (g' := (mkF m 70 #[.val (.ref a1), .val (.int (Int32.ofNat s0)), .val (.int (Int32.ofNat n)), .val (.int (1 : Int32)), .val (.int (Int32.ofNat (r + 1))), .val (.int (Int32.ofNat i)), .val (.int (0 : Int32))] [(.int (Int32.ofNat s0)), (.ref a1), (.int ((Int32.ofNat s0) + (Int32.ofNat r))), (.ref a1)])) (fun tt_ kk_ => XS.iloadN X.here hx rfl (hb hby d3_69) rfl kk_) ?_
            refine Ends.to (T' := T) (g' := (mkF m 72 #[.val (.ref a1), .val (.int (Int32.ofNat s0)), .val (.int (Int32.ofNat n)), .val (.int (1 : Int32)), .val (.int (Int32.ofNat (r + 1))), .val (.int (Int32.ofNat i)), .val (.int (0 : Int32))] [(.int (Int32.ofNat i)), (.int (Int32.ofNat s0)), (.ref a1), (.int ((Int32.ofNat s0) + (Int32.ofNat r))), (.ref a1)])) (fun tt_ kk_ => XS.iload X.here hx rfl (hb hby d3_70) rfl kk_) ?_
            refine Ends.to (T' := T) (g' := (mkF m 73 #[.val (.ref a1), .val (.int (Int32.ofNat s0)), .val (.int (Int32.ofNat n)), .val (.int (1 : Int32)), .val (.int (Int32.ofNat (r + 1))), .val (.int (Int32.ofNat i)), .val (.int (0 : Int32))] [(.int ((Int32.ofNat s0) + (Int32.ofNat i))), (.ref a1), (.int ((Int32.ofNat s0) + (Int32.ofNat r))), (.ref a1)])) (fun tt_ kk_ => XS.iadd X.here hx rfl (hb hby d3_72) rfl kk_) ?_
            refine Ends.to (T' := T) (g' := (mkF m 74 #[.val (.ref a1), .val (.int (Int32.ofNat s0)), .val (.int (Int32.ofNat n)), .val (.int (1 : Int32)), .val (.int (Int32.ofNat (r + 1))), .val (.int (Int32.ofNat i)), .val (.int (0 : Int32))] [(.int (f (s0 + i))), (.int ((Int32.ofNat s0) + (Int32.ofNat r))), (.ref a1)])) (fun tt_ kk_ => BA.ldB X hx hZ eT B (j := ((Int32.ofNat s0) + (Int32.ofNat i))) (i := (s0 + i)) (by rw [← Int32.ofNat_add]; exact own_nneg (by omega)) (by rw [← Int32.ofNat_add]; exact own_clamp (by omega)) (by omega) (g := (mkF m 73 #[.val (.ref a1), .val (.int (Int32.ofNat s0)), .val (.int (Int32.ofNat n)), .val (.int (1 : Int32)), .val (.int (Int32.ofNat (r + 1))), .val (.int (Int32.ofNat i)), .val (.int (0 : Int32))] [(.int ((Int32.ofNat s0) + (Int32.ofNat i))), (.ref a1), (.int ((Int32.ofNat s0) + (Int32.ofNat r))), (.ref a1)])) rfl rfl (hb hby d3_73) tt_ kk_) ?_
            obtain ⟨T18, h18, X18, e18, W18, B', st18⟩ := BA.stB X hx hZ eT B (j := ((Int32.ofNat s0) + (Int32.ofNat r))) (i := (s0 + r)) (by rw [← Int32.ofNat_add]; exact own_nneg (by omega)) (by rw [← Int32.ofNat_add]; exact own_clamp (by omega)) (by omega) (g := (mkF m 74 #[.val (.ref a1), .val (.int (Int32.ofNat s0)), .val (.int (Int32.ofNat n)), .val (.int (1 : Int32)), .val (.int (Int32.ofNat (r + 1))), .val (.int (Int32.ofNat i)), .val (.int (0 : Int32))] [(.int (f (s0 + i))), (.int ((Int32.ofNat s0) + (Int32.ofNat r))), (.ref a1)])) rfl rfl (hb hby d3_74)
            have K := Keep.wr K W18 (Or.inl (List.mem_of_getElem? (i := 0) rfl))
            have B := B'
            clear B'
            have N18 := Fr.snoc X18 N g1
            refine Ends.to (T' := T18) (g' := (mkF m 75 #[.val (.ref a1), .val (.int (Int32.ofNat s0)), .val (.int (Int32.ofNat n)), .val (.int (1 : Int32)), .val (.int (Int32.ofNat (r + 1))), .val (.int (Int32.ofNat i)), .val (.int (0 : Int32))] [])) (fun tt_ kk_ => st18 tt_ kk_) ?_
            refine Ends.to (T' := T18) (g' := (mkF m 78 #[.val (.ref a1), .val (.int (Int32.ofNat s0)), .val (.int (Int32.ofNat n)), .val (.int (1 : Int32)), .val (.int (Int32.ofNat (r + 1))), .val (.int ((Int32.ofNat i) + (1 : Int32))), .val (.int (0 : Int32))] [])) (fun tt_ kk_ => XS.iinc X18.here hx rfl (hb hby d3_75) rfl (l' := #[.val (.ref a1), .val (.int (Int32.ofNat s0)), .val (.int (Int32.ofNat n)), .val (.int (1 : Int32)), .val (.int (Int32.ofNat (r + 1))), .val (.int ((Int32.ofNat i) + (1 : Int32))), .val (.int (0 : Int32))]) rfl kk_) ?_
            rw [own_inc]
            refine Ends.to (T' := T18) (g' := (mkF m 13 #[.val (.ref a1), .val (.int (Int32.ofNat s0)), .val (.int (Int32.ofNat n)), .val (.int (1 : Int32)), .val (.int (Int32.ofNat (r + 1))), .val (.int (Int32.ofNat (i + 1))), .val (.int (0 : Int32))] [])) (fun tt_ kk_ => XS.goto X18.here hx rfl (pc0 := 78) (pc' := 13) rfl (hb hby d3_78) (by decide) (by decide) kk_) ?_
            exact ih (i + 1) (r + 1) _ _ T18 _ h18 (by omega) (by omega) (One.val rfl) X18 e18 N18 K B (fun h L a b c => by have q := hQ h L a; simp only [own_nz] at q; rw [if_neg (fun z => hc52 z.1)] at q; exact q b c)
        · refine Ends.to (T' := T) (g' := (mkF m 37 #[.val (.ref a1), .val (.int (Int32.ofNat s0)), .val (.int (Int32.ofNat n)), .val (.int (1 : Int32)), .val (.int (Int32.ofNat r)), .val (.int (Int32.ofNat i)), sl] [])) (fun tt_ kk_ => XS.icmpNo X.here hx rfl (hb hby d3_34) rfl (feq hc34).1 kk_) ?_
          refine Ends.to (T' := T) (g' := (mkF m 38 #[.val (.ref a1), .val (.int (Int32.ofNat s0)), .val (.int (Int32.ofNat n)), .val (.int (1 : Int32)), .val (.int (Int32.ofNat r)), .val (.int (Int32.ofNat i)), sl] [(.int (1 : Int32))])) (fun tt_ kk_ => XS.iconst X.here hx rfl (hb hby d3_37) kk_) ?_
          refine Ends.to (T' := T) (g' := (mkF m 42 #[.val (.ref a1), .val (.int (Int32.ofNat s0)), .val (.int (Int32.ofNat n)), .val (.int (1 : Int32)), .val (.int (Int32.ofNat r)), .val (.int (Int32.ofNat i)), sl] [(.int (1 : Int32))])) (fun tt_ kk_ => XS.goto X.here hx rfl (pc0 := 38) (pc' := 42) rfl (hb hby d3_38) (by decide) (by decide) kk_) ?_
          refine Ends.to (T' := T) (g' := (mkF m 44 #[.val (.ref a1), .val (.int (Int32.ofNat s0)), .val (.int (Int32.ofNat n)), .val (.int (1 : Int32)), .val (.int (Int32.ofNat r)), .val (.int (Int32.ofNat i)), .val (.int (1 : Int32))] [])) (fun tt_ kk_ => XS.istoreS X.here hx rfl (hb hby d3_42) rfl rfl hsl kk_) ?_
          refine Ends.to (T' := T) (g' := (mkF m 45 #[.val (.ref a1), .val (.int (Int32.ofNat s0)), .val (.int (Int32.ofNat n)), .val (.int (1 : Int32)), .val (.int (Int32.ofNat r)), .val (.int (Int32.ofNat i)), .val (.int (1 : Int32))] [(.ref a1)])) (fun tt_ kk_ => XS.aloadN X.here hx rfl (hb hby d3_44) rfl rfl kk_) ?_
          refine Ends.to (T' := T) (g' := (mkF m 46 #[.val (.ref a1), .val (.int (Int32.ofNat s0)), .val (.int (Int32.ofNat n)), .val (.int (1 : Int32)), .val (.int (Int32.ofNat r)), .val (.int (Int32.ofNat i)), .val (.int (1 : Int32))] [(.int (Int32.ofNat s0)), (.ref a1)])) (fun tt_ kk_ => XS.iloadN X.here hx rfl (hb hby d3_45) rfl kk_) ?_
          refine Ends.to (T' := T) (g' := (mkF m 48 #[.val (.ref a1), .val (.int (Int32.ofNat s0)), .val (.int (Int32.ofNat n)), .val (.int (1 : Int32)), .val (.int (Int32.ofNat r)), .val (.int (Int32.ofNat i)), .val (.int (1 : Int32))] [(.int (Int32.ofNat i)), (.int (Int32.ofNat s0)), (.ref a1)])) (fun tt_ kk_ => XS.iload X.here hx rfl (hb hby d3_46) rfl kk_) ?_
          refine Ends.to (T' := T) (g' := (mkF m 49 #[.val (.ref a1), .val (.int (Int32.ofNat s0)), .val (.int (Int32.ofNat n)), .val (.int (1 : Int32)), .val (.int (Int32.ofNat r)), .val (.int (Int32.ofNat i)), .val (.int (1 : Int32))] [(.int ((Int32.ofNat s0) + (Int32.ofNat i))), (.ref a1)])) (fun tt_ kk_ => XS.iadd X.here hx rfl (hb hby d3_48) rfl kk_) ?_
          refine Ends.to (T' := T) (g' := (mkF m 50 #[.val (.ref a1), .val (.int (Int32.ofNat s0)), .val (.int (Int32.ofNat n)), .val (.int (1 : Int32)), .val (.int (Int32.ofNat r)), .val (.int (Int32.ofNat i)), .val (.int (1 : Int32))] [(.int (f (s0 + i)))])) (fun tt_ kk_ => BA.ldB X hx hZ eT B (j := ((Int32.ofNat s0) + (Int32.ofNat i))) (i := (s0 + i)) (by rw [← Int32.ofNat_add]; exact own_nneg (by omega)) (by rw [← Int32.ofNat_add]; exact own_clamp (by omega)) (by omega) (g := (mkF m 49 #[.val (.ref a1), .val (.int (Int32.ofNat s0)), .val (.int (Int32.ofNat n)), .val (.int (1 : Int32)), .val (.int (Int32.ofNat r)), .val (.int (Int32.ofNat i)), .val (.int (1 : Int32))] [(.int ((Int32.ofNat s0) + (Int32.ofNat i))), (.ref a1)])) rfl rfl (hb hby d3_49) tt_ kk_) ?_
          refine Ends.to (T' := T) (g' := (mkF m 52 #[.val (.ref a1), .val (.int (Int32.ofNat s0)), .val (.int (Int32.ofNat n)), .val (.int (1 : Int32)), .val (.int (Int32.ofNat r)), .val (.int (Int32.ofNat i)), .val (.int (1 : Int32))] [(.int (32 : Int32)), (.int (f (s0 + i)))])) (fun tt_ kk_ => XS.bipush X.here hx rfl (hb hby d3_50) kk_) ?_
          by_cases hc52 : (f (s0 + i)) = (32 : Int32)
          · refine Ends.to (T' := T) (g' := (mkF m 55 #[.val (.ref a1), .val (.int (Int32.ofNat s0)), .val (.int (Int32.ofNat n)), .val (.int (1 : Int32)), .val (.int (Int32.ofNat r)), .val (.int (Int32.ofNat i)), .val (.int (1 : Int32))] [])) (fun tt_ kk_ => XS.icmpNo X.here hx rfl (hb hby d3_52) rfl (teq hc52).2 kk_) ?_
            refine Ends.to (T' := T) (g' := (mkF m 57 #[.val (.ref a1), .val (.int (Int32.ofNat s0)), .val (.int (Int32.ofNat n)), .val (.int (1 : Int32)), .val (.int (Int32.ofNat r)), .val (.int (Int32.ofNat i)), .val (.int (1 : Int32))] [(.int (1 : Int32))])) (fun tt_ kk_ => XS.iload X.here hx rfl (hb hby d3_55) rfl kk_) ?_
            refine Ends.to (T' := T) (g' := (mkF m 60 #[.val (.ref a1), .val (.int (Int32.ofNat s0)), .val (.int (Int32.ofNat n)), .val (.int (1 : Int32)), .val (.int (Int32.ofNat r)), .val (.int (Int32.ofNat i)), .val (.int (1 : Int32))] [])) (fun tt_ kk_ => XS.ifNo X.here hx rfl (hb hby d3_57) rfl ((if0 _ _).trans (feq (by decide)).1) kk_) ?_
            refine Ends.to (T' := T) (g' := (mkF m 61 #[.val (.ref a1), .val (.int (Int32.ofNat s0)), .val (.int (Int32.ofNat n)), .val (.int (1 : Int32)), .val (.int (Int32.ofNat r)), .val (.int (Int32.ofNat i)), .val (.int (1 : Int32))] [(.ref a1)])) (fun tt_ kk_ => XS.aloadN X.here hx rfl (hb hby d3_60) rfl rfl kk_) ?_
            refine Ends.to (T' := T) (g' := (mkF m 62 #[.val (.ref a1), .val (.int (Int32.ofNat s0)), .val (.int (Int32.ofNat n)), .val (.int (1 : Int32)), .val (.int (Int32.ofNat r)), .val (.int (Int32.ofNat i)), .val (.int (1 : Int32))] [(.int (Int32.ofNat s0)), (.ref a1)])) (fun tt_ kk_ => XS.iloadN X.here hx rfl (hb hby d3_61) rfl kk_) ?_
            refine Ends.to (T' := T) (g' := (mkF m 64 #[.val (.ref a1), .val (.int (Int32.ofNat s0)), .val (.int (Int32.ofNat n)), .val (.int (1 : Int32)), .val (.int (Int32.ofNat r)), .val (.int (Int32.ofNat i)), .val (.int (1 : Int32))] [(.int (Int32.ofNat r)), (.int (Int32.ofNat s0)), (.ref a1)])) (fun tt_ kk_ => XS.iload X.here hx rfl (hb hby d3_62) rfl kk_) ?_
            refine Ends.to (T' := T) (g' := (mkF m 67 #[.val (.ref a1), .val (.int (Int32.ofNat s0)), .val (.int (Int32.ofNat n)), .val (.int (1 : Int32)), .val (.int ((Int32.ofNat r) + (1 : Int32))), .val (.int (Int32.ofNat i)), .val (.int (1 : Int32))] [(.int (Int32.ofNat r)), (.int (Int32.ofNat s0)), (.ref a1)])) (fun tt_ kk_ => XS.iinc X.here hx rfl (hb hby d3_64) rfl (l' := #[.val (.ref a1), .val (.int (Int32.ofNat s0)), .val (.int (Int32.ofNat n)), .val (.int (1 : Int32)), .val (.int ((Int32.ofNat r) + (1 : Int32))), .val (.int (Int32.ofNat i)), .val (.int (1 : Int32))]) rfl kk_) ?_
            rw [own_inc]
            refine Ends.to (T' := T) (g' := (mkF m 68 #[.val (.ref a1), .val (.int (Int32.ofNat s0)), .val (.int (Int32.ofNat n)), .val (.int (1 : Int32)), .val (.int (Int32.ofNat (r + 1))), .val (.int (Int32.ofNat i)), .val (.int (1 : Int32))] [(.int ((Int32.ofNat s0) + (Int32.ofNat r))), (.ref a1)])) (fun tt_ kk_ => XS.iadd X.here hx rfl (hb hby d3_67) rfl kk_) ?_
            refine Ends.to (T' := T) (g' := (mkF m 69 #[.val (.ref a1), .val (.int (Int32.ofNat s0)), .val (.int (Int32.ofNat n)), .val (.int (1 : Int32)), .val (.int (Int32.ofNat (r + 1))), .val (.int (Int32.ofNat i)), .val (.int (1 : Int32))] [(.ref a1), (.int ((Int32.ofNat s0) + (Int32.ofNat r))), (.ref a1)])) (fun tt_ kk_ => XS.aloadN X.here hx rfl (hb hby d3_68) rfl rfl kk_) ?_
            refine Ends.to (T' := T) (g' := (mkF m 70 #[.val (.ref a1), .val (.int (Int32.ofNat s0)), .val (.int (Int32.ofNat n)), .val (.int (1 : Int32)), .val (.int (Int32.ofNat (r + 1))), .val (.int (Int32.ofNat i)), .val (.int (1 : Int32))] [(.int (Int32.ofNat s0)), (.ref a1), (.int ((Int32.ofNat s0) + (Int32.ofNat r))), (.ref a1)])) (fun tt_ kk_ => XS.iloadN X.here hx rfl (hb hby d3_69) rfl kk_) ?_
            refine Ends.to (T' := T) (g' := (mkF m 72 #[.val (.ref a1), .val (.int (Int32.ofNat s0)), .val (.int (Int32.ofNat n)), .val (.int (1 : Int32)), .val (.int (Int32.ofNat (r + 1))), .val (.int (Int32.ofNat i)), .val (.int (1 : Int32))] [(.int (Int32.ofNat i)), (.int (Int32.ofNat s0)), (.ref a1), (.int ((Int32.ofNat s0) + (Int32.ofNat r))), (.ref a1)])) (fun tt_ kk_ => XS.iload X.here hx rfl (hb hby d3_70) rfl kk_) ?_
            refine Ends.to (T' := T) (g' := (mkF m 73 #[.val (.ref a1), .val (.int (Int32.ofNat s0)), .val (.int (Int32.ofNat n)), .val (.int (1 : Int32)), .val (.int (Int32.ofNat (r + 1))), .val (.int (Int32.ofNat i)), .val (.int (1 : Int32))] [(.int ((Int32.ofNat s0) + (Int32.ofNat i))), (.ref a1), (.int ((Int32.ofNat s0) + (Int32.ofNat r))), (.ref a1)])) (fun tt_ kk_ => XS.iadd X.here hx rfl (hb hby d3_72) rfl kk_) ?_
            refine Ends.to (T' := T) (g' := (mkF m 74 #[.val (.ref a1), .val (.int (Int32.ofNat s0)), .val (.int (Int32.ofNat n)), .val (.int (1 : Int32)), .val (.int (Int32.ofNat (r + 1))), .val (.int (Int32.ofNat i)), .val (.int (1 : Int32))] [(.int (f (s0 + i))), (.int ((Int32.ofNat s0) + (Int32.ofNat r))), (.ref a1)])) (fun tt_ kk_ => BA.ldB X hx hZ eT B (j := ((Int32.ofNat s0) + (Int32.ofNat i))) (i := (s0 + i)) (by rw [← Int32.ofNat_add]; exact own_nneg (by omega)) (by rw [← Int32.ofNat_add]; exact own_clamp (by omega)) (by omega) (g := (mkF m 73 #[.val (.ref a1), .val (.int (Int32.ofNat s0)), .val (.int (Int32.ofNat n)), .val (.int (1 : Int32)), .val (.int (Int32.ofNat (r + 1))), .val (.int (Int32.ofNat i)), .val (.int (1 : Int32))] [(.int ((Int32.ofNat s0) + (Int32.ofNat i))), (.ref a1), (.int ((Int32.ofNat s0) + (Int32.ofNat r))), (.ref a1)])) rfl rfl (hb hby d3_73) tt_ kk_) ?_
            obtain ⟨T19, h19, X19, e19, W19, B', st19⟩ := BA.stB X hx hZ eT B (j := ((Int32.ofNat s0) + (Int32.ofNat r))) (i := (s0 + r)) (by rw [← Int32.ofNat_add]; exact own_nneg (by omega)) (by rw [← Int32.ofNat_add]; exact own_clamp (by omega)) (by omega) (g := (mkF m 74 #[.val (.ref a1), .val (.int (Int32.ofNat s0)), .val (.int (Int32.ofNat n)), .val (.int (1 : Int32)), .val (.int (Int32.ofNat (r + 1))), .val (.int (Int32.ofNat i)), .val (.int (1 : Int32))] [(.int (f (s0 + i))), (.int ((Int32.ofNat s0) + (Int32.ofNat r))), (.ref a1)])) rfl rfl (hb hby d3_74)
            have K := Keep.wr K W19 (Or.inl (List.mem_of_getElem? (i := 0) rfl))
            have B := B'
            clear B'
            have N19 := Fr.snoc X19 N g1
            refine Ends.to (T' := T19) (g' := (mkF m 75 #[.val (.ref a1), .val (.int (Int32.ofNat s0)), .val (.int (Int32.ofNat n)), .val (.int (1 : Int32)), .val (.int (Int32.ofNat (r + 1))), .val (.int (Int32.ofNat i)), .val (.int (1 : Int32))] [])) (fun tt_ kk_ => st19 tt_ kk_) ?_
            refine Ends.to (T' := T19) (g' := (mkF m 78 #[.val (.ref a1), .val (.int (Int32.ofNat s0)), .val (.int (Int32.ofNat n)), .val (.int (1 : Int32)), .val (.int (Int32.ofNat (r + 1))), .val (.int ((Int32.ofNat i) + (1 : Int32))), .val (.int (1 : Int32))] [])) (fun tt_ kk_ => XS.iinc X19.here hx rfl (hb hby d3_75) rfl (l' := #[.val (.ref a1), .val (.int (Int32.ofNat s0)), .val (.int (Int32.ofNat n)), .val (.int (1 : Int32)), .val (.int (Int32.ofNat (r + 1))), .val (.int ((Int32.ofNat i) + (1 : Int32))), .val (.int (1 : Int32))]) rfl kk_) ?_
            rw [own_inc]
            refine Ends.to (T' := T19) (g' := (mkF m 13 #[.val (.ref a1), .val (.int (Int32.ofNat s0)), .val (.int (Int32.ofNat n)), .val (.int (1 : Int32)), .val (.int (Int32.ofNat (r + 1))), .val (.int (Int32.ofNat (i + 1))), .val (.int (1 : Int32))] [])) (fun tt_ kk_ => XS.goto X19.here hx rfl (pc0 := 78) (pc' := 13) rfl (hb hby d3_78) (by decide) (by decide) kk_) ?_
            exact ih (i + 1) (r + 1) _ _ T19 _ h19 (by omega) (by omega) (One.val rfl) X19 e19 N19 K B (fun h L a b c => by have q := hQ h L a; simp only [own_nz] at q; rw [if_neg (fun z => z.2.elim (fun y => by omega) hc34)] at q; exact q b c)
          · refine Ends.to (T' := T) (g' := (mkF m 60 #[.val (.ref a1), .val (.int (Int32.ofNat s0)), .val (.int (Int32.ofNat n)), .val (.int (1 : Int32)), .val (.int (Int32.ofNat r)), .val (.int (Int32.ofNat i)), .val (.int (1 : Int32))] [])) (fun tt_ kk_ => XS.icmpYes X.here hx rfl (pc0 := 52) (pc' := 60) rfl (hb hby d3_52) rfl (feq hc52).2 (by decide) (by decide) kk_) ?_
            refine Ends.to (T' := T) (g' := (mkF m 61 #[.val (.ref a1), .val (.int (Int32.ofNat s0)), .val (.int (Int32.ofNat n)), .val (.int (1 : Int32)), .val (.int (Int32.ofNat r)), .val (.int (Int32.ofNat i)), .val (.int (1 : Int32))] [(.ref a1)])) (fun tt_ kk_ => XS.aloadN X.here hx rfl (hb hby d3_60) rfl rfl kk_) ?_
            refine Ends.to (T' := T) (g' := (mkF m 62 #[.val (.ref a1), .val (.int (Int32.ofNat s0)), .val (.int (Int32.ofNat n)), .val (.int (1 : Int32)), .val (.int (Int32.ofNat r)), .val (.int (Int32.ofNat i)), .val (.int (1 : Int32))] [(.int (Int32.ofNat s0)), (.ref a1)])) (fun tt_ kk_ => XS.iloadN X.here hx rfl (hb hby d3_61) rfl kk_) ?_
            refine Ends.to (T' := T) (g' := (mkF m 64 #[.val (.ref a1), .val (.int (Int32.ofNat s0)), .val (.int (Int32.ofNat n)), .val (.int (1 : Int32)), .val (.int (Int32.ofNat r)), .val (.int (Int32.ofNat i)), .val (.int (1 : Int32))] [(.int (Int32.ofNat r)), (.int (Int32.ofNat s0)), (.ref a1)])) (fun tt_ kk_ => XS.iload X.here hx rfl (hb hby d3_62) rfl kk_) ?_
            refine Ends.to (T' := T) (g' := (mkF m 67 #[.val (.ref a1), .val (.int (Int32.ofNat s0)), .val (.int (Int32.ofNat n)), .val (.int (1 : Int32)), .val (.int ((Int32.ofNat r) + (1 : Int32))), .val (.int (Int32.ofNat i)), .val (.int (1 : Int32))] [(.int (Int32.ofNat r)), (.int (Int32.ofNat s0)), (.ref a1)])) (fun tt_ kk_ => XS.iinc X.here hx rfl (hb hby d3_64) rfl (l' := #[.val (.ref a1), .val (.int (Int32.ofNat s0)), .val (.int (Int32.ofNat n)), .val (.int (1 : Int32)), .val (.int ((Int32.ofNat r) + (1 : Int32))), .val (.int (Int32.ofNat i)), .val (.int (1 : Int32))]) rfl kk_) ?_
            rw [own_inc]
            refine Ends.to (T' := T) (g' := (mkF m 68 #[.val (.ref a1), .val (.int (Int32.ofNat s0)), .val (.int (Int32.ofNat n)), .val (.int (1 : Int32)), .val (.int (Int32.ofNat (r + 1))), .val (.int (Int32.ofNat i)), .val (.int (1 : Int32))] [(.int ((Int32.ofNat s0) + (Int32.ofNat r))), (.ref a1)])) (fun tt_ kk_ => XS.iadd X.here hx rfl (hb hby d3_67) rfl kk_) ?_
            refine Ends.to (T' := T) (g' := (mkF m 69 #[.val (.ref a1), .val (.int (Int32.ofNat s0)), .val (.int (Int32.ofNat n)), .val (.int (1 : Int32)), .val (.int (Int32.ofNat (r + 1))), .val (.int (Int32.ofNat i)), .val (.int (1 : Int32))] [(.ref a1), (.int ((Int32.ofNat s0) + (Int32.ofNat r))), (.ref a1)])) (fun tt_ kk_ => XS.aloadN X.here hx rfl (hb hby d3_68) rfl rfl kk_) ?_
            refine Ends.to (T' := T) (g' := (mkF m 70 #[.val (.ref a1), .val (.int (Int32.ofNat s0)), .val (.int (Int32.ofNat n)), .val (.int (1 : Int32)), .val (.int (Int32.ofNat (r + 1))), .val (.int (Int32.ofNat i)), .val (.int (1 : Int32))] [(.int (Int32.ofNat s0)), (.ref a1), (.int ((Int32.ofNat s0) + (Int32.ofNat r))), (.ref a1)])) (fun tt_ kk_ => XS.iloadN X.here hx rfl (hb hby d3_69) rfl kk_) ?_
            refine Ends.to (T' := T) (g' := (mkF m 72 #[.val (.ref a1), .val (.int (Int32.ofNat s0)), .val (.int (Int32.ofNat n)), .val (.int (1 : Int32)), .val (.int (Int32.ofNat (r + 1))), .val (.int (Int32.ofNat i)), .val (.int (1 : Int32))] [(.int (Int32.ofNat i)), (.int (Int32.ofNat s0)), (.ref a1), (.int ((Int32.ofNat s0) + (Int32.ofNat r))), (.ref a1)])) (fun tt_ kk_ => XS.iload X.here hx rfl (hb hby d3_70) rfl kk_) ?_
            refine Ends.to (T' := T) (g' := (mkF m 73 #[.val (.ref a1), .val (.int (Int32.ofNat s0)), .val (.int (Int32.ofNat n)), .val (.int (1 : Int32)), .val (.int (Int32.ofNat (r + 1))), .val (.int (Int32.ofNat i)), .val (.int (1 : Int32))] [(.int ((Int32.ofNat s0) + (Int32.ofNat i))), (.ref a1), (.int ((Int32.ofNat s0) + (Int32.ofNat r))), (.ref a1)])) (fun tt_ kk_ => XS.iadd X.here hx rfl (hb hby d3_72) rfl kk_) ?_
            refine Ends.to (T' := T) (g' := (mkF m 74 #[.val (.ref a1), .val (.int (Int32.ofNat s0)), .val (.int (Int32.ofNat n)), .val (.int (1 : Int32)), .val (.int (Int32.ofNat (r + 1))), .val (.int (Int32.ofNat i)), .val (.int (1 : Int32))] [(.int (f (s0 + i))), (.int ((Int32.ofNat s0) + (Int32.ofNat r))), (.ref a1)])) (fun tt_ kk_ => BA.ldB X hx hZ eT B (j := ((Int32.ofNat s0) + (Int32.ofNat i))) (i := (s0 + i)) (by rw [← Int32.ofNat_add]; exact own_nneg (by omega)) (by rw [← Int32.ofNat_add]; exact own_clamp (by omega)) (by omega) (g := (mkF m 73 #[.val (.ref a1), .val (.int (Int32.ofNat s0)), .val (.int (Int32.ofNat n)), .val (.int (1 : Int32)), .val (.int (Int32.ofNat (r + 1))), .val (.int (Int32.ofNat i)), .val (.int (1 : Int32))] [(.int ((Int32.ofNat s0) + (Int32.ofNat i))), (.ref a1), (.int ((Int32.ofNat s0) + (Int32.ofNat r))), (.ref a1)])) rfl rfl (hb hby d3_73) tt_ kk_) ?_
            obtain ⟨T20, h20, X20, e20, W20, B', st20⟩ := BA.stB X hx hZ eT B (j := ((Int32.ofNat s0) + (Int32.ofNat r))) (i := (s0 + r)) (by rw [← Int32.ofNat_add]; exact own_nneg (by omega)) (by rw [← Int32.ofNat_add]; exact own_clamp (by omega)) (by omega) (g := (mkF m 74 #[.val (.ref a1), .val (.int (Int32.ofNat s0)), .val (.int (Int32.ofNat n)), .val (.int (1 : Int32)), .val (.int (Int32.ofNat (r + 1))), .val (.int (Int32.ofNat i)), .val (.int (1 : Int32))] [(.int (f (s0 + i))), (.int ((Int32.ofNat s0) + (Int32.ofNat r))), (.ref a1)])) rfl rfl (hb hby d3_74)
            have K := Keep.wr K W20 (Or.inl (List.mem_of_getElem? (i := 0) rfl))
            have B := B'
            clear B'
            have N20 := Fr.snoc X20 N g1
            refine Ends.to (T' := T20) (g' := (mkF m 75 #[.val (.ref a1), .val (.int (Int32.ofNat s0)), .val (.int (Int32.ofNat n)), .val (.int (1 : Int32)), .val (.int (Int32.ofNat (r + 1))), .val (.int (Int32.ofNat i)), .val (.int (1 : Int32))] [])) (fun tt_ kk_ => st20 tt_ kk_) ?_
            refine Ends.to (T' := T20) (g' := (mkF m 78 #[.val (.ref a1), .val (.int (Int32.ofNat s0)), .val (.int (Int32.ofNat n)), .val (.int (1 : Int32)), .val (.int (Int32.ofNat (r + 1))), .val (.int ((Int32.ofNat i) + (1 : Int32))), .val (.int (1 : Int32))] [])) (fun tt_ kk_ => XS.iinc X20.here hx rfl (hb hby d3_75) rfl (l' := #[.val (.ref a1), .val (.int (Int32.ofNat s0)), .val (.int (Int32.ofNat n)), .val (.int (1 : Int32)), .val (.int (Int32.ofNat (r + 1))), .val (.int ((Int32.ofNat i) + (1 : Int32))), .val (.int (1 : Int32))]) rfl kk_) ?_
            rw [own_inc]
            refine Ends.to (T' := T20) (g' := (mkF m 13 #[.val (.ref a1), .val (.int (Int32.ofNat s0)), .val (.int (Int32.ofNat n)), .val (.int (1 : Int32)), .val (.int (Int32.ofNat (r + 1))), .val (.int (Int32.ofNat (i + 1))), .val (.int (1 : Int32))] [])) (fun tt_ kk_ => XS.goto X20.here hx rfl (pc0 := 78) (pc' := 13) rfl (hb hby d3_78) (by decide) (by decide) kk_) ?_
            exact ih (i + 1) (r + 1) _ _ T20 _ h20 (by omega) (by omega) (One.val rfl) X20 e20 N20 K B (fun h L a b c => by have q := hQ h L a; simp only [own_nz] at q; rw [if_neg (fun z => hc52 z.1)] at q; exact q b c)
      · refine Ends.to (T' := T) (g' := (mkF m 41 #[.val (.ref a1), .val (.int (Int32.ofNat s0)), .val (.int (Int32.ofNat n)), .val (.int (1 : Int32)), .val (.int (Int32.ofNat r)), .val (.int (Int32.ofNat i)), sl] [])) (fun tt_ kk_ => XS.ifYes X.here hx rfl (pc0 := 21) (pc' := 41) rfl (hb hby d3_21) rfl ((if0 _ _).trans (flt hc21).2.2.2) (by decide) (by decide) kk_) ?_
        have r21 : r = 0 := Nat.eq_zero_of_not_pos (fun z => hc21 ((own_pos (by omega)).mpr z))
        refine Ends.to (T' := T) (g' := (mkF m 42 #[.val (.ref a1), .val (.int (Int32.ofNat s0)), .val (.int (Int32.ofNat n)), .val (.int (1 : Int32)), .val (.int (Int32.ofNat r)), .val (.int (Int32.ofNat i)), sl] [(.int (0 : Int32))])) (fun tt_ kk_ => XS.iconst X.here hx rfl (hb hby d3_41) kk_) ?_
        refine Ends.to (T' := T) (g' := (mkF m 44 #[.val (.ref a1), .val (.int (Int32.ofNat s0)), .val (.int (Int32.ofNat n)), .val (.int (1 : Int32)), .val (.int (Int32.ofNat r)), .val (.int (Int32.ofNat i)), .val (.int (0 : Int32))] [])) (fun tt_ kk_ => XS.istoreS X.here hx rfl (hb hby d3_42) rfl rfl hsl kk_) ?_
        refine Ends.to (T' := T) (g' := (mkF m 45 #[.val (.ref a1), .val (.int (Int32.ofNat s0)), .val (.int (Int32.ofNat n)), .val (.int (1 : Int32)), .val (.int (Int32.ofNat r)), .val (.int (Int32.ofNat i)), .val (.int (0 : Int32))] [(.ref a1)])) (fun tt_ kk_ => XS.aloadN X.here hx rfl (hb hby d3_44) rfl rfl kk_) ?_
        refine Ends.to (T' := T) (g' := (mkF m 46 #[.val (.ref a1), .val (.int (Int32.ofNat s0)), .val (.int (Int32.ofNat n)), .val (.int (1 : Int32)), .val (.int (Int32.ofNat r)), .val (.int (Int32.ofNat i)), .val (.int (0 : Int32))] [(.int (Int32.ofNat s0)), (.ref a1)])) (fun tt_ kk_ => XS.iloadN X.here hx rfl (hb hby d3_45) rfl kk_) ?_
        refine Ends.to (T' := T) (g' := (mkF m 48 #[.val (.ref a1), .val (.int (Int32.ofNat s0)), .val (.int (Int32.ofNat n)), .val (.int (1 : Int32)), .val (.int (Int32.ofNat r)), .val (.int (Int32.ofNat i)), .val (.int (0 : Int32))] [(.int (Int32.ofNat i)), (.int (Int32.ofNat s0)), (.ref a1)])) (fun tt_ kk_ => XS.iload X.here hx rfl (hb hby d3_46) rfl kk_) ?_
        refine Ends.to (T' := T) (g' := (mkF m 49 #[.val (.ref a1), .val (.int (Int32.ofNat s0)), .val (.int (Int32.ofNat n)), .val (.int (1 : Int32)), .val (.int (Int32.ofNat r)), .val (.int (Int32.ofNat i)), .val (.int (0 : Int32))] [(.int ((Int32.ofNat s0) + (Int32.ofNat i))), (.ref a1)])) (fun tt_ kk_ => XS.iadd X.here hx rfl (hb hby d3_48) rfl kk_) ?_
        refine Ends.to (T' := T) (g' := (mkF m 50 #[.val (.ref a1), .val (.int (Int32.ofNat s0)), .val (.int (Int32.ofNat n)), .val (.int (1 : Int32)), .val (.int (Int32.ofNat r)), .val (.int (Int32.ofNat i)), .val (.int (0 : Int32))] [(.int (f (s0 + i)))])) (fun tt_ kk_ => BA.ldB X hx hZ eT B (j := ((Int32.ofNat s0) + (Int32.ofNat i))) (i := (s0 + i)) (by rw [← Int32.ofNat_add]; exact own_nneg (by omega)) (by rw [← Int32.ofNat_add]; exact own_clamp (by omega)) (by omega) (g := (mkF m 49 #[.val (.ref a1), .val (.int (Int32.ofNat s0)), .val (.int (Int32.ofNat n)), .val (.int (1 : Int32)), .val (.int (Int32.ofNat r)), .val (.int (Int32.ofNat i)), .val (.int (0 : Int32))] [(.int ((Int32.ofNat s0) + (Int32.ofNat i))), (.ref a1)])) rfl rfl (hb hby d3_49) tt_ kk_) ?_
        refine Ends.to (T' := T) (g' := (mkF m 52 #[.val (.ref a1), .val (.int (Int32.ofNat s0)), .val (.int (Int32.ofNat n)), .val (.int (1 : Int32)), .val (.int (Int32.ofNat r)), .val (.int (Int32.ofNat i)), .val (.int (0 : Int32))] [(.int (32 : Int32)), (.int (f (s0 + i)))])) (fun tt_ kk_ => XS.bipush X.here hx rfl (hb hby d3_50) kk_) ?_
        by_cases hc52 : (f (s0 + i)) = (32 : Int32)
        · refine Ends.to (T' := T) (g' := (mkF m 55 #[.val (.ref a1), .val (.int (Int32.ofNat s0)), .val (.int (Int32.ofNat n)), .val (.int (1 : Int32)), .val (.int (Int32.ofNat r)), .val (.int (Int32.ofNat i)), .val (.int (0 : Int32))] [])) (fun tt_ kk_ => XS.icmpNo X.here hx rfl (hb hby d3_52) rfl (teq hc52).2 kk_) ?_
          refine Ends.to (T' := T) (g' := (mkF m 57 #[.val (.ref a1), .val (.int (Int32.ofNat s0)), .val (.int (Int32.ofNat n)), .val (.int (1 : Int32)), .val (.int (Int32.ofNat r)), .val (.int (Int32.ofNat i)), .val (.int (0 : Int32))] [(.int (0 : Int32))])) (fun tt_ kk_ => XS.iload X.here hx rfl (hb hby d3_55) rfl kk_) ?_
          refine Ends.to (T' := T) (g' := (mkF m 75 #[.val (.ref a1), .val (.int (Int32.ofNat s0)), .val (.int (Int32.ofNat n)), .val (.int (1 : Int32)), .val (.int (Int32.ofNat r)), .val (.int (Int32.ofNat i)), .val (.int (0 : Int32))] [])) (fun tt_ kk_ => XS.ifYes X.here hx rfl (pc0 := 57) (pc' := 75) rfl (hb hby d3_57) rfl ((if0 _ _).trans (teq rfl).1) (by decide) (by decide) kk_) ?_
          refine Ends.to (T' := T) (g' := (mkF m 78 #[.val (.ref a1), .val (.int (Int32.ofNat s0)), .val (.int (Int32.ofNat n)), .val (.int (1 : Int32)), .val (.int (Int32.ofNat r)), .val (.int ((Int32.ofNat i) + (1 : Int32))), .val (.int (0 : Int32))] [])) (fun tt_ kk_ => XS.iinc X.here hx rfl (hb hby d3_75) rfl (l' := #[.val (.ref a1), .val (.int (Int32.ofNat s0)), .val (.int (Int32.ofNat n)), .val (.int (1 : Int32)), .val (.int (Int32.ofNat r)), .val (.int ((Int32.ofNat i) + (1 : Int32))), .val (.int (0 : Int32))]) rfl kk_) ?_
          rw [own_inc]
          refine Ends.to (T' := T) (g' := (mkF m 13 #[.val (.ref a1), .val (.int (Int32.ofNat s0)), .val (.int (Int32.ofNat n)), .val (.int (1 : Int32)), .val (.int (Int32.ofNat r)), .val (.int (Int32.ofNat (i + 1))), .val (.int (0 : Int32))] [])) (fun tt_ kk_ => XS.goto X.here hx rfl (pc0 := 78) (pc' := 13) rfl (hb hby d3_78) (by decide) (by decide) kk_) ?_
          exact ih (i + 1) r _ _ T _ h (by omega) (by omega) (One.val rfl) X eT N K B (fun h L a b c => by have q := hQ h L a; simp only [own_nz] at q; rw [if_pos ⟨hc52, Or.inl r21⟩] at q; exact q b c)
        · refine Ends.to (T' := T) (g' := (mkF m 60 #[.val (.ref a1), .val (.int (Int32.ofNat s0)), .val (.int (Int32.ofNat n)), .val (.int (1 : Int32)), .val (.int (Int32.ofNat r)), .val (.int (Int32.ofNat i)), .val (.int (0 : Int32))] [])) (fun tt_ kk_ => XS.icmpYes X.here hx rfl (pc0 := 52) (pc' := 60) rfl (hb hby d3_52) rfl (feq hc52).2 (by decide) (by decide) kk_) ?_
          refine Ends.to (T' := T) (g' := (mkF m 61 #[.val (.ref a1), .val (.int (Int32.ofNat s0)), .val (.int (Int32.ofNat n)), .val (.int (1 : Int32)), .val (.int (Int32.ofNat r)), .val (.int (Int32.ofNat i)), .val (.int (0 : Int32))] [(.ref a1)])) (fun tt_ kk_ => XS.aloadN X.here hx rfl (hb hby d3_60) rfl rfl kk_) ?_
          refine Ends.to (T' := T) (g' := (mkF m 62 #[.val (.ref a1), .val (.int (Int32.ofNat s0)), .val (.int (Int32.ofNat n)), .val (.int (1 : Int32)), .val (.int (Int32.ofNat r)), .val (.int (Int32.ofNat i)), .val (.int (0 : Int32))] [(.int (Int32.ofNat s0)), (.ref a1)])) (fun tt_ kk_ => XS.iloadN X.here hx rfl (hb hby d3_61) rfl kk_) ?_
          refine Ends.to (T' := T) (g' := (mkF m 64 #[.val (.ref a1), .val (.int (Int32.ofNat s0)), .val (.int (Int32.ofNat n)), .val (.int (1 : Int32)), .val (.int (Int32.ofNat r)), .val (.int (Int32.ofNat i)), .val (.int (0 : Int32))] [(.int (Int32.ofNat r)), (.int (Int32.ofNat s0)), (.ref a1)])) (fun tt_ kk_ => XS.iload X.here hx rfl (hb hby d3_62) rfl kk_) ?_
          refine Ends.to (T' := T) (g' := (mkF m 67 #[.val (.ref a1), .val (.int (Int32.ofNat s0)), .val (.int (Int32.ofNat n)), .val (.int (1 : Int32)), .val (.int ((Int32.ofNat r) + (1 : Int32))), .val (.int (Int32.ofNat i)), .val (.int (0 : Int32))] [(.int (Int32.ofNat r)), (.int (Int32.ofNat s0)), (.ref a1)])) (fun tt_ kk_ => XS.iinc X.here hx rfl (hb hby d3_64) rfl (l' := #[.val (.ref a1), .val (.int (Int32.ofNat s0)), .val (.int (Int32.ofNat n)), .val (.int (1 : Int32)), .val (.int ((Int32.ofNat r) + (1 : Int32))), .val (.int (Int32.ofNat i)), .val (.int (0 : Int32))]) rfl kk_) ?_
          rw [own_inc]
          refine Ends.to (T' := T) (g' := (mkF m 68 #[.val (.ref a1), .val (.int (Int32.ofNat s0)), .val (.int (Int32.ofNat n)), .val (.int (1 : Int32)), .val (.int (Int32.ofNat (r + 1))), .val (.int (Int32.ofNat i)), .val (.int (0 : Int32))] [(.int ((Int32.ofNat s0) + (Int32.ofNat r))), (.ref a1)])) (fun tt_ kk_ => XS.iadd X.here hx rfl (hb hby d3_67) rfl kk_) ?_
          refine Ends.to (T' := T) (g' := (mkF m 69 #[.val (.ref a1), .val (.int (Int32.ofNat s0)), .val (.int (Int32.ofNat n)), .val (.int (1 : Int32)), .val (.int (Int32.ofNat (r + 1))), .val (.int (Int32.ofNat i)), .val (.int (0 : Int32))] [(.ref a1), (.int ((Int32.ofNat s0) + (Int32.ofNat r))), (.ref a1)])) (fun tt_ kk_ => XS.aloadN X.here hx rfl (hb hby d3_68) rfl rfl kk_) ?_
          refine Ends.to (T' := T) (g' := (mkF m 70 #[.val (.ref a1), .val (.int (Int32.ofNat s0)), .val (.int (Int32.ofNat n)), .val (.int (1 : Int32)), .val (.int (Int32.ofNat (r + 1))), .val (.int (Int32.ofNat i)), .val (.int (0 : Int32))] [(.int (Int32.ofNat s0)), (.ref a1), (.int ((Int32.ofNat s0) + (Int32.ofNat r))), (.ref a1)])) (fun tt_ kk_ => XS.iloadN X.here hx rfl (hb hby d3_69) rfl kk_) ?_
          refine Ends.to (T' := T) (g' := (mkF m 72 #[.val (.ref a1), .val (.int (Int32.ofNat s0)), .val (.int (Int32.ofNat n)), .val (.int (1 : Int32)), .val (.int (Int32.ofNat (r + 1))), .val (.int (Int32.ofNat i)), .val (.int (0 : Int32))] [(.int (Int32.ofNat i)), (.int (Int32.ofNat s0)), (.ref a1), (.int ((Int32.ofNat s0) + (Int32.ofNat r))), (.ref a1)])) (fun tt_ kk_ => XS.iload X.here hx rfl (hb hby d3_70) rfl kk_) ?_
          refine Ends.to (T' := T) (g' := (mkF m 73 #[.val (.ref a1), .val (.int (Int32.ofNat s0)), .val (.int (Int32.ofNat n)), .val (.int (1 : Int32)), .val (.int (Int32.ofNat (r + 1))), .val (.int (Int32.ofNat i)), .val (.int (0 : Int32))] [(.int ((Int32.ofNat s0) + (Int32.ofNat i))), (.ref a1), (.int ((Int32.ofNat s0) + (Int32.ofNat r))), (.ref a1)])) (fun tt_ kk_ => XS.iadd X.here hx rfl (hb hby d3_72) rfl kk_) ?_
          refine Ends.to (T' := T) (g' := (mkF m 74 #[.val (.ref a1), .val (.int (Int32.ofNat s0)), .val (.int (Int32.ofNat n)), .val (.int (1 : Int32)), .val (.int (Int32.ofNat (r + 1))), .val (.int (Int32.ofNat i)), .val (.int (0 : Int32))] [(.int (f (s0 + i))), (.int ((Int32.ofNat s0) + (Int32.ofNat r))), (.ref a1)])) (fun tt_ kk_ => BA.ldB X hx hZ eT B (j := ((Int32.ofNat s0) + (Int32.ofNat i))) (i := (s0 + i)) (by rw [← Int32.ofNat_add]; exact own_nneg (by omega)) (by rw [← Int32.ofNat_add]; exact own_clamp (by omega)) (by omega) (g := (mkF m 73 #[.val (.ref a1), .val (.int (Int32.ofNat s0)), .val (.int (Int32.ofNat n)), .val (.int (1 : Int32)), .val (.int (Int32.ofNat (r + 1))), .val (.int (Int32.ofNat i)), .val (.int (0 : Int32))] [(.int ((Int32.ofNat s0) + (Int32.ofNat i))), (.ref a1), (.int ((Int32.ofNat s0) + (Int32.ofNat r))), (.ref a1)])) rfl rfl (hb hby d3_73) tt_ kk_) ?_
          obtain ⟨T21, h21, X21, e21, W21, B', st21⟩ := BA.stB X hx hZ eT B (j := ((Int32.ofNat s0) + (Int32.ofNat r))) (i := (s0 + r)) (by rw [← Int32.ofNat_add]; exact own_nneg (by omega)) (by rw [← Int32.ofNat_add]; exact own_clamp (by omega)) (by omega) (g := (mkF m 74 #[.val (.ref a1), .val (.int (Int32.ofNat s0)), .val (.int (Int32.ofNat n)), .val (.int (1 : Int32)), .val (.int (Int32.ofNat (r + 1))), .val (.int (Int32.ofNat i)), .val (.int (0 : Int32))] [(.int (f (s0 + i))), (.int ((Int32.ofNat s0) + (Int32.ofNat r))), (.ref a1)])) rfl rfl (hb hby d3_74)
          have K := Keep.wr K W21 (Or.inl (List.mem_of_getElem? (i := 0) rfl))
          have B := B'
          clear B'
          have N21 := Fr.snoc X21 N g1
          refine Ends.to (T' := T21) (g' := (mkF m 75 #[.val (.ref a1), .val (.int (Int32.ofNat s0)), .val (.int (Int32.ofNat n)), .val (.int (1 : Int32)), .val (.int (Int32.ofNat (r + 1))), .val (.int (Int32.ofNat i)), .val (.int (0 : Int32))] [])) (fun tt_ kk_ => st21 tt_ kk_) ?_
          refine Ends.to (T' := T21) (g' := (mkF m 78 #[.val (.ref a1), .val (.int (Int32.ofNat s0)), .val (.int (Int32.ofNat n)), .val (.int (1 : Int32)), .val (.int (Int32.ofNat (r + 1))), .val (.int ((Int32.ofNat i) + (1 : Int32))), .val (.int (0 : Int32))] [])) (fun tt_ kk_ => XS.iinc X21.here hx rfl (hb hby d3_75) rfl (l' := #[.val (.ref a1), .val (.int (Int32.ofNat s0)), .val (.int (Int32.ofNat n)), .val (.int (1 : Int32)), .val (.int (Int32.ofNat (r + 1))), .val (.int ((Int32.ofNat i) + (1 : Int32))), .val (.int (0 : Int32))]) rfl kk_) ?_
          rw [own_inc]
          refine Ends.to (T' := T21) (g' := (mkF m 13 #[.val (.ref a1), .val (.int (Int32.ofNat s0)), .val (.int (Int32.ofNat n)), .val (.int (1 : Int32)), .val (.int (Int32.ofNat (r + 1))), .val (.int (Int32.ofNat (i + 1))), .val (.int (0 : Int32))] [])) (fun tt_ kk_ => XS.goto X21.here hx rfl (pc0 := 78) (pc' := 13) rfl (hb hby d3_78) (by decide) (by decide) kk_) ?_
          exact ih (i + 1) (r + 1) _ _ T21 _ h21 (by omega) (by omega) (One.val rfl) X21 e21 N21 K B (fun h L a b c => by have q := hQ h L a; simp only [own_nz] at q; rw [if_neg (fun z => hc52 z.1)] at q; exact q b c)
  refine Ends.to (T' := s₁) (g' := (mkF m 1 #[.val (.ref a1), .val (.int (Int32.ofNat s0)), .val (.int (Int32.ofNat n)), .val (.int (1 : Int32)), .unset, .unset, .unset] [(.int (Int32.ofNat n))])) (fun tt_ kk_ => XS.iloadN X0.here hx rfl (hb hby d3_0) rfl kk_) ?_
  refine Ends.to (T' := s₁) (g' := (mkF m 3 #[.val (.ref a1), .val (.int (Int32.ofNat s0)), .val (.int (Int32.ofNat n)), .val (.int (1 : Int32)), .val (.int (Int32.ofNat n)), .unset, .unset] [])) (fun tt_ kk_ => XS.istore X0.here hx rfl (hb hby d3_1) rfl (l' := #[.val (.ref a1), .val (.int (Int32.ofNat s0)), .val (.int (Int32.ofNat n)), .val (.int (1 : Int32)), .val (.int (Int32.ofNat n)), .unset, .unset]) rfl kk_) ?_
  refine Ends.to (T' := s₁) (g' := (mkF m 4 #[.val (.ref a1), .val (.int (Int32.ofNat s0)), .val (.int (Int32.ofNat n)), .val (.int (1 : Int32)), .val (.int (Int32.ofNat n)), .unset, .unset] [(.int (1 : Int32))])) (fun tt_ kk_ => XS.iloadN X0.here hx rfl (hb hby d3_3) rfl kk_) ?_
  refine Ends.to (T' := s₁) (g' := (mkF m 7 #[.val (.ref a1), .val (.int (Int32.ofNat s0)), .val (.int (Int32.ofNat n)), .val (.int (1 : Int32)), .val (.int (Int32.ofNat n)), .unset, .unset] [])) (fun tt_ kk_ => XS.ifNo X0.here hx rfl (hb hby d3_4) rfl ((if0 _ _).trans (feq (by decide)).1) kk_) ?_
  refine Ends.to (T' := s₁) (g' := (mkF m 8 #[.val (.ref a1), .val (.int (Int32.ofNat s0)), .val (.int (Int32.ofNat n)), .val (.int (1 : Int32)), .val (.int (Int32.ofNat n)), .unset, .unset] [(.int (0 : Int32))])) (fun tt_ kk_ => XS.iconst X0.here hx rfl (hb hby d3_7) kk_) ?_
  refine Ends.to (T' := s₁) (g' := (mkF m 10 #[.val (.ref a1), .val (.int (Int32.ofNat s0)), .val (.int (Int32.ofNat n)), .val (.int (1 : Int32)), .val (.int (0 : Int32)), .unset, .unset] [])) (fun tt_ kk_ => XS.istore X0.here hx rfl (hb hby d3_8) rfl (l' := #[.val (.ref a1), .val (.int (Int32.ofNat s0)), .val (.int (Int32.ofNat n)), .val (.int (1 : Int32)), .val (.int (0 : Int32)), .unset, .unset]) rfl kk_) ?_
  refine Ends.to (T' := s₁) (g' := (mkF m 11 #[.val (.ref a1), .val (.int (Int32.ofNat s0)), .val (.int (Int32.ofNat n)), .val (.int (1 : Int32)), .val (.int (0 : Int32)), .unset, .unset] [(.int (0 : Int32))])) (fun tt_ kk_ => XS.iconst X0.here hx rfl (hb hby d3_10) kk_) ?_
  refine Ends.to (T' := s₁) (g' := (mkF m 13 #[.val (.ref a1), .val (.int (Int32.ofNat s0)), .val (.int (Int32.ofNat n)), .val (.int (1 : Int32)), .val (.int (0 : Int32)), .val (.int (0 : Int32)), .unset] [])) (fun tt_ kk_ => XS.istore X0.here hx rfl (hb hby d3_11) rfl (l' := #[.val (.ref a1), .val (.int (Int32.ofNat s0)), .val (.int (Int32.ofNat n)), .val (.int (1 : Int32)), .val (.int (0 : Int32)), .val (.int (0 : Int32)), .unset]) rfl kk_) ?_
  exact loop n 0 0 f _ _ [] h0 (by omega) (by omega) One.u X0 e0 N0 (Keep.refl _ _) B1 (fun h L a b c => ⟨rfl, a, b, c⟩)
def own_emit (g E : Nat → Int32) (s n i k : Nat) : Nat × (Nat → Int32) :=
  if i < n then (if g (s + i) = 32 then (k, E) else if 0 < k ∧ g (s + i - 1) = 32 then (k + 2, upd (upd E k (32 : Int32).toInt8.toInt32) (k + 1) (g (s + i)).toInt8.toInt32) else (k + 1, upd E k (g (s + i)).toInt8.toInt32)) else (k, E)
set_option maxRecDepth 65536 in
set_option maxHeartbeats 40000000 in
def Q_rm4 (Z : State) (a1 : Addr) (k : Nat) (a2 : Addr) (s0 n i : Nat) (E g : Nat → Int32) (h0 : Heap) (n0 : Nat) : Option Value → Heap → List Loc → Prop := fun v h L => v = some (.int (Int32.ofNat (own_emit g E s0 n i k).1)) ∧ Fr n0 L ∧ Keep h0 h [a1] ∧ BB Z h a1 8 (own_emit g E s0 n i k).2
set_option maxRecDepth 65536 in
set_option maxHeartbeats 40000000 in
theorem rm4 (l : Launch) (Z : State) (a0 : Array Value) (hw : ∀ d ∈ tables_1, d.before a0 Z = true) (ws : List Jvm.Cond) (a1 : Addr) (k : Nat) (a2 : Addr) (s0 n i : Nat) (E g : Nat → Int32) (h0 : Heap) (n0 : Nat) (Z0 : n0 ≤ h0.size) (hi : i ≤ 5) (hk : k ≤ 6) (hki : k ≤ i) (hn : s0 + n ≤ 8) (hne : a2 ≠ a1) (B1 : BB Z h0 a1 8 E) (B2 : BB Z h0 a2 8 g) (g1 : n0 ≤ a1) :
    Pays l (⟨"com/example/predicate/predicate/document/AttributeDeclarationNormalizePinLaw", "emit", "([BI[BIII)I"⟩ : MethodName) method_5_code 7 (some .int) ws ({ frames := 0, cells := 0, slots := 0, locals := 0 } : Room) #[(.ref a1), (.int (Int32.ofNat k)), (.ref a2), (.int (Int32.ofNat s0)), (.int (Int32.ofNat n)), (.int (Int32.ofNat i))] Z h0 (Q_rm4 Z a1 k a2 s0 n i E g h0 n0) := by
  refine Pays.of (plainFor_of_name pn_4) ?_
  intro p e s m below meth c s₁ hx hby hml hown hnm hret hlk hZ X0 e0
  have hown : s.vm.findClass "com/example/predicate/predicate/document/AttributeDeclarationNormalizePinLaw" = some m.cls := hown
  have hnm : meth.name = "emit" := hnm
  have hml : c.maxLocals = 7 := hml
  show Ends p e below s _ _ (fun v h L => v = some (.int (Int32.ofNat (own_emit g E s0 n i k).1)) ∧ Fr n0 L ∧ Keep h0 h [a1] ∧ BB Z h a1 8 (own_emit g E s0 n i k).2) s₁ _
  refine Ends.cast (ef_4 m a1 (Int32.ofNat k) a2 (Int32.ofNat s0) (Int32.ofNat n) (Int32.ofNat i)) ?_
  have N0 := Fr.nil n0
  have K1 := Keep.refl h0 [a1]
  refine Ends.to (T' := s₁) (g' := (mkF m 2 #[.val (.ref a1), .val (.int (Int32.ofNat k)), .val (.ref a2), .val (.int (Int32.ofNat s0)), .val (.int (Int32.ofNat n)), .val (.int (Int32.ofNat i)), .unset] [(.int (Int32.ofNat i))])) (fun tt_ kk_ => XS.iload X0.here hx rfl (hb hby d4_0) rfl kk_) ?_
  refine Ends.to (T' := s₁) (g' := (mkF m 4 #[.val (.ref a1), .val (.int (Int32.ofNat k)), .val (.ref a2), .val (.int (Int32.ofNat s0)), .val (.int (Int32.ofNat n)), .val (.int (Int32.ofNat i)), .unset] [(.int (Int32.ofNat n)), (.int (Int32.ofNat i))])) (fun tt_ kk_ => XS.iload X0.here hx rfl (hb hby d4_2) rfl kk_) ?_
  by_cases hc4 : (Int32.ofNat i) < (Int32.ofNat n)
  · refine Ends.to (T' := s₁) (g' := (mkF m 9 #[.val (.ref a1), .val (.int (Int32.ofNat k)), .val (.ref a2), .val (.int (Int32.ofNat s0)), .val (.int (Int32.ofNat n)), .val (.int (Int32.ofNat i)), .unset] [])) (fun tt_ kk_ => XS.icmpYes X0.here hx rfl (pc0 := 4) (pc' := 9) rfl (hb hby d4_4) rfl (tlt hc4).1 (by decide) (by decide) kk_) ?_
    have r4 : i < n := (own_cmp (by omega) (by omega)).mp hc4
    refine Ends.to (T' := s₁) (g' := (mkF m 10 #[.val (.ref a1), .val (.int (Int32.ofNat k)), .val (.ref a2), .val (.int (Int32.ofNat s0)), .val (.int (Int32.ofNat n)), .val (.int (Int32.ofNat i)), .unset] [(.ref a2)])) (fun tt_ kk_ => XS.aloadN X0.here hx rfl (hb hby d4_9) rfl rfl kk_) ?_
    refine Ends.to (T' := s₁) (g' := (mkF m 11 #[.val (.ref a1), .val (.int (Int32.ofNat k)), .val (.ref a2), .val (.int (Int32.ofNat s0)), .val (.int (Int32.ofNat n)), .val (.int (Int32.ofNat i)), .unset] [(.int (Int32.ofNat s0)), (.ref a2)])) (fun tt_ kk_ => XS.iloadN X0.here hx rfl (hb hby d4_10) rfl kk_) ?_
    refine Ends.to (T' := s₁) (g' := (mkF m 13 #[.val (.ref a1), .val (.int (Int32.ofNat k)), .val (.ref a2), .val (.int (Int32.ofNat s0)), .val (.int (Int32.ofNat n)), .val (.int (Int32.ofNat i)), .unset] [(.int (Int32.ofNat i)), (.int (Int32.ofNat s0)), (.ref a2)])) (fun tt_ kk_ => XS.iload X0.here hx rfl (hb hby d4_11) rfl kk_) ?_
    refine Ends.to (T' := s₁) (g' := (mkF m 14 #[.val (.ref a1), .val (.int (Int32.ofNat k)), .val (.ref a2), .val (.int (Int32.ofNat s0)), .val (.int (Int32.ofNat n)), .val (.int (Int32.ofNat i)), .unset] [(.int ((Int32.ofNat s0) + (Int32.ofNat i))), (.ref a2)])) (fun tt_ kk_ => XS.iadd X0.here hx rfl (hb hby d4_13) rfl kk_) ?_
    refine Ends.to (T' := s₁) (g' := (mkF m 15 #[.val (.ref a1), .val (.int (Int32.ofNat k)), .val (.ref a2), .val (.int (Int32.ofNat s0)), .val (.int (Int32.ofNat n)), .val (.int (Int32.ofNat i)), .unset] [(.int (g (s0 + i)))])) (fun tt_ kk_ => BA.ldB X0 hx hZ e0 B2 (j := ((Int32.ofNat s0) + (Int32.ofNat i))) (i := (s0 + i)) (by rw [← Int32.ofNat_add]; exact own_nneg (by omega)) (by rw [← Int32.ofNat_add]; exact own_clamp (by omega)) (by omega) (g := (mkF m 14 #[.val (.ref a1), .val (.int (Int32.ofNat k)), .val (.ref a2), .val (.int (Int32.ofNat s0)), .val (.int (Int32.ofNat n)), .val (.int (Int32.ofNat i)), .unset] [(.int ((Int32.ofNat s0) + (Int32.ofNat i))), (.ref a2)])) rfl rfl (hb hby d4_14) tt_ kk_) ?_
    refine Ends.to (T' := s₁) (g' := (mkF m 17 #[.val (.ref a1), .val (.int (Int32.ofNat k)), .val (.ref a2), .val (.int (Int32.ofNat s0)), .val (.int (Int32.ofNat n)), .val (.int (Int32.ofNat i)), .val (.int (g (s0 + i)))] [])) (fun tt_ kk_ => XS.istore X0.here hx rfl (hb hby d4_15) rfl (l' := #[.val (.ref a1), .val (.int (Int32.ofNat k)), .val (.ref a2), .val (.int (Int32.ofNat s0)), .val (.int (Int32.ofNat n)), .val (.int (Int32.ofNat i)), .val (.int (g (s0 + i)))]) rfl kk_) ?_
    refine Ends.to (T' := s₁) (g' := (mkF m 19 #[.val (.ref a1), .val (.int (Int32.ofNat k)), .val (.ref a2), .val (.int (Int32.ofNat s0)), .val (.int (Int32.ofNat n)), .val (.int (Int32.ofNat i)), .val (.int (g (s0 + i)))] [(.int (g (s0 + i)))])) (fun tt_ kk_ => XS.iload X0.here hx rfl (hb hby d4_17) rfl kk_) ?_
    refine Ends.to (T' := s₁) (g' := (mkF m 21 #[.val (.ref a1), .val (.int (Int32.ofNat k)), .val (.ref a2), .val (.int (Int32.ofNat s0)), .val (.int (Int32.ofNat n)), .val (.int (Int32.ofNat i)), .val (.int (g (s0 + i)))] [(.int (32 : Int32)), (.int (g (s0 + i)))])) (fun tt_ kk_ => XS.bipush X0.here hx rfl (hb hby d4_19) kk_) ?_
    by_cases hc21 : (g (s0 + i)) = (32 : Int32)
    · refine Ends.to (T' := s₁) (g' := (mkF m 24 #[.val (.ref a1), .val (.int (Int32.ofNat k)), .val (.ref a2), .val (.int (Int32.ofNat s0)), .val (.int (Int32.ofNat n)), .val (.int (Int32.ofNat i)), .val (.int (g (s0 + i)))] [])) (fun tt_ kk_ => XS.icmpNo X0.here hx rfl (hb hby d4_21) rfl (teq hc21).2 kk_) ?_
      refine Ends.to (T' := s₁) (g' := (mkF m 25 #[.val (.ref a1), .val (.int (Int32.ofNat k)), .val (.ref a2), .val (.int (Int32.ofNat s0)), .val (.int (Int32.ofNat n)), .val (.int (Int32.ofNat i)), .val (.int (g (s0 + i)))] [(.int (Int32.ofNat k))])) (fun tt_ kk_ => XS.iloadN X0.here hx rfl (hb hby d4_24) rfl kk_) ?_
      refine Ends.retI X0 hx hret (hb hby d4_25) hlk (by decide) (by decide) ?_
      have em : own_emit g E s0 n i k = (k, E) := by rw [own_emit, if_pos r4, if_pos hc21]
      rw [em]
      exact ⟨rfl, N0, by rw [e0]; exact ⟨K1, B1⟩⟩
    · refine Ends.to (T' := s₁) (g' := (mkF m 26 #[.val (.ref a1), .val (.int (Int32.ofNat k)), .val (.ref a2), .val (.int (Int32.ofNat s0)), .val (.int (Int32.ofNat n)), .val (.int (Int32.ofNat i)), .val (.int (g (s0 + i)))] [])) (fun tt_ kk_ => XS.icmpYes X0.here hx rfl (pc0 := 21) (pc' := 26) rfl (hb hby d4_21) rfl (feq hc21).2 (by decide) (by decide) kk_) ?_
      refine Ends.to (T' := s₁) (g' := (mkF m 27 #[.val (.ref a1), .val (.int (Int32.ofNat k)), .val (.ref a2), .val (.int (Int32.ofNat s0)), .val (.int (Int32.ofNat n)), .val (.int (Int32.ofNat i)), .val (.int (g (s0 + i)))] [(.int (Int32.ofNat k))])) (fun tt_ kk_ => XS.iloadN X0.here hx rfl (hb hby d4_26) rfl kk_) ?_
      by_cases hc27 : (0 : Int32) < (Int32.ofNat k)
      · refine Ends.to (T' := s₁) (g' := (mkF m 30 #[.val (.ref a1), .val (.int (Int32.ofNat k)), .val (.ref a2), .val (.int (Int32.ofNat s0)), .val (.int (Int32.ofNat n)), .val (.int (Int32.ofNat i)), .val (.int (g (s0 + i)))] [])) (fun tt_ kk_ => XS.ifNo X0.here hx rfl (hb hby d4_27) rfl ((if0 _ _).trans (tlt hc27).2.2.2) kk_) ?_
        have r27 : 0 < k := (own_pos (by omega)).mp hc27
        refine Ends.to (T' := s₁) (g' := (mkF m 31 #[.val (.ref a1), .val (.int (Int32.ofNat k)), .val (.ref a2), .val (.int (Int32.ofNat s0)), .val (.int (Int32.ofNat n)), .val (.int (Int32.ofNat i)), .val (.int (g (s0 + i)))] [(.ref a2)])) (fun tt_ kk_ => XS.aloadN X0.here hx rfl (hb hby d4_30) rfl rfl kk_) ?_
        refine Ends.to (T' := s₁) (g' := (mkF m 32 #[.val (.ref a1), .val (.int (Int32.ofNat k)), .val (.ref a2), .val (.int (Int32.ofNat s0)), .val (.int (Int32.ofNat n)), .val (.int (Int32.ofNat i)), .val (.int (g (s0 + i)))] [(.int (Int32.ofNat s0)), (.ref a2)])) (fun tt_ kk_ => XS.iloadN X0.here hx rfl (hb hby d4_31) rfl kk_) ?_
        refine Ends.to (T' := s₁) (g' := (mkF m 34 #[.val (.ref a1), .val (.int (Int32.ofNat k)), .val (.ref a2), .val (.int (Int32.ofNat s0)), .val (.int (Int32.ofNat n)), .val (.int (Int32.ofNat i)), .val (.int (g (s0 + i)))] [(.int (Int32.ofNat i)), (.int (Int32.ofNat s0)), (.ref a2)])) (fun tt_ kk_ => XS.iload X0.here hx rfl (hb hby d4_32) rfl kk_) ?_
        refine Ends.to (T' := s₁) (g' := (mkF m 35 #[.val (.ref a1), .val (.int (Int32.ofNat k)), .val (.ref a2), .val (.int (Int32.ofNat s0)), .val (.int (Int32.ofNat n)), .val (.int (Int32.ofNat i)), .val (.int (g (s0 + i)))] [(.int ((Int32.ofNat s0) + (Int32.ofNat i))), (.ref a2)])) (fun tt_ kk_ => XS.iadd X0.here hx rfl (hb hby d4_34) rfl kk_) ?_
        refine Ends.to (T' := s₁) (g' := (mkF m 36 #[.val (.ref a1), .val (.int (Int32.ofNat k)), .val (.ref a2), .val (.int (Int32.ofNat s0)), .val (.int (Int32.ofNat n)), .val (.int (Int32.ofNat i)), .val (.int (g (s0 + i)))] [(.int (1 : Int32)), (.int ((Int32.ofNat s0) + (Int32.ofNat i))), (.ref a2)])) (fun tt_ kk_ => XS.iconst X0.here hx rfl (hb hby d4_35) kk_) ?_
        refine Ends.to (T' := s₁) (g' := (mkF m 37 #[.val (.ref a1), .val (.int (Int32.ofNat k)), .val (.ref a2), .val (.int (Int32.ofNat s0)), .val (.int (Int32.ofNat n)), .val (.int (Int32.ofNat i)), .val (.int (g (s0 + i)))] [(.int (((Int32.ofNat s0) + (Int32.ofNat i)) - (1 : Int32))), (.ref a2)])) (fun tt_ kk_ => XS.isub X0.here hx rfl (hb hby d4_36) rfl kk_) ?_
        refine Ends.to (T' := s₁) (g' := (mkF m 38 #[.val (.ref a1), .val (.int (Int32.ofNat k)), .val (.ref a2), .val (.int (Int32.ofNat s0)), .val (.int (Int32.ofNat n)), .val (.int (Int32.ofNat i)), .val (.int (g (s0 + i)))] [(.int (g (s0 + i - 1)))])) (fun tt_ kk_ => BA.ldB X0 hx hZ e0 B2 (j := (((Int32.ofNat s0) + (Int32.ofNat i)) - (1 : Int32))) (i := (s0 + i - 1)) (by rw [← Int32.ofNat_add, own_sub1 (n := s0 + i) (by omega)]; exact own_nneg (by omega)) (by rw [← Int32.ofNat_add, own_sub1 (n := s0 + i) (by omega)]; exact own_clamp (by omega)) (by omega) (g := (mkF m 37 #[.val (.ref a1), .val (.int (Int32.ofNat k)), .val (.ref a2), .val (.int (Int32.ofNat s0)), .val (.int (Int32.ofNat n)), .val (.int (Int32.ofNat i)), .val (.int (g (s0 + i)))] [(.int (((Int32.ofNat s0) + (Int32.ofNat i)) - (1 : Int32))), (.ref a2)])) rfl rfl (hb hby d4_37) tt_ kk_) ?_
        refine Ends.to (T' := s₁) (g' := (mkF m 40 #[.val (.ref a1), .val (.int (Int32.ofNat k)), .val (.ref a2), .val (.int (Int32.ofNat s0)), .val (.int (Int32.ofNat n)), .val (.int (Int32.ofNat i)), .val (.int (g (s0 + i)))] [(.int (32 : Int32)), (.int (g (s0 + i - 1)))])) (fun tt_ kk_ => XS.bipush X0.here hx rfl (hb hby d4_38) kk_) ?_
        by_cases hc40 : (g (s0 + i - 1)) = (32 : Int32)
        · refine Ends.to (T' := s₁) (g' := (mkF m 43 #[.val (.ref a1), .val (.int (Int32.ofNat k)), .val (.ref a2), .val (.int (Int32.ofNat s0)), .val (.int (Int32.ofNat n)), .val (.int (Int32.ofNat i)), .val (.int (g (s0 + i)))] [])) (fun tt_ kk_ => XS.icmpNo X0.here hx rfl (hb hby d4_40) rfl (teq hc40).2 kk_) ?_
          refine Ends.to (T' := s₁) (g' := (mkF m 44 #[.val (.ref a1), .val (.int (Int32.ofNat k)), .val (.ref a2), .val (.int (Int32.ofNat s0)), .val (.int (Int32.ofNat n)), .val (.int (Int32.ofNat i)), .val (.int (g (s0 + i)))] [(.ref a1)])) (fun tt_ kk_ => XS.aloadN X0.here hx rfl (hb hby d4_43) rfl rfl kk_) ?_
          refine Ends.to (T' := s₁) (g' := (mkF m 45 #[.val (.ref a1), .val (.int (Int32.ofNat k)), .val (.ref a2), .val (.int (Int32.ofNat s0)), .val (.int (Int32.ofNat n)), .val (.int (Int32.ofNat i)), .val (.int (g (s0 + i)))] [(.int (Int32.ofNat k)), (.ref a1)])) (fun tt_ kk_ => XS.iloadN X0.here hx rfl (hb hby d4_44) rfl kk_) ?_
          refine Ends.to (T' := s₁) (g' := (mkF m 47 #[.val (.ref a1), .val (.int (Int32.ofNat k)), .val (.ref a2), .val (.int (Int32.ofNat s0)), .val (.int (Int32.ofNat n)), .val (.int (Int32.ofNat i)), .val (.int (g (s0 + i)))] [(.int (32 : Int32)), (.int (Int32.ofNat k)), (.ref a1)])) (fun tt_ kk_ => XS.bipush X0.here hx rfl (hb hby d4_45) kk_) ?_
          obtain ⟨T22, h22, X22, e22, W22, B1', st22⟩ := BA.stB X0 hx hZ e0 B1 (j := (Int32.ofNat k)) (i := k) (own_nneg (by omega)) (own_clamp (by omega)) (by omega) (g := (mkF m 47 #[.val (.ref a1), .val (.int (Int32.ofNat k)), .val (.ref a2), .val (.int (Int32.ofNat s0)), .val (.int (Int32.ofNat n)), .val (.int (Int32.ofNat i)), .val (.int (g (s0 + i)))] [(.int (32 : Int32)), (.int (Int32.ofNat k)), (.ref a1)])) rfl rfl (hb hby d4_47)
          have B2 := BA.other W22 B2 hne
          have K1 := Keep.wr K1 W22 (Or.inl (List.mem_of_getElem? (i := 0) rfl))
          have B1 := B1'
          clear B1'
          have N22 := Fr.snoc X22 N0 g1
          refine Ends.to (T' := T22) (g' := (mkF m 48 #[.val (.ref a1), .val (.int (Int32.ofNat k)), .val (.ref a2), .val (.int (Int32.ofNat s0)), .val (.int (Int32.ofNat n)), .val (.int (Int32.ofNat i)), .val (.int (g (s0 + i)))] [])) (fun tt_ kk_ => st22 tt_ kk_) ?_
          refine Ends.to (T' := T22) (g' := (mkF m 49 #[.val (.ref a1), .val (.int (Int32.ofNat k)), .val (.ref a2), .val (.int (Int32.ofNat s0)), .val (.int (Int32.ofNat n)), .val (.int (Int32.ofNat i)), .val (.int (g (s0 + i)))] [(.int (Int32.ofNat k))])) (fun tt_ kk_ => XS.iloadN X22.here hx rfl (hb hby d4_48) rfl kk_) ?_
          refine Ends.to (T' := T22) (g' := (mkF m 50 #[.val (.ref a1), .val (.int (Int32.ofNat k)), .val (.ref a2), .val (.int (Int32.ofNat s0)), .val (.int (Int32.ofNat n)), .val (.int (Int32.ofNat i)), .val (.int (g (s0 + i)))] [(.int (1 : Int32)), (.int (Int32.ofNat k))])) (fun tt_ kk_ => XS.iconst X22.here hx rfl (hb hby d4_49) kk_) ?_
          refine Ends.to (T' := T22) (g' := (mkF m 51 #[.val (.ref a1), .val (.int (Int32.ofNat k)), .val (.ref a2), .val (.int (Int32.ofNat s0)), .val (.int (Int32.ofNat n)), .val (.int (Int32.ofNat i)), .val (.int (g (s0 + i)))] [(.int ((Int32.ofNat k) + (1 : Int32)))])) (fun tt_ kk_ => XS.iadd X22.here hx rfl (hb hby d4_50) rfl kk_) ?_
          refine Ends.to (T' := T22) (g' := (mkF m 52 #[.val (.ref a1), .val (.int ((Int32.ofNat k) + (1 : Int32))), .val (.ref a2), .val (.int (Int32.ofNat s0)), .val (.int (Int32.ofNat n)), .val (.int (Int32.ofNat i)), .val (.int (g (s0 + i)))] [])) (fun tt_ kk_ => XS.istoreN X22.here hx rfl (hb hby d4_51) rfl (l' := #[.val (.ref a1), .val (.int ((Int32.ofNat k) + (1 : Int32))), .val (.ref a2), .val (.int (Int32.ofNat s0)), .val (.int (Int32.ofNat n)), .val (.int (Int32.ofNat i)), .val (.int (g (s0 + i)))]) rfl kk_) ?_
          rw [own_inc]
          refine Ends.to (T' := T22) (g' := (mkF m 53 #[.val (.ref a1), .val (.int (Int32.ofNat (k + 1))), .val (.ref a2), .val (.int (Int32.ofNat s0)), .val (.int (Int32.ofNat n)), .val (.int (Int32.ofNat i)), .val (.int (g (s0 + i)))] [(.ref a1)])) (fun tt_ kk_ => XS.aloadN X22.here hx rfl (hb hby d4_52) rfl rfl kk_) ?_
          refine Ends.to (T' := T22) (g' := (mkF m 54 #[.val (.ref a1), .val (.int (Int32.ofNat (k + 1))), .val (.ref a2), .val (.int (Int32.ofNat s0)), .val (.int (Int32.ofNat n)), .val (.int (Int32.ofNat i)), .val (.int (g (s0 + i)))] [(.int (Int32.ofNat (k + 1))), (.ref a1)])) (fun tt_ kk_ => XS.iloadN X22.here hx rfl (hb hby d4_53) rfl kk_) ?_
          refine Ends.to (T' := T22) (g' := (mkF m 56 #[.val (.ref a1), .val (.int (Int32.ofNat (k + 1))), .val (.ref a2), .val (.int (Int32.ofNat s0)), .val (.int (Int32.ofNat n)), .val (.int (Int32.ofNat i)), .val (.int (g (s0 + i)))] [(.int (g (s0 + i))), (.int (Int32.ofNat (k + 1))), (.ref a1)])) (fun tt_ kk_ => XS.iload X22.here hx rfl (hb hby d4_54) rfl kk_) ?_
          obtain ⟨T23, h23, X23, e23, W23, B1', st23⟩ := BA.stB X22 hx hZ e22 B1 (j := (Int32.ofNat (k + 1))) (i := (k + 1)) (own_nneg (by omega)) (own_clamp (by omega)) (by omega) (g := (mkF m 56 #[.val (.ref a1), .val (.int (Int32.ofNat (k + 1))), .val (.ref a2), .val (.int (Int32.ofNat s0)), .val (.int (Int32.ofNat n)), .val (.int (Int32.ofNat i)), .val (.int (g (s0 + i)))] [(.int (g (s0 + i))), (.int (Int32.ofNat (k + 1))), (.ref a1)])) rfl rfl (hb hby d4_56)
          have B2 := BA.other W23 B2 hne
          have K1 := Keep.wr K1 W23 (Or.inl (List.mem_of_getElem? (i := 0) rfl))
          have B1 := B1'
          clear B1'
          have N23 := Fr.snoc X23 N22 g1
          refine Ends.to (T' := T23) (g' := (mkF m 57 #[.val (.ref a1), .val (.int (Int32.ofNat (k + 1))), .val (.ref a2), .val (.int (Int32.ofNat s0)), .val (.int (Int32.ofNat n)), .val (.int (Int32.ofNat i)), .val (.int (g (s0 + i)))] [])) (fun tt_ kk_ => st23 tt_ kk_) ?_
          refine Ends.to (T' := T23) (g' := (mkF m 58 #[.val (.ref a1), .val (.int (Int32.ofNat (k + 1))), .val (.ref a2), .val (.int (Int32.ofNat s0)), .val (.int (Int32.ofNat n)), .val (.int (Int32.ofNat i)), .val (.int (g (s0 + i)))] [(.int (Int32.ofNat (k + 1)))])) (fun tt_ kk_ => XS.iloadN X23.here hx rfl (hb hby d4_57) rfl kk_) ?_
          refine Ends.to (T' := T23) (g' := (mkF m 59 #[.val (.ref a1), .val (.int (Int32.ofNat (k + 1))), .val (.ref a2), .val (.int (Int32.ofNat s0)), .val (.int (Int32.ofNat n)), .val (.int (Int32.ofNat i)), .val (.int (g (s0 + i)))] [(.int (1 : Int32)), (.int (Int32.ofNat (k + 1)))])) (fun tt_ kk_ => XS.iconst X23.here hx rfl (hb hby d4_58) kk_) ?_
          refine Ends.to (T' := T23) (g' := (mkF m 60 #[.val (.ref a1), .val (.int (Int32.ofNat (k + 1))), .val (.ref a2), .val (.int (Int32.ofNat s0)), .val (.int (Int32.ofNat n)), .val (.int (Int32.ofNat i)), .val (.int (g (s0 + i)))] [(.int ((Int32.ofNat (k + 1)) + (1 : Int32)))])) (fun tt_ kk_ => XS.iadd X23.here hx rfl (hb hby d4_59) rfl kk_) ?_
          refine Ends.retI X23 hx hret (hb hby d4_60) hlk (by decide) (by decide) ?_
          have em : own_emit g E s0 n i k = ((k + 2), (upd (upd E k (((32 : Int32)).toInt8.toInt32)) (k + 1) (((g (s0 + i))).toInt8.toInt32))) := by rw [own_emit, if_pos r4, if_neg hc21, if_pos ⟨r27, hc40⟩]
          rw [own_inc]
          rw [em]
          exact ⟨rfl, N23, by rw [e23]; exact ⟨K1, B1⟩⟩
        · refine Ends.to (T' := s₁) (g' := (mkF m 52 #[.val (.ref a1), .val (.int (Int32.ofNat k)), .val (.ref a2), .val (.int (Int32.ofNat s0)), .val (.int (Int32.ofNat n)), .val (.int (Int32.ofNat i)), .val (.int (g (s0 + i)))] [])) (fun tt_ kk_ => XS.icmpYes X0.here hx rfl (pc0 := 40) (pc' := 52) rfl (hb hby d4_40) rfl (feq hc40).2 (by decide) (by decide) kk_) ?_
          refine Ends.to (T' := s₁) (g' := (mkF m 53 #[.val (.ref a1), .val (.int (Int32.ofNat k)), .val (.ref a2), .val (.int (Int32.ofNat s0)), .val (.int (Int32.ofNat n)), .val (.int (Int32.ofNat i)), .val (.int (g (s0 + i)))] [(.ref a1)])) (fun tt_ kk_ => XS.aloadN X0.here hx rfl (hb hby d4_52) rfl rfl kk_) ?_
          refine Ends.to (T' := s₁) (g' := (mkF m 54 #[.val (.ref a1), .val (.int (Int32.ofNat k)), .val (.ref a2), .val (.int (Int32.ofNat s0)), .val (.int (Int32.ofNat n)), .val (.int (Int32.ofNat i)), .val (.int (g (s0 + i)))] [(.int (Int32.ofNat k)), (.ref a1)])) (fun tt_ kk_ => XS.iloadN X0.here hx rfl (hb hby d4_53) rfl kk_) ?_
          refine Ends.to (T' := s₁) (g' := (mkF m 56 #[.val (.ref a1), .val (.int (Int32.ofNat k)), .val (.ref a2), .val (.int (Int32.ofNat s0)), .val (.int (Int32.ofNat n)), .val (.int (Int32.ofNat i)), .val (.int (g (s0 + i)))] [(.int (g (s0 + i))), (.int (Int32.ofNat k)), (.ref a1)])) (fun tt_ kk_ => XS.iload X0.here hx rfl (hb hby d4_54) rfl kk_) ?_
          obtain ⟨T24, h24, X24, e24, W24, B1', st24⟩ := BA.stB X0 hx hZ e0 B1 (j := (Int32.ofNat k)) (i := k) (own_nneg (by omega)) (own_clamp (by omega)) (by omega) (g := (mkF m 56 #[.val (.ref a1), .val (.int (Int32.ofNat k)), .val (.ref a2), .val (.int (Int32.ofNat s0)), .val (.int (Int32.ofNat n)), .val (.int (Int32.ofNat i)), .val (.int (g (s0 + i)))] [(.int (g (s0 + i))), (.int (Int32.ofNat k)), (.ref a1)])) rfl rfl (hb hby d4_56)
          have B2 := BA.other W24 B2 hne
          have K1 := Keep.wr K1 W24 (Or.inl (List.mem_of_getElem? (i := 0) rfl))
          have B1 := B1'
          clear B1'
          have N24 := Fr.snoc X24 N0 g1
          refine Ends.to (T' := T24) (g' := (mkF m 57 #[.val (.ref a1), .val (.int (Int32.ofNat k)), .val (.ref a2), .val (.int (Int32.ofNat s0)), .val (.int (Int32.ofNat n)), .val (.int (Int32.ofNat i)), .val (.int (g (s0 + i)))] [])) (fun tt_ kk_ => st24 tt_ kk_) ?_
          refine Ends.to (T' := T24) (g' := (mkF m 58 #[.val (.ref a1), .val (.int (Int32.ofNat k)), .val (.ref a2), .val (.int (Int32.ofNat s0)), .val (.int (Int32.ofNat n)), .val (.int (Int32.ofNat i)), .val (.int (g (s0 + i)))] [(.int (Int32.ofNat k))])) (fun tt_ kk_ => XS.iloadN X24.here hx rfl (hb hby d4_57) rfl kk_) ?_
          refine Ends.to (T' := T24) (g' := (mkF m 59 #[.val (.ref a1), .val (.int (Int32.ofNat k)), .val (.ref a2), .val (.int (Int32.ofNat s0)), .val (.int (Int32.ofNat n)), .val (.int (Int32.ofNat i)), .val (.int (g (s0 + i)))] [(.int (1 : Int32)), (.int (Int32.ofNat k))])) (fun tt_ kk_ => XS.iconst X24.here hx rfl (hb hby d4_58) kk_) ?_
          refine Ends.to (T' := T24) (g' := (mkF m 60 #[.val (.ref a1), .val (.int (Int32.ofNat k)), .val (.ref a2), .val (.int (Int32.ofNat s0)), .val (.int (Int32.ofNat n)), .val (.int (Int32.ofNat i)), .val (.int (g (s0 + i)))] [(.int ((Int32.ofNat k) + (1 : Int32)))])) (fun tt_ kk_ => XS.iadd X24.here hx rfl (hb hby d4_59) rfl kk_) ?_
          refine Ends.retI X24 hx hret (hb hby d4_60) hlk (by decide) (by decide) ?_
          have em : own_emit g E s0 n i k = ((k + 1), (upd E k (((g (s0 + i))).toInt8.toInt32))) := by rw [own_emit, if_pos r4, if_neg hc21, if_neg (fun z => hc40 z.2)]
          rw [own_inc]
          rw [em]
          exact ⟨rfl, N24, by rw [e24]; exact ⟨K1, B1⟩⟩
      · refine Ends.to (T' := s₁) (g' := (mkF m 52 #[.val (.ref a1), .val (.int (Int32.ofNat k)), .val (.ref a2), .val (.int (Int32.ofNat s0)), .val (.int (Int32.ofNat n)), .val (.int (Int32.ofNat i)), .val (.int (g (s0 + i)))] [])) (fun tt_ kk_ => XS.ifYes X0.here hx rfl (pc0 := 27) (pc' := 52) rfl (hb hby d4_27) rfl ((if0 _ _).trans (flt hc27).2.2.2) (by decide) (by decide) kk_) ?_
        have r27 : k = 0 := Nat.eq_zero_of_not_pos (fun z => hc27 ((own_pos (by omega)).mpr z))
        refine Ends.to (T' := s₁) (g' := (mkF m 53 #[.val (.ref a1), .val (.int (Int32.ofNat k)), .val (.ref a2), .val (.int (Int32.ofNat s0)), .val (.int (Int32.ofNat n)), .val (.int (Int32.ofNat i)), .val (.int (g (s0 + i)))] [(.ref a1)])) (fun tt_ kk_ => XS.aloadN X0.here hx rfl (hb hby d4_52) rfl rfl kk_) ?_
        refine Ends.to (T' := s₁) (g' := (mkF m 54 #[.val (.ref a1), .val (.int (Int32.ofNat k)), .val (.ref a2), .val (.int (Int32.ofNat s0)), .val (.int (Int32.ofNat n)), .val (.int (Int32.ofNat i)), .val (.int (g (s0 + i)))] [(.int (Int32.ofNat k)), (.ref a1)])) (fun tt_ kk_ => XS.iloadN X0.here hx rfl (hb hby d4_53) rfl kk_) ?_
        refine Ends.to (T' := s₁) (g' := (mkF m 56 #[.val (.ref a1), .val (.int (Int32.ofNat k)), .val (.ref a2), .val (.int (Int32.ofNat s0)), .val (.int (Int32.ofNat n)), .val (.int (Int32.ofNat i)), .val (.int (g (s0 + i)))] [(.int (g (s0 + i))), (.int (Int32.ofNat k)), (.ref a1)])) (fun tt_ kk_ => XS.iload X0.here hx rfl (hb hby d4_54) rfl kk_) ?_
        obtain ⟨T25, h25, X25, e25, W25, B1', st25⟩ := BA.stB X0 hx hZ e0 B1 (j := (Int32.ofNat k)) (i := k) (own_nneg (by omega)) (own_clamp (by omega)) (by omega) (g := (mkF m 56 #[.val (.ref a1), .val (.int (Int32.ofNat k)), .val (.ref a2), .val (.int (Int32.ofNat s0)), .val (.int (Int32.ofNat n)), .val (.int (Int32.ofNat i)), .val (.int (g (s0 + i)))] [(.int (g (s0 + i))), (.int (Int32.ofNat k)), (.ref a1)])) rfl rfl (hb hby d4_56)
        have B2 := BA.other W25 B2 hne
        have K1 := Keep.wr K1 W25 (Or.inl (List.mem_of_getElem? (i := 0) rfl))
        have B1 := B1'
        clear B1'
        have N25 := Fr.snoc X25 N0 g1
        refine Ends.to (T' := T25) (g' := (mkF m 57 #[.val (.ref a1), .val (.int (Int32.ofNat k)), .val (.ref a2), .val (.int (Int32.ofNat s0)), .val (.int (Int32.ofNat n)), .val (.int (Int32.ofNat i)), .val (.int (g (s0 + i)))] [])) (fun tt_ kk_ => st25 tt_ kk_) ?_
        refine Ends.to (T' := T25) (g' := (mkF m 58 #[.val (.ref a1), .val (.int (Int32.ofNat k)), .val (.ref a2), .val (.int (Int32.ofNat s0)), .val (.int (Int32.ofNat n)), .val (.int (Int32.ofNat i)), .val (.int (g (s0 + i)))] [(.int (Int32.ofNat k))])) (fun tt_ kk_ => XS.iloadN X25.here hx rfl (hb hby d4_57) rfl kk_) ?_
        refine Ends.to (T' := T25) (g' := (mkF m 59 #[.val (.ref a1), .val (.int (Int32.ofNat k)), .val (.ref a2), .val (.int (Int32.ofNat s0)), .val (.int (Int32.ofNat n)), .val (.int (Int32.ofNat i)), .val (.int (g (s0 + i)))] [(.int (1 : Int32)), (.int (Int32.ofNat k))])) (fun tt_ kk_ => XS.iconst X25.here hx rfl (hb hby d4_58) kk_) ?_
        refine Ends.to (T' := T25) (g' := (mkF m 60 #[.val (.ref a1), .val (.int (Int32.ofNat k)), .val (.ref a2), .val (.int (Int32.ofNat s0)), .val (.int (Int32.ofNat n)), .val (.int (Int32.ofNat i)), .val (.int (g (s0 + i)))] [(.int ((Int32.ofNat k) + (1 : Int32)))])) (fun tt_ kk_ => XS.iadd X25.here hx rfl (hb hby d4_59) rfl kk_) ?_
        refine Ends.retI X25 hx hret (hb hby d4_60) hlk (by decide) (by decide) ?_
        have em : own_emit g E s0 n i k = ((k + 1), (upd E k (((g (s0 + i))).toInt8.toInt32))) := by rw [own_emit, if_pos r4, if_neg hc21, if_neg (fun z => by have := z.1; omega)]
        rw [own_inc]
        rw [em]
        exact ⟨rfl, N25, by rw [e25]; exact ⟨K1, B1⟩⟩
  · refine Ends.to (T' := s₁) (g' := (mkF m 7 #[.val (.ref a1), .val (.int (Int32.ofNat k)), .val (.ref a2), .val (.int (Int32.ofNat s0)), .val (.int (Int32.ofNat n)), .val (.int (Int32.ofNat i)), .unset] [])) (fun tt_ kk_ => XS.icmpNo X0.here hx rfl (hb hby d4_4) rfl (flt hc4).1 kk_) ?_
    have r4 : ¬ i < n := fun z => hc4 ((own_cmp (by omega) (by omega)).mpr z)
    refine Ends.to (T' := s₁) (g' := (mkF m 8 #[.val (.ref a1), .val (.int (Int32.ofNat k)), .val (.ref a2), .val (.int (Int32.ofNat s0)), .val (.int (Int32.ofNat n)), .val (.int (Int32.ofNat i)), .unset] [(.int (Int32.ofNat k))])) (fun tt_ kk_ => XS.iloadN X0.here hx rfl (hb hby d4_7) rfl kk_) ?_
    refine Ends.retI X0 hx hret (hb hby d4_8) hlk (by decide) (by decide) ?_
    have em : own_emit g E s0 n i k = (k, E) := by rw [own_emit, if_neg r4]
    rw [em]
    exact ⟨rfl, N0, by rw [e0]; exact ⟨K1, B1⟩⟩
set_option maxRecDepth 65536 in
set_option maxHeartbeats 40000000 in
def Q_rm5 (Z : State) (a1 a2 : Addr) (s0 j k : Nat) (f E : Nat → Int32) (h0 : Heap) (n0 : Nat) : Option Value → Heap → List Loc → Prop := fun v h L => v = some (.int 1) ∧ Fr n0 L ∧ h = h0
set_option maxRecDepth 65536 in
set_option maxHeartbeats 40000000 in
theorem rm5 (l : Launch) (Z : State) (a0 : Array Value) (hw : ∀ d ∈ tables_1, d.before a0 Z = true) (ws : List Jvm.Cond) (a1 a2 : Addr) (s0 j k : Nat) (f E : Nat → Int32) (h0 : Heap) (n0 : Nat) (Z0 : n0 ≤ h0.size) (hj : s0 + j < 8) (hk : k ≤ 8) (H : j < k → f (s0 + j) = E j) (B1 : BB Z h0 a1 8 f) (B2 : BB Z h0 a2 8 E) :
    Pays l (⟨"com/example/predicate/predicate/document/AttributeDeclarationNormalizePinLaw", "inside", "([B[BIII)Z"⟩ : MethodName) method_6_code 5 (some .boolean) ws ({ frames := 0, cells := 0, slots := 0, locals := 0 } : Room) #[(.ref a1), (.ref a2), (.int (Int32.ofNat s0)), (.int (Int32.ofNat j)), (.int (Int32.ofNat k))] Z h0 (Q_rm5 Z a1 a2 s0 j k f E h0 n0) := by
  refine Pays.of (plainFor_of_name pn_5) ?_
  intro p e s m below meth c s₁ hx hby hml hown hnm hret hlk hZ X0 e0
  have hown : s.vm.findClass "com/example/predicate/predicate/document/AttributeDeclarationNormalizePinLaw" = some m.cls := hown
  have hnm : meth.name = "inside" := hnm
  have hml : c.maxLocals = 5 := hml
  show Ends p e below s _ _ (fun v h L => v = some (.int 1) ∧ Fr n0 L ∧ h = h0) s₁ _
  refine Ends.cast (ef_5 m a1 a2 (Int32.ofNat s0) (Int32.ofNat j) (Int32.ofNat k)) ?_
  have N0 := Fr.nil n0
  refine Ends.to (T' := s₁) (g' := (mkF m 1 #[.val (.ref a1), .val (.ref a2), .val (.int (Int32.ofNat s0)), .val (.int (Int32.ofNat j)), .val (.int (Int32.ofNat k))] [(.int (Int32.ofNat j))])) (fun tt_ kk_ => XS.iloadN X0.here hx rfl (hb hby d5_0) rfl kk_) ?_
  refine Ends.to (T' := s₁) (g' := (mkF m 3 #[.val (.ref a1), .val (.ref a2), .val (.int (Int32.ofNat s0)), .val (.int (Int32.ofNat j)), .val (.int (Int32.ofNat k))] [(.int (Int32.ofNat k)), (.int (Int32.ofNat j))])) (fun tt_ kk_ => XS.iload X0.here hx rfl (hb hby d5_1) rfl kk_) ?_
  by_cases hc3 : (Int32.ofNat j) < (Int32.ofNat k)
  · refine Ends.to (T' := s₁) (g' := (mkF m 6 #[.val (.ref a1), .val (.ref a2), .val (.int (Int32.ofNat s0)), .val (.int (Int32.ofNat j)), .val (.int (Int32.ofNat k))] [])) (fun tt_ kk_ => XS.icmpNo X0.here hx rfl (hb hby d5_3) rfl (tlt hc3).2.1 kk_) ?_
    refine Ends.to (T' := s₁) (g' := (mkF m 7 #[.val (.ref a1), .val (.ref a2), .val (.int (Int32.ofNat s0)), .val (.int (Int32.ofNat j)), .val (.int (Int32.ofNat k))] [(.ref a1)])) (fun tt_ kk_ => XS.aloadN X0.here hx rfl (hb hby d5_6) rfl rfl kk_) ?_
    refine Ends.to (T' := s₁) (g' := (mkF m 8 #[.val (.ref a1), .val (.ref a2), .val (.int (Int32.ofNat s0)), .val (.int (Int32.ofNat j)), .val (.int (Int32.ofNat k))] [(.int (Int32.ofNat s0)), (.ref a1)])) (fun tt_ kk_ => XS.iloadN X0.here hx rfl (hb hby d5_7) rfl kk_) ?_
    refine Ends.to (T' := s₁) (g' := (mkF m 9 #[.val (.ref a1), .val (.ref a2), .val (.int (Int32.ofNat s0)), .val (.int (Int32.ofNat j)), .val (.int (Int32.ofNat k))] [(.int (Int32.ofNat j)), (.int (Int32.ofNat s0)), (.ref a1)])) (fun tt_ kk_ => XS.iloadN X0.here hx rfl (hb hby d5_8) rfl kk_) ?_
    refine Ends.to (T' := s₁) (g' := (mkF m 10 #[.val (.ref a1), .val (.ref a2), .val (.int (Int32.ofNat s0)), .val (.int (Int32.ofNat j)), .val (.int (Int32.ofNat k))] [(.int ((Int32.ofNat s0) + (Int32.ofNat j))), (.ref a1)])) (fun tt_ kk_ => XS.iadd X0.here hx rfl (hb hby d5_9) rfl kk_) ?_
    refine Ends.to (T' := s₁) (g' := (mkF m 11 #[.val (.ref a1), .val (.ref a2), .val (.int (Int32.ofNat s0)), .val (.int (Int32.ofNat j)), .val (.int (Int32.ofNat k))] [(.int (f (s0 + j)))])) (fun tt_ kk_ => BA.ldB X0 hx hZ e0 B1 (j := ((Int32.ofNat s0) + (Int32.ofNat j))) (i := (s0 + j)) (by rw [← Int32.ofNat_add]; exact own_nneg (by omega)) (by rw [← Int32.ofNat_add]; exact own_clamp (by omega)) (by omega) (g := (mkF m 10 #[.val (.ref a1), .val (.ref a2), .val (.int (Int32.ofNat s0)), .val (.int (Int32.ofNat j)), .val (.int (Int32.ofNat k))] [(.int ((Int32.ofNat s0) + (Int32.ofNat j))), (.ref a1)])) rfl rfl (hb hby d5_10) tt_ kk_) ?_
    refine Ends.to (T' := s₁) (g' := (mkF m 12 #[.val (.ref a1), .val (.ref a2), .val (.int (Int32.ofNat s0)), .val (.int (Int32.ofNat j)), .val (.int (Int32.ofNat k))] [(.ref a2), (.int (f (s0 + j)))])) (fun tt_ kk_ => XS.aloadN X0.here hx rfl (hb hby d5_11) rfl rfl kk_) ?_
    refine Ends.to (T' := s₁) (g' := (mkF m 13 #[.val (.ref a1), .val (.ref a2), .val (.int (Int32.ofNat s0)), .val (.int (Int32.ofNat j)), .val (.int (Int32.ofNat k))] [(.int (Int32.ofNat j)), (.ref a2), (.int (f (s0 + j)))])) (fun tt_ kk_ => XS.iloadN X0.here hx rfl (hb hby d5_12) rfl kk_) ?_
    refine Ends.to (T' := s₁) (g' := (mkF m 14 #[.val (.ref a1), .val (.ref a2), .val (.int (Int32.ofNat s0)), .val (.int (Int32.ofNat j)), .val (.int (Int32.ofNat k))] [(.int (E j)), (.int (f (s0 + j)))])) (fun tt_ kk_ => BA.ldB X0 hx hZ e0 B2 (j := (Int32.ofNat j)) (i := j) (own_nneg (by omega)) (own_clamp (by omega)) (by omega) (g := (mkF m 13 #[.val (.ref a1), .val (.ref a2), .val (.int (Int32.ofNat s0)), .val (.int (Int32.ofNat j)), .val (.int (Int32.ofNat k))] [(.int (Int32.ofNat j)), (.ref a2), (.int (f (s0 + j)))])) rfl rfl (hb hby d5_13) tt_ kk_) ?_
    refine Ends.to (T' := s₁) (g' := (mkF m 17 #[.val (.ref a1), .val (.ref a2), .val (.int (Int32.ofNat s0)), .val (.int (Int32.ofNat j)), .val (.int (Int32.ofNat k))] [])) (fun tt_ kk_ => XS.icmpNo X0.here hx rfl (hb hby d5_14) rfl (teq (H ((own_cmp (by omega) (by omega)).mp hc3))).2 kk_) ?_
    refine Ends.to (T' := s₁) (g' := (mkF m 18 #[.val (.ref a1), .val (.ref a2), .val (.int (Int32.ofNat s0)), .val (.int (Int32.ofNat j)), .val (.int (Int32.ofNat k))] [(.int (1 : Int32))])) (fun tt_ kk_ => XS.iconst X0.here hx rfl (hb hby d5_17) kk_) ?_
    refine Ends.to (T' := s₁) (g' := (mkF m 22 #[.val (.ref a1), .val (.ref a2), .val (.int (Int32.ofNat s0)), .val (.int (Int32.ofNat j)), .val (.int (Int32.ofNat k))] [(.int (1 : Int32))])) (fun tt_ kk_ => XS.goto X0.here hx rfl (pc0 := 18) (pc' := 22) rfl (hb hby d5_18) (by decide) (by decide) kk_) ?_
    exact Ends.retN (t := .boolean) (by simp) X0 hx hret (hb hby d5_22) hlk (by decide) (by decide) ⟨by decide, N0, e0⟩
  · refine Ends.to (T' := s₁) (g' := (mkF m 17 #[.val (.ref a1), .val (.ref a2), .val (.int (Int32.ofNat s0)), .val (.int (Int32.ofNat j)), .val (.int (Int32.ofNat k))] [])) (fun tt_ kk_ => XS.icmpYes X0.here hx rfl (pc0 := 3) (pc' := 17) rfl (hb hby d5_3) rfl (flt hc3).2.1 (by decide) (by decide) kk_) ?_
    refine Ends.to (T' := s₁) (g' := (mkF m 18 #[.val (.ref a1), .val (.ref a2), .val (.int (Int32.ofNat s0)), .val (.int (Int32.ofNat j)), .val (.int (Int32.ofNat k))] [(.int (1 : Int32))])) (fun tt_ kk_ => XS.iconst X0.here hx rfl (hb hby d5_17) kk_) ?_
    refine Ends.to (T' := s₁) (g' := (mkF m 22 #[.val (.ref a1), .val (.ref a2), .val (.int (Int32.ofNat s0)), .val (.int (Int32.ofNat j)), .val (.int (Int32.ofNat k))] [(.int (1 : Int32))])) (fun tt_ kk_ => XS.goto X0.here hx rfl (pc0 := 18) (pc' := 22) rfl (hb hby d5_18) (by decide) (by decide) kk_) ?_
    exact Ends.retN (t := .boolean) (by simp) X0 hx hret (hb hby d5_22) hlk (by decide) (by decide) ⟨by decide, N0, e0⟩
set_option maxRecDepth 65536 in
set_option maxHeartbeats 40000000 in
def Q_rm6 (Z : State) (a1 a2 : Addr) (s0 n j : Nat) (f g : Nat → Int32) (h0 : Heap) (n0 : Nat) : Option Value → Heap → List Loc → Prop := fun v h L => v = some (.int 1) ∧ Fr n0 L ∧ h = h0
set_option maxRecDepth 65536 in
set_option maxHeartbeats 40000000 in
theorem rm6 (l : Launch) (Z : State) (a0 : Array Value) (hw : ∀ d ∈ tables_1, d.before a0 Z = true) (ws : List Jvm.Cond) (a1 a2 : Addr) (s0 n j : Nat) (f g : Nat → Int32) (h0 : Heap) (n0 : Nat) (Z0 : n0 ≤ h0.size) (hj : j < 8) (hn : s0 + n ≤ 8) (H : j < s0 ∨ s0 + n ≤ j → f j = g j) (B1 : BB Z h0 a1 8 f) (B2 : BB Z h0 a2 8 g) :
    Pays l (⟨"com/example/predicate/predicate/document/AttributeDeclarationNormalizePinLaw", "outside", "([B[BIII)Z"⟩ : MethodName) method_7_code 5 (some .boolean) ws ({ frames := 0, cells := 0, slots := 0, locals := 0 } : Room) #[(.ref a1), (.ref a2), (.int (Int32.ofNat s0)), (.int (Int32.ofNat n)), (.int (Int32.ofNat j))] Z h0 (Q_rm6 Z a1 a2 s0 n j f g h0 n0) := by
  refine Pays.of (plainFor_of_name pn_6) ?_
  intro p e s m below meth c s₁ hx hby hml hown hnm hret hlk hZ X0 e0
  have hown : s.vm.findClass "com/example/predicate/predicate/document/AttributeDeclarationNormalizePinLaw" = some m.cls := hown
  have hnm : meth.name = "outside" := hnm
  have hml : c.maxLocals = 5 := hml
  show Ends p e below s _ _ (fun v h L => v = some (.int 1) ∧ Fr n0 L ∧ h = h0) s₁ _
  refine Ends.cast (ef_6 m a1 a2 (Int32.ofNat s0) (Int32.ofNat n) (Int32.ofNat j)) ?_
  have N0 := Fr.nil n0
  refine Ends.to (T' := s₁) (g' := (mkF m 2 #[.val (.ref a1), .val (.ref a2), .val (.int (Int32.ofNat s0)), .val (.int (Int32.ofNat n)), .val (.int (Int32.ofNat j))] [(.int (Int32.ofNat j))])) (fun tt_ kk_ => XS.iload X0.here hx rfl (hb hby d6_0) rfl kk_) ?_
  refine Ends.to (T' := s₁) (g' := (mkF m 3 #[.val (.ref a1), .val (.ref a2), .val (.int (Int32.ofNat s0)), .val (.int (Int32.ofNat n)), .val (.int (Int32.ofNat j))] [(.int (Int32.ofNat s0)), (.int (Int32.ofNat j))])) (fun tt_ kk_ => XS.iloadN X0.here hx rfl (hb hby d6_2) rfl kk_) ?_
  by_cases hc3 : (Int32.ofNat j) < (Int32.ofNat s0)
  · refine Ends.to (T' := s₁) (g' := (mkF m 14 #[.val (.ref a1), .val (.ref a2), .val (.int (Int32.ofNat s0)), .val (.int (Int32.ofNat n)), .val (.int (Int32.ofNat j))] [])) (fun tt_ kk_ => XS.icmpYes X0.here hx rfl (pc0 := 3) (pc' := 14) rfl (hb hby d6_3) rfl (tlt hc3).1 (by decide) (by decide) kk_) ?_
    refine Ends.to (T' := s₁) (g' := (mkF m 15 #[.val (.ref a1), .val (.ref a2), .val (.int (Int32.ofNat s0)), .val (.int (Int32.ofNat n)), .val (.int (Int32.ofNat j))] [(.ref a1)])) (fun tt_ kk_ => XS.aloadN X0.here hx rfl (hb hby d6_14) rfl rfl kk_) ?_
    refine Ends.to (T' := s₁) (g' := (mkF m 17 #[.val (.ref a1), .val (.ref a2), .val (.int (Int32.ofNat s0)), .val (.int (Int32.ofNat n)), .val (.int (Int32.ofNat j))] [(.int (Int32.ofNat j)), (.ref a1)])) (fun tt_ kk_ => XS.iload X0.here hx rfl (hb hby d6_15) rfl kk_) ?_
    refine Ends.to (T' := s₁) (g' := (mkF m 18 #[.val (.ref a1), .val (.ref a2), .val (.int (Int32.ofNat s0)), .val (.int (Int32.ofNat n)), .val (.int (Int32.ofNat j))] [(.int (f j))])) (fun tt_ kk_ => BA.ldB X0 hx hZ e0 B1 (j := (Int32.ofNat j)) (i := j) (own_nneg (by omega)) (own_clamp (by omega)) (by omega) (g := (mkF m 17 #[.val (.ref a1), .val (.ref a2), .val (.int (Int32.ofNat s0)), .val (.int (Int32.ofNat n)), .val (.int (Int32.ofNat j))] [(.int (Int32.ofNat j)), (.ref a1)])) rfl rfl (hb hby d6_17) tt_ kk_) ?_
    refine Ends.to (T' := s₁) (g' := (mkF m 19 #[.val (.ref a1), .val (.ref a2), .val (.int (Int32.ofNat s0)), .val (.int (Int32.ofNat n)), .val (.int (Int32.ofNat j))] [(.ref a2), (.int (f j))])) (fun tt_ kk_ => XS.aloadN X0.here hx rfl (hb hby d6_18) rfl rfl kk_) ?_
    refine Ends.to (T' := s₁) (g' := (mkF m 21 #[.val (.ref a1), .val (.ref a2), .val (.int (Int32.ofNat s0)), .val (.int (Int32.ofNat n)), .val (.int (Int32.ofNat j))] [(.int (Int32.ofNat j)), (.ref a2), (.int (f j))])) (fun tt_ kk_ => XS.iload X0.here hx rfl (hb hby d6_19) rfl kk_) ?_
    refine Ends.to (T' := s₁) (g' := (mkF m 22 #[.val (.ref a1), .val (.ref a2), .val (.int (Int32.ofNat s0)), .val (.int (Int32.ofNat n)), .val (.int (Int32.ofNat j))] [(.int (g j)), (.int (f j))])) (fun tt_ kk_ => BA.ldB X0 hx hZ e0 B2 (j := (Int32.ofNat j)) (i := j) (own_nneg (by omega)) (own_clamp (by omega)) (by omega) (g := (mkF m 21 #[.val (.ref a1), .val (.ref a2), .val (.int (Int32.ofNat s0)), .val (.int (Int32.ofNat n)), .val (.int (Int32.ofNat j))] [(.int (Int32.ofNat j)), (.ref a2), (.int (f j))])) rfl rfl (hb hby d6_21) tt_ kk_) ?_
    refine Ends.to (T' := s₁) (g' := (mkF m 25 #[.val (.ref a1), .val (.ref a2), .val (.int (Int32.ofNat s0)), .val (.int (Int32.ofNat n)), .val (.int (Int32.ofNat j))] [])) (fun tt_ kk_ => XS.icmpNo X0.here hx rfl (hb hby d6_22) rfl (teq (H (Or.inl ((own_cmp (by omega) (by omega)).mp hc3)))).2 kk_) ?_
    refine Ends.to (T' := s₁) (g' := (mkF m 26 #[.val (.ref a1), .val (.ref a2), .val (.int (Int32.ofNat s0)), .val (.int (Int32.ofNat n)), .val (.int (Int32.ofNat j))] [(.int (1 : Int32))])) (fun tt_ kk_ => XS.iconst X0.here hx rfl (hb hby d6_25) kk_) ?_
    refine Ends.to (T' := s₁) (g' := (mkF m 30 #[.val (.ref a1), .val (.ref a2), .val (.int (Int32.ofNat s0)), .val (.int (Int32.ofNat n)), .val (.int (Int32.ofNat j))] [(.int (1 : Int32))])) (fun tt_ kk_ => XS.goto X0.here hx rfl (pc0 := 26) (pc' := 30) rfl (hb hby d6_26) (by decide) (by decide) kk_) ?_
    exact Ends.retN (t := .boolean) (by simp) X0 hx hret (hb hby d6_30) hlk (by decide) (by decide) ⟨by decide, N0, e0⟩
  · refine Ends.to (T' := s₁) (g' := (mkF m 6 #[.val (.ref a1), .val (.ref a2), .val (.int (Int32.ofNat s0)), .val (.int (Int32.ofNat n)), .val (.int (Int32.ofNat j))] [])) (fun tt_ kk_ => XS.icmpNo X0.here hx rfl (hb hby d6_3) rfl (flt hc3).1 kk_) ?_
    refine Ends.to (T' := s₁) (g' := (mkF m 8 #[.val (.ref a1), .val (.ref a2), .val (.int (Int32.ofNat s0)), .val (.int (Int32.ofNat n)), .val (.int (Int32.ofNat j))] [(.int (Int32.ofNat j))])) (fun tt_ kk_ => XS.iload X0.here hx rfl (hb hby d6_6) rfl kk_) ?_
    refine Ends.to (T' := s₁) (g' := (mkF m 9 #[.val (.ref a1), .val (.ref a2), .val (.int (Int32.ofNat s0)), .val (.int (Int32.ofNat n)), .val (.int (Int32.ofNat j))] [(.int (Int32.ofNat s0)), (.int (Int32.ofNat j))])) (fun tt_ kk_ => XS.iloadN X0.here hx rfl (hb hby d6_8) rfl kk_) ?_
    refine Ends.to (T' := s₁) (g' := (mkF m 10 #[.val (.ref a1), .val (.ref a2), .val (.int (Int32.ofNat s0)), .val (.int (Int32.ofNat n)), .val (.int (Int32.ofNat j))] [(.int (Int32.ofNat n)), (.int (Int32.ofNat s0)), (.int (Int32.ofNat j))])) (fun tt_ kk_ => XS.iloadN X0.here hx rfl (hb hby d6_9) rfl kk_) ?_
    refine Ends.to (T' := s₁) (g' := (mkF m 11 #[.val (.ref a1), .val (.ref a2), .val (.int (Int32.ofNat s0)), .val (.int (Int32.ofNat n)), .val (.int (Int32.ofNat j))] [(.int ((Int32.ofNat s0) + (Int32.ofNat n))), (.int (Int32.ofNat j))])) (fun tt_ kk_ => XS.iadd X0.here hx rfl (hb hby d6_10) rfl kk_) ?_
    by_cases hc11 : (Int32.ofNat j) < ((Int32.ofNat s0) + (Int32.ofNat n))
    · refine Ends.to (T' := s₁) (g' := (mkF m 31 #[.val (.ref a1), .val (.ref a2), .val (.int (Int32.ofNat s0)), .val (.int (Int32.ofNat n)), .val (.int (Int32.ofNat j))] [])) (fun tt_ kk_ => XS.icmpYes X0.here hx rfl (pc0 := 11) (pc' := 31) rfl (hb hby d6_11) rfl (tlt hc11).1 (by decide) (by decide) kk_) ?_
      refine Ends.to (T' := s₁) (g' := (mkF m 32 #[.val (.ref a1), .val (.ref a2), .val (.int (Int32.ofNat s0)), .val (.int (Int32.ofNat n)), .val (.int (Int32.ofNat j))] [(.int (1 : Int32))])) (fun tt_ kk_ => XS.iconst X0.here hx rfl (hb hby d6_31) kk_) ?_
      exact Ends.retN (t := .boolean) (by simp) X0 hx hret (hb hby d6_32) hlk (by decide) (by decide) ⟨by decide, N0, e0⟩
    · refine Ends.to (T' := s₁) (g' := (mkF m 14 #[.val (.ref a1), .val (.ref a2), .val (.int (Int32.ofNat s0)), .val (.int (Int32.ofNat n)), .val (.int (Int32.ofNat j))] [])) (fun tt_ kk_ => XS.icmpNo X0.here hx rfl (hb hby d6_11) rfl (flt hc11).1 kk_) ?_
      refine Ends.to (T' := s₁) (g' := (mkF m 15 #[.val (.ref a1), .val (.ref a2), .val (.int (Int32.ofNat s0)), .val (.int (Int32.ofNat n)), .val (.int (Int32.ofNat j))] [(.ref a1)])) (fun tt_ kk_ => XS.aloadN X0.here hx rfl (hb hby d6_14) rfl rfl kk_) ?_
      refine Ends.to (T' := s₁) (g' := (mkF m 17 #[.val (.ref a1), .val (.ref a2), .val (.int (Int32.ofNat s0)), .val (.int (Int32.ofNat n)), .val (.int (Int32.ofNat j))] [(.int (Int32.ofNat j)), (.ref a1)])) (fun tt_ kk_ => XS.iload X0.here hx rfl (hb hby d6_15) rfl kk_) ?_
      refine Ends.to (T' := s₁) (g' := (mkF m 18 #[.val (.ref a1), .val (.ref a2), .val (.int (Int32.ofNat s0)), .val (.int (Int32.ofNat n)), .val (.int (Int32.ofNat j))] [(.int (f j))])) (fun tt_ kk_ => BA.ldB X0 hx hZ e0 B1 (j := (Int32.ofNat j)) (i := j) (own_nneg (by omega)) (own_clamp (by omega)) (by omega) (g := (mkF m 17 #[.val (.ref a1), .val (.ref a2), .val (.int (Int32.ofNat s0)), .val (.int (Int32.ofNat n)), .val (.int (Int32.ofNat j))] [(.int (Int32.ofNat j)), (.ref a1)])) rfl rfl (hb hby d6_17) tt_ kk_) ?_
      refine Ends.to (T' := s₁) (g' := (mkF m 19 #[.val (.ref a1), .val (.ref a2), .val (.int (Int32.ofNat s0)), .val (.int (Int32.ofNat n)), .val (.int (Int32.ofNat j))] [(.ref a2), (.int (f j))])) (fun tt_ kk_ => XS.aloadN X0.here hx rfl (hb hby d6_18) rfl rfl kk_) ?_
      refine Ends.to (T' := s₁) (g' := (mkF m 21 #[.val (.ref a1), .val (.ref a2), .val (.int (Int32.ofNat s0)), .val (.int (Int32.ofNat n)), .val (.int (Int32.ofNat j))] [(.int (Int32.ofNat j)), (.ref a2), (.int (f j))])) (fun tt_ kk_ => XS.iload X0.here hx rfl (hb hby d6_19) rfl kk_) ?_
      refine Ends.to (T' := s₁) (g' := (mkF m 22 #[.val (.ref a1), .val (.ref a2), .val (.int (Int32.ofNat s0)), .val (.int (Int32.ofNat n)), .val (.int (Int32.ofNat j))] [(.int (g j)), (.int (f j))])) (fun tt_ kk_ => BA.ldB X0 hx hZ e0 B2 (j := (Int32.ofNat j)) (i := j) (own_nneg (by omega)) (own_clamp (by omega)) (by omega) (g := (mkF m 21 #[.val (.ref a1), .val (.ref a2), .val (.int (Int32.ofNat s0)), .val (.int (Int32.ofNat n)), .val (.int (Int32.ofNat j))] [(.int (Int32.ofNat j)), (.ref a2), (.int (f j))])) rfl rfl (hb hby d6_21) tt_ kk_) ?_
      refine Ends.to (T' := s₁) (g' := (mkF m 25 #[.val (.ref a1), .val (.ref a2), .val (.int (Int32.ofNat s0)), .val (.int (Int32.ofNat n)), .val (.int (Int32.ofNat j))] [])) (fun tt_ kk_ => XS.icmpNo X0.here hx rfl (hb hby d6_22) rfl (teq (H (Or.inr (Nat.not_lt.mp (fun z => hc11 (by rw [← Int32.ofNat_add]; exact (own_cmp (by omega) (by omega)).mpr z)))))).2 kk_) ?_
      refine Ends.to (T' := s₁) (g' := (mkF m 26 #[.val (.ref a1), .val (.ref a2), .val (.int (Int32.ofNat s0)), .val (.int (Int32.ofNat n)), .val (.int (Int32.ofNat j))] [(.int (1 : Int32))])) (fun tt_ kk_ => XS.iconst X0.here hx rfl (hb hby d6_25) kk_) ?_
      refine Ends.to (T' := s₁) (g' := (mkF m 30 #[.val (.ref a1), .val (.ref a2), .val (.int (Int32.ofNat s0)), .val (.int (Int32.ofNat n)), .val (.int (Int32.ofNat j))] [(.int (1 : Int32))])) (fun tt_ kk_ => XS.goto X0.here hx rfl (pc0 := 26) (pc' := 30) rfl (hb hby d6_26) (by decide) (by decide) kk_) ?_
      exact Ends.retN (t := .boolean) (by simp) X0 hx hret (hb hby d6_30) hlk (by decide) (by decide) ⟨by decide, N0, e0⟩
def own_em (g : Nat → Int32) (s n : Nat) : Nat → Nat × (Nat → Int32)
  | 0 => (0, fun _ => 0)
  | i + 1 => own_emit g (own_em g s n i).2 s n i (own_em g s n i).1
theorem own_b8 (x : Int32) : x.toInt8.toInt32.toInt8.toInt32 = x.toInt8.toInt32 := by rw [Int8.toInt8_toInt32]
theorem own_upd_b {f : Nat → Int32} (h : ∀ j, (f j).toInt8.toInt32 = f j) (i : Nat) (x : Int32) : ∀ j, (upd f i x.toInt8.toInt32 j).toInt8.toInt32 = upd f i x.toInt8.toInt32 j := by
  intro j
  by_cases e : j = i
  · subst e; rw [upd_same]; exact own_b8 x
  · rw [upd_ne _ _ e]; exact h j
theorem own_gb (q : Int64) (p : Int32) : ∀ j, (own_g q p j).toInt8.toInt32 = own_g q p j :=
  own_upd_b (own_upd_b (own_upd_b (own_upd_b (own_upd_b (own_upd_b (own_upd_b (own_upd_b (fun _ => by decide) 0 _) 1 _) 2 _) 3 _) 4 _) 5 _) 6 _) 7 _
theorem own_at3 {x a : Int32} (h : x &&& 3 = a) : ∃ t : Nat, t ≤ 3 ∧ a = Int32.ofNat t := by
  have e := Jvm.Kit.i32_mask x 3 (k := 2) (by decide) (by decide)
  rw [h] at e
  obtain ⟨n, rfl, hn⟩ := own_of (x := a) (by omega)
  exact ⟨n, by omega, rfl⟩
theorem own_at6 {x a : Int32} (h : (x &&& 2147483647) % 6 = a) : ∃ t : Nat, t ≤ 5 ∧ a = Int32.ofNat t := by
  have e : ((x &&& 2147483647) % 6).toInt = (x &&& 2147483647).toInt % (6 : Int32).toInt := Jvm.Kit.i32_rem_nonneg (own_31 x)
  rw [h] at e
  have c : (6 : Int32).toInt = 6 := rfl
  rw [c] at e
  have := own_31 x
  obtain ⟨n, rfl, hn⟩ := own_of (x := a) (by omega)
  exact ⟨n, by omega, rfl⟩
theorem own_em_stop (g : Nat → Int32) (s n : Nat) {i : Nat} (h : n ≤ i) : own_em g s n (i + 1) = own_em g s n i := by
  show own_emit g (own_em g s n i).2 s n i (own_em g s n i).1 = _
  rw [own_emit, if_neg (by omega)]
theorem own_emk2 (g : Nat → Int32) (s n : Nat) : ∀ i, (own_em g s n i).1 ≤ i ∧ (i ≤ n → 0 < i → g (s + i - 1) = 32 → (own_em g s n i).1 + 1 ≤ i) := by
  intro i
  induction i with
  | zero => exact ⟨Nat.le_refl _, fun _ h => absurd h (by decide)⟩
  | succ i ih =>
    obtain ⟨h1, h2⟩ := ih
    show (own_emit g (own_em g s n i).2 s n i (own_em g s n i).1).1 ≤ i + 1 ∧ (i + 1 ≤ n → 0 < i + 1 → g (s + (i + 1) - 1) = 32 → (own_emit g (own_em g s n i).2 s n i (own_em g s n i).1).1 + 1 ≤ i + 1)
    rw [show s + (i + 1) - 1 = s + i from by omega]
    unfold own_emit
    by_cases a : i < n
    · rw [if_pos a]
      by_cases b : g (s + i) = 32
      · rw [if_pos b]; exact ⟨by show (own_em g s n i).1 ≤ _; omega, fun _ _ _ => by show (own_em g s n i).1 + 1 ≤ _; omega⟩
      · rw [if_neg b]
        by_cases c : 0 < (own_em g s n i).1 ∧ g (s + i - 1) = 32
        · rw [if_pos c]
          have := h2 (by omega) (by omega) c.2
          exact ⟨by show (own_em g s n i).1 + 2 ≤ _; omega, fun _ _ q => absurd q b⟩
        · rw [if_neg c]; exact ⟨by show (own_em g s n i).1 + 1 ≤ _; omega, fun _ _ q => absurd q b⟩
    · rw [if_neg a]; exact ⟨by show (own_em g s n i).1 ≤ _; omega, fun q => by omega⟩
theorem own_emk (g : Nat → Int32) (s n i : Nat) : (own_em g s n i).1 ≤ i := (own_emk2 g s n i).1
def own_Inv (g : Nat → Int32) (s n i r : Nat) (f : Nat → Int32) : Prop :=
  (∀ p, p < s ∨ s + i ≤ p + 1 → f p = g p) ∧
  ((0 < (own_em g s n i).1 ∧ 0 < i ∧ g (s + i - 1) = 32 → r = (own_em g s n i).1 + 1 ∧ f (s + (own_em g s n i).1) = 32) ∧ (¬ (0 < (own_em g s n i).1 ∧ 0 < i ∧ g (s + i - 1) = 32) → r = (own_em g s n i).1)) ∧
  (∀ j, j < (own_em g s n i).1 → f (s + j) = (own_em g s n i).2 j) ∧
  (0 < (own_em g s n i).1 → ¬ (own_em g s n i).2 ((own_em g s n i).1 - 1) = 32) ∧ r ≤ i
theorem own_step {g : Nat → Int32} (hg : ∀ j, (g j).toInt8.toInt32 = g j) {s n i r : Nat} {f : Nat → Int32} (hi : i < n) (I : own_Inv g s n i r f) :
    own_Inv g s n (i + 1) (if f (s + i) = 32 ∧ (r = 0 ∨ f (s + i - 1) = 32) then r else r + 1) (if f (s + i) = 32 ∧ (r = 0 ∨ f (s + i - 1) = 32) then f else upd f (s + r) (f (s + i)).toInt8.toInt32) := by
  obtain ⟨I1, ⟨I2, I2'⟩, I3, I4, I5⟩ := I
  have e : own_em g s n (i + 1) = own_emit g (own_em g s n i).2 s n i (own_em g s n i).1 := rfl
  have hb := hg (s + i)
  have hc : f (s + i) = g (s + i) := I1 _ (by omega)
  have hl : 0 < i → f (s + i - 1) = g (s + i - 1) := fun h => I1 _ (by omega)
  have e32 : (32 : Int32).toInt8.toInt32 = 32 := by decide
  generalize hK : (own_em g s n i).1 = K at *
  generalize hE : (own_em g s n i).2 = E at *
  rw [hc]
  unfold own_Inv
  rw [show s + (i + 1) - 1 = s + i from by omega, e]
  unfold own_emit
  rw [if_pos hi]
  by_cases b : g (s + i) = 32
  · rw [if_pos b]
    by_cases k0 : 0 < K
    · by_cases last : 0 < i ∧ g (s + i - 1) = 32
      · obtain ⟨r1, r2⟩ := I2 ⟨k0, last⟩
        have cnd : g (s + i) = 32 ∧ (r = 0 ∨ f (s + i - 1) = 32) := ⟨b, Or.inr ((hl last.1).trans last.2)⟩
        rw [if_pos cnd, if_pos cnd]
        exact ⟨fun p hp => I1 p (by omega), ⟨fun _ => ⟨r1, r2⟩, fun q => absurd ⟨k0, by omega, b⟩ q⟩, I3, I4, by omega⟩
      · have r1 := I2' (fun q => last q.2)
        have i0 : 0 < i := by omega
        have nl : ¬ g (s + i - 1) = 32 := fun q => last ⟨i0, q⟩
        have cnd : ¬ (g (s + i) = 32 ∧ (r = 0 ∨ f (s + i - 1) = 32)) := fun q => q.2.elim (fun z => by omega) (fun z => nl ((hl i0) ▸ z))
        rw [if_neg cnd, if_neg cnd, hb]
        refine ⟨fun p hp => ?_, ⟨fun _ => ⟨by dsimp only; omega, ?_⟩, fun q => absurd ⟨k0, by omega, b⟩ q⟩, fun j hj => ?_, I4, by omega⟩
        · by_cases ep : p = s + r
          · have : p = s + i := by omega
            subst ep; rw [upd_same, ← this]
          · rw [upd_ne _ _ ep]; exact I1 p (by omega)
        · dsimp only; rw [← r1, upd_same]; exact b
        · dsimp only at hj ⊢; rw [upd_ne _ _ (by omega)]; exact I3 j hj
    · have r1 := I2' (fun q => k0 q.1)
      have cnd : g (s + i) = 32 ∧ (r = 0 ∨ f (s + i - 1) = 32) := ⟨b, Or.inl (by omega)⟩
      rw [if_pos cnd, if_pos cnd]
      exact ⟨fun p hp => I1 p (by omega), ⟨fun q => absurd q.1 k0, fun _ => r1⟩, I3, I4, by omega⟩
  · have cnd : ¬ (g (s + i) = 32 ∧ (r = 0 ∨ f (s + i - 1) = 32)) := fun q => b q.1
    rw [if_neg b, if_neg cnd, if_neg cnd, hb]
    have one : ∀ p, p < s ∨ s + (i + 1) ≤ p + 1 → upd f (s + r) (g (s + i)) p = g p := fun p hp => by
      by_cases ep : p = s + r
      · have : p = s + i := by omega
        subst ep; rw [upd_same, ← this]
      · rw [upd_ne _ _ ep]; exact I1 p (by omega)
    by_cases c : 0 < K ∧ g (s + i - 1) = 32
    · rw [if_pos c]
      have i0 : 0 < i := by have := own_emk g s n i; rw [hK] at this; omega
      obtain ⟨r1, r2⟩ := I2 ⟨c.1, i0, c.2⟩
      refine ⟨one, ⟨fun q => absurd q.2.2 b, fun _ => by dsimp only; omega⟩, fun j hj => ?_, fun _ => ?_, by omega⟩
      · dsimp only at hj ⊢
        by_cases j1 : j = K + 1
        · subst j1; rw [r1, upd_same, upd_same]
        · rw [upd_ne _ _ (by omega), upd_ne _ _ j1]
          by_cases j2 : j = K
          · subst j2; rw [upd_same, e32]; exact r2
          · rw [upd_ne _ _ j2]; exact I3 j (by omega)
      · dsimp only; rw [show K + 2 - 1 = K + 1 from by omega, upd_same]; exact b
    · rw [if_neg c]
      have r1 : r = K := I2' (fun q => c ⟨q.1, q.2.2⟩)
      refine ⟨one, ⟨fun q => absurd q.2.2 b, fun _ => by dsimp only; omega⟩, fun j hj => ?_, fun _ => ?_, by omega⟩
      · dsimp only at hj ⊢
        by_cases j1 : j = K
        · subst j1; rw [r1, upd_same, upd_same]
        · rw [upd_ne _ _ (by omega), upd_ne _ _ j1]; exact I3 j (by omega)
      · dsimp only; rw [show K + 1 - 1 = K from by omega, upd_same]; exact b
theorem own_run {g : Nat → Int32} (hg : ∀ j, (g j).toInt8.toInt32 = g j) {s n : Nat} : ∀ (k i r : Nat) (f : Nat → Int32), i + k = n → own_Inv g s n i r f → own_Inv g s n n (own_nz s k i r f).1 (own_nz s k i r f).2 := by
  intro k
  induction k with
  | zero => intro i r f h I; obtain rfl : i = n := by omega
            exact I
  | succ k ih =>
    intro i r f h I
    have I' := own_step hg (by omega) I
    by_cases c : f (s + i) = 32 ∧ (r = 0 ∨ f (s + i - 1) = 32)
    · rw [if_pos c, if_pos c] at I'
      simp only [own_nz, if_pos c]
      exact ih (i + 1) r f (by omega) I'
    · rw [if_neg c, if_neg c] at I'
      simp only [own_nz, if_neg c]
      exact ih (i + 1) (r + 1) _ (by omega) I'
theorem own_main {g : Nat → Int32} (hg : ∀ j, (g j).toInt8.toInt32 = g j) (s n : Nat) (hn : n ≤ 5) :
    own_fin s (own_nz s n 0 0 g) = (own_em g s n 5).1 ∧ (∀ j, j < (own_em g s n 5).1 → (own_nz s n 0 0 g).2 (s + j) = (own_em g s n 5).2 j) ∧ (∀ p, p < s ∨ s + n ≤ p → (own_nz s n 0 0 g).2 p = g p) := by
  have I0 : own_Inv g s n 0 0 g := ⟨fun _ _ => rfl, ⟨fun q => absurd q.1 (Nat.lt_irrefl 0), fun _ => rfl⟩, fun j hj => absurd hj (Nat.not_lt_zero j), fun q => absurd q (Nat.lt_irrefl 0), Nat.le_refl _⟩
  obtain ⟨I1, ⟨I2, I2'⟩, I3, I4, I5⟩ := own_run hg n 0 0 g (by omega) I0
  have e5 : own_em g s n 5 = own_em g s n n := by
    have st := fun i (h : n ≤ i) => own_em_stop g s n h
    have : n = 0 ∨ n = 1 ∨ n = 2 ∨ n = 3 ∨ n = 4 ∨ n = 5 := by omega
    rcases this with h | h | h | h | h | h
    · rw [st 4 (by omega), st 3 (by omega), st 2 (by omega), st 1 (by omega), st 0 (by omega), h]
    · rw [st 4 (by omega), st 3 (by omega), st 2 (by omega), st 1 (by omega), h]
    · rw [st 4 (by omega), st 3 (by omega), st 2 (by omega), h]
    · rw [st 4 (by omega), st 3 (by omega), h]
    · rw [st 4 (by omega), h]
    · rw [h]
  rw [e5]
  refine ⟨?_, I3, fun p hp => I1 p (by omega)⟩
  unfold own_fin
  by_cases q : 0 < (own_em g s n n).1 ∧ 0 < n ∧ g (s + n - 1) = 32
  · obtain ⟨r1, r2⟩ := I2 q
    rw [if_pos ⟨by omega, by rw [r1, show s + ((own_em g s n n).1 + 1) - 1 = s + (own_em g s n n).1 from by omega]; exact r2⟩]; omega
  · have r1 := I2' q
    rw [if_neg (fun z => by
      have k0 : 0 < (own_em g s n n).1 := by have := z.1; omega
      have := z.2
      rw [r1, show s + (own_em g s n n).1 - 1 = s + ((own_em g s n n).1 - 1) from by omega, I3 _ (by omega)] at this
      exact I4 k0 this)]
    exact r1
set_option maxRecDepth 65536 in
set_option maxHeartbeats 40000000 in
def Q_rm0 (Z : State) (q1 : Int64) (p2 p3 p4 p5 : Int32) (h0 : Heap) (n0 : Nat) : Option Value → Heap → List Loc → Prop := fun v h L => v = some (.int 1) ∧ Fr n0 L
set_option maxRecDepth 65536 in
set_option maxHeartbeats 40000000 in
theorem rm0 (l : Launch) (Z : State) (a0 : Array Value) (hw : ∀ d ∈ tables_1, d.before a0 Z = true) (ws : List Jvm.Cond) (q1 : Int64) (p2 p3 p4 p5 : Int32) (h0 : Heap) (n0 : Nat) (Z0 : n0 ≤ h0.size) :
    Pays l x code maxLocals ret ws room_1 #[(.long q1), (.int p2), (.int p3), (.int p4), (.int p5)] Z h0 (Q_rm0 Z q1 p2 p3 p4 p5 h0 n0) := by
  refine Pays.of (plainFor_of_name pn_0) ?_
  intro p e s m below meth c s₁ hx hby hml hown hnm hret hlk hZ X0 e0
  have hown : s.vm.findClass "com/example/predicate/predicate/document/AttributeDeclarationNormalizePinLaw" = some m.cls := hown
  have hnm : meth.name = "law" := hnm
  have hml : c.maxLocals = 14 := hml
  show Ends p e below s _ _ (fun v h L => v = some (.int 1) ∧ Fr n0 L) s₁ _
  refine Ends.cast (ef_0 m q1 p2 p3 p4 p5) ?_
  have N0 := Fr.nil n0
  have Zs := Z0
  refine Ends.to (T' := s₁) (g' := (mkF m 1 #[.val (.long q1), .second, .val (.int p2), .val (.int p3), .val (.int p4), .val (.int p5), .unset, .unset, .unset, .unset, .unset, .unset, .unset, .unset] [(.int p3)])) (fun tt_ kk_ => XS.iloadN X0.here hx rfl (hb hby at_0) rfl kk_) ?_
  refine Ends.to (T' := s₁) (g' := (mkF m 2 #[.val (.long q1), .second, .val (.int p2), .val (.int p3), .val (.int p4), .val (.int p5), .unset, .unset, .unset, .unset, .unset, .unset, .unset, .unset] [(.int (3 : Int32)), (.int p3)])) (fun tt_ kk_ => XS.iconst X0.here hx rfl (hb hby at_1) kk_) ?_
  refine Ends.to (T' := s₁) (g' := (mkF m 3 #[.val (.long q1), .second, .val (.int p2), .val (.int p3), .val (.int p4), .val (.int p5), .unset, .unset, .unset, .unset, .unset, .unset, .unset, .unset] [(.int (p3 &&& (3 : Int32)))])) (fun tt_ kk_ => XS.iand X0.here hx rfl (hb hby at_2) rfl kk_) ?_
  refine Ends.to (T' := s₁) (g' := (mkF m 5 #[.val (.long q1), .second, .val (.int p2), .val (.int p3), .val (.int p4), .val (.int p5), .val (.int (p3 &&& (3 : Int32))), .unset, .unset, .unset, .unset, .unset, .unset, .unset] [])) (fun tt_ kk_ => XS.istore X0.here hx rfl (hb hby at_3) rfl (l' := #[.val (.long q1), .second, .val (.int p2), .val (.int p3), .val (.int p4), .val (.int p5), .val (.int (p3 &&& (3 : Int32))), .unset, .unset, .unset, .unset, .unset, .unset, .unset]) rfl kk_) ?_
  generalize hst1 : (p3 &&& (3 : Int32)) = st1
  obtain ⟨s0, hs0, rfl⟩ := own_at3 hst1
  refine Ends.to (T' := s₁) (g' := (mkF m 7 #[.val (.long q1), .second, .val (.int p2), .val (.int p3), .val (.int p4), .val (.int p5), .val (.int (Int32.ofNat s0)), .unset, .unset, .unset, .unset, .unset, .unset, .unset] [(.int p4)])) (fun tt_ kk_ => XS.iload X0.here hx rfl (hb hby at_5) rfl kk_) ?_
  refine Ends.to (T' := s₁) (g' := (mkF m 9 #[.val (.long q1), .second, .val (.int p2), .val (.int p3), .val (.int p4), .val (.int p5), .val (.int (Int32.ofNat s0)), .unset, .unset, .unset, .unset, .unset, .unset, .unset] [(.int (2147483647 : Int32)), (.int p4)])) (fun tt_ kk_ => X0.ldcInt hx hown (mvT hZ (hw _ (List.mem_of_getElem? (i := 0) rfl))) (g := (mkF m 7 #[.val (.long q1), .second, .val (.int p2), .val (.int p3), .val (.int p4), .val (.int p5), .val (.int (Int32.ofNat s0)), .unset, .unset, .unset, .unset, .unset, .unset, .unset] [(.int p4)])) rfl (hb hby at_7) _ kk_) ?_
  refine Ends.to (T' := s₁) (g' := (mkF m 10 #[.val (.long q1), .second, .val (.int p2), .val (.int p3), .val (.int p4), .val (.int p5), .val (.int (Int32.ofNat s0)), .unset, .unset, .unset, .unset, .unset, .unset, .unset] [(.int (p4 &&& (2147483647 : Int32)))])) (fun tt_ kk_ => XS.iand X0.here hx rfl (hb hby at_9) rfl kk_) ?_
  refine Ends.to (T' := s₁) (g' := (mkF m 12 #[.val (.long q1), .second, .val (.int p2), .val (.int p3), .val (.int p4), .val (.int p5), .val (.int (Int32.ofNat s0)), .unset, .unset, .unset, .unset, .unset, .unset, .unset] [(.int (6 : Int32)), (.int (p4 &&& (2147483647 : Int32)))])) (fun tt_ kk_ => XS.bipush X0.here hx rfl (hb hby at_10) kk_) ?_
  refine Ends.to (T' := s₁) (g' := (mkF m 13 #[.val (.long q1), .second, .val (.int p2), .val (.int p3), .val (.int p4), .val (.int p5), .val (.int (Int32.ofNat s0)), .unset, .unset, .unset, .unset, .unset, .unset, .unset] [(.int ((p4 &&& (2147483647 : Int32)) % (6 : Int32)))])) (fun tt_ kk_ => Jvm.RoadKit.iremM X0 hx rfl (hb hby at_12) rfl (by decide) kk_) ?_
  refine Ends.to (T' := s₁) (g' := (mkF m 15 #[.val (.long q1), .second, .val (.int p2), .val (.int p3), .val (.int p4), .val (.int p5), .val (.int (Int32.ofNat s0)), .val (.int ((p4 &&& (2147483647 : Int32)) % (6 : Int32))), .unset, .unset, .unset, .unset, .unset, .unset] [])) (fun tt_ kk_ => XS.istore X0.here hx rfl (hb hby at_13) rfl (l' := #[.val (.long q1), .second, .val (.int p2), .val (.int p3), .val (.int p4), .val (.int p5), .val (.int (Int32.ofNat s0)), .val (.int ((p4 &&& (2147483647 : Int32)) % (6 : Int32))), .unset, .unset, .unset, .unset, .unset, .unset]) rfl kk_) ?_
  generalize hln1 : ((p4 &&& (2147483647 : Int32)) % (6 : Int32)) = ln1
  obtain ⟨n, hn, rfl⟩ := own_at6 hln1
  have hsn : s0 + n ≤ 8 := by omega
  refine Ends.to (T' := s₁) (g' := (mkF m 17 #[.val (.long q1), .second, .val (.int p2), .val (.int p3), .val (.int p4), .val (.int p5), .val (.int (Int32.ofNat s0)), .val (.int (Int32.ofNat n)), .unset, .unset, .unset, .unset, .unset, .unset] [(.int p5)])) (fun tt_ kk_ => XS.iload X0.here hx rfl (hb hby at_15) rfl kk_) ?_
  refine Ends.to (T' := s₁) (g' := (mkF m 18 #[.val (.long q1), .second, .val (.int p2), .val (.int p3), .val (.int p4), .val (.int p5), .val (.int (Int32.ofNat s0)), .val (.int (Int32.ofNat n)), .unset, .unset, .unset, .unset, .unset, .unset] [(.int (1 : Int32)), (.int p5)])) (fun tt_ kk_ => XS.iconst X0.here hx rfl (hb hby at_17) kk_) ?_
  refine Ends.to (T' := s₁) (g' := (mkF m 19 #[.val (.long q1), .second, .val (.int p2), .val (.int p3), .val (.int p4), .val (.int p5), .val (.int (Int32.ofNat s0)), .val (.int (Int32.ofNat n)), .unset, .unset, .unset, .unset, .unset, .unset] [(.int (p5 &&& (1 : Int32)))])) (fun tt_ kk_ => XS.iand X0.here hx rfl (hb hby at_18) rfl kk_) ?_
  by_cases hc19 : (p5 &&& (1 : Int32)) = (0 : Int32)
  · refine Ends.to (T' := s₁) (g' := (mkF m 26 #[.val (.long q1), .second, .val (.int p2), .val (.int p3), .val (.int p4), .val (.int p5), .val (.int (Int32.ofNat s0)), .val (.int (Int32.ofNat n)), .unset, .unset, .unset, .unset, .unset, .unset] [])) (fun tt_ kk_ => XS.ifYes X0.here hx rfl (pc0 := 19) (pc' := 26) rfl (hb hby at_19) rfl ((if0 _ _).trans (teq hc19).1) (by decide) (by decide) kk_) ?_
    refine Ends.to (T' := s₁) (g' := (mkF m 27 #[.val (.long q1), .second, .val (.int p2), .val (.int p3), .val (.int p4), .val (.int p5), .val (.int (Int32.ofNat s0)), .val (.int (Int32.ofNat n)), .unset, .unset, .unset, .unset, .unset, .unset] [(.int (0 : Int32))])) (fun tt_ kk_ => XS.iconst X0.here hx rfl (hb hby at_26) kk_) ?_
    refine Ends.to (T' := s₁) (g' := (mkF m 29 #[.val (.long q1), .second, .val (.int p2), .val (.int p3), .val (.int p4), .val (.int p5), .val (.int (Int32.ofNat s0)), .val (.int (Int32.ofNat n)), .val (.int (0 : Int32)), .unset, .unset, .unset, .unset, .unset] [])) (fun tt_ kk_ => XS.istore X0.here hx rfl (hb hby at_27) rfl (l' := #[.val (.long q1), .second, .val (.int p2), .val (.int p3), .val (.int p4), .val (.int p5), .val (.int (Int32.ofNat s0)), .val (.int (Int32.ofNat n)), .val (.int (0 : Int32)), .unset, .unset, .unset, .unset, .unset]) rfl kk_) ?_
    refine Ends.to (T' := s₁) (g' := (mkF m 30 #[.val (.long q1), .second, .val (.int p2), .val (.int p3), .val (.int p4), .val (.int p5), .val (.int (Int32.ofNat s0)), .val (.int (Int32.ofNat n)), .val (.int (0 : Int32)), .unset, .unset, .unset, .unset, .unset] [(.long q1)])) (fun tt_ kk_ => XS.lloadN X0.here hx rfl (hb hby at_29) rfl kk_) ?_
    refine Ends.to (T' := s₁) (g' := (mkF m 31 #[.val (.long q1), .second, .val (.int p2), .val (.int p3), .val (.int p4), .val (.int p5), .val (.int (Int32.ofNat s0)), .val (.int (Int32.ofNat n)), .val (.int (0 : Int32)), .unset, .unset, .unset, .unset, .unset] [(.int p2), (.long q1)])) (fun tt_ kk_ => XS.iloadN X0.here hx rfl (hb hby at_30) rfl kk_) ?_
    obtain ⟨_, _, ⟨T26, L26, k26, n26⟩, -, X26, ⟨Lc26, hQ26, l26, y26, z26⟩, st26⟩ := Jvm.LawKit.callS X0 hx (y := (⟨"com/example/predicate/predicate/document/AttributeDeclarationNormalizePinLaw", "build", "(JI)[B"⟩ : MethodName)) hown (mvT hZ (hw _ (List.mem_of_getElem? (i := 1) rfl))) (mvT hZ (hw _ (List.mem_of_getElem? (i := 2) rfl))) (mvT hZ (hw _ (List.mem_of_getElem? (i := 3) rfl))) (mvT hZ (hw _ (List.mem_of_getElem? (i := 4) rfl))) (by decide) (backOf (W := 0) (rm1 l Z a0 hw [] q1 p2 h0 n0 Zs) hZ (hw _ (List.mem_of_getElem? (i := 4) rfl)) (hw _ (List.mem_of_getElem? (i := 3) rfl)) (by decide) (by decide)) (g := (mkF m 31 #[.val (.long q1), .second, .val (.int p2), .val (.int p3), .val (.int p4), .val (.int p5), .val (.int (Int32.ofNat s0)), .val (.int (Int32.ofNat n)), .val (.int (0 : Int32)), .unset, .unset, .unset, .unset, .unset] [(.int p2), (.long q1)])) rfl (by rw [hml]; rfl) (argsL := [(.long q1), (.int p2)]) (rest := []) (lenOf pd_1 rfl) rfl (by show 2 * 0 + _ ≤ _; exact Nat.le_of_eq rfl) (hb hby at_31) (fun _ _ => ⟨rfl, e0, (by decide : 0 + 1 ≤ _), (by decide : 0 + 8 ≤ _)⟩)
    dsimp only [Pt.U, Pt.locs, Pt.cells, Pt.slots] at X26 l26 y26 z26 st26 hQ26
    subst l26 y26 z26
    obtain ⟨rfl, N26q, K26, G26⟩ := hQ26
    have N26 := Fr.app N0 N26q
    obtain ⟨b1, g_b1⟩ : ∃ z, z = h0.size := ⟨_, rfl⟩
    rw [← g_b1] at st26 G26
    have f_b1 : n0 ≤ b1 := Nat.le_trans Zs (Nat.le_of_eq g_b1.symm)
    have Zs := Nat.le_trans Zs K26.1
    have B_b1 := G26
    refine Ends.to (T' := T26) (g' := (mkF m 34 #[.val (.long q1), .second, .val (.int p2), .val (.int p3), .val (.int p4), .val (.int p5), .val (.int (Int32.ofNat s0)), .val (.int (Int32.ofNat n)), .val (.int (0 : Int32)), .unset, .unset, .unset, .unset, .unset] [(.ref b1)])) (fun tt_ kk_ => st26 tt_ kk_) ?_
    refine Ends.to (T' := T26) (g' := (mkF m 36 #[.val (.long q1), .second, .val (.int p2), .val (.int p3), .val (.int p4), .val (.int p5), .val (.int (Int32.ofNat s0)), .val (.int (Int32.ofNat n)), .val (.int (0 : Int32)), .val (.ref b1), .unset, .unset, .unset, .unset] [])) (fun tt_ kk_ => XS.astore X26.here hx rfl (hb hby at_34) rfl rfl (l' := #[.val (.long q1), .second, .val (.int p2), .val (.int p3), .val (.int p4), .val (.int p5), .val (.int (Int32.ofNat s0)), .val (.int (Int32.ofNat n)), .val (.int (0 : Int32)), .val (.ref b1), .unset, .unset, .unset, .unset]) rfl kk_) ?_
    refine Ends.to (T' := T26) (g' := (mkF m 37 #[.val (.long q1), .second, .val (.int p2), .val (.int p3), .val (.int p4), .val (.int p5), .val (.int (Int32.ofNat s0)), .val (.int (Int32.ofNat n)), .val (.int (0 : Int32)), .val (.ref b1), .unset, .unset, .unset, .unset] [(.long q1)])) (fun tt_ kk_ => XS.lloadN X26.here hx rfl (hb hby at_36) rfl kk_) ?_
    refine Ends.to (T' := T26) (g' := (mkF m 38 #[.val (.long q1), .second, .val (.int p2), .val (.int p3), .val (.int p4), .val (.int p5), .val (.int (Int32.ofNat s0)), .val (.int (Int32.ofNat n)), .val (.int (0 : Int32)), .val (.ref b1), .unset, .unset, .unset, .unset] [(.int p2), (.long q1)])) (fun tt_ kk_ => XS.iloadN X26.here hx rfl (hb hby at_37) rfl kk_) ?_
    obtain ⟨_, _, ⟨T27, L27, k27, n27⟩, -, X27, ⟨Lc27, hQ27, l27, y27, z27⟩, st27⟩ := Jvm.LawKit.callS X26 hx (y := (⟨"com/example/predicate/predicate/document/AttributeDeclarationNormalizePinLaw", "build", "(JI)[B"⟩ : MethodName)) hown (mvT hZ (hw _ (List.mem_of_getElem? (i := 1) rfl))) (mvT hZ (hw _ (List.mem_of_getElem? (i := 2) rfl))) (mvT hZ (hw _ (List.mem_of_getElem? (i := 3) rfl))) (mvT hZ (hw _ (List.mem_of_getElem? (i := 4) rfl))) (by decide) (backOf (W := 0) (rm1 l Z a0 hw [] q1 p2 T26.heap n0 Zs) hZ (hw _ (List.mem_of_getElem? (i := 4) rfl)) (hw _ (List.mem_of_getElem? (i := 3) rfl)) (by decide) (by decide)) (g := (mkF m 38 #[.val (.long q1), .second, .val (.int p2), .val (.int p3), .val (.int p4), .val (.int p5), .val (.int (Int32.ofNat s0)), .val (.int (Int32.ofNat n)), .val (.int (0 : Int32)), .val (.ref b1), .unset, .unset, .unset, .unset] [(.int p2), (.long q1)])) rfl (by rw [hml]; rfl) (argsL := [(.long q1), (.int p2)]) (rest := []) (lenOf pd_1 rfl) rfl (by show 2 * 0 + _ ≤ _; exact Nat.le_of_eq rfl) (hb hby at_38) (fun _ _ => ⟨rfl, rfl, (by decide : 1 + 1 ≤ _), (by decide : 8 + 8 ≤ _)⟩)
    dsimp only [Pt.U, Pt.locs, Pt.cells, Pt.slots] at X27 l27 y27 z27 st27 hQ27
    subst l27 y27 z27
    obtain ⟨rfl, N27q, K27, G27⟩ := hQ27
    have N27 := Fr.app N26 N27q
    obtain ⟨b2, g_b2⟩ : ∃ z, z = T26.heap.size := ⟨_, rfl⟩
    rw [← g_b2] at st27 G27
    have f_b2 : n0 ≤ b2 := Nat.le_trans Zs (Nat.le_of_eq g_b2.symm)
    have lt_b1_b2 : b1 < b2 := Nat.lt_of_lt_of_le B_b1.lt (Nat.le_of_eq g_b2.symm)
    have ne_b1_b2 : b1 ≠ b2 := Nat.ne_of_lt lt_b1_b2
    have Zs := Nat.le_trans Zs K27.1
    have B_b1 := BA.keep B_b1 K27 nin0
    have B_b2 := G27
    refine Ends.to (T' := T27) (g' := (mkF m 41 #[.val (.long q1), .second, .val (.int p2), .val (.int p3), .val (.int p4), .val (.int p5), .val (.int (Int32.ofNat s0)), .val (.int (Int32.ofNat n)), .val (.int (0 : Int32)), .val (.ref b1), .unset, .unset, .unset, .unset] [(.ref b2)])) (fun tt_ kk_ => st27 tt_ kk_) ?_
    refine Ends.to (T' := T27) (g' := (mkF m 43 #[.val (.long q1), .second, .val (.int p2), .val (.int p3), .val (.int p4), .val (.int p5), .val (.int (Int32.ofNat s0)), .val (.int (Int32.ofNat n)), .val (.int (0 : Int32)), .val (.ref b1), .val (.ref b2), .unset, .unset, .unset] [])) (fun tt_ kk_ => XS.astore X27.here hx rfl (hb hby at_41) rfl rfl (l' := #[.val (.long q1), .second, .val (.int p2), .val (.int p3), .val (.int p4), .val (.int p5), .val (.int (Int32.ofNat s0)), .val (.int (Int32.ofNat n)), .val (.int (0 : Int32)), .val (.ref b1), .val (.ref b2), .unset, .unset, .unset]) rfl kk_) ?_
    refine Ends.to (T' := T27) (g' := (mkF m 45 #[.val (.long q1), .second, .val (.int p2), .val (.int p3), .val (.int p4), .val (.int p5), .val (.int (Int32.ofNat s0)), .val (.int (Int32.ofNat n)), .val (.int (0 : Int32)), .val (.ref b1), .val (.ref b2), .unset, .unset, .unset] [(.ref b1)])) (fun tt_ kk_ => XS.aload X27.here hx rfl (hb hby at_43) rfl rfl kk_) ?_
    refine Ends.to (T' := T27) (g' := (mkF m 47 #[.val (.long q1), .second, .val (.int p2), .val (.int p3), .val (.int p4), .val (.int p5), .val (.int (Int32.ofNat s0)), .val (.int (Int32.ofNat n)), .val (.int (0 : Int32)), .val (.ref b1), .val (.ref b2), .unset, .unset, .unset] [(.int (Int32.ofNat s0)), (.ref b1)])) (fun tt_ kk_ => XS.iload X27.here hx rfl (hb hby at_45) rfl kk_) ?_
    refine Ends.to (T' := T27) (g' := (mkF m 49 #[.val (.long q1), .second, .val (.int p2), .val (.int p3), .val (.int p4), .val (.int p5), .val (.int (Int32.ofNat s0)), .val (.int (Int32.ofNat n)), .val (.int (0 : Int32)), .val (.ref b1), .val (.ref b2), .unset, .unset, .unset] [(.int (Int32.ofNat n)), (.int (Int32.ofNat s0)), (.ref b1)])) (fun tt_ kk_ => XS.iload X27.here hx rfl (hb hby at_47) rfl kk_) ?_
    refine Ends.to (T' := T27) (g' := (mkF m 51 #[.val (.long q1), .second, .val (.int p2), .val (.int p3), .val (.int p4), .val (.int p5), .val (.int (Int32.ofNat s0)), .val (.int (Int32.ofNat n)), .val (.int (0 : Int32)), .val (.ref b1), .val (.ref b2), .unset, .unset, .unset] [(.int (0 : Int32)), (.int (Int32.ofNat n)), (.int (Int32.ofNat s0)), (.ref b1)])) (fun tt_ kk_ => XS.iload X27.here hx rfl (hb hby at_49) rfl kk_) ?_
    obtain ⟨_, _, ⟨T28, L28, k28, n28⟩, -, X28, ⟨Lc28, hQ28, l28, y28, z28⟩, st28⟩ := Jvm.LawKit.callS X27 hx (y := (⟨"com/example/predicate/predicate/document/AttributeDeclaration", "normalize", "([BIIZ)I"⟩ : MethodName)) hown (mvT hZ (hw _ (List.mem_of_getElem? (i := 9) rfl))) (mvT hZ (hw _ (List.mem_of_getElem? (i := 10) rfl))) (mvT hZ (hw _ (List.mem_of_getElem? (i := 11) rfl))) (mvT hZ (hw _ (List.mem_of_getElem? (i := 12) rfl))) (by decide) (backOf (W := 0) (rm3z l Z a0 hw [] b1 s0 n T27.heap n0 Zs) hZ (hw _ (List.mem_of_getElem? (i := 12) rfl)) (hw _ (List.mem_of_getElem? (i := 11) rfl)) (by decide) (by decide)) (g := (mkF m 51 #[.val (.long q1), .second, .val (.int p2), .val (.int p3), .val (.int p4), .val (.int p5), .val (.int (Int32.ofNat s0)), .val (.int (Int32.ofNat n)), .val (.int (0 : Int32)), .val (.ref b1), .val (.ref b2), .unset, .unset, .unset] [(.int (0 : Int32)), (.int (Int32.ofNat n)), (.int (Int32.ofNat s0)), (.ref b1)])) rfl (by rw [hml]; rfl) (argsL := [(.ref b1), (.int (Int32.ofNat s0)), (.int (Int32.ofNat n)), (.int (0 : Int32))]) (rest := []) (lenOf pd_3 rfl) rfl (by show 2 * 0 + _ ≤ _; exact Nat.le_of_eq rfl) (hb hby at_51) (fun _ _ => ⟨rfl, rfl, (by decide : 2 + 0 ≤ _), (by decide : 16 + 0 ≤ _)⟩)
    dsimp only [Pt.U, Pt.locs, Pt.cells, Pt.slots] at X28 l28 y28 z28 st28 hQ28
    subst l28 y28 z28
    obtain ⟨rfl, N28q, e28q⟩ := hQ28
    have N28 := Fr.app N27 N28q
    refine Ends.to (T' := T28) (g' := (mkF m 54 #[.val (.long q1), .second, .val (.int p2), .val (.int p3), .val (.int p4), .val (.int p5), .val (.int (Int32.ofNat s0)), .val (.int (Int32.ofNat n)), .val (.int (0 : Int32)), .val (.ref b1), .val (.ref b2), .unset, .unset, .unset] [(.int (Int32.ofNat n))])) (fun tt_ kk_ => st28 tt_ kk_) ?_
    refine Ends.to (T' := T28) (g' := (mkF m 56 #[.val (.long q1), .second, .val (.int p2), .val (.int p3), .val (.int p4), .val (.int p5), .val (.int (Int32.ofNat s0)), .val (.int (Int32.ofNat n)), .val (.int (0 : Int32)), .val (.ref b1), .val (.ref b2), .val (.int (Int32.ofNat n)), .unset, .unset] [])) (fun tt_ kk_ => XS.istore X28.here hx rfl (hb hby at_54) rfl (l' := #[.val (.long q1), .second, .val (.int p2), .val (.int p3), .val (.int p4), .val (.int p5), .val (.int (Int32.ofNat s0)), .val (.int (Int32.ofNat n)), .val (.int (0 : Int32)), .val (.ref b1), .val (.ref b2), .val (.int (Int32.ofNat n)), .unset, .unset]) rfl kk_) ?_
    refine Ends.to (T' := T28) (g' := (mkF m 58 #[.val (.long q1), .second, .val (.int p2), .val (.int p3), .val (.int p4), .val (.int p5), .val (.int (Int32.ofNat s0)), .val (.int (Int32.ofNat n)), .val (.int (0 : Int32)), .val (.ref b1), .val (.ref b2), .val (.int (Int32.ofNat n)), .unset, .unset] [(.int (0 : Int32))])) (fun tt_ kk_ => XS.iload X28.here hx rfl (hb hby at_56) rfl kk_) ?_
    refine Ends.to (T' := T28) (g' := (mkF m 61 #[.val (.long q1), .second, .val (.int p2), .val (.int p3), .val (.int p4), .val (.int p5), .val (.int (Int32.ofNat s0)), .val (.int (Int32.ofNat n)), .val (.int (0 : Int32)), .val (.ref b1), .val (.ref b2), .val (.int (Int32.ofNat n)), .unset, .unset] [])) (fun tt_ kk_ => XS.ifNo X28.here hx rfl (hb hby at_58) rfl ((if0 _ _).trans (teq rfl).2) kk_) ?_
    refine Ends.to (T' := T28) (g' := (mkF m 63 #[.val (.long q1), .second, .val (.int p2), .val (.int p3), .val (.int p4), .val (.int p5), .val (.int (Int32.ofNat s0)), .val (.int (Int32.ofNat n)), .val (.int (0 : Int32)), .val (.ref b1), .val (.ref b2), .val (.int (Int32.ofNat n)), .unset, .unset] [(.int (Int32.ofNat n))])) (fun tt_ kk_ => XS.iload X28.here hx rfl (hb hby at_61) rfl kk_) ?_
    refine Ends.to (T' := T28) (g' := (mkF m 65 #[.val (.long q1), .second, .val (.int p2), .val (.int p3), .val (.int p4), .val (.int p5), .val (.int (Int32.ofNat s0)), .val (.int (Int32.ofNat n)), .val (.int (0 : Int32)), .val (.ref b1), .val (.ref b2), .val (.int (Int32.ofNat n)), .unset, .unset] [(.int (Int32.ofNat n)), (.int (Int32.ofNat n))])) (fun tt_ kk_ => XS.iload X28.here hx rfl (hb hby at_63) rfl kk_) ?_
    refine Ends.to (T' := T28) (g' := (mkF m 68 #[.val (.long q1), .second, .val (.int p2), .val (.int p3), .val (.int p4), .val (.int p5), .val (.int (Int32.ofNat s0)), .val (.int (Int32.ofNat n)), .val (.int (0 : Int32)), .val (.ref b1), .val (.ref b2), .val (.int (Int32.ofNat n)), .unset, .unset] [])) (fun tt_ kk_ => XS.icmpNo X28.here hx rfl (hb hby at_65) rfl (teq rfl).2 kk_) ?_
    refine Ends.to (T' := T28) (g' := (mkF m 70 #[.val (.long q1), .second, .val (.int p2), .val (.int p3), .val (.int p4), .val (.int p5), .val (.int (Int32.ofNat s0)), .val (.int (Int32.ofNat n)), .val (.int (0 : Int32)), .val (.ref b1), .val (.ref b2), .val (.int (Int32.ofNat n)), .unset, .unset] [(.ref b1)])) (fun tt_ kk_ => XS.aload X28.here hx rfl (hb hby at_68) rfl rfl kk_) ?_
    refine Ends.to (T' := T28) (g' := (mkF m 71 #[.val (.long q1), .second, .val (.int p2), .val (.int p3), .val (.int p4), .val (.int p5), .val (.int (Int32.ofNat s0)), .val (.int (Int32.ofNat n)), .val (.int (0 : Int32)), .val (.ref b1), .val (.ref b2), .val (.int (Int32.ofNat n)), .unset, .unset] [(.int (0 : Int32)), (.ref b1)])) (fun tt_ kk_ => XS.iconst X28.here hx rfl (hb hby at_70) kk_) ?_
    refine Ends.to (T' := T28) (g' := (mkF m 72 #[.val (.long q1), .second, .val (.int p2), .val (.int p3), .val (.int p4), .val (.int p5), .val (.int (Int32.ofNat s0)), .val (.int (Int32.ofNat n)), .val (.int (0 : Int32)), .val (.ref b1), .val (.ref b2), .val (.int (Int32.ofNat n)), .unset, .unset] [(.int ((own_g q1 p2) 0))])) (fun tt_ kk_ => BA.ldB X28 hx hZ e28q B_b1 (j := (0 : Int32)) (i := 0) (by decide) rfl (by decide) (g := (mkF m 71 #[.val (.long q1), .second, .val (.int p2), .val (.int p3), .val (.int p4), .val (.int p5), .val (.int (Int32.ofNat s0)), .val (.int (Int32.ofNat n)), .val (.int (0 : Int32)), .val (.ref b1), .val (.ref b2), .val (.int (Int32.ofNat n)), .unset, .unset] [(.int (0 : Int32)), (.ref b1)])) rfl rfl (hb hby at_71) tt_ kk_) ?_
    refine Ends.to (T' := T28) (g' := (mkF m 74 #[.val (.long q1), .second, .val (.int p2), .val (.int p3), .val (.int p4), .val (.int p5), .val (.int (Int32.ofNat s0)), .val (.int (Int32.ofNat n)), .val (.int (0 : Int32)), .val (.ref b1), .val (.ref b2), .val (.int (Int32.ofNat n)), .unset, .unset] [(.ref b2), (.int ((own_g q1 p2) 0))])) (fun tt_ kk_ => XS.aload X28.here hx rfl (hb hby at_72) rfl rfl kk_) ?_
    refine Ends.to (T' := T28) (g' := (mkF m 75 #[.val (.long q1), .second, .val (.int p2), .val (.int p3), .val (.int p4), .val (.int p5), .val (.int (Int32.ofNat s0)), .val (.int (Int32.ofNat n)), .val (.int (0 : Int32)), .val (.ref b1), .val (.ref b2), .val (.int (Int32.ofNat n)), .unset, .unset] [(.int (0 : Int32)), (.ref b2), (.int ((own_g q1 p2) 0))])) (fun tt_ kk_ => XS.iconst X28.here hx rfl (hb hby at_74) kk_) ?_
    refine Ends.to (T' := T28) (g' := (mkF m 76 #[.val (.long q1), .second, .val (.int p2), .val (.int p3), .val (.int p4), .val (.int p5), .val (.int (Int32.ofNat s0)), .val (.int (Int32.ofNat n)), .val (.int (0 : Int32)), .val (.ref b1), .val (.ref b2), .val (.int (Int32.ofNat n)), .unset, .unset] [(.int ((own_g q1 p2) 0)), (.int ((own_g q1 p2) 0))])) (fun tt_ kk_ => BA.ldB X28 hx hZ e28q B_b2 (j := (0 : Int32)) (i := 0) (by decide) rfl (by decide) (g := (mkF m 75 #[.val (.long q1), .second, .val (.int p2), .val (.int p3), .val (.int p4), .val (.int p5), .val (.int (Int32.ofNat s0)), .val (.int (Int32.ofNat n)), .val (.int (0 : Int32)), .val (.ref b1), .val (.ref b2), .val (.int (Int32.ofNat n)), .unset, .unset] [(.int (0 : Int32)), (.ref b2), (.int ((own_g q1 p2) 0))])) rfl rfl (hb hby at_75) tt_ kk_) ?_
    refine Ends.to (T' := T28) (g' := (mkF m 79 #[.val (.long q1), .second, .val (.int p2), .val (.int p3), .val (.int p4), .val (.int p5), .val (.int (Int32.ofNat s0)), .val (.int (Int32.ofNat n)), .val (.int (0 : Int32)), .val (.ref b1), .val (.ref b2), .val (.int (Int32.ofNat n)), .unset, .unset] [])) (fun tt_ kk_ => XS.icmpNo X28.here hx rfl (hb hby at_76) rfl (teq rfl).2 kk_) ?_
    refine Ends.to (T' := T28) (g' := (mkF m 81 #[.val (.long q1), .second, .val (.int p2), .val (.int p3), .val (.int p4), .val (.int p5), .val (.int (Int32.ofNat s0)), .val (.int (Int32.ofNat n)), .val (.int (0 : Int32)), .val (.ref b1), .val (.ref b2), .val (.int (Int32.ofNat n)), .unset, .unset] [(.ref b1)])) (fun tt_ kk_ => XS.aload X28.here hx rfl (hb hby at_79) rfl rfl kk_) ?_
    refine Ends.to (T' := T28) (g' := (mkF m 82 #[.val (.long q1), .second, .val (.int p2), .val (.int p3), .val (.int p4), .val (.int p5), .val (.int (Int32.ofNat s0)), .val (.int (Int32.ofNat n)), .val (.int (0 : Int32)), .val (.ref b1), .val (.ref b2), .val (.int (Int32.ofNat n)), .unset, .unset] [(.int (1 : Int32)), (.ref b1)])) (fun tt_ kk_ => XS.iconst X28.here hx rfl (hb hby at_81) kk_) ?_
    refine Ends.to (T' := T28) (g' := (mkF m 83 #[.val (.long q1), .second, .val (.int p2), .val (.int p3), .val (.int p4), .val (.int p5), .val (.int (Int32.ofNat s0)), .val (.int (Int32.ofNat n)), .val (.int (0 : Int32)), .val (.ref b1), .val (.ref b2), .val (.int (Int32.ofNat n)), .unset, .unset] [(.int ((own_g q1 p2) 1))])) (fun tt_ kk_ => BA.ldB X28 hx hZ e28q B_b1 (j := (1 : Int32)) (i := 1) (by decide) rfl (by decide) (g := (mkF m 82 #[.val (.long q1), .second, .val (.int p2), .val (.int p3), .val (.int p4), .val (.int p5), .val (.int (Int32.ofNat s0)), .val (.int (Int32.ofNat n)), .val (.int (0 : Int32)), .val (.ref b1), .val (.ref b2), .val (.int (Int32.ofNat n)), .unset, .unset] [(.int (1 : Int32)), (.ref b1)])) rfl rfl (hb hby at_82) tt_ kk_) ?_
    refine Ends.to (T' := T28) (g' := (mkF m 85 #[.val (.long q1), .second, .val (.int p2), .val (.int p3), .val (.int p4), .val (.int p5), .val (.int (Int32.ofNat s0)), .val (.int (Int32.ofNat n)), .val (.int (0 : Int32)), .val (.ref b1), .val (.ref b2), .val (.int (Int32.ofNat n)), .unset, .unset] [(.ref b2), (.int ((own_g q1 p2) 1))])) (fun tt_ kk_ => XS.aload X28.here hx rfl (hb hby at_83) rfl rfl kk_) ?_
    refine Ends.to (T' := T28) (g' := (mkF m 86 #[.val (.long q1), .second, .val (.int p2), .val (.int p3), .val (.int p4), .val (.int p5), .val (.int (Int32.ofNat s0)), .val (.int (Int32.ofNat n)), .val (.int (0 : Int32)), .val (.ref b1), .val (.ref b2), .val (.int (Int32.ofNat n)), .unset, .unset] [(.int (1 : Int32)), (.ref b2), (.int ((own_g q1 p2) 1))])) (fun tt_ kk_ => XS.iconst X28.here hx rfl (hb hby at_85) kk_) ?_
    refine Ends.to (T' := T28) (g' := (mkF m 87 #[.val (.long q1), .second, .val (.int p2), .val (.int p3), .val (.int p4), .val (.int p5), .val (.int (Int32.ofNat s0)), .val (.int (Int32.ofNat n)), .val (.int (0 : Int32)), .val (.ref b1), .val (.ref b2), .val (.int (Int32.ofNat n)), .unset, .unset] [(.int ((own_g q1 p2) 1)), (.int ((own_g q1 p2) 1))])) (fun tt_ kk_ => BA.ldB X28 hx hZ e28q B_b2 (j := (1 : Int32)) (i := 1) (by decide) rfl (by decide) (g := (mkF m 86 #[.val (.long q1), .second, .val (.int p2), .val (.int p3), .val (.int p4), .val (.int p5), .val (.int (Int32.ofNat s0)), .val (.int (Int32.ofNat n)), .val (.int (0 : Int32)), .val (.ref b1), .val (.ref b2), .val (.int (Int32.ofNat n)), .unset, .unset] [(.int (1 : Int32)), (.ref b2), (.int ((own_g q1 p2) 1))])) rfl rfl (hb hby at_86) tt_ kk_) ?_
    refine Ends.to (T' := T28) (g' := (mkF m 90 #[.val (.long q1), .second, .val (.int p2), .val (.int p3), .val (.int p4), .val (.int p5), .val (.int (Int32.ofNat s0)), .val (.int (Int32.ofNat n)), .val (.int (0 : Int32)), .val (.ref b1), .val (.ref b2), .val (.int (Int32.ofNat n)), .unset, .unset] [])) (fun tt_ kk_ => XS.icmpNo X28.here hx rfl (hb hby at_87) rfl (teq rfl).2 kk_) ?_
    refine Ends.to (T' := T28) (g' := (mkF m 92 #[.val (.long q1), .second, .val (.int p2), .val (.int p3), .val (.int p4), .val (.int p5), .val (.int (Int32.ofNat s0)), .val (.int (Int32.ofNat n)), .val (.int (0 : Int32)), .val (.ref b1), .val (.ref b2), .val (.int (Int32.ofNat n)), .unset, .unset] [(.ref b1)])) (fun tt_ kk_ => XS.aload X28.here hx rfl (hb hby at_90) rfl rfl kk_) ?_
    refine Ends.to (T' := T28) (g' := (mkF m 93 #[.val (.long q1), .second, .val (.int p2), .val (.int p3), .val (.int p4), .val (.int p5), .val (.int (Int32.ofNat s0)), .val (.int (Int32.ofNat n)), .val (.int (0 : Int32)), .val (.ref b1), .val (.ref b2), .val (.int (Int32.ofNat n)), .unset, .unset] [(.int (2 : Int32)), (.ref b1)])) (fun tt_ kk_ => XS.iconst X28.here hx rfl (hb hby at_92) kk_) ?_
    refine Ends.to (T' := T28) (g' := (mkF m 94 #[.val (.long q1), .second, .val (.int p2), .val (.int p3), .val (.int p4), .val (.int p5), .val (.int (Int32.ofNat s0)), .val (.int (Int32.ofNat n)), .val (.int (0 : Int32)), .val (.ref b1), .val (.ref b2), .val (.int (Int32.ofNat n)), .unset, .unset] [(.int ((own_g q1 p2) 2))])) (fun tt_ kk_ => BA.ldB X28 hx hZ e28q B_b1 (j := (2 : Int32)) (i := 2) (by decide) rfl (by decide) (g := (mkF m 93 #[.val (.long q1), .second, .val (.int p2), .val (.int p3), .val (.int p4), .val (.int p5), .val (.int (Int32.ofNat s0)), .val (.int (Int32.ofNat n)), .val (.int (0 : Int32)), .val (.ref b1), .val (.ref b2), .val (.int (Int32.ofNat n)), .unset, .unset] [(.int (2 : Int32)), (.ref b1)])) rfl rfl (hb hby at_93) tt_ kk_) ?_
    refine Ends.to (T' := T28) (g' := (mkF m 96 #[.val (.long q1), .second, .val (.int p2), .val (.int p3), .val (.int p4), .val (.int p5), .val (.int (Int32.ofNat s0)), .val (.int (Int32.ofNat n)), .val (.int (0 : Int32)), .val (.ref b1), .val (.ref b2), .val (.int (Int32.ofNat n)), .unset, .unset] [(.ref b2), (.int ((own_g q1 p2) 2))])) (fun tt_ kk_ => XS.aload X28.here hx rfl (hb hby at_94) rfl rfl kk_) ?_
    refine Ends.to (T' := T28) (g' := (mkF m 97 #[.val (.long q1), .second, .val (.int p2), .val (.int p3), .val (.int p4), .val (.int p5), .val (.int (Int32.ofNat s0)), .val (.int (Int32.ofNat n)), .val (.int (0 : Int32)), .val (.ref b1), .val (.ref b2), .val (.int (Int32.ofNat n)), .unset, .unset] [(.int (2 : Int32)), (.ref b2), (.int ((own_g q1 p2) 2))])) (fun tt_ kk_ => XS.iconst X28.here hx rfl (hb hby at_96) kk_) ?_
    refine Ends.to (T' := T28) (g' := (mkF m 98 #[.val (.long q1), .second, .val (.int p2), .val (.int p3), .val (.int p4), .val (.int p5), .val (.int (Int32.ofNat s0)), .val (.int (Int32.ofNat n)), .val (.int (0 : Int32)), .val (.ref b1), .val (.ref b2), .val (.int (Int32.ofNat n)), .unset, .unset] [(.int ((own_g q1 p2) 2)), (.int ((own_g q1 p2) 2))])) (fun tt_ kk_ => BA.ldB X28 hx hZ e28q B_b2 (j := (2 : Int32)) (i := 2) (by decide) rfl (by decide) (g := (mkF m 97 #[.val (.long q1), .second, .val (.int p2), .val (.int p3), .val (.int p4), .val (.int p5), .val (.int (Int32.ofNat s0)), .val (.int (Int32.ofNat n)), .val (.int (0 : Int32)), .val (.ref b1), .val (.ref b2), .val (.int (Int32.ofNat n)), .unset, .unset] [(.int (2 : Int32)), (.ref b2), (.int ((own_g q1 p2) 2))])) rfl rfl (hb hby at_97) tt_ kk_) ?_
    refine Ends.to (T' := T28) (g' := (mkF m 101 #[.val (.long q1), .second, .val (.int p2), .val (.int p3), .val (.int p4), .val (.int p5), .val (.int (Int32.ofNat s0)), .val (.int (Int32.ofNat n)), .val (.int (0 : Int32)), .val (.ref b1), .val (.ref b2), .val (.int (Int32.ofNat n)), .unset, .unset] [])) (fun tt_ kk_ => XS.icmpNo X28.here hx rfl (hb hby at_98) rfl (teq rfl).2 kk_) ?_
    refine Ends.to (T' := T28) (g' := (mkF m 103 #[.val (.long q1), .second, .val (.int p2), .val (.int p3), .val (.int p4), .val (.int p5), .val (.int (Int32.ofNat s0)), .val (.int (Int32.ofNat n)), .val (.int (0 : Int32)), .val (.ref b1), .val (.ref b2), .val (.int (Int32.ofNat n)), .unset, .unset] [(.ref b1)])) (fun tt_ kk_ => XS.aload X28.here hx rfl (hb hby at_101) rfl rfl kk_) ?_
    refine Ends.to (T' := T28) (g' := (mkF m 104 #[.val (.long q1), .second, .val (.int p2), .val (.int p3), .val (.int p4), .val (.int p5), .val (.int (Int32.ofNat s0)), .val (.int (Int32.ofNat n)), .val (.int (0 : Int32)), .val (.ref b1), .val (.ref b2), .val (.int (Int32.ofNat n)), .unset, .unset] [(.int (3 : Int32)), (.ref b1)])) (fun tt_ kk_ => XS.iconst X28.here hx rfl (hb hby at_103) kk_) ?_
    refine Ends.to (T' := T28) (g' := (mkF m 105 #[.val (.long q1), .second, .val (.int p2), .val (.int p3), .val (.int p4), .val (.int p5), .val (.int (Int32.ofNat s0)), .val (.int (Int32.ofNat n)), .val (.int (0 : Int32)), .val (.ref b1), .val (.ref b2), .val (.int (Int32.ofNat n)), .unset, .unset] [(.int ((own_g q1 p2) 3))])) (fun tt_ kk_ => BA.ldB X28 hx hZ e28q B_b1 (j := (3 : Int32)) (i := 3) (by decide) rfl (by decide) (g := (mkF m 104 #[.val (.long q1), .second, .val (.int p2), .val (.int p3), .val (.int p4), .val (.int p5), .val (.int (Int32.ofNat s0)), .val (.int (Int32.ofNat n)), .val (.int (0 : Int32)), .val (.ref b1), .val (.ref b2), .val (.int (Int32.ofNat n)), .unset, .unset] [(.int (3 : Int32)), (.ref b1)])) rfl rfl (hb hby at_104) tt_ kk_) ?_
    refine Ends.to (T' := T28) (g' := (mkF m 107 #[.val (.long q1), .second, .val (.int p2), .val (.int p3), .val (.int p4), .val (.int p5), .val (.int (Int32.ofNat s0)), .val (.int (Int32.ofNat n)), .val (.int (0 : Int32)), .val (.ref b1), .val (.ref b2), .val (.int (Int32.ofNat n)), .unset, .unset] [(.ref b2), (.int ((own_g q1 p2) 3))])) (fun tt_ kk_ => XS.aload X28.here hx rfl (hb hby at_105) rfl rfl kk_) ?_
    refine Ends.to (T' := T28) (g' := (mkF m 108 #[.val (.long q1), .second, .val (.int p2), .val (.int p3), .val (.int p4), .val (.int p5), .val (.int (Int32.ofNat s0)), .val (.int (Int32.ofNat n)), .val (.int (0 : Int32)), .val (.ref b1), .val (.ref b2), .val (.int (Int32.ofNat n)), .unset, .unset] [(.int (3 : Int32)), (.ref b2), (.int ((own_g q1 p2) 3))])) (fun tt_ kk_ => XS.iconst X28.here hx rfl (hb hby at_107) kk_) ?_
    refine Ends.to (T' := T28) (g' := (mkF m 109 #[.val (.long q1), .second, .val (.int p2), .val (.int p3), .val (.int p4), .val (.int p5), .val (.int (Int32.ofNat s0)), .val (.int (Int32.ofNat n)), .val (.int (0 : Int32)), .val (.ref b1), .val (.ref b2), .val (.int (Int32.ofNat n)), .unset, .unset] [(.int ((own_g q1 p2) 3)), (.int ((own_g q1 p2) 3))])) (fun tt_ kk_ => BA.ldB X28 hx hZ e28q B_b2 (j := (3 : Int32)) (i := 3) (by decide) rfl (by decide) (g := (mkF m 108 #[.val (.long q1), .second, .val (.int p2), .val (.int p3), .val (.int p4), .val (.int p5), .val (.int (Int32.ofNat s0)), .val (.int (Int32.ofNat n)), .val (.int (0 : Int32)), .val (.ref b1), .val (.ref b2), .val (.int (Int32.ofNat n)), .unset, .unset] [(.int (3 : Int32)), (.ref b2), (.int ((own_g q1 p2) 3))])) rfl rfl (hb hby at_108) tt_ kk_) ?_
    refine Ends.to (T' := T28) (g' := (mkF m 112 #[.val (.long q1), .second, .val (.int p2), .val (.int p3), .val (.int p4), .val (.int p5), .val (.int (Int32.ofNat s0)), .val (.int (Int32.ofNat n)), .val (.int (0 : Int32)), .val (.ref b1), .val (.ref b2), .val (.int (Int32.ofNat n)), .unset, .unset] [])) (fun tt_ kk_ => XS.icmpNo X28.here hx rfl (hb hby at_109) rfl (teq rfl).2 kk_) ?_
    refine Ends.to (T' := T28) (g' := (mkF m 114 #[.val (.long q1), .second, .val (.int p2), .val (.int p3), .val (.int p4), .val (.int p5), .val (.int (Int32.ofNat s0)), .val (.int (Int32.ofNat n)), .val (.int (0 : Int32)), .val (.ref b1), .val (.ref b2), .val (.int (Int32.ofNat n)), .unset, .unset] [(.ref b1)])) (fun tt_ kk_ => XS.aload X28.here hx rfl (hb hby at_112) rfl rfl kk_) ?_
    refine Ends.to (T' := T28) (g' := (mkF m 115 #[.val (.long q1), .second, .val (.int p2), .val (.int p3), .val (.int p4), .val (.int p5), .val (.int (Int32.ofNat s0)), .val (.int (Int32.ofNat n)), .val (.int (0 : Int32)), .val (.ref b1), .val (.ref b2), .val (.int (Int32.ofNat n)), .unset, .unset] [(.int (4 : Int32)), (.ref b1)])) (fun tt_ kk_ => XS.iconst X28.here hx rfl (hb hby at_114) kk_) ?_
    refine Ends.to (T' := T28) (g' := (mkF m 116 #[.val (.long q1), .second, .val (.int p2), .val (.int p3), .val (.int p4), .val (.int p5), .val (.int (Int32.ofNat s0)), .val (.int (Int32.ofNat n)), .val (.int (0 : Int32)), .val (.ref b1), .val (.ref b2), .val (.int (Int32.ofNat n)), .unset, .unset] [(.int ((own_g q1 p2) 4))])) (fun tt_ kk_ => BA.ldB X28 hx hZ e28q B_b1 (j := (4 : Int32)) (i := 4) (by decide) rfl (by decide) (g := (mkF m 115 #[.val (.long q1), .second, .val (.int p2), .val (.int p3), .val (.int p4), .val (.int p5), .val (.int (Int32.ofNat s0)), .val (.int (Int32.ofNat n)), .val (.int (0 : Int32)), .val (.ref b1), .val (.ref b2), .val (.int (Int32.ofNat n)), .unset, .unset] [(.int (4 : Int32)), (.ref b1)])) rfl rfl (hb hby at_115) tt_ kk_) ?_
    refine Ends.to (T' := T28) (g' := (mkF m 118 #[.val (.long q1), .second, .val (.int p2), .val (.int p3), .val (.int p4), .val (.int p5), .val (.int (Int32.ofNat s0)), .val (.int (Int32.ofNat n)), .val (.int (0 : Int32)), .val (.ref b1), .val (.ref b2), .val (.int (Int32.ofNat n)), .unset, .unset] [(.ref b2), (.int ((own_g q1 p2) 4))])) (fun tt_ kk_ => XS.aload X28.here hx rfl (hb hby at_116) rfl rfl kk_) ?_
    refine Ends.to (T' := T28) (g' := (mkF m 119 #[.val (.long q1), .second, .val (.int p2), .val (.int p3), .val (.int p4), .val (.int p5), .val (.int (Int32.ofNat s0)), .val (.int (Int32.ofNat n)), .val (.int (0 : Int32)), .val (.ref b1), .val (.ref b2), .val (.int (Int32.ofNat n)), .unset, .unset] [(.int (4 : Int32)), (.ref b2), (.int ((own_g q1 p2) 4))])) (fun tt_ kk_ => XS.iconst X28.here hx rfl (hb hby at_118) kk_) ?_
    refine Ends.to (T' := T28) (g' := (mkF m 120 #[.val (.long q1), .second, .val (.int p2), .val (.int p3), .val (.int p4), .val (.int p5), .val (.int (Int32.ofNat s0)), .val (.int (Int32.ofNat n)), .val (.int (0 : Int32)), .val (.ref b1), .val (.ref b2), .val (.int (Int32.ofNat n)), .unset, .unset] [(.int ((own_g q1 p2) 4)), (.int ((own_g q1 p2) 4))])) (fun tt_ kk_ => BA.ldB X28 hx hZ e28q B_b2 (j := (4 : Int32)) (i := 4) (by decide) rfl (by decide) (g := (mkF m 119 #[.val (.long q1), .second, .val (.int p2), .val (.int p3), .val (.int p4), .val (.int p5), .val (.int (Int32.ofNat s0)), .val (.int (Int32.ofNat n)), .val (.int (0 : Int32)), .val (.ref b1), .val (.ref b2), .val (.int (Int32.ofNat n)), .unset, .unset] [(.int (4 : Int32)), (.ref b2), (.int ((own_g q1 p2) 4))])) rfl rfl (hb hby at_119) tt_ kk_) ?_
    refine Ends.to (T' := T28) (g' := (mkF m 123 #[.val (.long q1), .second, .val (.int p2), .val (.int p3), .val (.int p4), .val (.int p5), .val (.int (Int32.ofNat s0)), .val (.int (Int32.ofNat n)), .val (.int (0 : Int32)), .val (.ref b1), .val (.ref b2), .val (.int (Int32.ofNat n)), .unset, .unset] [])) (fun tt_ kk_ => XS.icmpNo X28.here hx rfl (hb hby at_120) rfl (teq rfl).2 kk_) ?_
    refine Ends.to (T' := T28) (g' := (mkF m 125 #[.val (.long q1), .second, .val (.int p2), .val (.int p3), .val (.int p4), .val (.int p5), .val (.int (Int32.ofNat s0)), .val (.int (Int32.ofNat n)), .val (.int (0 : Int32)), .val (.ref b1), .val (.ref b2), .val (.int (Int32.ofNat n)), .unset, .unset] [(.ref b1)])) (fun tt_ kk_ => XS.aload X28.here hx rfl (hb hby at_123) rfl rfl kk_) ?_
    refine Ends.to (T' := T28) (g' := (mkF m 126 #[.val (.long q1), .second, .val (.int p2), .val (.int p3), .val (.int p4), .val (.int p5), .val (.int (Int32.ofNat s0)), .val (.int (Int32.ofNat n)), .val (.int (0 : Int32)), .val (.ref b1), .val (.ref b2), .val (.int (Int32.ofNat n)), .unset, .unset] [(.int (5 : Int32)), (.ref b1)])) (fun tt_ kk_ => XS.iconst X28.here hx rfl (hb hby at_125) kk_) ?_
    refine Ends.to (T' := T28) (g' := (mkF m 127 #[.val (.long q1), .second, .val (.int p2), .val (.int p3), .val (.int p4), .val (.int p5), .val (.int (Int32.ofNat s0)), .val (.int (Int32.ofNat n)), .val (.int (0 : Int32)), .val (.ref b1), .val (.ref b2), .val (.int (Int32.ofNat n)), .unset, .unset] [(.int ((own_g q1 p2) 5))])) (fun tt_ kk_ => BA.ldB X28 hx hZ e28q B_b1 (j := (5 : Int32)) (i := 5) (by decide) rfl (by decide) (g := (mkF m 126 #[.val (.long q1), .second, .val (.int p2), .val (.int p3), .val (.int p4), .val (.int p5), .val (.int (Int32.ofNat s0)), .val (.int (Int32.ofNat n)), .val (.int (0 : Int32)), .val (.ref b1), .val (.ref b2), .val (.int (Int32.ofNat n)), .unset, .unset] [(.int (5 : Int32)), (.ref b1)])) rfl rfl (hb hby at_126) tt_ kk_) ?_
    refine Ends.to (T' := T28) (g' := (mkF m 129 #[.val (.long q1), .second, .val (.int p2), .val (.int p3), .val (.int p4), .val (.int p5), .val (.int (Int32.ofNat s0)), .val (.int (Int32.ofNat n)), .val (.int (0 : Int32)), .val (.ref b1), .val (.ref b2), .val (.int (Int32.ofNat n)), .unset, .unset] [(.ref b2), (.int ((own_g q1 p2) 5))])) (fun tt_ kk_ => XS.aload X28.here hx rfl (hb hby at_127) rfl rfl kk_) ?_
    refine Ends.to (T' := T28) (g' := (mkF m 130 #[.val (.long q1), .second, .val (.int p2), .val (.int p3), .val (.int p4), .val (.int p5), .val (.int (Int32.ofNat s0)), .val (.int (Int32.ofNat n)), .val (.int (0 : Int32)), .val (.ref b1), .val (.ref b2), .val (.int (Int32.ofNat n)), .unset, .unset] [(.int (5 : Int32)), (.ref b2), (.int ((own_g q1 p2) 5))])) (fun tt_ kk_ => XS.iconst X28.here hx rfl (hb hby at_129) kk_) ?_
    refine Ends.to (T' := T28) (g' := (mkF m 131 #[.val (.long q1), .second, .val (.int p2), .val (.int p3), .val (.int p4), .val (.int p5), .val (.int (Int32.ofNat s0)), .val (.int (Int32.ofNat n)), .val (.int (0 : Int32)), .val (.ref b1), .val (.ref b2), .val (.int (Int32.ofNat n)), .unset, .unset] [(.int ((own_g q1 p2) 5)), (.int ((own_g q1 p2) 5))])) (fun tt_ kk_ => BA.ldB X28 hx hZ e28q B_b2 (j := (5 : Int32)) (i := 5) (by decide) rfl (by decide) (g := (mkF m 130 #[.val (.long q1), .second, .val (.int p2), .val (.int p3), .val (.int p4), .val (.int p5), .val (.int (Int32.ofNat s0)), .val (.int (Int32.ofNat n)), .val (.int (0 : Int32)), .val (.ref b1), .val (.ref b2), .val (.int (Int32.ofNat n)), .unset, .unset] [(.int (5 : Int32)), (.ref b2), (.int ((own_g q1 p2) 5))])) rfl rfl (hb hby at_130) tt_ kk_) ?_
    refine Ends.to (T' := T28) (g' := (mkF m 134 #[.val (.long q1), .second, .val (.int p2), .val (.int p3), .val (.int p4), .val (.int p5), .val (.int (Int32.ofNat s0)), .val (.int (Int32.ofNat n)), .val (.int (0 : Int32)), .val (.ref b1), .val (.ref b2), .val (.int (Int32.ofNat n)), .unset, .unset] [])) (fun tt_ kk_ => XS.icmpNo X28.here hx rfl (hb hby at_131) rfl (teq rfl).2 kk_) ?_
    refine Ends.to (T' := T28) (g' := (mkF m 136 #[.val (.long q1), .second, .val (.int p2), .val (.int p3), .val (.int p4), .val (.int p5), .val (.int (Int32.ofNat s0)), .val (.int (Int32.ofNat n)), .val (.int (0 : Int32)), .val (.ref b1), .val (.ref b2), .val (.int (Int32.ofNat n)), .unset, .unset] [(.ref b1)])) (fun tt_ kk_ => XS.aload X28.here hx rfl (hb hby at_134) rfl rfl kk_) ?_
    refine Ends.to (T' := T28) (g' := (mkF m 138 #[.val (.long q1), .second, .val (.int p2), .val (.int p3), .val (.int p4), .val (.int p5), .val (.int (Int32.ofNat s0)), .val (.int (Int32.ofNat n)), .val (.int (0 : Int32)), .val (.ref b1), .val (.ref b2), .val (.int (Int32.ofNat n)), .unset, .unset] [(.int (6 : Int32)), (.ref b1)])) (fun tt_ kk_ => XS.bipush X28.here hx rfl (hb hby at_136) kk_) ?_
    refine Ends.to (T' := T28) (g' := (mkF m 139 #[.val (.long q1), .second, .val (.int p2), .val (.int p3), .val (.int p4), .val (.int p5), .val (.int (Int32.ofNat s0)), .val (.int (Int32.ofNat n)), .val (.int (0 : Int32)), .val (.ref b1), .val (.ref b2), .val (.int (Int32.ofNat n)), .unset, .unset] [(.int ((own_g q1 p2) 6))])) (fun tt_ kk_ => BA.ldB X28 hx hZ e28q B_b1 (j := (6 : Int32)) (i := 6) (by decide) rfl (by decide) (g := (mkF m 138 #[.val (.long q1), .second, .val (.int p2), .val (.int p3), .val (.int p4), .val (.int p5), .val (.int (Int32.ofNat s0)), .val (.int (Int32.ofNat n)), .val (.int (0 : Int32)), .val (.ref b1), .val (.ref b2), .val (.int (Int32.ofNat n)), .unset, .unset] [(.int (6 : Int32)), (.ref b1)])) rfl rfl (hb hby at_138) tt_ kk_) ?_
    refine Ends.to (T' := T28) (g' := (mkF m 141 #[.val (.long q1), .second, .val (.int p2), .val (.int p3), .val (.int p4), .val (.int p5), .val (.int (Int32.ofNat s0)), .val (.int (Int32.ofNat n)), .val (.int (0 : Int32)), .val (.ref b1), .val (.ref b2), .val (.int (Int32.ofNat n)), .unset, .unset] [(.ref b2), (.int ((own_g q1 p2) 6))])) (fun tt_ kk_ => XS.aload X28.here hx rfl (hb hby at_139) rfl rfl kk_) ?_
    refine Ends.to (T' := T28) (g' := (mkF m 143 #[.val (.long q1), .second, .val (.int p2), .val (.int p3), .val (.int p4), .val (.int p5), .val (.int (Int32.ofNat s0)), .val (.int (Int32.ofNat n)), .val (.int (0 : Int32)), .val (.ref b1), .val (.ref b2), .val (.int (Int32.ofNat n)), .unset, .unset] [(.int (6 : Int32)), (.ref b2), (.int ((own_g q1 p2) 6))])) (fun tt_ kk_ => XS.bipush X28.here hx rfl (hb hby at_141) kk_) ?_
    refine Ends.to (T' := T28) (g' := (mkF m 144 #[.val (.long q1), .second, .val (.int p2), .val (.int p3), .val (.int p4), .val (.int p5), .val (.int (Int32.ofNat s0)), .val (.int (Int32.ofNat n)), .val (.int (0 : Int32)), .val (.ref b1), .val (.ref b2), .val (.int (Int32.ofNat n)), .unset, .unset] [(.int ((own_g q1 p2) 6)), (.int ((own_g q1 p2) 6))])) (fun tt_ kk_ => BA.ldB X28 hx hZ e28q B_b2 (j := (6 : Int32)) (i := 6) (by decide) rfl (by decide) (g := (mkF m 143 #[.val (.long q1), .second, .val (.int p2), .val (.int p3), .val (.int p4), .val (.int p5), .val (.int (Int32.ofNat s0)), .val (.int (Int32.ofNat n)), .val (.int (0 : Int32)), .val (.ref b1), .val (.ref b2), .val (.int (Int32.ofNat n)), .unset, .unset] [(.int (6 : Int32)), (.ref b2), (.int ((own_g q1 p2) 6))])) rfl rfl (hb hby at_143) tt_ kk_) ?_
    refine Ends.to (T' := T28) (g' := (mkF m 147 #[.val (.long q1), .second, .val (.int p2), .val (.int p3), .val (.int p4), .val (.int p5), .val (.int (Int32.ofNat s0)), .val (.int (Int32.ofNat n)), .val (.int (0 : Int32)), .val (.ref b1), .val (.ref b2), .val (.int (Int32.ofNat n)), .unset, .unset] [])) (fun tt_ kk_ => XS.icmpNo X28.here hx rfl (hb hby at_144) rfl (teq rfl).2 kk_) ?_
    refine Ends.to (T' := T28) (g' := (mkF m 149 #[.val (.long q1), .second, .val (.int p2), .val (.int p3), .val (.int p4), .val (.int p5), .val (.int (Int32.ofNat s0)), .val (.int (Int32.ofNat n)), .val (.int (0 : Int32)), .val (.ref b1), .val (.ref b2), .val (.int (Int32.ofNat n)), .unset, .unset] [(.ref b1)])) (fun tt_ kk_ => XS.aload X28.here hx rfl (hb hby at_147) rfl rfl kk_) ?_
    refine Ends.to (T' := T28) (g' := (mkF m 151 #[.val (.long q1), .second, .val (.int p2), .val (.int p3), .val (.int p4), .val (.int p5), .val (.int (Int32.ofNat s0)), .val (.int (Int32.ofNat n)), .val (.int (0 : Int32)), .val (.ref b1), .val (.ref b2), .val (.int (Int32.ofNat n)), .unset, .unset] [(.int (7 : Int32)), (.ref b1)])) (fun tt_ kk_ => XS.bipush X28.here hx rfl (hb hby at_149) kk_) ?_
    refine Ends.to (T' := T28) (g' := (mkF m 152 #[.val (.long q1), .second, .val (.int p2), .val (.int p3), .val (.int p4), .val (.int p5), .val (.int (Int32.ofNat s0)), .val (.int (Int32.ofNat n)), .val (.int (0 : Int32)), .val (.ref b1), .val (.ref b2), .val (.int (Int32.ofNat n)), .unset, .unset] [(.int ((own_g q1 p2) 7))])) (fun tt_ kk_ => BA.ldB X28 hx hZ e28q B_b1 (j := (7 : Int32)) (i := 7) (by decide) rfl (by decide) (g := (mkF m 151 #[.val (.long q1), .second, .val (.int p2), .val (.int p3), .val (.int p4), .val (.int p5), .val (.int (Int32.ofNat s0)), .val (.int (Int32.ofNat n)), .val (.int (0 : Int32)), .val (.ref b1), .val (.ref b2), .val (.int (Int32.ofNat n)), .unset, .unset] [(.int (7 : Int32)), (.ref b1)])) rfl rfl (hb hby at_151) tt_ kk_) ?_
    refine Ends.to (T' := T28) (g' := (mkF m 154 #[.val (.long q1), .second, .val (.int p2), .val (.int p3), .val (.int p4), .val (.int p5), .val (.int (Int32.ofNat s0)), .val (.int (Int32.ofNat n)), .val (.int (0 : Int32)), .val (.ref b1), .val (.ref b2), .val (.int (Int32.ofNat n)), .unset, .unset] [(.ref b2), (.int ((own_g q1 p2) 7))])) (fun tt_ kk_ => XS.aload X28.here hx rfl (hb hby at_152) rfl rfl kk_) ?_
    refine Ends.to (T' := T28) (g' := (mkF m 156 #[.val (.long q1), .second, .val (.int p2), .val (.int p3), .val (.int p4), .val (.int p5), .val (.int (Int32.ofNat s0)), .val (.int (Int32.ofNat n)), .val (.int (0 : Int32)), .val (.ref b1), .val (.ref b2), .val (.int (Int32.ofNat n)), .unset, .unset] [(.int (7 : Int32)), (.ref b2), (.int ((own_g q1 p2) 7))])) (fun tt_ kk_ => XS.bipush X28.here hx rfl (hb hby at_154) kk_) ?_
    refine Ends.to (T' := T28) (g' := (mkF m 157 #[.val (.long q1), .second, .val (.int p2), .val (.int p3), .val (.int p4), .val (.int p5), .val (.int (Int32.ofNat s0)), .val (.int (Int32.ofNat n)), .val (.int (0 : Int32)), .val (.ref b1), .val (.ref b2), .val (.int (Int32.ofNat n)), .unset, .unset] [(.int ((own_g q1 p2) 7)), (.int ((own_g q1 p2) 7))])) (fun tt_ kk_ => BA.ldB X28 hx hZ e28q B_b2 (j := (7 : Int32)) (i := 7) (by decide) rfl (by decide) (g := (mkF m 156 #[.val (.long q1), .second, .val (.int p2), .val (.int p3), .val (.int p4), .val (.int p5), .val (.int (Int32.ofNat s0)), .val (.int (Int32.ofNat n)), .val (.int (0 : Int32)), .val (.ref b1), .val (.ref b2), .val (.int (Int32.ofNat n)), .unset, .unset] [(.int (7 : Int32)), (.ref b2), (.int ((own_g q1 p2) 7))])) rfl rfl (hb hby at_156) tt_ kk_) ?_
    refine Ends.to (T' := T28) (g' := (mkF m 160 #[.val (.long q1), .second, .val (.int p2), .val (.int p3), .val (.int p4), .val (.int p5), .val (.int (Int32.ofNat s0)), .val (.int (Int32.ofNat n)), .val (.int (0 : Int32)), .val (.ref b1), .val (.ref b2), .val (.int (Int32.ofNat n)), .unset, .unset] [])) (fun tt_ kk_ => XS.icmpNo X28.here hx rfl (hb hby at_157) rfl (teq rfl).2 kk_) ?_
    refine Ends.to (T' := T28) (g' := (mkF m 161 #[.val (.long q1), .second, .val (.int p2), .val (.int p3), .val (.int p4), .val (.int p5), .val (.int (Int32.ofNat s0)), .val (.int (Int32.ofNat n)), .val (.int (0 : Int32)), .val (.ref b1), .val (.ref b2), .val (.int (Int32.ofNat n)), .unset, .unset] [(.int (1 : Int32))])) (fun tt_ kk_ => XS.iconst X28.here hx rfl (hb hby at_160) kk_) ?_
    refine Ends.to (T' := T28) (g' := (mkF m 165 #[.val (.long q1), .second, .val (.int p2), .val (.int p3), .val (.int p4), .val (.int p5), .val (.int (Int32.ofNat s0)), .val (.int (Int32.ofNat n)), .val (.int (0 : Int32)), .val (.ref b1), .val (.ref b2), .val (.int (Int32.ofNat n)), .unset, .unset] [(.int (1 : Int32))])) (fun tt_ kk_ => XS.goto X28.here hx rfl (pc0 := 161) (pc' := 165) rfl (hb hby at_161) (by decide) (by decide) kk_) ?_
    exact Ends.retN (t := .boolean) (by simp) X28 hx hret (hb hby at_165) hlk (by decide) (by decide) ⟨by decide, N28⟩
  · refine Ends.to (T' := s₁) (g' := (mkF m 22 #[.val (.long q1), .second, .val (.int p2), .val (.int p3), .val (.int p4), .val (.int p5), .val (.int (Int32.ofNat s0)), .val (.int (Int32.ofNat n)), .unset, .unset, .unset, .unset, .unset, .unset] [])) (fun tt_ kk_ => XS.ifNo X0.here hx rfl (hb hby at_19) rfl ((if0 _ _).trans (feq hc19).1) kk_) ?_
    refine Ends.to (T' := s₁) (g' := (mkF m 23 #[.val (.long q1), .second, .val (.int p2), .val (.int p3), .val (.int p4), .val (.int p5), .val (.int (Int32.ofNat s0)), .val (.int (Int32.ofNat n)), .unset, .unset, .unset, .unset, .unset, .unset] [(.int (1 : Int32))])) (fun tt_ kk_ => XS.iconst X0.here hx rfl (hb hby at_22) kk_) ?_
    refine Ends.to (T' := s₁) (g' := (mkF m 27 #[.val (.long q1), .second, .val (.int p2), .val (.int p3), .val (.int p4), .val (.int p5), .val (.int (Int32.ofNat s0)), .val (.int (Int32.ofNat n)), .unset, .unset, .unset, .unset, .unset, .unset] [(.int (1 : Int32))])) (fun tt_ kk_ => XS.goto X0.here hx rfl (pc0 := 23) (pc' := 27) rfl (hb hby at_23) (by decide) (by decide) kk_) ?_
    refine Ends.to (T' := s₁) (g' := (mkF m 29 #[.val (.long q1), .second, .val (.int p2), .val (.int p3), .val (.int p4), .val (.int p5), .val (.int (Int32.ofNat s0)), .val (.int (Int32.ofNat n)), .val (.int (1 : Int32)), .unset, .unset, .unset, .unset, .unset] [])) (fun tt_ kk_ => XS.istore X0.here hx rfl (hb hby at_27) rfl (l' := #[.val (.long q1), .second, .val (.int p2), .val (.int p3), .val (.int p4), .val (.int p5), .val (.int (Int32.ofNat s0)), .val (.int (Int32.ofNat n)), .val (.int (1 : Int32)), .unset, .unset, .unset, .unset, .unset]) rfl kk_) ?_
    refine Ends.to (T' := s₁) (g' := (mkF m 30 #[.val (.long q1), .second, .val (.int p2), .val (.int p3), .val (.int p4), .val (.int p5), .val (.int (Int32.ofNat s0)), .val (.int (Int32.ofNat n)), .val (.int (1 : Int32)), .unset, .unset, .unset, .unset, .unset] [(.long q1)])) (fun tt_ kk_ => XS.lloadN X0.here hx rfl (hb hby at_29) rfl kk_) ?_
    refine Ends.to (T' := s₁) (g' := (mkF m 31 #[.val (.long q1), .second, .val (.int p2), .val (.int p3), .val (.int p4), .val (.int p5), .val (.int (Int32.ofNat s0)), .val (.int (Int32.ofNat n)), .val (.int (1 : Int32)), .unset, .unset, .unset, .unset, .unset] [(.int p2), (.long q1)])) (fun tt_ kk_ => XS.iloadN X0.here hx rfl (hb hby at_30) rfl kk_) ?_
    obtain ⟨_, _, ⟨T29, L29, k29, n29⟩, -, X29, ⟨Lc29, hQ29, l29, y29, z29⟩, st29⟩ := Jvm.LawKit.callS X0 hx (y := (⟨"com/example/predicate/predicate/document/AttributeDeclarationNormalizePinLaw", "build", "(JI)[B"⟩ : MethodName)) hown (mvT hZ (hw _ (List.mem_of_getElem? (i := 1) rfl))) (mvT hZ (hw _ (List.mem_of_getElem? (i := 2) rfl))) (mvT hZ (hw _ (List.mem_of_getElem? (i := 3) rfl))) (mvT hZ (hw _ (List.mem_of_getElem? (i := 4) rfl))) (by decide) (backOf (W := 0) (rm1 l Z a0 hw [] q1 p2 h0 n0 Zs) hZ (hw _ (List.mem_of_getElem? (i := 4) rfl)) (hw _ (List.mem_of_getElem? (i := 3) rfl)) (by decide) (by decide)) (g := (mkF m 31 #[.val (.long q1), .second, .val (.int p2), .val (.int p3), .val (.int p4), .val (.int p5), .val (.int (Int32.ofNat s0)), .val (.int (Int32.ofNat n)), .val (.int (1 : Int32)), .unset, .unset, .unset, .unset, .unset] [(.int p2), (.long q1)])) rfl (by rw [hml]; rfl) (argsL := [(.long q1), (.int p2)]) (rest := []) (lenOf pd_1 rfl) rfl (by show 2 * 0 + _ ≤ _; exact Nat.le_of_eq rfl) (hb hby at_31) (fun _ _ => ⟨rfl, e0, (by decide : 0 + 1 ≤ _), (by decide : 0 + 8 ≤ _)⟩)
    dsimp only [Pt.U, Pt.locs, Pt.cells, Pt.slots] at X29 l29 y29 z29 st29 hQ29
    subst l29 y29 z29
    obtain ⟨rfl, N29q, K29, G29⟩ := hQ29
    have N29 := Fr.app N0 N29q
    obtain ⟨b1, g_b1⟩ : ∃ z, z = h0.size := ⟨_, rfl⟩
    rw [← g_b1] at st29 G29
    have f_b1 : n0 ≤ b1 := Nat.le_trans Zs (Nat.le_of_eq g_b1.symm)
    have Zs := Nat.le_trans Zs K29.1
    have B_b1 := G29
    refine Ends.to (T' := T29) (g' := (mkF m 34 #[.val (.long q1), .second, .val (.int p2), .val (.int p3), .val (.int p4), .val (.int p5), .val (.int (Int32.ofNat s0)), .val (.int (Int32.ofNat n)), .val (.int (1 : Int32)), .unset, .unset, .unset, .unset, .unset] [(.ref b1)])) (fun tt_ kk_ => st29 tt_ kk_) ?_
    refine Ends.to (T' := T29) (g' := (mkF m 36 #[.val (.long q1), .second, .val (.int p2), .val (.int p3), .val (.int p4), .val (.int p5), .val (.int (Int32.ofNat s0)), .val (.int (Int32.ofNat n)), .val (.int (1 : Int32)), .val (.ref b1), .unset, .unset, .unset, .unset] [])) (fun tt_ kk_ => XS.astore X29.here hx rfl (hb hby at_34) rfl rfl (l' := #[.val (.long q1), .second, .val (.int p2), .val (.int p3), .val (.int p4), .val (.int p5), .val (.int (Int32.ofNat s0)), .val (.int (Int32.ofNat n)), .val (.int (1 : Int32)), .val (.ref b1), .unset, .unset, .unset, .unset]) rfl kk_) ?_
    refine Ends.to (T' := T29) (g' := (mkF m 37 #[.val (.long q1), .second, .val (.int p2), .val (.int p3), .val (.int p4), .val (.int p5), .val (.int (Int32.ofNat s0)), .val (.int (Int32.ofNat n)), .val (.int (1 : Int32)), .val (.ref b1), .unset, .unset, .unset, .unset] [(.long q1)])) (fun tt_ kk_ => XS.lloadN X29.here hx rfl (hb hby at_36) rfl kk_) ?_
    refine Ends.to (T' := T29) (g' := (mkF m 38 #[.val (.long q1), .second, .val (.int p2), .val (.int p3), .val (.int p4), .val (.int p5), .val (.int (Int32.ofNat s0)), .val (.int (Int32.ofNat n)), .val (.int (1 : Int32)), .val (.ref b1), .unset, .unset, .unset, .unset] [(.int p2), (.long q1)])) (fun tt_ kk_ => XS.iloadN X29.here hx rfl (hb hby at_37) rfl kk_) ?_
    obtain ⟨_, _, ⟨T30, L30, k30, n30⟩, -, X30, ⟨Lc30, hQ30, l30, y30, z30⟩, st30⟩ := Jvm.LawKit.callS X29 hx (y := (⟨"com/example/predicate/predicate/document/AttributeDeclarationNormalizePinLaw", "build", "(JI)[B"⟩ : MethodName)) hown (mvT hZ (hw _ (List.mem_of_getElem? (i := 1) rfl))) (mvT hZ (hw _ (List.mem_of_getElem? (i := 2) rfl))) (mvT hZ (hw _ (List.mem_of_getElem? (i := 3) rfl))) (mvT hZ (hw _ (List.mem_of_getElem? (i := 4) rfl))) (by decide) (backOf (W := 0) (rm1 l Z a0 hw [] q1 p2 T29.heap n0 Zs) hZ (hw _ (List.mem_of_getElem? (i := 4) rfl)) (hw _ (List.mem_of_getElem? (i := 3) rfl)) (by decide) (by decide)) (g := (mkF m 38 #[.val (.long q1), .second, .val (.int p2), .val (.int p3), .val (.int p4), .val (.int p5), .val (.int (Int32.ofNat s0)), .val (.int (Int32.ofNat n)), .val (.int (1 : Int32)), .val (.ref b1), .unset, .unset, .unset, .unset] [(.int p2), (.long q1)])) rfl (by rw [hml]; rfl) (argsL := [(.long q1), (.int p2)]) (rest := []) (lenOf pd_1 rfl) rfl (by show 2 * 0 + _ ≤ _; exact Nat.le_of_eq rfl) (hb hby at_38) (fun _ _ => ⟨rfl, rfl, (by decide : 1 + 1 ≤ _), (by decide : 8 + 8 ≤ _)⟩)
    dsimp only [Pt.U, Pt.locs, Pt.cells, Pt.slots] at X30 l30 y30 z30 st30 hQ30
    subst l30 y30 z30
    obtain ⟨rfl, N30q, K30, G30⟩ := hQ30
    have N30 := Fr.app N29 N30q
    obtain ⟨b2, g_b2⟩ : ∃ z, z = T29.heap.size := ⟨_, rfl⟩
    rw [← g_b2] at st30 G30
    have f_b2 : n0 ≤ b2 := Nat.le_trans Zs (Nat.le_of_eq g_b2.symm)
    have lt_b1_b2 : b1 < b2 := Nat.lt_of_lt_of_le B_b1.lt (Nat.le_of_eq g_b2.symm)
    have ne_b1_b2 : b1 ≠ b2 := Nat.ne_of_lt lt_b1_b2
    have Zs := Nat.le_trans Zs K30.1
    have B_b1 := BA.keep B_b1 K30 nin0
    have B_b2 := G30
    refine Ends.to (T' := T30) (g' := (mkF m 41 #[.val (.long q1), .second, .val (.int p2), .val (.int p3), .val (.int p4), .val (.int p5), .val (.int (Int32.ofNat s0)), .val (.int (Int32.ofNat n)), .val (.int (1 : Int32)), .val (.ref b1), .unset, .unset, .unset, .unset] [(.ref b2)])) (fun tt_ kk_ => st30 tt_ kk_) ?_
    refine Ends.to (T' := T30) (g' := (mkF m 43 #[.val (.long q1), .second, .val (.int p2), .val (.int p3), .val (.int p4), .val (.int p5), .val (.int (Int32.ofNat s0)), .val (.int (Int32.ofNat n)), .val (.int (1 : Int32)), .val (.ref b1), .val (.ref b2), .unset, .unset, .unset] [])) (fun tt_ kk_ => XS.astore X30.here hx rfl (hb hby at_41) rfl rfl (l' := #[.val (.long q1), .second, .val (.int p2), .val (.int p3), .val (.int p4), .val (.int p5), .val (.int (Int32.ofNat s0)), .val (.int (Int32.ofNat n)), .val (.int (1 : Int32)), .val (.ref b1), .val (.ref b2), .unset, .unset, .unset]) rfl kk_) ?_
    refine Ends.to (T' := T30) (g' := (mkF m 45 #[.val (.long q1), .second, .val (.int p2), .val (.int p3), .val (.int p4), .val (.int p5), .val (.int (Int32.ofNat s0)), .val (.int (Int32.ofNat n)), .val (.int (1 : Int32)), .val (.ref b1), .val (.ref b2), .unset, .unset, .unset] [(.ref b1)])) (fun tt_ kk_ => XS.aload X30.here hx rfl (hb hby at_43) rfl rfl kk_) ?_
    refine Ends.to (T' := T30) (g' := (mkF m 47 #[.val (.long q1), .second, .val (.int p2), .val (.int p3), .val (.int p4), .val (.int p5), .val (.int (Int32.ofNat s0)), .val (.int (Int32.ofNat n)), .val (.int (1 : Int32)), .val (.ref b1), .val (.ref b2), .unset, .unset, .unset] [(.int (Int32.ofNat s0)), (.ref b1)])) (fun tt_ kk_ => XS.iload X30.here hx rfl (hb hby at_45) rfl kk_) ?_
    refine Ends.to (T' := T30) (g' := (mkF m 49 #[.val (.long q1), .second, .val (.int p2), .val (.int p3), .val (.int p4), .val (.int p5), .val (.int (Int32.ofNat s0)), .val (.int (Int32.ofNat n)), .val (.int (1 : Int32)), .val (.ref b1), .val (.ref b2), .unset, .unset, .unset] [(.int (Int32.ofNat n)), (.int (Int32.ofNat s0)), (.ref b1)])) (fun tt_ kk_ => XS.iload X30.here hx rfl (hb hby at_47) rfl kk_) ?_
    refine Ends.to (T' := T30) (g' := (mkF m 51 #[.val (.long q1), .second, .val (.int p2), .val (.int p3), .val (.int p4), .val (.int p5), .val (.int (Int32.ofNat s0)), .val (.int (Int32.ofNat n)), .val (.int (1 : Int32)), .val (.ref b1), .val (.ref b2), .unset, .unset, .unset] [(.int (1 : Int32)), (.int (Int32.ofNat n)), (.int (Int32.ofNat s0)), (.ref b1)])) (fun tt_ kk_ => XS.iload X30.here hx rfl (hb hby at_49) rfl kk_) ?_
    obtain ⟨_, _, ⟨T31, L31, k31, n31⟩, -, X31, ⟨Lc31, hQ31, l31, y31, z31⟩, st31⟩ := Jvm.LawKit.callS X30 hx (y := (⟨"com/example/predicate/predicate/document/AttributeDeclaration", "normalize", "([BIIZ)I"⟩ : MethodName)) hown (mvT hZ (hw _ (List.mem_of_getElem? (i := 9) rfl))) (mvT hZ (hw _ (List.mem_of_getElem? (i := 10) rfl))) (mvT hZ (hw _ (List.mem_of_getElem? (i := 11) rfl))) (mvT hZ (hw _ (List.mem_of_getElem? (i := 12) rfl))) (by decide) (backOf (W := 0) (rm3 l Z a0 hw [] b1 s0 n (own_g q1 p2) T30.heap n0 Zs hsn B_b1 f_b1) hZ (hw _ (List.mem_of_getElem? (i := 12) rfl)) (hw _ (List.mem_of_getElem? (i := 11) rfl)) (by decide) (by decide)) (g := (mkF m 51 #[.val (.long q1), .second, .val (.int p2), .val (.int p3), .val (.int p4), .val (.int p5), .val (.int (Int32.ofNat s0)), .val (.int (Int32.ofNat n)), .val (.int (1 : Int32)), .val (.ref b1), .val (.ref b2), .unset, .unset, .unset] [(.int (1 : Int32)), (.int (Int32.ofNat n)), (.int (Int32.ofNat s0)), (.ref b1)])) rfl (by rw [hml]; rfl) (argsL := [(.ref b1), (.int (Int32.ofNat s0)), (.int (Int32.ofNat n)), (.int (1 : Int32))]) (rest := []) (lenOf pd_3 rfl) rfl (by show 2 * 0 + _ ≤ _; exact Nat.le_of_eq rfl) (hb hby at_51) (fun _ _ => ⟨rfl, rfl, (by decide : 2 + 0 ≤ _), (by decide : 16 + 0 ≤ _)⟩)
    dsimp only [Pt.U, Pt.locs, Pt.cells, Pt.slots] at X31 l31 y31 z31 st31 hQ31
    subst l31 y31 z31
    obtain ⟨rfl, N31q, K31, G31⟩ := hQ31
    have N31 := Fr.app N30 N31q
    have Zs := Nat.le_trans Zs K31.1
    have B_b2 := BA.keep B_b2 K31 (ninS (Ne.symm ne_b1_b2) nin0)
    have B_b1 := G31
    refine Ends.to (T' := T31) (g' := (mkF m 54 #[.val (.long q1), .second, .val (.int p2), .val (.int p3), .val (.int p4), .val (.int p5), .val (.int (Int32.ofNat s0)), .val (.int (Int32.ofNat n)), .val (.int (1 : Int32)), .val (.ref b1), .val (.ref b2), .unset, .unset, .unset] [(.int (Int32.ofNat (own_fin s0 (own_nz s0 n 0 0 (own_g q1 p2)))))])) (fun tt_ kk_ => st31 tt_ kk_) ?_
    refine Ends.to (T' := T31) (g' := (mkF m 56 #[.val (.long q1), .second, .val (.int p2), .val (.int p3), .val (.int p4), .val (.int p5), .val (.int (Int32.ofNat s0)), .val (.int (Int32.ofNat n)), .val (.int (1 : Int32)), .val (.ref b1), .val (.ref b2), .val (.int (Int32.ofNat (own_fin s0 (own_nz s0 n 0 0 (own_g q1 p2))))), .unset, .unset] [])) (fun tt_ kk_ => XS.istore X31.here hx rfl (hb hby at_54) rfl (l' := #[.val (.long q1), .second, .val (.int p2), .val (.int p3), .val (.int p4), .val (.int p5), .val (.int (Int32.ofNat s0)), .val (.int (Int32.ofNat n)), .val (.int (1 : Int32)), .val (.ref b1), .val (.ref b2), .val (.int (Int32.ofNat (own_fin s0 (own_nz s0 n 0 0 (own_g q1 p2))))), .unset, .unset]) rfl kk_) ?_
    refine Ends.to (T' := T31) (g' := (mkF m 58 #[.val (.long q1), .second, .val (.int p2), .val (.int p3), .val (.int p4), .val (.int p5), .val (.int (Int32.ofNat s0)), .val (.int (Int32.ofNat n)), .val (.int (1 : Int32)), .val (.ref b1), .val (.ref b2), .val (.int (Int32.ofNat (own_fin s0 (own_nz s0 n 0 0 (own_g q1 p2))))), .unset, .unset] [(.int (1 : Int32))])) (fun tt_ kk_ => XS.iload X31.here hx rfl (hb hby at_56) rfl kk_) ?_
    refine Ends.to (T' := T31) (g' := (mkF m 166 #[.val (.long q1), .second, .val (.int p2), .val (.int p3), .val (.int p4), .val (.int p5), .val (.int (Int32.ofNat s0)), .val (.int (Int32.ofNat n)), .val (.int (1 : Int32)), .val (.ref b1), .val (.ref b2), .val (.int (Int32.ofNat (own_fin s0 (own_nz s0 n 0 0 (own_g q1 p2))))), .unset, .unset] [])) (fun tt_ kk_ => XS.ifYes X31.here hx rfl (pc0 := 58) (pc' := 166) rfl (hb hby at_58) rfl ((if0 _ _).trans (feq (by decide)).2) (by decide) (by decide) kk_) ?_
    refine Ends.to (T' := T31) (g' := (mkF m 168 #[.val (.long q1), .second, .val (.int p2), .val (.int p3), .val (.int p4), .val (.int p5), .val (.int (Int32.ofNat s0)), .val (.int (Int32.ofNat n)), .val (.int (1 : Int32)), .val (.ref b1), .val (.ref b2), .val (.int (Int32.ofNat (own_fin s0 (own_nz s0 n 0 0 (own_g q1 p2))))), .unset, .unset] [(.int (8 : Int32))])) (fun tt_ kk_ => XS.bipush X31.here hx rfl (hb hby at_166) kk_) ?_
    obtain ⟨T32, h32, k32, X32, e32, E32, A32, st32⟩ := newP X31 hx hZ (hw _ (List.mem_of_getElem? (i := 5) rfl)) rfl (g := (mkF m 168 #[.val (.long q1), .second, .val (.int p2), .val (.int p3), .val (.int p4), .val (.int p5), .val (.int (Int32.ofNat s0)), .val (.int (Int32.ofNat n)), .val (.int (1 : Int32)), .val (.ref b1), .val (.ref b2), .val (.int (Int32.ofNat (own_fin s0 (own_nz s0 n 0 0 (own_g q1 p2))))), .unset, .unset] [(.int (8 : Int32))])) rfl (hb hby at_168) rfl (by decide) (cap := 8) (by decide) (by decide) (by decide) (by decide)
    obtain ⟨b3, g_b3⟩ : ∃ z, z = T31.heap.size := ⟨_, rfl⟩
    rw [← g_b3] at A32 st32
    have f_b3 : n0 ≤ b3 := Nat.le_trans Zs (Nat.le_of_eq g_b3.symm)
    have lt_b1_b3 : b1 < b3 := Nat.lt_of_lt_of_le B_b1.lt (Nat.le_of_eq g_b3.symm)
    have ne_b1_b3 : b1 ≠ b3 := Nat.ne_of_lt lt_b1_b3
    have lt_b2_b3 : b2 < b3 := Nat.lt_of_lt_of_le B_b2.lt (Nat.le_of_eq g_b3.symm)
    have ne_b2_b3 : b2 ≠ b3 := Nat.ne_of_lt lt_b2_b3
    have Zs := Nat.le_trans Zs E32.1
    have B_b1 := BA.ext E32 B_b1
    have B_b2 := BA.ext E32 B_b2
    have B_b3 : BB Z h32 b3 8 (fun _ => 0) := BA.freshB A32 rfl
    refine Ends.to (T' := T32) (g' := (mkF m 170 #[.val (.long q1), .second, .val (.int p2), .val (.int p3), .val (.int p4), .val (.int p5), .val (.int (Int32.ofNat s0)), .val (.int (Int32.ofNat n)), .val (.int (1 : Int32)), .val (.ref b1), .val (.ref b2), .val (.int (Int32.ofNat (own_fin s0 (own_nz s0 n 0 0 (own_g q1 p2))))), .unset, .unset] [(.ref b3)])) (fun tt_ kk_ => st32 tt_ kk_) ?_
    refine Ends.to (T' := T32) (g' := (mkF m 172 #[.val (.long q1), .second, .val (.int p2), .val (.int p3), .val (.int p4), .val (.int p5), .val (.int (Int32.ofNat s0)), .val (.int (Int32.ofNat n)), .val (.int (1 : Int32)), .val (.ref b1), .val (.ref b2), .val (.int (Int32.ofNat (own_fin s0 (own_nz s0 n 0 0 (own_g q1 p2))))), .val (.ref b3), .unset] [])) (fun tt_ kk_ => XS.astore X32.here hx rfl (hb hby at_170) rfl rfl (l' := #[.val (.long q1), .second, .val (.int p2), .val (.int p3), .val (.int p4), .val (.int p5), .val (.int (Int32.ofNat s0)), .val (.int (Int32.ofNat n)), .val (.int (1 : Int32)), .val (.ref b1), .val (.ref b2), .val (.int (Int32.ofNat (own_fin s0 (own_nz s0 n 0 0 (own_g q1 p2))))), .val (.ref b3), .unset]) rfl kk_) ?_
    refine Ends.to (T' := T32) (g' := (mkF m 173 #[.val (.long q1), .second, .val (.int p2), .val (.int p3), .val (.int p4), .val (.int p5), .val (.int (Int32.ofNat s0)), .val (.int (Int32.ofNat n)), .val (.int (1 : Int32)), .val (.ref b1), .val (.ref b2), .val (.int (Int32.ofNat (own_fin s0 (own_nz s0 n 0 0 (own_g q1 p2))))), .val (.ref b3), .unset] [(.int (0 : Int32))])) (fun tt_ kk_ => XS.iconst X32.here hx rfl (hb hby at_172) kk_) ?_
    refine Ends.to (T' := T32) (g' := (mkF m 175 #[.val (.long q1), .second, .val (.int p2), .val (.int p3), .val (.int p4), .val (.int p5), .val (.int (Int32.ofNat s0)), .val (.int (Int32.ofNat n)), .val (.int (1 : Int32)), .val (.ref b1), .val (.ref b2), .val (.int (Int32.ofNat (own_fin s0 (own_nz s0 n 0 0 (own_g q1 p2))))), .val (.ref b3), .val (.int (0 : Int32))] [])) (fun tt_ kk_ => XS.istore X32.here hx rfl (hb hby at_173) rfl (l' := #[.val (.long q1), .second, .val (.int p2), .val (.int p3), .val (.int p4), .val (.int p5), .val (.int (Int32.ofNat s0)), .val (.int (Int32.ofNat n)), .val (.int (1 : Int32)), .val (.ref b1), .val (.ref b2), .val (.int (Int32.ofNat (own_fin s0 (own_nz s0 n 0 0 (own_g q1 p2))))), .val (.ref b3), .val (.int (0 : Int32))]) rfl kk_) ?_
    have hm := own_main (own_gb q1 p2) s0 n hn
    have B_b3 : BB Z h32 b3 8 (own_em (own_g q1 p2) s0 n 0).2 := B_b3
    show Ends p e below s _ _ _ T32 (mkF m 175 #[.val (.long q1), .second, .val (.int p2), .val (.int p3), .val (.int p4), .val (.int p5), .val (.int (Int32.ofNat s0)), .val (.int (Int32.ofNat n)), .val (.int (1 : Int32)), .val (.ref b1), .val (.ref b2), .val (.int (Int32.ofNat (own_fin s0 (own_nz s0 n 0 0 (own_g q1 p2))))), .val (.ref b3), .val (.int (Int32.ofNat (own_em (own_g q1 p2) s0 n 0).1))] [])
    refine Ends.to (T' := T32) (g' := (mkF m 177 #[.val (.long q1), .second, .val (.int p2), .val (.int p3), .val (.int p4), .val (.int p5), .val (.int (Int32.ofNat s0)), .val (.int (Int32.ofNat n)), .val (.int (1 : Int32)), .val (.ref b1), .val (.ref b2), .val (.int (Int32.ofNat (own_fin s0 (own_nz s0 n 0 0 (own_g q1 p2))))), .val (.ref b3), .val (.int (Int32.ofNat (own_em (own_g q1 p2) s0 n 0).1))] [(.ref b3)])) (fun tt_ kk_ => XS.aload X32.here hx rfl (hb hby at_175) rfl rfl kk_) ?_
    refine Ends.to (T' := T32) (g' := (mkF m 179 #[.val (.long q1), .second, .val (.int p2), .val (.int p3), .val (.int p4), .val (.int p5), .val (.int (Int32.ofNat s0)), .val (.int (Int32.ofNat n)), .val (.int (1 : Int32)), .val (.ref b1), .val (.ref b2), .val (.int (Int32.ofNat (own_fin s0 (own_nz s0 n 0 0 (own_g q1 p2))))), .val (.ref b3), .val (.int (Int32.ofNat (own_em (own_g q1 p2) s0 n 0).1))] [(.int (Int32.ofNat (own_em (own_g q1 p2) s0 n 0).1)), (.ref b3)])) (fun tt_ kk_ => XS.iload X32.here hx rfl (hb hby at_177) rfl kk_) ?_
    refine Ends.to (T' := T32) (g' := (mkF m 181 #[.val (.long q1), .second, .val (.int p2), .val (.int p3), .val (.int p4), .val (.int p5), .val (.int (Int32.ofNat s0)), .val (.int (Int32.ofNat n)), .val (.int (1 : Int32)), .val (.ref b1), .val (.ref b2), .val (.int (Int32.ofNat (own_fin s0 (own_nz s0 n 0 0 (own_g q1 p2))))), .val (.ref b3), .val (.int (Int32.ofNat (own_em (own_g q1 p2) s0 n 0).1))] [(.ref b2), (.int (Int32.ofNat (own_em (own_g q1 p2) s0 n 0).1)), (.ref b3)])) (fun tt_ kk_ => XS.aload X32.here hx rfl (hb hby at_179) rfl rfl kk_) ?_
    refine Ends.to (T' := T32) (g' := (mkF m 183 #[.val (.long q1), .second, .val (.int p2), .val (.int p3), .val (.int p4), .val (.int p5), .val (.int (Int32.ofNat s0)), .val (.int (Int32.ofNat n)), .val (.int (1 : Int32)), .val (.ref b1), .val (.ref b2), .val (.int (Int32.ofNat (own_fin s0 (own_nz s0 n 0 0 (own_g q1 p2))))), .val (.ref b3), .val (.int (Int32.ofNat (own_em (own_g q1 p2) s0 n 0).1))] [(.int (Int32.ofNat s0)), (.ref b2), (.int (Int32.ofNat (own_em (own_g q1 p2) s0 n 0).1)), (.ref b3)])) (fun tt_ kk_ => XS.iload X32.here hx rfl (hb hby at_181) rfl kk_) ?_
    refine Ends.to (T' := T32) (g' := (mkF m 185 #[.val (.long q1), .second, .val (.int p2), .val (.int p3), .val (.int p4), .val (.int p5), .val (.int (Int32.ofNat s0)), .val (.int (Int32.ofNat n)), .val (.int (1 : Int32)), .val (.ref b1), .val (.ref b2), .val (.int (Int32.ofNat (own_fin s0 (own_nz s0 n 0 0 (own_g q1 p2))))), .val (.ref b3), .val (.int (Int32.ofNat (own_em (own_g q1 p2) s0 n 0).1))] [(.int (Int32.ofNat n)), (.int (Int32.ofNat s0)), (.ref b2), (.int (Int32.ofNat (own_em (own_g q1 p2) s0 n 0).1)), (.ref b3)])) (fun tt_ kk_ => XS.iload X32.here hx rfl (hb hby at_183) rfl kk_) ?_
    refine Ends.to (T' := T32) (g' := (mkF m 186 #[.val (.long q1), .second, .val (.int p2), .val (.int p3), .val (.int p4), .val (.int p5), .val (.int (Int32.ofNat s0)), .val (.int (Int32.ofNat n)), .val (.int (1 : Int32)), .val (.ref b1), .val (.ref b2), .val (.int (Int32.ofNat (own_fin s0 (own_nz s0 n 0 0 (own_g q1 p2))))), .val (.ref b3), .val (.int (Int32.ofNat (own_em (own_g q1 p2) s0 n 0).1))] [(.int (0 : Int32)), (.int (Int32.ofNat n)), (.int (Int32.ofNat s0)), (.ref b2), (.int (Int32.ofNat (own_em (own_g q1 p2) s0 n 0).1)), (.ref b3)])) (fun tt_ kk_ => XS.iconst X32.here hx rfl (hb hby at_185) kk_) ?_
    obtain ⟨_, _, ⟨T33, L33, k33, n33⟩, -, X33, ⟨Lc33, hQ33, l33, y33, z33⟩, st33⟩ := Jvm.LawKit.callS X32 hx (y := (⟨"com/example/predicate/predicate/document/AttributeDeclarationNormalizePinLaw", "emit", "([BI[BIII)I"⟩ : MethodName)) hown (mvT hZ (hw _ (List.mem_of_getElem? (i := 13) rfl))) (mvT hZ (hw _ (List.mem_of_getElem? (i := 14) rfl))) (mvT hZ (hw _ (List.mem_of_getElem? (i := 3) rfl))) (mvT hZ (hw _ (List.mem_of_getElem? (i := 15) rfl))) (by decide) (backOf (W := 0) (rm4 l Z a0 hw [] b3 (own_em (own_g q1 p2) s0 n 0).1 b2 s0 n 0 (own_em (own_g q1 p2) s0 n 0).2 (own_g q1 p2) h32 n0 Zs (by decide) (by have := own_emk (own_g q1 p2) s0 n 0; omega) (own_emk (own_g q1 p2) s0 n 0) hsn ne_b2_b3 B_b3 B_b2 f_b3) hZ (hw _ (List.mem_of_getElem? (i := 15) rfl)) (hw _ (List.mem_of_getElem? (i := 3) rfl)) (by decide) (by decide)) (g := (mkF m 186 #[.val (.long q1), .second, .val (.int p2), .val (.int p3), .val (.int p4), .val (.int p5), .val (.int (Int32.ofNat s0)), .val (.int (Int32.ofNat n)), .val (.int (1 : Int32)), .val (.ref b1), .val (.ref b2), .val (.int (Int32.ofNat (own_fin s0 (own_nz s0 n 0 0 (own_g q1 p2))))), .val (.ref b3), .val (.int (Int32.ofNat (own_em (own_g q1 p2) s0 n 0).1))] [(.int (0 : Int32)), (.int (Int32.ofNat n)), (.int (Int32.ofNat s0)), (.ref b2), (.int (Int32.ofNat (own_em (own_g q1 p2) s0 n 0).1)), (.ref b3)])) rfl (by rw [hml]; rfl) (argsL := [(.ref b3), (.int (Int32.ofNat (own_em (own_g q1 p2) s0 n 0).1)), (.ref b2), (.int (Int32.ofNat s0)), (.int (Int32.ofNat n)), (.int (0 : Int32))]) (rest := []) (lenOf pd_4 rfl) rfl (by show 2 * 0 + _ ≤ _; exact Nat.le_of_eq rfl) (hb hby at_186) (fun _ _ => ⟨rfl, e32, (by decide : 3 + 0 ≤ _), (by decide : 24 + 0 ≤ _)⟩)
    dsimp only [Pt.U, Pt.locs, Pt.cells, Pt.slots] at X33 l33 y33 z33 st33 hQ33
    subst l33 y33 z33
    obtain ⟨rfl, N33q, K33, G33⟩ := hQ33
    have N33 := Fr.app N31 N33q
    have Zs := Nat.le_trans Zs K33.1
    have B_b1 := BA.keep B_b1 K33 (ninS ne_b1_b3 nin0)
    have B_b2 := BA.keep B_b2 K33 (ninS ne_b2_b3 nin0)
    have B_b3 : BB Z T33.heap b3 8 (own_em (own_g q1 p2) s0 n 1).2 := G33
    refine Ends.to (T' := T33) (g' := (mkF m 189 #[.val (.long q1), .second, .val (.int p2), .val (.int p3), .val (.int p4), .val (.int p5), .val (.int (Int32.ofNat s0)), .val (.int (Int32.ofNat n)), .val (.int (1 : Int32)), .val (.ref b1), .val (.ref b2), .val (.int (Int32.ofNat (own_fin s0 (own_nz s0 n 0 0 (own_g q1 p2))))), .val (.ref b3), .val (.int (Int32.ofNat (own_em (own_g q1 p2) s0 n 0).1))] [(.int (Int32.ofNat (own_em (own_g q1 p2) s0 n 1).1))])) (fun tt_ kk_ => st33 tt_ kk_) ?_
    refine Ends.to (T' := T33) (g' := (mkF m 191 #[.val (.long q1), .second, .val (.int p2), .val (.int p3), .val (.int p4), .val (.int p5), .val (.int (Int32.ofNat s0)), .val (.int (Int32.ofNat n)), .val (.int (1 : Int32)), .val (.ref b1), .val (.ref b2), .val (.int (Int32.ofNat (own_fin s0 (own_nz s0 n 0 0 (own_g q1 p2))))), .val (.ref b3), .val (.int (Int32.ofNat (own_em (own_g q1 p2) s0 n 1).1))] [])) (fun tt_ kk_ => XS.istore X33.here hx rfl (hb hby at_189) rfl (l' := #[.val (.long q1), .second, .val (.int p2), .val (.int p3), .val (.int p4), .val (.int p5), .val (.int (Int32.ofNat s0)), .val (.int (Int32.ofNat n)), .val (.int (1 : Int32)), .val (.ref b1), .val (.ref b2), .val (.int (Int32.ofNat (own_fin s0 (own_nz s0 n 0 0 (own_g q1 p2))))), .val (.ref b3), .val (.int (Int32.ofNat (own_em (own_g q1 p2) s0 n 1).1))]) rfl kk_) ?_
    refine Ends.to (T' := T33) (g' := (mkF m 193 #[.val (.long q1), .second, .val (.int p2), .val (.int p3), .val (.int p4), .val (.int p5), .val (.int (Int32.ofNat s0)), .val (.int (Int32.ofNat n)), .val (.int (1 : Int32)), .val (.ref b1), .val (.ref b2), .val (.int (Int32.ofNat (own_fin s0 (own_nz s0 n 0 0 (own_g q1 p2))))), .val (.ref b3), .val (.int (Int32.ofNat (own_em (own_g q1 p2) s0 n 1).1))] [(.ref b3)])) (fun tt_ kk_ => XS.aload X33.here hx rfl (hb hby at_191) rfl rfl kk_) ?_
    refine Ends.to (T' := T33) (g' := (mkF m 195 #[.val (.long q1), .second, .val (.int p2), .val (.int p3), .val (.int p4), .val (.int p5), .val (.int (Int32.ofNat s0)), .val (.int (Int32.ofNat n)), .val (.int (1 : Int32)), .val (.ref b1), .val (.ref b2), .val (.int (Int32.ofNat (own_fin s0 (own_nz s0 n 0 0 (own_g q1 p2))))), .val (.ref b3), .val (.int (Int32.ofNat (own_em (own_g q1 p2) s0 n 1).1))] [(.int (Int32.ofNat (own_em (own_g q1 p2) s0 n 1).1)), (.ref b3)])) (fun tt_ kk_ => XS.iload X33.here hx rfl (hb hby at_193) rfl kk_) ?_
    refine Ends.to (T' := T33) (g' := (mkF m 197 #[.val (.long q1), .second, .val (.int p2), .val (.int p3), .val (.int p4), .val (.int p5), .val (.int (Int32.ofNat s0)), .val (.int (Int32.ofNat n)), .val (.int (1 : Int32)), .val (.ref b1), .val (.ref b2), .val (.int (Int32.ofNat (own_fin s0 (own_nz s0 n 0 0 (own_g q1 p2))))), .val (.ref b3), .val (.int (Int32.ofNat (own_em (own_g q1 p2) s0 n 1).1))] [(.ref b2), (.int (Int32.ofNat (own_em (own_g q1 p2) s0 n 1).1)), (.ref b3)])) (fun tt_ kk_ => XS.aload X33.here hx rfl (hb hby at_195) rfl rfl kk_) ?_
    refine Ends.to (T' := T33) (g' := (mkF m 199 #[.val (.long q1), .second, .val (.int p2), .val (.int p3), .val (.int p4), .val (.int p5), .val (.int (Int32.ofNat s0)), .val (.int (Int32.ofNat n)), .val (.int (1 : Int32)), .val (.ref b1), .val (.ref b2), .val (.int (Int32.ofNat (own_fin s0 (own_nz s0 n 0 0 (own_g q1 p2))))), .val (.ref b3), .val (.int (Int32.ofNat (own_em (own_g q1 p2) s0 n 1).1))] [(.int (Int32.ofNat s0)), (.ref b2), (.int (Int32.ofNat (own_em (own_g q1 p2) s0 n 1).1)), (.ref b3)])) (fun tt_ kk_ => XS.iload X33.here hx rfl (hb hby at_197) rfl kk_) ?_
    refine Ends.to (T' := T33) (g' := (mkF m 201 #[.val (.long q1), .second, .val (.int p2), .val (.int p3), .val (.int p4), .val (.int p5), .val (.int (Int32.ofNat s0)), .val (.int (Int32.ofNat n)), .val (.int (1 : Int32)), .val (.ref b1), .val (.ref b2), .val (.int (Int32.ofNat (own_fin s0 (own_nz s0 n 0 0 (own_g q1 p2))))), .val (.ref b3), .val (.int (Int32.ofNat (own_em (own_g q1 p2) s0 n 1).1))] [(.int (Int32.ofNat n)), (.int (Int32.ofNat s0)), (.ref b2), (.int (Int32.ofNat (own_em (own_g q1 p2) s0 n 1).1)), (.ref b3)])) (fun tt_ kk_ => XS.iload X33.here hx rfl (hb hby at_199) rfl kk_) ?_
    refine Ends.to (T' := T33) (g' := (mkF m 202 #[.val (.long q1), .second, .val (.int p2), .val (.int p3), .val (.int p4), .val (.int p5), .val (.int (Int32.ofNat s0)), .val (.int (Int32.ofNat n)), .val (.int (1 : Int32)), .val (.ref b1), .val (.ref b2), .val (.int (Int32.ofNat (own_fin s0 (own_nz s0 n 0 0 (own_g q1 p2))))), .val (.ref b3), .val (.int (Int32.ofNat (own_em (own_g q1 p2) s0 n 1).1))] [(.int (1 : Int32)), (.int (Int32.ofNat n)), (.int (Int32.ofNat s0)), (.ref b2), (.int (Int32.ofNat (own_em (own_g q1 p2) s0 n 1).1)), (.ref b3)])) (fun tt_ kk_ => XS.iconst X33.here hx rfl (hb hby at_201) kk_) ?_
    obtain ⟨_, _, ⟨T34, L34, k34, n34⟩, -, X34, ⟨Lc34, hQ34, l34, y34, z34⟩, st34⟩ := Jvm.LawKit.callS X33 hx (y := (⟨"com/example/predicate/predicate/document/AttributeDeclarationNormalizePinLaw", "emit", "([BI[BIII)I"⟩ : MethodName)) hown (mvT hZ (hw _ (List.mem_of_getElem? (i := 13) rfl))) (mvT hZ (hw _ (List.mem_of_getElem? (i := 14) rfl))) (mvT hZ (hw _ (List.mem_of_getElem? (i := 3) rfl))) (mvT hZ (hw _ (List.mem_of_getElem? (i := 15) rfl))) (by decide) (backOf (W := 0) (rm4 l Z a0 hw [] b3 (own_em (own_g q1 p2) s0 n 1).1 b2 s0 n 1 (own_em (own_g q1 p2) s0 n 1).2 (own_g q1 p2) T33.heap n0 Zs (by decide) (by have := own_emk (own_g q1 p2) s0 n 1; omega) (own_emk (own_g q1 p2) s0 n 1) hsn ne_b2_b3 B_b3 B_b2 f_b3) hZ (hw _ (List.mem_of_getElem? (i := 15) rfl)) (hw _ (List.mem_of_getElem? (i := 3) rfl)) (by decide) (by decide)) (g := (mkF m 202 #[.val (.long q1), .second, .val (.int p2), .val (.int p3), .val (.int p4), .val (.int p5), .val (.int (Int32.ofNat s0)), .val (.int (Int32.ofNat n)), .val (.int (1 : Int32)), .val (.ref b1), .val (.ref b2), .val (.int (Int32.ofNat (own_fin s0 (own_nz s0 n 0 0 (own_g q1 p2))))), .val (.ref b3), .val (.int (Int32.ofNat (own_em (own_g q1 p2) s0 n 1).1))] [(.int (1 : Int32)), (.int (Int32.ofNat n)), (.int (Int32.ofNat s0)), (.ref b2), (.int (Int32.ofNat (own_em (own_g q1 p2) s0 n 1).1)), (.ref b3)])) rfl (by rw [hml]; rfl) (argsL := [(.ref b3), (.int (Int32.ofNat (own_em (own_g q1 p2) s0 n 1).1)), (.ref b2), (.int (Int32.ofNat s0)), (.int (Int32.ofNat n)), (.int (1 : Int32))]) (rest := []) (lenOf pd_4 rfl) rfl (by show 2 * 0 + _ ≤ _; exact Nat.le_of_eq rfl) (hb hby at_202) (fun _ _ => ⟨rfl, rfl, (by decide : 3 + 0 ≤ _), (by decide : 24 + 0 ≤ _)⟩)
    dsimp only [Pt.U, Pt.locs, Pt.cells, Pt.slots] at X34 l34 y34 z34 st34 hQ34
    subst l34 y34 z34
    obtain ⟨rfl, N34q, K34, G34⟩ := hQ34
    have N34 := Fr.app N33 N34q
    have Zs := Nat.le_trans Zs K34.1
    have B_b1 := BA.keep B_b1 K34 (ninS ne_b1_b3 nin0)
    have B_b2 := BA.keep B_b2 K34 (ninS ne_b2_b3 nin0)
    have B_b3 : BB Z T34.heap b3 8 (own_em (own_g q1 p2) s0 n 2).2 := G34
    refine Ends.to (T' := T34) (g' := (mkF m 205 #[.val (.long q1), .second, .val (.int p2), .val (.int p3), .val (.int p4), .val (.int p5), .val (.int (Int32.ofNat s0)), .val (.int (Int32.ofNat n)), .val (.int (1 : Int32)), .val (.ref b1), .val (.ref b2), .val (.int (Int32.ofNat (own_fin s0 (own_nz s0 n 0 0 (own_g q1 p2))))), .val (.ref b3), .val (.int (Int32.ofNat (own_em (own_g q1 p2) s0 n 1).1))] [(.int (Int32.ofNat (own_em (own_g q1 p2) s0 n 2).1))])) (fun tt_ kk_ => st34 tt_ kk_) ?_
    refine Ends.to (T' := T34) (g' := (mkF m 207 #[.val (.long q1), .second, .val (.int p2), .val (.int p3), .val (.int p4), .val (.int p5), .val (.int (Int32.ofNat s0)), .val (.int (Int32.ofNat n)), .val (.int (1 : Int32)), .val (.ref b1), .val (.ref b2), .val (.int (Int32.ofNat (own_fin s0 (own_nz s0 n 0 0 (own_g q1 p2))))), .val (.ref b3), .val (.int (Int32.ofNat (own_em (own_g q1 p2) s0 n 2).1))] [])) (fun tt_ kk_ => XS.istore X34.here hx rfl (hb hby at_205) rfl (l' := #[.val (.long q1), .second, .val (.int p2), .val (.int p3), .val (.int p4), .val (.int p5), .val (.int (Int32.ofNat s0)), .val (.int (Int32.ofNat n)), .val (.int (1 : Int32)), .val (.ref b1), .val (.ref b2), .val (.int (Int32.ofNat (own_fin s0 (own_nz s0 n 0 0 (own_g q1 p2))))), .val (.ref b3), .val (.int (Int32.ofNat (own_em (own_g q1 p2) s0 n 2).1))]) rfl kk_) ?_
    refine Ends.to (T' := T34) (g' := (mkF m 209 #[.val (.long q1), .second, .val (.int p2), .val (.int p3), .val (.int p4), .val (.int p5), .val (.int (Int32.ofNat s0)), .val (.int (Int32.ofNat n)), .val (.int (1 : Int32)), .val (.ref b1), .val (.ref b2), .val (.int (Int32.ofNat (own_fin s0 (own_nz s0 n 0 0 (own_g q1 p2))))), .val (.ref b3), .val (.int (Int32.ofNat (own_em (own_g q1 p2) s0 n 2).1))] [(.ref b3)])) (fun tt_ kk_ => XS.aload X34.here hx rfl (hb hby at_207) rfl rfl kk_) ?_
    refine Ends.to (T' := T34) (g' := (mkF m 211 #[.val (.long q1), .second, .val (.int p2), .val (.int p3), .val (.int p4), .val (.int p5), .val (.int (Int32.ofNat s0)), .val (.int (Int32.ofNat n)), .val (.int (1 : Int32)), .val (.ref b1), .val (.ref b2), .val (.int (Int32.ofNat (own_fin s0 (own_nz s0 n 0 0 (own_g q1 p2))))), .val (.ref b3), .val (.int (Int32.ofNat (own_em (own_g q1 p2) s0 n 2).1))] [(.int (Int32.ofNat (own_em (own_g q1 p2) s0 n 2).1)), (.ref b3)])) (fun tt_ kk_ => XS.iload X34.here hx rfl (hb hby at_209) rfl kk_) ?_
    refine Ends.to (T' := T34) (g' := (mkF m 213 #[.val (.long q1), .second, .val (.int p2), .val (.int p3), .val (.int p4), .val (.int p5), .val (.int (Int32.ofNat s0)), .val (.int (Int32.ofNat n)), .val (.int (1 : Int32)), .val (.ref b1), .val (.ref b2), .val (.int (Int32.ofNat (own_fin s0 (own_nz s0 n 0 0 (own_g q1 p2))))), .val (.ref b3), .val (.int (Int32.ofNat (own_em (own_g q1 p2) s0 n 2).1))] [(.ref b2), (.int (Int32.ofNat (own_em (own_g q1 p2) s0 n 2).1)), (.ref b3)])) (fun tt_ kk_ => XS.aload X34.here hx rfl (hb hby at_211) rfl rfl kk_) ?_
    refine Ends.to (T' := T34) (g' := (mkF m 215 #[.val (.long q1), .second, .val (.int p2), .val (.int p3), .val (.int p4), .val (.int p5), .val (.int (Int32.ofNat s0)), .val (.int (Int32.ofNat n)), .val (.int (1 : Int32)), .val (.ref b1), .val (.ref b2), .val (.int (Int32.ofNat (own_fin s0 (own_nz s0 n 0 0 (own_g q1 p2))))), .val (.ref b3), .val (.int (Int32.ofNat (own_em (own_g q1 p2) s0 n 2).1))] [(.int (Int32.ofNat s0)), (.ref b2), (.int (Int32.ofNat (own_em (own_g q1 p2) s0 n 2).1)), (.ref b3)])) (fun tt_ kk_ => XS.iload X34.here hx rfl (hb hby at_213) rfl kk_) ?_
    refine Ends.to (T' := T34) (g' := (mkF m 217 #[.val (.long q1), .second, .val (.int p2), .val (.int p3), .val (.int p4), .val (.int p5), .val (.int (Int32.ofNat s0)), .val (.int (Int32.ofNat n)), .val (.int (1 : Int32)), .val (.ref b1), .val (.ref b2), .val (.int (Int32.ofNat (own_fin s0 (own_nz s0 n 0 0 (own_g q1 p2))))), .val (.ref b3), .val (.int (Int32.ofNat (own_em (own_g q1 p2) s0 n 2).1))] [(.int (Int32.ofNat n)), (.int (Int32.ofNat s0)), (.ref b2), (.int (Int32.ofNat (own_em (own_g q1 p2) s0 n 2).1)), (.ref b3)])) (fun tt_ kk_ => XS.iload X34.here hx rfl (hb hby at_215) rfl kk_) ?_
    refine Ends.to (T' := T34) (g' := (mkF m 218 #[.val (.long q1), .second, .val (.int p2), .val (.int p3), .val (.int p4), .val (.int p5), .val (.int (Int32.ofNat s0)), .val (.int (Int32.ofNat n)), .val (.int (1 : Int32)), .val (.ref b1), .val (.ref b2), .val (.int (Int32.ofNat (own_fin s0 (own_nz s0 n 0 0 (own_g q1 p2))))), .val (.ref b3), .val (.int (Int32.ofNat (own_em (own_g q1 p2) s0 n 2).1))] [(.int (2 : Int32)), (.int (Int32.ofNat n)), (.int (Int32.ofNat s0)), (.ref b2), (.int (Int32.ofNat (own_em (own_g q1 p2) s0 n 2).1)), (.ref b3)])) (fun tt_ kk_ => XS.iconst X34.here hx rfl (hb hby at_217) kk_) ?_
    obtain ⟨_, _, ⟨T35, L35, k35, n35⟩, -, X35, ⟨Lc35, hQ35, l35, y35, z35⟩, st35⟩ := Jvm.LawKit.callS X34 hx (y := (⟨"com/example/predicate/predicate/document/AttributeDeclarationNormalizePinLaw", "emit", "([BI[BIII)I"⟩ : MethodName)) hown (mvT hZ (hw _ (List.mem_of_getElem? (i := 13) rfl))) (mvT hZ (hw _ (List.mem_of_getElem? (i := 14) rfl))) (mvT hZ (hw _ (List.mem_of_getElem? (i := 3) rfl))) (mvT hZ (hw _ (List.mem_of_getElem? (i := 15) rfl))) (by decide) (backOf (W := 0) (rm4 l Z a0 hw [] b3 (own_em (own_g q1 p2) s0 n 2).1 b2 s0 n 2 (own_em (own_g q1 p2) s0 n 2).2 (own_g q1 p2) T34.heap n0 Zs (by decide) (by have := own_emk (own_g q1 p2) s0 n 2; omega) (own_emk (own_g q1 p2) s0 n 2) hsn ne_b2_b3 B_b3 B_b2 f_b3) hZ (hw _ (List.mem_of_getElem? (i := 15) rfl)) (hw _ (List.mem_of_getElem? (i := 3) rfl)) (by decide) (by decide)) (g := (mkF m 218 #[.val (.long q1), .second, .val (.int p2), .val (.int p3), .val (.int p4), .val (.int p5), .val (.int (Int32.ofNat s0)), .val (.int (Int32.ofNat n)), .val (.int (1 : Int32)), .val (.ref b1), .val (.ref b2), .val (.int (Int32.ofNat (own_fin s0 (own_nz s0 n 0 0 (own_g q1 p2))))), .val (.ref b3), .val (.int (Int32.ofNat (own_em (own_g q1 p2) s0 n 2).1))] [(.int (2 : Int32)), (.int (Int32.ofNat n)), (.int (Int32.ofNat s0)), (.ref b2), (.int (Int32.ofNat (own_em (own_g q1 p2) s0 n 2).1)), (.ref b3)])) rfl (by rw [hml]; rfl) (argsL := [(.ref b3), (.int (Int32.ofNat (own_em (own_g q1 p2) s0 n 2).1)), (.ref b2), (.int (Int32.ofNat s0)), (.int (Int32.ofNat n)), (.int (2 : Int32))]) (rest := []) (lenOf pd_4 rfl) rfl (by show 2 * 0 + _ ≤ _; exact Nat.le_of_eq rfl) (hb hby at_218) (fun _ _ => ⟨rfl, rfl, (by decide : 3 + 0 ≤ _), (by decide : 24 + 0 ≤ _)⟩)
    dsimp only [Pt.U, Pt.locs, Pt.cells, Pt.slots] at X35 l35 y35 z35 st35 hQ35
    subst l35 y35 z35
    obtain ⟨rfl, N35q, K35, G35⟩ := hQ35
    have N35 := Fr.app N34 N35q
    have Zs := Nat.le_trans Zs K35.1
    have B_b1 := BA.keep B_b1 K35 (ninS ne_b1_b3 nin0)
    have B_b2 := BA.keep B_b2 K35 (ninS ne_b2_b3 nin0)
    have B_b3 : BB Z T35.heap b3 8 (own_em (own_g q1 p2) s0 n 3).2 := G35
    refine Ends.to (T' := T35) (g' := (mkF m 221 #[.val (.long q1), .second, .val (.int p2), .val (.int p3), .val (.int p4), .val (.int p5), .val (.int (Int32.ofNat s0)), .val (.int (Int32.ofNat n)), .val (.int (1 : Int32)), .val (.ref b1), .val (.ref b2), .val (.int (Int32.ofNat (own_fin s0 (own_nz s0 n 0 0 (own_g q1 p2))))), .val (.ref b3), .val (.int (Int32.ofNat (own_em (own_g q1 p2) s0 n 2).1))] [(.int (Int32.ofNat (own_em (own_g q1 p2) s0 n 3).1))])) (fun tt_ kk_ => st35 tt_ kk_) ?_
    refine Ends.to (T' := T35) (g' := (mkF m 223 #[.val (.long q1), .second, .val (.int p2), .val (.int p3), .val (.int p4), .val (.int p5), .val (.int (Int32.ofNat s0)), .val (.int (Int32.ofNat n)), .val (.int (1 : Int32)), .val (.ref b1), .val (.ref b2), .val (.int (Int32.ofNat (own_fin s0 (own_nz s0 n 0 0 (own_g q1 p2))))), .val (.ref b3), .val (.int (Int32.ofNat (own_em (own_g q1 p2) s0 n 3).1))] [])) (fun tt_ kk_ => XS.istore X35.here hx rfl (hb hby at_221) rfl (l' := #[.val (.long q1), .second, .val (.int p2), .val (.int p3), .val (.int p4), .val (.int p5), .val (.int (Int32.ofNat s0)), .val (.int (Int32.ofNat n)), .val (.int (1 : Int32)), .val (.ref b1), .val (.ref b2), .val (.int (Int32.ofNat (own_fin s0 (own_nz s0 n 0 0 (own_g q1 p2))))), .val (.ref b3), .val (.int (Int32.ofNat (own_em (own_g q1 p2) s0 n 3).1))]) rfl kk_) ?_
    refine Ends.to (T' := T35) (g' := (mkF m 225 #[.val (.long q1), .second, .val (.int p2), .val (.int p3), .val (.int p4), .val (.int p5), .val (.int (Int32.ofNat s0)), .val (.int (Int32.ofNat n)), .val (.int (1 : Int32)), .val (.ref b1), .val (.ref b2), .val (.int (Int32.ofNat (own_fin s0 (own_nz s0 n 0 0 (own_g q1 p2))))), .val (.ref b3), .val (.int (Int32.ofNat (own_em (own_g q1 p2) s0 n 3).1))] [(.ref b3)])) (fun tt_ kk_ => XS.aload X35.here hx rfl (hb hby at_223) rfl rfl kk_) ?_
    refine Ends.to (T' := T35) (g' := (mkF m 227 #[.val (.long q1), .second, .val (.int p2), .val (.int p3), .val (.int p4), .val (.int p5), .val (.int (Int32.ofNat s0)), .val (.int (Int32.ofNat n)), .val (.int (1 : Int32)), .val (.ref b1), .val (.ref b2), .val (.int (Int32.ofNat (own_fin s0 (own_nz s0 n 0 0 (own_g q1 p2))))), .val (.ref b3), .val (.int (Int32.ofNat (own_em (own_g q1 p2) s0 n 3).1))] [(.int (Int32.ofNat (own_em (own_g q1 p2) s0 n 3).1)), (.ref b3)])) (fun tt_ kk_ => XS.iload X35.here hx rfl (hb hby at_225) rfl kk_) ?_
    refine Ends.to (T' := T35) (g' := (mkF m 229 #[.val (.long q1), .second, .val (.int p2), .val (.int p3), .val (.int p4), .val (.int p5), .val (.int (Int32.ofNat s0)), .val (.int (Int32.ofNat n)), .val (.int (1 : Int32)), .val (.ref b1), .val (.ref b2), .val (.int (Int32.ofNat (own_fin s0 (own_nz s0 n 0 0 (own_g q1 p2))))), .val (.ref b3), .val (.int (Int32.ofNat (own_em (own_g q1 p2) s0 n 3).1))] [(.ref b2), (.int (Int32.ofNat (own_em (own_g q1 p2) s0 n 3).1)), (.ref b3)])) (fun tt_ kk_ => XS.aload X35.here hx rfl (hb hby at_227) rfl rfl kk_) ?_
    refine Ends.to (T' := T35) (g' := (mkF m 231 #[.val (.long q1), .second, .val (.int p2), .val (.int p3), .val (.int p4), .val (.int p5), .val (.int (Int32.ofNat s0)), .val (.int (Int32.ofNat n)), .val (.int (1 : Int32)), .val (.ref b1), .val (.ref b2), .val (.int (Int32.ofNat (own_fin s0 (own_nz s0 n 0 0 (own_g q1 p2))))), .val (.ref b3), .val (.int (Int32.ofNat (own_em (own_g q1 p2) s0 n 3).1))] [(.int (Int32.ofNat s0)), (.ref b2), (.int (Int32.ofNat (own_em (own_g q1 p2) s0 n 3).1)), (.ref b3)])) (fun tt_ kk_ => XS.iload X35.here hx rfl (hb hby at_229) rfl kk_) ?_
    refine Ends.to (T' := T35) (g' := (mkF m 233 #[.val (.long q1), .second, .val (.int p2), .val (.int p3), .val (.int p4), .val (.int p5), .val (.int (Int32.ofNat s0)), .val (.int (Int32.ofNat n)), .val (.int (1 : Int32)), .val (.ref b1), .val (.ref b2), .val (.int (Int32.ofNat (own_fin s0 (own_nz s0 n 0 0 (own_g q1 p2))))), .val (.ref b3), .val (.int (Int32.ofNat (own_em (own_g q1 p2) s0 n 3).1))] [(.int (Int32.ofNat n)), (.int (Int32.ofNat s0)), (.ref b2), (.int (Int32.ofNat (own_em (own_g q1 p2) s0 n 3).1)), (.ref b3)])) (fun tt_ kk_ => XS.iload X35.here hx rfl (hb hby at_231) rfl kk_) ?_
    refine Ends.to (T' := T35) (g' := (mkF m 234 #[.val (.long q1), .second, .val (.int p2), .val (.int p3), .val (.int p4), .val (.int p5), .val (.int (Int32.ofNat s0)), .val (.int (Int32.ofNat n)), .val (.int (1 : Int32)), .val (.ref b1), .val (.ref b2), .val (.int (Int32.ofNat (own_fin s0 (own_nz s0 n 0 0 (own_g q1 p2))))), .val (.ref b3), .val (.int (Int32.ofNat (own_em (own_g q1 p2) s0 n 3).1))] [(.int (3 : Int32)), (.int (Int32.ofNat n)), (.int (Int32.ofNat s0)), (.ref b2), (.int (Int32.ofNat (own_em (own_g q1 p2) s0 n 3).1)), (.ref b3)])) (fun tt_ kk_ => XS.iconst X35.here hx rfl (hb hby at_233) kk_) ?_
    obtain ⟨_, _, ⟨T36, L36, k36, n36⟩, -, X36, ⟨Lc36, hQ36, l36, y36, z36⟩, st36⟩ := Jvm.LawKit.callS X35 hx (y := (⟨"com/example/predicate/predicate/document/AttributeDeclarationNormalizePinLaw", "emit", "([BI[BIII)I"⟩ : MethodName)) hown (mvT hZ (hw _ (List.mem_of_getElem? (i := 13) rfl))) (mvT hZ (hw _ (List.mem_of_getElem? (i := 14) rfl))) (mvT hZ (hw _ (List.mem_of_getElem? (i := 3) rfl))) (mvT hZ (hw _ (List.mem_of_getElem? (i := 15) rfl))) (by decide) (backOf (W := 0) (rm4 l Z a0 hw [] b3 (own_em (own_g q1 p2) s0 n 3).1 b2 s0 n 3 (own_em (own_g q1 p2) s0 n 3).2 (own_g q1 p2) T35.heap n0 Zs (by decide) (by have := own_emk (own_g q1 p2) s0 n 3; omega) (own_emk (own_g q1 p2) s0 n 3) hsn ne_b2_b3 B_b3 B_b2 f_b3) hZ (hw _ (List.mem_of_getElem? (i := 15) rfl)) (hw _ (List.mem_of_getElem? (i := 3) rfl)) (by decide) (by decide)) (g := (mkF m 234 #[.val (.long q1), .second, .val (.int p2), .val (.int p3), .val (.int p4), .val (.int p5), .val (.int (Int32.ofNat s0)), .val (.int (Int32.ofNat n)), .val (.int (1 : Int32)), .val (.ref b1), .val (.ref b2), .val (.int (Int32.ofNat (own_fin s0 (own_nz s0 n 0 0 (own_g q1 p2))))), .val (.ref b3), .val (.int (Int32.ofNat (own_em (own_g q1 p2) s0 n 3).1))] [(.int (3 : Int32)), (.int (Int32.ofNat n)), (.int (Int32.ofNat s0)), (.ref b2), (.int (Int32.ofNat (own_em (own_g q1 p2) s0 n 3).1)), (.ref b3)])) rfl (by rw [hml]; rfl) (argsL := [(.ref b3), (.int (Int32.ofNat (own_em (own_g q1 p2) s0 n 3).1)), (.ref b2), (.int (Int32.ofNat s0)), (.int (Int32.ofNat n)), (.int (3 : Int32))]) (rest := []) (lenOf pd_4 rfl) rfl (by show 2 * 0 + _ ≤ _; exact Nat.le_of_eq rfl) (hb hby at_234) (fun _ _ => ⟨rfl, rfl, (by decide : 3 + 0 ≤ _), (by decide : 24 + 0 ≤ _)⟩)
    dsimp only [Pt.U, Pt.locs, Pt.cells, Pt.slots] at X36 l36 y36 z36 st36 hQ36
    subst l36 y36 z36
    obtain ⟨rfl, N36q, K36, G36⟩ := hQ36
    have N36 := Fr.app N35 N36q
    have Zs := Nat.le_trans Zs K36.1
    have B_b1 := BA.keep B_b1 K36 (ninS ne_b1_b3 nin0)
    have B_b2 := BA.keep B_b2 K36 (ninS ne_b2_b3 nin0)
    have B_b3 : BB Z T36.heap b3 8 (own_em (own_g q1 p2) s0 n 4).2 := G36
    refine Ends.to (T' := T36) (g' := (mkF m 237 #[.val (.long q1), .second, .val (.int p2), .val (.int p3), .val (.int p4), .val (.int p5), .val (.int (Int32.ofNat s0)), .val (.int (Int32.ofNat n)), .val (.int (1 : Int32)), .val (.ref b1), .val (.ref b2), .val (.int (Int32.ofNat (own_fin s0 (own_nz s0 n 0 0 (own_g q1 p2))))), .val (.ref b3), .val (.int (Int32.ofNat (own_em (own_g q1 p2) s0 n 3).1))] [(.int (Int32.ofNat (own_em (own_g q1 p2) s0 n 4).1))])) (fun tt_ kk_ => st36 tt_ kk_) ?_
    refine Ends.to (T' := T36) (g' := (mkF m 239 #[.val (.long q1), .second, .val (.int p2), .val (.int p3), .val (.int p4), .val (.int p5), .val (.int (Int32.ofNat s0)), .val (.int (Int32.ofNat n)), .val (.int (1 : Int32)), .val (.ref b1), .val (.ref b2), .val (.int (Int32.ofNat (own_fin s0 (own_nz s0 n 0 0 (own_g q1 p2))))), .val (.ref b3), .val (.int (Int32.ofNat (own_em (own_g q1 p2) s0 n 4).1))] [])) (fun tt_ kk_ => XS.istore X36.here hx rfl (hb hby at_237) rfl (l' := #[.val (.long q1), .second, .val (.int p2), .val (.int p3), .val (.int p4), .val (.int p5), .val (.int (Int32.ofNat s0)), .val (.int (Int32.ofNat n)), .val (.int (1 : Int32)), .val (.ref b1), .val (.ref b2), .val (.int (Int32.ofNat (own_fin s0 (own_nz s0 n 0 0 (own_g q1 p2))))), .val (.ref b3), .val (.int (Int32.ofNat (own_em (own_g q1 p2) s0 n 4).1))]) rfl kk_) ?_
    refine Ends.to (T' := T36) (g' := (mkF m 241 #[.val (.long q1), .second, .val (.int p2), .val (.int p3), .val (.int p4), .val (.int p5), .val (.int (Int32.ofNat s0)), .val (.int (Int32.ofNat n)), .val (.int (1 : Int32)), .val (.ref b1), .val (.ref b2), .val (.int (Int32.ofNat (own_fin s0 (own_nz s0 n 0 0 (own_g q1 p2))))), .val (.ref b3), .val (.int (Int32.ofNat (own_em (own_g q1 p2) s0 n 4).1))] [(.ref b3)])) (fun tt_ kk_ => XS.aload X36.here hx rfl (hb hby at_239) rfl rfl kk_) ?_
    refine Ends.to (T' := T36) (g' := (mkF m 243 #[.val (.long q1), .second, .val (.int p2), .val (.int p3), .val (.int p4), .val (.int p5), .val (.int (Int32.ofNat s0)), .val (.int (Int32.ofNat n)), .val (.int (1 : Int32)), .val (.ref b1), .val (.ref b2), .val (.int (Int32.ofNat (own_fin s0 (own_nz s0 n 0 0 (own_g q1 p2))))), .val (.ref b3), .val (.int (Int32.ofNat (own_em (own_g q1 p2) s0 n 4).1))] [(.int (Int32.ofNat (own_em (own_g q1 p2) s0 n 4).1)), (.ref b3)])) (fun tt_ kk_ => XS.iload X36.here hx rfl (hb hby at_241) rfl kk_) ?_
    refine Ends.to (T' := T36) (g' := (mkF m 245 #[.val (.long q1), .second, .val (.int p2), .val (.int p3), .val (.int p4), .val (.int p5), .val (.int (Int32.ofNat s0)), .val (.int (Int32.ofNat n)), .val (.int (1 : Int32)), .val (.ref b1), .val (.ref b2), .val (.int (Int32.ofNat (own_fin s0 (own_nz s0 n 0 0 (own_g q1 p2))))), .val (.ref b3), .val (.int (Int32.ofNat (own_em (own_g q1 p2) s0 n 4).1))] [(.ref b2), (.int (Int32.ofNat (own_em (own_g q1 p2) s0 n 4).1)), (.ref b3)])) (fun tt_ kk_ => XS.aload X36.here hx rfl (hb hby at_243) rfl rfl kk_) ?_
    refine Ends.to (T' := T36) (g' := (mkF m 247 #[.val (.long q1), .second, .val (.int p2), .val (.int p3), .val (.int p4), .val (.int p5), .val (.int (Int32.ofNat s0)), .val (.int (Int32.ofNat n)), .val (.int (1 : Int32)), .val (.ref b1), .val (.ref b2), .val (.int (Int32.ofNat (own_fin s0 (own_nz s0 n 0 0 (own_g q1 p2))))), .val (.ref b3), .val (.int (Int32.ofNat (own_em (own_g q1 p2) s0 n 4).1))] [(.int (Int32.ofNat s0)), (.ref b2), (.int (Int32.ofNat (own_em (own_g q1 p2) s0 n 4).1)), (.ref b3)])) (fun tt_ kk_ => XS.iload X36.here hx rfl (hb hby at_245) rfl kk_) ?_
    refine Ends.to (T' := T36) (g' := (mkF m 249 #[.val (.long q1), .second, .val (.int p2), .val (.int p3), .val (.int p4), .val (.int p5), .val (.int (Int32.ofNat s0)), .val (.int (Int32.ofNat n)), .val (.int (1 : Int32)), .val (.ref b1), .val (.ref b2), .val (.int (Int32.ofNat (own_fin s0 (own_nz s0 n 0 0 (own_g q1 p2))))), .val (.ref b3), .val (.int (Int32.ofNat (own_em (own_g q1 p2) s0 n 4).1))] [(.int (Int32.ofNat n)), (.int (Int32.ofNat s0)), (.ref b2), (.int (Int32.ofNat (own_em (own_g q1 p2) s0 n 4).1)), (.ref b3)])) (fun tt_ kk_ => XS.iload X36.here hx rfl (hb hby at_247) rfl kk_) ?_
    refine Ends.to (T' := T36) (g' := (mkF m 250 #[.val (.long q1), .second, .val (.int p2), .val (.int p3), .val (.int p4), .val (.int p5), .val (.int (Int32.ofNat s0)), .val (.int (Int32.ofNat n)), .val (.int (1 : Int32)), .val (.ref b1), .val (.ref b2), .val (.int (Int32.ofNat (own_fin s0 (own_nz s0 n 0 0 (own_g q1 p2))))), .val (.ref b3), .val (.int (Int32.ofNat (own_em (own_g q1 p2) s0 n 4).1))] [(.int (4 : Int32)), (.int (Int32.ofNat n)), (.int (Int32.ofNat s0)), (.ref b2), (.int (Int32.ofNat (own_em (own_g q1 p2) s0 n 4).1)), (.ref b3)])) (fun tt_ kk_ => XS.iconst X36.here hx rfl (hb hby at_249) kk_) ?_
    obtain ⟨_, _, ⟨T37, L37, k37, n37⟩, -, X37, ⟨Lc37, hQ37, l37, y37, z37⟩, st37⟩ := Jvm.LawKit.callS X36 hx (y := (⟨"com/example/predicate/predicate/document/AttributeDeclarationNormalizePinLaw", "emit", "([BI[BIII)I"⟩ : MethodName)) hown (mvT hZ (hw _ (List.mem_of_getElem? (i := 13) rfl))) (mvT hZ (hw _ (List.mem_of_getElem? (i := 14) rfl))) (mvT hZ (hw _ (List.mem_of_getElem? (i := 3) rfl))) (mvT hZ (hw _ (List.mem_of_getElem? (i := 15) rfl))) (by decide) (backOf (W := 0) (rm4 l Z a0 hw [] b3 (own_em (own_g q1 p2) s0 n 4).1 b2 s0 n 4 (own_em (own_g q1 p2) s0 n 4).2 (own_g q1 p2) T36.heap n0 Zs (by decide) (by have := own_emk (own_g q1 p2) s0 n 4; omega) (own_emk (own_g q1 p2) s0 n 4) hsn ne_b2_b3 B_b3 B_b2 f_b3) hZ (hw _ (List.mem_of_getElem? (i := 15) rfl)) (hw _ (List.mem_of_getElem? (i := 3) rfl)) (by decide) (by decide)) (g := (mkF m 250 #[.val (.long q1), .second, .val (.int p2), .val (.int p3), .val (.int p4), .val (.int p5), .val (.int (Int32.ofNat s0)), .val (.int (Int32.ofNat n)), .val (.int (1 : Int32)), .val (.ref b1), .val (.ref b2), .val (.int (Int32.ofNat (own_fin s0 (own_nz s0 n 0 0 (own_g q1 p2))))), .val (.ref b3), .val (.int (Int32.ofNat (own_em (own_g q1 p2) s0 n 4).1))] [(.int (4 : Int32)), (.int (Int32.ofNat n)), (.int (Int32.ofNat s0)), (.ref b2), (.int (Int32.ofNat (own_em (own_g q1 p2) s0 n 4).1)), (.ref b3)])) rfl (by rw [hml]; rfl) (argsL := [(.ref b3), (.int (Int32.ofNat (own_em (own_g q1 p2) s0 n 4).1)), (.ref b2), (.int (Int32.ofNat s0)), (.int (Int32.ofNat n)), (.int (4 : Int32))]) (rest := []) (lenOf pd_4 rfl) rfl (by show 2 * 0 + _ ≤ _; exact Nat.le_of_eq rfl) (hb hby at_250) (fun _ _ => ⟨rfl, rfl, (by decide : 3 + 0 ≤ _), (by decide : 24 + 0 ≤ _)⟩)
    dsimp only [Pt.U, Pt.locs, Pt.cells, Pt.slots] at X37 l37 y37 z37 st37 hQ37
    subst l37 y37 z37
    obtain ⟨rfl, N37q, K37, G37⟩ := hQ37
    have N37 := Fr.app N36 N37q
    have Zs := Nat.le_trans Zs K37.1
    have B_b1 := BA.keep B_b1 K37 (ninS ne_b1_b3 nin0)
    have B_b2 := BA.keep B_b2 K37 (ninS ne_b2_b3 nin0)
    have B_b3 : BB Z T37.heap b3 8 (own_em (own_g q1 p2) s0 n 5).2 := G37
    refine Ends.to (T' := T37) (g' := (mkF m 253 #[.val (.long q1), .second, .val (.int p2), .val (.int p3), .val (.int p4), .val (.int p5), .val (.int (Int32.ofNat s0)), .val (.int (Int32.ofNat n)), .val (.int (1 : Int32)), .val (.ref b1), .val (.ref b2), .val (.int (Int32.ofNat (own_fin s0 (own_nz s0 n 0 0 (own_g q1 p2))))), .val (.ref b3), .val (.int (Int32.ofNat (own_em (own_g q1 p2) s0 n 4).1))] [(.int (Int32.ofNat (own_em (own_g q1 p2) s0 n 5).1))])) (fun tt_ kk_ => st37 tt_ kk_) ?_
    refine Ends.to (T' := T37) (g' := (mkF m 255 #[.val (.long q1), .second, .val (.int p2), .val (.int p3), .val (.int p4), .val (.int p5), .val (.int (Int32.ofNat s0)), .val (.int (Int32.ofNat n)), .val (.int (1 : Int32)), .val (.ref b1), .val (.ref b2), .val (.int (Int32.ofNat (own_fin s0 (own_nz s0 n 0 0 (own_g q1 p2))))), .val (.ref b3), .val (.int (Int32.ofNat (own_em (own_g q1 p2) s0 n 5).1))] [])) (fun tt_ kk_ => XS.istore X37.here hx rfl (hb hby at_253) rfl (l' := #[.val (.long q1), .second, .val (.int p2), .val (.int p3), .val (.int p4), .val (.int p5), .val (.int (Int32.ofNat s0)), .val (.int (Int32.ofNat n)), .val (.int (1 : Int32)), .val (.ref b1), .val (.ref b2), .val (.int (Int32.ofNat (own_fin s0 (own_nz s0 n 0 0 (own_g q1 p2))))), .val (.ref b3), .val (.int (Int32.ofNat (own_em (own_g q1 p2) s0 n 5).1))]) rfl kk_) ?_
    refine Ends.to (T' := T37) (g' := (mkF m 257 #[.val (.long q1), .second, .val (.int p2), .val (.int p3), .val (.int p4), .val (.int p5), .val (.int (Int32.ofNat s0)), .val (.int (Int32.ofNat n)), .val (.int (1 : Int32)), .val (.ref b1), .val (.ref b2), .val (.int (Int32.ofNat (own_fin s0 (own_nz s0 n 0 0 (own_g q1 p2))))), .val (.ref b3), .val (.int (Int32.ofNat (own_em (own_g q1 p2) s0 n 5).1))] [(.int (Int32.ofNat (own_fin s0 (own_nz s0 n 0 0 (own_g q1 p2)))))])) (fun tt_ kk_ => XS.iload X37.here hx rfl (hb hby at_255) rfl kk_) ?_
    refine Ends.to (T' := T37) (g' := (mkF m 259 #[.val (.long q1), .second, .val (.int p2), .val (.int p3), .val (.int p4), .val (.int p5), .val (.int (Int32.ofNat s0)), .val (.int (Int32.ofNat n)), .val (.int (1 : Int32)), .val (.ref b1), .val (.ref b2), .val (.int (Int32.ofNat (own_fin s0 (own_nz s0 n 0 0 (own_g q1 p2))))), .val (.ref b3), .val (.int (Int32.ofNat (own_em (own_g q1 p2) s0 n 5).1))] [(.int (Int32.ofNat (own_em (own_g q1 p2) s0 n 5).1)), (.int (Int32.ofNat (own_fin s0 (own_nz s0 n 0 0 (own_g q1 p2)))))])) (fun tt_ kk_ => XS.iload X37.here hx rfl (hb hby at_257) rfl kk_) ?_
    refine Ends.to (T' := T37) (g' := (mkF m 264 #[.val (.long q1), .second, .val (.int p2), .val (.int p3), .val (.int p4), .val (.int p5), .val (.int (Int32.ofNat s0)), .val (.int (Int32.ofNat n)), .val (.int (1 : Int32)), .val (.ref b1), .val (.ref b2), .val (.int (Int32.ofNat (own_fin s0 (own_nz s0 n 0 0 (own_g q1 p2))))), .val (.ref b3), .val (.int (Int32.ofNat (own_em (own_g q1 p2) s0 n 5).1))] [])) (fun tt_ kk_ => XS.icmpYes X37.here hx rfl (pc0 := 259) (pc' := 264) rfl (hb hby at_259) rfl (teq (congrArg Int32.ofNat hm.1)).1 (by decide) (by decide) kk_) ?_
    refine Ends.to (T' := T37) (g' := (mkF m 266 #[.val (.long q1), .second, .val (.int p2), .val (.int p3), .val (.int p4), .val (.int p5), .val (.int (Int32.ofNat s0)), .val (.int (Int32.ofNat n)), .val (.int (1 : Int32)), .val (.ref b1), .val (.ref b2), .val (.int (Int32.ofNat (own_fin s0 (own_nz s0 n 0 0 (own_g q1 p2))))), .val (.ref b3), .val (.int (Int32.ofNat (own_em (own_g q1 p2) s0 n 5).1))] [(.ref b1)])) (fun tt_ kk_ => XS.aload X37.here hx rfl (hb hby at_264) rfl rfl kk_) ?_
    refine Ends.to (T' := T37) (g' := (mkF m 268 #[.val (.long q1), .second, .val (.int p2), .val (.int p3), .val (.int p4), .val (.int p5), .val (.int (Int32.ofNat s0)), .val (.int (Int32.ofNat n)), .val (.int (1 : Int32)), .val (.ref b1), .val (.ref b2), .val (.int (Int32.ofNat (own_fin s0 (own_nz s0 n 0 0 (own_g q1 p2))))), .val (.ref b3), .val (.int (Int32.ofNat (own_em (own_g q1 p2) s0 n 5).1))] [(.ref b3), (.ref b1)])) (fun tt_ kk_ => XS.aload X37.here hx rfl (hb hby at_266) rfl rfl kk_) ?_
    refine Ends.to (T' := T37) (g' := (mkF m 270 #[.val (.long q1), .second, .val (.int p2), .val (.int p3), .val (.int p4), .val (.int p5), .val (.int (Int32.ofNat s0)), .val (.int (Int32.ofNat n)), .val (.int (1 : Int32)), .val (.ref b1), .val (.ref b2), .val (.int (Int32.ofNat (own_fin s0 (own_nz s0 n 0 0 (own_g q1 p2))))), .val (.ref b3), .val (.int (Int32.ofNat (own_em (own_g q1 p2) s0 n 5).1))] [(.int (Int32.ofNat s0)), (.ref b3), (.ref b1)])) (fun tt_ kk_ => XS.iload X37.here hx rfl (hb hby at_268) rfl kk_) ?_
    refine Ends.to (T' := T37) (g' := (mkF m 271 #[.val (.long q1), .second, .val (.int p2), .val (.int p3), .val (.int p4), .val (.int p5), .val (.int (Int32.ofNat s0)), .val (.int (Int32.ofNat n)), .val (.int (1 : Int32)), .val (.ref b1), .val (.ref b2), .val (.int (Int32.ofNat (own_fin s0 (own_nz s0 n 0 0 (own_g q1 p2))))), .val (.ref b3), .val (.int (Int32.ofNat (own_em (own_g q1 p2) s0 n 5).1))] [(.int (0 : Int32)), (.int (Int32.ofNat s0)), (.ref b3), (.ref b1)])) (fun tt_ kk_ => XS.iconst X37.here hx rfl (hb hby at_270) kk_) ?_
    refine Ends.to (T' := T37) (g' := (mkF m 273 #[.val (.long q1), .second, .val (.int p2), .val (.int p3), .val (.int p4), .val (.int p5), .val (.int (Int32.ofNat s0)), .val (.int (Int32.ofNat n)), .val (.int (1 : Int32)), .val (.ref b1), .val (.ref b2), .val (.int (Int32.ofNat (own_fin s0 (own_nz s0 n 0 0 (own_g q1 p2))))), .val (.ref b3), .val (.int (Int32.ofNat (own_em (own_g q1 p2) s0 n 5).1))] [(.int (Int32.ofNat (own_em (own_g q1 p2) s0 n 5).1)), (.int (0 : Int32)), (.int (Int32.ofNat s0)), (.ref b3), (.ref b1)])) (fun tt_ kk_ => XS.iload X37.here hx rfl (hb hby at_271) rfl kk_) ?_
    obtain ⟨_, _, ⟨T38, L38, k38, n38⟩, -, X38, ⟨Lc38, hQ38, l38, y38, z38⟩, st38⟩ := Jvm.LawKit.callS X37 hx (y := (⟨"com/example/predicate/predicate/document/AttributeDeclarationNormalizePinLaw", "inside", "([B[BIII)Z"⟩ : MethodName)) hown (mvT hZ (hw _ (List.mem_of_getElem? (i := 16) rfl))) (mvT hZ (hw _ (List.mem_of_getElem? (i := 17) rfl))) (mvT hZ (hw _ (List.mem_of_getElem? (i := 3) rfl))) (mvT hZ (hw _ (List.mem_of_getElem? (i := 18) rfl))) (by decide) (backOf (W := 0) (rm5 l Z a0 hw [] b1 b3 s0 0 (own_em (own_g q1 p2) s0 n 5).1 _ (own_em (own_g q1 p2) s0 n 5).2 T37.heap n0 Zs (by omega) (by have := own_emk (own_g q1 p2) s0 n 5; omega) (hm.2.1 0) B_b1 B_b3) hZ (hw _ (List.mem_of_getElem? (i := 18) rfl)) (hw _ (List.mem_of_getElem? (i := 3) rfl)) (by decide) (by decide)) (g := (mkF m 273 #[.val (.long q1), .second, .val (.int p2), .val (.int p3), .val (.int p4), .val (.int p5), .val (.int (Int32.ofNat s0)), .val (.int (Int32.ofNat n)), .val (.int (1 : Int32)), .val (.ref b1), .val (.ref b2), .val (.int (Int32.ofNat (own_fin s0 (own_nz s0 n 0 0 (own_g q1 p2))))), .val (.ref b3), .val (.int (Int32.ofNat (own_em (own_g q1 p2) s0 n 5).1))] [(.int (Int32.ofNat (own_em (own_g q1 p2) s0 n 5).1)), (.int (0 : Int32)), (.int (Int32.ofNat s0)), (.ref b3), (.ref b1)])) rfl (by rw [hml]; rfl) (argsL := [(.ref b1), (.ref b3), (.int (Int32.ofNat s0)), (.int (0 : Int32)), (.int (Int32.ofNat (own_em (own_g q1 p2) s0 n 5).1))]) (rest := []) (lenOf pd_5 rfl) rfl (by show 2 * 0 + _ ≤ _; exact Nat.le_of_eq rfl) (hb hby at_273) (fun _ _ => ⟨rfl, rfl, (by decide : 3 + 0 ≤ _), (by decide : 24 + 0 ≤ _)⟩)
    dsimp only [Pt.U, Pt.locs, Pt.cells, Pt.slots] at X38 l38 y38 z38 st38 hQ38
    subst l38 y38 z38
    obtain ⟨rfl, N38q, e38q⟩ := hQ38
    have N38 := Fr.app N37 N38q
    refine Ends.to (T' := T38) (g' := (mkF m 276 #[.val (.long q1), .second, .val (.int p2), .val (.int p3), .val (.int p4), .val (.int p5), .val (.int (Int32.ofNat s0)), .val (.int (Int32.ofNat n)), .val (.int (1 : Int32)), .val (.ref b1), .val (.ref b2), .val (.int (Int32.ofNat (own_fin s0 (own_nz s0 n 0 0 (own_g q1 p2))))), .val (.ref b3), .val (.int (Int32.ofNat (own_em (own_g q1 p2) s0 n 5).1))] [(.int (1 : Int32))])) (fun tt_ kk_ => st38 tt_ kk_) ?_
    refine Ends.to (T' := T38) (g' := (mkF m 279 #[.val (.long q1), .second, .val (.int p2), .val (.int p3), .val (.int p4), .val (.int p5), .val (.int (Int32.ofNat s0)), .val (.int (Int32.ofNat n)), .val (.int (1 : Int32)), .val (.ref b1), .val (.ref b2), .val (.int (Int32.ofNat (own_fin s0 (own_nz s0 n 0 0 (own_g q1 p2))))), .val (.ref b3), .val (.int (Int32.ofNat (own_em (own_g q1 p2) s0 n 5).1))] [])) (fun tt_ kk_ => XS.ifNo X38.here hx rfl (hb hby at_276) rfl ((if0 _ _).trans (feq (by decide)).1) kk_) ?_
    refine Ends.to (T' := T38) (g' := (mkF m 281 #[.val (.long q1), .second, .val (.int p2), .val (.int p3), .val (.int p4), .val (.int p5), .val (.int (Int32.ofNat s0)), .val (.int (Int32.ofNat n)), .val (.int (1 : Int32)), .val (.ref b1), .val (.ref b2), .val (.int (Int32.ofNat (own_fin s0 (own_nz s0 n 0 0 (own_g q1 p2))))), .val (.ref b3), .val (.int (Int32.ofNat (own_em (own_g q1 p2) s0 n 5).1))] [(.ref b1)])) (fun tt_ kk_ => XS.aload X38.here hx rfl (hb hby at_279) rfl rfl kk_) ?_
    refine Ends.to (T' := T38) (g' := (mkF m 283 #[.val (.long q1), .second, .val (.int p2), .val (.int p3), .val (.int p4), .val (.int p5), .val (.int (Int32.ofNat s0)), .val (.int (Int32.ofNat n)), .val (.int (1 : Int32)), .val (.ref b1), .val (.ref b2), .val (.int (Int32.ofNat (own_fin s0 (own_nz s0 n 0 0 (own_g q1 p2))))), .val (.ref b3), .val (.int (Int32.ofNat (own_em (own_g q1 p2) s0 n 5).1))] [(.ref b3), (.ref b1)])) (fun tt_ kk_ => XS.aload X38.here hx rfl (hb hby at_281) rfl rfl kk_) ?_
    refine Ends.to (T' := T38) (g' := (mkF m 285 #[.val (.long q1), .second, .val (.int p2), .val (.int p3), .val (.int p4), .val (.int p5), .val (.int (Int32.ofNat s0)), .val (.int (Int32.ofNat n)), .val (.int (1 : Int32)), .val (.ref b1), .val (.ref b2), .val (.int (Int32.ofNat (own_fin s0 (own_nz s0 n 0 0 (own_g q1 p2))))), .val (.ref b3), .val (.int (Int32.ofNat (own_em (own_g q1 p2) s0 n 5).1))] [(.int (Int32.ofNat s0)), (.ref b3), (.ref b1)])) (fun tt_ kk_ => XS.iload X38.here hx rfl (hb hby at_283) rfl kk_) ?_
    refine Ends.to (T' := T38) (g' := (mkF m 286 #[.val (.long q1), .second, .val (.int p2), .val (.int p3), .val (.int p4), .val (.int p5), .val (.int (Int32.ofNat s0)), .val (.int (Int32.ofNat n)), .val (.int (1 : Int32)), .val (.ref b1), .val (.ref b2), .val (.int (Int32.ofNat (own_fin s0 (own_nz s0 n 0 0 (own_g q1 p2))))), .val (.ref b3), .val (.int (Int32.ofNat (own_em (own_g q1 p2) s0 n 5).1))] [(.int (1 : Int32)), (.int (Int32.ofNat s0)), (.ref b3), (.ref b1)])) (fun tt_ kk_ => XS.iconst X38.here hx rfl (hb hby at_285) kk_) ?_
    refine Ends.to (T' := T38) (g' := (mkF m 288 #[.val (.long q1), .second, .val (.int p2), .val (.int p3), .val (.int p4), .val (.int p5), .val (.int (Int32.ofNat s0)), .val (.int (Int32.ofNat n)), .val (.int (1 : Int32)), .val (.ref b1), .val (.ref b2), .val (.int (Int32.ofNat (own_fin s0 (own_nz s0 n 0 0 (own_g q1 p2))))), .val (.ref b3), .val (.int (Int32.ofNat (own_em (own_g q1 p2) s0 n 5).1))] [(.int (Int32.ofNat (own_em (own_g q1 p2) s0 n 5).1)), (.int (1 : Int32)), (.int (Int32.ofNat s0)), (.ref b3), (.ref b1)])) (fun tt_ kk_ => XS.iload X38.here hx rfl (hb hby at_286) rfl kk_) ?_
    obtain ⟨_, _, ⟨T39, L39, k39, n39⟩, -, X39, ⟨Lc39, hQ39, l39, y39, z39⟩, st39⟩ := Jvm.LawKit.callS X38 hx (y := (⟨"com/example/predicate/predicate/document/AttributeDeclarationNormalizePinLaw", "inside", "([B[BIII)Z"⟩ : MethodName)) hown (mvT hZ (hw _ (List.mem_of_getElem? (i := 16) rfl))) (mvT hZ (hw _ (List.mem_of_getElem? (i := 17) rfl))) (mvT hZ (hw _ (List.mem_of_getElem? (i := 3) rfl))) (mvT hZ (hw _ (List.mem_of_getElem? (i := 18) rfl))) (by decide) (backOf (W := 0) (rm5 l Z a0 hw [] b1 b3 s0 1 (own_em (own_g q1 p2) s0 n 5).1 _ (own_em (own_g q1 p2) s0 n 5).2 T37.heap n0 Zs (by omega) (by have := own_emk (own_g q1 p2) s0 n 5; omega) (hm.2.1 1) B_b1 B_b3) hZ (hw _ (List.mem_of_getElem? (i := 18) rfl)) (hw _ (List.mem_of_getElem? (i := 3) rfl)) (by decide) (by decide)) (g := (mkF m 288 #[.val (.long q1), .second, .val (.int p2), .val (.int p3), .val (.int p4), .val (.int p5), .val (.int (Int32.ofNat s0)), .val (.int (Int32.ofNat n)), .val (.int (1 : Int32)), .val (.ref b1), .val (.ref b2), .val (.int (Int32.ofNat (own_fin s0 (own_nz s0 n 0 0 (own_g q1 p2))))), .val (.ref b3), .val (.int (Int32.ofNat (own_em (own_g q1 p2) s0 n 5).1))] [(.int (Int32.ofNat (own_em (own_g q1 p2) s0 n 5).1)), (.int (1 : Int32)), (.int (Int32.ofNat s0)), (.ref b3), (.ref b1)])) rfl (by rw [hml]; rfl) (argsL := [(.ref b1), (.ref b3), (.int (Int32.ofNat s0)), (.int (1 : Int32)), (.int (Int32.ofNat (own_em (own_g q1 p2) s0 n 5).1))]) (rest := []) (lenOf pd_5 rfl) rfl (by show 2 * 0 + _ ≤ _; exact Nat.le_of_eq rfl) (hb hby at_288) (fun _ _ => ⟨rfl, e38q, (by decide : 3 + 0 ≤ _), (by decide : 24 + 0 ≤ _)⟩)
    dsimp only [Pt.U, Pt.locs, Pt.cells, Pt.slots] at X39 l39 y39 z39 st39 hQ39
    subst l39 y39 z39
    obtain ⟨rfl, N39q, e39q⟩ := hQ39
    have N39 := Fr.app N38 N39q
    refine Ends.to (T' := T39) (g' := (mkF m 291 #[.val (.long q1), .second, .val (.int p2), .val (.int p3), .val (.int p4), .val (.int p5), .val (.int (Int32.ofNat s0)), .val (.int (Int32.ofNat n)), .val (.int (1 : Int32)), .val (.ref b1), .val (.ref b2), .val (.int (Int32.ofNat (own_fin s0 (own_nz s0 n 0 0 (own_g q1 p2))))), .val (.ref b3), .val (.int (Int32.ofNat (own_em (own_g q1 p2) s0 n 5).1))] [(.int (1 : Int32))])) (fun tt_ kk_ => st39 tt_ kk_) ?_
    refine Ends.to (T' := T39) (g' := (mkF m 294 #[.val (.long q1), .second, .val (.int p2), .val (.int p3), .val (.int p4), .val (.int p5), .val (.int (Int32.ofNat s0)), .val (.int (Int32.ofNat n)), .val (.int (1 : Int32)), .val (.ref b1), .val (.ref b2), .val (.int (Int32.ofNat (own_fin s0 (own_nz s0 n 0 0 (own_g q1 p2))))), .val (.ref b3), .val (.int (Int32.ofNat (own_em (own_g q1 p2) s0 n 5).1))] [])) (fun tt_ kk_ => XS.ifNo X39.here hx rfl (hb hby at_291) rfl ((if0 _ _).trans (feq (by decide)).1) kk_) ?_
    refine Ends.to (T' := T39) (g' := (mkF m 296 #[.val (.long q1), .second, .val (.int p2), .val (.int p3), .val (.int p4), .val (.int p5), .val (.int (Int32.ofNat s0)), .val (.int (Int32.ofNat n)), .val (.int (1 : Int32)), .val (.ref b1), .val (.ref b2), .val (.int (Int32.ofNat (own_fin s0 (own_nz s0 n 0 0 (own_g q1 p2))))), .val (.ref b3), .val (.int (Int32.ofNat (own_em (own_g q1 p2) s0 n 5).1))] [(.ref b1)])) (fun tt_ kk_ => XS.aload X39.here hx rfl (hb hby at_294) rfl rfl kk_) ?_
    refine Ends.to (T' := T39) (g' := (mkF m 298 #[.val (.long q1), .second, .val (.int p2), .val (.int p3), .val (.int p4), .val (.int p5), .val (.int (Int32.ofNat s0)), .val (.int (Int32.ofNat n)), .val (.int (1 : Int32)), .val (.ref b1), .val (.ref b2), .val (.int (Int32.ofNat (own_fin s0 (own_nz s0 n 0 0 (own_g q1 p2))))), .val (.ref b3), .val (.int (Int32.ofNat (own_em (own_g q1 p2) s0 n 5).1))] [(.ref b3), (.ref b1)])) (fun tt_ kk_ => XS.aload X39.here hx rfl (hb hby at_296) rfl rfl kk_) ?_
    refine Ends.to (T' := T39) (g' := (mkF m 300 #[.val (.long q1), .second, .val (.int p2), .val (.int p3), .val (.int p4), .val (.int p5), .val (.int (Int32.ofNat s0)), .val (.int (Int32.ofNat n)), .val (.int (1 : Int32)), .val (.ref b1), .val (.ref b2), .val (.int (Int32.ofNat (own_fin s0 (own_nz s0 n 0 0 (own_g q1 p2))))), .val (.ref b3), .val (.int (Int32.ofNat (own_em (own_g q1 p2) s0 n 5).1))] [(.int (Int32.ofNat s0)), (.ref b3), (.ref b1)])) (fun tt_ kk_ => XS.iload X39.here hx rfl (hb hby at_298) rfl kk_) ?_
    refine Ends.to (T' := T39) (g' := (mkF m 301 #[.val (.long q1), .second, .val (.int p2), .val (.int p3), .val (.int p4), .val (.int p5), .val (.int (Int32.ofNat s0)), .val (.int (Int32.ofNat n)), .val (.int (1 : Int32)), .val (.ref b1), .val (.ref b2), .val (.int (Int32.ofNat (own_fin s0 (own_nz s0 n 0 0 (own_g q1 p2))))), .val (.ref b3), .val (.int (Int32.ofNat (own_em (own_g q1 p2) s0 n 5).1))] [(.int (2 : Int32)), (.int (Int32.ofNat s0)), (.ref b3), (.ref b1)])) (fun tt_ kk_ => XS.iconst X39.here hx rfl (hb hby at_300) kk_) ?_
    refine Ends.to (T' := T39) (g' := (mkF m 303 #[.val (.long q1), .second, .val (.int p2), .val (.int p3), .val (.int p4), .val (.int p5), .val (.int (Int32.ofNat s0)), .val (.int (Int32.ofNat n)), .val (.int (1 : Int32)), .val (.ref b1), .val (.ref b2), .val (.int (Int32.ofNat (own_fin s0 (own_nz s0 n 0 0 (own_g q1 p2))))), .val (.ref b3), .val (.int (Int32.ofNat (own_em (own_g q1 p2) s0 n 5).1))] [(.int (Int32.ofNat (own_em (own_g q1 p2) s0 n 5).1)), (.int (2 : Int32)), (.int (Int32.ofNat s0)), (.ref b3), (.ref b1)])) (fun tt_ kk_ => XS.iload X39.here hx rfl (hb hby at_301) rfl kk_) ?_
    obtain ⟨_, _, ⟨T40, L40, k40, n40⟩, -, X40, ⟨Lc40, hQ40, l40, y40, z40⟩, st40⟩ := Jvm.LawKit.callS X39 hx (y := (⟨"com/example/predicate/predicate/document/AttributeDeclarationNormalizePinLaw", "inside", "([B[BIII)Z"⟩ : MethodName)) hown (mvT hZ (hw _ (List.mem_of_getElem? (i := 16) rfl))) (mvT hZ (hw _ (List.mem_of_getElem? (i := 17) rfl))) (mvT hZ (hw _ (List.mem_of_getElem? (i := 3) rfl))) (mvT hZ (hw _ (List.mem_of_getElem? (i := 18) rfl))) (by decide) (backOf (W := 0) (rm5 l Z a0 hw [] b1 b3 s0 2 (own_em (own_g q1 p2) s0 n 5).1 _ (own_em (own_g q1 p2) s0 n 5).2 T37.heap n0 Zs (by omega) (by have := own_emk (own_g q1 p2) s0 n 5; omega) (hm.2.1 2) B_b1 B_b3) hZ (hw _ (List.mem_of_getElem? (i := 18) rfl)) (hw _ (List.mem_of_getElem? (i := 3) rfl)) (by decide) (by decide)) (g := (mkF m 303 #[.val (.long q1), .second, .val (.int p2), .val (.int p3), .val (.int p4), .val (.int p5), .val (.int (Int32.ofNat s0)), .val (.int (Int32.ofNat n)), .val (.int (1 : Int32)), .val (.ref b1), .val (.ref b2), .val (.int (Int32.ofNat (own_fin s0 (own_nz s0 n 0 0 (own_g q1 p2))))), .val (.ref b3), .val (.int (Int32.ofNat (own_em (own_g q1 p2) s0 n 5).1))] [(.int (Int32.ofNat (own_em (own_g q1 p2) s0 n 5).1)), (.int (2 : Int32)), (.int (Int32.ofNat s0)), (.ref b3), (.ref b1)])) rfl (by rw [hml]; rfl) (argsL := [(.ref b1), (.ref b3), (.int (Int32.ofNat s0)), (.int (2 : Int32)), (.int (Int32.ofNat (own_em (own_g q1 p2) s0 n 5).1))]) (rest := []) (lenOf pd_5 rfl) rfl (by show 2 * 0 + _ ≤ _; exact Nat.le_of_eq rfl) (hb hby at_303) (fun _ _ => ⟨rfl, e39q, (by decide : 3 + 0 ≤ _), (by decide : 24 + 0 ≤ _)⟩)
    dsimp only [Pt.U, Pt.locs, Pt.cells, Pt.slots] at X40 l40 y40 z40 st40 hQ40
    subst l40 y40 z40
    obtain ⟨rfl, N40q, e40q⟩ := hQ40
    have N40 := Fr.app N39 N40q
    refine Ends.to (T' := T40) (g' := (mkF m 306 #[.val (.long q1), .second, .val (.int p2), .val (.int p3), .val (.int p4), .val (.int p5), .val (.int (Int32.ofNat s0)), .val (.int (Int32.ofNat n)), .val (.int (1 : Int32)), .val (.ref b1), .val (.ref b2), .val (.int (Int32.ofNat (own_fin s0 (own_nz s0 n 0 0 (own_g q1 p2))))), .val (.ref b3), .val (.int (Int32.ofNat (own_em (own_g q1 p2) s0 n 5).1))] [(.int (1 : Int32))])) (fun tt_ kk_ => st40 tt_ kk_) ?_
    refine Ends.to (T' := T40) (g' := (mkF m 309 #[.val (.long q1), .second, .val (.int p2), .val (.int p3), .val (.int p4), .val (.int p5), .val (.int (Int32.ofNat s0)), .val (.int (Int32.ofNat n)), .val (.int (1 : Int32)), .val (.ref b1), .val (.ref b2), .val (.int (Int32.ofNat (own_fin s0 (own_nz s0 n 0 0 (own_g q1 p2))))), .val (.ref b3), .val (.int (Int32.ofNat (own_em (own_g q1 p2) s0 n 5).1))] [])) (fun tt_ kk_ => XS.ifNo X40.here hx rfl (hb hby at_306) rfl ((if0 _ _).trans (feq (by decide)).1) kk_) ?_
    refine Ends.to (T' := T40) (g' := (mkF m 311 #[.val (.long q1), .second, .val (.int p2), .val (.int p3), .val (.int p4), .val (.int p5), .val (.int (Int32.ofNat s0)), .val (.int (Int32.ofNat n)), .val (.int (1 : Int32)), .val (.ref b1), .val (.ref b2), .val (.int (Int32.ofNat (own_fin s0 (own_nz s0 n 0 0 (own_g q1 p2))))), .val (.ref b3), .val (.int (Int32.ofNat (own_em (own_g q1 p2) s0 n 5).1))] [(.ref b1)])) (fun tt_ kk_ => XS.aload X40.here hx rfl (hb hby at_309) rfl rfl kk_) ?_
    refine Ends.to (T' := T40) (g' := (mkF m 313 #[.val (.long q1), .second, .val (.int p2), .val (.int p3), .val (.int p4), .val (.int p5), .val (.int (Int32.ofNat s0)), .val (.int (Int32.ofNat n)), .val (.int (1 : Int32)), .val (.ref b1), .val (.ref b2), .val (.int (Int32.ofNat (own_fin s0 (own_nz s0 n 0 0 (own_g q1 p2))))), .val (.ref b3), .val (.int (Int32.ofNat (own_em (own_g q1 p2) s0 n 5).1))] [(.ref b3), (.ref b1)])) (fun tt_ kk_ => XS.aload X40.here hx rfl (hb hby at_311) rfl rfl kk_) ?_
    refine Ends.to (T' := T40) (g' := (mkF m 315 #[.val (.long q1), .second, .val (.int p2), .val (.int p3), .val (.int p4), .val (.int p5), .val (.int (Int32.ofNat s0)), .val (.int (Int32.ofNat n)), .val (.int (1 : Int32)), .val (.ref b1), .val (.ref b2), .val (.int (Int32.ofNat (own_fin s0 (own_nz s0 n 0 0 (own_g q1 p2))))), .val (.ref b3), .val (.int (Int32.ofNat (own_em (own_g q1 p2) s0 n 5).1))] [(.int (Int32.ofNat s0)), (.ref b3), (.ref b1)])) (fun tt_ kk_ => XS.iload X40.here hx rfl (hb hby at_313) rfl kk_) ?_
    refine Ends.to (T' := T40) (g' := (mkF m 316 #[.val (.long q1), .second, .val (.int p2), .val (.int p3), .val (.int p4), .val (.int p5), .val (.int (Int32.ofNat s0)), .val (.int (Int32.ofNat n)), .val (.int (1 : Int32)), .val (.ref b1), .val (.ref b2), .val (.int (Int32.ofNat (own_fin s0 (own_nz s0 n 0 0 (own_g q1 p2))))), .val (.ref b3), .val (.int (Int32.ofNat (own_em (own_g q1 p2) s0 n 5).1))] [(.int (3 : Int32)), (.int (Int32.ofNat s0)), (.ref b3), (.ref b1)])) (fun tt_ kk_ => XS.iconst X40.here hx rfl (hb hby at_315) kk_) ?_
    refine Ends.to (T' := T40) (g' := (mkF m 318 #[.val (.long q1), .second, .val (.int p2), .val (.int p3), .val (.int p4), .val (.int p5), .val (.int (Int32.ofNat s0)), .val (.int (Int32.ofNat n)), .val (.int (1 : Int32)), .val (.ref b1), .val (.ref b2), .val (.int (Int32.ofNat (own_fin s0 (own_nz s0 n 0 0 (own_g q1 p2))))), .val (.ref b3), .val (.int (Int32.ofNat (own_em (own_g q1 p2) s0 n 5).1))] [(.int (Int32.ofNat (own_em (own_g q1 p2) s0 n 5).1)), (.int (3 : Int32)), (.int (Int32.ofNat s0)), (.ref b3), (.ref b1)])) (fun tt_ kk_ => XS.iload X40.here hx rfl (hb hby at_316) rfl kk_) ?_
    obtain ⟨_, _, ⟨T41, L41, k41, n41⟩, -, X41, ⟨Lc41, hQ41, l41, y41, z41⟩, st41⟩ := Jvm.LawKit.callS X40 hx (y := (⟨"com/example/predicate/predicate/document/AttributeDeclarationNormalizePinLaw", "inside", "([B[BIII)Z"⟩ : MethodName)) hown (mvT hZ (hw _ (List.mem_of_getElem? (i := 16) rfl))) (mvT hZ (hw _ (List.mem_of_getElem? (i := 17) rfl))) (mvT hZ (hw _ (List.mem_of_getElem? (i := 3) rfl))) (mvT hZ (hw _ (List.mem_of_getElem? (i := 18) rfl))) (by decide) (backOf (W := 0) (rm5 l Z a0 hw [] b1 b3 s0 3 (own_em (own_g q1 p2) s0 n 5).1 _ (own_em (own_g q1 p2) s0 n 5).2 T37.heap n0 Zs (by omega) (by have := own_emk (own_g q1 p2) s0 n 5; omega) (hm.2.1 3) B_b1 B_b3) hZ (hw _ (List.mem_of_getElem? (i := 18) rfl)) (hw _ (List.mem_of_getElem? (i := 3) rfl)) (by decide) (by decide)) (g := (mkF m 318 #[.val (.long q1), .second, .val (.int p2), .val (.int p3), .val (.int p4), .val (.int p5), .val (.int (Int32.ofNat s0)), .val (.int (Int32.ofNat n)), .val (.int (1 : Int32)), .val (.ref b1), .val (.ref b2), .val (.int (Int32.ofNat (own_fin s0 (own_nz s0 n 0 0 (own_g q1 p2))))), .val (.ref b3), .val (.int (Int32.ofNat (own_em (own_g q1 p2) s0 n 5).1))] [(.int (Int32.ofNat (own_em (own_g q1 p2) s0 n 5).1)), (.int (3 : Int32)), (.int (Int32.ofNat s0)), (.ref b3), (.ref b1)])) rfl (by rw [hml]; rfl) (argsL := [(.ref b1), (.ref b3), (.int (Int32.ofNat s0)), (.int (3 : Int32)), (.int (Int32.ofNat (own_em (own_g q1 p2) s0 n 5).1))]) (rest := []) (lenOf pd_5 rfl) rfl (by show 2 * 0 + _ ≤ _; exact Nat.le_of_eq rfl) (hb hby at_318) (fun _ _ => ⟨rfl, e40q, (by decide : 3 + 0 ≤ _), (by decide : 24 + 0 ≤ _)⟩)
    dsimp only [Pt.U, Pt.locs, Pt.cells, Pt.slots] at X41 l41 y41 z41 st41 hQ41
    subst l41 y41 z41
    obtain ⟨rfl, N41q, e41q⟩ := hQ41
    have N41 := Fr.app N40 N41q
    refine Ends.to (T' := T41) (g' := (mkF m 321 #[.val (.long q1), .second, .val (.int p2), .val (.int p3), .val (.int p4), .val (.int p5), .val (.int (Int32.ofNat s0)), .val (.int (Int32.ofNat n)), .val (.int (1 : Int32)), .val (.ref b1), .val (.ref b2), .val (.int (Int32.ofNat (own_fin s0 (own_nz s0 n 0 0 (own_g q1 p2))))), .val (.ref b3), .val (.int (Int32.ofNat (own_em (own_g q1 p2) s0 n 5).1))] [(.int (1 : Int32))])) (fun tt_ kk_ => st41 tt_ kk_) ?_
    refine Ends.to (T' := T41) (g' := (mkF m 324 #[.val (.long q1), .second, .val (.int p2), .val (.int p3), .val (.int p4), .val (.int p5), .val (.int (Int32.ofNat s0)), .val (.int (Int32.ofNat n)), .val (.int (1 : Int32)), .val (.ref b1), .val (.ref b2), .val (.int (Int32.ofNat (own_fin s0 (own_nz s0 n 0 0 (own_g q1 p2))))), .val (.ref b3), .val (.int (Int32.ofNat (own_em (own_g q1 p2) s0 n 5).1))] [])) (fun tt_ kk_ => XS.ifNo X41.here hx rfl (hb hby at_321) rfl ((if0 _ _).trans (feq (by decide)).1) kk_) ?_
    refine Ends.to (T' := T41) (g' := (mkF m 326 #[.val (.long q1), .second, .val (.int p2), .val (.int p3), .val (.int p4), .val (.int p5), .val (.int (Int32.ofNat s0)), .val (.int (Int32.ofNat n)), .val (.int (1 : Int32)), .val (.ref b1), .val (.ref b2), .val (.int (Int32.ofNat (own_fin s0 (own_nz s0 n 0 0 (own_g q1 p2))))), .val (.ref b3), .val (.int (Int32.ofNat (own_em (own_g q1 p2) s0 n 5).1))] [(.ref b1)])) (fun tt_ kk_ => XS.aload X41.here hx rfl (hb hby at_324) rfl rfl kk_) ?_
    refine Ends.to (T' := T41) (g' := (mkF m 328 #[.val (.long q1), .second, .val (.int p2), .val (.int p3), .val (.int p4), .val (.int p5), .val (.int (Int32.ofNat s0)), .val (.int (Int32.ofNat n)), .val (.int (1 : Int32)), .val (.ref b1), .val (.ref b2), .val (.int (Int32.ofNat (own_fin s0 (own_nz s0 n 0 0 (own_g q1 p2))))), .val (.ref b3), .val (.int (Int32.ofNat (own_em (own_g q1 p2) s0 n 5).1))] [(.ref b3), (.ref b1)])) (fun tt_ kk_ => XS.aload X41.here hx rfl (hb hby at_326) rfl rfl kk_) ?_
    refine Ends.to (T' := T41) (g' := (mkF m 330 #[.val (.long q1), .second, .val (.int p2), .val (.int p3), .val (.int p4), .val (.int p5), .val (.int (Int32.ofNat s0)), .val (.int (Int32.ofNat n)), .val (.int (1 : Int32)), .val (.ref b1), .val (.ref b2), .val (.int (Int32.ofNat (own_fin s0 (own_nz s0 n 0 0 (own_g q1 p2))))), .val (.ref b3), .val (.int (Int32.ofNat (own_em (own_g q1 p2) s0 n 5).1))] [(.int (Int32.ofNat s0)), (.ref b3), (.ref b1)])) (fun tt_ kk_ => XS.iload X41.here hx rfl (hb hby at_328) rfl kk_) ?_
    refine Ends.to (T' := T41) (g' := (mkF m 331 #[.val (.long q1), .second, .val (.int p2), .val (.int p3), .val (.int p4), .val (.int p5), .val (.int (Int32.ofNat s0)), .val (.int (Int32.ofNat n)), .val (.int (1 : Int32)), .val (.ref b1), .val (.ref b2), .val (.int (Int32.ofNat (own_fin s0 (own_nz s0 n 0 0 (own_g q1 p2))))), .val (.ref b3), .val (.int (Int32.ofNat (own_em (own_g q1 p2) s0 n 5).1))] [(.int (4 : Int32)), (.int (Int32.ofNat s0)), (.ref b3), (.ref b1)])) (fun tt_ kk_ => XS.iconst X41.here hx rfl (hb hby at_330) kk_) ?_
    refine Ends.to (T' := T41) (g' := (mkF m 333 #[.val (.long q1), .second, .val (.int p2), .val (.int p3), .val (.int p4), .val (.int p5), .val (.int (Int32.ofNat s0)), .val (.int (Int32.ofNat n)), .val (.int (1 : Int32)), .val (.ref b1), .val (.ref b2), .val (.int (Int32.ofNat (own_fin s0 (own_nz s0 n 0 0 (own_g q1 p2))))), .val (.ref b3), .val (.int (Int32.ofNat (own_em (own_g q1 p2) s0 n 5).1))] [(.int (Int32.ofNat (own_em (own_g q1 p2) s0 n 5).1)), (.int (4 : Int32)), (.int (Int32.ofNat s0)), (.ref b3), (.ref b1)])) (fun tt_ kk_ => XS.iload X41.here hx rfl (hb hby at_331) rfl kk_) ?_
    obtain ⟨_, _, ⟨T42, L42, k42, n42⟩, -, X42, ⟨Lc42, hQ42, l42, y42, z42⟩, st42⟩ := Jvm.LawKit.callS X41 hx (y := (⟨"com/example/predicate/predicate/document/AttributeDeclarationNormalizePinLaw", "inside", "([B[BIII)Z"⟩ : MethodName)) hown (mvT hZ (hw _ (List.mem_of_getElem? (i := 16) rfl))) (mvT hZ (hw _ (List.mem_of_getElem? (i := 17) rfl))) (mvT hZ (hw _ (List.mem_of_getElem? (i := 3) rfl))) (mvT hZ (hw _ (List.mem_of_getElem? (i := 18) rfl))) (by decide) (backOf (W := 0) (rm5 l Z a0 hw [] b1 b3 s0 4 (own_em (own_g q1 p2) s0 n 5).1 _ (own_em (own_g q1 p2) s0 n 5).2 T37.heap n0 Zs (by omega) (by have := own_emk (own_g q1 p2) s0 n 5; omega) (hm.2.1 4) B_b1 B_b3) hZ (hw _ (List.mem_of_getElem? (i := 18) rfl)) (hw _ (List.mem_of_getElem? (i := 3) rfl)) (by decide) (by decide)) (g := (mkF m 333 #[.val (.long q1), .second, .val (.int p2), .val (.int p3), .val (.int p4), .val (.int p5), .val (.int (Int32.ofNat s0)), .val (.int (Int32.ofNat n)), .val (.int (1 : Int32)), .val (.ref b1), .val (.ref b2), .val (.int (Int32.ofNat (own_fin s0 (own_nz s0 n 0 0 (own_g q1 p2))))), .val (.ref b3), .val (.int (Int32.ofNat (own_em (own_g q1 p2) s0 n 5).1))] [(.int (Int32.ofNat (own_em (own_g q1 p2) s0 n 5).1)), (.int (4 : Int32)), (.int (Int32.ofNat s0)), (.ref b3), (.ref b1)])) rfl (by rw [hml]; rfl) (argsL := [(.ref b1), (.ref b3), (.int (Int32.ofNat s0)), (.int (4 : Int32)), (.int (Int32.ofNat (own_em (own_g q1 p2) s0 n 5).1))]) (rest := []) (lenOf pd_5 rfl) rfl (by show 2 * 0 + _ ≤ _; exact Nat.le_of_eq rfl) (hb hby at_333) (fun _ _ => ⟨rfl, e41q, (by decide : 3 + 0 ≤ _), (by decide : 24 + 0 ≤ _)⟩)
    dsimp only [Pt.U, Pt.locs, Pt.cells, Pt.slots] at X42 l42 y42 z42 st42 hQ42
    subst l42 y42 z42
    obtain ⟨rfl, N42q, e42q⟩ := hQ42
    have N42 := Fr.app N41 N42q
    refine Ends.to (T' := T42) (g' := (mkF m 336 #[.val (.long q1), .second, .val (.int p2), .val (.int p3), .val (.int p4), .val (.int p5), .val (.int (Int32.ofNat s0)), .val (.int (Int32.ofNat n)), .val (.int (1 : Int32)), .val (.ref b1), .val (.ref b2), .val (.int (Int32.ofNat (own_fin s0 (own_nz s0 n 0 0 (own_g q1 p2))))), .val (.ref b3), .val (.int (Int32.ofNat (own_em (own_g q1 p2) s0 n 5).1))] [(.int (1 : Int32))])) (fun tt_ kk_ => st42 tt_ kk_) ?_
    refine Ends.to (T' := T42) (g' := (mkF m 339 #[.val (.long q1), .second, .val (.int p2), .val (.int p3), .val (.int p4), .val (.int p5), .val (.int (Int32.ofNat s0)), .val (.int (Int32.ofNat n)), .val (.int (1 : Int32)), .val (.ref b1), .val (.ref b2), .val (.int (Int32.ofNat (own_fin s0 (own_nz s0 n 0 0 (own_g q1 p2))))), .val (.ref b3), .val (.int (Int32.ofNat (own_em (own_g q1 p2) s0 n 5).1))] [])) (fun tt_ kk_ => XS.ifNo X42.here hx rfl (hb hby at_336) rfl ((if0 _ _).trans (feq (by decide)).1) kk_) ?_
    refine Ends.to (T' := T42) (g' := (mkF m 341 #[.val (.long q1), .second, .val (.int p2), .val (.int p3), .val (.int p4), .val (.int p5), .val (.int (Int32.ofNat s0)), .val (.int (Int32.ofNat n)), .val (.int (1 : Int32)), .val (.ref b1), .val (.ref b2), .val (.int (Int32.ofNat (own_fin s0 (own_nz s0 n 0 0 (own_g q1 p2))))), .val (.ref b3), .val (.int (Int32.ofNat (own_em (own_g q1 p2) s0 n 5).1))] [(.ref b1)])) (fun tt_ kk_ => XS.aload X42.here hx rfl (hb hby at_339) rfl rfl kk_) ?_
    refine Ends.to (T' := T42) (g' := (mkF m 343 #[.val (.long q1), .second, .val (.int p2), .val (.int p3), .val (.int p4), .val (.int p5), .val (.int (Int32.ofNat s0)), .val (.int (Int32.ofNat n)), .val (.int (1 : Int32)), .val (.ref b1), .val (.ref b2), .val (.int (Int32.ofNat (own_fin s0 (own_nz s0 n 0 0 (own_g q1 p2))))), .val (.ref b3), .val (.int (Int32.ofNat (own_em (own_g q1 p2) s0 n 5).1))] [(.ref b2), (.ref b1)])) (fun tt_ kk_ => XS.aload X42.here hx rfl (hb hby at_341) rfl rfl kk_) ?_
    refine Ends.to (T' := T42) (g' := (mkF m 345 #[.val (.long q1), .second, .val (.int p2), .val (.int p3), .val (.int p4), .val (.int p5), .val (.int (Int32.ofNat s0)), .val (.int (Int32.ofNat n)), .val (.int (1 : Int32)), .val (.ref b1), .val (.ref b2), .val (.int (Int32.ofNat (own_fin s0 (own_nz s0 n 0 0 (own_g q1 p2))))), .val (.ref b3), .val (.int (Int32.ofNat (own_em (own_g q1 p2) s0 n 5).1))] [(.int (Int32.ofNat s0)), (.ref b2), (.ref b1)])) (fun tt_ kk_ => XS.iload X42.here hx rfl (hb hby at_343) rfl kk_) ?_
    refine Ends.to (T' := T42) (g' := (mkF m 347 #[.val (.long q1), .second, .val (.int p2), .val (.int p3), .val (.int p4), .val (.int p5), .val (.int (Int32.ofNat s0)), .val (.int (Int32.ofNat n)), .val (.int (1 : Int32)), .val (.ref b1), .val (.ref b2), .val (.int (Int32.ofNat (own_fin s0 (own_nz s0 n 0 0 (own_g q1 p2))))), .val (.ref b3), .val (.int (Int32.ofNat (own_em (own_g q1 p2) s0 n 5).1))] [(.int (Int32.ofNat n)), (.int (Int32.ofNat s0)), (.ref b2), (.ref b1)])) (fun tt_ kk_ => XS.iload X42.here hx rfl (hb hby at_345) rfl kk_) ?_
    refine Ends.to (T' := T42) (g' := (mkF m 348 #[.val (.long q1), .second, .val (.int p2), .val (.int p3), .val (.int p4), .val (.int p5), .val (.int (Int32.ofNat s0)), .val (.int (Int32.ofNat n)), .val (.int (1 : Int32)), .val (.ref b1), .val (.ref b2), .val (.int (Int32.ofNat (own_fin s0 (own_nz s0 n 0 0 (own_g q1 p2))))), .val (.ref b3), .val (.int (Int32.ofNat (own_em (own_g q1 p2) s0 n 5).1))] [(.int (0 : Int32)), (.int (Int32.ofNat n)), (.int (Int32.ofNat s0)), (.ref b2), (.ref b1)])) (fun tt_ kk_ => XS.iconst X42.here hx rfl (hb hby at_347) kk_) ?_
    obtain ⟨_, _, ⟨T43, L43, k43, n43⟩, -, X43, ⟨Lc43, hQ43, l43, y43, z43⟩, st43⟩ := Jvm.LawKit.callS X42 hx (y := (⟨"com/example/predicate/predicate/document/AttributeDeclarationNormalizePinLaw", "outside", "([B[BIII)Z"⟩ : MethodName)) hown (mvT hZ (hw _ (List.mem_of_getElem? (i := 19) rfl))) (mvT hZ (hw _ (List.mem_of_getElem? (i := 20) rfl))) (mvT hZ (hw _ (List.mem_of_getElem? (i := 3) rfl))) (mvT hZ (hw _ (List.mem_of_getElem? (i := 21) rfl))) (by decide) (backOf (W := 0) (rm6 l Z a0 hw [] b1 b2 s0 n 0 _ (own_g q1 p2) T37.heap n0 Zs (by decide) hsn (hm.2.2 0) B_b1 B_b2) hZ (hw _ (List.mem_of_getElem? (i := 21) rfl)) (hw _ (List.mem_of_getElem? (i := 3) rfl)) (by decide) (by decide)) (g := (mkF m 348 #[.val (.long q1), .second, .val (.int p2), .val (.int p3), .val (.int p4), .val (.int p5), .val (.int (Int32.ofNat s0)), .val (.int (Int32.ofNat n)), .val (.int (1 : Int32)), .val (.ref b1), .val (.ref b2), .val (.int (Int32.ofNat (own_fin s0 (own_nz s0 n 0 0 (own_g q1 p2))))), .val (.ref b3), .val (.int (Int32.ofNat (own_em (own_g q1 p2) s0 n 5).1))] [(.int (0 : Int32)), (.int (Int32.ofNat n)), (.int (Int32.ofNat s0)), (.ref b2), (.ref b1)])) rfl (by rw [hml]; rfl) (argsL := [(.ref b1), (.ref b2), (.int (Int32.ofNat s0)), (.int (Int32.ofNat n)), (.int (0 : Int32))]) (rest := []) (lenOf pd_6 rfl) rfl (by show 2 * 0 + _ ≤ _; exact Nat.le_of_eq rfl) (hb hby at_348) (fun _ _ => ⟨rfl, e42q, (by decide : 3 + 0 ≤ _), (by decide : 24 + 0 ≤ _)⟩)
    dsimp only [Pt.U, Pt.locs, Pt.cells, Pt.slots] at X43 l43 y43 z43 st43 hQ43
    subst l43 y43 z43
    obtain ⟨rfl, N43q, e43q⟩ := hQ43
    have N43 := Fr.app N42 N43q
    refine Ends.to (T' := T43) (g' := (mkF m 351 #[.val (.long q1), .second, .val (.int p2), .val (.int p3), .val (.int p4), .val (.int p5), .val (.int (Int32.ofNat s0)), .val (.int (Int32.ofNat n)), .val (.int (1 : Int32)), .val (.ref b1), .val (.ref b2), .val (.int (Int32.ofNat (own_fin s0 (own_nz s0 n 0 0 (own_g q1 p2))))), .val (.ref b3), .val (.int (Int32.ofNat (own_em (own_g q1 p2) s0 n 5).1))] [(.int (1 : Int32))])) (fun tt_ kk_ => st43 tt_ kk_) ?_
    refine Ends.to (T' := T43) (g' := (mkF m 354 #[.val (.long q1), .second, .val (.int p2), .val (.int p3), .val (.int p4), .val (.int p5), .val (.int (Int32.ofNat s0)), .val (.int (Int32.ofNat n)), .val (.int (1 : Int32)), .val (.ref b1), .val (.ref b2), .val (.int (Int32.ofNat (own_fin s0 (own_nz s0 n 0 0 (own_g q1 p2))))), .val (.ref b3), .val (.int (Int32.ofNat (own_em (own_g q1 p2) s0 n 5).1))] [])) (fun tt_ kk_ => XS.ifNo X43.here hx rfl (hb hby at_351) rfl ((if0 _ _).trans (feq (by decide)).1) kk_) ?_
    refine Ends.to (T' := T43) (g' := (mkF m 356 #[.val (.long q1), .second, .val (.int p2), .val (.int p3), .val (.int p4), .val (.int p5), .val (.int (Int32.ofNat s0)), .val (.int (Int32.ofNat n)), .val (.int (1 : Int32)), .val (.ref b1), .val (.ref b2), .val (.int (Int32.ofNat (own_fin s0 (own_nz s0 n 0 0 (own_g q1 p2))))), .val (.ref b3), .val (.int (Int32.ofNat (own_em (own_g q1 p2) s0 n 5).1))] [(.ref b1)])) (fun tt_ kk_ => XS.aload X43.here hx rfl (hb hby at_354) rfl rfl kk_) ?_
    refine Ends.to (T' := T43) (g' := (mkF m 358 #[.val (.long q1), .second, .val (.int p2), .val (.int p3), .val (.int p4), .val (.int p5), .val (.int (Int32.ofNat s0)), .val (.int (Int32.ofNat n)), .val (.int (1 : Int32)), .val (.ref b1), .val (.ref b2), .val (.int (Int32.ofNat (own_fin s0 (own_nz s0 n 0 0 (own_g q1 p2))))), .val (.ref b3), .val (.int (Int32.ofNat (own_em (own_g q1 p2) s0 n 5).1))] [(.ref b2), (.ref b1)])) (fun tt_ kk_ => XS.aload X43.here hx rfl (hb hby at_356) rfl rfl kk_) ?_
    refine Ends.to (T' := T43) (g' := (mkF m 360 #[.val (.long q1), .second, .val (.int p2), .val (.int p3), .val (.int p4), .val (.int p5), .val (.int (Int32.ofNat s0)), .val (.int (Int32.ofNat n)), .val (.int (1 : Int32)), .val (.ref b1), .val (.ref b2), .val (.int (Int32.ofNat (own_fin s0 (own_nz s0 n 0 0 (own_g q1 p2))))), .val (.ref b3), .val (.int (Int32.ofNat (own_em (own_g q1 p2) s0 n 5).1))] [(.int (Int32.ofNat s0)), (.ref b2), (.ref b1)])) (fun tt_ kk_ => XS.iload X43.here hx rfl (hb hby at_358) rfl kk_) ?_
    refine Ends.to (T' := T43) (g' := (mkF m 362 #[.val (.long q1), .second, .val (.int p2), .val (.int p3), .val (.int p4), .val (.int p5), .val (.int (Int32.ofNat s0)), .val (.int (Int32.ofNat n)), .val (.int (1 : Int32)), .val (.ref b1), .val (.ref b2), .val (.int (Int32.ofNat (own_fin s0 (own_nz s0 n 0 0 (own_g q1 p2))))), .val (.ref b3), .val (.int (Int32.ofNat (own_em (own_g q1 p2) s0 n 5).1))] [(.int (Int32.ofNat n)), (.int (Int32.ofNat s0)), (.ref b2), (.ref b1)])) (fun tt_ kk_ => XS.iload X43.here hx rfl (hb hby at_360) rfl kk_) ?_
    refine Ends.to (T' := T43) (g' := (mkF m 363 #[.val (.long q1), .second, .val (.int p2), .val (.int p3), .val (.int p4), .val (.int p5), .val (.int (Int32.ofNat s0)), .val (.int (Int32.ofNat n)), .val (.int (1 : Int32)), .val (.ref b1), .val (.ref b2), .val (.int (Int32.ofNat (own_fin s0 (own_nz s0 n 0 0 (own_g q1 p2))))), .val (.ref b3), .val (.int (Int32.ofNat (own_em (own_g q1 p2) s0 n 5).1))] [(.int (1 : Int32)), (.int (Int32.ofNat n)), (.int (Int32.ofNat s0)), (.ref b2), (.ref b1)])) (fun tt_ kk_ => XS.iconst X43.here hx rfl (hb hby at_362) kk_) ?_
    obtain ⟨_, _, ⟨T44, L44, k44, n44⟩, -, X44, ⟨Lc44, hQ44, l44, y44, z44⟩, st44⟩ := Jvm.LawKit.callS X43 hx (y := (⟨"com/example/predicate/predicate/document/AttributeDeclarationNormalizePinLaw", "outside", "([B[BIII)Z"⟩ : MethodName)) hown (mvT hZ (hw _ (List.mem_of_getElem? (i := 19) rfl))) (mvT hZ (hw _ (List.mem_of_getElem? (i := 20) rfl))) (mvT hZ (hw _ (List.mem_of_getElem? (i := 3) rfl))) (mvT hZ (hw _ (List.mem_of_getElem? (i := 21) rfl))) (by decide) (backOf (W := 0) (rm6 l Z a0 hw [] b1 b2 s0 n 1 _ (own_g q1 p2) T37.heap n0 Zs (by decide) hsn (hm.2.2 1) B_b1 B_b2) hZ (hw _ (List.mem_of_getElem? (i := 21) rfl)) (hw _ (List.mem_of_getElem? (i := 3) rfl)) (by decide) (by decide)) (g := (mkF m 363 #[.val (.long q1), .second, .val (.int p2), .val (.int p3), .val (.int p4), .val (.int p5), .val (.int (Int32.ofNat s0)), .val (.int (Int32.ofNat n)), .val (.int (1 : Int32)), .val (.ref b1), .val (.ref b2), .val (.int (Int32.ofNat (own_fin s0 (own_nz s0 n 0 0 (own_g q1 p2))))), .val (.ref b3), .val (.int (Int32.ofNat (own_em (own_g q1 p2) s0 n 5).1))] [(.int (1 : Int32)), (.int (Int32.ofNat n)), (.int (Int32.ofNat s0)), (.ref b2), (.ref b1)])) rfl (by rw [hml]; rfl) (argsL := [(.ref b1), (.ref b2), (.int (Int32.ofNat s0)), (.int (Int32.ofNat n)), (.int (1 : Int32))]) (rest := []) (lenOf pd_6 rfl) rfl (by show 2 * 0 + _ ≤ _; exact Nat.le_of_eq rfl) (hb hby at_363) (fun _ _ => ⟨rfl, e43q, (by decide : 3 + 0 ≤ _), (by decide : 24 + 0 ≤ _)⟩)
    dsimp only [Pt.U, Pt.locs, Pt.cells, Pt.slots] at X44 l44 y44 z44 st44 hQ44
    subst l44 y44 z44
    obtain ⟨rfl, N44q, e44q⟩ := hQ44
    have N44 := Fr.app N43 N44q
    refine Ends.to (T' := T44) (g' := (mkF m 366 #[.val (.long q1), .second, .val (.int p2), .val (.int p3), .val (.int p4), .val (.int p5), .val (.int (Int32.ofNat s0)), .val (.int (Int32.ofNat n)), .val (.int (1 : Int32)), .val (.ref b1), .val (.ref b2), .val (.int (Int32.ofNat (own_fin s0 (own_nz s0 n 0 0 (own_g q1 p2))))), .val (.ref b3), .val (.int (Int32.ofNat (own_em (own_g q1 p2) s0 n 5).1))] [(.int (1 : Int32))])) (fun tt_ kk_ => st44 tt_ kk_) ?_
    refine Ends.to (T' := T44) (g' := (mkF m 369 #[.val (.long q1), .second, .val (.int p2), .val (.int p3), .val (.int p4), .val (.int p5), .val (.int (Int32.ofNat s0)), .val (.int (Int32.ofNat n)), .val (.int (1 : Int32)), .val (.ref b1), .val (.ref b2), .val (.int (Int32.ofNat (own_fin s0 (own_nz s0 n 0 0 (own_g q1 p2))))), .val (.ref b3), .val (.int (Int32.ofNat (own_em (own_g q1 p2) s0 n 5).1))] [])) (fun tt_ kk_ => XS.ifNo X44.here hx rfl (hb hby at_366) rfl ((if0 _ _).trans (feq (by decide)).1) kk_) ?_
    refine Ends.to (T' := T44) (g' := (mkF m 371 #[.val (.long q1), .second, .val (.int p2), .val (.int p3), .val (.int p4), .val (.int p5), .val (.int (Int32.ofNat s0)), .val (.int (Int32.ofNat n)), .val (.int (1 : Int32)), .val (.ref b1), .val (.ref b2), .val (.int (Int32.ofNat (own_fin s0 (own_nz s0 n 0 0 (own_g q1 p2))))), .val (.ref b3), .val (.int (Int32.ofNat (own_em (own_g q1 p2) s0 n 5).1))] [(.ref b1)])) (fun tt_ kk_ => XS.aload X44.here hx rfl (hb hby at_369) rfl rfl kk_) ?_
    refine Ends.to (T' := T44) (g' := (mkF m 373 #[.val (.long q1), .second, .val (.int p2), .val (.int p3), .val (.int p4), .val (.int p5), .val (.int (Int32.ofNat s0)), .val (.int (Int32.ofNat n)), .val (.int (1 : Int32)), .val (.ref b1), .val (.ref b2), .val (.int (Int32.ofNat (own_fin s0 (own_nz s0 n 0 0 (own_g q1 p2))))), .val (.ref b3), .val (.int (Int32.ofNat (own_em (own_g q1 p2) s0 n 5).1))] [(.ref b2), (.ref b1)])) (fun tt_ kk_ => XS.aload X44.here hx rfl (hb hby at_371) rfl rfl kk_) ?_
    refine Ends.to (T' := T44) (g' := (mkF m 375 #[.val (.long q1), .second, .val (.int p2), .val (.int p3), .val (.int p4), .val (.int p5), .val (.int (Int32.ofNat s0)), .val (.int (Int32.ofNat n)), .val (.int (1 : Int32)), .val (.ref b1), .val (.ref b2), .val (.int (Int32.ofNat (own_fin s0 (own_nz s0 n 0 0 (own_g q1 p2))))), .val (.ref b3), .val (.int (Int32.ofNat (own_em (own_g q1 p2) s0 n 5).1))] [(.int (Int32.ofNat s0)), (.ref b2), (.ref b1)])) (fun tt_ kk_ => XS.iload X44.here hx rfl (hb hby at_373) rfl kk_) ?_
    refine Ends.to (T' := T44) (g' := (mkF m 377 #[.val (.long q1), .second, .val (.int p2), .val (.int p3), .val (.int p4), .val (.int p5), .val (.int (Int32.ofNat s0)), .val (.int (Int32.ofNat n)), .val (.int (1 : Int32)), .val (.ref b1), .val (.ref b2), .val (.int (Int32.ofNat (own_fin s0 (own_nz s0 n 0 0 (own_g q1 p2))))), .val (.ref b3), .val (.int (Int32.ofNat (own_em (own_g q1 p2) s0 n 5).1))] [(.int (Int32.ofNat n)), (.int (Int32.ofNat s0)), (.ref b2), (.ref b1)])) (fun tt_ kk_ => XS.iload X44.here hx rfl (hb hby at_375) rfl kk_) ?_
    refine Ends.to (T' := T44) (g' := (mkF m 378 #[.val (.long q1), .second, .val (.int p2), .val (.int p3), .val (.int p4), .val (.int p5), .val (.int (Int32.ofNat s0)), .val (.int (Int32.ofNat n)), .val (.int (1 : Int32)), .val (.ref b1), .val (.ref b2), .val (.int (Int32.ofNat (own_fin s0 (own_nz s0 n 0 0 (own_g q1 p2))))), .val (.ref b3), .val (.int (Int32.ofNat (own_em (own_g q1 p2) s0 n 5).1))] [(.int (2 : Int32)), (.int (Int32.ofNat n)), (.int (Int32.ofNat s0)), (.ref b2), (.ref b1)])) (fun tt_ kk_ => XS.iconst X44.here hx rfl (hb hby at_377) kk_) ?_
    obtain ⟨_, _, ⟨T45, L45, k45, n45⟩, -, X45, ⟨Lc45, hQ45, l45, y45, z45⟩, st45⟩ := Jvm.LawKit.callS X44 hx (y := (⟨"com/example/predicate/predicate/document/AttributeDeclarationNormalizePinLaw", "outside", "([B[BIII)Z"⟩ : MethodName)) hown (mvT hZ (hw _ (List.mem_of_getElem? (i := 19) rfl))) (mvT hZ (hw _ (List.mem_of_getElem? (i := 20) rfl))) (mvT hZ (hw _ (List.mem_of_getElem? (i := 3) rfl))) (mvT hZ (hw _ (List.mem_of_getElem? (i := 21) rfl))) (by decide) (backOf (W := 0) (rm6 l Z a0 hw [] b1 b2 s0 n 2 _ (own_g q1 p2) T37.heap n0 Zs (by decide) hsn (hm.2.2 2) B_b1 B_b2) hZ (hw _ (List.mem_of_getElem? (i := 21) rfl)) (hw _ (List.mem_of_getElem? (i := 3) rfl)) (by decide) (by decide)) (g := (mkF m 378 #[.val (.long q1), .second, .val (.int p2), .val (.int p3), .val (.int p4), .val (.int p5), .val (.int (Int32.ofNat s0)), .val (.int (Int32.ofNat n)), .val (.int (1 : Int32)), .val (.ref b1), .val (.ref b2), .val (.int (Int32.ofNat (own_fin s0 (own_nz s0 n 0 0 (own_g q1 p2))))), .val (.ref b3), .val (.int (Int32.ofNat (own_em (own_g q1 p2) s0 n 5).1))] [(.int (2 : Int32)), (.int (Int32.ofNat n)), (.int (Int32.ofNat s0)), (.ref b2), (.ref b1)])) rfl (by rw [hml]; rfl) (argsL := [(.ref b1), (.ref b2), (.int (Int32.ofNat s0)), (.int (Int32.ofNat n)), (.int (2 : Int32))]) (rest := []) (lenOf pd_6 rfl) rfl (by show 2 * 0 + _ ≤ _; exact Nat.le_of_eq rfl) (hb hby at_378) (fun _ _ => ⟨rfl, e44q, (by decide : 3 + 0 ≤ _), (by decide : 24 + 0 ≤ _)⟩)
    dsimp only [Pt.U, Pt.locs, Pt.cells, Pt.slots] at X45 l45 y45 z45 st45 hQ45
    subst l45 y45 z45
    obtain ⟨rfl, N45q, e45q⟩ := hQ45
    have N45 := Fr.app N44 N45q
    refine Ends.to (T' := T45) (g' := (mkF m 381 #[.val (.long q1), .second, .val (.int p2), .val (.int p3), .val (.int p4), .val (.int p5), .val (.int (Int32.ofNat s0)), .val (.int (Int32.ofNat n)), .val (.int (1 : Int32)), .val (.ref b1), .val (.ref b2), .val (.int (Int32.ofNat (own_fin s0 (own_nz s0 n 0 0 (own_g q1 p2))))), .val (.ref b3), .val (.int (Int32.ofNat (own_em (own_g q1 p2) s0 n 5).1))] [(.int (1 : Int32))])) (fun tt_ kk_ => st45 tt_ kk_) ?_
    refine Ends.to (T' := T45) (g' := (mkF m 384 #[.val (.long q1), .second, .val (.int p2), .val (.int p3), .val (.int p4), .val (.int p5), .val (.int (Int32.ofNat s0)), .val (.int (Int32.ofNat n)), .val (.int (1 : Int32)), .val (.ref b1), .val (.ref b2), .val (.int (Int32.ofNat (own_fin s0 (own_nz s0 n 0 0 (own_g q1 p2))))), .val (.ref b3), .val (.int (Int32.ofNat (own_em (own_g q1 p2) s0 n 5).1))] [])) (fun tt_ kk_ => XS.ifNo X45.here hx rfl (hb hby at_381) rfl ((if0 _ _).trans (feq (by decide)).1) kk_) ?_
    refine Ends.to (T' := T45) (g' := (mkF m 386 #[.val (.long q1), .second, .val (.int p2), .val (.int p3), .val (.int p4), .val (.int p5), .val (.int (Int32.ofNat s0)), .val (.int (Int32.ofNat n)), .val (.int (1 : Int32)), .val (.ref b1), .val (.ref b2), .val (.int (Int32.ofNat (own_fin s0 (own_nz s0 n 0 0 (own_g q1 p2))))), .val (.ref b3), .val (.int (Int32.ofNat (own_em (own_g q1 p2) s0 n 5).1))] [(.ref b1)])) (fun tt_ kk_ => XS.aload X45.here hx rfl (hb hby at_384) rfl rfl kk_) ?_
    refine Ends.to (T' := T45) (g' := (mkF m 388 #[.val (.long q1), .second, .val (.int p2), .val (.int p3), .val (.int p4), .val (.int p5), .val (.int (Int32.ofNat s0)), .val (.int (Int32.ofNat n)), .val (.int (1 : Int32)), .val (.ref b1), .val (.ref b2), .val (.int (Int32.ofNat (own_fin s0 (own_nz s0 n 0 0 (own_g q1 p2))))), .val (.ref b3), .val (.int (Int32.ofNat (own_em (own_g q1 p2) s0 n 5).1))] [(.ref b2), (.ref b1)])) (fun tt_ kk_ => XS.aload X45.here hx rfl (hb hby at_386) rfl rfl kk_) ?_
    refine Ends.to (T' := T45) (g' := (mkF m 390 #[.val (.long q1), .second, .val (.int p2), .val (.int p3), .val (.int p4), .val (.int p5), .val (.int (Int32.ofNat s0)), .val (.int (Int32.ofNat n)), .val (.int (1 : Int32)), .val (.ref b1), .val (.ref b2), .val (.int (Int32.ofNat (own_fin s0 (own_nz s0 n 0 0 (own_g q1 p2))))), .val (.ref b3), .val (.int (Int32.ofNat (own_em (own_g q1 p2) s0 n 5).1))] [(.int (Int32.ofNat s0)), (.ref b2), (.ref b1)])) (fun tt_ kk_ => XS.iload X45.here hx rfl (hb hby at_388) rfl kk_) ?_
    refine Ends.to (T' := T45) (g' := (mkF m 392 #[.val (.long q1), .second, .val (.int p2), .val (.int p3), .val (.int p4), .val (.int p5), .val (.int (Int32.ofNat s0)), .val (.int (Int32.ofNat n)), .val (.int (1 : Int32)), .val (.ref b1), .val (.ref b2), .val (.int (Int32.ofNat (own_fin s0 (own_nz s0 n 0 0 (own_g q1 p2))))), .val (.ref b3), .val (.int (Int32.ofNat (own_em (own_g q1 p2) s0 n 5).1))] [(.int (Int32.ofNat n)), (.int (Int32.ofNat s0)), (.ref b2), (.ref b1)])) (fun tt_ kk_ => XS.iload X45.here hx rfl (hb hby at_390) rfl kk_) ?_
    refine Ends.to (T' := T45) (g' := (mkF m 393 #[.val (.long q1), .second, .val (.int p2), .val (.int p3), .val (.int p4), .val (.int p5), .val (.int (Int32.ofNat s0)), .val (.int (Int32.ofNat n)), .val (.int (1 : Int32)), .val (.ref b1), .val (.ref b2), .val (.int (Int32.ofNat (own_fin s0 (own_nz s0 n 0 0 (own_g q1 p2))))), .val (.ref b3), .val (.int (Int32.ofNat (own_em (own_g q1 p2) s0 n 5).1))] [(.int (3 : Int32)), (.int (Int32.ofNat n)), (.int (Int32.ofNat s0)), (.ref b2), (.ref b1)])) (fun tt_ kk_ => XS.iconst X45.here hx rfl (hb hby at_392) kk_) ?_
    obtain ⟨_, _, ⟨T46, L46, k46, n46⟩, -, X46, ⟨Lc46, hQ46, l46, y46, z46⟩, st46⟩ := Jvm.LawKit.callS X45 hx (y := (⟨"com/example/predicate/predicate/document/AttributeDeclarationNormalizePinLaw", "outside", "([B[BIII)Z"⟩ : MethodName)) hown (mvT hZ (hw _ (List.mem_of_getElem? (i := 19) rfl))) (mvT hZ (hw _ (List.mem_of_getElem? (i := 20) rfl))) (mvT hZ (hw _ (List.mem_of_getElem? (i := 3) rfl))) (mvT hZ (hw _ (List.mem_of_getElem? (i := 21) rfl))) (by decide) (backOf (W := 0) (rm6 l Z a0 hw [] b1 b2 s0 n 3 _ (own_g q1 p2) T37.heap n0 Zs (by decide) hsn (hm.2.2 3) B_b1 B_b2) hZ (hw _ (List.mem_of_getElem? (i := 21) rfl)) (hw _ (List.mem_of_getElem? (i := 3) rfl)) (by decide) (by decide)) (g := (mkF m 393 #[.val (.long q1), .second, .val (.int p2), .val (.int p3), .val (.int p4), .val (.int p5), .val (.int (Int32.ofNat s0)), .val (.int (Int32.ofNat n)), .val (.int (1 : Int32)), .val (.ref b1), .val (.ref b2), .val (.int (Int32.ofNat (own_fin s0 (own_nz s0 n 0 0 (own_g q1 p2))))), .val (.ref b3), .val (.int (Int32.ofNat (own_em (own_g q1 p2) s0 n 5).1))] [(.int (3 : Int32)), (.int (Int32.ofNat n)), (.int (Int32.ofNat s0)), (.ref b2), (.ref b1)])) rfl (by rw [hml]; rfl) (argsL := [(.ref b1), (.ref b2), (.int (Int32.ofNat s0)), (.int (Int32.ofNat n)), (.int (3 : Int32))]) (rest := []) (lenOf pd_6 rfl) rfl (by show 2 * 0 + _ ≤ _; exact Nat.le_of_eq rfl) (hb hby at_393) (fun _ _ => ⟨rfl, e45q, (by decide : 3 + 0 ≤ _), (by decide : 24 + 0 ≤ _)⟩)
    dsimp only [Pt.U, Pt.locs, Pt.cells, Pt.slots] at X46 l46 y46 z46 st46 hQ46
    subst l46 y46 z46
    obtain ⟨rfl, N46q, e46q⟩ := hQ46
    have N46 := Fr.app N45 N46q
    refine Ends.to (T' := T46) (g' := (mkF m 396 #[.val (.long q1), .second, .val (.int p2), .val (.int p3), .val (.int p4), .val (.int p5), .val (.int (Int32.ofNat s0)), .val (.int (Int32.ofNat n)), .val (.int (1 : Int32)), .val (.ref b1), .val (.ref b2), .val (.int (Int32.ofNat (own_fin s0 (own_nz s0 n 0 0 (own_g q1 p2))))), .val (.ref b3), .val (.int (Int32.ofNat (own_em (own_g q1 p2) s0 n 5).1))] [(.int (1 : Int32))])) (fun tt_ kk_ => st46 tt_ kk_) ?_
    refine Ends.to (T' := T46) (g' := (mkF m 399 #[.val (.long q1), .second, .val (.int p2), .val (.int p3), .val (.int p4), .val (.int p5), .val (.int (Int32.ofNat s0)), .val (.int (Int32.ofNat n)), .val (.int (1 : Int32)), .val (.ref b1), .val (.ref b2), .val (.int (Int32.ofNat (own_fin s0 (own_nz s0 n 0 0 (own_g q1 p2))))), .val (.ref b3), .val (.int (Int32.ofNat (own_em (own_g q1 p2) s0 n 5).1))] [])) (fun tt_ kk_ => XS.ifNo X46.here hx rfl (hb hby at_396) rfl ((if0 _ _).trans (feq (by decide)).1) kk_) ?_
    refine Ends.to (T' := T46) (g' := (mkF m 401 #[.val (.long q1), .second, .val (.int p2), .val (.int p3), .val (.int p4), .val (.int p5), .val (.int (Int32.ofNat s0)), .val (.int (Int32.ofNat n)), .val (.int (1 : Int32)), .val (.ref b1), .val (.ref b2), .val (.int (Int32.ofNat (own_fin s0 (own_nz s0 n 0 0 (own_g q1 p2))))), .val (.ref b3), .val (.int (Int32.ofNat (own_em (own_g q1 p2) s0 n 5).1))] [(.ref b1)])) (fun tt_ kk_ => XS.aload X46.here hx rfl (hb hby at_399) rfl rfl kk_) ?_
    refine Ends.to (T' := T46) (g' := (mkF m 403 #[.val (.long q1), .second, .val (.int p2), .val (.int p3), .val (.int p4), .val (.int p5), .val (.int (Int32.ofNat s0)), .val (.int (Int32.ofNat n)), .val (.int (1 : Int32)), .val (.ref b1), .val (.ref b2), .val (.int (Int32.ofNat (own_fin s0 (own_nz s0 n 0 0 (own_g q1 p2))))), .val (.ref b3), .val (.int (Int32.ofNat (own_em (own_g q1 p2) s0 n 5).1))] [(.ref b2), (.ref b1)])) (fun tt_ kk_ => XS.aload X46.here hx rfl (hb hby at_401) rfl rfl kk_) ?_
    refine Ends.to (T' := T46) (g' := (mkF m 405 #[.val (.long q1), .second, .val (.int p2), .val (.int p3), .val (.int p4), .val (.int p5), .val (.int (Int32.ofNat s0)), .val (.int (Int32.ofNat n)), .val (.int (1 : Int32)), .val (.ref b1), .val (.ref b2), .val (.int (Int32.ofNat (own_fin s0 (own_nz s0 n 0 0 (own_g q1 p2))))), .val (.ref b3), .val (.int (Int32.ofNat (own_em (own_g q1 p2) s0 n 5).1))] [(.int (Int32.ofNat s0)), (.ref b2), (.ref b1)])) (fun tt_ kk_ => XS.iload X46.here hx rfl (hb hby at_403) rfl kk_) ?_
    refine Ends.to (T' := T46) (g' := (mkF m 407 #[.val (.long q1), .second, .val (.int p2), .val (.int p3), .val (.int p4), .val (.int p5), .val (.int (Int32.ofNat s0)), .val (.int (Int32.ofNat n)), .val (.int (1 : Int32)), .val (.ref b1), .val (.ref b2), .val (.int (Int32.ofNat (own_fin s0 (own_nz s0 n 0 0 (own_g q1 p2))))), .val (.ref b3), .val (.int (Int32.ofNat (own_em (own_g q1 p2) s0 n 5).1))] [(.int (Int32.ofNat n)), (.int (Int32.ofNat s0)), (.ref b2), (.ref b1)])) (fun tt_ kk_ => XS.iload X46.here hx rfl (hb hby at_405) rfl kk_) ?_
    refine Ends.to (T' := T46) (g' := (mkF m 408 #[.val (.long q1), .second, .val (.int p2), .val (.int p3), .val (.int p4), .val (.int p5), .val (.int (Int32.ofNat s0)), .val (.int (Int32.ofNat n)), .val (.int (1 : Int32)), .val (.ref b1), .val (.ref b2), .val (.int (Int32.ofNat (own_fin s0 (own_nz s0 n 0 0 (own_g q1 p2))))), .val (.ref b3), .val (.int (Int32.ofNat (own_em (own_g q1 p2) s0 n 5).1))] [(.int (4 : Int32)), (.int (Int32.ofNat n)), (.int (Int32.ofNat s0)), (.ref b2), (.ref b1)])) (fun tt_ kk_ => XS.iconst X46.here hx rfl (hb hby at_407) kk_) ?_
    obtain ⟨_, _, ⟨T47, L47, k47, n47⟩, -, X47, ⟨Lc47, hQ47, l47, y47, z47⟩, st47⟩ := Jvm.LawKit.callS X46 hx (y := (⟨"com/example/predicate/predicate/document/AttributeDeclarationNormalizePinLaw", "outside", "([B[BIII)Z"⟩ : MethodName)) hown (mvT hZ (hw _ (List.mem_of_getElem? (i := 19) rfl))) (mvT hZ (hw _ (List.mem_of_getElem? (i := 20) rfl))) (mvT hZ (hw _ (List.mem_of_getElem? (i := 3) rfl))) (mvT hZ (hw _ (List.mem_of_getElem? (i := 21) rfl))) (by decide) (backOf (W := 0) (rm6 l Z a0 hw [] b1 b2 s0 n 4 _ (own_g q1 p2) T37.heap n0 Zs (by decide) hsn (hm.2.2 4) B_b1 B_b2) hZ (hw _ (List.mem_of_getElem? (i := 21) rfl)) (hw _ (List.mem_of_getElem? (i := 3) rfl)) (by decide) (by decide)) (g := (mkF m 408 #[.val (.long q1), .second, .val (.int p2), .val (.int p3), .val (.int p4), .val (.int p5), .val (.int (Int32.ofNat s0)), .val (.int (Int32.ofNat n)), .val (.int (1 : Int32)), .val (.ref b1), .val (.ref b2), .val (.int (Int32.ofNat (own_fin s0 (own_nz s0 n 0 0 (own_g q1 p2))))), .val (.ref b3), .val (.int (Int32.ofNat (own_em (own_g q1 p2) s0 n 5).1))] [(.int (4 : Int32)), (.int (Int32.ofNat n)), (.int (Int32.ofNat s0)), (.ref b2), (.ref b1)])) rfl (by rw [hml]; rfl) (argsL := [(.ref b1), (.ref b2), (.int (Int32.ofNat s0)), (.int (Int32.ofNat n)), (.int (4 : Int32))]) (rest := []) (lenOf pd_6 rfl) rfl (by show 2 * 0 + _ ≤ _; exact Nat.le_of_eq rfl) (hb hby at_408) (fun _ _ => ⟨rfl, e46q, (by decide : 3 + 0 ≤ _), (by decide : 24 + 0 ≤ _)⟩)
    dsimp only [Pt.U, Pt.locs, Pt.cells, Pt.slots] at X47 l47 y47 z47 st47 hQ47
    subst l47 y47 z47
    obtain ⟨rfl, N47q, e47q⟩ := hQ47
    have N47 := Fr.app N46 N47q
    refine Ends.to (T' := T47) (g' := (mkF m 411 #[.val (.long q1), .second, .val (.int p2), .val (.int p3), .val (.int p4), .val (.int p5), .val (.int (Int32.ofNat s0)), .val (.int (Int32.ofNat n)), .val (.int (1 : Int32)), .val (.ref b1), .val (.ref b2), .val (.int (Int32.ofNat (own_fin s0 (own_nz s0 n 0 0 (own_g q1 p2))))), .val (.ref b3), .val (.int (Int32.ofNat (own_em (own_g q1 p2) s0 n 5).1))] [(.int (1 : Int32))])) (fun tt_ kk_ => st47 tt_ kk_) ?_
    refine Ends.to (T' := T47) (g' := (mkF m 414 #[.val (.long q1), .second, .val (.int p2), .val (.int p3), .val (.int p4), .val (.int p5), .val (.int (Int32.ofNat s0)), .val (.int (Int32.ofNat n)), .val (.int (1 : Int32)), .val (.ref b1), .val (.ref b2), .val (.int (Int32.ofNat (own_fin s0 (own_nz s0 n 0 0 (own_g q1 p2))))), .val (.ref b3), .val (.int (Int32.ofNat (own_em (own_g q1 p2) s0 n 5).1))] [])) (fun tt_ kk_ => XS.ifNo X47.here hx rfl (hb hby at_411) rfl ((if0 _ _).trans (feq (by decide)).1) kk_) ?_
    refine Ends.to (T' := T47) (g' := (mkF m 416 #[.val (.long q1), .second, .val (.int p2), .val (.int p3), .val (.int p4), .val (.int p5), .val (.int (Int32.ofNat s0)), .val (.int (Int32.ofNat n)), .val (.int (1 : Int32)), .val (.ref b1), .val (.ref b2), .val (.int (Int32.ofNat (own_fin s0 (own_nz s0 n 0 0 (own_g q1 p2))))), .val (.ref b3), .val (.int (Int32.ofNat (own_em (own_g q1 p2) s0 n 5).1))] [(.ref b1)])) (fun tt_ kk_ => XS.aload X47.here hx rfl (hb hby at_414) rfl rfl kk_) ?_
    refine Ends.to (T' := T47) (g' := (mkF m 418 #[.val (.long q1), .second, .val (.int p2), .val (.int p3), .val (.int p4), .val (.int p5), .val (.int (Int32.ofNat s0)), .val (.int (Int32.ofNat n)), .val (.int (1 : Int32)), .val (.ref b1), .val (.ref b2), .val (.int (Int32.ofNat (own_fin s0 (own_nz s0 n 0 0 (own_g q1 p2))))), .val (.ref b3), .val (.int (Int32.ofNat (own_em (own_g q1 p2) s0 n 5).1))] [(.ref b2), (.ref b1)])) (fun tt_ kk_ => XS.aload X47.here hx rfl (hb hby at_416) rfl rfl kk_) ?_
    refine Ends.to (T' := T47) (g' := (mkF m 420 #[.val (.long q1), .second, .val (.int p2), .val (.int p3), .val (.int p4), .val (.int p5), .val (.int (Int32.ofNat s0)), .val (.int (Int32.ofNat n)), .val (.int (1 : Int32)), .val (.ref b1), .val (.ref b2), .val (.int (Int32.ofNat (own_fin s0 (own_nz s0 n 0 0 (own_g q1 p2))))), .val (.ref b3), .val (.int (Int32.ofNat (own_em (own_g q1 p2) s0 n 5).1))] [(.int (Int32.ofNat s0)), (.ref b2), (.ref b1)])) (fun tt_ kk_ => XS.iload X47.here hx rfl (hb hby at_418) rfl kk_) ?_
    refine Ends.to (T' := T47) (g' := (mkF m 422 #[.val (.long q1), .second, .val (.int p2), .val (.int p3), .val (.int p4), .val (.int p5), .val (.int (Int32.ofNat s0)), .val (.int (Int32.ofNat n)), .val (.int (1 : Int32)), .val (.ref b1), .val (.ref b2), .val (.int (Int32.ofNat (own_fin s0 (own_nz s0 n 0 0 (own_g q1 p2))))), .val (.ref b3), .val (.int (Int32.ofNat (own_em (own_g q1 p2) s0 n 5).1))] [(.int (Int32.ofNat n)), (.int (Int32.ofNat s0)), (.ref b2), (.ref b1)])) (fun tt_ kk_ => XS.iload X47.here hx rfl (hb hby at_420) rfl kk_) ?_
    refine Ends.to (T' := T47) (g' := (mkF m 423 #[.val (.long q1), .second, .val (.int p2), .val (.int p3), .val (.int p4), .val (.int p5), .val (.int (Int32.ofNat s0)), .val (.int (Int32.ofNat n)), .val (.int (1 : Int32)), .val (.ref b1), .val (.ref b2), .val (.int (Int32.ofNat (own_fin s0 (own_nz s0 n 0 0 (own_g q1 p2))))), .val (.ref b3), .val (.int (Int32.ofNat (own_em (own_g q1 p2) s0 n 5).1))] [(.int (5 : Int32)), (.int (Int32.ofNat n)), (.int (Int32.ofNat s0)), (.ref b2), (.ref b1)])) (fun tt_ kk_ => XS.iconst X47.here hx rfl (hb hby at_422) kk_) ?_
    obtain ⟨_, _, ⟨T48, L48, k48, n48⟩, -, X48, ⟨Lc48, hQ48, l48, y48, z48⟩, st48⟩ := Jvm.LawKit.callS X47 hx (y := (⟨"com/example/predicate/predicate/document/AttributeDeclarationNormalizePinLaw", "outside", "([B[BIII)Z"⟩ : MethodName)) hown (mvT hZ (hw _ (List.mem_of_getElem? (i := 19) rfl))) (mvT hZ (hw _ (List.mem_of_getElem? (i := 20) rfl))) (mvT hZ (hw _ (List.mem_of_getElem? (i := 3) rfl))) (mvT hZ (hw _ (List.mem_of_getElem? (i := 21) rfl))) (by decide) (backOf (W := 0) (rm6 l Z a0 hw [] b1 b2 s0 n 5 _ (own_g q1 p2) T37.heap n0 Zs (by decide) hsn (hm.2.2 5) B_b1 B_b2) hZ (hw _ (List.mem_of_getElem? (i := 21) rfl)) (hw _ (List.mem_of_getElem? (i := 3) rfl)) (by decide) (by decide)) (g := (mkF m 423 #[.val (.long q1), .second, .val (.int p2), .val (.int p3), .val (.int p4), .val (.int p5), .val (.int (Int32.ofNat s0)), .val (.int (Int32.ofNat n)), .val (.int (1 : Int32)), .val (.ref b1), .val (.ref b2), .val (.int (Int32.ofNat (own_fin s0 (own_nz s0 n 0 0 (own_g q1 p2))))), .val (.ref b3), .val (.int (Int32.ofNat (own_em (own_g q1 p2) s0 n 5).1))] [(.int (5 : Int32)), (.int (Int32.ofNat n)), (.int (Int32.ofNat s0)), (.ref b2), (.ref b1)])) rfl (by rw [hml]; rfl) (argsL := [(.ref b1), (.ref b2), (.int (Int32.ofNat s0)), (.int (Int32.ofNat n)), (.int (5 : Int32))]) (rest := []) (lenOf pd_6 rfl) rfl (by show 2 * 0 + _ ≤ _; exact Nat.le_of_eq rfl) (hb hby at_423) (fun _ _ => ⟨rfl, e47q, (by decide : 3 + 0 ≤ _), (by decide : 24 + 0 ≤ _)⟩)
    dsimp only [Pt.U, Pt.locs, Pt.cells, Pt.slots] at X48 l48 y48 z48 st48 hQ48
    subst l48 y48 z48
    obtain ⟨rfl, N48q, e48q⟩ := hQ48
    have N48 := Fr.app N47 N48q
    refine Ends.to (T' := T48) (g' := (mkF m 426 #[.val (.long q1), .second, .val (.int p2), .val (.int p3), .val (.int p4), .val (.int p5), .val (.int (Int32.ofNat s0)), .val (.int (Int32.ofNat n)), .val (.int (1 : Int32)), .val (.ref b1), .val (.ref b2), .val (.int (Int32.ofNat (own_fin s0 (own_nz s0 n 0 0 (own_g q1 p2))))), .val (.ref b3), .val (.int (Int32.ofNat (own_em (own_g q1 p2) s0 n 5).1))] [(.int (1 : Int32))])) (fun tt_ kk_ => st48 tt_ kk_) ?_
    refine Ends.to (T' := T48) (g' := (mkF m 429 #[.val (.long q1), .second, .val (.int p2), .val (.int p3), .val (.int p4), .val (.int p5), .val (.int (Int32.ofNat s0)), .val (.int (Int32.ofNat n)), .val (.int (1 : Int32)), .val (.ref b1), .val (.ref b2), .val (.int (Int32.ofNat (own_fin s0 (own_nz s0 n 0 0 (own_g q1 p2))))), .val (.ref b3), .val (.int (Int32.ofNat (own_em (own_g q1 p2) s0 n 5).1))] [])) (fun tt_ kk_ => XS.ifNo X48.here hx rfl (hb hby at_426) rfl ((if0 _ _).trans (feq (by decide)).1) kk_) ?_
    refine Ends.to (T' := T48) (g' := (mkF m 431 #[.val (.long q1), .second, .val (.int p2), .val (.int p3), .val (.int p4), .val (.int p5), .val (.int (Int32.ofNat s0)), .val (.int (Int32.ofNat n)), .val (.int (1 : Int32)), .val (.ref b1), .val (.ref b2), .val (.int (Int32.ofNat (own_fin s0 (own_nz s0 n 0 0 (own_g q1 p2))))), .val (.ref b3), .val (.int (Int32.ofNat (own_em (own_g q1 p2) s0 n 5).1))] [(.ref b1)])) (fun tt_ kk_ => XS.aload X48.here hx rfl (hb hby at_429) rfl rfl kk_) ?_
    refine Ends.to (T' := T48) (g' := (mkF m 433 #[.val (.long q1), .second, .val (.int p2), .val (.int p3), .val (.int p4), .val (.int p5), .val (.int (Int32.ofNat s0)), .val (.int (Int32.ofNat n)), .val (.int (1 : Int32)), .val (.ref b1), .val (.ref b2), .val (.int (Int32.ofNat (own_fin s0 (own_nz s0 n 0 0 (own_g q1 p2))))), .val (.ref b3), .val (.int (Int32.ofNat (own_em (own_g q1 p2) s0 n 5).1))] [(.ref b2), (.ref b1)])) (fun tt_ kk_ => XS.aload X48.here hx rfl (hb hby at_431) rfl rfl kk_) ?_
    refine Ends.to (T' := T48) (g' := (mkF m 435 #[.val (.long q1), .second, .val (.int p2), .val (.int p3), .val (.int p4), .val (.int p5), .val (.int (Int32.ofNat s0)), .val (.int (Int32.ofNat n)), .val (.int (1 : Int32)), .val (.ref b1), .val (.ref b2), .val (.int (Int32.ofNat (own_fin s0 (own_nz s0 n 0 0 (own_g q1 p2))))), .val (.ref b3), .val (.int (Int32.ofNat (own_em (own_g q1 p2) s0 n 5).1))] [(.int (Int32.ofNat s0)), (.ref b2), (.ref b1)])) (fun tt_ kk_ => XS.iload X48.here hx rfl (hb hby at_433) rfl kk_) ?_
    refine Ends.to (T' := T48) (g' := (mkF m 437 #[.val (.long q1), .second, .val (.int p2), .val (.int p3), .val (.int p4), .val (.int p5), .val (.int (Int32.ofNat s0)), .val (.int (Int32.ofNat n)), .val (.int (1 : Int32)), .val (.ref b1), .val (.ref b2), .val (.int (Int32.ofNat (own_fin s0 (own_nz s0 n 0 0 (own_g q1 p2))))), .val (.ref b3), .val (.int (Int32.ofNat (own_em (own_g q1 p2) s0 n 5).1))] [(.int (Int32.ofNat n)), (.int (Int32.ofNat s0)), (.ref b2), (.ref b1)])) (fun tt_ kk_ => XS.iload X48.here hx rfl (hb hby at_435) rfl kk_) ?_
    refine Ends.to (T' := T48) (g' := (mkF m 439 #[.val (.long q1), .second, .val (.int p2), .val (.int p3), .val (.int p4), .val (.int p5), .val (.int (Int32.ofNat s0)), .val (.int (Int32.ofNat n)), .val (.int (1 : Int32)), .val (.ref b1), .val (.ref b2), .val (.int (Int32.ofNat (own_fin s0 (own_nz s0 n 0 0 (own_g q1 p2))))), .val (.ref b3), .val (.int (Int32.ofNat (own_em (own_g q1 p2) s0 n 5).1))] [(.int (6 : Int32)), (.int (Int32.ofNat n)), (.int (Int32.ofNat s0)), (.ref b2), (.ref b1)])) (fun tt_ kk_ => XS.bipush X48.here hx rfl (hb hby at_437) kk_) ?_
    obtain ⟨_, _, ⟨T49, L49, k49, n49⟩, -, X49, ⟨Lc49, hQ49, l49, y49, z49⟩, st49⟩ := Jvm.LawKit.callS X48 hx (y := (⟨"com/example/predicate/predicate/document/AttributeDeclarationNormalizePinLaw", "outside", "([B[BIII)Z"⟩ : MethodName)) hown (mvT hZ (hw _ (List.mem_of_getElem? (i := 19) rfl))) (mvT hZ (hw _ (List.mem_of_getElem? (i := 20) rfl))) (mvT hZ (hw _ (List.mem_of_getElem? (i := 3) rfl))) (mvT hZ (hw _ (List.mem_of_getElem? (i := 21) rfl))) (by decide) (backOf (W := 0) (rm6 l Z a0 hw [] b1 b2 s0 n 6 _ (own_g q1 p2) T37.heap n0 Zs (by decide) hsn (hm.2.2 6) B_b1 B_b2) hZ (hw _ (List.mem_of_getElem? (i := 21) rfl)) (hw _ (List.mem_of_getElem? (i := 3) rfl)) (by decide) (by decide)) (g := (mkF m 439 #[.val (.long q1), .second, .val (.int p2), .val (.int p3), .val (.int p4), .val (.int p5), .val (.int (Int32.ofNat s0)), .val (.int (Int32.ofNat n)), .val (.int (1 : Int32)), .val (.ref b1), .val (.ref b2), .val (.int (Int32.ofNat (own_fin s0 (own_nz s0 n 0 0 (own_g q1 p2))))), .val (.ref b3), .val (.int (Int32.ofNat (own_em (own_g q1 p2) s0 n 5).1))] [(.int (6 : Int32)), (.int (Int32.ofNat n)), (.int (Int32.ofNat s0)), (.ref b2), (.ref b1)])) rfl (by rw [hml]; rfl) (argsL := [(.ref b1), (.ref b2), (.int (Int32.ofNat s0)), (.int (Int32.ofNat n)), (.int (6 : Int32))]) (rest := []) (lenOf pd_6 rfl) rfl (by show 2 * 0 + _ ≤ _; exact Nat.le_of_eq rfl) (hb hby at_439) (fun _ _ => ⟨rfl, e48q, (by decide : 3 + 0 ≤ _), (by decide : 24 + 0 ≤ _)⟩)
    dsimp only [Pt.U, Pt.locs, Pt.cells, Pt.slots] at X49 l49 y49 z49 st49 hQ49
    subst l49 y49 z49
    obtain ⟨rfl, N49q, e49q⟩ := hQ49
    have N49 := Fr.app N48 N49q
    refine Ends.to (T' := T49) (g' := (mkF m 442 #[.val (.long q1), .second, .val (.int p2), .val (.int p3), .val (.int p4), .val (.int p5), .val (.int (Int32.ofNat s0)), .val (.int (Int32.ofNat n)), .val (.int (1 : Int32)), .val (.ref b1), .val (.ref b2), .val (.int (Int32.ofNat (own_fin s0 (own_nz s0 n 0 0 (own_g q1 p2))))), .val (.ref b3), .val (.int (Int32.ofNat (own_em (own_g q1 p2) s0 n 5).1))] [(.int (1 : Int32))])) (fun tt_ kk_ => st49 tt_ kk_) ?_
    refine Ends.to (T' := T49) (g' := (mkF m 445 #[.val (.long q1), .second, .val (.int p2), .val (.int p3), .val (.int p4), .val (.int p5), .val (.int (Int32.ofNat s0)), .val (.int (Int32.ofNat n)), .val (.int (1 : Int32)), .val (.ref b1), .val (.ref b2), .val (.int (Int32.ofNat (own_fin s0 (own_nz s0 n 0 0 (own_g q1 p2))))), .val (.ref b3), .val (.int (Int32.ofNat (own_em (own_g q1 p2) s0 n 5).1))] [])) (fun tt_ kk_ => XS.ifNo X49.here hx rfl (hb hby at_442) rfl ((if0 _ _).trans (feq (by decide)).1) kk_) ?_
    refine Ends.to (T' := T49) (g' := (mkF m 447 #[.val (.long q1), .second, .val (.int p2), .val (.int p3), .val (.int p4), .val (.int p5), .val (.int (Int32.ofNat s0)), .val (.int (Int32.ofNat n)), .val (.int (1 : Int32)), .val (.ref b1), .val (.ref b2), .val (.int (Int32.ofNat (own_fin s0 (own_nz s0 n 0 0 (own_g q1 p2))))), .val (.ref b3), .val (.int (Int32.ofNat (own_em (own_g q1 p2) s0 n 5).1))] [(.ref b1)])) (fun tt_ kk_ => XS.aload X49.here hx rfl (hb hby at_445) rfl rfl kk_) ?_
    refine Ends.to (T' := T49) (g' := (mkF m 449 #[.val (.long q1), .second, .val (.int p2), .val (.int p3), .val (.int p4), .val (.int p5), .val (.int (Int32.ofNat s0)), .val (.int (Int32.ofNat n)), .val (.int (1 : Int32)), .val (.ref b1), .val (.ref b2), .val (.int (Int32.ofNat (own_fin s0 (own_nz s0 n 0 0 (own_g q1 p2))))), .val (.ref b3), .val (.int (Int32.ofNat (own_em (own_g q1 p2) s0 n 5).1))] [(.ref b2), (.ref b1)])) (fun tt_ kk_ => XS.aload X49.here hx rfl (hb hby at_447) rfl rfl kk_) ?_
    refine Ends.to (T' := T49) (g' := (mkF m 451 #[.val (.long q1), .second, .val (.int p2), .val (.int p3), .val (.int p4), .val (.int p5), .val (.int (Int32.ofNat s0)), .val (.int (Int32.ofNat n)), .val (.int (1 : Int32)), .val (.ref b1), .val (.ref b2), .val (.int (Int32.ofNat (own_fin s0 (own_nz s0 n 0 0 (own_g q1 p2))))), .val (.ref b3), .val (.int (Int32.ofNat (own_em (own_g q1 p2) s0 n 5).1))] [(.int (Int32.ofNat s0)), (.ref b2), (.ref b1)])) (fun tt_ kk_ => XS.iload X49.here hx rfl (hb hby at_449) rfl kk_) ?_
    refine Ends.to (T' := T49) (g' := (mkF m 453 #[.val (.long q1), .second, .val (.int p2), .val (.int p3), .val (.int p4), .val (.int p5), .val (.int (Int32.ofNat s0)), .val (.int (Int32.ofNat n)), .val (.int (1 : Int32)), .val (.ref b1), .val (.ref b2), .val (.int (Int32.ofNat (own_fin s0 (own_nz s0 n 0 0 (own_g q1 p2))))), .val (.ref b3), .val (.int (Int32.ofNat (own_em (own_g q1 p2) s0 n 5).1))] [(.int (Int32.ofNat n)), (.int (Int32.ofNat s0)), (.ref b2), (.ref b1)])) (fun tt_ kk_ => XS.iload X49.here hx rfl (hb hby at_451) rfl kk_) ?_
    refine Ends.to (T' := T49) (g' := (mkF m 455 #[.val (.long q1), .second, .val (.int p2), .val (.int p3), .val (.int p4), .val (.int p5), .val (.int (Int32.ofNat s0)), .val (.int (Int32.ofNat n)), .val (.int (1 : Int32)), .val (.ref b1), .val (.ref b2), .val (.int (Int32.ofNat (own_fin s0 (own_nz s0 n 0 0 (own_g q1 p2))))), .val (.ref b3), .val (.int (Int32.ofNat (own_em (own_g q1 p2) s0 n 5).1))] [(.int (7 : Int32)), (.int (Int32.ofNat n)), (.int (Int32.ofNat s0)), (.ref b2), (.ref b1)])) (fun tt_ kk_ => XS.bipush X49.here hx rfl (hb hby at_453) kk_) ?_
    obtain ⟨_, _, ⟨T50, L50, k50, n50⟩, -, X50, ⟨Lc50, hQ50, l50, y50, z50⟩, st50⟩ := Jvm.LawKit.callS X49 hx (y := (⟨"com/example/predicate/predicate/document/AttributeDeclarationNormalizePinLaw", "outside", "([B[BIII)Z"⟩ : MethodName)) hown (mvT hZ (hw _ (List.mem_of_getElem? (i := 19) rfl))) (mvT hZ (hw _ (List.mem_of_getElem? (i := 20) rfl))) (mvT hZ (hw _ (List.mem_of_getElem? (i := 3) rfl))) (mvT hZ (hw _ (List.mem_of_getElem? (i := 21) rfl))) (by decide) (backOf (W := 0) (rm6 l Z a0 hw [] b1 b2 s0 n 7 _ (own_g q1 p2) T37.heap n0 Zs (by decide) hsn (hm.2.2 7) B_b1 B_b2) hZ (hw _ (List.mem_of_getElem? (i := 21) rfl)) (hw _ (List.mem_of_getElem? (i := 3) rfl)) (by decide) (by decide)) (g := (mkF m 455 #[.val (.long q1), .second, .val (.int p2), .val (.int p3), .val (.int p4), .val (.int p5), .val (.int (Int32.ofNat s0)), .val (.int (Int32.ofNat n)), .val (.int (1 : Int32)), .val (.ref b1), .val (.ref b2), .val (.int (Int32.ofNat (own_fin s0 (own_nz s0 n 0 0 (own_g q1 p2))))), .val (.ref b3), .val (.int (Int32.ofNat (own_em (own_g q1 p2) s0 n 5).1))] [(.int (7 : Int32)), (.int (Int32.ofNat n)), (.int (Int32.ofNat s0)), (.ref b2), (.ref b1)])) rfl (by rw [hml]; rfl) (argsL := [(.ref b1), (.ref b2), (.int (Int32.ofNat s0)), (.int (Int32.ofNat n)), (.int (7 : Int32))]) (rest := []) (lenOf pd_6 rfl) rfl (by show 2 * 0 + _ ≤ _; exact Nat.le_of_eq rfl) (hb hby at_455) (fun _ _ => ⟨rfl, e49q, (by decide : 3 + 0 ≤ _), (by decide : 24 + 0 ≤ _)⟩)
    dsimp only [Pt.U, Pt.locs, Pt.cells, Pt.slots] at X50 l50 y50 z50 st50 hQ50
    subst l50 y50 z50
    obtain ⟨rfl, N50q, e50q⟩ := hQ50
    have N50 := Fr.app N49 N50q
    refine Ends.to (T' := T50) (g' := (mkF m 458 #[.val (.long q1), .second, .val (.int p2), .val (.int p3), .val (.int p4), .val (.int p5), .val (.int (Int32.ofNat s0)), .val (.int (Int32.ofNat n)), .val (.int (1 : Int32)), .val (.ref b1), .val (.ref b2), .val (.int (Int32.ofNat (own_fin s0 (own_nz s0 n 0 0 (own_g q1 p2))))), .val (.ref b3), .val (.int (Int32.ofNat (own_em (own_g q1 p2) s0 n 5).1))] [(.int (1 : Int32))])) (fun tt_ kk_ => st50 tt_ kk_) ?_
    refine Ends.to (T' := T50) (g' := (mkF m 461 #[.val (.long q1), .second, .val (.int p2), .val (.int p3), .val (.int p4), .val (.int p5), .val (.int (Int32.ofNat s0)), .val (.int (Int32.ofNat n)), .val (.int (1 : Int32)), .val (.ref b1), .val (.ref b2), .val (.int (Int32.ofNat (own_fin s0 (own_nz s0 n 0 0 (own_g q1 p2))))), .val (.ref b3), .val (.int (Int32.ofNat (own_em (own_g q1 p2) s0 n 5).1))] [])) (fun tt_ kk_ => XS.ifNo X50.here hx rfl (hb hby at_458) rfl ((if0 _ _).trans (feq (by decide)).1) kk_) ?_
    refine Ends.to (T' := T50) (g' := (mkF m 462 #[.val (.long q1), .second, .val (.int p2), .val (.int p3), .val (.int p4), .val (.int p5), .val (.int (Int32.ofNat s0)), .val (.int (Int32.ofNat n)), .val (.int (1 : Int32)), .val (.ref b1), .val (.ref b2), .val (.int (Int32.ofNat (own_fin s0 (own_nz s0 n 0 0 (own_g q1 p2))))), .val (.ref b3), .val (.int (Int32.ofNat (own_em (own_g q1 p2) s0 n 5).1))] [(.int (1 : Int32))])) (fun tt_ kk_ => XS.iconst X50.here hx rfl (hb hby at_461) kk_) ?_
    refine Ends.to (T' := T50) (g' := (mkF m 466 #[.val (.long q1), .second, .val (.int p2), .val (.int p3), .val (.int p4), .val (.int p5), .val (.int (Int32.ofNat s0)), .val (.int (Int32.ofNat n)), .val (.int (1 : Int32)), .val (.ref b1), .val (.ref b2), .val (.int (Int32.ofNat (own_fin s0 (own_nz s0 n 0 0 (own_g q1 p2))))), .val (.ref b3), .val (.int (Int32.ofNat (own_em (own_g q1 p2) s0 n 5).1))] [(.int (1 : Int32))])) (fun tt_ kk_ => XS.goto X50.here hx rfl (pc0 := 462) (pc' := 466) rfl (hb hby at_462) (by decide) (by decide) kk_) ?_
    exact Ends.retN (t := .boolean) (by simp) X50 hx hret (hb hby at_466) hlk (by decide) (by decide) ⟨by decide, N50⟩
set_option maxRecDepth 65536 in
set_option maxHeartbeats 40000000 in
theorem comes_1 {Post : Tables → Env → Array Value → State → Outcome → State → Prop} (hpost : ∀ tb e args s v u, (limb_1_1.after args s (.returned v) u = true ∧ limb_1_2.after args s (.returned v) u = true ∧ True) → FrameEnd s (.returned v) u (Jvm.fieldLocs frame_1_writes args s ++ Jvm.arrayLocs frame_1_arrays args s ++ Jvm.staticLocs frame_1_statics s) 16 128 → Post tb e args s (.returned v) u) :
    ArmFor flags0 classFile x code maxLocals ret World_1 tables_1 room_1 Calls_1 rest_1 Pre_1 Post := by
  intro l hfl _ _ p e ha hc hk s m args below hf hA hF happ hP
  obtain ⟨hcalls, hrest, hpre⟩ := hP
  obtain ⟨-, -, -, hnamed, -, -, -, hat⟩ := (Spec.applies_iff hf).mp happ
  obtain ⟨hg, hn⟩ := and_e (Cond.before_iff.mp (show (Jvm.Cond.and given_1 narrow_1).before args s = true from hpre))
  obtain ⟨hcount, t0⟩ := and_e hg
  obtain ⟨k0, t1⟩ := and_e t0
  obtain ⟨k1, t2⟩ := and_e t1
  obtain ⟨k2, t3⟩ := and_e t2
  obtain ⟨k3, t4⟩ := and_e t3
  obtain ⟨w0, w1, w2, w3, w4, rfl⟩ : ∃ w0 w1 w2 w3 w4 : Value, args = #[w0, w1, w2, w3, w4] := by
    have hs : args.size = 5 := by simpa [Cond.value, given_1] using hcount
    obtain ⟨L⟩ := args
    match L, hs with
    | [w0, w1, w2, w3, w4], _ => exact ⟨w0, w1, w2, w3, w4, rfl⟩
  have hw := fun d (hd : d ∈ tables_1) => atoms_spec (ws := Jvm.Cond.code x code maxLocals ret :: tables_1) hat d (List.mem_cons_of_mem _ hd)
  obtain ⟨i0, ei0⟩ := isL_v k0
  obtain rfl : w0 = (.long i0) := Option.some.inj ei0
  obtain ⟨i1, ei1⟩ := is_v k1
  obtain rfl : w1 = (.int i1) := Option.some.inj ei1
  obtain ⟨i2, ei2⟩ := is_v k2
  obtain rfl : w2 = (.int i2) := Option.some.inj ei2
  obtain ⟨i3, ei3⟩ := is_v k3
  obtain rfl : w3 = (.int i3) := Option.some.inj ei3
  obtain ⟨i4, ei4⟩ := is_v t4
  obtain rfl : w4 = (.int i4) := Option.some.inj ei4
  obtain ⟨n, o, h1, h2, h3, _, L, rfl, ⟨rfl, N⟩, hq⟩ := rm0 l s _ hw tables_1 i0 i1 i2 i3 i4 s.heap s.heap.size (Nat.le_refl _) p e ha hc hk s m _ below hf ((Spec.applies_iff_loose hf).mp happ).1 ⟨rfl, State.Warmed39.refl s, rfl⟩ trivial
  refine ⟨n, _, h1, h2, h3, hpost _ _ _ _ _ _ ⟨Cond.after_iff.mpr rfl, Cond.after_iff.mpr (eq_i res_at (Term.int_eval (1)) rfl), trivial⟩ ⟨hq.1, hq.2.1, (hq.2.2.sift fun y hy => Or.inr (N y hy)).mono (by decide) (by decide)⟩⟩
theorem main_1_1 : Claimed_1_1 := comes_1 fun _ _ _ _ _ _ h hF => ⟨h.1, hF⟩
theorem main_1_2 : Claimed_1_2 := comes_1 fun _ _ _ _ _ _ h hF => ⟨h.2.1, hF⟩
end Jvm.Pilot.@@N@@
namespace Jvm.Pilot.@@N@@
open Jvm Jvm.ClassFile Sem Op Lib Jvm.Free Jvm.Stand Jvm.Pilot.@@N@@.Jvm.D
/-! MADE BY PROGRAM (witnessworld.py) out of the Statement's table words and the real class files: 9 classes; the members and pool entries that the words name. The judged class is class 1, her method 1. -/
namespace start1
open Jvm.ClassFile
def u (s : String) : CpInfo := .utf8 (stringToUtf16 s)
/-- a pool by its gaps: so many unusable entries, then the entry; so many at the end -/
def gap : Nat → List CpInfo → List CpInfo
  | 0, r => r
  | n + 1, r => .unusable :: gap n r
def poolList (es : List (Nat × CpInfo)) (last : Nat) : List CpInfo := es.foldr (fun e r => gap e.1 (e.2 :: r)) (gap last [])
def pool (es : List (Nat × CpInfo)) (last : Nat) : Array CpInfo := ⟨poolList es last⟩
def fileOf (pool : Array CpInfo) (this : Nat) (attrs : Array Attribute := #[]) (ms : Array MethodInfo := #[]) (fl : Nat := 33) (sup : Nat := 0) (ifs : Array Nat := #[]) (fds : Array FieldInfo := #[]) : ClassFile where
  minorVersion := 0
  majorVersion := 65
  constantPool := pool
  accessFlags := fl
  thisClass := this
  superClass := sup
  interfaces := ifs
  fields := fds
  methods := ms
  attributes := attrs
def plain (name : String) (sup : Option ClassId) : Class where
  name := name
  kind := .ordinary
  loader := none
  accessFlags := 33
  super := sup
  interfaces := #[]
  cf := none
  fields := #[]
  methods := #[]
  instanceTypes := #[]
  staticTypes := #[]
  resolved := #[]
  callSites := []
  init := .initialized
  statics := none
  mirror := none

def pool0 : Array CpInfo := pool [(5, u "<init>"), (0, u "()V"), (1, .class_ 10), (1, u "java/lang/Object")] 113

def k0m0 : Method := { name := "<init>", desc := "()V", sig := { parameters := [], returnType := none }, accessFlags := 1, code := none }
/-- java/lang/Object -/
def k0 : Class := { plain "java/lang/Object" none with
  accessFlags := 33
  interfaces := #[]
  cf := some (fileOf pool0 8 #[] #[{ accessFlags := 1, nameIndex := 5, descriptorIndex := 6, attributes := #[] }] 33 0 #[] #[])
  fields := #[]
  methods := #[k0m0]
  instanceTypes := #[]
  staticTypes := #[]
  resolved := Array.replicate 124 none
  statics := none }

def pool1 : Array CpInfo := pool [(2, .class_ 4), (1, u "java/lang/Object"), (0, u "<init>"), (0, u "()V"), (0, .integer 2147483647), (0, .methodref 9 10), (0, .class_ 11), (0, .nameAndType 12 13), (0, u "com/example/predicate/predicate/document/AttributeDeclarationNormalizePinLaw"), (0, u "build"), (0, u "(JI)[B"), (0, .methodref 15 16), (0, .class_ 17), (0, .nameAndType 18 19), (0, u "com/example/predicate/predicate/document/AttributeDeclaration"), (0, u "normalize"), (0, u "([BIIZ)I"), (0, .methodref 9 21), (0, .nameAndType 22 23), (0, u "emit"), (0, u "([BI[BIII)I"), (0, .methodref 9 25), (0, .nameAndType 26 27), (0, u "inside"), (0, u "([B[BIII)Z"), (0, .methodref 9 29), (0, .nameAndType 30 27), (0, u "outside"), (0, .methodref 9 32), (0, .nameAndType 33 34), (0, u "at"), (0, u "(JII)B"), (2, u "law"), (0, u "(JIIII)Z")] 5

def k1m0 : Method := { name := "<init>", desc := "()V", sig := { parameters := [], returnType := none }, accessFlags := 1, code := none }
def k1c1 : Code := { maxStack := 6, maxLocals := 14, code := code, exceptionTable := #[], attributes := #[] }
def k1m1 : Method := { name := "law", desc := "(JIIII)Z", sig := { parameters := [.long, .int, .int, .int, .int], returnType := some .boolean }, accessFlags := 9, code := some k1c1 }
def k1c2 : Code := { maxStack := 4, maxLocals := 4, code := method_3_code, exceptionTable := #[], attributes := #[] }
def k1m2 : Method := { name := "at", desc := "(JII)B", sig := { parameters := [.long, .int, .int], returnType := some .byte }, accessFlags := 10, code := some k1c2 }
def k1c3 : Code := { maxStack := 7, maxLocals := 3, code := method_4_code, exceptionTable := #[], attributes := #[] }
def k1m3 : Method := { name := "build", desc := "(JI)[B", sig := { parameters := [.long, .int], returnType := some (.array .byte) }, accessFlags := 10, code := some k1c3 }
def k1c4 : Code := { maxStack := 3, maxLocals := 7, code := method_5_code, exceptionTable := #[], attributes := #[] }
def k1m4 : Method := { name := "emit", desc := "([BI[BIII)I", sig := { parameters := [(.array .byte), .int, (.array .byte), .int, .int, .int], returnType := some .int }, accessFlags := 10, code := some k1c4 }
def k1c5 : Code := { maxStack := 3, maxLocals := 5, code := method_6_code, exceptionTable := #[], attributes := #[] }
def k1m5 : Method := { name := "inside", desc := "([B[BIII)Z", sig := { parameters := [(.array .byte), (.array .byte), .int, .int, .int], returnType := some .boolean }, accessFlags := 10, code := some k1c5 }
def k1c6 : Code := { maxStack := 3, maxLocals := 5, code := method_7_code, exceptionTable := #[], attributes := #[] }
def k1m6 : Method := { name := "outside", desc := "([B[BIII)Z", sig := { parameters := [(.array .byte), (.array .byte), .int, .int, .int], returnType := some .boolean }, accessFlags := 10, code := some k1c6 }
/-- com/example/predicate/predicate/document/AttributeDeclarationNormalizePinLaw -/
def k1 : Class := { plain "com/example/predicate/predicate/document/AttributeDeclarationNormalizePinLaw" (some 0) with
  accessFlags := 49
  interfaces := #[]
  cf := some (fileOf pool1 9 #[] #[{ accessFlags := 1, nameIndex := 5, descriptorIndex := 6, attributes := #[] }, { accessFlags := 9, nameIndex := 37, descriptorIndex := 38, attributes := #[] }, { accessFlags := 10, nameIndex := 33, descriptorIndex := 34, attributes := #[] }, { accessFlags := 10, nameIndex := 12, descriptorIndex := 13, attributes := #[] }, { accessFlags := 10, nameIndex := 22, descriptorIndex := 23, attributes := #[] }, { accessFlags := 10, nameIndex := 26, descriptorIndex := 27, attributes := #[] }, { accessFlags := 10, nameIndex := 30, descriptorIndex := 27, attributes := #[] }] 49 2 #[] #[])
  fields := #[]
  methods := #[k1m0, k1m1, k1m2, k1m3, k1m4, k1m5, k1m6]
  instanceTypes := #[]
  staticTypes := #[]
  resolved := Array.replicate 44 none
  statics := none }

def pool2 : Array CpInfo := pool [(2, .class_ 4), (1, u "java/lang/Object"), (3, .class_ 10), (1, u "com/example/predicate/predicate/document/AttributeDeclaration"), (0, u "name"), (0, u "I"), (2, u "tokenized"), (0, u "Z"), (2, u "id"), (2, u "defaultValue"), (0, u "[B"), (3, u "normalize"), (0, u "([BIIZ)I")] 8

def k2c0 : Code := { maxStack := 5, maxLocals := 7, code := prog_5_method_2_code, exceptionTable := #[], attributes := #[] }
def k2m0 : Method := { name := "normalize", desc := "([BIIZ)I", sig := { parameters := [(.array .byte), .int, .int, .boolean], returnType := some .int }, accessFlags := 8, code := some k2c0 }
/-- com/example/predicate/predicate/document/AttributeDeclaration -/
def k2 : Class := { plain "com/example/predicate/predicate/document/AttributeDeclaration" (some 0) with
  accessFlags := 48
  interfaces := #[]
  cf := some (fileOf pool2 8 #[] #[{ accessFlags := 8, nameIndex := 27, descriptorIndex := 28, attributes := #[] }] 48 2 #[] #[{ accessFlags := 18, nameIndex := 11, descriptorIndex := 12, attributes := #[] }, { accessFlags := 18, nameIndex := 15, descriptorIndex := 16, attributes := #[] }, { accessFlags := 18, nameIndex := 19, descriptorIndex := 16, attributes := #[] }, { accessFlags := 18, nameIndex := 22, descriptorIndex := 23, attributes := #[] }])
  fields := #[{ name := "name", type := .int, accessFlags := 18, slot := 0, constantValue := 0 }, { name := "tokenized", type := .boolean, accessFlags := 18, slot := 1, constantValue := 0 }, { name := "id", type := .boolean, accessFlags := 18, slot := 2, constantValue := 0 }, { name := "defaultValue", type := (.array .byte), accessFlags := 18, slot := 3, constantValue := 0 }]
  methods := #[k2m0]
  instanceTypes := #[.int, .boolean, .boolean, (.array .byte)]
  staticTypes := #[]
  resolved := Array.replicate 37 none
  statics := none }

def pool3 : Array CpInfo := pool [(1, u "java/lang/Cloneable"), (0, .class_ 1), (0, u "java/lang/Object"), (0, .class_ 3)] 3

/-- java/lang/Cloneable -/
def k3 : Class := { plain "java/lang/Cloneable" (some 0) with
  accessFlags := 1537
  interfaces := #[]
  cf := some (fileOf pool3 2 #[] #[] 1537 4 #[] #[])
  fields := #[]
  methods := #[]
  instanceTypes := #[]
  staticTypes := #[]
  resolved := Array.replicate 8 none
  statics := none }

def pool4 : Array CpInfo := pool [(1, u "java/io/Serializable"), (0, .class_ 1), (0, u "java/lang/Object"), (0, .class_ 3)] 3

/-- java/io/Serializable -/
def k4 : Class := { plain "java/io/Serializable" (some 0) with
  accessFlags := 1537
  interfaces := #[]
  cf := some (fileOf pool4 2 #[] #[] 1537 4 #[] #[])
  fields := #[]
  methods := #[]
  instanceTypes := #[]
  staticTypes := #[]
  resolved := Array.replicate 8 none
  statics := none }

/-- the primitive byte -/
def k5 : Class := { plain "byte" none with kind := .primitive 'B', accessFlags := 0x411 }
/-- [B -/
def k6 : Class := { plain "[B" (some 0) with kind := .array 5 .byte, interfaces := #[3, 4], accessFlags := 1041 }

/-- the primitive int -/
def k7 : Class := { plain "int" none with kind := .primitive 'I', accessFlags := 0x411 }
/-- [I -/
def k8 : Class := { plain "[I" (some 0) with kind := .array 7 .int, interfaces := #[3, 4], accessFlags := 1041 }

def heap : Heap := #[]
def classes : Array Class := #[k0, k1, k2, k3, k4, k5, k6, k7, k8]
def interned : List (Array UInt16 × Addr) := []
def slotsUsed : Nat := 0
def theMethod : MethodId := ⟨1, 1⟩
def args0 : Array Value := #[.long 77, .int 5, .int 1, .int 4, .int 1]
def aboutOver (below : List Frame) : State where
  vm := { classes := classes, interned := interned.toArray }
  heap := heap
  slotsUsed := slotsUsed
  threads := #[{ frames := .invoking theMethod args0 :: below }]
def below0 : List Frame := [.native { method := ⟨0, 0⟩, args := #[] }]
def about1 : State := aboutOver below0
def p0 : Program := .bare "" "" ""
def e0 : Env := launch0.env 0 0 0
theorem w_frames : about1.frames = Frame.invoking theMethod args0 :: below0 := rfl
set_option maxRecDepth 65536 in
theorem w_args : argsFit about1.vm theMethod args0 = true := by decide +kernel
set_option maxRecDepth 65536 in
theorem w_heap : heapFits about1 = true := by decide +kernel
set_option maxRecDepth 65536 in
theorem w_runnable : about1.curStatus? = some .runnable := by decide +kernel
set_option maxRecDepth 65536 in
theorem w_alone : about1.alone = true := by decide +kernel
set_option maxRecDepth 65536 in
theorem w_named : about1.methodNamed? x = some theMethod := by decide +kernel
set_option maxRecDepth 65536 in
theorem w_hears : about1.hears theMethod below0 = true := by decide +kernel
set_option maxRecDepth 65536 in
theorem w_ripe : about1.ripe theMethod args0 below0 = true := by decide +kernel
theorem w_running : about1.status = .running := rfl
set_option maxRecDepth 65536 in
theorem w_room : about1.hasRoom e0.platform room_1 = true :=
  launch0.hasRoom_least _ room_1 (by decide +kernel) (by decide +kernel) (by decide +kernel) (by decide +kernel) (by decide +kernel) (by decide +kernel)
theorem allAtoms_all (ts : List Jvm.Cond) (a : Array Jvm.Value) (st : Jvm.State) : (allAtoms ts).before a st = ts.all (fun c => c.before a st) := by
  induction ts with
  | nil => rfl
  | cons c t ih =>
    show (Jvm.Cond.and c (allAtoms t)).before a st = _
    rw [Jvm.Cond.before_and, ih, List.all_cons]
def words1 : List Jvm.Cond := Jvm.Cond.code x code maxLocals ret :: tables_1
/-- a 'code' word, met by the world's own term for the bytes: nothing is compared byte by byte -/
theorem code_word {y : MethodName} {bytes : ByteArray} {mx : Nat} {rt : Option FieldType} {a : Array Value} {s : State} {m : MethodId} {meth : Method} {c : Code} (h1 : s.methodNamed? y = some m) (h2 : s.vm.method? m = some meth) (h3 : meth.code = some c) (h4 : c.code = bytes)
    (h5 : (c.maxLocals == mx && c.exceptionTable.isEmpty && decide (c.maxStack ≤ mostOperands) && decide (meth.sig.returnType = rt) && !meth.locks && decide (parseMethodDescriptor y.desc = some meth.sig)) = true) : (Jvm.Cond.code y bytes mx rt).before a s = true := by
  simp only [Bool.and_eq_true, beq_iff_eq, Bool.not_eq_true', decide_eq_true_eq] at h5
  obtain ⟨⟨⟨⟨⟨g1, g2⟩, g3⟩, g4⟩, g5⟩, g6⟩ := h5
  simp [Cond.before, Cond.holds, Cond.value, h1, h2, h3, h4, g1, g2, g3, g4, g5, g6]
def isCode : Jvm.Cond → Bool
  | .code _ _ _ _ => true
  | _ => false
theorem all_split {L : List Jvm.Cond} {P : Jvm.Cond → Bool} (h1 : L.all (fun c => isCode c || P c) = true) (h2 : ∀ c ∈ L.filter isCode, P c = true) : L.all P = true := by
  refine List.all_eq_true.mpr fun c hc => ?_
  have h := List.all_eq_true.mp h1 c hc
  rcases Bool.eq_false_or_eq_true (isCode c) with hi | hi
  · exact h2 c (List.mem_filter.mpr ⟨hc, hi⟩)
  · simpa [hi] using h
set_option maxRecDepth 65536 in
theorem w_c0 : (Jvm.Cond.code x code maxLocals ret).before args0 about1 = true := code_word (m := ⟨1, 1⟩) (meth := k1m1) (c := k1c1) (by decide +kernel) rfl rfl rfl (by decide +kernel)
set_option maxRecDepth 65536 in
theorem w_c1 : (Jvm.Cond.code ({ cls := "com/example/predicate/predicate/document/AttributeDeclarationNormalizePinLaw", name := "build", desc := "(JI)[B" } : Jvm.MethodName) method_4_code (3 : Nat) (Option.some (Jvm.ClassFile.FieldType.array Jvm.ClassFile.FieldType.byte))).before args0 about1 = true := code_word (m := ⟨1, 3⟩) (meth := k1m3) (c := k1c3) (by decide +kernel) rfl rfl rfl (by decide +kernel)
set_option maxRecDepth 65536 in
theorem w_c2 : (Jvm.Cond.code ({ cls := "com/example/predicate/predicate/document/AttributeDeclarationNormalizePinLaw", name := "at", desc := "(JII)B" } : Jvm.MethodName) method_3_code (4 : Nat) (Option.some Jvm.ClassFile.FieldType.byte)).before args0 about1 = true := code_word (m := ⟨1, 2⟩) (meth := k1m2) (c := k1c2) (by decide +kernel) rfl rfl rfl (by decide +kernel)
set_option maxRecDepth 65536 in
theorem w_c3 : (Jvm.Cond.code ({ cls := "com/example/predicate/predicate/document/AttributeDeclaration", name := "normalize", desc := "([BIIZ)I" } : Jvm.MethodName) prog_5_method_2_code (7 : Nat) (Option.some Jvm.ClassFile.FieldType.int)).before args0 about1 = true := code_word (m := ⟨2, 0⟩) (meth := k2m0) (c := k2c0) (by decide +kernel) rfl rfl rfl (by decide +kernel)
set_option maxRecDepth 65536 in
theorem w_c4 : (Jvm.Cond.code ({ cls := "com/example/predicate/predicate/document/AttributeDeclarationNormalizePinLaw", name := "emit", desc := "([BI[BIII)I" } : Jvm.MethodName) method_5_code (7 : Nat) (Option.some Jvm.ClassFile.FieldType.int)).before args0 about1 = true := code_word (m := ⟨1, 4⟩) (meth := k1m4) (c := k1c4) (by decide +kernel) rfl rfl rfl (by decide +kernel)
set_option maxRecDepth 65536 in
theorem w_c5 : (Jvm.Cond.code ({ cls := "com/example/predicate/predicate/document/AttributeDeclarationNormalizePinLaw", name := "inside", desc := "([B[BIII)Z" } : Jvm.MethodName) method_6_code (5 : Nat) (Option.some Jvm.ClassFile.FieldType.boolean)).before args0 about1 = true := code_word (m := ⟨1, 5⟩) (meth := k1m5) (c := k1c5) (by decide +kernel) rfl rfl rfl (by decide +kernel)
set_option maxRecDepth 65536 in
theorem w_c6 : (Jvm.Cond.code ({ cls := "com/example/predicate/predicate/document/AttributeDeclarationNormalizePinLaw", name := "outside", desc := "([B[BIII)Z" } : Jvm.MethodName) method_7_code (5 : Nat) (Option.some Jvm.ClassFile.FieldType.boolean)).before args0 about1 = true := code_word (m := ⟨1, 6⟩) (meth := k1m6) (c := k1c6) (by decide +kernel) rfl rfl rfl (by decide +kernel)
def codes1 : List Jvm.Cond := [Jvm.Cond.code x code maxLocals ret, Jvm.Cond.code ({ cls := "com/example/predicate/predicate/document/AttributeDeclarationNormalizePinLaw", name := "build", desc := "(JI)[B" } : Jvm.MethodName) method_4_code (3 : Nat) (Option.some (Jvm.ClassFile.FieldType.array Jvm.ClassFile.FieldType.byte)), Jvm.Cond.code ({ cls := "com/example/predicate/predicate/document/AttributeDeclarationNormalizePinLaw", name := "at", desc := "(JII)B" } : Jvm.MethodName) method_3_code (4 : Nat) (Option.some Jvm.ClassFile.FieldType.byte), Jvm.Cond.code ({ cls := "com/example/predicate/predicate/document/AttributeDeclaration", name := "normalize", desc := "([BIIZ)I" } : Jvm.MethodName) prog_5_method_2_code (7 : Nat) (Option.some Jvm.ClassFile.FieldType.int), Jvm.Cond.code ({ cls := "com/example/predicate/predicate/document/AttributeDeclarationNormalizePinLaw", name := "emit", desc := "([BI[BIII)I" } : Jvm.MethodName) method_5_code (7 : Nat) (Option.some Jvm.ClassFile.FieldType.int), Jvm.Cond.code ({ cls := "com/example/predicate/predicate/document/AttributeDeclarationNormalizePinLaw", name := "inside", desc := "([B[BIII)Z" } : Jvm.MethodName) method_6_code (5 : Nat) (Option.some Jvm.ClassFile.FieldType.boolean), Jvm.Cond.code ({ cls := "com/example/predicate/predicate/document/AttributeDeclarationNormalizePinLaw", name := "outside", desc := "([B[BIII)Z" } : Jvm.MethodName) method_7_code (5 : Nat) (Option.some Jvm.ClassFile.FieldType.boolean)]
set_option maxRecDepth 65536 in
theorem codes_eq : words1.filter isCode = codes1 := rfl
theorem w_codes : ∀ c ∈ words1.filter isCode, c.before args0 about1 = true := by
  rw [codes_eq]
  intro c hc
  simp only [codes1, List.mem_cons, List.not_mem_nil, or_false] at hc
  rcases hc with rfl | rfl | rfl | rfl | rfl | rfl | rfl
  · exact w_c0
  · exact w_c1
  · exact w_c2
  · exact w_c3
  · exact w_c4
  · exact w_c5
  · exact w_c6
set_option maxRecDepth 65536 in
theorem w_t1 : words1.all (fun c => isCode c || c.before args0 about1) = true := by decide +kernel
theorem w_tables : (allAtoms (Jvm.Cond.code x code maxLocals ret :: tables_1)).before args0 about1 = true := by
  rw [allAtoms_all]
  show words1.all (fun c => c.before args0 about1) = true
  refine all_split ?_ w_codes
  rw [w_t1]
set_option maxRecDepth 65536 in
theorem w_case : (Jvm.Cond.and given_1 narrow_1).before args0 about1 = true := by decide +kernel
theorem w_applies : (headSpec (Jvm.Cond.code x code maxLocals ret :: tables_1) room_1).applies x e0.platform about1 = true :=
  (Spec.applies_iff w_frames).mpr ⟨w_running, w_runnable, w_alone, w_named, w_hears, w_ripe, w_room, w_tables⟩
theorem atStart : AtStart classFile x code maxLocals ret World_1 tables_1 room_1 Calls_1 rest_1 Pre_1 launch0 p0 e0 about1 theMethod args0 below0 :=
  ⟨lists_1, trivial, launch0.admits_env _ _ _, launch0.least_env, fairChoices_fair.cas, fairChoices_fair.clock, w_frames, w_args, w_heap, w_applies, trivial, trivial, w_case⟩
end start1
theorem witness_1 : WitnessClaimed_1 := ⟨start1.p0, start1.e0, start1.about1, start1.theMethod, start1.args0, start1.below0, start1.atStart⟩
end Jvm.Pilot.@@N@@
