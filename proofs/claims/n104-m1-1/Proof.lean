import JvmDerived
import JvmDerived.Pilot.@@N@@Statement
import JvmDerived.Pilot.@@N@@Code
set_option linter.unusedVariables false
set_option linter.unusedSimpArgs false
namespace Jvm.Pilot.@@N@@
open Jvm Jvm.ClassFile Sem Op Lib Jvm.Free Jvm.Stand Jvm.LawKit Jvm.RoadKit Bundle Jvm.Pilot.@@N@@.Jvm.D
section Own
variable {p : Program} {l : Launch} {e : Env} {R : Room} {s : State} {m : MethodId} {args : Array Value} {below : List Frame} {meth : Method} {c : Code} {T : State} {locs : List Loc} {cells slots : Nat} {Z : State} {a0 : Array Value} {h h' : Heap} {Q : Option Value → Heap → List Loc → Prop} {k n : Nat} {S S' : State}
/-- from S the walk comes to its end, and Q holds there -/
def own_Go (p : Program) (e : Env) (below : List Frame) (s : State) (Q : Option Value → Heap → List Loc → Prop) (k n : Nat) (S : State) : Prop :=
  ∃ s₂ o, Steps p.tables e below S s₂ ∧ s₂.status = .running ∧ Ended s₂ below o ∧ ∃ v L, o = .returned v ∧ Q v s₂.heap L ∧ FrameEnd s o s₂ L k n
theorem own_step (f : ∀ t, Steps p.tables e below S' t → Steps p.tables e below S t) (g : own_Go p e below s Q k n S') : own_Go p e below s Q k n S := by
  obtain ⟨s₂, o, h1, r⟩ := g
  exact ⟨s₂, o, f _ h1, r⟩
theorem own_ret (X : Stand p l e R s m args below meth c T locs cells slots) (hx : p.tables.exec = Jvm.exec) (hlk : meth.locks = false) {pc : Nat} {Ls : Array Slot} {w : Value} {t : FieldType} {i : Instr} {rest : List Value} (hret : meth.sig.returnType = some t) (hn : narrow t w = w)
    (hi : (i = .ireturn ∧ (t = .int ∨ t = .boolean ∨ t = .byte ∨ t = .char ∨ t = .short) ∧ ∃ z, w = .int z) ∨ (i = .lreturn ∧ t = .long ∧ ∃ z, w = .long z) ∨ (i = .dreturn ∧ t = .double ∧ ∃ z, w = .double z) ∨ (i = .freturn ∧ t = .float ∧ ∃ z, w = .float z) ∨ (i = .areturn ∧ t.isReference = true ∧ w.isRef = true))
    (hd : decode c.code pc = .ok (i, 1)) (hQ : Q (some w) T.heap locs) (hk : cells ≤ k) (hs : slots ≤ n) : own_Go p e below s Q k n (T.setTop (mkF m pc Ls (w :: rest))) := by
  obtain ⟨fs, hr, hrun, hended, hW, hsame⟩ := X.leave (v := some w) (fun h => by rw [hret] at h; cases h) hlk
  exact ⟨_, _, retOut X hx hret hn hi hd hr, hrun, hended, _, _, rfl, hQ, ⟨_, rfl⟩, hW, hsame.mono hk hs⟩
theorem own_retI (X : Stand p l e R s m args below meth c T locs cells slots) (hx : p.tables.exec = Jvm.exec) (hlk : meth.locks = false) {pc : Nat} {Ls : Array Slot} {z : Int32} {t : FieldType} {rest : List Value} (hret : meth.sig.returnType = some t) (ht : t = .int ∨ t = .boolean ∨ t = .byte ∨ t = .char ∨ t = .short) (hn : narrow t (.int z) = .int z)
    (hd : decode c.code pc = .ok (.ireturn, 1)) (hQ : Q (some (.int z)) T.heap locs) (hk : cells ≤ k) (hs : slots ≤ n) : own_Go p e below s Q k n (T.setTop (mkF m pc Ls (.int z :: rest))) :=
  own_ret X hx hlk hret hn (Or.inl ⟨rfl, ht, z, rfl⟩) hd hQ hk hs
theorem own_retJ (X : Stand p l e R s m args below meth c T locs cells slots) (hx : p.tables.exec = Jvm.exec) (hlk : meth.locks = false) {pc : Nat} {Ls : Array Slot} {z : Int64} {rest : List Value} (hret : meth.sig.returnType = some .long)
    (hd : decode c.code pc = .ok (.lreturn, 1)) (hQ : Q (some (.long z)) T.heap locs) (hk : cells ≤ k) (hs : slots ≤ n) : own_Go p e below s Q k n (T.setTop (mkF m pc Ls (.long z :: rest))) :=
  own_ret X hx hlk hret rfl (Or.inr (Or.inl ⟨rfl, rfl, z, rfl⟩)) hd hQ hk hs
theorem own_narrow_ref {t : FieldType} {w : Value} (ht : t.isReference = true) (hw : w.isRef = true) : narrow t w = w := by
  rcases ref_cases hw with rfl | ⟨z, rfl⟩ <;> cases t <;> first | rfl | (simp [FieldType.isReference] at ht)
theorem own_retA (X : Stand p l e R s m args below meth c T locs cells slots) (hx : p.tables.exec = Jvm.exec) (hlk : meth.locks = false) {pc : Nat} {Ls : Array Slot} {w : Value} {t : FieldType} {rest : List Value} (hret : meth.sig.returnType = some t) (ht : t.isReference = true) (hw : w.isRef = true)
    (hd : decode c.code pc = .ok (.areturn, 1)) (hQ : Q (some w) T.heap locs) (hk : cells ≤ k) (hs : slots ≤ n) : own_Go p e below s Q k n (T.setTop (mkF m pc Ls (w :: rest))) :=
  own_ret X hx hlk hret (own_narrow_ref ht hw) (Or.inr (Or.inr (Or.inr (Or.inr ⟨rfl, ht, hw⟩)))) hd hQ hk hs
theorem own_retV (X : Stand p l e R s m args below meth c T locs cells slots) (hx : p.tables.exec = Jvm.exec) (hlk : meth.locks = false) {pc : Nat} {Ls : Array Slot} (hret : meth.sig.returnType = none)
    (hd : decode c.code pc = .ok (.return_, 1)) (hQ : Q none T.heap locs) (hk : cells ≤ k) (hs : slots ≤ n) : own_Go p e below s Q k n (T.setTop (mkF m pc Ls [])) := by
  obtain ⟨fs, hr, hrun, hended, hW, hsame⟩ := X.leave (v := none) (fun _ => rfl) hlk
  exact ⟨_, _, X.returnOut hx hret hd hr, hrun, hended, _, _, rfl, hQ, ⟨_, rfl⟩, hW, hsame.mono hk hs⟩
theorem own_cat {v : Value} (q : v.isRef = true) : v.category = 1 := by
  rcases ref_cases q with rfl | ⟨z, rfl⟩ <;> rfl
/-- what a body is asked for: it is called with the arguments as', over the heap h0 -/
abbrev own_Met (l : Launch) (Z : State) (y : MethodName) (bytes : ByteArray) (maxL : Nat) (ret : Option FieldType) (ws : List Jvm.Cond) (rm : Room) (as' : Array Value) (h0 : Heap) (Q : Option Value → Heap → List Loc → Prop) : Prop :=
  MetFree l y (head1 (Jvm.Cond.code y bytes maxL ret :: ws) rm) (fun a U => a = as' ∧ Z.Warmed39 U.vm ∧ U.heap = h0) (fun _ _ _ _ _ => True) (fun _ U o U' => ∃ v L, o = .returned v ∧ Q v U'.heap L ∧ FrameEnd U o U' L rm.cells rm.slots)
/-- a body that leaves the heap as it was, and returns V -/
def own_P (Z : State) (h0 : Heap) (V : Value) (v : Option Value) (h : Heap) (L : List Loc) : Prop := v = some V ∧ Fr Z.heap.size L ∧ h = h0
theorem own_body {y : MethodName} {bytes : ByteArray} {maxL : Nat} {ret : Option FieldType} {ws : List Jvm.Cond} {rm : Room} {as' : Array Value} {h0 : Heap} {ls : Array Slot} (hn : plainFor y = true) (hf : ∀ m : MethodId, entryFrame m as' maxL = mkF m 0 ls [])
    (H : ∀ (p : Program) (e : Env) (s : State) (m : MethodId) (below : List Frame) (meth : Method) (c : Code) (T : State), Z.Warmed39 s.vm → p.tables.exec = Jvm.exec → c.code = bytes → c.maxLocals = maxL → s.vm.findClass y.cls = some m.cls → meth.name = y.name → meth.sig.returnType = ret → meth.locks = false →
      Stand p l e rm s m as' below meth c T [] 0 0 → T.heap = h0 → own_Go p e below s Q rm.cells rm.slots (T.setTop (mkF m 0 ls []))) : own_Met l Z y bytes maxL ret ws rm as' h0 Q := by
  refine MetFree.of_bodySF hn hisR ?_
  intro p e s m args below meth c s₁ Bd hml0 hP hK
  obtain ⟨rfl, hZ, hh⟩ := hP
  obtain ⟨s₂, o, h1, h2, h3, r⟩ := H p e s m below meth c s₁ hZ Bd.exec Bd.bytes hml0 (findClass_of_methodNamed Bd.named) (name_of_methodNamed Bd.named Bd.method).1 Bd.returns (BodyLoose.notSynchronized Bd) (Stand.of_body Bd) (by rw [← hh, Bd.state]; rfl)
  exact ⟨s₂, o, castTop (hf m) h1, h2, h3, r⟩
theorem own_callV (X : Stand p l e R s m args below meth c T locs cells slots) (hx : p.tables.exec = Jvm.exec) (hZ : Z.Warmed39 s.vm) {own C : String} {index : Nat} {y : MethodName} (hown : s.vm.findClass own = some m.cls)
    (w1 : (Jvm.Cond.methodLink own index y).before a0 Z = true) (w2 : (Jvm.Cond.declares y).before a0 Z = true) (w3 : (Jvm.Cond.selects C y y).before a0 Z = true) (w4 : (Jvm.Cond.instanceMethod y).before a0 Z = true) {bytes : ByteArray} {maxL : Nat} {ret : Option FieldType} (wc : (Jvm.Cond.code y bytes maxL ret).before a0 Z = true) (wz : (Jvm.Cond.initialized y.cls).before a0 Z = true)
    (hy : y.cls ≠ "java/lang/invoke/MethodHandle" ∧ y.cls ≠ "java/lang/invoke/VarHandle") {rm : Room} {b : Addr} {argsL rest : List Value} (hM : own_Met l Z y bytes maxL ret [] rm (.ref b :: argsL).toArray h Q) {W : Nat} (hf : rm.frames + 1 ≤ R.frames) (hl : W + (maxL + 11) + rm.locals ≤ R.locals)
    (eT : T.heap = h) (E : Exa Z h b C) {g : JFrame} (hg : g.method = m) (hsize : g.locals.size = c.maxLocals) (hlen : ∀ sig, parseMethodDescriptor y.desc = some sig → argsL.length = sig.parameters.length) (hstack : g.stack = argsL.reverse ++ .ref b :: rest)
    (hW : 2 * g.monitorRoom + (rest.map fun v => v.category).sum ≤ W) (hdg : decode c.code g.pc = .ok (.invokevirtual index, 3)) (hc : cells + rm.cells ≤ R.cells) (hs : slots + rm.slots ≤ R.slots) :
    ∃ v T' L', Stand p l e R s m args below meth c T' (locs ++ L') (cells + rm.cells) (slots + rm.slots) ∧ Q v T'.heap L' ∧ ∀ target, Steps p.tables e below (T'.setTop { g with pc := g.pc + 3, stack := v.toList ++ rest }) target → Steps p.tables e below (T.setTop g) target := by
  obtain ⟨cq, kq, qa, qb, qc⟩ := isOf hZ eT E
  obtain ⟨v, _, ⟨T8, L8, k8, n8⟩, -, X8, ⟨Lc8, hQ8, l8, y8, z8⟩, st8⟩ := X.virtualBack hx hown (mvT hZ w1) (mvT hZ w2) (notFace_of_selects (args := #[]) (mvT hZ w3)) (mvT hZ w3) (mvT hZ w4) hy (backOf (W := W) hM hZ wc wz hf hl) qa qc hg hsize (Steps.refl _) hlen hstack hW hdg (fun _ _ => ⟨rfl, eT, hc, hs⟩)
  dsimp only [Pt.U, Pt.locs, Pt.cells, Pt.slots] at X8 l8 y8 z8 st8 hQ8
  subst l8 y8 z8
  exact ⟨v, T8, Lc8, X8, hQ8, fun t q => st8.trans q⟩
theorem own_callS (X : Stand p l e R s m args below meth c T locs cells slots) (hx : p.tables.exec = Jvm.exec) (hZ : Z.Warmed39 s.vm) {own : String} {index : Nat} {y : MethodName} (hown : s.vm.findClass own = some m.cls)
    (w1 : (Jvm.Cond.methodLink own index y).before a0 Z = true) (w2 : (Jvm.Cond.static y).before a0 Z = true) {bytes : ByteArray} {maxL : Nat} {ret : Option FieldType} (wc : (Jvm.Cond.code y bytes maxL ret).before a0 Z = true) (wz : (Jvm.Cond.initialized y.cls).before a0 Z = true)
    (hy : y.cls ≠ "java/lang/invoke/MethodHandle" ∧ y.cls ≠ "java/lang/invoke/VarHandle") {rm : Room} {argsL rest : List Value} (hM : own_Met l Z y bytes maxL ret [] rm argsL.toArray h Q) {W : Nat} (hf : rm.frames + 1 ≤ R.frames) (hl : W + (maxL + 11) + rm.locals ≤ R.locals)
    (eT : T.heap = h) {g : JFrame} (hg : g.method = m) (hsize : g.locals.size = c.maxLocals) (hlen : ∀ sig, parseMethodDescriptor y.desc = some sig → argsL.length = sig.parameters.length) (hstack : g.stack = argsL.reverse ++ rest)
    (hW : 2 * g.monitorRoom + (rest.map fun v => v.category).sum ≤ W) (hdg : decode c.code g.pc = .ok (.invokestatic index, 3)) (hc : cells + rm.cells ≤ R.cells) (hs : slots + rm.slots ≤ R.slots) :
    ∃ v T' L', Stand p l e R s m args below meth c T' (locs ++ L') (cells + rm.cells) (slots + rm.slots) ∧ Q v T'.heap L' ∧ ∀ target, Steps p.tables e below (T'.setTop { g with pc := g.pc + 3, stack := v.toList ++ rest }) target → Steps p.tables e below (T.setTop g) target := by
  obtain ⟨v, _, ⟨T8, L8, k8, n8⟩, -, X8, ⟨Lc8, hQ8, l8, y8, z8⟩, st8⟩ := Jvm.LawKit.callS X hx hown (mvT hZ w1) (mvT hZ w2) (mvT hZ wz) (mvT hZ wc) hy (backOf (W := W) hM hZ wc wz hf hl) hg hsize hlen hstack hW hdg (fun _ _ => ⟨rfl, eT, hc, hs⟩)
  dsimp only [Pt.U, Pt.locs, Pt.cells, Pt.slots] at X8 l8 y8 z8 st8 hQ8
  subst l8 y8 z8
  exact ⟨v, T8, Lc8, X8, hQ8, st8⟩
theorem own_callI (X : Stand p l e R s m args below meth c T locs cells slots) (hx : p.tables.exec = Jvm.exec) (hZ : Z.Warmed39 s.vm) {own : String} {index : Nat} {y : MethodName} (hy1 : y.name = "<init>") (hown : s.vm.findClass own = some m.cls)
    (w1 : (Jvm.Cond.methodLink own index y).before a0 Z = true) (w2 : (Jvm.Cond.instanceMethod y).before a0 Z = true) {bytes : ByteArray} {maxL : Nat} (wc : (Jvm.Cond.code y bytes maxL none).before a0 Z = true) (wz : (Jvm.Cond.initialized y.cls).before a0 Z = true)
    (hy : y.cls ≠ "java/lang/invoke/MethodHandle" ∧ y.cls ≠ "java/lang/invoke/VarHandle") {rm : Room} {b : Addr} {argsL rest : List Value} (hM : own_Met l Z y bytes maxL none [] rm (.ref b :: argsL).toArray h Q) {W : Nat} (hf : rm.frames + 1 ≤ R.frames) (hl : W + (maxL + 11) + rm.locals ≤ R.locals)
    (eT : T.heap = h) {g : JFrame} (hg : g.method = m) (hsize : g.locals.size = c.maxLocals) (hlen : ∀ sig, parseMethodDescriptor y.desc = some sig → argsL.length = sig.parameters.length) (hstack : g.stack = argsL.reverse ++ .ref b :: rest)
    (hW : 2 * g.monitorRoom + (rest.map fun v => v.category).sum ≤ W) (hdg : decode c.code g.pc = .ok (.invokespecial index, 3)) (hc : cells + rm.cells ≤ R.cells) (hs : slots + rm.slots ≤ R.slots) :
    ∃ v T' L', Stand p l e R s m args below meth c T' (locs ++ L') (cells + rm.cells) (slots + rm.slots) ∧ Q v T'.heap L' ∧ ∀ target, Steps p.tables e below (T'.setTop { g with pc := g.pc + 3, stack := v.toList ++ rest }) target → Steps p.tables e below (T.setTop g) target := by
  obtain ⟨v, _, ⟨T8, L8, k8, n8⟩, -, X8, ⟨Lc8, hQ8, l8, y8, z8⟩, st8⟩ := X.specialBack hx hy1 hown (mvT hZ w1) (mvT hZ w2) (mvT hZ wc) hy (backOf (W := W) hM hZ wc wz hf hl) hg hsize (Steps.refl _) hlen hstack hW hdg (fun _ _ => ⟨rfl, eT, hc, hs⟩)
  dsimp only [Pt.U, Pt.locs, Pt.cells, Pt.slots] at X8 l8 y8 z8 st8 hQ8
  subst l8 y8 z8
  exact ⟨v, T8, Lc8, X8, hQ8, fun t q => st8.trans q⟩
theorem own_ldcI (X : Stand p l e R s m args below meth c T locs cells slots) (hx : p.tables.exec = Jvm.exec) (hZ : Z.Warmed39 s.vm) {own : String} {index : Nat} {v : Int32} (hown : s.vm.findClass own = some m.cls) (w : (Jvm.Cond.constant own index v).before a0 Z = true)
    {g : JFrame} (hg : g.method = m) (hd : decode c.code g.pc = .ok (.ldc index, 2)) : ∀ target, Steps p.tables e below (T.setTop { g with pc := g.pc + 2, stack := .int v :: g.stack }) target → Steps p.tables e below (T.setTop g) target := X.ldcInt hx hown (mvT hZ w) hg hd
theorem own_ldcJ (X : Stand p l e R s m args below meth c T locs cells slots) (hx : p.tables.exec = Jvm.exec) (hZ : Z.Warmed39 s.vm) {own : String} {index : Nat} {v : Int64} (hown : s.vm.findClass own = some m.cls) (w : (Jvm.Cond.constantLong own index v).before a0 Z = true)
    {g : JFrame} (hg : g.method = m) (hd : decode c.code g.pc = .ok (.ldc2_w index, 3)) : ∀ target, Steps p.tables e below (T.setTop { g with pc := g.pc + 3, stack := .long v :: g.stack }) target → Steps p.tables e below (T.setTop g) target := X.ldc2Long hx hown (mvT hZ w) hg hd
/-! arrays: what stands in them, as a list -/
def own_Ar (Z : State) (h : Heap) (a : Addr) (kc : ClassId) (ty : FieldType) (vs : List Value) : Prop := ∃ c : Cell, Arr Z h a c ty ∧ c.cls = kc ∧ c.slots.toList = vs
variable {a b : Addr} {kc : ClassId} {ty : FieldType} {vs vs' : List Value} {v : Value} {i : Nat}
theorem own_Ar.new {z : Int32} (A : Arr Z h a (newA kc ty z) ty) (hz : List.replicate z.toNatClampNeg (defaultValue ty) = vs) : own_Ar Z h a kc ty vs := ⟨_, A, rfl, by rw [← hz]; simp [newA]⟩
theorem own_Ar.set (W : Wr h h' a i v) (F : own_Ar Z h a kc ty vs) (hv : vs.set i v = vs') : own_Ar Z h' a kc ty vs' := by
  obtain ⟨c, A, q, r⟩ := F
  exact ⟨_, A.same W, q, by rw [← hv, ← r]; simp [Cell.setSlot]⟩
theorem own_Ar.other (W : Wr h h' b i v) (F : own_Ar Z h a kc ty vs) (q : a ≠ b) : own_Ar Z h' a kc ty vs := by
  obtain ⟨c, A, r⟩ := F
  exact ⟨c, A.other W q, r⟩
theorem own_Ar.ext (E : Ext h h') (F : own_Ar Z h a kc ty vs) : own_Ar Z h' a kc ty vs := by
  obtain ⟨c, A, r⟩ := F
  exact ⟨c, A.ext E, r⟩
theorem own_Ar.lt (F : own_Ar Z h a kc ty vs) : a < h.size := by
  obtain ⟨c, A, r⟩ := F
  exact A.lt
theorem own_ext_trans {h'' : Heap} (E : Ext h h') (E' : Ext h' h'') : Ext h h'' := ⟨Nat.le_trans E.1 E'.1, fun a c q => E'.2 a c (E.2 a c q)⟩
theorem own_ext_wr {h0 : Heap} (E : Ext h0 h) (W : Wr h h' a i v) (q : h0.size ≤ a) : Ext h0 h' := by
  refine ⟨Nat.le_trans E.1 (Nat.le_of_eq W.size.symm), fun x cx hc => ?_⟩
  obtain ⟨c', e1, -, -, -, e5, -⟩ := wr_at W (E.2 x cx hc)
  have ne : x ≠ a := fun z => by
    have := (Array.getElem?_eq_some_iff.mp hc).1
    subst z
    exact absurd this (Nat.not_lt.mpr q)
  rw [← e5 ne]; exact e1
theorem own_inb {c : Cell} {j : Int32} (r : c.slots.toList = vs) (hj : ¬ j < 0) (hv : vs[j.toNatClampNeg]? = some v) : ¬ (j < 0 ∨ c.slots.size ≤ j.toNatClampNeg) ∧ c.slots[j.toNatClampNeg]? = some v := by
  have q : c.slots[j.toNatClampNeg]? = some v := by rw [← hv, ← r, Array.getElem?_toList]
  refine ⟨fun z => ?_, q⟩
  rcases z with z | z
  · exact hj z
  · exact absurd (Array.getElem?_eq_some_iff.mp q).1 (Nat.not_lt.mpr z)
theorem own_aaload (X : Stand p l e R s m args below meth c T locs cells slots) (hx : p.tables.exec = Jvm.exec) (hZ : Z.Warmed39 s.vm) (eT : T.heap = h) (F : own_Ar Z h a kc ty vs) (hty : ty.isReference = true) {j : Int32} (hj : ¬ j < 0) (hv : vs[j.toNatClampNeg]? = some v)
    {g : JFrame} (hg : g.method = m) {rest : List Value} (hs : g.stack = .int j :: .ref a :: rest) (hd : decode c.code g.pc = .ok (.aaload, 1)) : ∀ target, Steps p.tables e below (T.setTop { g with pc := g.pc + 1, stack := v :: rest }) target → Steps p.tables e below (T.setTop g) target := by
  obtain ⟨cl, A, -, r⟩ := F
  obtain ⟨q1, q2⟩ := own_inb r hj hv
  exact X.aaload hx (by rw [eT]; exact A.1) (State.isArrayOf_alike hZ.alike A.2.1) hty A.2.2 q1 q2 hg hs hd
theorem own_iaload (X : Stand p l e R s m args below meth c T locs cells slots) (hx : p.tables.exec = Jvm.exec) (hZ : Z.Warmed39 s.vm) (eT : T.heap = h) (F : own_Ar Z h a kc .int vs) {j : Int32} (hj : ¬ j < 0) (hv : vs[j.toNatClampNeg]? = some v)
    {g : JFrame} (hg : g.method = m) {rest : List Value} (hs : g.stack = .int j :: .ref a :: rest) (hd : decode c.code g.pc = .ok (.iaload, 1)) : ∀ target, Steps p.tables e below (T.setTop { g with pc := g.pc + 1, stack := v :: rest }) target → Steps p.tables e below (T.setTop g) target := by
  obtain ⟨cl, A, -, r⟩ := F
  obtain ⟨q1, q2⟩ := own_inb r hj hv
  exact fun t k => X.iaload hx (by rw [eT]; exact A.1) (State.isArrayOf_alike hZ.alike A.2.1) A.2.2 q1 q2 hg hs hd t k
theorem own_zaload (X : Stand p l e R s m args below meth c T locs cells slots) (hx : p.tables.exec = Jvm.exec) (hZ : Z.Warmed39 s.vm) (eT : T.heap = h) (F : own_Ar Z h a kc .boolean vs) {j : Int32} (hj : ¬ j < 0) (hv : vs[j.toNatClampNeg]? = some v)
    {g : JFrame} (hg : g.method = m) {rest : List Value} (hs : g.stack = .int j :: .ref a :: rest) (hd : decode c.code g.pc = .ok (.baload, 1)) : ∀ target, Steps p.tables e below (T.setTop { g with pc := g.pc + 1, stack := v :: rest }) target → Steps p.tables e below (T.setTop g) target := by
  obtain ⟨cl, A, -, r⟩ := F
  obtain ⟨q1, q2⟩ := own_inb r hj hv
  exact fun t k => X.baloadBooleans hx (by rw [eT]; exact A.1) (State.isArrayOf_alike hZ.alike A.2.1) A.2.2 q1 q2 hg hs hd t k
theorem own_alen (X : Stand p l e R s m args below meth c T locs cells slots) (hx : p.tables.exec = Jvm.exec) (hZ : Z.Warmed39 s.vm) (eT : T.heap = h) (F : own_Ar Z h a kc ty vs) {z : Int32} (hz : vs.length.toInt32 = z)
    {g : JFrame} (hg : g.method = m) {rest : List Value} (hs : g.stack = .ref a :: rest) (hd : decode c.code g.pc = .ok (.arraylength, 1)) : ∀ target, Steps p.tables e below (T.setTop { g with pc := g.pc + 1, stack := .int z :: rest }) target → Steps p.tables e below (T.setTop g) target := by
  obtain ⟨cl, A, -, r⟩ := F
  have q : cl.slots.size.toInt32 = z := by rw [← hz, ← r]; simp
  subst q
  exact fun t k => X.arraylength hx (by rw [eT]; exact A.1) (State.isArrayOf_alike hZ.alike A.2.1) hg hs hd t k
theorem own_stin {c : Cell} {j : Int32} (r : c.slots.toList = vs) (hj : ¬ j < 0) (hi : j.toNatClampNeg = i) (hlt : i < vs.length) : ¬ (j < 0 ∨ c.slots.size ≤ j.toNatClampNeg) := by
  have q : c.slots.size = vs.length := by rw [← r]; simp
  rintro (z | z)
  · exact hj z
  · omega
theorem own_stR (X : Stand p l e R s m args below meth c T locs cells slots) (hx : p.tables.exec = Jvm.exec) (hZ : Z.Warmed39 s.vm) (eT : T.heap = h) {C : String} (F : own_Ar Z h a kc (.object C) vs) (O : Ovr Z kc C) {y : Addr} (I : Exa Z h y C) {j : Int32} (i : Nat) (vs' : List Value) (hj : ¬ j < 0) (hi : j.toNatClampNeg = i) (hlt : i < vs.length) (hv : vs.set i (.ref y) = vs')
    (Ex : Ext Z.heap h) (ha : Z.heap.size ≤ a) (N : Fr Z.heap.size locs) {g : JFrame} (hg : g.method = m) {rest : List Value} (hs : g.stack = .ref y :: .int j :: .ref a :: rest) (hd : decode c.code g.pc = .ok (.aastore, 1)) :
    ∃ T' h' locs', Stand p l e R s m args below meth c T' locs' cells slots ∧ T'.heap = h' ∧ own_Ar Z h' a kc (.object C) vs' ∧ Ext Z.heap h' ∧ Fr Z.heap.size locs' ∧ Wr h h' a i (.ref y) ∧ ∀ target, Steps p.tables e below (T'.setTop { g with pc := g.pc + 1, stack := rest }) target → Steps p.tables e below (T.setTop g) target := by
  obtain ⟨cl, A, q, r⟩ := F
  obtain ⟨T', h', X', e', W', st⟩ := stR X hx hZ eT A (own_stin r hj hi hlt) rfl (Sto.of A (q ▸ O) (Ins.self I)) hg hs hd
  rw [hi] at W'
  exact ⟨T', h', _, X', e', own_Ar.set W' ⟨cl, A, q, r⟩ hv, own_ext_wr Ex W' ha, Fr.snoc X' N ha, W', st⟩
theorem own_stI (X : Stand p l e R s m args below meth c T locs cells slots) (hx : p.tables.exec = Jvm.exec) (hZ : Z.Warmed39 s.vm) (eT : T.heap = h) (F : own_Ar Z h a kc .int vs) {x j : Int32} (i : Nat) (vs' : List Value) (hj : ¬ j < 0) (hi : j.toNatClampNeg = i) (hlt : i < vs.length) (hv : vs.set i (.int x) = vs')
    (Ex : Ext Z.heap h) (ha : Z.heap.size ≤ a) (N : Fr Z.heap.size locs) {g : JFrame} (hg : g.method = m) {rest : List Value} (hs : g.stack = .int x :: .int j :: .ref a :: rest) (hd : decode c.code g.pc = .ok (.iastore, 1)) :
    ∃ T' h' locs', Stand p l e R s m args below meth c T' locs' cells slots ∧ T'.heap = h' ∧ own_Ar Z h' a kc .int vs' ∧ Ext Z.heap h' ∧ Fr Z.heap.size locs' ∧ Wr h h' a i (.int x) ∧ ∀ target, Steps p.tables e below (T'.setTop { g with pc := g.pc + 1, stack := rest }) target → Steps p.tables e below (T.setTop g) target := by
  obtain ⟨cl, A, q, r⟩ := F
  obtain ⟨T', h', X', e', W', st⟩ := stI X hx hZ eT A (own_stin r hj hi hlt) hg hs hd
  rw [hi] at W'
  exact ⟨T', h', _, X', e', own_Ar.set W' ⟨cl, A, q, r⟩ hv, own_ext_wr Ex W' ha, Fr.snoc X' N ha, W', st⟩
theorem own_stZ (X : Stand p l e R s m args below meth c T locs cells slots) (hx : p.tables.exec = Jvm.exec) (hZ : Z.Warmed39 s.vm) (eT : T.heap = h) (F : own_Ar Z h a kc .boolean vs) {x j : Int32} (i : Nat) (vs' : List Value) (hj : ¬ j < 0) (hi : j.toNatClampNeg = i) (hlt : i < vs.length) (hn : nar .boolean x = x) (hv : vs.set i (.int x) = vs')
    (Ex : Ext Z.heap h) (ha : Z.heap.size ≤ a) (N : Fr Z.heap.size locs) {g : JFrame} (hg : g.method = m) {rest : List Value} (hs : g.stack = .int x :: .int j :: .ref a :: rest) (hd : decode c.code g.pc = .ok (.bastore, 1)) :
    ∃ T' h' locs', Stand p l e R s m args below meth c T' locs' cells slots ∧ T'.heap = h' ∧ own_Ar Z h' a kc .boolean vs' ∧ Ext Z.heap h' ∧ Fr Z.heap.size locs' ∧ Wr h h' a i (.int x) ∧ ∀ target, Steps p.tables e below (T'.setTop { g with pc := g.pc + 1, stack := rest }) target → Steps p.tables e below (T.setTop g) target := by
  obtain ⟨cl, A, q, r⟩ := F
  obtain ⟨T', h', X', e', W', st⟩ := stZ X hx hZ eT A (own_stin r hj hi hlt) hg hs hd
  rw [hi, hn] at W'
  exact ⟨T', h', _, X', e', own_Ar.set W' ⟨cl, A, q, r⟩ hv, own_ext_wr Ex W' ha, Fr.snoc X' N ha, W', st⟩
theorem own_newR (X : Stand p l e R s m args below meth c T locs cells slots) (hx : p.tables.exec = Jvm.exec) (hZ : Z.Warmed39 s.vm) {own C : String} {index : Nat} (hown : s.vm.findClass own = some m.cls) (w1 : (Jvm.Cond.classLink own index C).before a0 Z = true) (w2 : (Jvm.Cond.arrayOver (.object C)).before a0 Z = true)
    (eT : T.heap = h) (Ex : Ext Z.heap h) {g : JFrame} (hg : g.method = m) (hd : decode c.code g.pc = .ok (.anewarray index, 3)) {z : Int32} {rest : List Value} (hs : g.stack = .int z :: rest) (hn : ¬ z < 0) (vs : List Value) (hz : List.replicate z.toNatClampNeg (.null : Value) = vs) {cap : Nat} (hcap : z.toNatClampNeg ≤ cap) (hb : cap * 8 ≤ 536870912) (hc : cells + 1 ≤ R.cells) (hl : slots + cap ≤ R.slots) :
    ∃ T' h' kc a, Stand p l e R s m args below meth c T' locs (cells + 1) (slots + cap) ∧ T'.heap = h' ∧ Ext h h' ∧ Ext Z.heap h' ∧ own_Ar Z h' a kc (.object C) vs ∧ Ovr Z kc C ∧ Z.heap.size ≤ a ∧ h.size = a ∧
      ∀ target, Steps p.tables e below (T'.setTop { g with pc := g.pc + 3, stack := .ref a :: rest }) target → Steps p.tables e below (T.setTop g) target := by
  obtain ⟨T', h', kc, X', e', E', A', O', st⟩ := newR X hx hZ hown w1 w2 eT hg hd hs hn hcap hb hc hl
  exact ⟨T', h', kc, h.size, X', e', E', own_ext_trans Ex E', own_Ar.new A' hz, O', Ex.1, rfl, st⟩
theorem own_newP (X : Stand p l e R s m args below meth c T locs cells slots) (hx : p.tables.exec = Jvm.exec) (hZ : Z.Warmed39 s.vm) {aty : ArrayType} (ty : FieldType) (hty : newarray.typeOf aty = ty) (w : (Jvm.Cond.arrayClass ty).before a0 Z = true)
    (eT : T.heap = h) (Ex : Ext Z.heap h) {g : JFrame} (hg : g.method = m) (hd : decode c.code g.pc = .ok (.newarray aty, 2)) {z : Int32} {rest : List Value} (hs : g.stack = .int z :: rest) (hn : ¬ z < 0) (vs : List Value) (hz : List.replicate z.toNatClampNeg (defaultValue ty) = vs) {cap : Nat} (hcap : z.toNatClampNeg ≤ cap) (hb : cap * 8 ≤ 536870912) (hc : cells + 1 ≤ R.cells) (hl : slots + cap ≤ R.slots) :
    ∃ T' h' kc a, Stand p l e R s m args below meth c T' locs (cells + 1) (slots + cap) ∧ T'.heap = h' ∧ Ext h h' ∧ Ext Z.heap h' ∧ own_Ar Z h' a kc ty vs ∧ Z.heap.size ≤ a ∧ h.size = a ∧
      ∀ target, Steps p.tables e below (T'.setTop { g with pc := g.pc + 2, stack := .ref a :: rest }) target → Steps p.tables e below (T.setTop g) target := by
  subst hty
  obtain ⟨T', h', kc, X', e', E', A', st⟩ := newP X hx hZ w eT hg hd hs hn hcap hb hc hl
  exact ⟨T', h', kc, h.size, X', e', E', own_ext_trans Ex E', own_Ar.new A' hz, Ex.1, rfl, st⟩
theorem own_Ar.keep {ws : List Addr} (K : Keep h h' ws) (F : own_Ar Z h a kc ty vs) (q : a ∉ ws) : own_Ar Z h' a kc ty vs := by
  obtain ⟨c, A, r⟩ := F
  exact ⟨c, ⟨K.2.1 a c A.1 q, A.2⟩, r⟩
/-! objects -/
theorem own_new (X : Stand p l e R s m args below meth c T locs cells slots) (hx : p.tables.exec = Jvm.exec) (hZ : Z.Warmed39 s.vm) {own C : String} {index n : Nat} (hown : s.vm.findClass own = some m.cls) (w : (Jvm.Cond.classLink own index C).before a0 Z = true) (wi : (Jvm.Cond.instantiable C n).before a0 Z = true) (wz : (Jvm.Cond.initialized C).before a0 Z = true) (eT : T.heap = h) (Ex : Ext Z.heap h)
    {g : JFrame} (hg : g.method = m) (hd : decode c.code g.pc = .ok (.new index, 3)) (hc : cells + 1 ≤ R.cells) (hl : slots + n ≤ R.slots) :
    ∃ T' h' a, Stand p l e R s m args below meth c T' locs (cells + 1) (slots + n) ∧ T'.heap = h' ∧ Ext h h' ∧ Ext Z.heap h' ∧ Exa Z h' a C ∧ (∀ {O nm d : String} {ty : FieldType}, Laid Z a0 C O nm d → parseFieldDescriptor d = some ty → Fld Z h' a O nm d (defaultValue ty)) ∧ Z.heap.size ≤ a ∧ h.size = a ∧
      ∀ target, Steps p.tables e below (T'.setTop { g with pc := g.pc + 3, stack := .ref a :: g.stack }) target → Steps p.tables e below (T.setTop g) target := by
  obtain ⟨T', h', X', e', E', A', D', -, st⟩ := newO X hx hZ hown w wi wz eT hg hd hc hl
  exact ⟨T', h', h.size, X', e', E', own_ext_trans Ex E', A', D', Ex.1, rfl, st⟩
theorem own_putF (X : Stand p l e R s m args below meth c T locs cells slots) (hx : p.tables.exec = Jvm.exec) (hZ : Z.Warmed39 s.vm) {own R0 O nm d C : String} {index kk : Nat} {ty : FieldType} (hown : s.vm.findClass own = some m.cls) (w : (Jvm.Cond.fieldLink own index R0 nm d).before a0 Z = true) (via : Via Z R0 O nm d)
    (eT : T.heap = h) {v old : Value} (F : Fld Z h a O nm d old) (E : Exa Z h a C) (L : (Jvm.Cond.lays C O nm d).before a0 Z = true ∨ ((Jvm.Cond.laysFinal C O nm d).before a0 Z = true ∧ own = O ∧ meth.name = "<init>")) (wi : (Jvm.Cond.instantiable C kk).before a0 Z = true)
    (hty : parseFieldDescriptor d = some ty) (hn : narrow ty v = v) (hf : fits ty v = true) (Ex : Ext Z.heap h) (ha : Z.heap.size ≤ a) (N : Fr Z.heap.size locs) {g : JFrame} (hg : g.method = m) {rest : List Value} (hs : g.stack = v :: .ref a :: rest) (hd : decode c.code g.pc = .ok (.putfield index, 3)) :
    ∃ T' h' locs', Stand p l e R s m args below meth c T' locs' cells slots ∧ T'.heap = h' ∧ Fld Z h' a O nm d v ∧ Exa Z h' a C ∧ Ext Z.heap h' ∧ Fr Z.heap.size locs' ∧ Wr h h' a (Jvm.RoadKit.slotOf Z O nm d) v ∧ ∀ target, Steps p.tables e below (T'.setTop { g with pc := g.pc + 3, stack := rest }) target → Steps p.tables e below (T.setTop g) target := by
  obtain ⟨T', h', X', e', W', st⟩ := putF X hx hZ hown (host := "") (Or.inl w) via eT F E L wi hty hn hf hg hs hd
  exact ⟨T', h', _, X', e', Fld.same W' F, Exa.wr W' E, own_ext_wr Ex W' ha, Fr.snoc X' N ha, W', st⟩
/-! from the case's words to facts on the heap -/
theorem own_exa {C nm d K : String} (hn : (Jvm.Cond.exactly (.static C nm d) K).value args s none s [] = some true) (w1 : (Jvm.Cond.initialized C).before args s = true) (w2 : (Jvm.Cond.laysStatic C nm d).before args s = true) :
    ∃ w, (Term.static C nm d).eval args s none [] s = some (.ref w) ∧ Sta s s.heap C nm d (.ref w) ∧ Exa s s.heap w K := by
  obtain ⟨w, ev⟩ := exa_v hn
  exact ⟨w, ev, Sta.start ev (Or.inr ⟨w1, w2⟩), Exa.start ev hn⟩
theorem own_fldI {t : Term} {O f d : String} {w : Addr} {z : Int32} (ev : t.eval args s none [] s = some (.ref w)) (hn : (Jvm.Cond.eq (.field t O f d) (.int z)).value args s none s [] = some true) : Fld s s.heap w O f d (.int z) := by
  obtain ⟨x, y, h1, h2, k1, k2⟩ := cmp_v (Or.inl hn)
  cases (Term.int_eval z).symm.trans h2
  obtain ⟨z', rfl⟩ := k2
  simp only [Cond.value, h1, h2] at hn
  have e1 : z' = z := by simpa using hn
  subst e1
  refine Fld.start ?_
  rw [← fld_at (C := O) (n := f) (dd := d) ev]
  exact h1
theorem own_fldJ {t : Term} {O f d : String} {w : Addr} {z : Int64} (ev : t.eval args s none [] s = some (.ref w)) (hn : (Jvm.Cond.eq (.field t O f d) (.long z)).value args s none s [] = some true) : Fld s s.heap w O f d (.long z) := by
  obtain ⟨x, y, h1, h2, k1, k2⟩ := cmp_v (Or.inl hn)
  cases (show (Term.long z).eval args s none [] s = some (.long z) from rfl).symm.trans h2
  obtain ⟨z', rfl⟩ := k2
  simp only [Cond.value, h1, h2] at hn
  have e1 : z' = z := by simpa using hn
  subst e1
  refine Fld.start ?_
  rw [← fld_at (C := O) (n := f) (dd := d) ev]
  exact h1
theorem own_fld_inj {C nm d : String} {w w' : Value} (F : Fld Z h a C nm d w) (G : Fld Z h a C nm d w') : w = w' := by
  by_cases q : w = w'
  · exact q
  · exact absurd rfl (Fld.ne F G q)
theorem own_idx (x d : Int32) (hd : 0 < d.toInt) : 0 ≤ ((x &&& 2147483647) % d).toInt ∧ ((x &&& 2147483647) % d).toInt < d.toInt := by
  have h := c_mask x 2147483647 31 (by decide) (by decide)
  have h0 : 0 ≤ (x &&& 2147483647).toInt := by omega
  have q := (c_iremV (x &&& 2147483647) d).1 h0 hd
  exact ⟨q.1, q.2.1⟩
theorem own_bm32 {x : Int} (h0 : -2147483648 ≤ x) (h1 : x < 2147483648) : x.bmod (2 ^ 32) = x := Int.bmod_eq_of_le (by omega) (by omega)
theorem own_bm64 {x : Int} (h0 : -9223372036854775808 ≤ x) (h1 : x < 9223372036854775808) : x.bmod (2 ^ 64) = x := Int.bmod_eq_of_le (by omega) (by omega)
theorem own_iadd {x y : Int32} (h0 : -2147483648 ≤ x.toInt + y.toInt) (h1 : x.toInt + y.toInt < 2147483648) : (x + y).toInt = x.toInt + y.toInt := by rw [Int32.toInt_add, own_bm32 h0 h1]
theorem own_isub {x y : Int32} (h0 : -2147483648 ≤ x.toInt - y.toInt) (h1 : x.toInt - y.toInt < 2147483648) : (x - y).toInt = x.toInt - y.toInt := by rw [Int32.toInt_sub, own_bm32 h0 h1]
theorem own_lneg {x : Int64} (h0 : -9223372036854775808 ≤ -x.toInt) (h1 : -x.toInt < 9223372036854775808) : (-x).toInt = -x.toInt := by rw [Int64.toInt_neg, own_bm64 h0 h1]
theorem own_lmul {x y : Int64} (h0 : -9223372036854775808 ≤ x.toInt * y.toInt) (h1 : x.toInt * y.toInt < 9223372036854775808) : (x * y).toInt = x.toInt * y.toInt := by rw [Int64.toInt_mul, own_bm64 h0 h1]
theorem own_cl {x y : Int64} : XT.cmpL x y < 0 ↔ x < y := by
  have h : XT.cmpL x y = lcmpV x y := by simp [XT.cmpL, lcmpV]
  rw [h]; exact lc_lt x y
theorem own_cg {x y : Int64} : 0 < XT.cmpL x y ↔ y < x := by
  have h : XT.cmpL x y = lcmpV x y := by simp [XT.cmpL, lcmpV]
  rw [h]; exact lc_gt x y
theorem own_ce {x y : Int64} : XT.cmpL x y = 0 ↔ x = y := by
  have h : XT.cmpL x y = lcmpV x y := by simp [XT.cmpL, lcmpV]
  rw [h]; exact lc_eq x y
theorem own_short {x : Int32} (h0 : -32768 ≤ x.toInt) (h1 : x.toInt < 32768) : x.toInt16.toInt32 = x := by
  have h := c_i2s x
  exact Int32.toInt_inj.mp (by omega)
theorem own_nn {i : Int32} (q : 0 ≤ i.toInt) : ¬ i < 0 := by
  rw [Int32.lt_iff_toInt_lt]
  have h : (0 : Int32).toInt = 0 := by decide
  omega
theorem own_len {t : Term} {cl : Cell} {z : Int32} (ev : t.eval args s none [] s = some (.ref a)) (A : Arr s s.heap a cl ty) (hn : (Jvm.Cond.eq (.length t) (.int z)).value args s none s [] = some true) : cl.slots.size = z.toNatClampNeg := by
  have ha : s.arrayAt? a = some cl := Arr.fin (Vm.Alike.refl _) A
  by_cases hlt : cl.slots.size < 2147483648
  · have h3 := len_f ev ha hlt
    have e1 : cl.slots.size.toInt32 = z := by
      have h4 := Term.int_eval (args := args) (first := s) (o := none) (idx := []) (s := s) z
      simp only [Cond.value, h3, h4] at hn
      simpa using hn
    have h5 := len_toInt hlt
    have h6 := nat_of (own_nn (i := cl.slots.size.toInt32) (by omega))
    rw [← e1]
    omega
  · exfalso
    simp [Cond.value, Term.eval, ev, ha, hlt] at hn
theorem own_elem {t u : Term} {cl : Cell} {j : Int32} {x : Value} (ev : t.eval args s none [] s = some (.ref a)) (A : Arr s s.heap a cl ty) (hu : u.eval args s none [] s = some x) (hx : x.isRef = true) (hn : (Jvm.Cond.eq (.elem t (.int j)) u).value args s none s [] = some true) : cl.slots[j.toNatClampNeg]? = some x := by
  obtain ⟨v, y, h1, h2, k1, k2⟩ := cmp_v (Or.inl hn)
  cases hu.symm.trans h2
  have hv : v.isRef = true := by
    rcases ref_cases hx with rfl | ⟨q, rfl⟩ <;> cases v <;> simp [Kin, Value.isRef] at k1 k2 ⊢
  have e1 := gotT (eq_R h1 hu hv hx) hn
  subst e1
  exact (elem_in h1 ev (Term.int_eval j) A.1).2
theorem own_toList {cl : Cell} (hs : cl.slots.size = vs.length) (H : HasL cl 0 vs) : cl.slots.toList = vs := by
  refine List.ext_getElem? fun j => ?_
  rw [Array.getElem?_toList]
  by_cases q : j < vs.length
  · have := HasL.at (dv := .null) vs 0 H j q
    rw [Nat.zero_add] at this
    rw [this, List.getElem?_eq_getElem q]
    simp [List.getD, q]
  · rw [List.getElem?_eq_none (by omega), Array.getElem?_eq_none (by omega)]
theorem own_arr {C nm d : String} (hn : (Jvm.Cond.arrayOf (.static C nm d) ty).value args s none s [] = some true) (w1 : (Jvm.Cond.initialized C).before args s = true) (w2 : (Jvm.Cond.laysStatic C nm d).before args s = true) :
    ∃ w cl, (Term.static C nm d).eval args s none [] s = some (.ref w) ∧ Sta s s.heap C nm d (.ref w) ∧ Arr s s.heap w cl ty := by
  obtain ⟨w, ev⟩ := arr_v hn
  obtain ⟨cl, A⟩ := Arr.start ev hn
  exact ⟨w, cl, ev, Sta.start ev (Or.inr ⟨w1, w2⟩), A⟩
theorem own_and3 (x : Int32) : 0 ≤ (x &&& 3).toInt ∧ (x &&& 3).toInt < 4 := by
  have h := c_mask x 3 2 (by decide) (by decide)
  omega
end Own
end Jvm.Pilot.@@N@@
namespace Jvm.Pilot.@@N@@
open Jvm Jvm.ClassFile Sem Op Lib Jvm.Free Jvm.Stand Jvm.LawKit Jvm.RoadKit Bundle Jvm.Pilot.@@N@@.Jvm.D
theorem own_pd0 : parseMethodDescriptor "(II)I" = some ⟨[.int, .int], some .int⟩ := by decide +kernel
theorem own_pd1 : parseMethodDescriptor "(I)Lcom/example/creditd/creditd/server/ProblemCode;" = some ⟨[.int], some (.object "com/example/creditd/creditd/server/ProblemCode")⟩ := by decide +kernel
theorem d1_0 : decode method_2_code 0 = .ok (.iload_n 1, 1) := by decide +kernel
theorem d1_1 : decode method_2_code 1 = .ok (.bipush 15, 2) := by decide +kernel
theorem d1_3 : decode method_2_code 3 = .ok (.iand, 1) := by decide +kernel
theorem d1_4 : decode method_2_code 4 = .ok (.istore_n 2, 1) := by decide +kernel
theorem d1_5 : decode method_2_code 5 = .ok (.iload_n 2, 1) := by decide +kernel
theorem d1_6 : decode method_2_code 6 = .ok (.iconst 1, 1) := by decide +kernel
theorem d1_7 : decode method_2_code 7 = .ok (.if_icmp .ne 7, 3) := by decide +kernel
theorem d1_10 : decode method_2_code 10 = .ok (.sipush 404, 3) := by decide +kernel
theorem d1_13 : decode method_2_code 13 = .ok (.ireturn, 1) := by decide +kernel
theorem d1_14 : decode method_2_code 14 = .ok (.iload_n 2, 1) := by decide +kernel
theorem d1_15 : decode method_2_code 15 = .ok (.iconst 2, 1) := by decide +kernel
theorem d1_16 : decode method_2_code 16 = .ok (.if_icmp .ne 7, 3) := by decide +kernel
theorem d1_19 : decode method_2_code 19 = .ok (.sipush 405, 3) := by decide +kernel
theorem d1_22 : decode method_2_code 22 = .ok (.ireturn, 1) := by decide +kernel
theorem d1_23 : decode method_2_code 23 = .ok (.iload_n 2, 1) := by decide +kernel
theorem d1_24 : decode method_2_code 24 = .ok (.iconst 3, 1) := by decide +kernel
theorem d1_25 : decode method_2_code 25 = .ok (.if_icmp .ne 7, 3) := by decide +kernel
theorem d1_28 : decode method_2_code 28 = .ok (.sipush 413, 3) := by decide +kernel
theorem d1_31 : decode method_2_code 31 = .ok (.ireturn, 1) := by decide +kernel
theorem d1_32 : decode method_2_code 32 = .ok (.iload_n 2, 1) := by decide +kernel
theorem d1_33 : decode method_2_code 33 = .ok (.iconst 4, 1) := by decide +kernel
theorem d1_34 : decode method_2_code 34 = .ok (.if_icmp .ne 7, 3) := by decide +kernel
theorem d1_37 : decode method_2_code 37 = .ok (.sipush 401, 3) := by decide +kernel
theorem d1_40 : decode method_2_code 40 = .ok (.ireturn, 1) := by decide +kernel
theorem d1_41 : decode method_2_code 41 = .ok (.iload_n 2, 1) := by decide +kernel
theorem d1_42 : decode method_2_code 42 = .ok (.iconst 5, 1) := by decide +kernel
theorem d1_43 : decode method_2_code 43 = .ok (.if_icmp .ne 7, 3) := by decide +kernel
theorem d1_46 : decode method_2_code 46 = .ok (.sipush 400, 3) := by decide +kernel
theorem d1_49 : decode method_2_code 49 = .ok (.ireturn, 1) := by decide +kernel
theorem d1_50 : decode method_2_code 50 = .ok (.iload_n 2, 1) := by decide +kernel
theorem d1_51 : decode method_2_code 51 = .ok (.bipush 6, 2) := by decide +kernel
theorem d1_53 : decode method_2_code 53 = .ok (.if_icmp .ne 7, 3) := by decide +kernel
theorem d1_56 : decode method_2_code 56 = .ok (.sipush 499, 3) := by decide +kernel
theorem d1_59 : decode method_2_code 59 = .ok (.ireturn, 1) := by decide +kernel
theorem d1_60 : decode method_2_code 60 = .ok (.iload_n 2, 1) := by decide +kernel
theorem d1_61 : decode method_2_code 61 = .ok (.bipush 7, 2) := by decide +kernel
theorem d1_63 : decode method_2_code 63 = .ok (.if_icmp .ne 7, 3) := by decide +kernel
theorem d1_66 : decode method_2_code 66 = .ok (.sipush 500, 3) := by decide +kernel
theorem d1_69 : decode method_2_code 69 = .ok (.ireturn, 1) := by decide +kernel
theorem d1_70 : decode method_2_code 70 = .ok (.iload_n 2, 1) := by decide +kernel
theorem d1_71 : decode method_2_code 71 = .ok (.bipush 8, 2) := by decide +kernel
theorem d1_73 : decode method_2_code 73 = .ok (.if_icmp .ne 7, 3) := by decide +kernel
theorem d1_76 : decode method_2_code 76 = .ok (.sipush 399, 3) := by decide +kernel
theorem d1_79 : decode method_2_code 79 = .ok (.ireturn, 1) := by decide +kernel
theorem d1_80 : decode method_2_code 80 = .ok (.iload_n 2, 1) := by decide +kernel
theorem d1_81 : decode method_2_code 81 = .ok (.bipush 9, 2) := by decide +kernel
theorem d1_83 : decode method_2_code 83 = .ok (.if_icmp .ne 15, 3) := by decide +kernel
theorem d1_86 : decode method_2_code 86 = .ok (.sipush 400, 3) := by decide +kernel
theorem d1_89 : decode method_2_code 89 = .ok (.iload_n 0, 1) := by decide +kernel
theorem d1_90 : decode method_2_code 90 = .ok (.ldc 7, 2) := by decide +kernel
theorem d1_92 : decode method_2_code 92 = .ok (.iand, 1) := by decide +kernel
theorem d1_93 : decode method_2_code 93 = .ok (.bipush 100, 2) := by decide +kernel
theorem d1_95 : decode method_2_code 95 = .ok (.irem, 1) := by decide +kernel
theorem d1_96 : decode method_2_code 96 = .ok (.iadd, 1) := by decide +kernel
theorem d1_97 : decode method_2_code 97 = .ok (.ireturn, 1) := by decide +kernel
theorem d1_98 : decode method_2_code 98 = .ok (.iload_n 2, 1) := by decide +kernel
theorem d1_99 : decode method_2_code 99 = .ok (.bipush 10, 2) := by decide +kernel
theorem d1_101 : decode method_2_code 101 = .ok (.if_icmp .ne 7, 3) := by decide +kernel
theorem d1_104 : decode method_2_code 104 = .ok (.sipush 422, 3) := by decide +kernel
theorem d1_107 : decode method_2_code 107 = .ok (.ireturn, 1) := by decide +kernel
theorem d1_108 : decode method_2_code 108 = .ok (.iload_n 2, 1) := by decide +kernel
theorem d1_109 : decode method_2_code 109 = .ok (.bipush 11, 2) := by decide +kernel
theorem d1_111 : decode method_2_code 111 = .ok (.if_icmp .ne 7, 3) := by decide +kernel
theorem d1_114 : decode method_2_code 114 = .ok (.sipush 403, 3) := by decide +kernel
theorem d1_117 : decode method_2_code 117 = .ok (.ireturn, 1) := by decide +kernel
theorem d1_118 : decode method_2_code 118 = .ok (.iload_n 2, 1) := by decide +kernel
theorem d1_119 : decode method_2_code 119 = .ok (.bipush 12, 2) := by decide +kernel
theorem d1_121 : decode method_2_code 121 = .ok (.if_icmp .ne 7, 3) := by decide +kernel
theorem d1_124 : decode method_2_code 124 = .ok (.sipush 409, 3) := by decide +kernel
theorem d1_127 : decode method_2_code 127 = .ok (.ireturn, 1) := by decide +kernel
theorem d1_128 : decode method_2_code 128 = .ok (.iload_n 2, 1) := by decide +kernel
theorem d1_129 : decode method_2_code 129 = .ok (.bipush 13, 2) := by decide +kernel
theorem d1_131 : decode method_2_code 131 = .ok (.if_icmp .ne 6, 3) := by decide +kernel
theorem d1_134 : decode method_2_code 134 = .ok (.ldc 10, 2) := by decide +kernel
theorem d1_136 : decode method_2_code 136 = .ok (.ireturn, 1) := by decide +kernel
theorem d1_137 : decode method_2_code 137 = .ok (.iload_n 2, 1) := by decide +kernel
theorem d1_138 : decode method_2_code 138 = .ok (.bipush 14, 2) := by decide +kernel
theorem d1_140 : decode method_2_code 140 = .ok (.if_icmp .ne 6, 3) := by decide +kernel
theorem d1_143 : decode method_2_code 143 = .ok (.ldc 7, 2) := by decide +kernel
theorem d1_145 : decode method_2_code 145 = .ok (.ireturn, 1) := by decide +kernel
theorem d1_146 : decode method_2_code 146 = .ok (.iload_n 0, 1) := by decide +kernel
theorem d1_147 : decode method_2_code 147 = .ok (.ireturn, 1) := by decide +kernel
theorem d2_0 : decode prog_38_method_6_code 0 = .ok (.iload_n 0, 1) := by decide +kernel
theorem d2_1 : decode prog_38_method_6_code 1 = .ok (.getstatic 25, 3) := by decide +kernel
theorem d2_4 : decode prog_38_method_6_code 4 = .ok (.getfield 110, 3) := by decide +kernel
theorem d2_7 : decode prog_38_method_6_code 7 = .ok (.if_icmp .ne 10, 3) := by decide +kernel
theorem d2_10 : decode prog_38_method_6_code 10 = .ok (.getstatic 25, 3) := by decide +kernel
theorem d2_13 : decode prog_38_method_6_code 13 = .ok (.astore_n 1, 1) := by decide +kernel
theorem d2_14 : decode prog_38_method_6_code 14 = .ok (.goto 79, 3) := by decide +kernel
theorem d2_17 : decode prog_38_method_6_code 17 = .ok (.iload_n 0, 1) := by decide +kernel
theorem d2_18 : decode prog_38_method_6_code 18 = .ok (.getstatic 37, 3) := by decide +kernel
theorem d2_21 : decode prog_38_method_6_code 21 = .ok (.getfield 110, 3) := by decide +kernel
theorem d2_24 : decode prog_38_method_6_code 24 = .ok (.if_icmp .ne 10, 3) := by decide +kernel
theorem d2_27 : decode prog_38_method_6_code 27 = .ok (.getstatic 37, 3) := by decide +kernel
theorem d2_30 : decode prog_38_method_6_code 30 = .ok (.astore_n 1, 1) := by decide +kernel
theorem d2_31 : decode prog_38_method_6_code 31 = .ok (.goto 62, 3) := by decide +kernel
theorem d2_34 : decode prog_38_method_6_code 34 = .ok (.iload_n 0, 1) := by decide +kernel
theorem d2_35 : decode prog_38_method_6_code 35 = .ok (.getstatic 76, 3) := by decide +kernel
theorem d2_38 : decode prog_38_method_6_code 38 = .ok (.getfield 110, 3) := by decide +kernel
theorem d2_41 : decode prog_38_method_6_code 41 = .ok (.if_icmp .ne 10, 3) := by decide +kernel
theorem d2_44 : decode prog_38_method_6_code 44 = .ok (.getstatic 76, 3) := by decide +kernel
theorem d2_47 : decode prog_38_method_6_code 47 = .ok (.astore_n 1, 1) := by decide +kernel
theorem d2_48 : decode prog_38_method_6_code 48 = .ok (.goto 45, 3) := by decide +kernel
theorem d2_51 : decode prog_38_method_6_code 51 = .ok (.iload_n 0, 1) := by decide +kernel
theorem d2_52 : decode prog_38_method_6_code 52 = .ok (.getstatic 16, 3) := by decide +kernel
theorem d2_55 : decode prog_38_method_6_code 55 = .ok (.getfield 110, 3) := by decide +kernel
theorem d2_58 : decode prog_38_method_6_code 58 = .ok (.if_icmp .ne 10, 3) := by decide +kernel
theorem d2_61 : decode prog_38_method_6_code 61 = .ok (.getstatic 16, 3) := by decide +kernel
theorem d2_64 : decode prog_38_method_6_code 64 = .ok (.astore_n 1, 1) := by decide +kernel
theorem d2_65 : decode prog_38_method_6_code 65 = .ok (.goto 28, 3) := by decide +kernel
theorem d2_68 : decode prog_38_method_6_code 68 = .ok (.iload_n 0, 1) := by decide +kernel
theorem d2_69 : decode prog_38_method_6_code 69 = .ok (.sipush 400, 3) := by decide +kernel
theorem d2_72 : decode prog_38_method_6_code 72 = .ok (.if_icmp .lt 17, 3) := by decide +kernel
theorem d2_75 : decode prog_38_method_6_code 75 = .ok (.iload_n 0, 1) := by decide +kernel
theorem d2_76 : decode prog_38_method_6_code 76 = .ok (.sipush 500, 3) := by decide +kernel
theorem d2_79 : decode prog_38_method_6_code 79 = .ok (.if_icmp .ge 10, 3) := by decide +kernel
theorem d2_82 : decode prog_38_method_6_code 82 = .ok (.getstatic 3, 3) := by decide +kernel
theorem d2_85 : decode prog_38_method_6_code 85 = .ok (.astore_n 1, 1) := by decide +kernel
theorem d2_86 : decode prog_38_method_6_code 86 = .ok (.goto 7, 3) := by decide +kernel
theorem d2_89 : decode prog_38_method_6_code 89 = .ok (.getstatic 88, 3) := by decide +kernel
theorem d2_92 : decode prog_38_method_6_code 92 = .ok (.astore_n 1, 1) := by decide +kernel
theorem d2_93 : decode prog_38_method_6_code 93 = .ok (.aload_n 1, 1) := by decide +kernel
theorem d2_94 : decode prog_38_method_6_code 94 = .ok (.areturn, 1) := by decide +kernel
theorem own_pn0 : plainFor x = true := by first | exact plainFor_of_name (by first | (simp [plainName, overriddenIn]; done) | decide +kernel) | decide +kernel
theorem own_pn1 : plainFor (⟨"com/example/creditd/creditd/server/ProblemCodeForStatusPinLaw", "pick", "(II)I"⟩ : MethodName) = true := by first | exact plainFor_of_name (by first | (simp [plainName, overriddenIn]; done) | decide +kernel) | decide +kernel
theorem own_pn2 : plainFor (⟨"com/example/creditd/creditd/server/ProblemCode", "forStatus", "(I)Lcom/example/creditd/creditd/server/ProblemCode;"⟩ : MethodName) = true := by first | exact plainFor_of_name (by first | (simp [plainName, overriddenIn]; done) | decide +kernel) | decide +kernel
def Hyp (Z : State) (w : Nat → Addr) : Prop :=
  Sta Z Z.heap "com/example/creditd/creditd/server/ProblemCode" "NOT_FOUND" "Lcom/example/creditd/creditd/server/ProblemCode;" (.ref (w 0)) ∧
  Exa Z Z.heap (w 0) "com/example/creditd/creditd/server/ProblemCode" ∧
  Fld Z Z.heap (w 0) "com/example/creditd/creditd/server/ProblemCode" "status" "I" (.int (404 : Int32)) ∧
  Sta Z Z.heap "com/example/creditd/creditd/server/ProblemCode" "METHOD_NOT_ALLOWED" "Lcom/example/creditd/creditd/server/ProblemCode;" (.ref (w 1)) ∧
  Exa Z Z.heap (w 1) "com/example/creditd/creditd/server/ProblemCode" ∧
  Fld Z Z.heap (w 1) "com/example/creditd/creditd/server/ProblemCode" "status" "I" (.int (405 : Int32)) ∧
  Sta Z Z.heap "com/example/creditd/creditd/server/ProblemCode" "REQUEST_TOO_LARGE" "Lcom/example/creditd/creditd/server/ProblemCode;" (.ref (w 2)) ∧
  Exa Z Z.heap (w 2) "com/example/creditd/creditd/server/ProblemCode" ∧
  Fld Z Z.heap (w 2) "com/example/creditd/creditd/server/ProblemCode" "status" "I" (.int (413 : Int32)) ∧
  Sta Z Z.heap "com/example/creditd/creditd/server/ProblemCode" "UNAUTHORIZED" "Lcom/example/creditd/creditd/server/ProblemCode;" (.ref (w 3)) ∧
  Exa Z Z.heap (w 3) "com/example/creditd/creditd/server/ProblemCode" ∧
  Fld Z Z.heap (w 3) "com/example/creditd/creditd/server/ProblemCode" "status" "I" (.int (401 : Int32)) ∧
  Sta Z Z.heap "com/example/creditd/creditd/server/ProblemCode" "INTERNAL_ERROR" "Lcom/example/creditd/creditd/server/ProblemCode;" (.ref (w 4)) ∧
  Exa Z Z.heap (w 4) "com/example/creditd/creditd/server/ProblemCode" ∧
  Fld Z Z.heap (w 4) "com/example/creditd/creditd/server/ProblemCode" "status" "I" (.int (500 : Int32)) ∧
  Sta Z Z.heap "com/example/creditd/creditd/server/ProblemCode" "INVALID_REQUEST" "Lcom/example/creditd/creditd/server/ProblemCode;" (.ref (w 5)) ∧
  Exa Z Z.heap (w 5) "com/example/creditd/creditd/server/ProblemCode" ∧
  Fld Z Z.heap (w 5) "com/example/creditd/creditd/server/ProblemCode" "status" "I" (.int (400 : Int32))
def own_pick (raw sel : Int32) : Int32 := if (sel &&& 15) = 1 then 404 else if (sel &&& 15) = 2 then 405 else if (sel &&& 15) = 3 then 413 else if (sel &&& 15) = 4 then 401 else if (sel &&& 15) = 5 then 400 else if (sel &&& 15) = 6 then 499 else if (sel &&& 15) = 7 then 500 else if (sel &&& 15) = 8 then 399 else if (sel &&& 15) = 9 then 400 + (raw &&& 2147483647) % 100 else if (sel &&& 15) = 10 then 422 else if (sel &&& 15) = 11 then 403 else if (sel &&& 15) = 12 then 409 else if (sel &&& 15) = 13 then -2147483648 else if (sel &&& 15) = 14 then 2147483647 else raw
def own_fs (s : Int32) (w : Nat → Addr) : Addr := if s = 404 then w 0 else if s = 405 then w 1 else if s = 413 then w 2 else if s = 401 then w 3 else if s < 400 then w 4 else if s < 500 then w 5 else w 4
theorem own_499 (s : Int32) : s < 500 ↔ ¬ 499 < s := by
  rw [Int32.lt_iff_toInt_lt, Int32.lt_iff_toInt_lt]
  have h1 : (500 : Int32).toInt = 500 := by decide
  have h2 : (499 : Int32).toInt = 499 := by decide
  omega
set_option maxRecDepth 65536 in
set_option maxHeartbeats 4000000 in
theorem rm1 (l : Launch) (Z : State) (a0 : Array Value) (hw : ∀ d ∈ tables_1, d.before a0 Z = true) (ws : List Jvm.Cond) (raw sel : Int32) (h0 : Heap) (Ex0 : Ext Z.heap h0)  :
    own_Met l Z (⟨"com/example/creditd/creditd/server/ProblemCodeForStatusPinLaw", "pick", "(II)I"⟩ : MethodName) method_2_code 3 (some .int) ws ({ frames := 0, cells := 0, slots := 0, locals := 0 } : Room) #[(.int raw), (.int sel)] h0 (own_P Z h0 (.int (own_pick raw sel))) := by
  refine own_body (ls := #[.val (.int raw), .val (.int sel), .unset]) own_pn1 (fun m => by first | (simp [entryFrame, mkF, argsToLocals, Value.category]; done) | rfl) ?_
  intro p e s m below meth c T0 hZ hx hby hml' hown' hnm hret' hlk X0 e0
  have hml : c.maxLocals = 3 := hml'
  have hown : s.vm.findClass "com/example/creditd/creditd/server/ProblemCodeForStatusPinLaw" = some m.cls := hown'
  have hret : meth.sig.returnType = (some .int) := hret'
  have N0 := Fr.nil Z.heap.size
  refine own_step (S' := T0.setTop (mkF m 1 #[.val (.int raw), .val (.int sel), .unset] [(.int sel)])) (fun t k => XS.iloadN X0.here hx rfl (hb hby d1_0) rfl k) ?_
  refine own_step (S' := T0.setTop (mkF m 3 #[.val (.int raw), .val (.int sel), .unset] [(.int (15 : Int32)), (.int sel)])) (fun t k => XS.bipush X0.here hx rfl (hb hby d1_1) k) ?_
  refine own_step (S' := T0.setTop (mkF m 4 #[.val (.int raw), .val (.int sel), .unset] [(.int (sel &&& (15 : Int32)))])) (fun t k => XS.iand X0.here hx rfl (hb hby d1_3) rfl k) ?_
  refine own_step (S' := T0.setTop (mkF m 5 #[.val (.int raw), .val (.int sel), .val (.int (sel &&& (15 : Int32)))] [])) (fun t k => XS.istoreN X0.here hx rfl (hb hby d1_4) rfl (l' := #[.val (.int raw), .val (.int sel), .val (.int (sel &&& (15 : Int32)))]) rfl k) ?_
  refine own_step (S' := T0.setTop (mkF m 6 #[.val (.int raw), .val (.int sel), .val (.int (sel &&& (15 : Int32)))] [(.int (sel &&& (15 : Int32)))])) (fun t k => XS.iloadN X0.here hx rfl (hb hby d1_5) rfl k) ?_
  refine own_step (S' := T0.setTop (mkF m 7 #[.val (.int raw), .val (.int sel), .val (.int (sel &&& (15 : Int32)))] [(.int (1 : Int32)), (.int (sel &&& (15 : Int32)))])) (fun t k => XS.iconst X0.here hx rfl (hb hby d1_6) k) ?_
  by_cases q1 : (sel &&& (15 : Int32)) = (1 : Int32)
  ·
    refine own_step (S' := T0.setTop (mkF m 10 #[.val (.int raw), .val (.int sel), .val (.int (sel &&& (15 : Int32)))] [])) (fun t k => XS.icmpNo X0.here hx rfl (hb hby d1_7) rfl (teq (q1 : (sel &&& (15 : Int32)) = (1 : Int32))).2 k) ?_
    refine own_step (S' := T0.setTop (mkF m 13 #[.val (.int raw), .val (.int sel), .val (.int (sel &&& (15 : Int32)))] [(.int (404 : Int32))])) (fun t k => XS.sipush X0.here hx rfl (hb hby d1_10) k) ?_
    exact own_retI (t := .int) X0 hx hlk hret (Or.inl rfl) rfl (hb hby d1_13) (⟨by unfold own_pick; rw [if_pos q1], N0, e0⟩) (by decide) (by decide)
  ·
    refine own_step (S' := T0.setTop (mkF m 14 #[.val (.int raw), .val (.int sel), .val (.int (sel &&& (15 : Int32)))] [])) (fun t k => XS.icmpYes X0.here hx rfl (pc0 := 7) (pc' := 14) rfl (hb hby d1_7) rfl (feq (q1 : ¬ ((sel &&& (15 : Int32)) = (1 : Int32)))).2 (by decide) (by decide) k) ?_
    refine own_step (S' := T0.setTop (mkF m 15 #[.val (.int raw), .val (.int sel), .val (.int (sel &&& (15 : Int32)))] [(.int (sel &&& (15 : Int32)))])) (fun t k => XS.iloadN X0.here hx rfl (hb hby d1_14) rfl k) ?_
    refine own_step (S' := T0.setTop (mkF m 16 #[.val (.int raw), .val (.int sel), .val (.int (sel &&& (15 : Int32)))] [(.int (2 : Int32)), (.int (sel &&& (15 : Int32)))])) (fun t k => XS.iconst X0.here hx rfl (hb hby d1_15) k) ?_
    by_cases q2 : (sel &&& (15 : Int32)) = (2 : Int32)
    ·
      refine own_step (S' := T0.setTop (mkF m 19 #[.val (.int raw), .val (.int sel), .val (.int (sel &&& (15 : Int32)))] [])) (fun t k => XS.icmpNo X0.here hx rfl (hb hby d1_16) rfl (teq (q2 : (sel &&& (15 : Int32)) = (2 : Int32))).2 k) ?_
      refine own_step (S' := T0.setTop (mkF m 22 #[.val (.int raw), .val (.int sel), .val (.int (sel &&& (15 : Int32)))] [(.int (405 : Int32))])) (fun t k => XS.sipush X0.here hx rfl (hb hby d1_19) k) ?_
      exact own_retI (t := .int) X0 hx hlk hret (Or.inl rfl) rfl (hb hby d1_22) (⟨by unfold own_pick; rw [if_neg q1, if_pos q2], N0, e0⟩) (by decide) (by decide)
    ·
      refine own_step (S' := T0.setTop (mkF m 23 #[.val (.int raw), .val (.int sel), .val (.int (sel &&& (15 : Int32)))] [])) (fun t k => XS.icmpYes X0.here hx rfl (pc0 := 16) (pc' := 23) rfl (hb hby d1_16) rfl (feq (q2 : ¬ ((sel &&& (15 : Int32)) = (2 : Int32)))).2 (by decide) (by decide) k) ?_
      refine own_step (S' := T0.setTop (mkF m 24 #[.val (.int raw), .val (.int sel), .val (.int (sel &&& (15 : Int32)))] [(.int (sel &&& (15 : Int32)))])) (fun t k => XS.iloadN X0.here hx rfl (hb hby d1_23) rfl k) ?_
      refine own_step (S' := T0.setTop (mkF m 25 #[.val (.int raw), .val (.int sel), .val (.int (sel &&& (15 : Int32)))] [(.int (3 : Int32)), (.int (sel &&& (15 : Int32)))])) (fun t k => XS.iconst X0.here hx rfl (hb hby d1_24) k) ?_
      by_cases q3 : (sel &&& (15 : Int32)) = (3 : Int32)
      ·
        refine own_step (S' := T0.setTop (mkF m 28 #[.val (.int raw), .val (.int sel), .val (.int (sel &&& (15 : Int32)))] [])) (fun t k => XS.icmpNo X0.here hx rfl (hb hby d1_25) rfl (teq (q3 : (sel &&& (15 : Int32)) = (3 : Int32))).2 k) ?_
        refine own_step (S' := T0.setTop (mkF m 31 #[.val (.int raw), .val (.int sel), .val (.int (sel &&& (15 : Int32)))] [(.int (413 : Int32))])) (fun t k => XS.sipush X0.here hx rfl (hb hby d1_28) k) ?_
        exact own_retI (t := .int) X0 hx hlk hret (Or.inl rfl) rfl (hb hby d1_31) (⟨by unfold own_pick; rw [if_neg q1, if_neg q2, if_pos q3], N0, e0⟩) (by decide) (by decide)
      ·
        refine own_step (S' := T0.setTop (mkF m 32 #[.val (.int raw), .val (.int sel), .val (.int (sel &&& (15 : Int32)))] [])) (fun t k => XS.icmpYes X0.here hx rfl (pc0 := 25) (pc' := 32) rfl (hb hby d1_25) rfl (feq (q3 : ¬ ((sel &&& (15 : Int32)) = (3 : Int32)))).2 (by decide) (by decide) k) ?_
        refine own_step (S' := T0.setTop (mkF m 33 #[.val (.int raw), .val (.int sel), .val (.int (sel &&& (15 : Int32)))] [(.int (sel &&& (15 : Int32)))])) (fun t k => XS.iloadN X0.here hx rfl (hb hby d1_32) rfl k) ?_
        refine own_step (S' := T0.setTop (mkF m 34 #[.val (.int raw), .val (.int sel), .val (.int (sel &&& (15 : Int32)))] [(.int (4 : Int32)), (.int (sel &&& (15 : Int32)))])) (fun t k => XS.iconst X0.here hx rfl (hb hby d1_33) k) ?_
        by_cases q4 : (sel &&& (15 : Int32)) = (4 : Int32)
        ·
          refine own_step (S' := T0.setTop (mkF m 37 #[.val (.int raw), .val (.int sel), .val (.int (sel &&& (15 : Int32)))] [])) (fun t k => XS.icmpNo X0.here hx rfl (hb hby d1_34) rfl (teq (q4 : (sel &&& (15 : Int32)) = (4 : Int32))).2 k) ?_
          refine own_step (S' := T0.setTop (mkF m 40 #[.val (.int raw), .val (.int sel), .val (.int (sel &&& (15 : Int32)))] [(.int (401 : Int32))])) (fun t k => XS.sipush X0.here hx rfl (hb hby d1_37) k) ?_
          exact own_retI (t := .int) X0 hx hlk hret (Or.inl rfl) rfl (hb hby d1_40) (⟨by unfold own_pick; rw [if_neg q1, if_neg q2, if_neg q3, if_pos q4], N0, e0⟩) (by decide) (by decide)
        ·
          refine own_step (S' := T0.setTop (mkF m 41 #[.val (.int raw), .val (.int sel), .val (.int (sel &&& (15 : Int32)))] [])) (fun t k => XS.icmpYes X0.here hx rfl (pc0 := 34) (pc' := 41) rfl (hb hby d1_34) rfl (feq (q4 : ¬ ((sel &&& (15 : Int32)) = (4 : Int32)))).2 (by decide) (by decide) k) ?_
          refine own_step (S' := T0.setTop (mkF m 42 #[.val (.int raw), .val (.int sel), .val (.int (sel &&& (15 : Int32)))] [(.int (sel &&& (15 : Int32)))])) (fun t k => XS.iloadN X0.here hx rfl (hb hby d1_41) rfl k) ?_
          refine own_step (S' := T0.setTop (mkF m 43 #[.val (.int raw), .val (.int sel), .val (.int (sel &&& (15 : Int32)))] [(.int (5 : Int32)), (.int (sel &&& (15 : Int32)))])) (fun t k => XS.iconst X0.here hx rfl (hb hby d1_42) k) ?_
          by_cases q5 : (sel &&& (15 : Int32)) = (5 : Int32)
          ·
            refine own_step (S' := T0.setTop (mkF m 46 #[.val (.int raw), .val (.int sel), .val (.int (sel &&& (15 : Int32)))] [])) (fun t k => XS.icmpNo X0.here hx rfl (hb hby d1_43) rfl (teq (q5 : (sel &&& (15 : Int32)) = (5 : Int32))).2 k) ?_
            refine own_step (S' := T0.setTop (mkF m 49 #[.val (.int raw), .val (.int sel), .val (.int (sel &&& (15 : Int32)))] [(.int (400 : Int32))])) (fun t k => XS.sipush X0.here hx rfl (hb hby d1_46) k) ?_
            exact own_retI (t := .int) X0 hx hlk hret (Or.inl rfl) rfl (hb hby d1_49) (⟨by unfold own_pick; rw [if_neg q1, if_neg q2, if_neg q3, if_neg q4, if_pos q5], N0, e0⟩) (by decide) (by decide)
          ·
            refine own_step (S' := T0.setTop (mkF m 50 #[.val (.int raw), .val (.int sel), .val (.int (sel &&& (15 : Int32)))] [])) (fun t k => XS.icmpYes X0.here hx rfl (pc0 := 43) (pc' := 50) rfl (hb hby d1_43) rfl (feq (q5 : ¬ ((sel &&& (15 : Int32)) = (5 : Int32)))).2 (by decide) (by decide) k) ?_
            refine own_step (S' := T0.setTop (mkF m 51 #[.val (.int raw), .val (.int sel), .val (.int (sel &&& (15 : Int32)))] [(.int (sel &&& (15 : Int32)))])) (fun t k => XS.iloadN X0.here hx rfl (hb hby d1_50) rfl k) ?_
            refine own_step (S' := T0.setTop (mkF m 53 #[.val (.int raw), .val (.int sel), .val (.int (sel &&& (15 : Int32)))] [(.int (6 : Int32)), (.int (sel &&& (15 : Int32)))])) (fun t k => XS.bipush X0.here hx rfl (hb hby d1_51) k) ?_
            by_cases q6 : (sel &&& (15 : Int32)) = (6 : Int32)
            ·
              refine own_step (S' := T0.setTop (mkF m 56 #[.val (.int raw), .val (.int sel), .val (.int (sel &&& (15 : Int32)))] [])) (fun t k => XS.icmpNo X0.here hx rfl (hb hby d1_53) rfl (teq (q6 : (sel &&& (15 : Int32)) = (6 : Int32))).2 k) ?_
              refine own_step (S' := T0.setTop (mkF m 59 #[.val (.int raw), .val (.int sel), .val (.int (sel &&& (15 : Int32)))] [(.int (499 : Int32))])) (fun t k => XS.sipush X0.here hx rfl (hb hby d1_56) k) ?_
              exact own_retI (t := .int) X0 hx hlk hret (Or.inl rfl) rfl (hb hby d1_59) (⟨by unfold own_pick; rw [if_neg q1, if_neg q2, if_neg q3, if_neg q4, if_neg q5, if_pos q6], N0, e0⟩) (by decide) (by decide)
            ·
              refine own_step (S' := T0.setTop (mkF m 60 #[.val (.int raw), .val (.int sel), .val (.int (sel &&& (15 : Int32)))] [])) (fun t k => XS.icmpYes X0.here hx rfl (pc0 := 53) (pc' := 60) rfl (hb hby d1_53) rfl (feq (q6 : ¬ ((sel &&& (15 : Int32)) = (6 : Int32)))).2 (by decide) (by decide) k) ?_
              refine own_step (S' := T0.setTop (mkF m 61 #[.val (.int raw), .val (.int sel), .val (.int (sel &&& (15 : Int32)))] [(.int (sel &&& (15 : Int32)))])) (fun t k => XS.iloadN X0.here hx rfl (hb hby d1_60) rfl k) ?_
              refine own_step (S' := T0.setTop (mkF m 63 #[.val (.int raw), .val (.int sel), .val (.int (sel &&& (15 : Int32)))] [(.int (7 : Int32)), (.int (sel &&& (15 : Int32)))])) (fun t k => XS.bipush X0.here hx rfl (hb hby d1_61) k) ?_
              by_cases q7 : (sel &&& (15 : Int32)) = (7 : Int32)
              ·
                refine own_step (S' := T0.setTop (mkF m 66 #[.val (.int raw), .val (.int sel), .val (.int (sel &&& (15 : Int32)))] [])) (fun t k => XS.icmpNo X0.here hx rfl (hb hby d1_63) rfl (teq (q7 : (sel &&& (15 : Int32)) = (7 : Int32))).2 k) ?_
                refine own_step (S' := T0.setTop (mkF m 69 #[.val (.int raw), .val (.int sel), .val (.int (sel &&& (15 : Int32)))] [(.int (500 : Int32))])) (fun t k => XS.sipush X0.here hx rfl (hb hby d1_66) k) ?_
                exact own_retI (t := .int) X0 hx hlk hret (Or.inl rfl) rfl (hb hby d1_69) (⟨by unfold own_pick; rw [if_neg q1, if_neg q2, if_neg q3, if_neg q4, if_neg q5, if_neg q6, if_pos q7], N0, e0⟩) (by decide) (by decide)
              ·
                refine own_step (S' := T0.setTop (mkF m 70 #[.val (.int raw), .val (.int sel), .val (.int (sel &&& (15 : Int32)))] [])) (fun t k => XS.icmpYes X0.here hx rfl (pc0 := 63) (pc' := 70) rfl (hb hby d1_63) rfl (feq (q7 : ¬ ((sel &&& (15 : Int32)) = (7 : Int32)))).2 (by decide) (by decide) k) ?_
                refine own_step (S' := T0.setTop (mkF m 71 #[.val (.int raw), .val (.int sel), .val (.int (sel &&& (15 : Int32)))] [(.int (sel &&& (15 : Int32)))])) (fun t k => XS.iloadN X0.here hx rfl (hb hby d1_70) rfl k) ?_
                refine own_step (S' := T0.setTop (mkF m 73 #[.val (.int raw), .val (.int sel), .val (.int (sel &&& (15 : Int32)))] [(.int (8 : Int32)), (.int (sel &&& (15 : Int32)))])) (fun t k => XS.bipush X0.here hx rfl (hb hby d1_71) k) ?_
                by_cases q8 : (sel &&& (15 : Int32)) = (8 : Int32)
                ·
                  refine own_step (S' := T0.setTop (mkF m 76 #[.val (.int raw), .val (.int sel), .val (.int (sel &&& (15 : Int32)))] [])) (fun t k => XS.icmpNo X0.here hx rfl (hb hby d1_73) rfl (teq (q8 : (sel &&& (15 : Int32)) = (8 : Int32))).2 k) ?_
                  refine own_step (S' := T0.setTop (mkF m 79 #[.val (.int raw), .val (.int sel), .val (.int (sel &&& (15 : Int32)))] [(.int (399 : Int32))])) (fun t k => XS.sipush X0.here hx rfl (hb hby d1_76) k) ?_
                  exact own_retI (t := .int) X0 hx hlk hret (Or.inl rfl) rfl (hb hby d1_79) (⟨by unfold own_pick; rw [if_neg q1, if_neg q2, if_neg q3, if_neg q4, if_neg q5, if_neg q6, if_neg q7, if_pos q8], N0, e0⟩) (by decide) (by decide)
                ·
                  refine own_step (S' := T0.setTop (mkF m 80 #[.val (.int raw), .val (.int sel), .val (.int (sel &&& (15 : Int32)))] [])) (fun t k => XS.icmpYes X0.here hx rfl (pc0 := 73) (pc' := 80) rfl (hb hby d1_73) rfl (feq (q8 : ¬ ((sel &&& (15 : Int32)) = (8 : Int32)))).2 (by decide) (by decide) k) ?_
                  refine own_step (S' := T0.setTop (mkF m 81 #[.val (.int raw), .val (.int sel), .val (.int (sel &&& (15 : Int32)))] [(.int (sel &&& (15 : Int32)))])) (fun t k => XS.iloadN X0.here hx rfl (hb hby d1_80) rfl k) ?_
                  refine own_step (S' := T0.setTop (mkF m 83 #[.val (.int raw), .val (.int sel), .val (.int (sel &&& (15 : Int32)))] [(.int (9 : Int32)), (.int (sel &&& (15 : Int32)))])) (fun t k => XS.bipush X0.here hx rfl (hb hby d1_81) k) ?_
                  by_cases q9 : (sel &&& (15 : Int32)) = (9 : Int32)
                  ·
                    refine own_step (S' := T0.setTop (mkF m 86 #[.val (.int raw), .val (.int sel), .val (.int (sel &&& (15 : Int32)))] [])) (fun t k => XS.icmpNo X0.here hx rfl (hb hby d1_83) rfl (teq (q9 : (sel &&& (15 : Int32)) = (9 : Int32))).2 k) ?_
                    refine own_step (S' := T0.setTop (mkF m 89 #[.val (.int raw), .val (.int sel), .val (.int (sel &&& (15 : Int32)))] [(.int (400 : Int32))])) (fun t k => XS.sipush X0.here hx rfl (hb hby d1_86) k) ?_
                    refine own_step (S' := T0.setTop (mkF m 90 #[.val (.int raw), .val (.int sel), .val (.int (sel &&& (15 : Int32)))] [(.int raw), (.int (400 : Int32))])) (fun t k => XS.iloadN X0.here hx rfl (hb hby d1_89) rfl k) ?_
                    refine own_step (S' := T0.setTop (mkF m 92 #[.val (.int raw), .val (.int sel), .val (.int (sel &&& (15 : Int32)))] [(.int (2147483647 : Int32)), (.int raw), (.int (400 : Int32))])) (fun t k => own_ldcI (own := "com/example/creditd/creditd/server/ProblemCodeForStatusPinLaw") (index := 7) (v := (2147483647 : Int32)) X0 hx hZ hown (hw _ (List.mem_of_getElem? (i := 28) rfl)) (g := (mkF m 90 #[.val (.int raw), .val (.int sel), .val (.int (sel &&& (15 : Int32)))] [(.int raw), (.int (400 : Int32))])) rfl (hb hby d1_90) t k) ?_
                    refine own_step (S' := T0.setTop (mkF m 93 #[.val (.int raw), .val (.int sel), .val (.int (sel &&& (15 : Int32)))] [(.int (raw &&& (2147483647 : Int32))), (.int (400 : Int32))])) (fun t k => XS.iand X0.here hx rfl (hb hby d1_92) rfl k) ?_
                    refine own_step (S' := T0.setTop (mkF m 95 #[.val (.int raw), .val (.int sel), .val (.int (sel &&& (15 : Int32)))] [(.int (100 : Int32)), (.int (raw &&& (2147483647 : Int32))), (.int (400 : Int32))])) (fun t k => XS.bipush X0.here hx rfl (hb hby d1_93) k) ?_
                    refine own_step (S' := T0.setTop (mkF m 96 #[.val (.int raw), .val (.int sel), .val (.int (sel &&& (15 : Int32)))] [(.int ((raw &&& (2147483647 : Int32)) % (100 : Int32))), (.int (400 : Int32))])) (fun t k => iremM X0 hx rfl (hb hby d1_95) rfl (by decide) k) ?_
                    refine own_step (S' := T0.setTop (mkF m 97 #[.val (.int raw), .val (.int sel), .val (.int (sel &&& (15 : Int32)))] [(.int ((400 : Int32) + ((raw &&& (2147483647 : Int32)) % (100 : Int32))))])) (fun t k => XS.iadd X0.here hx rfl (hb hby d1_96) rfl k) ?_
                    exact own_retI (t := .int) X0 hx hlk hret (Or.inl rfl) rfl (hb hby d1_97) (⟨by unfold own_pick; rw [if_neg q1, if_neg q2, if_neg q3, if_neg q4, if_neg q5, if_neg q6, if_neg q7, if_neg q8, if_pos q9], N0, e0⟩) (by decide) (by decide)
                  ·
                    refine own_step (S' := T0.setTop (mkF m 98 #[.val (.int raw), .val (.int sel), .val (.int (sel &&& (15 : Int32)))] [])) (fun t k => XS.icmpYes X0.here hx rfl (pc0 := 83) (pc' := 98) rfl (hb hby d1_83) rfl (feq (q9 : ¬ ((sel &&& (15 : Int32)) = (9 : Int32)))).2 (by decide) (by decide) k) ?_
                    refine own_step (S' := T0.setTop (mkF m 99 #[.val (.int raw), .val (.int sel), .val (.int (sel &&& (15 : Int32)))] [(.int (sel &&& (15 : Int32)))])) (fun t k => XS.iloadN X0.here hx rfl (hb hby d1_98) rfl k) ?_
                    refine own_step (S' := T0.setTop (mkF m 101 #[.val (.int raw), .val (.int sel), .val (.int (sel &&& (15 : Int32)))] [(.int (10 : Int32)), (.int (sel &&& (15 : Int32)))])) (fun t k => XS.bipush X0.here hx rfl (hb hby d1_99) k) ?_
                    by_cases q10 : (sel &&& (15 : Int32)) = (10 : Int32)
                    ·
                      refine own_step (S' := T0.setTop (mkF m 104 #[.val (.int raw), .val (.int sel), .val (.int (sel &&& (15 : Int32)))] [])) (fun t k => XS.icmpNo X0.here hx rfl (hb hby d1_101) rfl (teq (q10 : (sel &&& (15 : Int32)) = (10 : Int32))).2 k) ?_
                      refine own_step (S' := T0.setTop (mkF m 107 #[.val (.int raw), .val (.int sel), .val (.int (sel &&& (15 : Int32)))] [(.int (422 : Int32))])) (fun t k => XS.sipush X0.here hx rfl (hb hby d1_104) k) ?_
                      exact own_retI (t := .int) X0 hx hlk hret (Or.inl rfl) rfl (hb hby d1_107) (⟨by unfold own_pick; rw [if_neg q1, if_neg q2, if_neg q3, if_neg q4, if_neg q5, if_neg q6, if_neg q7, if_neg q8, if_neg q9, if_pos q10], N0, e0⟩) (by decide) (by decide)
                    ·
                      refine own_step (S' := T0.setTop (mkF m 108 #[.val (.int raw), .val (.int sel), .val (.int (sel &&& (15 : Int32)))] [])) (fun t k => XS.icmpYes X0.here hx rfl (pc0 := 101) (pc' := 108) rfl (hb hby d1_101) rfl (feq (q10 : ¬ ((sel &&& (15 : Int32)) = (10 : Int32)))).2 (by decide) (by decide) k) ?_
                      refine own_step (S' := T0.setTop (mkF m 109 #[.val (.int raw), .val (.int sel), .val (.int (sel &&& (15 : Int32)))] [(.int (sel &&& (15 : Int32)))])) (fun t k => XS.iloadN X0.here hx rfl (hb hby d1_108) rfl k) ?_
                      refine own_step (S' := T0.setTop (mkF m 111 #[.val (.int raw), .val (.int sel), .val (.int (sel &&& (15 : Int32)))] [(.int (11 : Int32)), (.int (sel &&& (15 : Int32)))])) (fun t k => XS.bipush X0.here hx rfl (hb hby d1_109) k) ?_
                      by_cases q11 : (sel &&& (15 : Int32)) = (11 : Int32)
                      ·
                        refine own_step (S' := T0.setTop (mkF m 114 #[.val (.int raw), .val (.int sel), .val (.int (sel &&& (15 : Int32)))] [])) (fun t k => XS.icmpNo X0.here hx rfl (hb hby d1_111) rfl (teq (q11 : (sel &&& (15 : Int32)) = (11 : Int32))).2 k) ?_
                        refine own_step (S' := T0.setTop (mkF m 117 #[.val (.int raw), .val (.int sel), .val (.int (sel &&& (15 : Int32)))] [(.int (403 : Int32))])) (fun t k => XS.sipush X0.here hx rfl (hb hby d1_114) k) ?_
                        exact own_retI (t := .int) X0 hx hlk hret (Or.inl rfl) rfl (hb hby d1_117) (⟨by unfold own_pick; rw [if_neg q1, if_neg q2, if_neg q3, if_neg q4, if_neg q5, if_neg q6, if_neg q7, if_neg q8, if_neg q9, if_neg q10, if_pos q11], N0, e0⟩) (by decide) (by decide)
                      ·
                        refine own_step (S' := T0.setTop (mkF m 118 #[.val (.int raw), .val (.int sel), .val (.int (sel &&& (15 : Int32)))] [])) (fun t k => XS.icmpYes X0.here hx rfl (pc0 := 111) (pc' := 118) rfl (hb hby d1_111) rfl (feq (q11 : ¬ ((sel &&& (15 : Int32)) = (11 : Int32)))).2 (by decide) (by decide) k) ?_
                        refine own_step (S' := T0.setTop (mkF m 119 #[.val (.int raw), .val (.int sel), .val (.int (sel &&& (15 : Int32)))] [(.int (sel &&& (15 : Int32)))])) (fun t k => XS.iloadN X0.here hx rfl (hb hby d1_118) rfl k) ?_
                        refine own_step (S' := T0.setTop (mkF m 121 #[.val (.int raw), .val (.int sel), .val (.int (sel &&& (15 : Int32)))] [(.int (12 : Int32)), (.int (sel &&& (15 : Int32)))])) (fun t k => XS.bipush X0.here hx rfl (hb hby d1_119) k) ?_
                        by_cases q12 : (sel &&& (15 : Int32)) = (12 : Int32)
                        ·
                          refine own_step (S' := T0.setTop (mkF m 124 #[.val (.int raw), .val (.int sel), .val (.int (sel &&& (15 : Int32)))] [])) (fun t k => XS.icmpNo X0.here hx rfl (hb hby d1_121) rfl (teq (q12 : (sel &&& (15 : Int32)) = (12 : Int32))).2 k) ?_
                          refine own_step (S' := T0.setTop (mkF m 127 #[.val (.int raw), .val (.int sel), .val (.int (sel &&& (15 : Int32)))] [(.int (409 : Int32))])) (fun t k => XS.sipush X0.here hx rfl (hb hby d1_124) k) ?_
                          exact own_retI (t := .int) X0 hx hlk hret (Or.inl rfl) rfl (hb hby d1_127) (⟨by unfold own_pick; rw [if_neg q1, if_neg q2, if_neg q3, if_neg q4, if_neg q5, if_neg q6, if_neg q7, if_neg q8, if_neg q9, if_neg q10, if_neg q11, if_pos q12], N0, e0⟩) (by decide) (by decide)
                        ·
                          refine own_step (S' := T0.setTop (mkF m 128 #[.val (.int raw), .val (.int sel), .val (.int (sel &&& (15 : Int32)))] [])) (fun t k => XS.icmpYes X0.here hx rfl (pc0 := 121) (pc' := 128) rfl (hb hby d1_121) rfl (feq (q12 : ¬ ((sel &&& (15 : Int32)) = (12 : Int32)))).2 (by decide) (by decide) k) ?_
                          refine own_step (S' := T0.setTop (mkF m 129 #[.val (.int raw), .val (.int sel), .val (.int (sel &&& (15 : Int32)))] [(.int (sel &&& (15 : Int32)))])) (fun t k => XS.iloadN X0.here hx rfl (hb hby d1_128) rfl k) ?_
                          refine own_step (S' := T0.setTop (mkF m 131 #[.val (.int raw), .val (.int sel), .val (.int (sel &&& (15 : Int32)))] [(.int (13 : Int32)), (.int (sel &&& (15 : Int32)))])) (fun t k => XS.bipush X0.here hx rfl (hb hby d1_129) k) ?_
                          by_cases q13 : (sel &&& (15 : Int32)) = (13 : Int32)
                          ·
                            refine own_step (S' := T0.setTop (mkF m 134 #[.val (.int raw), .val (.int sel), .val (.int (sel &&& (15 : Int32)))] [])) (fun t k => XS.icmpNo X0.here hx rfl (hb hby d1_131) rfl (teq (q13 : (sel &&& (15 : Int32)) = (13 : Int32))).2 k) ?_
                            refine own_step (S' := T0.setTop (mkF m 136 #[.val (.int raw), .val (.int sel), .val (.int (sel &&& (15 : Int32)))] [(.int (-2147483648 : Int32))])) (fun t k => own_ldcI (own := "com/example/creditd/creditd/server/ProblemCodeForStatusPinLaw") (index := 10) (v := (-2147483648 : Int32)) X0 hx hZ hown (hw _ (List.mem_of_getElem? (i := 24) rfl)) (g := (mkF m 134 #[.val (.int raw), .val (.int sel), .val (.int (sel &&& (15 : Int32)))] [])) rfl (hb hby d1_134) t k) ?_
                            exact own_retI (t := .int) X0 hx hlk hret (Or.inl rfl) rfl (hb hby d1_136) (⟨by unfold own_pick; rw [if_neg q1, if_neg q2, if_neg q3, if_neg q4, if_neg q5, if_neg q6, if_neg q7, if_neg q8, if_neg q9, if_neg q10, if_neg q11, if_neg q12, if_pos q13], N0, e0⟩) (by decide) (by decide)
                          ·
                            refine own_step (S' := T0.setTop (mkF m 137 #[.val (.int raw), .val (.int sel), .val (.int (sel &&& (15 : Int32)))] [])) (fun t k => XS.icmpYes X0.here hx rfl (pc0 := 131) (pc' := 137) rfl (hb hby d1_131) rfl (feq (q13 : ¬ ((sel &&& (15 : Int32)) = (13 : Int32)))).2 (by decide) (by decide) k) ?_
                            refine own_step (S' := T0.setTop (mkF m 138 #[.val (.int raw), .val (.int sel), .val (.int (sel &&& (15 : Int32)))] [(.int (sel &&& (15 : Int32)))])) (fun t k => XS.iloadN X0.here hx rfl (hb hby d1_137) rfl k) ?_
                            refine own_step (S' := T0.setTop (mkF m 140 #[.val (.int raw), .val (.int sel), .val (.int (sel &&& (15 : Int32)))] [(.int (14 : Int32)), (.int (sel &&& (15 : Int32)))])) (fun t k => XS.bipush X0.here hx rfl (hb hby d1_138) k) ?_
                            by_cases q14 : (sel &&& (15 : Int32)) = (14 : Int32)
                            ·
                              refine own_step (S' := T0.setTop (mkF m 143 #[.val (.int raw), .val (.int sel), .val (.int (sel &&& (15 : Int32)))] [])) (fun t k => XS.icmpNo X0.here hx rfl (hb hby d1_140) rfl (teq (q14 : (sel &&& (15 : Int32)) = (14 : Int32))).2 k) ?_
                              refine own_step (S' := T0.setTop (mkF m 145 #[.val (.int raw), .val (.int sel), .val (.int (sel &&& (15 : Int32)))] [(.int (2147483647 : Int32))])) (fun t k => own_ldcI (own := "com/example/creditd/creditd/server/ProblemCodeForStatusPinLaw") (index := 7) (v := (2147483647 : Int32)) X0 hx hZ hown (hw _ (List.mem_of_getElem? (i := 28) rfl)) (g := (mkF m 143 #[.val (.int raw), .val (.int sel), .val (.int (sel &&& (15 : Int32)))] [])) rfl (hb hby d1_143) t k) ?_
                              exact own_retI (t := .int) X0 hx hlk hret (Or.inl rfl) rfl (hb hby d1_145) (⟨by unfold own_pick; rw [if_neg q1, if_neg q2, if_neg q3, if_neg q4, if_neg q5, if_neg q6, if_neg q7, if_neg q8, if_neg q9, if_neg q10, if_neg q11, if_neg q12, if_neg q13, if_pos q14], N0, e0⟩) (by decide) (by decide)
                            ·
                              refine own_step (S' := T0.setTop (mkF m 146 #[.val (.int raw), .val (.int sel), .val (.int (sel &&& (15 : Int32)))] [])) (fun t k => XS.icmpYes X0.here hx rfl (pc0 := 140) (pc' := 146) rfl (hb hby d1_140) rfl (feq (q14 : ¬ ((sel &&& (15 : Int32)) = (14 : Int32)))).2 (by decide) (by decide) k) ?_
                              refine own_step (S' := T0.setTop (mkF m 147 #[.val (.int raw), .val (.int sel), .val (.int (sel &&& (15 : Int32)))] [(.int raw)])) (fun t k => XS.iloadN X0.here hx rfl (hb hby d1_146) rfl k) ?_
                              exact own_retI (t := .int) X0 hx hlk hret (Or.inl rfl) rfl (hb hby d1_147) (⟨by unfold own_pick; rw [if_neg q1, if_neg q2, if_neg q3, if_neg q4, if_neg q5, if_neg q6, if_neg q7, if_neg q8, if_neg q9, if_neg q10, if_neg q11, if_neg q12, if_neg q13, if_neg q14], N0, e0⟩) (by decide) (by decide)
set_option maxRecDepth 65536 in
set_option maxHeartbeats 4000000 in
theorem rm2 (l : Launch) (Z : State) (a0 : Array Value) (hw : ∀ d ∈ tables_1, d.before a0 Z = true) (ws : List Jvm.Cond) (w : Nat → Addr) (H : Hyp Z w) (z : Int32) (h0 : Heap) (Ex0 : Ext Z.heap h0)  :
    own_Met l Z (⟨"com/example/creditd/creditd/server/ProblemCode", "forStatus", "(I)Lcom/example/creditd/creditd/server/ProblemCode;"⟩ : MethodName) prog_38_method_6_code 2 (some (.object "com/example/creditd/creditd/server/ProblemCode")) ws ({ frames := 0, cells := 0, slots := 0, locals := 0 } : Room) #[(.int z)] h0 (own_P Z h0 (.ref (own_fs z w))) := by
  obtain ⟨sS0, sE0, sF0_status, sS1, sE1, sF1_status, sS2, sE2, sF2_status, sS3, sE3, sF3_status, sS4, sE4, sF4_status, sS5, sE5, sF5_status⟩ := H
  refine own_body (ls := #[.val (.int z), .unset]) own_pn2 (fun m => by first | (simp [entryFrame, mkF, argsToLocals, Value.category]; done) | rfl) ?_
  intro p e s m below meth c T0 hZ hx hby hml' hown' hnm hret' hlk X0 e0
  have hml : c.maxLocals = 2 := hml'
  have hown : s.vm.findClass "com/example/creditd/creditd/server/ProblemCode" = some m.cls := hown'
  have hret : meth.sig.returnType = (some (.object "com/example/creditd/creditd/server/ProblemCode")) := hret'
  have N0 := Fr.nil Z.heap.size
  refine own_step (S' := T0.setTop (mkF m 1 #[.val (.int z), .unset] [(.int z)])) (fun t k => XS.iloadN X0.here hx rfl (hb hby d2_0) rfl k) ?_
  obtain ⟨T1, X1, e1, st1⟩ := getS2 X0 hx hZ hown (host := "") (Or.inl (hw _ (List.mem_of_getElem? (i := 8) rfl))) Via.refl e0 (sS0.ext Ex0) (g := (mkF m 1 #[.val (.int z), .unset] [(.int z)])) rfl (hb hby d2_1)
  refine own_step (S' := T1.setTop (mkF m 4 #[.val (.int z), .unset] [(.ref (w 0)), (.int z)])) (fun t k => st1 t k) ?_
  obtain ⟨T2, X2, e2, st2⟩ := getF X1 hx hZ hown (host := "") (Or.inl (hw _ (List.mem_of_getElem? (i := 10) rfl))) Via.refl e1 (sF0_status.ext Ex0) (g := (mkF m 4 #[.val (.int z), .unset] [(.ref (w 0)), (.int z)])) rfl rfl (hb hby d2_4)
  refine own_step (S' := T2.setTop (mkF m 7 #[.val (.int z), .unset] [(.int (404 : Int32)), (.int z)])) (fun t k => st2 t k) ?_
  by_cases q3 : z = (404 : Int32)
  ·
    refine own_step (S' := T2.setTop (mkF m 10 #[.val (.int z), .unset] [])) (fun t k => XS.icmpNo X2.here hx rfl (hb hby d2_7) rfl (teq (q3 : z = (404 : Int32))).2 k) ?_
    obtain ⟨T4, X4, e4, st4⟩ := getS2 X2 hx hZ hown (host := "") (Or.inl (hw _ (List.mem_of_getElem? (i := 8) rfl))) Via.refl e2 (sS0.ext Ex0) (g := (mkF m 10 #[.val (.int z), .unset] [])) rfl (hb hby d2_10)
    refine own_step (S' := T4.setTop (mkF m 13 #[.val (.int z), .unset] [(.ref (w 0))])) (fun t k => st4 t k) ?_
    refine own_step (S' := T4.setTop (mkF m 14 #[.val (.int z), .val (.ref (w 0))] [])) (fun t k => XS.astoreN X4.here hx rfl (hb hby d2_13) rfl rfl (l' := #[.val (.int z), .val (.ref (w 0))]) rfl k) ?_
    refine own_step (S' := T4.setTop (mkF m 93 #[.val (.int z), .val (.ref (w 0))] [])) (fun t k => XS.goto X4.here hx rfl (pc0 := 14) (pc' := 93) rfl (hb hby d2_14) (by decide) (by decide) k) ?_
    refine own_step (S' := T4.setTop (mkF m 94 #[.val (.int z), .val (.ref (w 0))] [(.ref (w 0))])) (fun t k => XS.aloadN X4.here hx rfl (hb hby d2_93) rfl rfl k) ?_
    exact own_retA X4 hx hlk hret rfl rfl (hb hby d2_94) (⟨by unfold own_fs; rw [if_pos q3], N0, e4⟩) (by decide) (by decide)
  ·
    refine own_step (S' := T2.setTop (mkF m 17 #[.val (.int z), .unset] [])) (fun t k => XS.icmpYes X2.here hx rfl (pc0 := 7) (pc' := 17) rfl (hb hby d2_7) rfl (feq (q3 : ¬ (z = (404 : Int32)))).2 (by decide) (by decide) k) ?_
    refine own_step (S' := T2.setTop (mkF m 18 #[.val (.int z), .unset] [(.int z)])) (fun t k => XS.iloadN X2.here hx rfl (hb hby d2_17) rfl k) ?_
    obtain ⟨T5, X5, e5, st5⟩ := getS2 X2 hx hZ hown (host := "") (Or.inl (hw _ (List.mem_of_getElem? (i := 12) rfl))) Via.refl e2 (sS1.ext Ex0) (g := (mkF m 18 #[.val (.int z), .unset] [(.int z)])) rfl (hb hby d2_18)
    refine own_step (S' := T5.setTop (mkF m 21 #[.val (.int z), .unset] [(.ref (w 1)), (.int z)])) (fun t k => st5 t k) ?_
    obtain ⟨T6, X6, e6, st6⟩ := getF X5 hx hZ hown (host := "") (Or.inl (hw _ (List.mem_of_getElem? (i := 10) rfl))) Via.refl e5 (sF1_status.ext Ex0) (g := (mkF m 21 #[.val (.int z), .unset] [(.ref (w 1)), (.int z)])) rfl rfl (hb hby d2_21)
    refine own_step (S' := T6.setTop (mkF m 24 #[.val (.int z), .unset] [(.int (405 : Int32)), (.int z)])) (fun t k => st6 t k) ?_
    by_cases q7 : z = (405 : Int32)
    ·
      refine own_step (S' := T6.setTop (mkF m 27 #[.val (.int z), .unset] [])) (fun t k => XS.icmpNo X6.here hx rfl (hb hby d2_24) rfl (teq (q7 : z = (405 : Int32))).2 k) ?_
      obtain ⟨T8, X8, e8, st8⟩ := getS2 X6 hx hZ hown (host := "") (Or.inl (hw _ (List.mem_of_getElem? (i := 12) rfl))) Via.refl e6 (sS1.ext Ex0) (g := (mkF m 27 #[.val (.int z), .unset] [])) rfl (hb hby d2_27)
      refine own_step (S' := T8.setTop (mkF m 30 #[.val (.int z), .unset] [(.ref (w 1))])) (fun t k => st8 t k) ?_
      refine own_step (S' := T8.setTop (mkF m 31 #[.val (.int z), .val (.ref (w 1))] [])) (fun t k => XS.astoreN X8.here hx rfl (hb hby d2_30) rfl rfl (l' := #[.val (.int z), .val (.ref (w 1))]) rfl k) ?_
      refine own_step (S' := T8.setTop (mkF m 93 #[.val (.int z), .val (.ref (w 1))] [])) (fun t k => XS.goto X8.here hx rfl (pc0 := 31) (pc' := 93) rfl (hb hby d2_31) (by decide) (by decide) k) ?_
      refine own_step (S' := T8.setTop (mkF m 94 #[.val (.int z), .val (.ref (w 1))] [(.ref (w 1))])) (fun t k => XS.aloadN X8.here hx rfl (hb hby d2_93) rfl rfl k) ?_
      exact own_retA X8 hx hlk hret rfl rfl (hb hby d2_94) (⟨by unfold own_fs; rw [if_neg q3, if_pos q7], N0, e8⟩) (by decide) (by decide)
    ·
      refine own_step (S' := T6.setTop (mkF m 34 #[.val (.int z), .unset] [])) (fun t k => XS.icmpYes X6.here hx rfl (pc0 := 24) (pc' := 34) rfl (hb hby d2_24) rfl (feq (q7 : ¬ (z = (405 : Int32)))).2 (by decide) (by decide) k) ?_
      refine own_step (S' := T6.setTop (mkF m 35 #[.val (.int z), .unset] [(.int z)])) (fun t k => XS.iloadN X6.here hx rfl (hb hby d2_34) rfl k) ?_
      obtain ⟨T9, X9, e9, st9⟩ := getS2 X6 hx hZ hown (host := "") (Or.inl (hw _ (List.mem_of_getElem? (i := 14) rfl))) Via.refl e6 (sS2.ext Ex0) (g := (mkF m 35 #[.val (.int z), .unset] [(.int z)])) rfl (hb hby d2_35)
      refine own_step (S' := T9.setTop (mkF m 38 #[.val (.int z), .unset] [(.ref (w 2)), (.int z)])) (fun t k => st9 t k) ?_
      obtain ⟨T10, X10, e10, st10⟩ := getF X9 hx hZ hown (host := "") (Or.inl (hw _ (List.mem_of_getElem? (i := 10) rfl))) Via.refl e9 (sF2_status.ext Ex0) (g := (mkF m 38 #[.val (.int z), .unset] [(.ref (w 2)), (.int z)])) rfl rfl (hb hby d2_38)
      refine own_step (S' := T10.setTop (mkF m 41 #[.val (.int z), .unset] [(.int (413 : Int32)), (.int z)])) (fun t k => st10 t k) ?_
      by_cases q11 : z = (413 : Int32)
      ·
        refine own_step (S' := T10.setTop (mkF m 44 #[.val (.int z), .unset] [])) (fun t k => XS.icmpNo X10.here hx rfl (hb hby d2_41) rfl (teq (q11 : z = (413 : Int32))).2 k) ?_
        obtain ⟨T12, X12, e12, st12⟩ := getS2 X10 hx hZ hown (host := "") (Or.inl (hw _ (List.mem_of_getElem? (i := 14) rfl))) Via.refl e10 (sS2.ext Ex0) (g := (mkF m 44 #[.val (.int z), .unset] [])) rfl (hb hby d2_44)
        refine own_step (S' := T12.setTop (mkF m 47 #[.val (.int z), .unset] [(.ref (w 2))])) (fun t k => st12 t k) ?_
        refine own_step (S' := T12.setTop (mkF m 48 #[.val (.int z), .val (.ref (w 2))] [])) (fun t k => XS.astoreN X12.here hx rfl (hb hby d2_47) rfl rfl (l' := #[.val (.int z), .val (.ref (w 2))]) rfl k) ?_
        refine own_step (S' := T12.setTop (mkF m 93 #[.val (.int z), .val (.ref (w 2))] [])) (fun t k => XS.goto X12.here hx rfl (pc0 := 48) (pc' := 93) rfl (hb hby d2_48) (by decide) (by decide) k) ?_
        refine own_step (S' := T12.setTop (mkF m 94 #[.val (.int z), .val (.ref (w 2))] [(.ref (w 2))])) (fun t k => XS.aloadN X12.here hx rfl (hb hby d2_93) rfl rfl k) ?_
        exact own_retA X12 hx hlk hret rfl rfl (hb hby d2_94) (⟨by unfold own_fs; rw [if_neg q3, if_neg q7, if_pos q11], N0, e12⟩) (by decide) (by decide)
      ·
        refine own_step (S' := T10.setTop (mkF m 51 #[.val (.int z), .unset] [])) (fun t k => XS.icmpYes X10.here hx rfl (pc0 := 41) (pc' := 51) rfl (hb hby d2_41) rfl (feq (q11 : ¬ (z = (413 : Int32)))).2 (by decide) (by decide) k) ?_
        refine own_step (S' := T10.setTop (mkF m 52 #[.val (.int z), .unset] [(.int z)])) (fun t k => XS.iloadN X10.here hx rfl (hb hby d2_51) rfl k) ?_
        obtain ⟨T13, X13, e13, st13⟩ := getS2 X10 hx hZ hown (host := "") (Or.inl (hw _ (List.mem_of_getElem? (i := 18) rfl))) Via.refl e10 (sS3.ext Ex0) (g := (mkF m 52 #[.val (.int z), .unset] [(.int z)])) rfl (hb hby d2_52)
        refine own_step (S' := T13.setTop (mkF m 55 #[.val (.int z), .unset] [(.ref (w 3)), (.int z)])) (fun t k => st13 t k) ?_
        obtain ⟨T14, X14, e14, st14⟩ := getF X13 hx hZ hown (host := "") (Or.inl (hw _ (List.mem_of_getElem? (i := 10) rfl))) Via.refl e13 (sF3_status.ext Ex0) (g := (mkF m 55 #[.val (.int z), .unset] [(.ref (w 3)), (.int z)])) rfl rfl (hb hby d2_55)
        refine own_step (S' := T14.setTop (mkF m 58 #[.val (.int z), .unset] [(.int (401 : Int32)), (.int z)])) (fun t k => st14 t k) ?_
        by_cases q15 : z = (401 : Int32)
        ·
          refine own_step (S' := T14.setTop (mkF m 61 #[.val (.int z), .unset] [])) (fun t k => XS.icmpNo X14.here hx rfl (hb hby d2_58) rfl (teq (q15 : z = (401 : Int32))).2 k) ?_
          obtain ⟨T16, X16, e16, st16⟩ := getS2 X14 hx hZ hown (host := "") (Or.inl (hw _ (List.mem_of_getElem? (i := 18) rfl))) Via.refl e14 (sS3.ext Ex0) (g := (mkF m 61 #[.val (.int z), .unset] [])) rfl (hb hby d2_61)
          refine own_step (S' := T16.setTop (mkF m 64 #[.val (.int z), .unset] [(.ref (w 3))])) (fun t k => st16 t k) ?_
          refine own_step (S' := T16.setTop (mkF m 65 #[.val (.int z), .val (.ref (w 3))] [])) (fun t k => XS.astoreN X16.here hx rfl (hb hby d2_64) rfl rfl (l' := #[.val (.int z), .val (.ref (w 3))]) rfl k) ?_
          refine own_step (S' := T16.setTop (mkF m 93 #[.val (.int z), .val (.ref (w 3))] [])) (fun t k => XS.goto X16.here hx rfl (pc0 := 65) (pc' := 93) rfl (hb hby d2_65) (by decide) (by decide) k) ?_
          refine own_step (S' := T16.setTop (mkF m 94 #[.val (.int z), .val (.ref (w 3))] [(.ref (w 3))])) (fun t k => XS.aloadN X16.here hx rfl (hb hby d2_93) rfl rfl k) ?_
          exact own_retA X16 hx hlk hret rfl rfl (hb hby d2_94) (⟨by unfold own_fs; rw [if_neg q3, if_neg q7, if_neg q11, if_pos q15], N0, e16⟩) (by decide) (by decide)
        ·
          refine own_step (S' := T14.setTop (mkF m 68 #[.val (.int z), .unset] [])) (fun t k => XS.icmpYes X14.here hx rfl (pc0 := 58) (pc' := 68) rfl (hb hby d2_58) rfl (feq (q15 : ¬ (z = (401 : Int32)))).2 (by decide) (by decide) k) ?_
          refine own_step (S' := T14.setTop (mkF m 69 #[.val (.int z), .unset] [(.int z)])) (fun t k => XS.iloadN X14.here hx rfl (hb hby d2_68) rfl k) ?_
          refine own_step (S' := T14.setTop (mkF m 72 #[.val (.int z), .unset] [(.int (400 : Int32)), (.int z)])) (fun t k => XS.sipush X14.here hx rfl (hb hby d2_69) k) ?_
          by_cases q17 : z < (400 : Int32)
          ·
            refine own_step (S' := T14.setTop (mkF m 89 #[.val (.int z), .unset] [])) (fun t k => XS.icmpYes X14.here hx rfl (pc0 := 72) (pc' := 89) rfl (hb hby d2_72) rfl (tlt (q17 : z < (400 : Int32))).1 (by decide) (by decide) k) ?_
            obtain ⟨T18, X18, e18, st18⟩ := getS2 X14 hx hZ hown (host := "") (Or.inl (hw _ (List.mem_of_getElem? (i := 21) rfl))) Via.refl e14 (sS4.ext Ex0) (g := (mkF m 89 #[.val (.int z), .unset] [])) rfl (hb hby d2_89)
            refine own_step (S' := T18.setTop (mkF m 92 #[.val (.int z), .unset] [(.ref (w 4))])) (fun t k => st18 t k) ?_
            refine own_step (S' := T18.setTop (mkF m 93 #[.val (.int z), .val (.ref (w 4))] [])) (fun t k => XS.astoreN X18.here hx rfl (hb hby d2_92) rfl rfl (l' := #[.val (.int z), .val (.ref (w 4))]) rfl k) ?_
            refine own_step (S' := T18.setTop (mkF m 94 #[.val (.int z), .val (.ref (w 4))] [(.ref (w 4))])) (fun t k => XS.aloadN X18.here hx rfl (hb hby d2_93) rfl rfl k) ?_
            exact own_retA X18 hx hlk hret rfl rfl (hb hby d2_94) (⟨by unfold own_fs; rw [if_neg q3, if_neg q7, if_neg q11, if_neg q15, if_pos q17], N0, e18⟩) (by decide) (by decide)
          ·
            refine own_step (S' := T14.setTop (mkF m 75 #[.val (.int z), .unset] [])) (fun t k => XS.icmpNo X14.here hx rfl (hb hby d2_72) rfl (flt (q17 : ¬ (z < (400 : Int32)))).1 k) ?_
            refine own_step (S' := T14.setTop (mkF m 76 #[.val (.int z), .unset] [(.int z)])) (fun t k => XS.iloadN X14.here hx rfl (hb hby d2_75) rfl k) ?_
            refine own_step (S' := T14.setTop (mkF m 79 #[.val (.int z), .unset] [(.int (500 : Int32)), (.int z)])) (fun t k => XS.sipush X14.here hx rfl (hb hby d2_76) k) ?_
            by_cases q19 : z < (500 : Int32)
            ·
              refine own_step (S' := T14.setTop (mkF m 82 #[.val (.int z), .unset] [])) (fun t k => XS.icmpNo X14.here hx rfl (hb hby d2_79) rfl (tlt (q19 : z < (500 : Int32))).2.1 k) ?_
              obtain ⟨T20, X20, e20, st20⟩ := getS2 X14 hx hZ hown (host := "") (Or.inl (hw _ (List.mem_of_getElem? (i := 25) rfl))) Via.refl e14 (sS5.ext Ex0) (g := (mkF m 82 #[.val (.int z), .unset] [])) rfl (hb hby d2_82)
              refine own_step (S' := T20.setTop (mkF m 85 #[.val (.int z), .unset] [(.ref (w 5))])) (fun t k => st20 t k) ?_
              refine own_step (S' := T20.setTop (mkF m 86 #[.val (.int z), .val (.ref (w 5))] [])) (fun t k => XS.astoreN X20.here hx rfl (hb hby d2_85) rfl rfl (l' := #[.val (.int z), .val (.ref (w 5))]) rfl k) ?_
              refine own_step (S' := T20.setTop (mkF m 93 #[.val (.int z), .val (.ref (w 5))] [])) (fun t k => XS.goto X20.here hx rfl (pc0 := 86) (pc' := 93) rfl (hb hby d2_86) (by decide) (by decide) k) ?_
              refine own_step (S' := T20.setTop (mkF m 94 #[.val (.int z), .val (.ref (w 5))] [(.ref (w 5))])) (fun t k => XS.aloadN X20.here hx rfl (hb hby d2_93) rfl rfl k) ?_
              exact own_retA X20 hx hlk hret rfl rfl (hb hby d2_94) (⟨by unfold own_fs; rw [if_neg q3, if_neg q7, if_neg q11, if_neg q15, if_neg q17, if_pos q19], N0, e20⟩) (by decide) (by decide)
            ·
              refine own_step (S' := T14.setTop (mkF m 89 #[.val (.int z), .unset] [])) (fun t k => XS.icmpYes X14.here hx rfl (pc0 := 79) (pc' := 89) rfl (hb hby d2_79) rfl (flt (q19 : ¬ (z < (500 : Int32)))).2.1 (by decide) (by decide) k) ?_
              obtain ⟨T21, X21, e21, st21⟩ := getS2 X14 hx hZ hown (host := "") (Or.inl (hw _ (List.mem_of_getElem? (i := 21) rfl))) Via.refl e14 (sS4.ext Ex0) (g := (mkF m 89 #[.val (.int z), .unset] [])) rfl (hb hby d2_89)
              refine own_step (S' := T21.setTop (mkF m 92 #[.val (.int z), .unset] [(.ref (w 4))])) (fun t k => st21 t k) ?_
              refine own_step (S' := T21.setTop (mkF m 93 #[.val (.int z), .val (.ref (w 4))] [])) (fun t k => XS.astoreN X21.here hx rfl (hb hby d2_92) rfl rfl (l' := #[.val (.int z), .val (.ref (w 4))]) rfl k) ?_
              refine own_step (S' := T21.setTop (mkF m 94 #[.val (.int z), .val (.ref (w 4))] [(.ref (w 4))])) (fun t k => XS.aloadN X21.here hx rfl (hb hby d2_93) rfl rfl k) ?_
              exact own_retA X21 hx hlk hret rfl rfl (hb hby d2_94) (⟨by unfold own_fs; rw [if_neg q3, if_neg q7, if_neg q11, if_neg q15, if_neg q17, if_neg q19], N0, e21⟩) (by decide) (by decide)
set_option maxRecDepth 65536 in
set_option maxHeartbeats 4000000 in
theorem rm0 (l : Launch) (Z : State) (a0 : Array Value) (hw : ∀ d ∈ tables_1, d.before a0 Z = true) (ws : List Jvm.Cond) (w : Nat → Addr) (H : Hyp Z w) (p0 p1 : Int32) (h0 : Heap) (Ex0 : Ext Z.heap h0)  :
    own_Met l Z x code maxLocals ret ws room_1 #[(.int p0), (.int p1)] h0 (fun v _ L => v = some (.int 1) ∧ Fr Z.heap.size L) := by
  have H0 := H
  obtain ⟨sS0, sE0, sF0_status, sS1, sE1, sF1_status, sS2, sE2, sF2_status, sS3, sE3, sF3_status, sS4, sE4, sF4_status, sS5, sE5, sF5_status⟩ := H0
  refine own_body (ls := #[.val (.int p0), .val (.int p1), .unset, .unset, .unset]) own_pn0 (fun m => by first | (simp [entryFrame, mkF, argsToLocals, Value.category, maxLocals]; done) | rfl) ?_
  intro p e s m below meth c T0 hZ hx hby hml' hown' hnm hret' hlk X0 e0
  have hml : c.maxLocals = 5 := hml'
  have hown : s.vm.findClass "com/example/creditd/creditd/server/ProblemCodeForStatusPinLaw" = some m.cls := hown'
  have hret : meth.sig.returnType = (some .boolean) := hret'
  have N0 := Fr.nil Z.heap.size
  refine own_step (S' := T0.setTop (mkF m 1 #[.val (.int p0), .val (.int p1), .unset, .unset, .unset] [(.int p0)])) (fun t k => XS.iloadN X0.here hx rfl (hb hby at_0) rfl k) ?_
  refine own_step (S' := T0.setTop (mkF m 2 #[.val (.int p0), .val (.int p1), .unset, .unset, .unset] [(.int p1), (.int p0)])) (fun t k => XS.iloadN X0.here hx rfl (hb hby at_1) rfl k) ?_
  obtain ⟨_, T1, Lq1, X1, ⟨rfl, Nq1, e1⟩, st1⟩ := own_callS X0 hx hZ hown (hw _ (List.mem_of_getElem? (i := 0) rfl)) (hw _ (List.mem_of_getElem? (i := 1) rfl)) (hw _ (List.mem_of_getElem? (i := 3) rfl)) (hw _ (List.mem_of_getElem? (i := 2) rfl)) (by decide) (argsL := [(.int p0), (.int p1)]) (rest := []) (rm1 l Z a0 hw [] p0 p1 h0 Ex0) (W := 0) (by decide) (by decide) e0 (g := (mkF m 2 #[.val (.int p0), .val (.int p1), .unset, .unset, .unset] [(.int p1), (.int p0)])) rfl (by rw [hml]; rfl) (lenOf own_pd0 rfl) rfl (by show 2 * 0 + _ ≤ _; exact Nat.le_of_eq rfl) (hb hby at_2) (by decide) (by decide)
  have N1 := Fr.app N0 Nq1
  refine own_step (S' := T1.setTop (mkF m 5 #[.val (.int p0), .val (.int p1), .unset, .unset, .unset] [(.int (own_pick p0 p1))])) (fun t k => st1 t k) ?_
  refine own_step (S' := T1.setTop (mkF m 6 #[.val (.int p0), .val (.int p1), .val (.int (own_pick p0 p1)), .unset, .unset] [])) (fun t k => XS.istoreN X1.here hx rfl (hb hby at_5) rfl (l' := #[.val (.int p0), .val (.int p1), .val (.int (own_pick p0 p1)), .unset, .unset]) rfl k) ?_
  generalize hg_z : (own_pick p0 p1) = z
  refine own_step (S' := T1.setTop (mkF m 7 #[.val (.int p0), .val (.int p1), .val (.int z), .unset, .unset] [(.int z)])) (fun t k => XS.iloadN X1.here hx rfl (hb hby at_6) rfl k) ?_
  obtain ⟨_, T2, Lq2, X2, ⟨rfl, Nq2, e2⟩, st2⟩ := own_callS X1 hx hZ hown (hw _ (List.mem_of_getElem? (i := 4) rfl)) (hw _ (List.mem_of_getElem? (i := 5) rfl)) (hw _ (List.mem_of_getElem? (i := 7) rfl)) (hw _ (List.mem_of_getElem? (i := 6) rfl)) (by decide) (argsL := [(.int z)]) (rest := []) (rm2 l Z a0 hw [] w H z h0 Ex0) (W := 0) (by decide) (by decide) e1 (g := (mkF m 7 #[.val (.int p0), .val (.int p1), .val (.int z), .unset, .unset] [(.int z)])) rfl (by rw [hml]; rfl) (lenOf own_pd1 rfl) rfl (by show 2 * 0 + _ ≤ _; exact Nat.le_of_eq rfl) (hb hby at_7) (by decide) (by decide)
  have N2 := Fr.app N1 Nq2
  refine own_step (S' := T2.setTop (mkF m 10 #[.val (.int p0), .val (.int p1), .val (.int z), .unset, .unset] [(.ref (own_fs z w))])) (fun t k => st2 t k) ?_
  refine own_step (S' := T2.setTop (mkF m 11 #[.val (.int p0), .val (.int p1), .val (.int z), .val (.ref (own_fs z w)), .unset] [])) (fun t k => XS.astoreN X2.here hx rfl (hb hby at_10) rfl rfl (l' := #[.val (.int p0), .val (.int p1), .val (.int z), .val (.ref (own_fs z w)), .unset]) rfl k) ?_
  refine own_step (S' := T2.setTop (mkF m 12 #[.val (.int p0), .val (.int p1), .val (.int z), .val (.ref (own_fs z w)), .unset] [(.int z)])) (fun t k => XS.iloadN X2.here hx rfl (hb hby at_11) rfl k) ?_
  refine own_step (S' := T2.setTop (mkF m 15 #[.val (.int p0), .val (.int p1), .val (.int z), .val (.ref (own_fs z w)), .unset] [(.int (401 : Int32)), (.int z)])) (fun t k => XS.sipush X2.here hx rfl (hb hby at_12) k) ?_
  by_cases q3 : z = (401 : Int32)
  ·
    refine own_step (S' := T2.setTop (mkF m 18 #[.val (.int p0), .val (.int p1), .val (.int z), .val (.ref (own_fs z w)), .unset] [])) (fun t k => XS.icmpNo X2.here hx rfl (hb hby at_15) rfl (teq (q3 : z = (401 : Int32))).2 k) ?_
    obtain ⟨T4, X4, e4, st4⟩ := getS2 X2 hx hZ hown (host := "") (Or.inl (hw _ (List.mem_of_getElem? (i := 20) rfl))) Via.refl e2 (sS3.ext Ex0) (g := (mkF m 18 #[.val (.int p0), .val (.int p1), .val (.int z), .val (.ref (own_fs z w)), .unset] [])) rfl (hb hby at_18)
    refine own_step (S' := T4.setTop (mkF m 21 #[.val (.int p0), .val (.int p1), .val (.int z), .val (.ref (own_fs z w)), .unset] [(.ref (w 3))])) (fun t k => st4 t k) ?_
    refine own_step (S' := T4.setTop (mkF m 23 #[.val (.int p0), .val (.int p1), .val (.int z), .val (.ref (own_fs z w)), .val (.ref (w 3))] [])) (fun t k => XS.astore X4.here hx rfl (hb hby at_21) rfl rfl (l' := #[.val (.int p0), .val (.int p1), .val (.int z), .val (.ref (own_fs z w)), .val (.ref (w 3))]) rfl k) ?_
    refine own_step (S' := T4.setTop (mkF m 98 #[.val (.int p0), .val (.int p1), .val (.int z), .val (.ref (own_fs z w)), .val (.ref (w 3))] [])) (fun t k => XS.goto X4.here hx rfl (pc0 := 23) (pc' := 98) rfl (hb hby at_23) (by decide) (by decide) k) ?_
    refine own_step (S' := T4.setTop (mkF m 99 #[.val (.int p0), .val (.int p1), .val (.int z), .val (.ref (own_fs z w)), .val (.ref (w 3))] [(.ref (own_fs z w))])) (fun t k => XS.aloadN X4.here hx rfl (hb hby at_98) rfl rfl k) ?_
    refine own_step (S' := T4.setTop (mkF m 101 #[.val (.int p0), .val (.int p1), .val (.int z), .val (.ref (own_fs z w)), .val (.ref (w 3))] [(.ref (w 3)), (.ref (own_fs z w))])) (fun t k => XS.aload X4.here hx rfl (hb hby at_99) rfl rfl k) ?_
    refine own_step (S' := T4.setTop (mkF m 104 #[.val (.int p0), .val (.int p1), .val (.int z), .val (.ref (own_fs z w)), .val (.ref (w 3))] [])) (fun t k => Jvm.RoadKit.acmp (g := (mkF m 101 #[.val (.int p0), .val (.int p1), .val (.int z), .val (.ref (own_fs z w)), .val (.ref (w 3))] [(.ref (w 3)), (.ref (own_fs z w))])) X4 hx rfl rfl rfl (pc0 := 101) (pc' := 104) (same := true) rfl (hb hby at_101) rfl (decide_eq_true (congrArg Value.ref ((by simp [own_fs, own_499, q3]) : (own_fs z w) = (w 3)))) (by decide) (by decide) k) ?_
    refine own_step (S' := T4.setTop (mkF m 105 #[.val (.int p0), .val (.int p1), .val (.int z), .val (.ref (own_fs z w)), .val (.ref (w 3))] [(.int (1 : Int32))])) (fun t k => XS.iconst X4.here hx rfl (hb hby at_104) k) ?_
    refine own_step (S' := T4.setTop (mkF m 109 #[.val (.int p0), .val (.int p1), .val (.int z), .val (.ref (own_fs z w)), .val (.ref (w 3))] [(.int (1 : Int32))])) (fun t k => XS.goto X4.here hx rfl (pc0 := 105) (pc' := 109) rfl (hb hby at_105) (by decide) (by decide) k) ?_
    exact own_retI (t := .boolean) X4 hx hlk hret (Or.inr (Or.inl rfl)) rfl (hb hby at_109) (⟨rfl, N2⟩) (by decide) (by decide)
  ·
    refine own_step (S' := T2.setTop (mkF m 26 #[.val (.int p0), .val (.int p1), .val (.int z), .val (.ref (own_fs z w)), .unset] [])) (fun t k => XS.icmpYes X2.here hx rfl (pc0 := 15) (pc' := 26) rfl (hb hby at_15) rfl (feq (q3 : ¬ (z = (401 : Int32)))).2 (by decide) (by decide) k) ?_
    refine own_step (S' := T2.setTop (mkF m 27 #[.val (.int p0), .val (.int p1), .val (.int z), .val (.ref (own_fs z w)), .unset] [(.int z)])) (fun t k => XS.iloadN X2.here hx rfl (hb hby at_26) rfl k) ?_
    refine own_step (S' := T2.setTop (mkF m 30 #[.val (.int p0), .val (.int p1), .val (.int z), .val (.ref (own_fs z w)), .unset] [(.int (404 : Int32)), (.int z)])) (fun t k => XS.sipush X2.here hx rfl (hb hby at_27) k) ?_
    by_cases q5 : z = (404 : Int32)
    ·
      refine own_step (S' := T2.setTop (mkF m 33 #[.val (.int p0), .val (.int p1), .val (.int z), .val (.ref (own_fs z w)), .unset] [])) (fun t k => XS.icmpNo X2.here hx rfl (hb hby at_30) rfl (teq (q5 : z = (404 : Int32))).2 k) ?_
      obtain ⟨T6, X6, e6, st6⟩ := getS2 X2 hx hZ hown (host := "") (Or.inl (hw _ (List.mem_of_getElem? (i := 17) rfl))) Via.refl e2 (sS0.ext Ex0) (g := (mkF m 33 #[.val (.int p0), .val (.int p1), .val (.int z), .val (.ref (own_fs z w)), .unset] [])) rfl (hb hby at_33)
      refine own_step (S' := T6.setTop (mkF m 36 #[.val (.int p0), .val (.int p1), .val (.int z), .val (.ref (own_fs z w)), .unset] [(.ref (w 0))])) (fun t k => st6 t k) ?_
      refine own_step (S' := T6.setTop (mkF m 38 #[.val (.int p0), .val (.int p1), .val (.int z), .val (.ref (own_fs z w)), .val (.ref (w 0))] [])) (fun t k => XS.astore X6.here hx rfl (hb hby at_36) rfl rfl (l' := #[.val (.int p0), .val (.int p1), .val (.int z), .val (.ref (own_fs z w)), .val (.ref (w 0))]) rfl k) ?_
      refine own_step (S' := T6.setTop (mkF m 98 #[.val (.int p0), .val (.int p1), .val (.int z), .val (.ref (own_fs z w)), .val (.ref (w 0))] [])) (fun t k => XS.goto X6.here hx rfl (pc0 := 38) (pc' := 98) rfl (hb hby at_38) (by decide) (by decide) k) ?_
      refine own_step (S' := T6.setTop (mkF m 99 #[.val (.int p0), .val (.int p1), .val (.int z), .val (.ref (own_fs z w)), .val (.ref (w 0))] [(.ref (own_fs z w))])) (fun t k => XS.aloadN X6.here hx rfl (hb hby at_98) rfl rfl k) ?_
      refine own_step (S' := T6.setTop (mkF m 101 #[.val (.int p0), .val (.int p1), .val (.int z), .val (.ref (own_fs z w)), .val (.ref (w 0))] [(.ref (w 0)), (.ref (own_fs z w))])) (fun t k => XS.aload X6.here hx rfl (hb hby at_99) rfl rfl k) ?_
      refine own_step (S' := T6.setTop (mkF m 104 #[.val (.int p0), .val (.int p1), .val (.int z), .val (.ref (own_fs z w)), .val (.ref (w 0))] [])) (fun t k => Jvm.RoadKit.acmp (g := (mkF m 101 #[.val (.int p0), .val (.int p1), .val (.int z), .val (.ref (own_fs z w)), .val (.ref (w 0))] [(.ref (w 0)), (.ref (own_fs z w))])) X6 hx rfl rfl rfl (pc0 := 101) (pc' := 104) (same := true) rfl (hb hby at_101) rfl (decide_eq_true (congrArg Value.ref ((by simp [own_fs, own_499, q3, q5]) : (own_fs z w) = (w 0)))) (by decide) (by decide) k) ?_
      refine own_step (S' := T6.setTop (mkF m 105 #[.val (.int p0), .val (.int p1), .val (.int z), .val (.ref (own_fs z w)), .val (.ref (w 0))] [(.int (1 : Int32))])) (fun t k => XS.iconst X6.here hx rfl (hb hby at_104) k) ?_
      refine own_step (S' := T6.setTop (mkF m 109 #[.val (.int p0), .val (.int p1), .val (.int z), .val (.ref (own_fs z w)), .val (.ref (w 0))] [(.int (1 : Int32))])) (fun t k => XS.goto X6.here hx rfl (pc0 := 105) (pc' := 109) rfl (hb hby at_105) (by decide) (by decide) k) ?_
      exact own_retI (t := .boolean) X6 hx hlk hret (Or.inr (Or.inl rfl)) rfl (hb hby at_109) (⟨rfl, N2⟩) (by decide) (by decide)
    ·
      refine own_step (S' := T2.setTop (mkF m 41 #[.val (.int p0), .val (.int p1), .val (.int z), .val (.ref (own_fs z w)), .unset] [])) (fun t k => XS.icmpYes X2.here hx rfl (pc0 := 30) (pc' := 41) rfl (hb hby at_30) rfl (feq (q5 : ¬ (z = (404 : Int32)))).2 (by decide) (by decide) k) ?_
      refine own_step (S' := T2.setTop (mkF m 42 #[.val (.int p0), .val (.int p1), .val (.int z), .val (.ref (own_fs z w)), .unset] [(.int z)])) (fun t k => XS.iloadN X2.here hx rfl (hb hby at_41) rfl k) ?_
      refine own_step (S' := T2.setTop (mkF m 45 #[.val (.int p0), .val (.int p1), .val (.int z), .val (.ref (own_fs z w)), .unset] [(.int (405 : Int32)), (.int z)])) (fun t k => XS.sipush X2.here hx rfl (hb hby at_42) k) ?_
      by_cases q7 : z = (405 : Int32)
      ·
        refine own_step (S' := T2.setTop (mkF m 48 #[.val (.int p0), .val (.int p1), .val (.int z), .val (.ref (own_fs z w)), .unset] [])) (fun t k => XS.icmpNo X2.here hx rfl (hb hby at_45) rfl (teq (q7 : z = (405 : Int32))).2 k) ?_
        obtain ⟨T8, X8, e8, st8⟩ := getS2 X2 hx hZ hown (host := "") (Or.inl (hw _ (List.mem_of_getElem? (i := 29) rfl))) Via.refl e2 (sS1.ext Ex0) (g := (mkF m 48 #[.val (.int p0), .val (.int p1), .val (.int z), .val (.ref (own_fs z w)), .unset] [])) rfl (hb hby at_48)
        refine own_step (S' := T8.setTop (mkF m 51 #[.val (.int p0), .val (.int p1), .val (.int z), .val (.ref (own_fs z w)), .unset] [(.ref (w 1))])) (fun t k => st8 t k) ?_
        refine own_step (S' := T8.setTop (mkF m 53 #[.val (.int p0), .val (.int p1), .val (.int z), .val (.ref (own_fs z w)), .val (.ref (w 1))] [])) (fun t k => XS.astore X8.here hx rfl (hb hby at_51) rfl rfl (l' := #[.val (.int p0), .val (.int p1), .val (.int z), .val (.ref (own_fs z w)), .val (.ref (w 1))]) rfl k) ?_
        refine own_step (S' := T8.setTop (mkF m 98 #[.val (.int p0), .val (.int p1), .val (.int z), .val (.ref (own_fs z w)), .val (.ref (w 1))] [])) (fun t k => XS.goto X8.here hx rfl (pc0 := 53) (pc' := 98) rfl (hb hby at_53) (by decide) (by decide) k) ?_
        refine own_step (S' := T8.setTop (mkF m 99 #[.val (.int p0), .val (.int p1), .val (.int z), .val (.ref (own_fs z w)), .val (.ref (w 1))] [(.ref (own_fs z w))])) (fun t k => XS.aloadN X8.here hx rfl (hb hby at_98) rfl rfl k) ?_
        refine own_step (S' := T8.setTop (mkF m 101 #[.val (.int p0), .val (.int p1), .val (.int z), .val (.ref (own_fs z w)), .val (.ref (w 1))] [(.ref (w 1)), (.ref (own_fs z w))])) (fun t k => XS.aload X8.here hx rfl (hb hby at_99) rfl rfl k) ?_
        refine own_step (S' := T8.setTop (mkF m 104 #[.val (.int p0), .val (.int p1), .val (.int z), .val (.ref (own_fs z w)), .val (.ref (w 1))] [])) (fun t k => Jvm.RoadKit.acmp (g := (mkF m 101 #[.val (.int p0), .val (.int p1), .val (.int z), .val (.ref (own_fs z w)), .val (.ref (w 1))] [(.ref (w 1)), (.ref (own_fs z w))])) X8 hx rfl rfl rfl (pc0 := 101) (pc' := 104) (same := true) rfl (hb hby at_101) rfl (decide_eq_true (congrArg Value.ref ((by simp [own_fs, own_499, q3, q5, q7]) : (own_fs z w) = (w 1)))) (by decide) (by decide) k) ?_
        refine own_step (S' := T8.setTop (mkF m 105 #[.val (.int p0), .val (.int p1), .val (.int z), .val (.ref (own_fs z w)), .val (.ref (w 1))] [(.int (1 : Int32))])) (fun t k => XS.iconst X8.here hx rfl (hb hby at_104) k) ?_
        refine own_step (S' := T8.setTop (mkF m 109 #[.val (.int p0), .val (.int p1), .val (.int z), .val (.ref (own_fs z w)), .val (.ref (w 1))] [(.int (1 : Int32))])) (fun t k => XS.goto X8.here hx rfl (pc0 := 105) (pc' := 109) rfl (hb hby at_105) (by decide) (by decide) k) ?_
        exact own_retI (t := .boolean) X8 hx hlk hret (Or.inr (Or.inl rfl)) rfl (hb hby at_109) (⟨rfl, N2⟩) (by decide) (by decide)
      ·
        refine own_step (S' := T2.setTop (mkF m 56 #[.val (.int p0), .val (.int p1), .val (.int z), .val (.ref (own_fs z w)), .unset] [])) (fun t k => XS.icmpYes X2.here hx rfl (pc0 := 45) (pc' := 56) rfl (hb hby at_45) rfl (feq (q7 : ¬ (z = (405 : Int32)))).2 (by decide) (by decide) k) ?_
        refine own_step (S' := T2.setTop (mkF m 57 #[.val (.int p0), .val (.int p1), .val (.int z), .val (.ref (own_fs z w)), .unset] [(.int z)])) (fun t k => XS.iloadN X2.here hx rfl (hb hby at_56) rfl k) ?_
        refine own_step (S' := T2.setTop (mkF m 60 #[.val (.int p0), .val (.int p1), .val (.int z), .val (.ref (own_fs z w)), .unset] [(.int (413 : Int32)), (.int z)])) (fun t k => XS.sipush X2.here hx rfl (hb hby at_57) k) ?_
        by_cases q9 : z = (413 : Int32)
        ·
          refine own_step (S' := T2.setTop (mkF m 63 #[.val (.int p0), .val (.int p1), .val (.int z), .val (.ref (own_fs z w)), .unset] [])) (fun t k => XS.icmpNo X2.here hx rfl (hb hby at_60) rfl (teq (q9 : z = (413 : Int32))).2 k) ?_
          obtain ⟨T10, X10, e10, st10⟩ := getS2 X2 hx hZ hown (host := "") (Or.inl (hw _ (List.mem_of_getElem? (i := 16) rfl))) Via.refl e2 (sS2.ext Ex0) (g := (mkF m 63 #[.val (.int p0), .val (.int p1), .val (.int z), .val (.ref (own_fs z w)), .unset] [])) rfl (hb hby at_63)
          refine own_step (S' := T10.setTop (mkF m 66 #[.val (.int p0), .val (.int p1), .val (.int z), .val (.ref (own_fs z w)), .unset] [(.ref (w 2))])) (fun t k => st10 t k) ?_
          refine own_step (S' := T10.setTop (mkF m 68 #[.val (.int p0), .val (.int p1), .val (.int z), .val (.ref (own_fs z w)), .val (.ref (w 2))] [])) (fun t k => XS.astore X10.here hx rfl (hb hby at_66) rfl rfl (l' := #[.val (.int p0), .val (.int p1), .val (.int z), .val (.ref (own_fs z w)), .val (.ref (w 2))]) rfl k) ?_
          refine own_step (S' := T10.setTop (mkF m 98 #[.val (.int p0), .val (.int p1), .val (.int z), .val (.ref (own_fs z w)), .val (.ref (w 2))] [])) (fun t k => XS.goto X10.here hx rfl (pc0 := 68) (pc' := 98) rfl (hb hby at_68) (by decide) (by decide) k) ?_
          refine own_step (S' := T10.setTop (mkF m 99 #[.val (.int p0), .val (.int p1), .val (.int z), .val (.ref (own_fs z w)), .val (.ref (w 2))] [(.ref (own_fs z w))])) (fun t k => XS.aloadN X10.here hx rfl (hb hby at_98) rfl rfl k) ?_
          refine own_step (S' := T10.setTop (mkF m 101 #[.val (.int p0), .val (.int p1), .val (.int z), .val (.ref (own_fs z w)), .val (.ref (w 2))] [(.ref (w 2)), (.ref (own_fs z w))])) (fun t k => XS.aload X10.here hx rfl (hb hby at_99) rfl rfl k) ?_
          refine own_step (S' := T10.setTop (mkF m 104 #[.val (.int p0), .val (.int p1), .val (.int z), .val (.ref (own_fs z w)), .val (.ref (w 2))] [])) (fun t k => Jvm.RoadKit.acmp (g := (mkF m 101 #[.val (.int p0), .val (.int p1), .val (.int z), .val (.ref (own_fs z w)), .val (.ref (w 2))] [(.ref (w 2)), (.ref (own_fs z w))])) X10 hx rfl rfl rfl (pc0 := 101) (pc' := 104) (same := true) rfl (hb hby at_101) rfl (decide_eq_true (congrArg Value.ref ((by simp [own_fs, own_499, q3, q5, q7, q9]) : (own_fs z w) = (w 2)))) (by decide) (by decide) k) ?_
          refine own_step (S' := T10.setTop (mkF m 105 #[.val (.int p0), .val (.int p1), .val (.int z), .val (.ref (own_fs z w)), .val (.ref (w 2))] [(.int (1 : Int32))])) (fun t k => XS.iconst X10.here hx rfl (hb hby at_104) k) ?_
          refine own_step (S' := T10.setTop (mkF m 109 #[.val (.int p0), .val (.int p1), .val (.int z), .val (.ref (own_fs z w)), .val (.ref (w 2))] [(.int (1 : Int32))])) (fun t k => XS.goto X10.here hx rfl (pc0 := 105) (pc' := 109) rfl (hb hby at_105) (by decide) (by decide) k) ?_
          exact own_retI (t := .boolean) X10 hx hlk hret (Or.inr (Or.inl rfl)) rfl (hb hby at_109) (⟨rfl, N2⟩) (by decide) (by decide)
        ·
          refine own_step (S' := T2.setTop (mkF m 71 #[.val (.int p0), .val (.int p1), .val (.int z), .val (.ref (own_fs z w)), .unset] [])) (fun t k => XS.icmpYes X2.here hx rfl (pc0 := 60) (pc' := 71) rfl (hb hby at_60) rfl (feq (q9 : ¬ (z = (413 : Int32)))).2 (by decide) (by decide) k) ?_
          refine own_step (S' := T2.setTop (mkF m 72 #[.val (.int p0), .val (.int p1), .val (.int z), .val (.ref (own_fs z w)), .unset] [(.int z)])) (fun t k => XS.iloadN X2.here hx rfl (hb hby at_71) rfl k) ?_
          refine own_step (S' := T2.setTop (mkF m 75 #[.val (.int p0), .val (.int p1), .val (.int z), .val (.ref (own_fs z w)), .unset] [(.int (400 : Int32)), (.int z)])) (fun t k => XS.sipush X2.here hx rfl (hb hby at_72) k) ?_
          by_cases q11 : z < (400 : Int32)
          ·
            refine own_step (S' := T2.setTop (mkF m 93 #[.val (.int p0), .val (.int p1), .val (.int z), .val (.ref (own_fs z w)), .unset] [])) (fun t k => XS.icmpYes X2.here hx rfl (pc0 := 75) (pc' := 93) rfl (hb hby at_75) rfl (tlt (q11 : z < (400 : Int32))).1 (by decide) (by decide) k) ?_
            obtain ⟨T12, X12, e12, st12⟩ := getS2 X2 hx hZ hown (host := "") (Or.inl (hw _ (List.mem_of_getElem? (i := 23) rfl))) Via.refl e2 (sS4.ext Ex0) (g := (mkF m 93 #[.val (.int p0), .val (.int p1), .val (.int z), .val (.ref (own_fs z w)), .unset] [])) rfl (hb hby at_93)
            refine own_step (S' := T12.setTop (mkF m 96 #[.val (.int p0), .val (.int p1), .val (.int z), .val (.ref (own_fs z w)), .unset] [(.ref (w 4))])) (fun t k => st12 t k) ?_
            refine own_step (S' := T12.setTop (mkF m 98 #[.val (.int p0), .val (.int p1), .val (.int z), .val (.ref (own_fs z w)), .val (.ref (w 4))] [])) (fun t k => XS.astore X12.here hx rfl (hb hby at_96) rfl rfl (l' := #[.val (.int p0), .val (.int p1), .val (.int z), .val (.ref (own_fs z w)), .val (.ref (w 4))]) rfl k) ?_
            refine own_step (S' := T12.setTop (mkF m 99 #[.val (.int p0), .val (.int p1), .val (.int z), .val (.ref (own_fs z w)), .val (.ref (w 4))] [(.ref (own_fs z w))])) (fun t k => XS.aloadN X12.here hx rfl (hb hby at_98) rfl rfl k) ?_
            refine own_step (S' := T12.setTop (mkF m 101 #[.val (.int p0), .val (.int p1), .val (.int z), .val (.ref (own_fs z w)), .val (.ref (w 4))] [(.ref (w 4)), (.ref (own_fs z w))])) (fun t k => XS.aload X12.here hx rfl (hb hby at_99) rfl rfl k) ?_
            refine own_step (S' := T12.setTop (mkF m 104 #[.val (.int p0), .val (.int p1), .val (.int z), .val (.ref (own_fs z w)), .val (.ref (w 4))] [])) (fun t k => Jvm.RoadKit.acmp (g := (mkF m 101 #[.val (.int p0), .val (.int p1), .val (.int z), .val (.ref (own_fs z w)), .val (.ref (w 4))] [(.ref (w 4)), (.ref (own_fs z w))])) X12 hx rfl rfl rfl (pc0 := 101) (pc' := 104) (same := true) rfl (hb hby at_101) rfl (decide_eq_true (congrArg Value.ref ((by simp [own_fs, own_499, q3, q5, q7, q9, q11]) : (own_fs z w) = (w 4)))) (by decide) (by decide) k) ?_
            refine own_step (S' := T12.setTop (mkF m 105 #[.val (.int p0), .val (.int p1), .val (.int z), .val (.ref (own_fs z w)), .val (.ref (w 4))] [(.int (1 : Int32))])) (fun t k => XS.iconst X12.here hx rfl (hb hby at_104) k) ?_
            refine own_step (S' := T12.setTop (mkF m 109 #[.val (.int p0), .val (.int p1), .val (.int z), .val (.ref (own_fs z w)), .val (.ref (w 4))] [(.int (1 : Int32))])) (fun t k => XS.goto X12.here hx rfl (pc0 := 105) (pc' := 109) rfl (hb hby at_105) (by decide) (by decide) k) ?_
            exact own_retI (t := .boolean) X12 hx hlk hret (Or.inr (Or.inl rfl)) rfl (hb hby at_109) (⟨rfl, N2⟩) (by decide) (by decide)
          ·
            refine own_step (S' := T2.setTop (mkF m 78 #[.val (.int p0), .val (.int p1), .val (.int z), .val (.ref (own_fs z w)), .unset] [])) (fun t k => XS.icmpNo X2.here hx rfl (hb hby at_75) rfl (flt (q11 : ¬ (z < (400 : Int32)))).1 k) ?_
            refine own_step (S' := T2.setTop (mkF m 79 #[.val (.int p0), .val (.int p1), .val (.int z), .val (.ref (own_fs z w)), .unset] [(.int z)])) (fun t k => XS.iloadN X2.here hx rfl (hb hby at_78) rfl k) ?_
            refine own_step (S' := T2.setTop (mkF m 82 #[.val (.int p0), .val (.int p1), .val (.int z), .val (.ref (own_fs z w)), .unset] [(.int (499 : Int32)), (.int z)])) (fun t k => XS.sipush X2.here hx rfl (hb hby at_79) k) ?_
            by_cases q13 : (499 : Int32) < z
            ·
              refine own_step (S' := T2.setTop (mkF m 93 #[.val (.int p0), .val (.int p1), .val (.int z), .val (.ref (own_fs z w)), .unset] [])) (fun t k => XS.icmpYes X2.here hx rfl (pc0 := 82) (pc' := 93) rfl (hb hby at_82) rfl (tlt (q13 : (499 : Int32) < z)).2.2.1 (by decide) (by decide) k) ?_
              obtain ⟨T14, X14, e14, st14⟩ := getS2 X2 hx hZ hown (host := "") (Or.inl (hw _ (List.mem_of_getElem? (i := 23) rfl))) Via.refl e2 (sS4.ext Ex0) (g := (mkF m 93 #[.val (.int p0), .val (.int p1), .val (.int z), .val (.ref (own_fs z w)), .unset] [])) rfl (hb hby at_93)
              refine own_step (S' := T14.setTop (mkF m 96 #[.val (.int p0), .val (.int p1), .val (.int z), .val (.ref (own_fs z w)), .unset] [(.ref (w 4))])) (fun t k => st14 t k) ?_
              refine own_step (S' := T14.setTop (mkF m 98 #[.val (.int p0), .val (.int p1), .val (.int z), .val (.ref (own_fs z w)), .val (.ref (w 4))] [])) (fun t k => XS.astore X14.here hx rfl (hb hby at_96) rfl rfl (l' := #[.val (.int p0), .val (.int p1), .val (.int z), .val (.ref (own_fs z w)), .val (.ref (w 4))]) rfl k) ?_
              refine own_step (S' := T14.setTop (mkF m 99 #[.val (.int p0), .val (.int p1), .val (.int z), .val (.ref (own_fs z w)), .val (.ref (w 4))] [(.ref (own_fs z w))])) (fun t k => XS.aloadN X14.here hx rfl (hb hby at_98) rfl rfl k) ?_
              refine own_step (S' := T14.setTop (mkF m 101 #[.val (.int p0), .val (.int p1), .val (.int z), .val (.ref (own_fs z w)), .val (.ref (w 4))] [(.ref (w 4)), (.ref (own_fs z w))])) (fun t k => XS.aload X14.here hx rfl (hb hby at_99) rfl rfl k) ?_
              refine own_step (S' := T14.setTop (mkF m 104 #[.val (.int p0), .val (.int p1), .val (.int z), .val (.ref (own_fs z w)), .val (.ref (w 4))] [])) (fun t k => Jvm.RoadKit.acmp (g := (mkF m 101 #[.val (.int p0), .val (.int p1), .val (.int z), .val (.ref (own_fs z w)), .val (.ref (w 4))] [(.ref (w 4)), (.ref (own_fs z w))])) X14 hx rfl rfl rfl (pc0 := 101) (pc' := 104) (same := true) rfl (hb hby at_101) rfl (decide_eq_true (congrArg Value.ref ((by simp [own_fs, own_499, q3, q5, q7, q9, q11, q13]) : (own_fs z w) = (w 4)))) (by decide) (by decide) k) ?_
              refine own_step (S' := T14.setTop (mkF m 105 #[.val (.int p0), .val (.int p1), .val (.int z), .val (.ref (own_fs z w)), .val (.ref (w 4))] [(.int (1 : Int32))])) (fun t k => XS.iconst X14.here hx rfl (hb hby at_104) k) ?_
              refine own_step (S' := T14.setTop (mkF m 109 #[.val (.int p0), .val (.int p1), .val (.int z), .val (.ref (own_fs z w)), .val (.ref (w 4))] [(.int (1 : Int32))])) (fun t k => XS.goto X14.here hx rfl (pc0 := 105) (pc' := 109) rfl (hb hby at_105) (by decide) (by decide) k) ?_
              exact own_retI (t := .boolean) X14 hx hlk hret (Or.inr (Or.inl rfl)) rfl (hb hby at_109) (⟨rfl, N2⟩) (by decide) (by decide)
            ·
              refine own_step (S' := T2.setTop (mkF m 85 #[.val (.int p0), .val (.int p1), .val (.int z), .val (.ref (own_fs z w)), .unset] [])) (fun t k => XS.icmpNo X2.here hx rfl (hb hby at_82) rfl (flt (q13 : ¬ ((499 : Int32) < z))).2.2.1 k) ?_
              obtain ⟨T15, X15, e15, st15⟩ := getS2 X2 hx hZ hown (host := "") (Or.inl (hw _ (List.mem_of_getElem? (i := 27) rfl))) Via.refl e2 (sS5.ext Ex0) (g := (mkF m 85 #[.val (.int p0), .val (.int p1), .val (.int z), .val (.ref (own_fs z w)), .unset] [])) rfl (hb hby at_85)
              refine own_step (S' := T15.setTop (mkF m 88 #[.val (.int p0), .val (.int p1), .val (.int z), .val (.ref (own_fs z w)), .unset] [(.ref (w 5))])) (fun t k => st15 t k) ?_
              refine own_step (S' := T15.setTop (mkF m 90 #[.val (.int p0), .val (.int p1), .val (.int z), .val (.ref (own_fs z w)), .val (.ref (w 5))] [])) (fun t k => XS.astore X15.here hx rfl (hb hby at_88) rfl rfl (l' := #[.val (.int p0), .val (.int p1), .val (.int z), .val (.ref (own_fs z w)), .val (.ref (w 5))]) rfl k) ?_
              refine own_step (S' := T15.setTop (mkF m 98 #[.val (.int p0), .val (.int p1), .val (.int z), .val (.ref (own_fs z w)), .val (.ref (w 5))] [])) (fun t k => XS.goto X15.here hx rfl (pc0 := 90) (pc' := 98) rfl (hb hby at_90) (by decide) (by decide) k) ?_
              refine own_step (S' := T15.setTop (mkF m 99 #[.val (.int p0), .val (.int p1), .val (.int z), .val (.ref (own_fs z w)), .val (.ref (w 5))] [(.ref (own_fs z w))])) (fun t k => XS.aloadN X15.here hx rfl (hb hby at_98) rfl rfl k) ?_
              refine own_step (S' := T15.setTop (mkF m 101 #[.val (.int p0), .val (.int p1), .val (.int z), .val (.ref (own_fs z w)), .val (.ref (w 5))] [(.ref (w 5)), (.ref (own_fs z w))])) (fun t k => XS.aload X15.here hx rfl (hb hby at_99) rfl rfl k) ?_
              refine own_step (S' := T15.setTop (mkF m 104 #[.val (.int p0), .val (.int p1), .val (.int z), .val (.ref (own_fs z w)), .val (.ref (w 5))] [])) (fun t k => Jvm.RoadKit.acmp (g := (mkF m 101 #[.val (.int p0), .val (.int p1), .val (.int z), .val (.ref (own_fs z w)), .val (.ref (w 5))] [(.ref (w 5)), (.ref (own_fs z w))])) X15 hx rfl rfl rfl (pc0 := 101) (pc' := 104) (same := true) rfl (hb hby at_101) rfl (decide_eq_true (congrArg Value.ref ((by simp [own_fs, own_499, q3, q5, q7, q9, q11, q13]) : (own_fs z w) = (w 5)))) (by decide) (by decide) k) ?_
              refine own_step (S' := T15.setTop (mkF m 105 #[.val (.int p0), .val (.int p1), .val (.int z), .val (.ref (own_fs z w)), .val (.ref (w 5))] [(.int (1 : Int32))])) (fun t k => XS.iconst X15.here hx rfl (hb hby at_104) k) ?_
              refine own_step (S' := T15.setTop (mkF m 109 #[.val (.int p0), .val (.int p1), .val (.int z), .val (.ref (own_fs z w)), .val (.ref (w 5))] [(.int (1 : Int32))])) (fun t k => XS.goto X15.here hx rfl (pc0 := 105) (pc' := 109) rfl (hb hby at_105) (by decide) (by decide) k) ?_
              exact own_retI (t := .boolean) X15 hx hlk hret (Or.inr (Or.inl rfl)) rfl (hb hby at_109) (⟨rfl, N2⟩) (by decide) (by decide)
set_option maxRecDepth 65536 in
set_option maxHeartbeats 4000000 in
theorem comes_1 {Post : Tables → Env → Array Value → State → Outcome → State → Prop} (hpost : ∀ tb e args s v u, (limb_1_1.after args s (.returned v) u = true ∧ limb_1_2.after args s (.returned v) u = true ∧ True) → FrameEnd s (.returned v) u (Jvm.fieldLocs frame_1_writes args s ++ Jvm.arrayLocs frame_1_arrays args s ++ Jvm.staticLocs frame_1_statics s) 0 0 → Post tb e args s (.returned v) u) :
    ArmFor flags0 classFile x code maxLocals ret World_1 tables_1 room_1 Calls_1 rest_1 Pre_1 Post := by
  intro l hfl _ _ p e ha hc hk s m args below hf hA hF happ hP
  obtain ⟨hcalls, hrest, hpre⟩ := hP
  obtain ⟨-, -, -, hnamed, -, -, -, hat⟩ := (Spec.applies_iff hf).mp happ
  obtain ⟨hg, hn⟩ := and_e (Cond.before_iff.mp (show (Jvm.Cond.and given_1 narrow_1).before args s = true from hpre))
  obtain ⟨g0, hg⟩ := and_e hg
  obtain ⟨g1, hg⟩ := and_e hg
  have g2 := hg
  obtain ⟨w0, w1, rfl⟩ : ∃ w0 w1 : Value, args = #[w0, w1] := by
    have hs : args.size = 2 := by simpa [Cond.value, given_1] using g0
    obtain ⟨Lx⟩ := args
    match Lx, hs with
    | [w0, w1], _ => exact ⟨w0, w1, rfl⟩
  have hw := fun d (hd : d ∈ tables_1) => atoms_spec (ws := Jvm.Cond.code x code maxLocals ret :: tables_1) hat d (List.mem_cons_of_mem _ hd)
  obtain ⟨i0, ei0⟩ := is_v g1
  obtain rfl : w0 = (.int i0) := Option.some.inj ei0
  obtain ⟨i1, ei1⟩ := is_v g2
  obtain rfl : w1 = (.int i1) := Option.some.inj ei1
  obtain ⟨n0, hn⟩ := and_e hn
  obtain ⟨n1, hn⟩ := and_e hn
  obtain ⟨n2, hn⟩ := and_e hn
  obtain ⟨n3, hn⟩ := and_e hn
  obtain ⟨n4, hn⟩ := and_e hn
  obtain ⟨n5, hn⟩ := and_e hn
  obtain ⟨n6, hn⟩ := and_e hn
  obtain ⟨n7, hn⟩ := and_e hn
  obtain ⟨n8, hn⟩ := and_e hn
  obtain ⟨n9, hn⟩ := and_e hn
  obtain ⟨n10, hn⟩ := and_e hn
  have n11 := hn
  obtain ⟨x0, v0, sS0, sE0⟩ := own_exa n0 (hw _ (List.mem_of_getElem? (i := 6) rfl)) (hw _ (List.mem_of_getElem? (i := 9) rfl))
  obtain ⟨x1, v1, sS1, sE1⟩ := own_exa n2 (hw _ (List.mem_of_getElem? (i := 6) rfl)) (hw _ (List.mem_of_getElem? (i := 13) rfl))
  obtain ⟨x2, v2, sS2, sE2⟩ := own_exa n4 (hw _ (List.mem_of_getElem? (i := 6) rfl)) (hw _ (List.mem_of_getElem? (i := 15) rfl))
  obtain ⟨x3, v3, sS3, sE3⟩ := own_exa n6 (hw _ (List.mem_of_getElem? (i := 6) rfl)) (hw _ (List.mem_of_getElem? (i := 19) rfl))
  obtain ⟨x4, v4, sS4, sE4⟩ := own_exa n8 (hw _ (List.mem_of_getElem? (i := 6) rfl)) (hw _ (List.mem_of_getElem? (i := 22) rfl))
  obtain ⟨x5, v5, sS5, sE5⟩ := own_exa n9 (hw _ (List.mem_of_getElem? (i := 6) rfl)) (hw _ (List.mem_of_getElem? (i := 26) rfl))
  have sF0_status := own_fldI v0 n1
  have sF1_status := own_fldI v1 n3
  have sF2_status := own_fldI v2 n5
  have sF3_status := own_fldI v3 n7
  have sF4_status := own_fldI v4 n10
  have sF5_status := own_fldI v5 n11
  have H : Hyp s (fun j => [x0, x1, x2, x3, x4, x5].getD j 0) := ⟨sS0, sE0, sF0_status, sS1, sE1, sF1_status, sS2, sE2, sF2_status, sS3, sE3, sF3_status, sS4, sE4, sF4_status, sS5, sE5, sF5_status⟩
  obtain ⟨n, o, h1, h2, h3, _, L, rfl, ⟨rfl, N⟩, hq⟩ := rm0 l s _ hw tables_1 _ H i0 i1 s.heap ⟨Nat.le_refl _, fun _ _ q => q⟩  p e ha hc hk s m _ below hf ((Spec.applies_iff_loose hf).mp happ).1 ⟨rfl, State.Warmed39.refl s, rfl⟩ trivial
  refine ⟨n, _, h1, h2, h3, hpost _ _ _ _ _ _ ⟨Cond.after_iff.mpr rfl, Cond.after_iff.mpr (eq_i res_at (Term.int_eval (1)) rfl), trivial⟩ ⟨hq.1, hq.2.1, (hq.2.2.sift fun y hy => Or.inr (N y hy)).mono (by decide) (by decide)⟩⟩
theorem main_1_1 : Claimed_1_1 := comes_1 fun _ _ _ _ _ _ h hF => ⟨h.1, hF⟩
theorem main_1_2 : Claimed_1_2 := comes_1 fun _ _ _ _ _ _ h hF => ⟨h.2.1, hF⟩
end Jvm.Pilot.@@N@@
namespace Jvm.Pilot.@@N@@
open Jvm Jvm.ClassFile Sem Op Lib Jvm.Free Jvm.Stand Jvm.Pilot.@@N@@.Jvm.D
/-! MADE BY PROGRAM (witnessworld.py) out of the Statement's table words and the real class files: 12 classes; the members and pool entries that the words name. The judged class is class 1, her method 2. -/
namespace start1
open Jvm.ClassFile
def u (s : String) : CpInfo := .utf8 (stringToUtf16 s)
/-- a pool by its gaps: so many unusable entries, then the entry; so many at the end -/
def gap : Nat → List CpInfo → List CpInfo
  | 0, r => r
  | n + 1, r => .unusable :: gap n r
def poolList (es : List (Nat × CpInfo)) (last : Nat) : List CpInfo := es.foldr (fun e r => gap e.1 (e.2 :: r)) (gap last [])
def pool (es : List (Nat × CpInfo)) (last : Nat) : Array CpInfo := ⟨poolList es last⟩
def fileOf (pool : Array CpInfo) (this : Nat) (attrs : Array Attribute := #[]) (ms : Array MethodInfo := #[]) (fl : Nat := 33) (sup : Nat := 0) (ifs : Array Nat := #[]) (fds : Array FieldInfo := #[]) : ClassFile where
  minorVersion := 0
  majorVersion := 65
  constantPool := pool
  accessFlags := fl
  thisClass := this
  superClass := sup
  interfaces := ifs
  fields := fds
  methods := ms
  attributes := attrs
def plain (name : String) (sup : Option ClassId) : Class where
  name := name
  kind := .ordinary
  loader := none
  accessFlags := 33
  super := sup
  interfaces := #[]
  cf := none
  fields := #[]
  methods := #[]
  instanceTypes := #[]
  staticTypes := #[]
  resolved := #[]
  callSites := []
  init := .initialized
  statics := none
  mirror := none

def pool0 : Array CpInfo := pool [(5, u "<init>"), (0, u "()V"), (1, .class_ 10), (1, u "java/lang/Object")] 113

def k0m0 : Method := { name := "<init>", desc := "()V", sig := { parameters := [], returnType := none }, accessFlags := 1, code := none }
/-- java/lang/Object -/
def k0 : Class := { plain "java/lang/Object" none with
  accessFlags := 33
  interfaces := #[]
  cf := some (fileOf pool0 8 #[] #[{ accessFlags := 1, nameIndex := 5, descriptorIndex := 6, attributes := #[] }] 33 0 #[] #[])
  fields := #[]
  methods := #[k0m0]
  instanceTypes := #[]
  staticTypes := #[]
  resolved := Array.replicate 124 none
  statics := none }

def pool1 : Array CpInfo := pool [(2, .class_ 4), (1, u "java/lang/Object"), (0, u "<init>"), (0, u "()V"), (0, .integer 2147483647), (2, .integer 2147483648), (0, .methodref 12 13), (0, .class_ 14), (0, .nameAndType 15 16), (0, u "com/example/creditd/creditd/server/ProblemCodeForStatusPinLaw"), (0, u "pick"), (0, u "(II)I"), (0, .methodref 18 19), (0, .class_ 20), (0, .nameAndType 21 22), (0, u "com/example/creditd/creditd/server/ProblemCode"), (0, u "forStatus"), (0, u "(I)Lcom/example/creditd/creditd/server/ProblemCode;"), (0, .fieldref 18 24), (0, .nameAndType 25 26), (0, u "UNAUTHORIZED"), (0, u "Lcom/example/creditd/creditd/server/ProblemCode;"), (0, .fieldref 18 28), (0, .nameAndType 29 26), (0, u "NOT_FOUND"), (0, .fieldref 18 31), (0, .nameAndType 32 26), (0, u "METHOD_NOT_ALLOWED"), (0, .fieldref 18 34), (0, .nameAndType 35 26), (0, u "REQUEST_TOO_LARGE"), (0, .fieldref 18 37), (0, .nameAndType 38 26), (0, u "INVALID_REQUEST"), (0, .fieldref 18 40), (0, .nameAndType 41 26), (0, u "INTERNAL_ERROR"), (3, u "law"), (0, u "(II)Z")] 2

def k1m0 : Method := { name := "<init>", desc := "()V", sig := { parameters := [], returnType := none }, accessFlags := 1, code := none }
def k1c1 : Code := { maxStack := 3, maxLocals := 3, code := method_2_code, exceptionTable := #[], attributes := #[] }
def k1m1 : Method := { name := "pick", desc := "(II)I", sig := { parameters := [.int, .int], returnType := some .int }, accessFlags := 10, code := some k1c1 }
def k1c2 : Code := { maxStack := 2, maxLocals := 5, code := code, exceptionTable := #[], attributes := #[] }
def k1m2 : Method := { name := "law", desc := "(II)Z", sig := { parameters := [.int, .int], returnType := some .boolean }, accessFlags := 9, code := some k1c2 }
/-- com/example/creditd/creditd/server/ProblemCodeForStatusPinLaw -/
def k1 : Class := { plain "com/example/creditd/creditd/server/ProblemCodeForStatusPinLaw" (some 0) with
  accessFlags := 49
  interfaces := #[]
  cf := some (fileOf pool1 12 #[] #[{ accessFlags := 1, nameIndex := 5, descriptorIndex := 6, attributes := #[] }, { accessFlags := 10, nameIndex := 15, descriptorIndex := 16, attributes := #[] }, { accessFlags := 9, nameIndex := 45, descriptorIndex := 46, attributes := #[] }] 49 2 #[] #[])
  fields := #[]
  methods := #[k1m0, k1m1, k1m2]
  instanceTypes := #[]
  staticTypes := #[]
  resolved := Array.replicate 49 none
  statics := none }

def pool2 : Array CpInfo := pool [(1, .class_ 2), (0, u "java/lang/constant/Constable"), (0, .class_ 4), (0, u "java/lang/Object")] 6

/-- java/lang/constant/Constable -/
def k2 : Class := { plain "java/lang/constant/Constable" (some 0) with
  accessFlags := 1537
  interfaces := #[]
  cf := some (fileOf pool2 1 #[] #[] 1537 3 #[] #[])
  fields := #[]
  methods := #[]
  instanceTypes := #[]
  staticTypes := #[]
  resolved := Array.replicate 11 none
  statics := none }

def pool3 : Array CpInfo := pool [(1, .class_ 2), (0, u "java/lang/Comparable"), (0, .class_ 4), (0, u "java/lang/Object")] 7

/-- java/lang/Comparable -/
def k3 : Class := { plain "java/lang/Comparable" (some 0) with
  accessFlags := 1537
  interfaces := #[]
  cf := some (fileOf pool3 1 #[] #[] 1537 3 #[] #[])
  fields := #[]
  methods := #[]
  instanceTypes := #[]
  staticTypes := #[]
  resolved := Array.replicate 12 none
  statics := none }

def pool4 : Array CpInfo := pool [(1, .class_ 2), (0, u "java/io/Serializable"), (0, .class_ 4), (0, u "java/lang/Object")] 2

/-- java/io/Serializable -/
def k4 : Class := { plain "java/io/Serializable" (some 0) with
  accessFlags := 1537
  interfaces := #[]
  cf := some (fileOf pool4 1 #[] #[] 1537 3 #[] #[])
  fields := #[]
  methods := #[]
  instanceTypes := #[]
  staticTypes := #[]
  resolved := Array.replicate 7 none
  statics := none }

def pool5 : Array CpInfo := pool [(2, .class_ 4), (1, u "java/lang/Enum"), (0, u "name"), (0, u "Ljava/lang/String;"), (2, u "ordinal"), (0, u "I"), (1, .class_ 14), (1, u "java/lang/Object"), (4, u "hash"), (86, .class_ 108), (1, u "java/lang/Enum$EnumDesc"), (2, .class_ 112), (0, u "java/lang/constant/Constable"), (0, .class_ 114), (0, u "java/lang/Comparable"), (0, .class_ 116), (0, u "java/io/Serializable")] 87

/-- java/lang/Enum -/
def k5 : Class := { plain "java/lang/Enum" (some 0) with
  accessFlags := 1057
  interfaces := #[2, 3, 4]
  cf := some (fileOf pool5 2 #[.nestMembers #[106]] #[] 1057 12 #[111, 113, 115] #[{ accessFlags := 18, nameIndex := 5, descriptorIndex := 6, attributes := #[] }, { accessFlags := 18, nameIndex := 9, descriptorIndex := 10, attributes := #[] }, { accessFlags := 2, nameIndex := 19, descriptorIndex := 10, attributes := #[] }])
  fields := #[{ name := "name", type := (.object "java/lang/String"), accessFlags := 18, slot := 0, constantValue := 0 }, { name := "ordinal", type := .int, accessFlags := 18, slot := 1, constantValue := 0 }, { name := "hash", type := .int, accessFlags := 2, slot := 2, constantValue := 0 }]
  methods := #[]
  instanceTypes := #[(.object "java/lang/String"), .int, .int]
  staticTypes := #[]
  resolved := Array.replicate 204 none
  statics := none }

def pool6 : Array CpInfo := pool [(1, .class_ 2), (0, u "com/example/creditd/creditd/server/ProblemCode"), (0, .fieldref 1 4), (0, .nameAndType 5 6), (0, u "INVALID_REQUEST"), (0, u "Lcom/example/creditd/creditd/server/ProblemCode;"), (2, u "UNKNOWN_UNIT"), (2, u "UNKNOWN_RULE"), (2, u "IDEMPOTENCY_KEY_MISSING"), (0, .fieldref 1 17), (0, .nameAndType 18 6), (0, u "UNAUTHORIZED"), (2, u "FORBIDDEN"), (2, u "EARN_ONLY"), (0, .fieldref 1 26), (0, .nameAndType 27 6), (0, u "NOT_FOUND"), (2, u "HOLD_NOT_FOUND"), (2, u "GIFT_NOT_FOUND"), (2, u "ENTRY_NOT_FOUND"), (0, .fieldref 1 38), (0, .nameAndType 39 6), (0, u "METHOD_NOT_ALLOWED"), (2, u "IDEMPOTENCY_KEY_IN_FLIGHT"), (2, u "INSUFFICIENT_BALANCE"), (2, u "UNIT_NOT_SPENDABLE"), (2, u "CAP_REACHED"), (2, u "ALREADY_CLAIMED"), (2, u "RULE_LIMIT_REACHED"), (2, u "NOT_AWAITING_REVIEW"), (2, u "NOT_REJECTABLE"), (2, u "GIFT_NOT_REDEEMABLE"), (2, u "GIFT_NOT_CANCELLABLE"), (2, u "ENTRY_NOT_REVERSIBLE"), (2, u "REVERSAL_EXCEEDS_ENTRY"), (0, .fieldref 1 77), (0, .nameAndType 78 6), (0, u "REQUEST_TOO_LARGE"), (2, u "IDEMPOTENCY_KEY_REUSED"), (2, u "ACCOUNT_FROZEN"), (2, u "TOO_MANY_ATTEMPTS"), (0, .fieldref 1 89), (0, .nameAndType 90 6), (0, u "INTERNAL_ERROR"), (2, u "$VALUES"), (0, u "[Lcom/example/creditd/creditd/server/ProblemCode;"), (6, .class_ 103), (1, u "java/lang/Enum"), (6, .fieldref 1 111), (0, .nameAndType 112 113), (0, u "status"), (0, u "I"), (61, u "forStatus"), (0, u "(I)Lcom/example/creditd/creditd/server/ProblemCode;")] 6

def k6c0 : Code := { maxStack := 2, maxLocals := 2, code := prog_38_method_6_code, exceptionTable := #[], attributes := #[] }
def k6m0 : Method := { name := "forStatus", desc := "(I)Lcom/example/creditd/creditd/server/ProblemCode;", sig := { parameters := [.int], returnType := some (.object "com/example/creditd/creditd/server/ProblemCode") }, accessFlags := 8, code := some k6c0 }
/-- com/example/creditd/creditd/server/ProblemCode -/
def k6 : Class := { plain "com/example/creditd/creditd/server/ProblemCode" (some 5) with
  accessFlags := 16432
  interfaces := #[]
  cf := some (fileOf pool6 1 #[] #[{ accessFlags := 8, nameIndex := 175, descriptorIndex := 176, attributes := #[] }] 16432 101 #[] #[{ accessFlags := 16409, nameIndex := 5, descriptorIndex := 6, attributes := #[] }, { accessFlags := 16409, nameIndex := 9, descriptorIndex := 6, attributes := #[] }, { accessFlags := 16409, nameIndex := 12, descriptorIndex := 6, attributes := #[] }, { accessFlags := 16409, nameIndex := 15, descriptorIndex := 6, attributes := #[] }, { accessFlags := 16409, nameIndex := 18, descriptorIndex := 6, attributes := #[] }, { accessFlags := 16409, nameIndex := 21, descriptorIndex := 6, attributes := #[] }, { accessFlags := 16409, nameIndex := 24, descriptorIndex := 6, attributes := #[] }, { accessFlags := 16409, nameIndex := 27, descriptorIndex := 6, attributes := #[] }, { accessFlags := 16409, nameIndex := 30, descriptorIndex := 6, attributes := #[] }, { accessFlags := 16409, nameIndex := 33, descriptorIndex := 6, attributes := #[] }, { accessFlags := 16409, nameIndex := 36, descriptorIndex := 6, attributes := #[] }, { accessFlags := 16409, nameIndex := 39, descriptorIndex := 6, attributes := #[] }, { accessFlags := 16409, nameIndex := 42, descriptorIndex := 6, attributes := #[] }, { accessFlags := 16409, nameIndex := 45, descriptorIndex := 6, attributes := #[] }, { accessFlags := 16409, nameIndex := 48, descriptorIndex := 6, attributes := #[] }, { accessFlags := 16409, nameIndex := 51, descriptorIndex := 6, attributes := #[] }, { accessFlags := 16409, nameIndex := 54, descriptorIndex := 6, attributes := #[] }, { accessFlags := 16409, nameIndex := 57, descriptorIndex := 6, attributes := #[] }, { accessFlags := 16409, nameIndex := 60, descriptorIndex := 6, attributes := #[] }, { accessFlags := 16409, nameIndex := 63, descriptorIndex := 6, attributes := #[] }, { accessFlags := 16409, nameIndex := 66, descriptorIndex := 6, attributes := #[] }, { accessFlags := 16409, nameIndex := 69, descriptorIndex := 6, attributes := #[] }, { accessFlags := 16409, nameIndex := 72, descriptorIndex := 6, attributes := #[] }, { accessFlags := 16409, nameIndex := 75, descriptorIndex := 6, attributes := #[] }, { accessFlags := 16409, nameIndex := 78, descriptorIndex := 6, attributes := #[] }, { accessFlags := 16409, nameIndex := 81, descriptorIndex := 6, attributes := #[] }, { accessFlags := 16409, nameIndex := 84, descriptorIndex := 6, attributes := #[] }, { accessFlags := 16409, nameIndex := 87, descriptorIndex := 6, attributes := #[] }, { accessFlags := 16409, nameIndex := 90, descriptorIndex := 6, attributes := #[] }, { accessFlags := 18, nameIndex := 112, descriptorIndex := 113, attributes := #[] }, { accessFlags := 4122, nameIndex := 93, descriptorIndex := 94, attributes := #[] }])
  fields := #[{ name := "INVALID_REQUEST", type := (.object "com/example/creditd/creditd/server/ProblemCode"), accessFlags := 16409, slot := 0, constantValue := 0 }, { name := "UNKNOWN_UNIT", type := (.object "com/example/creditd/creditd/server/ProblemCode"), accessFlags := 16409, slot := 1, constantValue := 0 }, { name := "UNKNOWN_RULE", type := (.object "com/example/creditd/creditd/server/ProblemCode"), accessFlags := 16409, slot := 2, constantValue := 0 }, { name := "IDEMPOTENCY_KEY_MISSING", type := (.object "com/example/creditd/creditd/server/ProblemCode"), accessFlags := 16409, slot := 3, constantValue := 0 }, { name := "UNAUTHORIZED", type := (.object "com/example/creditd/creditd/server/ProblemCode"), accessFlags := 16409, slot := 4, constantValue := 0 }, { name := "FORBIDDEN", type := (.object "com/example/creditd/creditd/server/ProblemCode"), accessFlags := 16409, slot := 5, constantValue := 0 }, { name := "EARN_ONLY", type := (.object "com/example/creditd/creditd/server/ProblemCode"), accessFlags := 16409, slot := 6, constantValue := 0 }, { name := "NOT_FOUND", type := (.object "com/example/creditd/creditd/server/ProblemCode"), accessFlags := 16409, slot := 7, constantValue := 0 }, { name := "HOLD_NOT_FOUND", type := (.object "com/example/creditd/creditd/server/ProblemCode"), accessFlags := 16409, slot := 8, constantValue := 0 }, { name := "GIFT_NOT_FOUND", type := (.object "com/example/creditd/creditd/server/ProblemCode"), accessFlags := 16409, slot := 9, constantValue := 0 }, { name := "ENTRY_NOT_FOUND", type := (.object "com/example/creditd/creditd/server/ProblemCode"), accessFlags := 16409, slot := 10, constantValue := 0 }, { name := "METHOD_NOT_ALLOWED", type := (.object "com/example/creditd/creditd/server/ProblemCode"), accessFlags := 16409, slot := 11, constantValue := 0 }, { name := "IDEMPOTENCY_KEY_IN_FLIGHT", type := (.object "com/example/creditd/creditd/server/ProblemCode"), accessFlags := 16409, slot := 12, constantValue := 0 }, { name := "INSUFFICIENT_BALANCE", type := (.object "com/example/creditd/creditd/server/ProblemCode"), accessFlags := 16409, slot := 13, constantValue := 0 }, { name := "UNIT_NOT_SPENDABLE", type := (.object "com/example/creditd/creditd/server/ProblemCode"), accessFlags := 16409, slot := 14, constantValue := 0 }, { name := "CAP_REACHED", type := (.object "com/example/creditd/creditd/server/ProblemCode"), accessFlags := 16409, slot := 15, constantValue := 0 }, { name := "ALREADY_CLAIMED", type := (.object "com/example/creditd/creditd/server/ProblemCode"), accessFlags := 16409, slot := 16, constantValue := 0 }, { name := "RULE_LIMIT_REACHED", type := (.object "com/example/creditd/creditd/server/ProblemCode"), accessFlags := 16409, slot := 17, constantValue := 0 }, { name := "NOT_AWAITING_REVIEW", type := (.object "com/example/creditd/creditd/server/ProblemCode"), accessFlags := 16409, slot := 18, constantValue := 0 }, { name := "NOT_REJECTABLE", type := (.object "com/example/creditd/creditd/server/ProblemCode"), accessFlags := 16409, slot := 19, constantValue := 0 }, { name := "GIFT_NOT_REDEEMABLE", type := (.object "com/example/creditd/creditd/server/ProblemCode"), accessFlags := 16409, slot := 20, constantValue := 0 }, { name := "GIFT_NOT_CANCELLABLE", type := (.object "com/example/creditd/creditd/server/ProblemCode"), accessFlags := 16409, slot := 21, constantValue := 0 }, { name := "ENTRY_NOT_REVERSIBLE", type := (.object "com/example/creditd/creditd/server/ProblemCode"), accessFlags := 16409, slot := 22, constantValue := 0 }, { name := "REVERSAL_EXCEEDS_ENTRY", type := (.object "com/example/creditd/creditd/server/ProblemCode"), accessFlags := 16409, slot := 23, constantValue := 0 }, { name := "REQUEST_TOO_LARGE", type := (.object "com/example/creditd/creditd/server/ProblemCode"), accessFlags := 16409, slot := 24, constantValue := 0 }, { name := "IDEMPOTENCY_KEY_REUSED", type := (.object "com/example/creditd/creditd/server/ProblemCode"), accessFlags := 16409, slot := 25, constantValue := 0 }, { name := "ACCOUNT_FROZEN", type := (.object "com/example/creditd/creditd/server/ProblemCode"), accessFlags := 16409, slot := 26, constantValue := 0 }, { name := "TOO_MANY_ATTEMPTS", type := (.object "com/example/creditd/creditd/server/ProblemCode"), accessFlags := 16409, slot := 27, constantValue := 0 }, { name := "INTERNAL_ERROR", type := (.object "com/example/creditd/creditd/server/ProblemCode"), accessFlags := 16409, slot := 28, constantValue := 0 }, { name := "status", type := .int, accessFlags := 18, slot := 3, constantValue := 0 }, { name := "$VALUES", type := (.array (.object "com/example/creditd/creditd/server/ProblemCode")), accessFlags := 4122, slot := 29, constantValue := 0 }]
  methods := #[k6m0]
  instanceTypes := #[(.object "java/lang/String"), .int, .int, .int]
  staticTypes := #[(.object "com/example/creditd/creditd/server/ProblemCode"), (.object "com/example/creditd/creditd/server/ProblemCode"), (.object "com/example/creditd/creditd/server/ProblemCode"), (.object "com/example/creditd/creditd/server/ProblemCode"), (.object "com/example/creditd/creditd/server/ProblemCode"), (.object "com/example/creditd/creditd/server/ProblemCode"), (.object "com/example/creditd/creditd/server/ProblemCode"), (.object "com/example/creditd/creditd/server/ProblemCode"), (.object "com/example/creditd/creditd/server/ProblemCode"), (.object "com/example/creditd/creditd/server/ProblemCode"), (.object "com/example/creditd/creditd/server/ProblemCode"), (.object "com/example/creditd/creditd/server/ProblemCode"), (.object "com/example/creditd/creditd/server/ProblemCode"), (.object "com/example/creditd/creditd/server/ProblemCode"), (.object "com/example/creditd/creditd/server/ProblemCode"), (.object "com/example/creditd/creditd/server/ProblemCode"), (.object "com/example/creditd/creditd/server/ProblemCode"), (.object "com/example/creditd/creditd/server/ProblemCode"), (.object "com/example/creditd/creditd/server/ProblemCode"), (.object "com/example/creditd/creditd/server/ProblemCode"), (.object "com/example/creditd/creditd/server/ProblemCode"), (.object "com/example/creditd/creditd/server/ProblemCode"), (.object "com/example/creditd/creditd/server/ProblemCode"), (.object "com/example/creditd/creditd/server/ProblemCode"), (.object "com/example/creditd/creditd/server/ProblemCode"), (.object "com/example/creditd/creditd/server/ProblemCode"), (.object "com/example/creditd/creditd/server/ProblemCode"), (.object "com/example/creditd/creditd/server/ProblemCode"), (.object "com/example/creditd/creditd/server/ProblemCode"), (.array (.object "com/example/creditd/creditd/server/ProblemCode"))]
  resolved := Array.replicate 183 none
  statics := some 0 }

def pool7 : Array CpInfo := pool [(1, u "java/lang/Cloneable"), (0, .class_ 1), (0, u "java/lang/Object"), (0, .class_ 3)] 3

/-- java/lang/Cloneable -/
def k7 : Class := { plain "java/lang/Cloneable" (some 0) with
  accessFlags := 1537
  interfaces := #[]
  cf := some (fileOf pool7 2 #[] #[] 1537 4 #[] #[])
  fields := #[]
  methods := #[]
  instanceTypes := #[]
  staticTypes := #[]
  resolved := Array.replicate 8 none
  statics := none }

/-- the primitive byte -/
def k8 : Class := { plain "byte" none with kind := .primitive 'B', accessFlags := 0x411 }
/-- [B -/
def k9 : Class := { plain "[B" (some 0) with kind := .array 8 .byte, interfaces := #[7, 4], accessFlags := 1041 }

/-- the primitive int -/
def k10 : Class := { plain "int" none with kind := .primitive 'I', accessFlags := 0x411 }
/-- [I -/
def k11 : Class := { plain "[I" (some 0) with kind := .array 10 .int, interfaces := #[7, 4], accessFlags := 1041 }

def heap : Heap := #[{ cls := 6, slots := #[.ref 6, .null, .null, .null, .ref 4, .null, .null, .ref 1, .null, .null, .null, .ref 2, .null, .null, .null, .null, .null, .null, .null, .null, .null, .null, .null, .null, .ref 3, .null, .null, .null, .ref 5, .null], vm := .statics 6 },
  { cls := 6, slots := #[.null, .int 0, .int 0, .int 404], vm := .none },
  { cls := 6, slots := #[.null, .int 0, .int 0, .int 405], vm := .none },
  { cls := 6, slots := #[.null, .int 0, .int 0, .int 413], vm := .none },
  { cls := 6, slots := #[.null, .int 0, .int 0, .int 401], vm := .none },
  { cls := 6, slots := #[.null, .int 0, .int 0, .int 500], vm := .none },
  { cls := 6, slots := #[.null, .int 0, .int 0, .int 400], vm := .none }]
def classes : Array Class := #[k0, k1, k2, k3, k4, k5, k6, k7, k8, k9, k10, k11]
def interned : List (Array UInt16 × Addr) := []
def slotsUsed : Nat := 54
def theMethod : MethodId := ⟨1, 2⟩
def args0 : Array Value := #[.int 5, .int 7]
def aboutOver (below : List Frame) : State where
  vm := { classes := classes, interned := interned.toArray }
  heap := heap
  slotsUsed := slotsUsed
  threads := #[{ frames := .invoking theMethod args0 :: below }]
def below0 : List Frame := [.native { method := ⟨0, 0⟩, args := #[] }]
def about1 : State := aboutOver below0
def p0 : Program := .bare "" "" ""
def e0 : Env := launch0.env 0 0 0
theorem w_frames : about1.frames = Frame.invoking theMethod args0 :: below0 := rfl
set_option maxRecDepth 65536 in
theorem w_args : argsFit about1.vm theMethod args0 = true := by decide +kernel
set_option maxRecDepth 65536 in
theorem w_heap : heapFits about1 = true := by decide +kernel
set_option maxRecDepth 65536 in
theorem w_runnable : about1.curStatus? = some .runnable := by decide +kernel
set_option maxRecDepth 65536 in
theorem w_alone : about1.alone = true := by decide +kernel
set_option maxRecDepth 65536 in
theorem w_named : about1.methodNamed? x = some theMethod := by decide +kernel
set_option maxRecDepth 65536 in
theorem w_hears : about1.hears theMethod below0 = true := by decide +kernel
set_option maxRecDepth 65536 in
theorem w_ripe : about1.ripe theMethod args0 below0 = true := by decide +kernel
theorem w_running : about1.status = .running := rfl
set_option maxRecDepth 65536 in
theorem w_room : about1.hasRoom e0.platform room_1 = true :=
  launch0.hasRoom_least _ room_1 (by decide +kernel) (by decide +kernel) (by decide +kernel) (by decide +kernel) (by decide +kernel) (by decide +kernel)
theorem allAtoms_all (ts : List Jvm.Cond) (a : Array Jvm.Value) (st : Jvm.State) : (allAtoms ts).before a st = ts.all (fun c => c.before a st) := by
  induction ts with
  | nil => rfl
  | cons c t ih =>
    show (Jvm.Cond.and c (allAtoms t)).before a st = _
    rw [Jvm.Cond.before_and, ih, List.all_cons]
def words1 : List Jvm.Cond := Jvm.Cond.code x code maxLocals ret :: tables_1
/-- a 'code' word, met by the world's own term for the bytes: nothing is compared byte by byte -/
theorem code_word {y : MethodName} {bytes : ByteArray} {mx : Nat} {rt : Option FieldType} {a : Array Value} {s : State} {m : MethodId} {meth : Method} {c : Code} (h1 : s.methodNamed? y = some m) (h2 : s.vm.method? m = some meth) (h3 : meth.code = some c) (h4 : c.code = bytes)
    (h5 : (c.maxLocals == mx && c.exceptionTable.isEmpty && decide (c.maxStack ≤ mostOperands) && decide (meth.sig.returnType = rt) && !meth.locks && decide (parseMethodDescriptor y.desc = some meth.sig)) = true) : (Jvm.Cond.code y bytes mx rt).before a s = true := by
  simp only [Bool.and_eq_true, beq_iff_eq, Bool.not_eq_true', decide_eq_true_eq] at h5
  obtain ⟨⟨⟨⟨⟨g1, g2⟩, g3⟩, g4⟩, g5⟩, g6⟩ := h5
  simp [Cond.before, Cond.holds, Cond.value, h1, h2, h3, h4, g1, g2, g3, g4, g5, g6]
def isCode : Jvm.Cond → Bool
  | .code _ _ _ _ => true
  | _ => false
theorem all_split {L : List Jvm.Cond} {P : Jvm.Cond → Bool} (h1 : L.all (fun c => isCode c || P c) = true) (h2 : ∀ c ∈ L.filter isCode, P c = true) : L.all P = true := by
  refine List.all_eq_true.mpr fun c hc => ?_
  have h := List.all_eq_true.mp h1 c hc
  rcases Bool.eq_false_or_eq_true (isCode c) with hi | hi
  · exact h2 c (List.mem_filter.mpr ⟨hc, hi⟩)
  · simpa [hi] using h
set_option maxRecDepth 65536 in
theorem w_c0 : (Jvm.Cond.code x code maxLocals ret).before args0 about1 = true := code_word (m := ⟨1, 2⟩) (meth := k1m2) (c := k1c2) (by decide +kernel) rfl rfl rfl (by decide +kernel)
set_option maxRecDepth 65536 in
theorem w_c1 : (Jvm.Cond.code ({ cls := "com/example/creditd/creditd/server/ProblemCodeForStatusPinLaw", name := "pick", desc := "(II)I" } : Jvm.MethodName) method_2_code (3 : Nat) (Option.some Jvm.ClassFile.FieldType.int)).before args0 about1 = true := code_word (m := ⟨1, 1⟩) (meth := k1m1) (c := k1c1) (by decide +kernel) rfl rfl rfl (by decide +kernel)
set_option maxRecDepth 65536 in
theorem w_c2 : (Jvm.Cond.code ({ cls := "com/example/creditd/creditd/server/ProblemCode", name := "forStatus", desc := "(I)Lcom/example/creditd/creditd/server/ProblemCode;" } : Jvm.MethodName) prog_38_method_6_code (2 : Nat) (Option.some (Jvm.ClassFile.FieldType.object "com/example/creditd/creditd/server/ProblemCode"))).before args0 about1 = true := code_word (m := ⟨6, 0⟩) (meth := k6m0) (c := k6c0) (by decide +kernel) rfl rfl rfl (by decide +kernel)
def codes1 : List Jvm.Cond := [Jvm.Cond.code x code maxLocals ret, Jvm.Cond.code ({ cls := "com/example/creditd/creditd/server/ProblemCodeForStatusPinLaw", name := "pick", desc := "(II)I" } : Jvm.MethodName) method_2_code (3 : Nat) (Option.some Jvm.ClassFile.FieldType.int), Jvm.Cond.code ({ cls := "com/example/creditd/creditd/server/ProblemCode", name := "forStatus", desc := "(I)Lcom/example/creditd/creditd/server/ProblemCode;" } : Jvm.MethodName) prog_38_method_6_code (2 : Nat) (Option.some (Jvm.ClassFile.FieldType.object "com/example/creditd/creditd/server/ProblemCode"))]
set_option maxRecDepth 65536 in
theorem codes_eq : words1.filter isCode = codes1 := rfl
theorem w_codes : ∀ c ∈ words1.filter isCode, c.before args0 about1 = true := by
  rw [codes_eq]
  intro c hc
  simp only [codes1, List.mem_cons, List.not_mem_nil, or_false] at hc
  rcases hc with rfl | rfl | rfl
  · exact w_c0
  · exact w_c1
  · exact w_c2
set_option maxRecDepth 65536 in
theorem w_t1 : (words1.take 24).all (fun c => isCode c || c.before args0 about1) = true := by decide +kernel
set_option maxRecDepth 65536 in
theorem w_t2 : (words1.drop 24).all (fun c => isCode c || c.before args0 about1) = true := by decide +kernel
theorem w_tables : (allAtoms (Jvm.Cond.code x code maxLocals ret :: tables_1)).before args0 about1 = true := by
  rw [allAtoms_all]
  show words1.all (fun c => c.before args0 about1) = true
  refine all_split ?_ w_codes
  rw [← List.take_append_drop 24 words1, List.all_append, w_t1, w_t2]
  rfl
set_option maxRecDepth 65536 in
theorem w_case : (Jvm.Cond.and given_1 narrow_1).before args0 about1 = true := by decide +kernel
theorem w_applies : (headSpec (Jvm.Cond.code x code maxLocals ret :: tables_1) room_1).applies x e0.platform about1 = true :=
  (Spec.applies_iff w_frames).mpr ⟨w_running, w_runnable, w_alone, w_named, w_hears, w_ripe, w_room, w_tables⟩
theorem atStart : AtStart classFile x code maxLocals ret World_1 tables_1 room_1 Calls_1 rest_1 Pre_1 launch0 p0 e0 about1 theMethod args0 below0 :=
  ⟨lists_1, trivial, launch0.admits_env _ _ _, launch0.least_env, fairChoices_fair.cas, fairChoices_fair.clock, w_frames, w_args, w_heap, w_applies, trivial, trivial, w_case⟩
end start1
theorem witness_1 : WitnessClaimed_1 := ⟨start1.p0, start1.e0, start1.about1, start1.theMethod, start1.args0, start1.below0, start1.atStart⟩
end Jvm.Pilot.@@N@@
