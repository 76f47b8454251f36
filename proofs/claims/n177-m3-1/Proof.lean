import JvmDerived
import JvmDerived.Pilot.@@N@@Statement
import JvmDerived.Pilot.@@N@@Code
set_option linter.unusedVariables false
set_option linter.unusedSimpArgs false
namespace Jvm.Pilot.@@N@@
open Jvm Jvm.ClassFile Sem Op Lib Jvm.Free Jvm.Stand Jvm.LawKit Jvm.RoadKit Bundle Jvm.Pilot.@@N@@.Jvm.D
section Own
variable {p : Program} {l : Launch} {e : Env} {R : Room} {s : State} {m : MethodId} {args : Array Value} {below : List Frame} {meth : Method} {c : Code} {T : State} {locs : List Loc} {cells slots : Nat} {Z : State} {a0 : Array Value} {h h' : Heap} {Q : Option Value → Heap → List Loc → Prop} {k n : Nat} {S S' : State}
/-- from S the walk comes to its end, and Q holds there -/
def own_Go (p : Program) (e : Env) (below : List Frame) (s : State) (Q : Option Value → Heap → List Loc → Prop) (k n : Nat) (S : State) : Prop :=
  ∃ s₂ o, Steps p.tables e below S s₂ ∧ s₂.status = .running ∧ Ended s₂ below o ∧ ∃ v L, o = .returned v ∧ Q v s₂.heap L ∧ FrameEnd s o s₂ L k n
theorem own_step (f : ∀ t, Steps p.tables e below S' t → Steps p.tables e below S t) (g : own_Go p e below s Q k n S') : own_Go p e below s Q k n S := by
  obtain ⟨s₂, o, h1, r⟩ := g
  exact ⟨s₂, o, f _ h1, r⟩
theorem own_ret (X : Stand p l e R s m args below meth c T locs cells slots) (hx : p.tables.exec = Jvm.exec) (hlk : meth.locks = false) {pc : Nat} {Ls : Array Slot} {w : Value} {t : FieldType} {i : Instr} {rest : List Value} (hret : meth.sig.returnType = some t) (hn : narrow t w = w)
    (hi : (i = .ireturn ∧ (t = .int ∨ t = .boolean ∨ t = .byte ∨ t = .char ∨ t = .short) ∧ ∃ z, w = .int z) ∨ (i = .lreturn ∧ t = .long ∧ ∃ z, w = .long z) ∨ (i = .dreturn ∧ t = .double ∧ ∃ z, w = .double z) ∨ (i = .freturn ∧ t = .float ∧ ∃ z, w = .float z) ∨ (i = .areturn ∧ t.isReference = true ∧ w.isRef = true))
    (hd : decode c.code pc = .ok (i, 1)) (hQ : Q (some w) T.heap locs) (hk : cells ≤ k) (hs : slots ≤ n) : own_Go p e below s Q k n (T.setTop (mkF m pc Ls (w :: rest))) := by
  obtain ⟨fs, hr, hrun, hended, hW, hsame⟩ := X.leave (v := some w) (fun h => by rw [hret] at h; cases h) hlk
  exact ⟨_, _, retOut X hx hret hn hi hd hr, hrun, hended, _, _, rfl, hQ, ⟨_, rfl⟩, hW, hsame.mono hk hs⟩
theorem own_retI (X : Stand p l e R s m args below meth c T locs cells slots) (hx : p.tables.exec = Jvm.exec) (hlk : meth.locks = false) {pc : Nat} {Ls : Array Slot} {z : Int32} {t : FieldType} {rest : List Value} (hret : meth.sig.returnType = some t) (ht : t = .int ∨ t = .boolean ∨ t = .byte ∨ t = .char ∨ t = .short) (hn : narrow t (.int z) = .int z)
    (hd : decode c.code pc = .ok (.ireturn, 1)) (hQ : Q (some (.int z)) T.heap locs) (hk : cells ≤ k) (hs : slots ≤ n) : own_Go p e below s Q k n (T.setTop (mkF m pc Ls (.int z :: rest))) :=
  own_ret X hx hlk hret hn (Or.inl ⟨rfl, ht, z, rfl⟩) hd hQ hk hs
theorem own_retJ (X : Stand p l e R s m args below meth c T locs cells slots) (hx : p.tables.exec = Jvm.exec) (hlk : meth.locks = false) {pc : Nat} {Ls : Array Slot} {z : Int64} {rest : List Value} (hret : meth.sig.returnType = some .long)
    (hd : decode c.code pc = .ok (.lreturn, 1)) (hQ : Q (some (.long z)) T.heap locs) (hk : cells ≤ k) (hs : slots ≤ n) : own_Go p e below s Q k n (T.setTop (mkF m pc Ls (.long z :: rest))) :=
  own_ret X hx hlk hret rfl (Or.inr (Or.inl ⟨rfl, rfl, z, rfl⟩)) hd hQ hk hs
theorem own_narrow_ref {t : FieldType} {w : Value} (ht : t.isReference = true) (hw : w.isRef = true) : narrow t w = w := by
  rcases ref_cases hw with rfl | ⟨z, rfl⟩ <;> cases t <;> first | rfl | (simp [FieldType.isReference] at ht)
theorem own_retA (X : Stand p l e R s m args below meth c T locs cells slots) (hx : p.tables.exec = Jvm.exec) (hlk : meth.locks = false) {pc : Nat} {Ls : Array Slot} {w : Value} {t : FieldType} {rest : List Value} (hret : meth.sig.returnType = some t) (ht : t.isReference = true) (hw : w.isRef = true)
    (hd : decode c.code pc = .ok (.areturn, 1)) (hQ : Q (some w) T.heap locs) (hk : cells ≤ k) (hs : slots ≤ n) : own_Go p e below s Q k n (T.setTop (mkF m pc Ls (w :: rest))) :=
  own_ret X hx hlk hret (own_narrow_ref ht hw) (Or.inr (Or.inr (Or.inr (Or.inr ⟨rfl, ht, hw⟩)))) hd hQ hk hs
theorem own_retV (X : Stand p l e R s m args below meth c T locs cells slots) (hx : p.tables.exec = Jvm.exec) (hlk : meth.locks = false) {pc : Nat} {Ls : Array Slot} (hret : meth.sig.returnType = none)
    (hd : decode c.code pc = .ok (.return_, 1)) (hQ : Q none T.heap locs) (hk : cells ≤ k) (hs : slots ≤ n) : own_Go p e below s Q k n (T.setTop (mkF m pc Ls [])) := by
  obtain ⟨fs, hr, hrun, hended, hW, hsame⟩ := X.leave (v := none) (fun _ => rfl) hlk
  exact ⟨_, _, X.returnOut hx hret hd hr, hrun, hended, _, _, rfl, hQ, ⟨_, rfl⟩, hW, hsame.mono hk hs⟩
theorem own_cat {v : Value} (q : v.isRef = true) : v.category = 1 := by
  rcases ref_cases q with rfl | ⟨z, rfl⟩ <;> rfl
/-- what a body is asked for: it is called with the arguments as', over the heap h0 -/
abbrev own_Met (l : Launch) (Z : State) (y : MethodName) (bytes : ByteArray) (maxL : Nat) (ret : Option FieldType) (ws : List Jvm.Cond) (rm : Room) (as' : Array Value) (h0 : Heap) (Q : Option Value → Heap → List Loc → Prop) : Prop :=
  MetFree l y (head1 (Jvm.Cond.code y bytes maxL ret :: ws) rm) (fun a U => a = as' ∧ Z.Warmed39 U.vm ∧ U.heap = h0) (fun _ _ _ _ _ => True) (fun _ U o U' => ∃ v L, o = .returned v ∧ Q v U'.heap L ∧ FrameEnd U o U' L rm.cells rm.slots)
/-- a body that leaves the heap as it was, and returns V -/
def own_P (Z : State) (h0 : Heap) (V : Value) (v : Option Value) (h : Heap) (L : List Loc) : Prop := v = some V ∧ Fr Z.heap.size L ∧ h = h0
theorem own_body {y : MethodName} {bytes : ByteArray} {maxL : Nat} {ret : Option FieldType} {ws : List Jvm.Cond} {rm : Room} {as' : Array Value} {h0 : Heap} {ls : Array Slot} (hn : plainFor y = true) (hf : ∀ m : MethodId, entryFrame m as' maxL = mkF m 0 ls [])
    (H : ∀ (p : Program) (e : Env) (s : State) (m : MethodId) (below : List Frame) (meth : Method) (c : Code) (T : State), Z.Warmed39 s.vm → p.tables.exec = Jvm.exec → c.code = bytes → c.maxLocals = maxL → s.vm.findClass y.cls = some m.cls → meth.name = y.name → meth.sig.returnType = ret → meth.locks = false →
      Stand p l e rm s m as' below meth c T [] 0 0 → T.heap = h0 → own_Go p e below s Q rm.cells rm.slots (T.setTop (mkF m 0 ls []))) : own_Met l Z y bytes maxL ret ws rm as' h0 Q := by
  refine MetFree.of_bodySF hn hisR ?_
  intro p e s m args below meth c s₁ Bd hml0 hP hK
  obtain ⟨rfl, hZ, hh⟩ := hP
  obtain ⟨s₂, o, h1, h2, h3, r⟩ := H p e s m below meth c s₁ hZ Bd.exec Bd.bytes hml0 (findClass_of_methodNamed Bd.named) (name_of_methodNamed Bd.named Bd.method).1 Bd.returns (BodyLoose.notSynchronized Bd) (Stand.of_body Bd) (by rw [← hh, Bd.state]; rfl)
  exact ⟨s₂, o, castTop (hf m) h1, h2, h3, r⟩
theorem own_callV (X : Stand p l e R s m args below meth c T locs cells slots) (hx : p.tables.exec = Jvm.exec) (hZ : Z.Warmed39 s.vm) {own C : String} {index : Nat} {y : MethodName} (hown : s.vm.findClass own = some m.cls)
    (w1 : (Jvm.Cond.methodLink own index y).before a0 Z = true) (w2 : (Jvm.Cond.declares y).before a0 Z = true) (w3 : (Jvm.Cond.selects C y y).before a0 Z = true) (w4 : (Jvm.Cond.instanceMethod y).before a0 Z = true) {bytes : ByteArray} {maxL : Nat} {ret : Option FieldType} (wc : (Jvm.Cond.code y bytes maxL ret).before a0 Z = true) (wz : (Jvm.Cond.initialized y.cls).before a0 Z = true)
    (hy : y.cls ≠ "java/lang/invoke/MethodHandle" ∧ y.cls ≠ "java/lang/invoke/VarHandle") {rm : Room} {b : Addr} {argsL rest : List Value} (hM : own_Met l Z y bytes maxL ret [] rm (.ref b :: argsL).toArray h Q) {W : Nat} (hf : rm.frames + 1 ≤ R.frames) (hl : W + (maxL + 11) + rm.locals ≤ R.locals)
    (eT : T.heap = h) (E : Exa Z h b C) {g : JFrame} (hg : g.method = m) (hsize : g.locals.size = c.maxLocals) (hlen : ∀ sig, parseMethodDescriptor y.desc = some sig → argsL.length = sig.parameters.length) (hstack : g.stack = argsL.reverse ++ .ref b :: rest)
    (hW : 2 * g.monitorRoom + (rest.map fun v => v.category).sum ≤ W) (hdg : decode c.code g.pc = .ok (.invokevirtual index, 3)) (hc : cells + rm.cells ≤ R.cells) (hs : slots + rm.slots ≤ R.slots) :
    ∃ v T' L', Stand p l e R s m args below meth c T' (locs ++ L') (cells + rm.cells) (slots + rm.slots) ∧ Q v T'.heap L' ∧ ∀ target, Steps p.tables e below (T'.setTop { g with pc := g.pc + 3, stack := v.toList ++ rest }) target → Steps p.tables e below (T.setTop g) target := by
  obtain ⟨cq, kq, qa, qb, qc⟩ := isOf hZ eT E
  obtain ⟨v, _, ⟨T8, L8, k8, n8⟩, -, X8, ⟨Lc8, hQ8, l8, y8, z8⟩, st8⟩ := X.virtualBack hx hown (mvT hZ w1) (mvT hZ w2) (notFace_of_selects (args := #[]) (mvT hZ w3)) (mvT hZ w3) (mvT hZ w4) hy (backOf (W := W) hM hZ wc wz hf hl) qa qc hg hsize (Steps.refl _) hlen hstack hW hdg (fun _ _ => ⟨rfl, eT, hc, hs⟩)
  dsimp only [Pt.U, Pt.locs, Pt.cells, Pt.slots] at X8 l8 y8 z8 st8 hQ8
  subst l8 y8 z8
  exact ⟨v, T8, Lc8, X8, hQ8, fun t q => st8.trans q⟩
theorem own_callS (X : Stand p l e R s m args below meth c T locs cells slots) (hx : p.tables.exec = Jvm.exec) (hZ : Z.Warmed39 s.vm) {own : String} {index : Nat} {y : MethodName} (hown : s.vm.findClass own = some m.cls)
    (w1 : (Jvm.Cond.methodLink own index y).before a0 Z = true) (w2 : (Jvm.Cond.static y).before a0 Z = true) {bytes : ByteArray} {maxL : Nat} {ret : Option FieldType} (wc : (Jvm.Cond.code y bytes maxL ret).before a0 Z = true) (wz : (Jvm.Cond.initialized y.cls).before a0 Z = true)
    (hy : y.cls ≠ "java/lang/invoke/MethodHandle" ∧ y.cls ≠ "java/lang/invoke/VarHandle") {rm : Room} {argsL rest : List Value} (hM : own_Met l Z y bytes maxL ret [] rm argsL.toArray h Q) {W : Nat} (hf : rm.frames + 1 ≤ R.frames) (hl : W + (maxL + 11) + rm.locals ≤ R.locals)
    (eT : T.heap = h) {g : JFrame} (hg : g.method = m) (hsize : g.locals.size = c.maxLocals) (hlen : ∀ sig, parseMethodDescriptor y.desc = some sig → argsL.length = sig.parameters.length) (hstack : g.stack = argsL.reverse ++ rest)
    (hW : 2 * g.monitorRoom + (rest.map fun v => v.category).sum ≤ W) (hdg : decode c.code g.pc = .ok (.invokestatic index, 3)) (hc : cells + rm.cells ≤ R.cells) (hs : slots + rm.slots ≤ R.slots) :
    ∃ v T' L', Stand p l e R s m args below meth c T' (locs ++ L') (cells + rm.cells) (slots + rm.slots) ∧ Q v T'.heap L' ∧ ∀ target, Steps p.tables e below (T'.setTop { g with pc := g.pc + 3, stack := v.toList ++ rest }) target → Steps p.tables e below (T.setTop g) target := by
  obtain ⟨v, _, ⟨T8, L8, k8, n8⟩, -, X8, ⟨Lc8, hQ8, l8, y8, z8⟩, st8⟩ := Jvm.LawKit.callS X hx hown (mvT hZ w1) (mvT hZ w2) (mvT hZ wz) (mvT hZ wc) hy (backOf (W := W) hM hZ wc wz hf hl) hg hsize hlen hstack hW hdg (fun _ _ => ⟨rfl, eT, hc, hs⟩)
  dsimp only [Pt.U, Pt.locs, Pt.cells, Pt.slots] at X8 l8 y8 z8 st8 hQ8
  subst l8 y8 z8
  exact ⟨v, T8, Lc8, X8, hQ8, st8⟩
theorem own_callI (X : Stand p l e R s m args below meth c T locs cells slots) (hx : p.tables.exec = Jvm.exec) (hZ : Z.Warmed39 s.vm) {own : String} {index : Nat} {y : MethodName} (hy1 : y.name = "<init>") (hown : s.vm.findClass own = some m.cls)
    (w1 : (Jvm.Cond.methodLink own index y).before a0 Z = true) (w2 : (Jvm.Cond.instanceMethod y).before a0 Z = true) {bytes : ByteArray} {maxL : Nat} (wc : (Jvm.Cond.code y bytes maxL none).before a0 Z = true) (wz : (Jvm.Cond.initialized y.cls).before a0 Z = true)
    (hy : y.cls ≠ "java/lang/invoke/MethodHandle" ∧ y.cls ≠ "java/lang/invoke/VarHandle") {rm : Room} {b : Addr} {argsL rest : List Value} (hM : own_Met l Z y bytes maxL none [] rm (.ref b :: argsL).toArray h Q) {W : Nat} (hf : rm.frames + 1 ≤ R.frames) (hl : W + (maxL + 11) + rm.locals ≤ R.locals)
    (eT : T.heap = h) {g : JFrame} (hg : g.method = m) (hsize : g.locals.size = c.maxLocals) (hlen : ∀ sig, parseMethodDescriptor y.desc = some sig → argsL.length = sig.parameters.length) (hstack : g.stack = argsL.reverse ++ .ref b :: rest)
    (hW : 2 * g.monitorRoom + (rest.map fun v => v.category).sum ≤ W) (hdg : decode c.code g.pc = .ok (.invokespecial index, 3)) (hc : cells + rm.cells ≤ R.cells) (hs : slots + rm.slots ≤ R.slots) :
    ∃ v T' L', Stand p l e R s m args below meth c T' (locs ++ L') (cells + rm.cells) (slots + rm.slots) ∧ Q v T'.heap L' ∧ ∀ target, Steps p.tables e below (T'.setTop { g with pc := g.pc + 3, stack := v.toList ++ rest }) target → Steps p.tables e below (T.setTop g) target := by
  obtain ⟨v, _, ⟨T8, L8, k8, n8⟩, -, X8, ⟨Lc8, hQ8, l8, y8, z8⟩, st8⟩ := X.specialBack hx hy1 hown (mvT hZ w1) (mvT hZ w2) (mvT hZ wc) hy (backOf (W := W) hM hZ wc wz hf hl) hg hsize (Steps.refl _) hlen hstack hW hdg (fun _ _ => ⟨rfl, eT, hc, hs⟩)
  dsimp only [Pt.U, Pt.locs, Pt.cells, Pt.slots] at X8 l8 y8 z8 st8 hQ8
  subst l8 y8 z8
  exact ⟨v, T8, Lc8, X8, hQ8, fun t q => st8.trans q⟩
theorem own_ldcI (X : Stand p l e R s m args below meth c T locs cells slots) (hx : p.tables.exec = Jvm.exec) (hZ : Z.Warmed39 s.vm) {own : String} {index : Nat} {v : Int32} (hown : s.vm.findClass own = some m.cls) (w : (Jvm.Cond.constant own index v).before a0 Z = true)
    {g : JFrame} (hg : g.method = m) (hd : decode c.code g.pc = .ok (.ldc index, 2)) : ∀ target, Steps p.tables e below (T.setTop { g with pc := g.pc + 2, stack := .int v :: g.stack }) target → Steps p.tables e below (T.setTop g) target := X.ldcInt hx hown (mvT hZ w) hg hd
theorem own_ldcJ (X : Stand p l e R s m args below meth c T locs cells slots) (hx : p.tables.exec = Jvm.exec) (hZ : Z.Warmed39 s.vm) {own : String} {index : Nat} {v : Int64} (hown : s.vm.findClass own = some m.cls) (w : (Jvm.Cond.constantLong own index v).before a0 Z = true)
    {g : JFrame} (hg : g.method = m) (hd : decode c.code g.pc = .ok (.ldc2_w index, 3)) : ∀ target, Steps p.tables e below (T.setTop { g with pc := g.pc + 3, stack := .long v :: g.stack }) target → Steps p.tables e below (T.setTop g) target := X.ldc2Long hx hown (mvT hZ w) hg hd
/-! arrays: what stands in them, as a list -/
def own_Ar (Z : State) (h : Heap) (a : Addr) (kc : ClassId) (ty : FieldType) (vs : List Value) : Prop := ∃ c : Cell, Arr Z h a c ty ∧ c.cls = kc ∧ c.slots.toList = vs
variable {a b : Addr} {kc : ClassId} {ty : FieldType} {vs vs' : List Value} {v : Value} {i : Nat}
theorem own_Ar.new {z : Int32} (A : Arr Z h a (newA kc ty z) ty) (hz : List.replicate z.toNatClampNeg (defaultValue ty) = vs) : own_Ar Z h a kc ty vs := ⟨_, A, rfl, by rw [← hz]; simp [newA]⟩
theorem own_Ar.set (W : Wr h h' a i v) (F : own_Ar Z h a kc ty vs) (hv : vs.set i v = vs') : own_Ar Z h' a kc ty vs' := by
  obtain ⟨c, A, q, r⟩ := F
  exact ⟨_, A.same W, q, by rw [← hv, ← r]; simp [Cell.setSlot]⟩
theorem own_Ar.other (W : Wr h h' b i v) (F : own_Ar Z h a kc ty vs) (q : a ≠ b) : own_Ar Z h' a kc ty vs := by
  obtain ⟨c, A, r⟩ := F
  exact ⟨c, A.other W q, r⟩
theorem own_Ar.ext (E : Ext h h') (F : own_Ar Z h a kc ty vs) : own_Ar Z h' a kc ty vs := by
  obtain ⟨c, A, r⟩ := F
  exact ⟨c, A.ext E, r⟩
theorem own_Ar.lt (F : own_Ar Z h a kc ty vs) : a < h.size := by
  obtain ⟨c, A, r⟩ := F
  exact A.lt
theorem own_ext_trans {h'' : Heap} (E : Ext h h') (E' : Ext h' h'') : Ext h h'' := ⟨Nat.le_trans E.1 E'.1, fun a c q => E'.2 a c (E.2 a c q)⟩
theorem own_ext_wr {h0 : Heap} (E : Ext h0 h) (W : Wr h h' a i v) (q : h0.size ≤ a) : Ext h0 h' := by
  refine ⟨Nat.le_trans E.1 (Nat.le_of_eq W.size.symm), fun x cx hc => ?_⟩
  obtain ⟨c', e1, -, -, -, e5, -⟩ := wr_at W (E.2 x cx hc)
  have ne : x ≠ a := fun z => by
    have := (Array.getElem?_eq_some_iff.mp hc).1
    subst z
    exact absurd this (Nat.not_lt.mpr q)
  rw [← e5 ne]; exact e1
theorem own_inb {c : Cell} {j : Int32} (r : c.slots.toList = vs) (hj : ¬ j < 0) (hv : vs[j.toNatClampNeg]? = some v) : ¬ (j < 0 ∨ c.slots.size ≤ j.toNatClampNeg) ∧ c.slots[j.toNatClampNeg]? = some v := by
  have q : c.slots[j.toNatClampNeg]? = some v := by rw [← hv, ← r, Array.getElem?_toList]
  refine ⟨fun z => ?_, q⟩
  rcases z with z | z
  · exact hj z
  · exact absurd (Array.getElem?_eq_some_iff.mp q).1 (Nat.not_lt.mpr z)
theorem own_aaload (X : Stand p l e R s m args below meth c T locs cells slots) (hx : p.tables.exec = Jvm.exec) (hZ : Z.Warmed39 s.vm) (eT : T.heap = h) (F : own_Ar Z h a kc ty vs) (hty : ty.isReference = true) {j : Int32} (hj : ¬ j < 0) (hv : vs[j.toNatClampNeg]? = some v)
    {g : JFrame} (hg : g.method = m) {rest : List Value} (hs : g.stack = .int j :: .ref a :: rest) (hd : decode c.code g.pc = .ok (.aaload, 1)) : ∀ target, Steps p.tables e below (T.setTop { g with pc := g.pc + 1, stack := v :: rest }) target → Steps p.tables e below (T.setTop g) target := by
  obtain ⟨cl, A, -, r⟩ := F
  obtain ⟨q1, q2⟩ := own_inb r hj hv
  exact X.aaload hx (by rw [eT]; exact A.1) (State.isArrayOf_alike hZ.alike A.2.1) hty A.2.2 q1 q2 hg hs hd
theorem own_iaload (X : Stand p l e R s m args below meth c T locs cells slots) (hx : p.tables.exec = Jvm.exec) (hZ : Z.Warmed39 s.vm) (eT : T.heap = h) (F : own_Ar Z h a kc .int vs) {j : Int32} (hj : ¬ j < 0) (hv : vs[j.toNatClampNeg]? = some v)
    {g : JFrame} (hg : g.method = m) {rest : List Value} (hs : g.stack = .int j :: .ref a :: rest) (hd : decode c.code g.pc = .ok (.iaload, 1)) : ∀ target, Steps p.tables e below (T.setTop { g with pc := g.pc + 1, stack := v :: rest }) target → Steps p.tables e below (T.setTop g) target := by
  obtain ⟨cl, A, -, r⟩ := F
  obtain ⟨q1, q2⟩ := own_inb r hj hv
  exact fun t k => X.iaload hx (by rw [eT]; exact A.1) (State.isArrayOf_alike hZ.alike A.2.1) A.2.2 q1 q2 hg hs hd t k
theorem own_zaload (X : Stand p l e R s m args below meth c T locs cells slots) (hx : p.tables.exec = Jvm.exec) (hZ : Z.Warmed39 s.vm) (eT : T.heap = h) (F : own_Ar Z h a kc .boolean vs) {j : Int32} (hj : ¬ j < 0) (hv : vs[j.toNatClampNeg]? = some v)
    {g : JFrame} (hg : g.method = m) {rest : List Value} (hs : g.stack = .int j :: .ref a :: rest) (hd : decode c.code g.pc = .ok (.baload, 1)) : ∀ target, Steps p.tables e below (T.setTop { g with pc := g.pc + 1, stack := v :: rest }) target → Steps p.tables e below (T.setTop g) target := by
  obtain ⟨cl, A, -, r⟩ := F
  obtain ⟨q1, q2⟩ := own_inb r hj hv
  exact fun t k => X.baloadBooleans hx (by rw [eT]; exact A.1) (State.isArrayOf_alike hZ.alike A.2.1) A.2.2 q1 q2 hg hs hd t k
theorem own_alen (X : Stand p l e R s m args below meth c T locs cells slots) (hx : p.tables.exec = Jvm.exec) (hZ : Z.Warmed39 s.vm) (eT : T.heap = h) (F : own_Ar Z h a kc ty vs) {z : Int32} (hz : vs.length.toInt32 = z)
    {g : JFrame} (hg : g.method = m) {rest : List Value} (hs : g.stack = .ref a :: rest) (hd : decode c.code g.pc = .ok (.arraylength, 1)) : ∀ target, Steps p.tables e below (T.setTop { g with pc := g.pc + 1, stack := .int z :: rest }) target → Steps p.tables e below (T.setTop g) target := by
  obtain ⟨cl, A, -, r⟩ := F
  have q : cl.slots.size.toInt32 = z := by rw [← hz, ← r]; simp
  subst q
  exact fun t k => X.arraylength hx (by rw [eT]; exact A.1) (State.isArrayOf_alike hZ.alike A.2.1) hg hs hd t k
theorem own_stin {c : Cell} {j : Int32} (r : c.slots.toList = vs) (hj : ¬ j < 0) (hi : j.toNatClampNeg = i) (hlt : i < vs.length) : ¬ (j < 0 ∨ c.slots.size ≤ j.toNatClampNeg) := by
  have q : c.slots.size = vs.length := by rw [← r]; simp
  rintro (z | z)
  · exact hj z
  · omega
theorem own_stR (X : Stand p l e R s m args below meth c T locs cells slots) (hx : p.tables.exec = Jvm.exec) (hZ : Z.Warmed39 s.vm) (eT : T.heap = h) {C : String} (F : own_Ar Z h a kc (.object C) vs) (O : Ovr Z kc C) {y : Addr} (I : Exa Z h y C) {j : Int32} (i : Nat) (vs' : List Value) (hj : ¬ j < 0) (hi : j.toNatClampNeg = i) (hlt : i < vs.length) (hv : vs.set i (.ref y) = vs')
    (Ex : Ext Z.heap h) (ha : Z.heap.size ≤ a) (N : Fr Z.heap.size locs) {g : JFrame} (hg : g.method = m) {rest : List Value} (hs : g.stack = .ref y :: .int j :: .ref a :: rest) (hd : decode c.code g.pc = .ok (.aastore, 1)) :
    ∃ T' h' locs', Stand p l e R s m args below meth c T' locs' cells slots ∧ T'.heap = h' ∧ own_Ar Z h' a kc (.object C) vs' ∧ Ext Z.heap h' ∧ Fr Z.heap.size locs' ∧ Wr h h' a i (.ref y) ∧ ∀ target, Steps p.tables e below (T'.setTop { g with pc := g.pc + 1, stack := rest }) target → Steps p.tables e below (T.setTop g) target := by
  obtain ⟨cl, A, q, r⟩ := F
  obtain ⟨T', h', X', e', W', st⟩ := stR X hx hZ eT A (own_stin r hj hi hlt) rfl (Sto.of A (q ▸ O) (Ins.self I)) hg hs hd
  rw [hi] at W'
  exact ⟨T', h', _, X', e', own_Ar.set W' ⟨cl, A, q, r⟩ hv, own_ext_wr Ex W' ha, Fr.snoc X' N ha, W', st⟩
theorem own_stI (X : Stand p l e R s m args below meth c T locs cells slots) (hx : p.tables.exec = Jvm.exec) (hZ : Z.Warmed39 s.vm) (eT : T.heap = h) (F : own_Ar Z h a kc .int vs) {x j : Int32} (i : Nat) (vs' : List Value) (hj : ¬ j < 0) (hi : j.toNatClampNeg = i) (hlt : i < vs.length) (hv : vs.set i (.int x) = vs')
    (Ex : Ext Z.heap h) (ha : Z.heap.size ≤ a) (N : Fr Z.heap.size locs) {g : JFrame} (hg : g.method = m) {rest : List Value} (hs : g.stack = .int x :: .int j :: .ref a :: rest) (hd : decode c.code g.pc = .ok (.iastore, 1)) :
    ∃ T' h' locs', Stand p l e R s m args below meth c T' locs' cells slots ∧ T'.heap = h' ∧ own_Ar Z h' a kc .int vs' ∧ Ext Z.heap h' ∧ Fr Z.heap.size locs' ∧ Wr h h' a i (.int x) ∧ ∀ target, Steps p.tables e below (T'.setTop { g with pc := g.pc + 1, stack := rest }) target → Steps p.tables e below (T.setTop g) target := by
  obtain ⟨cl, A, q, r⟩ := F
  obtain ⟨T', h', X', e', W', st⟩ := stI X hx hZ eT A (own_stin r hj hi hlt) hg hs hd
  rw [hi] at W'
  exact ⟨T', h', _, X', e', own_Ar.set W' ⟨cl, A, q, r⟩ hv, own_ext_wr Ex W' ha, Fr.snoc X' N ha, W', st⟩
theorem own_stZ (X : Stand p l e R s m args below meth c T locs cells slots) (hx : p.tables.exec = Jvm.exec) (hZ : Z.Warmed39 s.vm) (eT : T.heap = h) (F : own_Ar Z h a kc .boolean vs) {x j : Int32} (i : Nat) (vs' : List Value) (hj : ¬ j < 0) (hi : j.toNatClampNeg = i) (hlt : i < vs.length) (hn : nar .boolean x = x) (hv : vs.set i (.int x) = vs')
    (Ex : Ext Z.heap h) (ha : Z.heap.size ≤ a) (N : Fr Z.heap.size locs) {g : JFrame} (hg : g.method = m) {rest : List Value} (hs : g.stack = .int x :: .int j :: .ref a :: rest) (hd : decode c.code g.pc = .ok (.bastore, 1)) :
    ∃ T' h' locs', Stand p l e R s m args below meth c T' locs' cells slots ∧ T'.heap = h' ∧ own_Ar Z h' a kc .boolean vs' ∧ Ext Z.heap h' ∧ Fr Z.heap.size locs' ∧ Wr h h' a i (.int x) ∧ ∀ target, Steps p.tables e below (T'.setTop { g with pc := g.pc + 1, stack := rest }) target → Steps p.tables e below (T.setTop g) target := by
  obtain ⟨cl, A, q, r⟩ := F
  obtain ⟨T', h', X', e', W', st⟩ := stZ X hx hZ eT A (own_stin r hj hi hlt) hg hs hd
  rw [hi, hn] at W'
  exact ⟨T', h', _, X', e', own_Ar.set W' ⟨cl, A, q, r⟩ hv, own_ext_wr Ex W' ha, Fr.snoc X' N ha, W', st⟩
theorem own_newR (X : Stand p l e R s m args below meth c T locs cells slots) (hx : p.tables.exec = Jvm.exec) (hZ : Z.Warmed39 s.vm) {own C : String} {index : Nat} (hown : s.vm.findClass own = some m.cls) (w1 : (Jvm.Cond.classLink own index C).before a0 Z = true) (w2 : (Jvm.Cond.arrayOver (.object C)).before a0 Z = true)
    (eT : T.heap = h) (Ex : Ext Z.heap h) {g : JFrame} (hg : g.method = m) (hd : decode c.code g.pc = .ok (.anewarray index, 3)) {z : Int32} {rest : List Value} (hs : g.stack = .int z :: rest) (hn : ¬ z < 0) (vs : List Value) (hz : List.replicate z.toNatClampNeg (.null : Value) = vs) {cap : Nat} (hcap : z.toNatClampNeg ≤ cap) (hb : cap * 8 ≤ 536870912) (hc : cells + 1 ≤ R.cells) (hl : slots + cap ≤ R.slots) :
    ∃ T' h' kc a, Stand p l e R s m args below meth c T' locs (cells + 1) (slots + cap) ∧ T'.heap = h' ∧ Ext h h' ∧ Ext Z.heap h' ∧ own_Ar Z h' a kc (.object C) vs ∧ Ovr Z kc C ∧ Z.heap.size ≤ a ∧ h.size = a ∧
      ∀ target, Steps p.tables e below (T'.setTop { g with pc := g.pc + 3, stack := .ref a :: rest }) target → Steps p.tables e below (T.setTop g) target := by
  obtain ⟨T', h', kc, X', e', E', A', O', st⟩ := newR X hx hZ hown w1 w2 eT hg hd hs hn hcap hb hc hl
  exact ⟨T', h', kc, h.size, X', e', E', own_ext_trans Ex E', own_Ar.new A' hz, O', Ex.1, rfl, st⟩
theorem own_newP (X : Stand p l e R s m args below meth c T locs cells slots) (hx : p.tables.exec = Jvm.exec) (hZ : Z.Warmed39 s.vm) {aty : ArrayType} (ty : FieldType) (hty : newarray.typeOf aty = ty) (w : (Jvm.Cond.arrayClass ty).before a0 Z = true)
    (eT : T.heap = h) (Ex : Ext Z.heap h) {g : JFrame} (hg : g.method = m) (hd : decode c.code g.pc = .ok (.newarray aty, 2)) {z : Int32} {rest : List Value} (hs : g.stack = .int z :: rest) (hn : ¬ z < 0) (vs : List Value) (hz : List.replicate z.toNatClampNeg (defaultValue ty) = vs) {cap : Nat} (hcap : z.toNatClampNeg ≤ cap) (hb : cap * 8 ≤ 536870912) (hc : cells + 1 ≤ R.cells) (hl : slots + cap ≤ R.slots) :
    ∃ T' h' kc a, Stand p l e R s m args below meth c T' locs (cells + 1) (slots + cap) ∧ T'.heap = h' ∧ Ext h h' ∧ Ext Z.heap h' ∧ own_Ar Z h' a kc ty vs ∧ Z.heap.size ≤ a ∧ h.size = a ∧
      ∀ target, Steps p.tables e below (T'.setTop { g with pc := g.pc + 2, stack := .ref a :: rest }) target → Steps p.tables e below (T.setTop g) target := by
  subst hty
  obtain ⟨T', h', kc, X', e', E', A', st⟩ := newP X hx hZ w eT hg hd hs hn hcap hb hc hl
  exact ⟨T', h', kc, h.size, X', e', E', own_ext_trans Ex E', own_Ar.new A' hz, Ex.1, rfl, st⟩
theorem own_Ar.keep {ws : List Addr} (K : Keep h h' ws) (F : own_Ar Z h a kc ty vs) (q : a ∉ ws) : own_Ar Z h' a kc ty vs := by
  obtain ⟨c, A, r⟩ := F
  exact ⟨c, ⟨K.2.1 a c A.1 q, A.2⟩, r⟩
/-! objects -/
theorem own_new (X : Stand p l e R s m args below meth c T locs cells slots) (hx : p.tables.exec = Jvm.exec) (hZ : Z.Warmed39 s.vm) {own C : String} {index n : Nat} (hown : s.vm.findClass own = some m.cls) (w : (Jvm.Cond.classLink own index C).before a0 Z = true) (wi : (Jvm.Cond.instantiable C n).before a0 Z = true) (wz : (Jvm.Cond.initialized C).before a0 Z = true) (eT : T.heap = h) (Ex : Ext Z.heap h)
    {g : JFrame} (hg : g.method = m) (hd : decode c.code g.pc = .ok (.new index, 3)) (hc : cells + 1 ≤ R.cells) (hl : slots + n ≤ R.slots) :
    ∃ T' h' a, Stand p l e R s m args below meth c T' locs (cells + 1) (slots + n) ∧ T'.heap = h' ∧ Ext h h' ∧ Ext Z.heap h' ∧ Exa Z h' a C ∧ (∀ {O nm d : String} {ty : FieldType}, Laid Z a0 C O nm d → parseFieldDescriptor d = some ty → Fld Z h' a O nm d (defaultValue ty)) ∧ Z.heap.size ≤ a ∧ h.size = a ∧
      ∀ target, Steps p.tables e below (T'.setTop { g with pc := g.pc + 3, stack := .ref a :: g.stack }) target → Steps p.tables e below (T.setTop g) target := by
  obtain ⟨T', h', X', e', E', A', D', -, st⟩ := newO X hx hZ hown w wi wz eT hg hd hc hl
  exact ⟨T', h', h.size, X', e', E', own_ext_trans Ex E', A', D', Ex.1, rfl, st⟩
theorem own_putF (X : Stand p l e R s m args below meth c T locs cells slots) (hx : p.tables.exec = Jvm.exec) (hZ : Z.Warmed39 s.vm) {own R0 O nm d C : String} {index kk : Nat} {ty : FieldType} (hown : s.vm.findClass own = some m.cls) (w : (Jvm.Cond.fieldLink own index R0 nm d).before a0 Z = true) (via : Via Z R0 O nm d)
    (eT : T.heap = h) {v old : Value} (F : Fld Z h a O nm d old) (E : Exa Z h a C) (L : (Jvm.Cond.lays C O nm d).before a0 Z = true ∨ ((Jvm.Cond.laysFinal C O nm d).before a0 Z = true ∧ own = O ∧ meth.name = "<init>")) (wi : (Jvm.Cond.instantiable C kk).before a0 Z = true)
    (hty : parseFieldDescriptor d = some ty) (hn : narrow ty v = v) (hf : fits ty v = true) (Ex : Ext Z.heap h) (ha : Z.heap.size ≤ a) (N : Fr Z.heap.size locs) {g : JFrame} (hg : g.method = m) {rest : List Value} (hs : g.stack = v :: .ref a :: rest) (hd : decode c.code g.pc = .ok (.putfield index, 3)) :
    ∃ T' h' locs', Stand p l e R s m args below meth c T' locs' cells slots ∧ T'.heap = h' ∧ Fld Z h' a O nm d v ∧ Exa Z h' a C ∧ Ext Z.heap h' ∧ Fr Z.heap.size locs' ∧ Wr h h' a (Jvm.RoadKit.slotOf Z O nm d) v ∧ ∀ target, Steps p.tables e below (T'.setTop { g with pc := g.pc + 3, stack := rest }) target → Steps p.tables e below (T.setTop g) target := by
  obtain ⟨T', h', X', e', W', st⟩ := putF X hx hZ hown (host := "") (Or.inl w) via eT F E L wi hty hn hf hg hs hd
  exact ⟨T', h', _, X', e', Fld.same W' F, Exa.wr W' E, own_ext_wr Ex W' ha, Fr.snoc X' N ha, W', st⟩
/-! from the case's words to facts on the heap -/
theorem own_exa {C nm d K : String} (hn : (Jvm.Cond.exactly (.static C nm d) K).value args s none s [] = some true) (w1 : (Jvm.Cond.initialized C).before args s = true) (w2 : (Jvm.Cond.laysStatic C nm d).before args s = true) :
    ∃ w, (Term.static C nm d).eval args s none [] s = some (.ref w) ∧ Sta s s.heap C nm d (.ref w) ∧ Exa s s.heap w K := by
  obtain ⟨w, ev⟩ := exa_v hn
  exact ⟨w, ev, Sta.start ev (Or.inr ⟨w1, w2⟩), Exa.start ev hn⟩
theorem own_fldI {t : Term} {O f d : String} {w : Addr} {z : Int32} (ev : t.eval args s none [] s = some (.ref w)) (hn : (Jvm.Cond.eq (.field t O f d) (.int z)).value args s none s [] = some true) : Fld s s.heap w O f d (.int z) := by
  obtain ⟨x, y, h1, h2, k1, k2⟩ := cmp_v (Or.inl hn)
  cases (Term.int_eval z).symm.trans h2
  obtain ⟨z', rfl⟩ := k2
  simp only [Cond.value, h1, h2] at hn
  have e1 : z' = z := by simpa using hn
  subst e1
  refine Fld.start ?_
  rw [← fld_at (C := O) (n := f) (dd := d) ev]
  exact h1
theorem own_fldJ {t : Term} {O f d : String} {w : Addr} {z : Int64} (ev : t.eval args s none [] s = some (.ref w)) (hn : (Jvm.Cond.eq (.field t O f d) (.long z)).value args s none s [] = some true) : Fld s s.heap w O f d (.long z) := by
  obtain ⟨x, y, h1, h2, k1, k2⟩ := cmp_v (Or.inl hn)
  cases (show (Term.long z).eval args s none [] s = some (.long z) from rfl).symm.trans h2
  obtain ⟨z', rfl⟩ := k2
  simp only [Cond.value, h1, h2] at hn
  have e1 : z' = z := by simpa using hn
  subst e1
  refine Fld.start ?_
  rw [← fld_at (C := O) (n := f) (dd := d) ev]
  exact h1
theorem own_fld_inj {C nm d : String} {w w' : Value} (F : Fld Z h a C nm d w) (G : Fld Z h a C nm d w') : w = w' := by
  by_cases q : w = w'
  · exact q
  · exact absurd rfl (Fld.ne F G q)
theorem own_idx (x d : Int32) (hd : 0 < d.toInt) : 0 ≤ ((x &&& 2147483647) % d).toInt ∧ ((x &&& 2147483647) % d).toInt < d.toInt := by
  have h := c_mask x 2147483647 31 (by decide) (by decide)
  have h0 : 0 ≤ (x &&& 2147483647).toInt := by omega
  have q := (c_iremV (x &&& 2147483647) d).1 h0 hd
  exact ⟨q.1, q.2.1⟩
theorem own_bm32 {x : Int} (h0 : -2147483648 ≤ x) (h1 : x < 2147483648) : x.bmod (2 ^ 32) = x := Int.bmod_eq_of_le (by omega) (by omega)
theorem own_bm64 {x : Int} (h0 : -9223372036854775808 ≤ x) (h1 : x < 9223372036854775808) : x.bmod (2 ^ 64) = x := Int.bmod_eq_of_le (by omega) (by omega)
theorem own_iadd {x y : Int32} (h0 : -2147483648 ≤ x.toInt + y.toInt) (h1 : x.toInt + y.toInt < 2147483648) : (x + y).toInt = x.toInt + y.toInt := by rw [Int32.toInt_add, own_bm32 h0 h1]
theorem own_isub {x y : Int32} (h0 : -2147483648 ≤ x.toInt - y.toInt) (h1 : x.toInt - y.toInt < 2147483648) : (x - y).toInt = x.toInt - y.toInt := by rw [Int32.toInt_sub, own_bm32 h0 h1]
theorem own_lneg {x : Int64} (h0 : -9223372036854775808 ≤ -x.toInt) (h1 : -x.toInt < 9223372036854775808) : (-x).toInt = -x.toInt := by rw [Int64.toInt_neg, own_bm64 h0 h1]
theorem own_lmul {x y : Int64} (h0 : -9223372036854775808 ≤ x.toInt * y.toInt) (h1 : x.toInt * y.toInt < 9223372036854775808) : (x * y).toInt = x.toInt * y.toInt := by rw [Int64.toInt_mul, own_bm64 h0 h1]
theorem own_cl {x y : Int64} : XT.cmpL x y < 0 ↔ x < y := by
  have h : XT.cmpL x y = lcmpV x y := by simp [XT.cmpL, lcmpV]
  rw [h]; exact lc_lt x y
theorem own_cg {x y : Int64} : 0 < XT.cmpL x y ↔ y < x := by
  have h : XT.cmpL x y = lcmpV x y := by simp [XT.cmpL, lcmpV]
  rw [h]; exact lc_gt x y
theorem own_ce {x y : Int64} : XT.cmpL x y = 0 ↔ x = y := by
  have h : XT.cmpL x y = lcmpV x y := by simp [XT.cmpL, lcmpV]
  rw [h]; exact lc_eq x y
theorem own_short {x : Int32} (h0 : -32768 ≤ x.toInt) (h1 : x.toInt < 32768) : x.toInt16.toInt32 = x := by
  have h := c_i2s x
  exact Int32.toInt_inj.mp (by omega)
theorem own_nn {i : Int32} (q : 0 ≤ i.toInt) : ¬ i < 0 := by
  rw [Int32.lt_iff_toInt_lt]
  have h : (0 : Int32).toInt = 0 := by decide
  omega
theorem own_len {t : Term} {cl : Cell} {z : Int32} (ev : t.eval args s none [] s = some (.ref a)) (A : Arr s s.heap a cl ty) (hn : (Jvm.Cond.eq (.length t) (.int z)).value args s none s [] = some true) : cl.slots.size = z.toNatClampNeg := by
  have ha : s.arrayAt? a = some cl := Arr.fin (Vm.Alike.refl _) A
  by_cases hlt : cl.slots.size < 2147483648
  · have h3 := len_f ev ha hlt
    have e1 : cl.slots.size.toInt32 = z := by
      have h4 := Term.int_eval (args := args) (first := s) (o := none) (idx := []) (s := s) z
      simp only [Cond.value, h3, h4] at hn
      simpa using hn
    have h5 := len_toInt hlt
    have h6 := nat_of (own_nn (i := cl.slots.size.toInt32) (by omega))
    rw [← e1]
    omega
  · exfalso
    simp [Cond.value, Term.eval, ev, ha, hlt] at hn
theorem own_elem {t u : Term} {cl : Cell} {j : Int32} {x : Value} (ev : t.eval args s none [] s = some (.ref a)) (A : Arr s s.heap a cl ty) (hu : u.eval args s none [] s = some x) (hx : x.isRef = true) (hn : (Jvm.Cond.eq (.elem t (.int j)) u).value args s none s [] = some true) : cl.slots[j.toNatClampNeg]? = some x := by
  obtain ⟨v, y, h1, h2, k1, k2⟩ := cmp_v (Or.inl hn)
  cases hu.symm.trans h2
  have hv : v.isRef = true := by
    rcases ref_cases hx with rfl | ⟨q, rfl⟩ <;> cases v <;> simp [Kin, Value.isRef] at k1 k2 ⊢
  have e1 := gotT (eq_R h1 hu hv hx) hn
  subst e1
  exact (elem_in h1 ev (Term.int_eval j) A.1).2
theorem own_toList {cl : Cell} (hs : cl.slots.size = vs.length) (H : HasL cl 0 vs) : cl.slots.toList = vs := by
  refine List.ext_getElem? fun j => ?_
  rw [Array.getElem?_toList]
  by_cases q : j < vs.length
  · have := HasL.at (dv := .null) vs 0 H j q
    rw [Nat.zero_add] at this
    rw [this, List.getElem?_eq_getElem q]
    simp [List.getD, q]
  · rw [List.getElem?_eq_none (by omega), Array.getElem?_eq_none (by omega)]
theorem own_arr {C nm d : String} (hn : (Jvm.Cond.arrayOf (.static C nm d) ty).value args s none s [] = some true) (w1 : (Jvm.Cond.initialized C).before args s = true) (w2 : (Jvm.Cond.laysStatic C nm d).before args s = true) :
    ∃ w cl, (Term.static C nm d).eval args s none [] s = some (.ref w) ∧ Sta s s.heap C nm d (.ref w) ∧ Arr s s.heap w cl ty := by
  obtain ⟨w, ev⟩ := arr_v hn
  obtain ⟨cl, A⟩ := Arr.start ev hn
  exact ⟨w, cl, ev, Sta.start ev (Or.inr ⟨w1, w2⟩), A⟩
theorem own_and3 (x : Int32) : 0 ≤ (x &&& 3).toInt ∧ (x &&& 3).toInt < 4 := by
  have h := c_mask x 3 2 (by decide) (by decide)
  omega
end Own
end Jvm.Pilot.@@N@@
namespace Jvm.Pilot.@@N@@
open Jvm Jvm.ClassFile Sem Op Lib Jvm.Free Jvm.Stand Jvm.LawKit Jvm.RoadKit Bundle Jvm.Pilot.@@N@@.Jvm.D
theorem own_pd0 : parseMethodDescriptor "()Lcom/example/penumbra/penumbra/Expression$Direction;" = some ⟨[], some (.object "com/example/penumbra/penumbra/Expression$Direction")⟩ := by decide +kernel
theorem d1_0 : decode prog_10_method_4_code 0 = .ok (.aload_n 0, 1) := by decide +kernel
theorem d1_1 : decode prog_10_method_4_code 1 = .ok (.getstatic 7, 3) := by decide +kernel
theorem d1_4 : decode prog_10_method_4_code 4 = .ok (.if_acmp .ne 9, 3) := by decide +kernel
theorem d1_7 : decode prog_10_method_4_code 7 = .ok (.getstatic 10, 3) := by decide +kernel
theorem d1_10 : decode prog_10_method_4_code 10 = .ok (.goto 17, 3) := by decide +kernel
theorem d1_13 : decode prog_10_method_4_code 13 = .ok (.aload_n 0, 1) := by decide +kernel
theorem d1_14 : decode prog_10_method_4_code 14 = .ok (.getstatic 10, 3) := by decide +kernel
theorem d1_17 : decode prog_10_method_4_code 17 = .ok (.if_acmp .ne 9, 3) := by decide +kernel
theorem d1_20 : decode prog_10_method_4_code 20 = .ok (.getstatic 7, 3) := by decide +kernel
theorem d1_23 : decode prog_10_method_4_code 23 = .ok (.goto 4, 3) := by decide +kernel
theorem d1_26 : decode prog_10_method_4_code 26 = .ok (.aload_n 0, 1) := by decide +kernel
theorem d1_27 : decode prog_10_method_4_code 27 = .ok (.areturn, 1) := by decide +kernel
theorem own_pn0 : plainFor x = true := by first | exact plainFor_of_name (by first | (simp [plainName, overriddenIn]; done) | decide +kernel) | decide +kernel
theorem own_pn1 : plainFor (⟨"com/example/penumbra/penumbra/Expression$Direction", "flipped", "()Lcom/example/penumbra/penumbra/Expression$Direction;"⟩ : MethodName) = true := by first | exact plainFor_of_name (by first | (simp [plainName, overriddenIn]; done) | decide +kernel) | decide +kernel
def Hyp (Z : State) (w : Nat → Addr) : Prop :=
  Sta Z Z.heap "com/example/penumbra/penumbra/Expression$Direction" "CONSTANT" "Lcom/example/penumbra/penumbra/Expression$Direction;" (.ref (w 0)) ∧
  Exa Z Z.heap (w 0) "com/example/penumbra/penumbra/Expression$Direction" ∧
  Fld Z Z.heap (w 0) "java/lang/Enum" "ordinal" "I" (.int (0 : Int32)) ∧
  Sta Z Z.heap "com/example/penumbra/penumbra/Expression$Direction" "RISING" "Lcom/example/penumbra/penumbra/Expression$Direction;" (.ref (w 1)) ∧
  Exa Z Z.heap (w 1) "com/example/penumbra/penumbra/Expression$Direction" ∧
  Fld Z Z.heap (w 1) "java/lang/Enum" "ordinal" "I" (.int (1 : Int32)) ∧
  Sta Z Z.heap "com/example/penumbra/penumbra/Expression$Direction" "FALLING" "Lcom/example/penumbra/penumbra/Expression$Direction;" (.ref (w 2)) ∧
  Exa Z Z.heap (w 2) "com/example/penumbra/penumbra/Expression$Direction" ∧
  Fld Z Z.heap (w 2) "java/lang/Enum" "ordinal" "I" (.int (2 : Int32)) ∧
  Sta Z Z.heap "com/example/penumbra/penumbra/Expression$Direction" "MIXED" "Lcom/example/penumbra/penumbra/Expression$Direction;" (.ref (w 3)) ∧
  Exa Z Z.heap (w 3) "com/example/penumbra/penumbra/Expression$Direction" ∧
  Fld Z Z.heap (w 3) "java/lang/Enum" "ordinal" "I" (.int (3 : Int32))
theorem own_cases4 {i : Int32} (h0 : 0 ≤ i.toInt) (h1 : i.toInt < 4) : i = 0 ∨ i = 1 ∨ i = 2 ∨ i = 3 := by
  have h : i.toInt = 0 ∨ i.toInt = 1 ∨ i.toInt = 2 ∨ i.toInt = 3 := by omega
  rcases h with h | h | h | h <;> simp [← Int32.toInt_inj, h]
def own_pick (i : Int32) (w : Nat → Addr) : Addr := if i = 0 then w 0 else if i = 1 then w 1 else if i = 2 then w 2 else w 3
def own_fl (w : Nat → Addr) (a : Addr) : Addr := if a = w 1 then w 2 else if a = w 2 then w 1 else a
def own_flip (i : Int32) : Int32 := if i = 1 then 2 else if i = 2 then 1 else i
set_option maxRecDepth 65536 in
set_option maxHeartbeats 4000000 in
theorem rm1 (l : Launch) (Z : State) (a0 : Array Value) (hw : ∀ d ∈ tables_1, d.before a0 Z = true) (ws : List Jvm.Cond) (w : Nat → Addr) (H : Hyp Z w) (a : Addr) (h0 : Heap) (Ex0 : Ext Z.heap h0)  :
    own_Met l Z (⟨"com/example/penumbra/penumbra/Expression$Direction", "flipped", "()Lcom/example/penumbra/penumbra/Expression$Direction;"⟩ : MethodName) prog_10_method_4_code 1 (some (.object "com/example/penumbra/penumbra/Expression$Direction")) ws ({ frames := 0, cells := 0, slots := 0, locals := 0 } : Room) #[(.ref a)] h0 (own_P Z h0 (.ref (own_fl w a))) := by
  obtain ⟨sS0, sE0, sF0_ordinal, sS1, sE1, sF1_ordinal, sS2, sE2, sF2_ordinal, sS3, sE3, sF3_ordinal⟩ := H
  refine own_body (ls := #[.val (.ref a)]) own_pn1 (fun m => by first | (simp [entryFrame, mkF, argsToLocals, Value.category]; done) | rfl) ?_
  intro p e s m below meth c T0 hZ hx hby hml' hown' hnm hret' hlk X0 e0
  have hml : c.maxLocals = 1 := hml'
  have hown : s.vm.findClass "com/example/penumbra/penumbra/Expression$Direction" = some m.cls := hown'
  have hret : meth.sig.returnType = (some (.object "com/example/penumbra/penumbra/Expression$Direction")) := hret'
  have N0 := Fr.nil Z.heap.size
  refine own_step (S' := T0.setTop (mkF m 1 #[.val (.ref a)] [(.ref a)])) (fun t k => XS.aloadN X0.here hx rfl (hb hby d1_0) rfl rfl k) ?_
  obtain ⟨T1, X1, e1, st1⟩ := getS2 X0 hx hZ hown (host := "") (Or.inl (hw _ (List.mem_of_getElem? (i := 18) rfl))) Via.refl e0 (sS1.ext Ex0) (g := (mkF m 1 #[.val (.ref a)] [(.ref a)])) rfl (hb hby d1_1)
  refine own_step (S' := T1.setTop (mkF m 4 #[.val (.ref a)] [(.ref (w 1)), (.ref a)])) (fun t k => st1 t k) ?_
  by_cases q2 : a = (w 1)
  ·
    refine own_step (S' := T1.setTop (mkF m 7 #[.val (.ref a)] [])) (fun t k => Jvm.RoadKit.acmp (g := (mkF m 4 #[.val (.ref a)] [(.ref (w 1)), (.ref a)])) X1 hx rfl rfl rfl (pc0 := 4) (pc' := 7) (same := true) rfl (hb hby d1_4) rfl (decide_eq_true (congrArg Value.ref (q2 : a = (w 1)))) (by decide) (by decide) k) ?_
    obtain ⟨T3, X3, e3, st3⟩ := getS2 X1 hx hZ hown (host := "") (Or.inl (hw _ (List.mem_of_getElem? (i := 19) rfl))) Via.refl e1 (sS2.ext Ex0) (g := (mkF m 7 #[.val (.ref a)] [])) rfl (hb hby d1_7)
    refine own_step (S' := T3.setTop (mkF m 10 #[.val (.ref a)] [(.ref (w 2))])) (fun t k => st3 t k) ?_
    refine own_step (S' := T3.setTop (mkF m 27 #[.val (.ref a)] [(.ref (w 2))])) (fun t k => XS.goto X3.here hx rfl (pc0 := 10) (pc' := 27) rfl (hb hby d1_10) (by decide) (by decide) k) ?_
    exact own_retA X3 hx hlk hret rfl rfl (hb hby d1_27) (⟨by unfold own_fl; rw [if_pos q2], N0, e3⟩) (by decide) (by decide)
  ·
    refine own_step (S' := T1.setTop (mkF m 13 #[.val (.ref a)] [])) (fun t k => Jvm.RoadKit.acmp (g := (mkF m 4 #[.val (.ref a)] [(.ref (w 1)), (.ref a)])) X1 hx rfl rfl rfl (pc0 := 4) (pc' := 13) (same := false) rfl (hb hby d1_4) rfl (decide_eq_false fun z => absurd (Value.ref.inj z) (q2 : ¬ (a = (w 1)))) (by decide) (by decide) k) ?_
    refine own_step (S' := T1.setTop (mkF m 14 #[.val (.ref a)] [(.ref a)])) (fun t k => XS.aloadN X1.here hx rfl (hb hby d1_13) rfl rfl k) ?_
    obtain ⟨T4, X4, e4, st4⟩ := getS2 X1 hx hZ hown (host := "") (Or.inl (hw _ (List.mem_of_getElem? (i := 19) rfl))) Via.refl e1 (sS2.ext Ex0) (g := (mkF m 14 #[.val (.ref a)] [(.ref a)])) rfl (hb hby d1_14)
    refine own_step (S' := T4.setTop (mkF m 17 #[.val (.ref a)] [(.ref (w 2)), (.ref a)])) (fun t k => st4 t k) ?_
    by_cases q5 : a = (w 2)
    ·
      refine own_step (S' := T4.setTop (mkF m 20 #[.val (.ref a)] [])) (fun t k => Jvm.RoadKit.acmp (g := (mkF m 17 #[.val (.ref a)] [(.ref (w 2)), (.ref a)])) X4 hx rfl rfl rfl (pc0 := 17) (pc' := 20) (same := true) rfl (hb hby d1_17) rfl (decide_eq_true (congrArg Value.ref (q5 : a = (w 2)))) (by decide) (by decide) k) ?_
      obtain ⟨T6, X6, e6, st6⟩ := getS2 X4 hx hZ hown (host := "") (Or.inl (hw _ (List.mem_of_getElem? (i := 18) rfl))) Via.refl e4 (sS1.ext Ex0) (g := (mkF m 20 #[.val (.ref a)] [])) rfl (hb hby d1_20)
      refine own_step (S' := T6.setTop (mkF m 23 #[.val (.ref a)] [(.ref (w 1))])) (fun t k => st6 t k) ?_
      refine own_step (S' := T6.setTop (mkF m 27 #[.val (.ref a)] [(.ref (w 1))])) (fun t k => XS.goto X6.here hx rfl (pc0 := 23) (pc' := 27) rfl (hb hby d1_23) (by decide) (by decide) k) ?_
      exact own_retA X6 hx hlk hret rfl rfl (hb hby d1_27) (⟨by unfold own_fl; rw [if_neg q2, if_pos q5], N0, e6⟩) (by decide) (by decide)
    ·
      refine own_step (S' := T4.setTop (mkF m 26 #[.val (.ref a)] [])) (fun t k => Jvm.RoadKit.acmp (g := (mkF m 17 #[.val (.ref a)] [(.ref (w 2)), (.ref a)])) X4 hx rfl rfl rfl (pc0 := 17) (pc' := 26) (same := false) rfl (hb hby d1_17) rfl (decide_eq_false fun z => absurd (Value.ref.inj z) (q5 : ¬ (a = (w 2)))) (by decide) (by decide) k) ?_
      refine own_step (S' := T4.setTop (mkF m 27 #[.val (.ref a)] [(.ref a)])) (fun t k => XS.aloadN X4.here hx rfl (hb hby d1_26) rfl rfl k) ?_
      exact own_retA X4 hx hlk hret rfl rfl (hb hby d1_27) (⟨by unfold own_fl; rw [if_neg q2, if_neg q5], N0, e4⟩) (by decide) (by decide)
set_option maxRecDepth 65536 in
set_option maxHeartbeats 4000000 in
theorem rm0 (l : Launch) (Z : State) (a0 : Array Value) (hw : ∀ d ∈ tables_1, d.before a0 Z = true) (ws : List Jvm.Cond) (w : Nat → Addr) (H : Hyp Z w) (p0 : Int32) (h0 : Heap) (Ex0 : Ext Z.heap h0)  :
    own_Met l Z x code maxLocals ret ws room_1 #[(.int p0)] h0 (fun v _ L => v = some (.int 1) ∧ Fr Z.heap.size L) := by
  have H0 := H
  obtain ⟨sS0, sE0, sF0_ordinal, sS1, sE1, sF1_ordinal, sS2, sE2, sF2_ordinal, sS3, sE3, sF3_ordinal⟩ := H0
  refine own_body (ls := #[.val (.int p0), .unset, .unset, .unset, .unset, .unset]) own_pn0 (fun m => by first | (simp [entryFrame, mkF, argsToLocals, Value.category, maxLocals]; done) | rfl) ?_
  intro p e s m below meth c T0 hZ hx hby hml' hown' hnm hret' hlk X0 e0
  have hml : c.maxLocals = 6 := hml'
  have hown : s.vm.findClass "com/example/penumbra/penumbra/DirectionFlippedPinLaw" = some m.cls := hown'
  have hret : meth.sig.returnType = (some .boolean) := hret'
  have N0 := Fr.nil Z.heap.size
  have ne_0_1 : ¬ (w 0 = w 1) := Fld.ne sF0_ordinal sF1_ordinal (by decide)
  have ne_0_2 : ¬ (w 0 = w 2) := Fld.ne sF0_ordinal sF2_ordinal (by decide)
  have ne_0_3 : ¬ (w 0 = w 3) := Fld.ne sF0_ordinal sF3_ordinal (by decide)
  have ne_1_0 : ¬ (w 1 = w 0) := Fld.ne sF1_ordinal sF0_ordinal (by decide)
  have ne_1_2 : ¬ (w 1 = w 2) := Fld.ne sF1_ordinal sF2_ordinal (by decide)
  have ne_1_3 : ¬ (w 1 = w 3) := Fld.ne sF1_ordinal sF3_ordinal (by decide)
  have ne_2_0 : ¬ (w 2 = w 0) := Fld.ne sF2_ordinal sF0_ordinal (by decide)
  have ne_2_1 : ¬ (w 2 = w 1) := Fld.ne sF2_ordinal sF1_ordinal (by decide)
  have ne_2_3 : ¬ (w 2 = w 3) := Fld.ne sF2_ordinal sF3_ordinal (by decide)
  have ne_3_0 : ¬ (w 3 = w 0) := Fld.ne sF3_ordinal sF0_ordinal (by decide)
  have ne_3_1 : ¬ (w 3 = w 1) := Fld.ne sF3_ordinal sF1_ordinal (by decide)
  have ne_3_2 : ¬ (w 3 = w 2) := Fld.ne sF3_ordinal sF2_ordinal (by decide)
  refine own_step (S' := T0.setTop (mkF m 1 #[.val (.int p0), .unset, .unset, .unset, .unset, .unset] [(.int (4 : Int32))])) (fun t k => XS.iconst X0.here hx rfl (hb hby at_0) k) ?_
  obtain ⟨T1, h1, kc1, b1, X1, e1, E1, Ex1, A1, O1, hb1, hs1, st1⟩ := own_newR X0 hx hZ hown (hw _ (List.mem_of_getElem? (i := 0) rfl)) (hw _ (List.mem_of_getElem? (i := 1) rfl)) e0 Ex0 (g := (mkF m 1 #[.val (.int p0), .unset, .unset, .unset, .unset, .unset] [(.int (4 : Int32))])) rfl (hb hby at_1) rfl (by decide) [.null, .null, .null, .null] rfl (cap := 4) (by decide) (by decide) (by decide) (by decide)
  refine own_step (S' := T1.setTop (mkF m 4 #[.val (.int p0), .unset, .unset, .unset, .unset, .unset] [(.ref b1)])) (fun t k => st1 t k) ?_
  refine own_step (S' := T1.setTop (mkF m 5 #[.val (.int p0), .unset, .unset, .unset, .unset, .unset] [(.ref b1), (.ref b1)])) (fun t k => XS.dup X1.here hx rfl (hb hby at_4) rfl rfl k) ?_
  refine own_step (S' := T1.setTop (mkF m 6 #[.val (.int p0), .unset, .unset, .unset, .unset, .unset] [(.int (0 : Int32)), (.ref b1), (.ref b1)])) (fun t k => XS.iconst X1.here hx rfl (hb hby at_5) k) ?_
  obtain ⟨T2, X2, e2, st2⟩ := getS2 X1 hx hZ hown (host := "") (Or.inl (hw _ (List.mem_of_getElem? (i := 2) rfl))) Via.refl e1 (sS0.ext Ex1) (g := (mkF m 6 #[.val (.int p0), .unset, .unset, .unset, .unset, .unset] [(.int (0 : Int32)), (.ref b1), (.ref b1)])) rfl (hb hby at_6)
  refine own_step (S' := T2.setTop (mkF m 9 #[.val (.int p0), .unset, .unset, .unset, .unset, .unset] [(.ref (w 0)), (.int (0 : Int32)), (.ref b1), (.ref b1)])) (fun t k => st2 t k) ?_
  obtain ⟨T3, h3, lc3, X3, e3, A3, Ex3, N3, W3, st3⟩ := own_stR X2 hx hZ e2 A1 O1 (sE0.ext Ex1) (j := (0 : Int32)) 0 [.ref (w 0), .null, .null, .null] (by decide) (by decide) (by decide : 0 < 4) rfl Ex1 hb1 N0 (g := (mkF m 9 #[.val (.int p0), .unset, .unset, .unset, .unset, .unset] [(.ref (w 0)), (.int (0 : Int32)), (.ref b1), (.ref b1)])) rfl rfl (hb hby at_9)
  refine own_step (S' := T3.setTop (mkF m 10 #[.val (.int p0), .unset, .unset, .unset, .unset, .unset] [(.ref b1)])) (fun t k => st3 t k) ?_
  refine own_step (S' := T3.setTop (mkF m 11 #[.val (.int p0), .unset, .unset, .unset, .unset, .unset] [(.ref b1), (.ref b1)])) (fun t k => XS.dup X3.here hx rfl (hb hby at_10) rfl rfl k) ?_
  refine own_step (S' := T3.setTop (mkF m 12 #[.val (.int p0), .unset, .unset, .unset, .unset, .unset] [(.int (1 : Int32)), (.ref b1), (.ref b1)])) (fun t k => XS.iconst X3.here hx rfl (hb hby at_11) k) ?_
  obtain ⟨T4, X4, e4, st4⟩ := getS2 X3 hx hZ hown (host := "") (Or.inl (hw _ (List.mem_of_getElem? (i := 6) rfl))) Via.refl e3 (sS1.ext Ex3) (g := (mkF m 12 #[.val (.int p0), .unset, .unset, .unset, .unset, .unset] [(.int (1 : Int32)), (.ref b1), (.ref b1)])) rfl (hb hby at_12)
  refine own_step (S' := T4.setTop (mkF m 15 #[.val (.int p0), .unset, .unset, .unset, .unset, .unset] [(.ref (w 1)), (.int (1 : Int32)), (.ref b1), (.ref b1)])) (fun t k => st4 t k) ?_
  obtain ⟨T5, h5, lc5, X5, e5, A5, Ex5, N5, W5, st5⟩ := own_stR X4 hx hZ e4 A3 O1 (sE1.ext Ex3) (j := (1 : Int32)) 1 [.ref (w 0), .ref (w 1), .null, .null] (by decide) (by decide) (by decide : 1 < 4) rfl Ex3 hb1 N3 (g := (mkF m 15 #[.val (.int p0), .unset, .unset, .unset, .unset, .unset] [(.ref (w 1)), (.int (1 : Int32)), (.ref b1), (.ref b1)])) rfl rfl (hb hby at_15)
  refine own_step (S' := T5.setTop (mkF m 16 #[.val (.int p0), .unset, .unset, .unset, .unset, .unset] [(.ref b1)])) (fun t k => st5 t k) ?_
  refine own_step (S' := T5.setTop (mkF m 17 #[.val (.int p0), .unset, .unset, .unset, .unset, .unset] [(.ref b1), (.ref b1)])) (fun t k => XS.dup X5.here hx rfl (hb hby at_16) rfl rfl k) ?_
  refine own_step (S' := T5.setTop (mkF m 18 #[.val (.int p0), .unset, .unset, .unset, .unset, .unset] [(.int (2 : Int32)), (.ref b1), (.ref b1)])) (fun t k => XS.iconst X5.here hx rfl (hb hby at_17) k) ?_
  obtain ⟨T6, X6, e6, st6⟩ := getS2 X5 hx hZ hown (host := "") (Or.inl (hw _ (List.mem_of_getElem? (i := 8) rfl))) Via.refl e5 (sS2.ext Ex5) (g := (mkF m 18 #[.val (.int p0), .unset, .unset, .unset, .unset, .unset] [(.int (2 : Int32)), (.ref b1), (.ref b1)])) rfl (hb hby at_18)
  refine own_step (S' := T6.setTop (mkF m 21 #[.val (.int p0), .unset, .unset, .unset, .unset, .unset] [(.ref (w 2)), (.int (2 : Int32)), (.ref b1), (.ref b1)])) (fun t k => st6 t k) ?_
  obtain ⟨T7, h7, lc7, X7, e7, A7, Ex7, N7, W7, st7⟩ := own_stR X6 hx hZ e6 A5 O1 (sE2.ext Ex5) (j := (2 : Int32)) 2 [.ref (w 0), .ref (w 1), .ref (w 2), .null] (by decide) (by decide) (by decide : 2 < 4) rfl Ex5 hb1 N5 (g := (mkF m 21 #[.val (.int p0), .unset, .unset, .unset, .unset, .unset] [(.ref (w 2)), (.int (2 : Int32)), (.ref b1), (.ref b1)])) rfl rfl (hb hby at_21)
  refine own_step (S' := T7.setTop (mkF m 22 #[.val (.int p0), .unset, .unset, .unset, .unset, .unset] [(.ref b1)])) (fun t k => st7 t k) ?_
  refine own_step (S' := T7.setTop (mkF m 23 #[.val (.int p0), .unset, .unset, .unset, .unset, .unset] [(.ref b1), (.ref b1)])) (fun t k => XS.dup X7.here hx rfl (hb hby at_22) rfl rfl k) ?_
  refine own_step (S' := T7.setTop (mkF m 24 #[.val (.int p0), .unset, .unset, .unset, .unset, .unset] [(.int (3 : Int32)), (.ref b1), (.ref b1)])) (fun t k => XS.iconst X7.here hx rfl (hb hby at_23) k) ?_
  obtain ⟨T8, X8, e8, st8⟩ := getS2 X7 hx hZ hown (host := "") (Or.inl (hw _ (List.mem_of_getElem? (i := 10) rfl))) Via.refl e7 (sS3.ext Ex7) (g := (mkF m 24 #[.val (.int p0), .unset, .unset, .unset, .unset, .unset] [(.int (3 : Int32)), (.ref b1), (.ref b1)])) rfl (hb hby at_24)
  refine own_step (S' := T8.setTop (mkF m 27 #[.val (.int p0), .unset, .unset, .unset, .unset, .unset] [(.ref (w 3)), (.int (3 : Int32)), (.ref b1), (.ref b1)])) (fun t k => st8 t k) ?_
  obtain ⟨T9, h9, lc9, X9, e9, A9, Ex9, N9, W9, st9⟩ := own_stR X8 hx hZ e8 A7 O1 (sE3.ext Ex7) (j := (3 : Int32)) 3 [.ref (w 0), .ref (w 1), .ref (w 2), .ref (w 3)] (by decide) (by decide) (by decide : 3 < 4) rfl Ex7 hb1 N7 (g := (mkF m 27 #[.val (.int p0), .unset, .unset, .unset, .unset, .unset] [(.ref (w 3)), (.int (3 : Int32)), (.ref b1), (.ref b1)])) rfl rfl (hb hby at_27)
  refine own_step (S' := T9.setTop (mkF m 28 #[.val (.int p0), .unset, .unset, .unset, .unset, .unset] [(.ref b1)])) (fun t k => st9 t k) ?_
  refine own_step (S' := T9.setTop (mkF m 29 #[.val (.int p0), .val (.ref b1), .unset, .unset, .unset, .unset] [])) (fun t k => XS.astoreN X9.here hx rfl (hb hby at_28) rfl rfl (l' := #[.val (.int p0), .val (.ref b1), .unset, .unset, .unset, .unset]) rfl k) ?_
  refine own_step (S' := T9.setTop (mkF m 30 #[.val (.int p0), .val (.ref b1), .unset, .unset, .unset, .unset] [(.int (4 : Int32))])) (fun t k => XS.iconst X9.here hx rfl (hb hby at_29) k) ?_
  obtain ⟨T10, h10, kc10, b10, X10, e10, E10, Ex10, A10, hb10, hs10, st10⟩ := own_newP X9 hx hZ .int rfl (hw _ (List.mem_of_getElem? (i := 12) rfl)) e9 Ex9 (g := (mkF m 30 #[.val (.int p0), .val (.ref b1), .unset, .unset, .unset, .unset] [(.int (4 : Int32))])) rfl (hb hby at_30) rfl (by decide) [.int (0 : Int32), .int (0 : Int32), .int (0 : Int32), .int (0 : Int32)] rfl (cap := 4) (by decide) (by decide) (by decide) (by decide)
  have A10_b1 := own_Ar.ext E10 A9
  have lt10_b1 : b1 < b10 := (Nat.lt_of_lt_of_eq A9.lt hs10)
  refine own_step (S' := T10.setTop (mkF m 32 #[.val (.int p0), .val (.ref b1), .unset, .unset, .unset, .unset] [(.ref b10)])) (fun t k => st10 t k) ?_
  refine own_step (S' := T10.setTop (mkF m 33 #[.val (.int p0), .val (.ref b1), .unset, .unset, .unset, .unset] [(.ref b10), (.ref b10)])) (fun t k => XS.dup X10.here hx rfl (hb hby at_32) rfl rfl k) ?_
  refine own_step (S' := T10.setTop (mkF m 34 #[.val (.int p0), .val (.ref b1), .unset, .unset, .unset, .unset] [(.int (0 : Int32)), (.ref b10), (.ref b10)])) (fun t k => XS.iconst X10.here hx rfl (hb hby at_33) k) ?_
  refine own_step (S' := T10.setTop (mkF m 35 #[.val (.int p0), .val (.ref b1), .unset, .unset, .unset, .unset] [(.int (0 : Int32)), (.int (0 : Int32)), (.ref b10), (.ref b10)])) (fun t k => XS.iconst X10.here hx rfl (hb hby at_34) k) ?_
  obtain ⟨T11, h11, lc11, X11, e11, A11, Ex11, N11, W11, st11⟩ := own_stI X10 hx hZ e10 A10 (j := (0 : Int32)) 0 [.int (0 : Int32), .int (0 : Int32), .int (0 : Int32), .int (0 : Int32)] (by decide) (by decide) (by decide : 0 < 4) rfl Ex10 hb10 N9 (g := (mkF m 35 #[.val (.int p0), .val (.ref b1), .unset, .unset, .unset, .unset] [(.int (0 : Int32)), (.int (0 : Int32)), (.ref b10), (.ref b10)])) rfl rfl (hb hby at_35)
  have A11_b1 := own_Ar.other W11 A10_b1 (Nat.ne_of_lt lt10_b1)
  refine own_step (S' := T11.setTop (mkF m 36 #[.val (.int p0), .val (.ref b1), .unset, .unset, .unset, .unset] [(.ref b10)])) (fun t k => st11 t k) ?_
  refine own_step (S' := T11.setTop (mkF m 37 #[.val (.int p0), .val (.ref b1), .unset, .unset, .unset, .unset] [(.ref b10), (.ref b10)])) (fun t k => XS.dup X11.here hx rfl (hb hby at_36) rfl rfl k) ?_
  refine own_step (S' := T11.setTop (mkF m 38 #[.val (.int p0), .val (.ref b1), .unset, .unset, .unset, .unset] [(.int (1 : Int32)), (.ref b10), (.ref b10)])) (fun t k => XS.iconst X11.here hx rfl (hb hby at_37) k) ?_
  refine own_step (S' := T11.setTop (mkF m 39 #[.val (.int p0), .val (.ref b1), .unset, .unset, .unset, .unset] [(.int (2 : Int32)), (.int (1 : Int32)), (.ref b10), (.ref b10)])) (fun t k => XS.iconst X11.here hx rfl (hb hby at_38) k) ?_
  obtain ⟨T12, h12, lc12, X12, e12, A12, Ex12, N12, W12, st12⟩ := own_stI X11 hx hZ e11 A11 (j := (1 : Int32)) 1 [.int (0 : Int32), .int (2 : Int32), .int (0 : Int32), .int (0 : Int32)] (by decide) (by decide) (by decide : 1 < 4) rfl Ex11 hb10 N11 (g := (mkF m 39 #[.val (.int p0), .val (.ref b1), .unset, .unset, .unset, .unset] [(.int (2 : Int32)), (.int (1 : Int32)), (.ref b10), (.ref b10)])) rfl rfl (hb hby at_39)
  have A12_b1 := own_Ar.other W12 A11_b1 (Nat.ne_of_lt lt10_b1)
  refine own_step (S' := T12.setTop (mkF m 40 #[.val (.int p0), .val (.ref b1), .unset, .unset, .unset, .unset] [(.ref b10)])) (fun t k => st12 t k) ?_
  refine own_step (S' := T12.setTop (mkF m 41 #[.val (.int p0), .val (.ref b1), .unset, .unset, .unset, .unset] [(.ref b10), (.ref b10)])) (fun t k => XS.dup X12.here hx rfl (hb hby at_40) rfl rfl k) ?_
  refine own_step (S' := T12.setTop (mkF m 42 #[.val (.int p0), .val (.ref b1), .unset, .unset, .unset, .unset] [(.int (2 : Int32)), (.ref b10), (.ref b10)])) (fun t k => XS.iconst X12.here hx rfl (hb hby at_41) k) ?_
  refine own_step (S' := T12.setTop (mkF m 43 #[.val (.int p0), .val (.ref b1), .unset, .unset, .unset, .unset] [(.int (1 : Int32)), (.int (2 : Int32)), (.ref b10), (.ref b10)])) (fun t k => XS.iconst X12.here hx rfl (hb hby at_42) k) ?_
  obtain ⟨T13, h13, lc13, X13, e13, A13, Ex13, N13, W13, st13⟩ := own_stI X12 hx hZ e12 A12 (j := (2 : Int32)) 2 [.int (0 : Int32), .int (2 : Int32), .int (1 : Int32), .int (0 : Int32)] (by decide) (by decide) (by decide : 2 < 4) rfl Ex12 hb10 N12 (g := (mkF m 43 #[.val (.int p0), .val (.ref b1), .unset, .unset, .unset, .unset] [(.int (1 : Int32)), (.int (2 : Int32)), (.ref b10), (.ref b10)])) rfl rfl (hb hby at_43)
  have A13_b1 := own_Ar.other W13 A12_b1 (Nat.ne_of_lt lt10_b1)
  refine own_step (S' := T13.setTop (mkF m 44 #[.val (.int p0), .val (.ref b1), .unset, .unset, .unset, .unset] [(.ref b10)])) (fun t k => st13 t k) ?_
  refine own_step (S' := T13.setTop (mkF m 45 #[.val (.int p0), .val (.ref b1), .unset, .unset, .unset, .unset] [(.ref b10), (.ref b10)])) (fun t k => XS.dup X13.here hx rfl (hb hby at_44) rfl rfl k) ?_
  refine own_step (S' := T13.setTop (mkF m 46 #[.val (.int p0), .val (.ref b1), .unset, .unset, .unset, .unset] [(.int (3 : Int32)), (.ref b10), (.ref b10)])) (fun t k => XS.iconst X13.here hx rfl (hb hby at_45) k) ?_
  refine own_step (S' := T13.setTop (mkF m 47 #[.val (.int p0), .val (.ref b1), .unset, .unset, .unset, .unset] [(.int (3 : Int32)), (.int (3 : Int32)), (.ref b10), (.ref b10)])) (fun t k => XS.iconst X13.here hx rfl (hb hby at_46) k) ?_
  obtain ⟨T14, h14, lc14, X14, e14, A14, Ex14, N14, W14, st14⟩ := own_stI X13 hx hZ e13 A13 (j := (3 : Int32)) 3 [.int (0 : Int32), .int (2 : Int32), .int (1 : Int32), .int (3 : Int32)] (by decide) (by decide) (by decide : 3 < 4) rfl Ex13 hb10 N13 (g := (mkF m 47 #[.val (.int p0), .val (.ref b1), .unset, .unset, .unset, .unset] [(.int (3 : Int32)), (.int (3 : Int32)), (.ref b10), (.ref b10)])) rfl rfl (hb hby at_47)
  have A14_b1 := own_Ar.other W14 A13_b1 (Nat.ne_of_lt lt10_b1)
  refine own_step (S' := T14.setTop (mkF m 48 #[.val (.int p0), .val (.ref b1), .unset, .unset, .unset, .unset] [(.ref b10)])) (fun t k => st14 t k) ?_
  refine own_step (S' := T14.setTop (mkF m 49 #[.val (.int p0), .val (.ref b1), .val (.ref b10), .unset, .unset, .unset] [])) (fun t k => XS.astoreN X14.here hx rfl (hb hby at_48) rfl rfl (l' := #[.val (.int p0), .val (.ref b1), .val (.ref b10), .unset, .unset, .unset]) rfl k) ?_
  refine own_step (S' := T14.setTop (mkF m 50 #[.val (.int p0), .val (.ref b1), .val (.ref b10), .unset, .unset, .unset] [(.int p0)])) (fun t k => XS.iloadN X14.here hx rfl (hb hby at_49) rfl k) ?_
  refine own_step (S' := T14.setTop (mkF m 51 #[.val (.int p0), .val (.ref b1), .val (.ref b10), .unset, .unset, .unset] [(.int (3 : Int32)), (.int p0)])) (fun t k => XS.iconst X14.here hx rfl (hb hby at_50) k) ?_
  refine own_step (S' := T14.setTop (mkF m 52 #[.val (.int p0), .val (.ref b1), .val (.ref b10), .unset, .unset, .unset] [(.int (p0 &&& (3 : Int32)))])) (fun t k => XS.iand X14.here hx rfl (hb hby at_51) rfl k) ?_
  refine own_step (S' := T14.setTop (mkF m 53 #[.val (.int p0), .val (.ref b1), .val (.ref b10), .val (.int (p0 &&& (3 : Int32))), .unset, .unset] [])) (fun t k => XS.istoreN X14.here hx rfl (hb hby at_52) rfl (l' := #[.val (.int p0), .val (.ref b1), .val (.ref b10), .val (.int (p0 &&& (3 : Int32))), .unset, .unset]) rfl k) ?_
  generalize hg_i : (p0 &&& (3 : Int32)) = i
  have hr := own_and3 p0
  rw [hg_i] at hr
  have hc := own_cases4 hr.1 hr.2
  have hnn := own_nn hr.1
  have Ea : Exa Z Z.heap (own_pick i w) "com/example/penumbra/penumbra/Expression$Direction" := by
    rcases hc with rfl | rfl | rfl | rfl
    · exact (sE0)
    · exact (sE1)
    · exact (sE2)
    · exact (sE3)
  have hat : ([.ref (w 0), .ref (w 1), .ref (w 2), .ref (w 3)] : List Value)[i.toNatClampNeg]? = some (.ref (own_pick i w)) := by
    rcases hc with rfl | rfl | rfl | rfl <;> rfl
  have hat2 : ([.int (0 : Int32), .int (2 : Int32), .int (1 : Int32), .int (3 : Int32)] : List Value)[i.toNatClampNeg]? = some (.int (own_flip i)) := by
    rcases hc with rfl | rfl | rfl | rfl <;> rfl
  have hnnk : ¬ own_flip i < 0 := by
    rcases hc with rfl | rfl | rfl | rfl <;> decide
  have hatk : ([.ref (w 0), .ref (w 1), .ref (w 2), .ref (w 3)] : List Value)[(own_flip i).toNatClampNeg]? = some (.ref (own_pick (own_flip i) w)) := by
    rcases hc with rfl | rfl | rfl | rfl <;> rfl
  have hf1 : (own_fl w (own_pick i w)) = own_pick (own_flip i) w := by
    rcases hc with rfl | rfl | rfl | rfl <;> simp [own_pick, own_fl, own_flip, ne_0_1, ne_0_2, ne_0_3, ne_1_0, ne_1_2, ne_1_3, ne_2_0, ne_2_1, ne_2_3, ne_3_0, ne_3_1, ne_3_2]
  have hf2 : own_fl w (own_fl w (own_pick i w)) = own_pick i w := by
    rcases hc with rfl | rfl | rfl | rfl <;> simp [own_pick, own_fl, own_flip, ne_0_1, ne_0_2, ne_0_3, ne_1_0, ne_1_2, ne_1_3, ne_2_0, ne_2_1, ne_2_3, ne_3_0, ne_3_1, ne_3_2]
  have Eb : Exa Z Z.heap (own_fl w (own_pick i w)) "com/example/penumbra/penumbra/Expression$Direction" := by
    rcases hc with rfl | rfl | rfl | rfl
    · simpa [own_pick, own_fl, ne_0_1, ne_0_2, ne_0_3, ne_1_0, ne_1_2, ne_1_3, ne_2_0, ne_2_1, ne_2_3, ne_3_0, ne_3_1, ne_3_2] using sE0
    · simpa [own_pick, own_fl, ne_0_1, ne_0_2, ne_0_3, ne_1_0, ne_1_2, ne_1_3, ne_2_0, ne_2_1, ne_2_3, ne_3_0, ne_3_1, ne_3_2] using sE2
    · simpa [own_pick, own_fl, ne_0_1, ne_0_2, ne_0_3, ne_1_0, ne_1_2, ne_1_3, ne_2_0, ne_2_1, ne_2_3, ne_3_0, ne_3_1, ne_3_2] using sE1
    · simpa [own_pick, own_fl, ne_0_1, ne_0_2, ne_0_3, ne_1_0, ne_1_2, ne_1_3, ne_2_0, ne_2_1, ne_2_3, ne_3_0, ne_3_1, ne_3_2] using sE3
  refine own_step (S' := T14.setTop (mkF m 54 #[.val (.int p0), .val (.ref b1), .val (.ref b10), .val (.int i), .unset, .unset] [(.ref b1)])) (fun t k => XS.aloadN X14.here hx rfl (hb hby at_53) rfl rfl k) ?_
  refine own_step (S' := T14.setTop (mkF m 55 #[.val (.int p0), .val (.ref b1), .val (.ref b10), .val (.int i), .unset, .unset] [(.int i), (.ref b1)])) (fun t k => XS.iloadN X14.here hx rfl (hb hby at_54) rfl k) ?_
  refine own_step (S' := T14.setTop (mkF m 56 #[.val (.int p0), .val (.ref b1), .val (.ref b10), .val (.int i), .unset, .unset] [(.ref (own_pick i w))])) (fun t k => own_aaload X14 hx hZ e14 A14_b1 rfl (j := i) hnn hat (g := (mkF m 55 #[.val (.int p0), .val (.ref b1), .val (.ref b10), .val (.int i), .unset, .unset] [(.int i), (.ref b1)])) rfl rfl (hb hby at_55) t k) ?_
  refine own_step (S' := T14.setTop (mkF m 58 #[.val (.int p0), .val (.ref b1), .val (.ref b10), .val (.int i), .val (.ref (own_pick i w)), .unset] [])) (fun t k => XS.astore X14.here hx rfl (hb hby at_56) rfl rfl (l' := #[.val (.int p0), .val (.ref b1), .val (.ref b10), .val (.int i), .val (.ref (own_pick i w)), .unset]) rfl k) ?_
  refine own_step (S' := T14.setTop (mkF m 60 #[.val (.int p0), .val (.ref b1), .val (.ref b10), .val (.int i), .val (.ref (own_pick i w)), .unset] [(.ref (own_pick i w))])) (fun t k => XS.aload X14.here hx rfl (hb hby at_58) rfl rfl k) ?_
  obtain ⟨_, T15, Lq15, X15, ⟨rfl, Nq15, e15⟩, st15⟩ := own_callV X14 hx hZ hown (hw _ (List.mem_of_getElem? (i := 13) rfl)) (hw _ (List.mem_of_getElem? (i := 14) rfl)) (hw _ (List.mem_of_getElem? (i := 16) rfl)) (hw _ (List.mem_of_getElem? (i := 15) rfl)) (hw _ (List.mem_of_getElem? (i := 17) rfl)) (hw _ (List.mem_of_getElem? (i := 3) rfl)) (by decide) (argsL := []) (rest := []) (rm1 l Z a0 hw [] w H (own_pick i w) h14 Ex14) (W := 0) (by decide) (by decide) e14 (Ea.ext Ex14) (g := (mkF m 60 #[.val (.int p0), .val (.ref b1), .val (.ref b10), .val (.int i), .val (.ref (own_pick i w)), .unset] [(.ref (own_pick i w))])) rfl (by rw [hml]; rfl) (lenOf own_pd0 rfl) rfl (by show 2 * 0 + _ ≤ _; exact Nat.le_of_eq rfl) (hb hby at_60) (by decide) (by decide)
  have N15 := Fr.app N14 Nq15
  refine own_step (S' := T15.setTop (mkF m 63 #[.val (.int p0), .val (.ref b1), .val (.ref b10), .val (.int i), .val (.ref (own_pick i w)), .unset] [(.ref (own_fl w (own_pick i w)))])) (fun t k => st15 t k) ?_
  refine own_step (S' := T15.setTop (mkF m 65 #[.val (.int p0), .val (.ref b1), .val (.ref b10), .val (.int i), .val (.ref (own_pick i w)), .val (.ref (own_fl w (own_pick i w)))] [])) (fun t k => XS.astore X15.here hx rfl (hb hby at_63) rfl rfl (l' := #[.val (.int p0), .val (.ref b1), .val (.ref b10), .val (.int i), .val (.ref (own_pick i w)), .val (.ref (own_fl w (own_pick i w)))]) rfl k) ?_
  refine own_step (S' := T15.setTop (mkF m 67 #[.val (.int p0), .val (.ref b1), .val (.ref b10), .val (.int i), .val (.ref (own_pick i w)), .val (.ref (own_fl w (own_pick i w)))] [(.ref (own_fl w (own_pick i w)))])) (fun t k => XS.aload X15.here hx rfl (hb hby at_65) rfl rfl k) ?_
  refine own_step (S' := T15.setTop (mkF m 68 #[.val (.int p0), .val (.ref b1), .val (.ref b10), .val (.int i), .val (.ref (own_pick i w)), .val (.ref (own_fl w (own_pick i w)))] [(.ref b1), (.ref (own_fl w (own_pick i w)))])) (fun t k => XS.aloadN X15.here hx rfl (hb hby at_67) rfl rfl k) ?_
  refine own_step (S' := T15.setTop (mkF m 69 #[.val (.int p0), .val (.ref b1), .val (.ref b10), .val (.int i), .val (.ref (own_pick i w)), .val (.ref (own_fl w (own_pick i w)))] [(.ref b10), (.ref b1), (.ref (own_fl w (own_pick i w)))])) (fun t k => XS.aloadN X15.here hx rfl (hb hby at_68) rfl rfl k) ?_
  refine own_step (S' := T15.setTop (mkF m 70 #[.val (.int p0), .val (.ref b1), .val (.ref b10), .val (.int i), .val (.ref (own_pick i w)), .val (.ref (own_fl w (own_pick i w)))] [(.int i), (.ref b10), (.ref b1), (.ref (own_fl w (own_pick i w)))])) (fun t k => XS.iloadN X15.here hx rfl (hb hby at_69) rfl k) ?_
  refine own_step (S' := T15.setTop (mkF m 71 #[.val (.int p0), .val (.ref b1), .val (.ref b10), .val (.int i), .val (.ref (own_pick i w)), .val (.ref (own_fl w (own_pick i w)))] [(.int (own_flip i)), (.ref b1), (.ref (own_fl w (own_pick i w)))])) (fun t k => own_iaload X15 hx hZ e15 A14 (j := i) hnn hat2 (g := (mkF m 70 #[.val (.int p0), .val (.ref b1), .val (.ref b10), .val (.int i), .val (.ref (own_pick i w)), .val (.ref (own_fl w (own_pick i w)))] [(.int i), (.ref b10), (.ref b1), (.ref (own_fl w (own_pick i w)))])) rfl rfl (hb hby at_70) t k) ?_
  refine own_step (S' := T15.setTop (mkF m 72 #[.val (.int p0), .val (.ref b1), .val (.ref b10), .val (.int i), .val (.ref (own_pick i w)), .val (.ref (own_fl w (own_pick i w)))] [(.ref (own_pick (own_flip i) w)), (.ref (own_fl w (own_pick i w)))])) (fun t k => own_aaload X15 hx hZ e15 A14_b1 rfl (j := (own_flip i)) hnnk hatk (g := (mkF m 71 #[.val (.int p0), .val (.ref b1), .val (.ref b10), .val (.int i), .val (.ref (own_pick i w)), .val (.ref (own_fl w (own_pick i w)))] [(.int (own_flip i)), (.ref b1), (.ref (own_fl w (own_pick i w)))])) rfl rfl (hb hby at_71) t k) ?_
  refine own_step (S' := T15.setTop (mkF m 77 #[.val (.int p0), .val (.ref b1), .val (.ref b10), .val (.int i), .val (.ref (own_pick i w)), .val (.ref (own_fl w (own_pick i w)))] [])) (fun t k => Jvm.RoadKit.acmp (g := (mkF m 72 #[.val (.int p0), .val (.ref b1), .val (.ref b10), .val (.int i), .val (.ref (own_pick i w)), .val (.ref (own_fl w (own_pick i w)))] [(.ref (own_pick (own_flip i) w)), (.ref (own_fl w (own_pick i w)))])) X15 hx rfl rfl rfl (pc0 := 72) (pc' := 77) (same := true) rfl (hb hby at_72) rfl (decide_eq_true (congrArg Value.ref (hf1 : (own_fl w (own_pick i w)) = (own_pick (own_flip i) w)))) (by decide) (by decide) k) ?_
  refine own_step (S' := T15.setTop (mkF m 79 #[.val (.int p0), .val (.ref b1), .val (.ref b10), .val (.int i), .val (.ref (own_pick i w)), .val (.ref (own_fl w (own_pick i w)))] [(.ref (own_fl w (own_pick i w)))])) (fun t k => XS.aload X15.here hx rfl (hb hby at_77) rfl rfl k) ?_
  obtain ⟨_, T16, Lq16, X16, ⟨rfl, Nq16, e16⟩, st16⟩ := own_callV X15 hx hZ hown (hw _ (List.mem_of_getElem? (i := 13) rfl)) (hw _ (List.mem_of_getElem? (i := 14) rfl)) (hw _ (List.mem_of_getElem? (i := 16) rfl)) (hw _ (List.mem_of_getElem? (i := 15) rfl)) (hw _ (List.mem_of_getElem? (i := 17) rfl)) (hw _ (List.mem_of_getElem? (i := 3) rfl)) (by decide) (argsL := []) (rest := []) (rm1 l Z a0 hw [] w H (own_fl w (own_pick i w)) h14 Ex14) (W := 0) (by decide) (by decide) e15 (Eb.ext Ex14) (g := (mkF m 79 #[.val (.int p0), .val (.ref b1), .val (.ref b10), .val (.int i), .val (.ref (own_pick i w)), .val (.ref (own_fl w (own_pick i w)))] [(.ref (own_fl w (own_pick i w)))])) rfl (by rw [hml]; rfl) (lenOf own_pd0 rfl) rfl (by show 2 * 0 + _ ≤ _; exact Nat.le_of_eq rfl) (hb hby at_79) (by decide) (by decide)
  have N16 := Fr.app N15 Nq16
  refine own_step (S' := T16.setTop (mkF m 82 #[.val (.int p0), .val (.ref b1), .val (.ref b10), .val (.int i), .val (.ref (own_pick i w)), .val (.ref (own_fl w (own_pick i w)))] [(.ref (own_fl w (own_fl w (own_pick i w))))])) (fun t k => st16 t k) ?_
  refine own_step (S' := T16.setTop (mkF m 84 #[.val (.int p0), .val (.ref b1), .val (.ref b10), .val (.int i), .val (.ref (own_pick i w)), .val (.ref (own_fl w (own_pick i w)))] [(.ref (own_pick i w)), (.ref (own_fl w (own_fl w (own_pick i w))))])) (fun t k => XS.aload X16.here hx rfl (hb hby at_82) rfl rfl k) ?_
  refine own_step (S' := T16.setTop (mkF m 87 #[.val (.int p0), .val (.ref b1), .val (.ref b10), .val (.int i), .val (.ref (own_pick i w)), .val (.ref (own_fl w (own_pick i w)))] [])) (fun t k => Jvm.RoadKit.acmp (g := (mkF m 84 #[.val (.int p0), .val (.ref b1), .val (.ref b10), .val (.int i), .val (.ref (own_pick i w)), .val (.ref (own_fl w (own_pick i w)))] [(.ref (own_pick i w)), (.ref (own_fl w (own_fl w (own_pick i w))))])) X16 hx rfl rfl rfl (pc0 := 84) (pc' := 87) (same := true) rfl (hb hby at_84) rfl (decide_eq_true (congrArg Value.ref (hf2 : (own_fl w (own_fl w (own_pick i w))) = (own_pick i w)))) (by decide) (by decide) k) ?_
  refine own_step (S' := T16.setTop (mkF m 88 #[.val (.int p0), .val (.ref b1), .val (.ref b10), .val (.int i), .val (.ref (own_pick i w)), .val (.ref (own_fl w (own_pick i w)))] [(.int (1 : Int32))])) (fun t k => XS.iconst X16.here hx rfl (hb hby at_87) k) ?_
  refine own_step (S' := T16.setTop (mkF m 92 #[.val (.int p0), .val (.ref b1), .val (.ref b10), .val (.int i), .val (.ref (own_pick i w)), .val (.ref (own_fl w (own_pick i w)))] [(.int (1 : Int32))])) (fun t k => XS.goto X16.here hx rfl (pc0 := 88) (pc' := 92) rfl (hb hby at_88) (by decide) (by decide) k) ?_
  exact own_retI (t := .boolean) X16 hx hlk hret (Or.inr (Or.inl rfl)) rfl (hb hby at_92) (⟨rfl, N16⟩) (by decide) (by decide)
set_option maxRecDepth 65536 in
set_option maxHeartbeats 4000000 in
theorem comes_1 {Post : Tables → Env → Array Value → State → Outcome → State → Prop} (hpost : ∀ tb e args s v u, (limb_1_1.after args s (.returned v) u = true ∧ limb_1_2.after args s (.returned v) u = true ∧ True) → FrameEnd s (.returned v) u (Jvm.fieldLocs frame_1_writes args s ++ Jvm.arrayLocs frame_1_arrays args s ++ Jvm.staticLocs frame_1_statics s) 16 128 → Post tb e args s (.returned v) u) :
    ArmFor flags0 classFile x code maxLocals ret World_1 tables_1 room_1 Calls_1 rest_1 Pre_1 Post := by
  intro l hfl _ _ p e ha hc hk s m args below hf hA hF happ hP
  obtain ⟨hcalls, hrest, hpre⟩ := hP
  obtain ⟨-, -, -, hnamed, -, -, -, hat⟩ := (Spec.applies_iff hf).mp happ
  obtain ⟨hg, hn⟩ := and_e (Cond.before_iff.mp (show (Jvm.Cond.and given_1 narrow_1).before args s = true from hpre))
  obtain ⟨g0, hg⟩ := and_e hg
  have g1 := hg
  obtain ⟨w0, rfl⟩ : ∃ w0 : Value, args = #[w0] := by
    have hs : args.size = 1 := by simpa [Cond.value, given_1] using g0
    obtain ⟨Lx⟩ := args
    match Lx, hs with
    | [w0], _ => exact ⟨w0, rfl⟩
  have hw := fun d (hd : d ∈ tables_1) => atoms_spec (ws := Jvm.Cond.code x code maxLocals ret :: tables_1) hat d (List.mem_cons_of_mem _ hd)
  obtain ⟨i0, ei0⟩ := is_v g1
  obtain rfl : w0 = (.int i0) := Option.some.inj ei0
  obtain ⟨n0, hn⟩ := and_e hn
  obtain ⟨n1, hn⟩ := and_e hn
  obtain ⟨n2, hn⟩ := and_e hn
  obtain ⟨n3, hn⟩ := and_e hn
  obtain ⟨n4, hn⟩ := and_e hn
  obtain ⟨n5, hn⟩ := and_e hn
  obtain ⟨n6, hn⟩ := and_e hn
  have n7 := hn
  obtain ⟨x0, v0, sS0, sE0⟩ := own_exa n0 (hw _ (List.mem_of_getElem? (i := 3) rfl)) (hw _ (List.mem_of_getElem? (i := 4) rfl))
  obtain ⟨x1, v1, sS1, sE1⟩ := own_exa n1 (hw _ (List.mem_of_getElem? (i := 3) rfl)) (hw _ (List.mem_of_getElem? (i := 7) rfl))
  obtain ⟨x2, v2, sS2, sE2⟩ := own_exa n2 (hw _ (List.mem_of_getElem? (i := 3) rfl)) (hw _ (List.mem_of_getElem? (i := 9) rfl))
  obtain ⟨x3, v3, sS3, sE3⟩ := own_exa n3 (hw _ (List.mem_of_getElem? (i := 3) rfl)) (hw _ (List.mem_of_getElem? (i := 11) rfl))
  have sF0_ordinal := own_fldI v0 n4
  have sF1_ordinal := own_fldI v1 n5
  have sF2_ordinal := own_fldI v2 n6
  have sF3_ordinal := own_fldI v3 n7
  have H : Hyp s (fun j => [x0, x1, x2, x3].getD j 0) := ⟨sS0, sE0, sF0_ordinal, sS1, sE1, sF1_ordinal, sS2, sE2, sF2_ordinal, sS3, sE3, sF3_ordinal⟩
  obtain ⟨n, o, h1, h2, h3, _, L, rfl, ⟨rfl, N⟩, hq⟩ := rm0 l s _ hw tables_1 _ H i0 s.heap ⟨Nat.le_refl _, fun _ _ q => q⟩  p e ha hc hk s m _ below hf ((Spec.applies_iff_loose hf).mp happ).1 ⟨rfl, State.Warmed39.refl s, rfl⟩ trivial
  refine ⟨n, _, h1, h2, h3, hpost _ _ _ _ _ _ ⟨Cond.after_iff.mpr rfl, Cond.after_iff.mpr (eq_i res_at (Term.int_eval (1)) rfl), trivial⟩ ⟨hq.1, hq.2.1, (hq.2.2.sift fun y hy => Or.inr (N y hy)).mono (by decide) (by decide)⟩⟩
theorem main_1_1 : Claimed_1_1 := comes_1 fun _ _ _ _ _ _ h hF => ⟨h.1, hF⟩
theorem main_1_2 : Claimed_1_2 := comes_1 fun _ _ _ _ _ _ h hF => ⟨h.2.1, hF⟩
end Jvm.Pilot.@@N@@
namespace Jvm.Pilot.@@N@@
open Jvm Jvm.ClassFile Sem Op Lib Jvm.Free Jvm.Stand Jvm.Pilot.@@N@@.Jvm.D
/-! MADE BY PROGRAM (witnessworld.py) out of the Statement's table words and the real class files: 13 classes; the members and pool entries that the words name. The judged class is class 1, her method 1. -/
namespace start1
open Jvm.ClassFile
def u (s : String) : CpInfo := .utf8 (stringToUtf16 s)
/-- a pool by its gaps: so many unusable entries, then the entry; so many at the end -/
def gap : Nat → List CpInfo → List CpInfo
  | 0, r => r
  | n + 1, r => .unusable :: gap n r
def poolList (es : List (Nat × CpInfo)) (last : Nat) : List CpInfo := es.foldr (fun e r => gap e.1 (e.2 :: r)) (gap last [])
def pool (es : List (Nat × CpInfo)) (last : Nat) : Array CpInfo := ⟨poolList es last⟩
def fileOf (pool : Array CpInfo) (this : Nat) (attrs : Array Attribute := #[]) (ms : Array MethodInfo := #[]) (fl : Nat := 33) (sup : Nat := 0) (ifs : Array Nat := #[]) (fds : Array FieldInfo := #[]) : ClassFile where
  minorVersion := 0
  majorVersion := 65
  constantPool := pool
  accessFlags := fl
  thisClass := this
  superClass := sup
  interfaces := ifs
  fields := fds
  methods := ms
  attributes := attrs
def plain (name : String) (sup : Option ClassId) : Class where
  name := name
  kind := .ordinary
  loader := none
  accessFlags := 33
  super := sup
  interfaces := #[]
  cf := none
  fields := #[]
  methods := #[]
  instanceTypes := #[]
  staticTypes := #[]
  resolved := #[]
  callSites := []
  init := .initialized
  statics := none
  mirror := none

def pool0 : Array CpInfo := pool [(5, u "<init>"), (0, u "()V"), (1, .class_ 10), (1, u "java/lang/Object")] 113

def k0m0 : Method := { name := "<init>", desc := "()V", sig := { parameters := [], returnType := none }, accessFlags := 1, code := none }
/-- java/lang/Object -/
def k0 : Class := { plain "java/lang/Object" none with
  accessFlags := 33
  interfaces := #[]
  cf := some (fileOf pool0 8 #[] #[{ accessFlags := 1, nameIndex := 5, descriptorIndex := 6, attributes := #[] }] 33 0 #[] #[])
  fields := #[]
  methods := #[k0m0]
  instanceTypes := #[]
  staticTypes := #[]
  resolved := Array.replicate 124 none
  statics := none }

def pool1 : Array CpInfo := pool [(2, .class_ 4), (1, u "java/lang/Object"), (0, u "<init>"), (0, u "()V"), (0, .class_ 8), (0, u "com/example/penumbra/penumbra/Expression$Direction"), (0, .fieldref 7 10), (0, .nameAndType 11 12), (0, u "CONSTANT"), (0, u "Lcom/example/penumbra/penumbra/Expression$Direction;"), (0, .fieldref 7 14), (0, .nameAndType 15 12), (0, u "RISING"), (0, .fieldref 7 17), (0, .nameAndType 18 12), (0, u "FALLING"), (0, .fieldref 7 20), (0, .nameAndType 21 12), (0, u "MIXED"), (0, .methodref 7 23), (0, .nameAndType 24 25), (0, u "flipped"), (0, u "()Lcom/example/penumbra/penumbra/Expression$Direction;"), (0, .class_ 27), (0, u "com/example/penumbra/penumbra/DirectionFlippedPinLaw"), (2, u "law"), (0, u "(I)Z")] 11

def k1m0 : Method := { name := "<init>", desc := "()V", sig := { parameters := [], returnType := none }, accessFlags := 1, code := none }
def k1c1 : Code := { maxStack := 4, maxLocals := 6, code := code, exceptionTable := #[], attributes := #[] }
def k1m1 : Method := { name := "law", desc := "(I)Z", sig := { parameters := [.int], returnType := some .boolean }, accessFlags := 9, code := some k1c1 }
/-- com/example/penumbra/penumbra/DirectionFlippedPinLaw -/
def k1 : Class := { plain "com/example/penumbra/penumbra/DirectionFlippedPinLaw" (some 0) with
  accessFlags := 49
  interfaces := #[]
  cf := some (fileOf pool1 26 #[] #[{ accessFlags := 1, nameIndex := 5, descriptorIndex := 6, attributes := #[] }, { accessFlags := 9, nameIndex := 30, descriptorIndex := 31, attributes := #[] }] 49 2 #[] #[])
  fields := #[]
  methods := #[k1m0, k1m1]
  instanceTypes := #[]
  staticTypes := #[]
  resolved := Array.replicate 43 none
  statics := none }

def pool2 : Array CpInfo := pool [(1, .class_ 2), (0, u "java/lang/constant/Constable"), (0, .class_ 4), (0, u "java/lang/Object")] 6

/-- java/lang/constant/Constable -/
def k2 : Class := { plain "java/lang/constant/Constable" (some 0) with
  accessFlags := 1537
  interfaces := #[]
  cf := some (fileOf pool2 1 #[] #[] 1537 3 #[] #[])
  fields := #[]
  methods := #[]
  instanceTypes := #[]
  staticTypes := #[]
  resolved := Array.replicate 11 none
  statics := none }

def pool3 : Array CpInfo := pool [(1, .class_ 2), (0, u "java/lang/Comparable"), (0, .class_ 4), (0, u "java/lang/Object")] 7

/-- java/lang/Comparable -/
def k3 : Class := { plain "java/lang/Comparable" (some 0) with
  accessFlags := 1537
  interfaces := #[]
  cf := some (fileOf pool3 1 #[] #[] 1537 3 #[] #[])
  fields := #[]
  methods := #[]
  instanceTypes := #[]
  staticTypes := #[]
  resolved := Array.replicate 12 none
  statics := none }

def pool4 : Array CpInfo := pool [(1, .class_ 2), (0, u "java/io/Serializable"), (0, .class_ 4), (0, u "java/lang/Object")] 2

/-- java/io/Serializable -/
def k4 : Class := { plain "java/io/Serializable" (some 0) with
  accessFlags := 1537
  interfaces := #[]
  cf := some (fileOf pool4 1 #[] #[] 1537 3 #[] #[])
  fields := #[]
  methods := #[]
  instanceTypes := #[]
  staticTypes := #[]
  resolved := Array.replicate 7 none
  statics := none }

def pool5 : Array CpInfo := pool [(2, .class_ 4), (1, u "java/lang/Enum"), (0, u "name"), (0, u "Ljava/lang/String;"), (2, u "ordinal"), (0, u "I"), (1, .class_ 14), (1, u "java/lang/Object"), (4, u "hash"), (86, .class_ 108), (1, u "java/lang/Enum$EnumDesc"), (2, .class_ 112), (0, u "java/lang/constant/Constable"), (0, .class_ 114), (0, u "java/lang/Comparable"), (0, .class_ 116), (0, u "java/io/Serializable")] 87

/-- java/lang/Enum -/
def k5 : Class := { plain "java/lang/Enum" (some 0) with
  accessFlags := 1057
  interfaces := #[2, 3, 4]
  cf := some (fileOf pool5 2 #[.nestMembers #[106]] #[] 1057 12 #[111, 113, 115] #[{ accessFlags := 18, nameIndex := 5, descriptorIndex := 6, attributes := #[] }, { accessFlags := 18, nameIndex := 9, descriptorIndex := 10, attributes := #[] }, { accessFlags := 2, nameIndex := 19, descriptorIndex := 10, attributes := #[] }])
  fields := #[{ name := "name", type := (.object "java/lang/String"), accessFlags := 18, slot := 0, constantValue := 0 }, { name := "ordinal", type := .int, accessFlags := 18, slot := 1, constantValue := 0 }, { name := "hash", type := .int, accessFlags := 2, slot := 2, constantValue := 0 }]
  methods := #[]
  instanceTypes := #[(.object "java/lang/String"), .int, .int]
  staticTypes := #[]
  resolved := Array.replicate 204 none
  statics := none }

def pool6 : Array CpInfo := pool [(1, .class_ 2), (0, u "com/example/penumbra/penumbra/Expression$Direction"), (2, u "CONSTANT"), (0, u "Lcom/example/penumbra/penumbra/Expression$Direction;"), (0, .fieldref 1 8), (0, .nameAndType 9 6), (0, u "RISING"), (0, .fieldref 1 11), (0, .nameAndType 12 6), (0, u "FALLING"), (2, u "MIXED"), (2, u "$VALUES"), (0, u "[Lcom/example/penumbra/penumbra/Expression$Direction;"), (6, .class_ 28), (1, u "java/lang/Enum"), (14, u "flipped"), (0, u "()Lcom/example/penumbra/penumbra/Expression$Direction;"), (26, .class_ 72), (0, u "com/example/penumbra/penumbra/Expression")] 3

def k6c0 : Code := { maxStack := 2, maxLocals := 1, code := prog_10_method_4_code, exceptionTable := #[], attributes := #[] }
def k6m0 : Method := { name := "flipped", desc := "()Lcom/example/penumbra/penumbra/Expression$Direction;", sig := { parameters := [], returnType := some (.object "com/example/penumbra/penumbra/Expression$Direction") }, accessFlags := 0, code := some k6c0 }
/-- com/example/penumbra/penumbra/Expression$Direction -/
def k6 : Class := { plain "com/example/penumbra/penumbra/Expression$Direction" (some 5) with
  accessFlags := 16433
  interfaces := #[]
  cf := some (fileOf pool6 1 #[.nestHost 71] #[{ accessFlags := 0, nameIndex := 43, descriptorIndex := 44, attributes := #[] }] 16433 26 #[] #[{ accessFlags := 16409, nameIndex := 5, descriptorIndex := 6, attributes := #[] }, { accessFlags := 16409, nameIndex := 9, descriptorIndex := 6, attributes := #[] }, { accessFlags := 16409, nameIndex := 12, descriptorIndex := 6, attributes := #[] }, { accessFlags := 16409, nameIndex := 15, descriptorIndex := 6, attributes := #[] }, { accessFlags := 4122, nameIndex := 18, descriptorIndex := 19, attributes := #[] }])
  fields := #[{ name := "CONSTANT", type := (.object "com/example/penumbra/penumbra/Expression$Direction"), accessFlags := 16409, slot := 0, constantValue := 0 }, { name := "RISING", type := (.object "com/example/penumbra/penumbra/Expression$Direction"), accessFlags := 16409, slot := 1, constantValue := 0 }, { name := "FALLING", type := (.object "com/example/penumbra/penumbra/Expression$Direction"), accessFlags := 16409, slot := 2, constantValue := 0 }, { name := "MIXED", type := (.object "com/example/penumbra/penumbra/Expression$Direction"), accessFlags := 16409, slot := 3, constantValue := 0 }, { name := "$VALUES", type := (.array (.object "com/example/penumbra/penumbra/Expression$Direction")), accessFlags := 4122, slot := 4, constantValue := 0 }]
  methods := #[k6m0]
  instanceTypes := #[(.object "java/lang/String"), .int, .int]
  staticTypes := #[(.object "com/example/penumbra/penumbra/Expression$Direction"), (.object "com/example/penumbra/penumbra/Expression$Direction"), (.object "com/example/penumbra/penumbra/Expression$Direction"), (.object "com/example/penumbra/penumbra/Expression$Direction"), (.array (.object "com/example/penumbra/penumbra/Expression$Direction"))]
  resolved := Array.replicate 76 none
  statics := some 0 }

def pool7 : Array CpInfo := pool [(1, u "java/lang/Cloneable"), (0, .class_ 1), (0, u "java/lang/Object"), (0, .class_ 3)] 3

/-- java/lang/Cloneable -/
def k7 : Class := { plain "java/lang/Cloneable" (some 0) with
  accessFlags := 1537
  interfaces := #[]
  cf := some (fileOf pool7 2 #[] #[] 1537 4 #[] #[])
  fields := #[]
  methods := #[]
  instanceTypes := #[]
  staticTypes := #[]
  resolved := Array.replicate 8 none
  statics := none }

/-- the primitive byte -/
def k8 : Class := { plain "byte" none with kind := .primitive 'B', accessFlags := 0x411 }
/-- [B -/
def k9 : Class := { plain "[B" (some 0) with kind := .array 8 .byte, interfaces := #[7, 4], accessFlags := 1041 }

/-- the primitive int -/
def k10 : Class := { plain "int" none with kind := .primitive 'I', accessFlags := 0x411 }
/-- [I -/
def k11 : Class := { plain "[I" (some 0) with kind := .array 10 .int, interfaces := #[7, 4], accessFlags := 1041 }

/-- [Lcom/example/penumbra/penumbra/Expression$Direction; -/
def k12 : Class := { plain "[Lcom/example/penumbra/penumbra/Expression$Direction;" (some 0) with kind := .array 6 (.object "com/example/penumbra/penumbra/Expression$Direction"), interfaces := #[7, 4], accessFlags := 1041 }

def heap : Heap := #[{ cls := 6, slots := #[.ref 1, .ref 2, .ref 3, .ref 4, .null], vm := .statics 6 },
  { cls := 6, slots := #[.null, .int 0, .int 0], vm := .none },
  { cls := 6, slots := #[.null, .int 1, .int 0], vm := .none },
  { cls := 6, slots := #[.null, .int 2, .int 0], vm := .none },
  { cls := 6, slots := #[.null, .int 3, .int 0], vm := .none }]
def classes : Array Class := #[k0, k1, k2, k3, k4, k5, k6, k7, k8, k9, k10, k11, k12]
def interned : List (Array UInt16 × Addr) := []
def slotsUsed : Nat := 17
def theMethod : MethodId := ⟨1, 1⟩
def args0 : Array Value := #[.int 5]
def aboutOver (below : List Frame) : State where
  vm := { classes := classes, interned := interned.toArray }
  heap := heap
  slotsUsed := slotsUsed
  threads := #[{ frames := .invoking theMethod args0 :: below }]
def below0 : List Frame := [.native { method := ⟨0, 0⟩, args := #[] }]
def about1 : State := aboutOver below0
def p0 : Program := .bare "" "" ""
def e0 : Env := launch0.env 0 0 0
theorem w_frames : about1.frames = Frame.invoking theMethod args0 :: below0 := rfl
set_option maxRecDepth 65536 in
theorem w_args : argsFit about1.vm theMethod args0 = true := by decide +kernel
set_option maxRecDepth 65536 in
theorem w_heap : heapFits about1 = true := by decide +kernel
set_option maxRecDepth 65536 in
theorem w_runnable : about1.curStatus? = some .runnable := by decide +kernel
set_option maxRecDepth 65536 in
theorem w_alone : about1.alone = true := by decide +kernel
set_option maxRecDepth 65536 in
theorem w_named : about1.methodNamed? x = some theMethod := by decide +kernel
set_option maxRecDepth 65536 in
theorem w_hears : about1.hears theMethod below0 = true := by decide +kernel
set_option maxRecDepth 65536 in
theorem w_ripe : about1.ripe theMethod args0 below0 = true := by decide +kernel
theorem w_running : about1.status = .running := rfl
set_option maxRecDepth 65536 in
theorem w_room : about1.hasRoom e0.platform room_1 = true :=
  launch0.hasRoom_least _ room_1 (by decide +kernel) (by decide +kernel) (by decide +kernel) (by decide +kernel) (by decide +kernel) (by decide +kernel)
theorem allAtoms_all (ts : List Jvm.Cond) (a : Array Jvm.Value) (st : Jvm.State) : (allAtoms ts).before a st = ts.all (fun c => c.before a st) := by
  induction ts with
  | nil => rfl
  | cons c t ih =>
    show (Jvm.Cond.and c (allAtoms t)).before a st = _
    rw [Jvm.Cond.before_and, ih, List.all_cons]
def words1 : List Jvm.Cond := Jvm.Cond.code x code maxLocals ret :: tables_1
/-- a 'code' word, met by the world's own term for the bytes: nothing is compared byte by byte -/
theorem code_word {y : MethodName} {bytes : ByteArray} {mx : Nat} {rt : Option FieldType} {a : Array Value} {s : State} {m : MethodId} {meth : Method} {c : Code} (h1 : s.methodNamed? y = some m) (h2 : s.vm.method? m = some meth) (h3 : meth.code = some c) (h4 : c.code = bytes)
    (h5 : (c.maxLocals == mx && c.exceptionTable.isEmpty && decide (c.maxStack ≤ mostOperands) && decide (meth.sig.returnType = rt) && !meth.locks && decide (parseMethodDescriptor y.desc = some meth.sig)) = true) : (Jvm.Cond.code y bytes mx rt).before a s = true := by
  simp only [Bool.and_eq_true, beq_iff_eq, Bool.not_eq_true', decide_eq_true_eq] at h5
  obtain ⟨⟨⟨⟨⟨g1, g2⟩, g3⟩, g4⟩, g5⟩, g6⟩ := h5
  simp [Cond.before, Cond.holds, Cond.value, h1, h2, h3, h4, g1, g2, g3, g4, g5, g6]
def isCode : Jvm.Cond → Bool
  | .code _ _ _ _ => true
  | _ => false
theorem all_split {L : List Jvm.Cond} {P : Jvm.Cond → Bool} (h1 : L.all (fun c => isCode c || P c) = true) (h2 : ∀ c ∈ L.filter isCode, P c = true) : L.all P = true := by
  refine List.all_eq_true.mpr fun c hc => ?_
  have h := List.all_eq_true.mp h1 c hc
  rcases Bool.eq_false_or_eq_true (isCode c) with hi | hi
  · exact h2 c (List.mem_filter.mpr ⟨hc, hi⟩)
  · simpa [hi] using h
set_option maxRecDepth 65536 in
theorem w_c0 : (Jvm.Cond.code x code maxLocals ret).before args0 about1 = true := code_word (m := ⟨1, 1⟩) (meth := k1m1) (c := k1c1) (by decide +kernel) rfl rfl rfl (by decide +kernel)
set_option maxRecDepth 65536 in
theorem w_c1 : (Jvm.Cond.code ({ cls := "com/example/penumbra/penumbra/Expression$Direction", name := "flipped", desc := "()Lcom/example/penumbra/penumbra/Expression$Direction;" } : Jvm.MethodName) prog_10_method_4_code (1 : Nat) (Option.some (Jvm.ClassFile.FieldType.object "com/example/penumbra/penumbra/Expression$Direction"))).before args0 about1 = true := code_word (m := ⟨6, 0⟩) (meth := k6m0) (c := k6c0) (by decide +kernel) rfl rfl rfl (by decide +kernel)
def codes1 : List Jvm.Cond := [Jvm.Cond.code x code maxLocals ret, Jvm.Cond.code ({ cls := "com/example/penumbra/penumbra/Expression$Direction", name := "flipped", desc := "()Lcom/example/penumbra/penumbra/Expression$Direction;" } : Jvm.MethodName) prog_10_method_4_code (1 : Nat) (Option.some (Jvm.ClassFile.FieldType.object "com/example/penumbra/penumbra/Expression$Direction"))]
set_option maxRecDepth 65536 in
theorem codes_eq : words1.filter isCode = codes1 := rfl
theorem w_codes : ∀ c ∈ words1.filter isCode, c.before args0 about1 = true := by
  rw [codes_eq]
  intro c hc
  simp only [codes1, List.mem_cons, List.not_mem_nil, or_false] at hc
  rcases hc with rfl | rfl
  · exact w_c0
  · exact w_c1
set_option maxRecDepth 65536 in
theorem w_t1 : words1.all (fun c => isCode c || c.before args0 about1) = true := by decide +kernel
theorem w_tables : (allAtoms (Jvm.Cond.code x code maxLocals ret :: tables_1)).before args0 about1 = true := by
  rw [allAtoms_all]
  show words1.all (fun c => c.before args0 about1) = true
  refine all_split ?_ w_codes
  rw [w_t1]
set_option maxRecDepth 65536 in
theorem w_case : (Jvm.Cond.and given_1 narrow_1).before args0 about1 = true := by decide +kernel
theorem w_applies : (headSpec (Jvm.Cond.code x code maxLocals ret :: tables_1) room_1).applies x e0.platform about1 = true :=
  (Spec.applies_iff w_frames).mpr ⟨w_running, w_runnable, w_alone, w_named, w_hears, w_ripe, w_room, w_tables⟩
theorem atStart : AtStart classFile x code maxLocals ret World_1 tables_1 room_1 Calls_1 rest_1 Pre_1 launch0 p0 e0 about1 theMethod args0 below0 :=
  ⟨lists_1, trivial, launch0.admits_env _ _ _, launch0.least_env, fairChoices_fair.cas, fairChoices_fair.clock, w_frames, w_args, w_heap, w_applies, trivial, trivial, w_case⟩
end start1
theorem witness_1 : WitnessClaimed_1 := ⟨start1.p0, start1.e0, start1.about1, start1.theMethod, start1.args0, start1.below0, start1.atStart⟩
end Jvm.Pilot.@@N@@
