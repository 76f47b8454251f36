import JvmDerived
import JvmDerived.Pilot.@@N@@Statement
import JvmDerived.Pilot.@@N@@Code
set_option linter.unusedVariables false
set_option linter.unusedSimpArgs false
namespace Jvm.Pilot.@@N@@
open Jvm Jvm.ClassFile Sem Op Lib Jvm.Free Jvm.Stand Jvm.LawKit Jvm.RoadKit Bundle Jvm.Pilot.@@N@@.Jvm.D
section Own
variable {p : Program} {l : Launch} {e : Env} {R : Room} {s : State} {m : MethodId} {args : Array Value} {below : List Frame} {meth : Method} {c : Code} {T : State} {locs : List Loc} {cells slots : Nat} {Z : State} {a0 : Array Value} {h h' : Heap} {Q : Option Value → Heap → List Loc → Prop} {k n : Nat} {S S' : State}
/-- from S the walk comes to its end, and Q holds there -/
def own_Go (p : Program) (e : Env) (below : List Frame) (s : State) (Q : Option Value → Heap → List Loc → Prop) (k n : Nat) (S : State) : Prop :=
  ∃ s₂ o, Steps p.tables e below S s₂ ∧ s₂.status = .running ∧ Ended s₂ below o ∧ ∃ v L, o = .returned v ∧ Q v s₂.heap L ∧ FrameEnd s o s₂ L k n
theorem own_step (f : ∀ t, Steps p.tables e below S' t → Steps p.tables e below S t) (g : own_Go p e below s Q k n S') : own_Go p e below s Q k n S := by
  obtain ⟨s₂, o, h1, r⟩ := g
  exact ⟨s₂, o, f _ h1, r⟩
theorem own_ret (X : Stand p l e R s m args below meth c T locs cells slots) (hx : p.tables.exec = Jvm.exec) (hlk : meth.locks = false) {pc : Nat} {Ls : Array Slot} {w : Value} {t : FieldType} {i : Instr} {rest : List Value} (hret : meth.sig.returnType = some t) (hn : narrow t w = w)
    (hi : (i = .ireturn ∧ (t = .int ∨ t = .boolean ∨ t = .byte ∨ t = .char ∨ t = .short) ∧ ∃ z, w = .int z) ∨ (i = .lreturn ∧ t = .long ∧ ∃ z, w = .long z) ∨ (i = .dreturn ∧ t = .double ∧ ∃ z, w = .double z) ∨ (i = .freturn ∧ t = .float ∧ ∃ z, w = .float z) ∨ (i = .areturn ∧ t.isReference = true ∧ w.isRef = true))
    (hd : decode c.code pc = .ok (i, 1)) (hQ : Q (some w) T.heap locs) (hk : cells ≤ k) (hs : slots ≤ n) : own_Go p e below s Q k n (T.setTop (mkF m pc Ls (w :: rest))) := by
  obtain ⟨fs, hr, hrun, hended, hW, hsame⟩ := X.leave (v := some w) (fun h => by rw [hret] at h; cases h) hlk
  exact ⟨_, _, retOut X hx hret hn hi hd hr, hrun, hended, _, _, rfl, hQ, ⟨_, rfl⟩, hW, hsame.mono hk hs⟩
theorem own_retI (X : Stand p l e R s m args below meth c T locs cells slots) (hx : p.tables.exec = Jvm.exec) (hlk : meth.locks = false) {pc : Nat} {Ls : Array Slot} {z : Int32} {t : FieldType} {rest : List Value} (hret : meth.sig.returnType = some t) (ht : t = .int ∨ t = .boolean ∨ t = .byte ∨ t = .char ∨ t = .short) (hn : narrow t (.int z) = .int z)
    (hd : decode c.code pc = .ok (.ireturn, 1)) (hQ : Q (some (.int z)) T.heap locs) (hk : cells ≤ k) (hs : slots ≤ n) : own_Go p e below s Q k n (T.setTop (mkF m pc Ls (.int z :: rest))) :=
  own_ret X hx hlk hret hn (Or.inl ⟨rfl, ht, z, rfl⟩) hd hQ hk hs
theorem own_retJ (X : Stand p l e R s m args below meth c T locs cells slots) (hx : p.tables.exec = Jvm.exec) (hlk : meth.locks = false) {pc : Nat} {Ls : Array Slot} {z : Int64} {rest : List Value} (hret : meth.sig.returnType = some .long)
    (hd : decode c.code pc = .ok (.lreturn, 1)) (hQ : Q (some (.long z)) T.heap locs) (hk : cells ≤ k) (hs : slots ≤ n) : own_Go p e below s Q k n (T.setTop (mkF m pc Ls (.long z :: rest))) :=
  own_ret X hx hlk hret rfl (Or.inr (Or.inl ⟨rfl, rfl, z, rfl⟩)) hd hQ hk hs
theorem own_narrow_ref {t : FieldType} {w : Value} (ht : t.isReference = true) (hw : w.isRef = true) : narrow t w = w := by
  rcases ref_cases hw with rfl | ⟨z, rfl⟩ <;> cases t <;> first | rfl | (simp [FieldType.isReference] at ht)
theorem own_retA (X : Stand p l e R s m args below meth c T locs cells slots) (hx : p.tables.exec = Jvm.exec) (hlk : meth.locks = false) {pc : Nat} {Ls : Array Slot} {w : Value} {t : FieldType} {rest : List Value} (hret : meth.sig.returnType = some t) (ht : t.isReference = true) (hw : w.isRef = true)
    (hd : decode c.code pc = .ok (.areturn, 1)) (hQ : Q (some w) T.heap locs) (hk : cells ≤ k) (hs : slots ≤ n) : own_Go p e below s Q k n (T.setTop (mkF m pc Ls (w :: rest))) :=
  own_ret X hx hlk hret (own_narrow_ref ht hw) (Or.inr (Or.inr (Or.inr (Or.inr ⟨rfl, ht, hw⟩)))) hd hQ hk hs
theorem own_retV (X : Stand p l e R s m args below meth c T locs cells slots) (hx : p.tables.exec = Jvm.exec) (hlk : meth.locks = false) {pc : Nat} {Ls : Array Slot} (hret : meth.sig.returnType = none)
    (hd : decode c.code pc = .ok (.return_, 1)) (hQ : Q none T.heap locs) (hk : cells ≤ k) (hs : slots ≤ n) : own_Go p e below s Q k n (T.setTop (mkF m pc Ls [])) := by
  obtain ⟨fs, hr, hrun, hended, hW, hsame⟩ := X.leave (v := none) (fun _ => rfl) hlk
  exact ⟨_, _, X.returnOut hx hret hd hr, hrun, hended, _, _, rfl, hQ, ⟨_, rfl⟩, hW, hsame.mono hk hs⟩
theorem own_cat {v : Value} (q : v.isRef = true) : v.category = 1 := by
  rcases ref_cases q with rfl | ⟨z, rfl⟩ <;> rfl
/-- what a body is asked for: it is called with the arguments as', over the heap h0 -/
abbrev own_Met (l : Launch) (Z : State) (y : MethodName) (bytes : ByteArray) (maxL : Nat) (ret : Option FieldType) (ws : List Jvm.Cond) (rm : Room) (as' : Array Value) (h0 : Heap) (Q : Option Value → Heap → List Loc → Prop) : Prop :=
  MetFree l y (head1 (Jvm.Cond.code y bytes maxL ret :: ws) rm) (fun a U => a = as' ∧ Z.Warmed39 U.vm ∧ U.heap = h0) (fun _ _ _ _ _ => True) (fun _ U o U' => ∃ v L, o = .returned v ∧ Q v U'.heap L ∧ FrameEnd U o U' L rm.cells rm.slots)
/-- a body that leaves the heap as it was, and returns V -/
def own_P (Z : State) (h0 : Heap) (V : Value) (v : Option Value) (h : Heap) (L : List Loc) : Prop := v = some V ∧ Fr Z.heap.size L ∧ h = h0
theorem own_body {y : MethodName} {bytes : ByteArray} {maxL : Nat} {ret : Option FieldType} {ws : List Jvm.Cond} {rm : Room} {as' : Array Value} {h0 : Heap} {ls : Array Slot} (hn : plainFor y = true) (hf : ∀ m : MethodId, entryFrame m as' maxL = mkF m 0 ls [])
    (H : ∀ (p : Program) (e : Env) (s : State) (m : MethodId) (below : List Frame) (meth : Method) (c : Code) (T : State), Z.Warmed39 s.vm → p.tables.exec = Jvm.exec → c.code = bytes → c.maxLocals = maxL → s.vm.findClass y.cls = some m.cls → meth.name = y.name → meth.sig.returnType = ret → meth.locks = false →
      Stand p l e rm s m as' below meth c T [] 0 0 → T.heap = h0 → own_Go p e below s Q rm.cells rm.slots (T.setTop (mkF m 0 ls []))) : own_Met l Z y bytes maxL ret ws rm as' h0 Q := by
  refine MetFree.of_bodySF hn hisR ?_
  intro p e s m args below meth c s₁ Bd hml0 hP hK
  obtain ⟨rfl, hZ, hh⟩ := hP
  obtain ⟨s₂, o, h1, h2, h3, r⟩ := H p e s m below meth c s₁ hZ Bd.exec Bd.bytes hml0 (findClass_of_methodNamed Bd.named) (name_of_methodNamed Bd.named Bd.method).1 Bd.returns (BodyLoose.notSynchronized Bd) (Stand.of_body Bd) (by rw [← hh, Bd.state]; rfl)
  exact ⟨s₂, o, castTop (hf m) h1, h2, h3, r⟩
theorem own_callV (X : Stand p l e R s m args below meth c T locs cells slots) (hx : p.tables.exec = Jvm.exec) (hZ : Z.Warmed39 s.vm) {own C : String} {index : Nat} {y : MethodName} (hown : s.vm.findClass own = some m.cls)
    (w1 : (Jvm.Cond.methodLink own index y).before a0 Z = true) (w2 : (Jvm.Cond.declares y).before a0 Z = true) (w3 : (Jvm.Cond.selects C y y).before a0 Z = true) (w4 : (Jvm.Cond.instanceMethod y).before a0 Z = true) {bytes : ByteArray} {maxL : Nat} {ret : Option FieldType} (wc : (Jvm.Cond.code y bytes maxL ret).before a0 Z = true) (wz : (Jvm.Cond.initialized y.cls).before a0 Z = true)
    (hy : y.cls ≠ "java/lang/invoke/MethodHandle" ∧ y.cls ≠ "java/lang/invoke/VarHandle") {rm : Room} {b : Addr} {argsL rest : List Value} (hM : own_Met l Z y bytes maxL ret [] rm (.ref b :: argsL).toArray h Q) {W : Nat} (hf : rm.frames + 1 ≤ R.frames) (hl : W + (maxL + 11) + rm.locals ≤ R.locals)
    (eT : T.heap = h) (E : Exa Z h b C) {g : JFrame} (hg : g.method = m) (hsize : g.locals.size = c.maxLocals) (hlen : ∀ sig, parseMethodDescriptor y.desc = some sig → argsL.length = sig.parameters.length) (hstack : g.stack = argsL.reverse ++ .ref b :: rest)
    (hW : 2 * g.monitorRoom + (rest.map fun v => v.category).sum ≤ W) (hdg : decode c.code g.pc = .ok (.invokevirtual index, 3)) (hc : cells + rm.cells ≤ R.cells) (hs : slots + rm.slots ≤ R.slots) :
    ∃ v T' L', Stand p l e R s m args below meth c T' (locs ++ L') (cells + rm.cells) (slots + rm.slots) ∧ Q v T'.heap L' ∧ ∀ target, Steps p.tables e below (T'.setTop { g with pc := g.pc + 3, stack := v.toList ++ rest }) target → Steps p.tables e below (T.setTop g) target := by
  obtain ⟨cq, kq, qa, qb, qc⟩ := isOf hZ eT E
  obtain ⟨v, _, ⟨T8, L8, k8, n8⟩, -, X8, ⟨Lc8, hQ8, l8, y8, z8⟩, st8⟩ := X.virtualBack hx hown (mvT hZ w1) (mvT hZ w2) (notFace_of_selects (args := #[]) (mvT hZ w3)) (mvT hZ w3) (mvT hZ w4) hy (backOf (W := W) hM hZ wc wz hf hl) qa qc hg hsize (Steps.refl _) hlen hstack hW hdg (fun _ _ => ⟨rfl, eT, hc, hs⟩)
  dsimp only [Pt.U, Pt.locs, Pt.cells, Pt.slots] at X8 l8 y8 z8 st8 hQ8
  subst l8 y8 z8
  exact ⟨v, T8, Lc8, X8, hQ8, fun t q => st8.trans q⟩
theorem own_callS (X : Stand p l e R s m args below meth c T locs cells slots) (hx : p.tables.exec = Jvm.exec) (hZ : Z.Warmed39 s.vm) {own : String} {index : Nat} {y : MethodName} (hown : s.vm.findClass own = some m.cls)
    (w1 : (Jvm.Cond.methodLink own index y).before a0 Z = true) (w2 : (Jvm.Cond.static y).before a0 Z = true) {bytes : ByteArray} {maxL : Nat} {ret : Option FieldType} (wc : (Jvm.Cond.code y bytes maxL ret).before a0 Z = true) (wz : (Jvm.Cond.initialized y.cls).before a0 Z = true)
    (hy : y.cls ≠ "java/lang/invoke/MethodHandle" ∧ y.cls ≠ "java/lang/invoke/VarHandle") {rm : Room} {argsL rest : List Value} (hM : own_Met l Z y bytes maxL ret [] rm argsL.toArray h Q) {W : Nat} (hf : rm.frames + 1 ≤ R.frames) (hl : W + (maxL + 11) + rm.locals ≤ R.locals)
    (eT : T.heap = h) {g : JFrame} (hg : g.method = m) (hsize : g.locals.size = c.maxLocals) (hlen : ∀ sig, parseMethodDescriptor y.desc = some sig → argsL.length = sig.parameters.length) (hstack : g.stack = argsL.reverse ++ rest)
    (hW : 2 * g.monitorRoom + (rest.map fun v => v.category).sum ≤ W) (hdg : decode c.code g.pc = .ok (.invokestatic index, 3)) (hc : cells + rm.cells ≤ R.cells) (hs : slots + rm.slots ≤ R.slots) :
    ∃ v T' L', Stand p l e R s m args below meth c T' (locs ++ L') (cells + rm.cells) (slots + rm.slots) ∧ Q v T'.heap L' ∧ ∀ target, Steps p.tables e below (T'.setTop { g with pc := g.pc + 3, stack := v.toList ++ rest }) target → Steps p.tables e below (T.setTop g) target := by
  obtain ⟨v, _, ⟨T8, L8, k8, n8⟩, -, X8, ⟨Lc8, hQ8, l8, y8, z8⟩, st8⟩ := Jvm.LawKit.callS X hx hown (mvT hZ w1) (mvT hZ w2) (mvT hZ wz) (mvT hZ wc) hy (backOf (W := W) hM hZ wc wz hf hl) hg hsize hlen hstack hW hdg (fun _ _ => ⟨rfl, eT, hc, hs⟩)
  dsimp only [Pt.U, Pt.locs, Pt.cells, Pt.slots] at X8 l8 y8 z8 st8 hQ8
  subst l8 y8 z8
  exact ⟨v, T8, Lc8, X8, hQ8, st8⟩
theorem own_callI (X : Stand p l e R s m args below meth c T locs cells slots) (hx : p.tables.exec = Jvm.exec) (hZ : Z.Warmed39 s.vm) {own : String} {index : Nat} {y : MethodName} (hy1 : y.name = "<init>") (hown : s.vm.findClass own = some m.cls)
    (w1 : (Jvm.Cond.methodLink own index y).before a0 Z = true) (w2 : (Jvm.Cond.instanceMethod y).before a0 Z = true) {bytes : ByteArray} {maxL : Nat} (wc : (Jvm.Cond.code y bytes maxL none).before a0 Z = true) (wz : (Jvm.Cond.initialized y.cls).before a0 Z = true)
    (hy : y.cls ≠ "java/lang/invoke/MethodHandle" ∧ y.cls ≠ "java/lang/invoke/VarHandle") {rm : Room} {b : Addr} {argsL rest : List Value} (hM : own_Met l Z y bytes maxL none [] rm (.ref b :: argsL).toArray h Q) {W : Nat} (hf : rm.frames + 1 ≤ R.frames) (hl : W + (maxL + 11) + rm.locals ≤ R.locals)
    (eT : T.heap = h) {g : JFrame} (hg : g.method = m) (hsize : g.locals.size = c.maxLocals) (hlen : ∀ sig, parseMethodDescriptor y.desc = some sig → argsL.length = sig.parameters.length) (hstack : g.stack = argsL.reverse ++ .ref b :: rest)
    (hW : 2 * g.monitorRoom + (rest.map fun v => v.category).sum ≤ W) (hdg : decode c.code g.pc = .ok (.invokespecial index, 3)) (hc : cells + rm.cells ≤ R.cells) (hs : slots + rm.slots ≤ R.slots) :
    ∃ v T' L', Stand p l e R s m args below meth c T' (locs ++ L') (cells + rm.cells) (slots + rm.slots) ∧ Q v T'.heap L' ∧ ∀ target, Steps p.tables e below (T'.setTop { g with pc := g.pc + 3, stack := v.toList ++ rest }) target → Steps p.tables e below (T.setTop g) target := by
  obtain ⟨v, _, ⟨T8, L8, k8, n8⟩, -, X8, ⟨Lc8, hQ8, l8, y8, z8⟩, st8⟩ := X.specialBack hx hy1 hown (mvT hZ w1) (mvT hZ w2) (mvT hZ wc) hy (backOf (W := W) hM hZ wc wz hf hl) hg hsize (Steps.refl _) hlen hstack hW hdg (fun _ _ => ⟨rfl, eT, hc, hs⟩)
  dsimp only [Pt.U, Pt.locs, Pt.cells, Pt.slots] at X8 l8 y8 z8 st8 hQ8
  subst l8 y8 z8
  exact ⟨v, T8, Lc8, X8, hQ8, fun t q => st8.trans q⟩
theorem own_ldcI (X : Stand p l e R s m args below meth c T locs cells slots) (hx : p.tables.exec = Jvm.exec) (hZ : Z.Warmed39 s.vm) {own : String} {index : Nat} {v : Int32} (hown : s.vm.findClass own = some m.cls) (w : (Jvm.Cond.constant own index v).before a0 Z = true)
    {g : JFrame} (hg : g.method = m) (hd : decode c.code g.pc = .ok (.ldc index, 2)) : ∀ target, Steps p.tables e below (T.setTop { g with pc := g.pc + 2, stack := .int v :: g.stack }) target → Steps p.tables e below (T.setTop g) target := X.ldcInt hx hown (mvT hZ w) hg hd
theorem own_ldcJ (X : Stand p l e R s m args below meth c T locs cells slots) (hx : p.tables.exec = Jvm.exec) (hZ : Z.Warmed39 s.vm) {own : String} {index : Nat} {v : Int64} (hown : s.vm.findClass own = some m.cls) (w : (Jvm.Cond.constantLong own index v).before a0 Z = true)
    {g : JFrame} (hg : g.method = m) (hd : decode c.code g.pc = .ok (.ldc2_w index, 3)) : ∀ target, Steps p.tables e below (T.setTop { g with pc := g.pc + 3, stack := .long v :: g.stack }) target → Steps p.tables e below (T.setTop g) target := X.ldc2Long hx hown (mvT hZ w) hg hd
/-! arrays: what stands in them, as a list -/
def own_Ar (Z : State) (h : Heap) (a : Addr) (kc : ClassId) (ty : FieldType) (vs : List Value) : Prop := ∃ c : Cell, Arr Z h a c ty ∧ c.cls = kc ∧ c.slots.toList = vs
variable {a b : Addr} {kc : ClassId} {ty : FieldType} {vs vs' : List Value} {v : Value} {i : Nat}
theorem own_Ar.new {z : Int32} (A : Arr Z h a (newA kc ty z) ty) (hz : List.replicate z.toNatClampNeg (defaultValue ty) = vs) : own_Ar Z h a kc ty vs := ⟨_, A, rfl, by rw [← hz]; simp [newA]⟩
theorem own_Ar.set (W : Wr h h' a i v) (F : own_Ar Z h a kc ty vs) (hv : vs.set i v = vs') : own_Ar Z h' a kc ty vs' := by
  obtain ⟨c, A, q, r⟩ := F
  exact ⟨_, A.same W, q, by rw [← hv, ← r]; simp [Cell.setSlot]⟩
theorem own_Ar.other (W : Wr h h' b i v) (F : own_Ar Z h a kc ty vs) (q : a ≠ b) : own_Ar Z h' a kc ty vs := by
  obtain ⟨c, A, r⟩ := F
  exact ⟨c, A.other W q, r⟩
theorem own_Ar.ext (E : Ext h h') (F : own_Ar Z h a kc ty vs) : own_Ar Z h' a kc ty vs := by
  obtain ⟨c, A, r⟩ := F
  exact ⟨c, A.ext E, r⟩
theorem own_Ar.lt (F : own_Ar Z h a kc ty vs) : a < h.size := by
  obtain ⟨c, A, r⟩ := F
  exact A.lt
theorem own_ext_trans {h'' : Heap} (E : Ext h h') (E' : Ext h' h'') : Ext h h'' := ⟨Nat.le_trans E.1 E'.1, fun a c q => E'.2 a c (E.2 a c q)⟩
theorem own_ext_wr {h0 : Heap} (E : Ext h0 h) (W : Wr h h' a i v) (q : h0.size ≤ a) : Ext h0 h' := by
  refine ⟨Nat.le_trans E.1 (Nat.le_of_eq W.size.symm), fun x cx hc => ?_⟩
  obtain ⟨c', e1, -, -, -, e5, -⟩ := wr_at W (E.2 x cx hc)
  have ne : x ≠ a := fun z => by
    have := (Array.getElem?_eq_some_iff.mp hc).1
    subst z
    exact absurd this (Nat.not_lt.mpr q)
  rw [← e5 ne]; exact e1
theorem own_inb {c : Cell} {j : Int32} (r : c.slots.toList = vs) (hj : ¬ j < 0) (hv : vs[j.toNatClampNeg]? = some v) : ¬ (j < 0 ∨ c.slots.size ≤ j.toNatClampNeg) ∧ c.slots[j.toNatClampNeg]? = some v := by
  have q : c.slots[j.toNatClampNeg]? = some v := by rw [← hv, ← r, Array.getElem?_toList]
  refine ⟨fun z => ?_, q⟩
  rcases z with z | z
  · exact hj z
  · exact absurd (Array.getElem?_eq_some_iff.mp q).1 (Nat.not_lt.mpr z)
theorem own_aaload (X : Stand p l e R s m args below meth c T locs cells slots) (hx : p.tables.exec = Jvm.exec) (hZ : Z.Warmed39 s.vm) (eT : T.heap = h) (F : own_Ar Z h a kc ty vs) (hty : ty.isReference = true) {j : Int32} (hj : ¬ j < 0) (hv : vs[j.toNatClampNeg]? = some v)
    {g : JFrame} (hg : g.method = m) {rest : List Value} (hs : g.stack = .int j :: .ref a :: rest) (hd : decode c.code g.pc = .ok (.aaload, 1)) : ∀ target, Steps p.tables e below (T.setTop { g with pc := g.pc + 1, stack := v :: rest }) target → Steps p.tables e below (T.setTop g) target := by
  obtain ⟨cl, A, -, r⟩ := F
  obtain ⟨q1, q2⟩ := own_inb r hj hv
  exact X.aaload hx (by rw [eT]; exact A.1) (State.isArrayOf_alike hZ.alike A.2.1) hty A.2.2 q1 q2 hg hs hd
theorem own_iaload (X : Stand p l e R s m args below meth c T locs cells slots) (hx : p.tables.exec = Jvm.exec) (hZ : Z.Warmed39 s.vm) (eT : T.heap = h) (F : own_Ar Z h a kc .int vs) {j : Int32} (hj : ¬ j < 0) (hv : vs[j.toNatClampNeg]? = some v)
    {g : JFrame} (hg : g.method = m) {rest : List Value} (hs : g.stack = .int j :: .ref a :: rest) (hd : decode c.code g.pc = .ok (.iaload, 1)) : ∀ target, Steps p.tables e below (T.setTop { g with pc := g.pc + 1, stack := v :: rest }) target → Steps p.tables e below (T.setTop g) target := by
  obtain ⟨cl, A, -, r⟩ := F
  obtain ⟨q1, q2⟩ := own_inb r hj hv
  exact fun t k => X.iaload hx (by rw [eT]; exact A.1) (State.isArrayOf_alike hZ.alike A.2.1) A.2.2 q1 q2 hg hs hd t k
theorem own_zaload (X : Stand p l e R s m args below meth c T locs cells slots) (hx : p.tables.exec = Jvm.exec) (hZ : Z.Warmed39 s.vm) (eT : T.heap = h) (F : own_Ar Z h a kc .boolean vs) {j : Int32} (hj : ¬ j < 0) (hv : vs[j.toNatClampNeg]? = some v)
    {g : JFrame} (hg : g.method = m) {rest : List Value} (hs : g.stack = .int j :: .ref a :: rest) (hd : decode c.code g.pc = .ok (.baload, 1)) : ∀ target, Steps p.tables e below (T.setTop { g with pc := g.pc + 1, stack := v :: rest }) target → Steps p.tables e below (T.setTop g) target := by
  obtain ⟨cl, A, -, r⟩ := F
  obtain ⟨q1, q2⟩ := own_inb r hj hv
  exact fun t k => X.baloadBooleans hx (by rw [eT]; exact A.1) (State.isArrayOf_alike hZ.alike A.2.1) A.2.2 q1 q2 hg hs hd t k
theorem own_alen (X : Stand p l e R s m args below meth c T locs cells slots) (hx : p.tables.exec = Jvm.exec) (hZ : Z.Warmed39 s.vm) (eT : T.heap = h) (F : own_Ar Z h a kc ty vs) {z : Int32} (hz : vs.length.toInt32 = z)
    {g : JFrame} (hg : g.method = m) {rest : List Value} (hs : g.stack = .ref a :: rest) (hd : decode c.code g.pc = .ok (.arraylength, 1)) : ∀ target, Steps p.tables e below (T.setTop { g with pc := g.pc + 1, stack := .int z :: rest }) target → Steps p.tables e below (T.setTop g) target := by
  obtain ⟨cl, A, -, r⟩ := F
  have q : cl.slots.size.toInt32 = z := by rw [← hz, ← r]; simp
  subst q
  exact fun t k => X.arraylength hx (by rw [eT]; exact A.1) (State.isArrayOf_alike hZ.alike A.2.1) hg hs hd t k
theorem own_stin {c : Cell} {j : Int32} (r : c.slots.toList = vs) (hj : ¬ j < 0) (hi : j.toNatClampNeg = i) (hlt : i < vs.length) : ¬ (j < 0 ∨ c.slots.size ≤ j.toNatClampNeg) := by
  have q : c.slots.size = vs.length := by rw [← r]; simp
  rintro (z | z)
  · exact hj z
  · omega
theorem own_stR (X : Stand p l e R s m args below meth c T locs cells slots) (hx : p.tables.exec = Jvm.exec) (hZ : Z.Warmed39 s.vm) (eT : T.heap = h) {C : String} (F : own_Ar Z h a kc (.object C) vs) (O : Ovr Z kc C) {y : Addr} (I : Exa Z h y C) {j : Int32} (i : Nat) (vs' : List Value) (hj : ¬ j < 0) (hi : j.toNatClampNeg = i) (hlt : i < vs.length) (hv : vs.set i (.ref y) = vs')
    (Ex : Ext Z.heap h) (ha : Z.heap.size ≤ a) (N : Fr Z.heap.size locs) {g : JFrame} (hg : g.method = m) {rest : List Value} (hs : g.stack = .ref y :: .int j :: .ref a :: rest) (hd : decode c.code g.pc = .ok (.aastore, 1)) :
    ∃ T' h' locs', Stand p l e R s m args below meth c T' locs' cells slots ∧ T'.heap = h' ∧ own_Ar Z h' a kc (.object C) vs' ∧ Ext Z.heap h' ∧ Fr Z.heap.size locs' ∧ Wr h h' a i (.ref y) ∧ ∀ target, Steps p.tables e below (T'.setTop { g with pc := g.pc + 1, stack := rest }) target → Steps p.tables e below (T.setTop g) target := by
  obtain ⟨cl, A, q, r⟩ := F
  obtain ⟨T', h', X', e', W', st⟩ := stR X hx hZ eT A (own_stin r hj hi hlt) rfl (Sto.of A (q ▸ O) (Ins.self I)) hg hs hd
  rw [hi] at W'
  exact ⟨T', h', _, X', e', own_Ar.set W' ⟨cl, A, q, r⟩ hv, own_ext_wr Ex W' ha, Fr.snoc X' N ha, W', st⟩
theorem own_stI (X : Stand p l e R s m args below meth c T locs cells slots) (hx : p.tables.exec = Jvm.exec) (hZ : Z.Warmed39 s.vm) (eT : T.heap = h) (F : own_Ar Z h a kc .int vs) {x j : Int32} (i : Nat) (vs' : List Value) (hj : ¬ j < 0) (hi : j.toNatClampNeg = i) (hlt : i < vs.length) (hv : vs.set i (.int x) = vs')
    (Ex : Ext Z.heap h) (ha : Z.heap.size ≤ a) (N : Fr Z.heap.size locs) {g : JFrame} (hg : g.method = m) {rest : List Value} (hs : g.stack = .int x :: .int j :: .ref a :: rest) (hd : decode c.code g.pc = .ok (.iastore, 1)) :
    ∃ T' h' locs', Stand p l e R s m args below meth c T' locs' cells slots ∧ T'.heap = h' ∧ own_Ar Z h' a kc .int vs' ∧ Ext Z.heap h' ∧ Fr Z.heap.size locs' ∧ Wr h h' a i (.int x) ∧ ∀ target, Steps p.tables e below (T'.setTop { g with pc := g.pc + 1, stack := rest }) target → Steps p.tables e below (T.setTop g) target := by
  obtain ⟨cl, A, q, r⟩ := F
  obtain ⟨T', h', X', e', W', st⟩ := stI X hx hZ eT A (own_stin r hj hi hlt) hg hs hd
  rw [hi] at W'
  exact ⟨T', h', _, X', e', own_Ar.set W' ⟨cl, A, q, r⟩ hv, own_ext_wr Ex W' ha, Fr.snoc X' N ha, W', st⟩
theorem own_stZ (X : Stand p l e R s m args below meth c T locs cells slots) (hx : p.tables.exec = Jvm.exec) (hZ : Z.Warmed39 s.vm) (eT : T.heap = h) (F : own_Ar Z h a kc .boolean vs) {x j : Int32} (i : Nat) (vs' : List Value) (hj : ¬ j < 0) (hi : j.toNatClampNeg = i) (hlt : i < vs.length) (hn : nar .boolean x = x) (hv : vs.set i (.int x) = vs')
    (Ex : Ext Z.heap h) (ha : Z.heap.size ≤ a) (N : Fr Z.heap.size locs) {g : JFrame} (hg : g.method = m) {rest : List Value} (hs : g.stack = .int x :: .int j :: .ref a :: rest) (hd : decode c.code g.pc = .ok (.bastore, 1)) :
    ∃ T' h' locs', Stand p l e R s m args below meth c T' locs' cells slots ∧ T'.heap = h' ∧ own_Ar Z h' a kc .boolean vs' ∧ Ext Z.heap h' ∧ Fr Z.heap.size locs' ∧ Wr h h' a i (.int x) ∧ ∀ target, Steps p.tables e below (T'.setTop { g with pc := g.pc + 1, stack := rest }) target → Steps p.tables e below (T.setTop g) target := by
  obtain ⟨cl, A, q, r⟩ := F
  obtain ⟨T', h', X', e', W', st⟩ := stZ X hx hZ eT A (own_stin r hj hi hlt) hg hs hd
  rw [hi, hn] at W'
  exact ⟨T', h', _, X', e', own_Ar.set W' ⟨cl, A, q, r⟩ hv, own_ext_wr Ex W' ha, Fr.snoc X' N ha, W', st⟩
theorem own_newR (X : Stand p l e R s m args below meth c T locs cells slots) (hx : p.tables.exec = Jvm.exec) (hZ : Z.Warmed39 s.vm) {own C : String} {index : Nat} (hown : s.vm.findClass own = some m.cls) (w1 : (Jvm.Cond.classLink own index C).before a0 Z = true) (w2 : (Jvm.Cond.arrayOver (.object C)).before a0 Z = true)
    (eT : T.heap = h) (Ex : Ext Z.heap h) {g : JFrame} (hg : g.method = m) (hd : decode c.code g.pc = .ok (.anewarray index, 3)) {z : Int32} {rest : List Value} (hs : g.stack = .int z :: rest) (hn : ¬ z < 0) (vs : List Value) (hz : List.replicate z.toNatClampNeg (.null : Value) = vs) {cap : Nat} (hcap : z.toNatClampNeg ≤ cap) (hb : cap * 8 ≤ 536870912) (hc : cells + 1 ≤ R.cells) (hl : slots + cap ≤ R.slots) :
    ∃ T' h' kc a, Stand p l e R s m args below meth c T' locs (cells + 1) (slots + cap) ∧ T'.heap = h' ∧ Ext h h' ∧ Ext Z.heap h' ∧ own_Ar Z h' a kc (.object C) vs ∧ Ovr Z kc C ∧ Z.heap.size ≤ a ∧ h.size = a ∧
      ∀ target, Steps p.tables e below (T'.setTop { g with pc := g.pc + 3, stack := .ref a :: rest }) target → Steps p.tables e below (T.setTop g) target := by
  obtain ⟨T', h', kc, X', e', E', A', O', st⟩ := newR X hx hZ hown w1 w2 eT hg hd hs hn hcap hb hc hl
  exact ⟨T', h', kc, h.size, X', e', E', own_ext_trans Ex E', own_Ar.new A' hz, O', Ex.1, rfl, st⟩
theorem own_newP (X : Stand p l e R s m args below meth c T locs cells slots) (hx : p.tables.exec = Jvm.exec) (hZ : Z.Warmed39 s.vm) {aty : ArrayType} (ty : FieldType) (hty : newarray.typeOf aty = ty) (w : (Jvm.Cond.arrayClass ty).before a0 Z = true)
    (eT : T.heap = h) (Ex : Ext Z.heap h) {g : JFrame} (hg : g.method = m) (hd : decode c.code g.pc = .ok (.newarray aty, 2)) {z : Int32} {rest : List Value} (hs : g.stack = .int z :: rest) (hn : ¬ z < 0) (vs : List Value) (hz : List.replicate z.toNatClampNeg (defaultValue ty) = vs) {cap : Nat} (hcap : z.toNatClampNeg ≤ cap) (hb : cap * 8 ≤ 536870912) (hc : cells + 1 ≤ R.cells) (hl : slots + cap ≤ R.slots) :
    ∃ T' h' kc a, Stand p l e R s m args below meth c T' locs (cells + 1) (slots + cap) ∧ T'.heap = h' ∧ Ext h h' ∧ Ext Z.heap h' ∧ own_Ar Z h' a kc ty vs ∧ Z.heap.size ≤ a ∧ h.size = a ∧
      ∀ target, Steps p.tables e below (T'.setTop { g with pc := g.pc + 2, stack := .ref a :: rest }) target → Steps p.tables e below (T.setTop g) target := by
  subst hty
  obtain ⟨T', h', kc, X', e', E', A', st⟩ := newP X hx hZ w eT hg hd hs hn hcap hb hc hl
  exact ⟨T', h', kc, h.size, X', e', E', own_ext_trans Ex E', own_Ar.new A' hz, Ex.1, rfl, st⟩
theorem own_Ar.keep {ws : List Addr} (K : Keep h h' ws) (F : own_Ar Z h a kc ty vs) (q : a ∉ ws) : own_Ar Z h' a kc ty vs := by
  obtain ⟨c, A, r⟩ := F
  exact ⟨c, ⟨K.2.1 a c A.1 q, A.2⟩, r⟩
/-! objects -/
theorem own_new (X : Stand p l e R s m args below meth c T locs cells slots) (hx : p.tables.exec = Jvm.exec) (hZ : Z.Warmed39 s.vm) {own C : String} {index n : Nat} (hown : s.vm.findClass own = some m.cls) (w : (Jvm.Cond.classLink own index C).before a0 Z = true) (wi : (Jvm.Cond.instantiable C n).before a0 Z = true) (wz : (Jvm.Cond.initialized C).before a0 Z = true) (eT : T.heap = h) (Ex : Ext Z.heap h)
    {g : JFrame} (hg : g.method = m) (hd : decode c.code g.pc = .ok (.new index, 3)) (hc : cells + 1 ≤ R.cells) (hl : slots + n ≤ R.slots) :
    ∃ T' h' a, Stand p l e R s m args below meth c T' locs (cells + 1) (slots + n) ∧ T'.heap = h' ∧ Ext h h' ∧ Ext Z.heap h' ∧ Exa Z h' a C ∧ (∀ {O nm d : String} {ty : FieldType}, Laid Z a0 C O nm d → parseFieldDescriptor d = some ty → Fld Z h' a O nm d (defaultValue ty)) ∧ Z.heap.size ≤ a ∧ h.size = a ∧
      ∀ target, Steps p.tables e below (T'.setTop { g with pc := g.pc + 3, stack := .ref a :: g.stack }) target → Steps p.tables e below (T.setTop g) target := by
  obtain ⟨T', h', X', e', E', A', D', -, st⟩ := newO X hx hZ hown w wi wz eT hg hd hc hl
  exact ⟨T', h', h.size, X', e', E', own_ext_trans Ex E', A', D', Ex.1, rfl, st⟩
theorem own_putF (X : Stand p l e R s m args below meth c T locs cells slots) (hx : p.tables.exec = Jvm.exec) (hZ : Z.Warmed39 s.vm) {own R0 O nm d C : String} {index kk : Nat} {ty : FieldType} (hown : s.vm.findClass own = some m.cls) (w : (Jvm.Cond.fieldLink own index R0 nm d).before a0 Z = true) (via : Via Z R0 O nm d)
    (eT : T.heap = h) {v old : Value} (F : Fld Z h a O nm d old) (E : Exa Z h a C) (L : (Jvm.Cond.lays C O nm d).before a0 Z = true ∨ ((Jvm.Cond.laysFinal C O nm d).before a0 Z = true ∧ own = O ∧ meth.name = "<init>")) (wi : (Jvm.Cond.instantiable C kk).before a0 Z = true)
    (hty : parseFieldDescriptor d = some ty) (hn : narrow ty v = v) (hf : fits ty v = true) (Ex : Ext Z.heap h) (ha : Z.heap.size ≤ a) (N : Fr Z.heap.size locs) {g : JFrame} (hg : g.method = m) {rest : List Value} (hs : g.stack = v :: .ref a :: rest) (hd : decode c.code g.pc = .ok (.putfield index, 3)) :
    ∃ T' h' locs', Stand p l e R s m args below meth c T' locs' cells slots ∧ T'.heap = h' ∧ Fld Z h' a O nm d v ∧ Exa Z h' a C ∧ Ext Z.heap h' ∧ Fr Z.heap.size locs' ∧ Wr h h' a (Jvm.RoadKit.slotOf Z O nm d) v ∧ ∀ target, Steps p.tables e below (T'.setTop { g with pc := g.pc + 3, stack := rest }) target → Steps p.tables e below (T.setTop g) target := by
  obtain ⟨T', h', X', e', W', st⟩ := putF X hx hZ hown (host := "") (Or.inl w) via eT F E L wi hty hn hf hg hs hd
  exact ⟨T', h', _, X', e', Fld.same W' F, Exa.wr W' E, own_ext_wr Ex W' ha, Fr.snoc X' N ha, W', st⟩
/-! from the case's words to facts on the heap -/
theorem own_exa {C nm d K : String} (hn : (Jvm.Cond.exactly (.static C nm d) K).value args s none s [] = some true) (w1 : (Jvm.Cond.initialized C).before args s = true) (w2 : (Jvm.Cond.laysStatic C nm d).before args s = true) :
    ∃ w, (Term.static C nm d).eval args s none [] s = some (.ref w) ∧ Sta s s.heap C nm d (.ref w) ∧ Exa s s.heap w K := by
  obtain ⟨w, ev⟩ := exa_v hn
  exact ⟨w, ev, Sta.start ev (Or.inr ⟨w1, w2⟩), Exa.start ev hn⟩
theorem own_fldI {t : Term} {O f d : String} {w : Addr} {z : Int32} (ev : t.eval args s none [] s = some (.ref w)) (hn : (Jvm.Cond.eq (.field t O f d) (.int z)).value args s none s [] = some true) : Fld s s.heap w O f d (.int z) := by
  obtain ⟨x, y, h1, h2, k1, k2⟩ := cmp_v (Or.inl hn)
  cases (Term.int_eval z).symm.trans h2
  obtain ⟨z', rfl⟩ := k2
  simp only [Cond.value, h1, h2] at hn
  have e1 : z' = z := by simpa using hn
  subst e1
  refine Fld.start ?_
  rw [← fld_at (C := O) (n := f) (dd := d) ev]
  exact h1
theorem own_fldJ {t : Term} {O f d : String} {w : Addr} {z : Int64} (ev : t.eval args s none [] s = some (.ref w)) (hn : (Jvm.Cond.eq (.field t O f d) (.long z)).value args s none s [] = some true) : Fld s s.heap w O f d (.long z) := by
  obtain ⟨x, y, h1, h2, k1, k2⟩ := cmp_v (Or.inl hn)
  cases (show (Term.long z).eval args s none [] s = some (.long z) from rfl).symm.trans h2
  obtain ⟨z', rfl⟩ := k2
  simp only [Cond.value, h1, h2] at hn
  have e1 : z' = z := by simpa using hn
  subst e1
  refine Fld.start ?_
  rw [← fld_at (C := O) (n := f) (dd := d) ev]
  exact h1
theorem own_fld_inj {C nm d : String} {w w' : Value} (F : Fld Z h a C nm d w) (G : Fld Z h a C nm d w') : w = w' := by
  by_cases q : w = w'
  · exact q
  · exact absurd rfl (Fld.ne F G q)
theorem own_idx (x d : Int32) (hd : 0 < d.toInt) : 0 ≤ ((x &&& 2147483647) % d).toInt ∧ ((x &&& 2147483647) % d).toInt < d.toInt := by
  have h := c_mask x 2147483647 31 (by decide) (by decide)
  have h0 : 0 ≤ (x &&& 2147483647).toInt := by omega
  have q := (c_iremV (x &&& 2147483647) d).1 h0 hd
  exact ⟨q.1, q.2.1⟩
theorem own_bm32 {x : Int} (h0 : -2147483648 ≤ x) (h1 : x < 2147483648) : x.bmod (2 ^ 32) = x := Int.bmod_eq_of_le (by omega) (by omega)
theorem own_bm64 {x : Int} (h0 : -9223372036854775808 ≤ x) (h1 : x < 9223372036854775808) : x.bmod (2 ^ 64) = x := Int.bmod_eq_of_le (by omega) (by omega)
theorem own_iadd {x y : Int32} (h0 : -2147483648 ≤ x.toInt + y.toInt) (h1 : x.toInt + y.toInt < 2147483648) : (x + y).toInt = x.toInt + y.toInt := by rw [Int32.toInt_add, own_bm32 h0 h1]
theorem own_isub {x y : Int32} (h0 : -2147483648 ≤ x.toInt - y.toInt) (h1 : x.toInt - y.toInt < 2147483648) : (x - y).toInt = x.toInt - y.toInt := by rw [Int32.toInt_sub, own_bm32 h0 h1]
theorem own_lneg {x : Int64} (h0 : -9223372036854775808 ≤ -x.toInt) (h1 : -x.toInt < 9223372036854775808) : (-x).toInt = -x.toInt := by rw [Int64.toInt_neg, own_bm64 h0 h1]
theorem own_lmul {x y : Int64} (h0 : -9223372036854775808 ≤ x.toInt * y.toInt) (h1 : x.toInt * y.toInt < 9223372036854775808) : (x * y).toInt = x.toInt * y.toInt := by rw [Int64.toInt_mul, own_bm64 h0 h1]
theorem own_cl {x y : Int64} : XT.cmpL x y < 0 ↔ x < y := by
  have h : XT.cmpL x y = lcmpV x y := by simp [XT.cmpL, lcmpV]
  rw [h]; exact lc_lt x y
theorem own_cg {x y : Int64} : 0 < XT.cmpL x y ↔ y < x := by
  have h : XT.cmpL x y = lcmpV x y := by simp [XT.cmpL, lcmpV]
  rw [h]; exact lc_gt x y
theorem own_ce {x y : Int64} : XT.cmpL x y = 0 ↔ x = y := by
  have h : XT.cmpL x y = lcmpV x y := by simp [XT.cmpL, lcmpV]
  rw [h]; exact lc_eq x y
theorem own_short {x : Int32} (h0 : -32768 ≤ x.toInt) (h1 : x.toInt < 32768) : x.toInt16.toInt32 = x := by
  have h := c_i2s x
  exact Int32.toInt_inj.mp (by omega)
theorem own_nn {i : Int32} (q : 0 ≤ i.toInt) : ¬ i < 0 := by
  rw [Int32.lt_iff_toInt_lt]
  have h : (0 : Int32).toInt = 0 := by decide
  omega
theorem own_len {t : Term} {cl : Cell} {z : Int32} (ev : t.eval args s none [] s = some (.ref a)) (A : Arr s s.heap a cl ty) (hn : (Jvm.Cond.eq (.length t) (.int z)).value args s none s [] = some true) : cl.slots.size = z.toNatClampNeg := by
  have ha : s.arrayAt? a = some cl := Arr.fin (Vm.Alike.refl _) A
  by_cases hlt : cl.slots.size < 2147483648
  · have h3 := len_f ev ha hlt
    have e1 : cl.slots.size.toInt32 = z := by
      have h4 := Term.int_eval (args := args) (first := s) (o := none) (idx := []) (s := s) z
      simp only [Cond.value, h3, h4] at hn
      simpa using hn
    have h5 := len_toInt hlt
    have h6 := nat_of (own_nn (i := cl.slots.size.toInt32) (by omega))
    rw [← e1]
    omega
  · exfalso
    simp [Cond.value, Term.eval, ev, ha, hlt] at hn
theorem own_elem {t u : Term} {cl : Cell} {j : Int32} {x : Value} (ev : t.eval args s none [] s = some (.ref a)) (A : Arr s s.heap a cl ty) (hu : u.eval args s none [] s = some x) (hx : x.isRef = true) (hn : (Jvm.Cond.eq (.elem t (.int j)) u).value args s none s [] = some true) : cl.slots[j.toNatClampNeg]? = some x := by
  obtain ⟨v, y, h1, h2, k1, k2⟩ := cmp_v (Or.inl hn)
  cases hu.symm.trans h2
  have hv : v.isRef = true := by
    rcases ref_cases hx with rfl | ⟨q, rfl⟩ <;> cases v <;> simp [Kin, Value.isRef] at k1 k2 ⊢
  have e1 := gotT (eq_R h1 hu hv hx) hn
  subst e1
  exact (elem_in h1 ev (Term.int_eval j) A.1).2
theorem own_toList {cl : Cell} (hs : cl.slots.size = vs.length) (H : HasL cl 0 vs) : cl.slots.toList = vs := by
  refine List.ext_getElem? fun j => ?_
  rw [Array.getElem?_toList]
  by_cases q : j < vs.length
  · have := HasL.at (dv := .null) vs 0 H j q
    rw [Nat.zero_add] at this
    rw [this, List.getElem?_eq_getElem q]
    simp [List.getD, q]
  · rw [List.getElem?_eq_none (by omega), Array.getElem?_eq_none (by omega)]
theorem own_arr {C nm d : String} (hn : (Jvm.Cond.arrayOf (.static C nm d) ty).value args s none s [] = some true) (w1 : (Jvm.Cond.initialized C).before args s = true) (w2 : (Jvm.Cond.laysStatic C nm d).before args s = true) :
    ∃ w cl, (Term.static C nm d).eval args s none [] s = some (.ref w) ∧ Sta s s.heap C nm d (.ref w) ∧ Arr s s.heap w cl ty := by
  obtain ⟨w, ev⟩ := arr_v hn
  obtain ⟨cl, A⟩ := Arr.start ev hn
  exact ⟨w, cl, ev, Sta.start ev (Or.inr ⟨w1, w2⟩), A⟩
theorem own_and3 (x : Int32) : 0 ≤ (x &&& 3).toInt ∧ (x &&& 3).toInt < 4 := by
  have h := c_mask x 3 2 (by decide) (by decide)
  omega
end Own
end Jvm.Pilot.@@N@@
namespace Jvm.Pilot.@@N@@
open Jvm Jvm.ClassFile Sem Op Lib Jvm.Free Jvm.Stand Jvm.LawKit Jvm.RoadKit Bundle Jvm.Pilot.@@N@@.Jvm.D
theorem own_pd0 : parseMethodDescriptor "(B)Lcom/example/reins_for_requests/reinsforrequests/cluster/TokenProtocol$Status;" = some ⟨[.byte], some (.object "com/example/reins_for_requests/reinsforrequests/cluster/TokenProtocol$Status")⟩ := by decide +kernel
theorem own_pd1 : parseMethodDescriptor "()B" = some ⟨[], some .byte⟩ := by decide +kernel
theorem own_ite_ref {p : Prop} [Decidable p] {a b : Value} (ha : a.isRef = true) (hb : b.isRef = true) : (if p then a else b).isRef = true := by
  split
  · exact ha
  · exact hb
theorem own_null {args : Array Value} {s : State} : (Term.null).eval args s none [] s = some Value.null := rfl
theorem own_arB {s : State} {a : Addr} {cl : Cell} {ty : FieldType} {vs : List Value} {z : Int32} (A : Arr s s.heap a cl ty) (hl : cl.slots.size = z.toNatClampNeg) (hv : vs.length = z.toNatClampNeg) (H : HasL cl 0 vs) : ∃ kc, own_Ar s s.heap a kc ty vs := ⟨_, cl, A, rfl, own_toList (hl.trans hv.symm) H⟩
theorem d1_0 : decode prog_73_method_5_code 0 = .ok (.iload_n 0, 1) := by decide +kernel
theorem d1_1 : decode prog_73_method_5_code 1 = .ok (.ifCond .lt 19, 3) := by decide +kernel
theorem d1_4 : decode prog_73_method_5_code 4 = .ok (.iload_n 0, 1) := by decide +kernel
theorem d1_5 : decode prog_73_method_5_code 5 = .ok (.getstatic 48, 3) := by decide +kernel
theorem d1_8 : decode prog_73_method_5_code 8 = .ok (.arraylength, 1) := by decide +kernel
theorem d1_9 : decode prog_73_method_5_code 9 = .ok (.if_icmp .ge 11, 3) := by decide +kernel
theorem d1_12 : decode prog_73_method_5_code 12 = .ok (.getstatic 48, 3) := by decide +kernel
theorem d1_15 : decode prog_73_method_5_code 15 = .ok (.iload_n 0, 1) := by decide +kernel
theorem d1_16 : decode prog_73_method_5_code 16 = .ok (.aaload, 1) := by decide +kernel
theorem d1_17 : decode prog_73_method_5_code 17 = .ok (.goto 4, 3) := by decide +kernel
theorem d1_20 : decode prog_73_method_5_code 20 = .ok (.aconst_null, 1) := by decide +kernel
theorem d1_21 : decode prog_73_method_5_code 21 = .ok (.areturn, 1) := by decide +kernel
theorem d2_0 : decode method_2_code 0 = .ok (.iload_n 0, 1) := by decide +kernel
theorem d2_1 : decode method_2_code 1 = .ok (.ifCond .ne 7, 3) := by decide +kernel
theorem d2_4 : decode method_2_code 4 = .ok (.getstatic 7, 3) := by decide +kernel
theorem d2_7 : decode method_2_code 7 = .ok (.areturn, 1) := by decide +kernel
theorem d2_8 : decode method_2_code 8 = .ok (.iload_n 0, 1) := by decide +kernel
theorem d2_9 : decode method_2_code 9 = .ok (.iconst 1, 1) := by decide +kernel
theorem d2_10 : decode method_2_code 10 = .ok (.if_icmp .ne 7, 3) := by decide +kernel
theorem d2_13 : decode method_2_code 13 = .ok (.getstatic 13, 3) := by decide +kernel
theorem d2_16 : decode method_2_code 16 = .ok (.areturn, 1) := by decide +kernel
theorem d2_17 : decode method_2_code 17 = .ok (.iload_n 0, 1) := by decide +kernel
theorem d2_18 : decode method_2_code 18 = .ok (.iconst 2, 1) := by decide +kernel
theorem d2_19 : decode method_2_code 19 = .ok (.if_icmp .ne 7, 3) := by decide +kernel
theorem d2_22 : decode method_2_code 22 = .ok (.getstatic 16, 3) := by decide +kernel
theorem d2_25 : decode method_2_code 25 = .ok (.areturn, 1) := by decide +kernel
theorem d2_26 : decode method_2_code 26 = .ok (.iload_n 0, 1) := by decide +kernel
theorem d2_27 : decode method_2_code 27 = .ok (.iconst 3, 1) := by decide +kernel
theorem d2_28 : decode method_2_code 28 = .ok (.if_icmp .ne 7, 3) := by decide +kernel
theorem d2_31 : decode method_2_code 31 = .ok (.getstatic 19, 3) := by decide +kernel
theorem d2_34 : decode method_2_code 34 = .ok (.areturn, 1) := by decide +kernel
theorem d2_35 : decode method_2_code 35 = .ok (.iload_n 0, 1) := by decide +kernel
theorem d2_36 : decode method_2_code 36 = .ok (.iconst 4, 1) := by decide +kernel
theorem d2_37 : decode method_2_code 37 = .ok (.if_icmp .ne 7, 3) := by decide +kernel
theorem d2_40 : decode method_2_code 40 = .ok (.getstatic 22, 3) := by decide +kernel
theorem d2_43 : decode method_2_code 43 = .ok (.areturn, 1) := by decide +kernel
theorem d2_44 : decode method_2_code 44 = .ok (.iload_n 0, 1) := by decide +kernel
theorem d2_45 : decode method_2_code 45 = .ok (.iconst 5, 1) := by decide +kernel
theorem d2_46 : decode method_2_code 46 = .ok (.if_icmp .ne 7, 3) := by decide +kernel
theorem d2_49 : decode method_2_code 49 = .ok (.getstatic 25, 3) := by decide +kernel
theorem d2_52 : decode method_2_code 52 = .ok (.areturn, 1) := by decide +kernel
theorem d2_53 : decode method_2_code 53 = .ok (.iload_n 0, 1) := by decide +kernel
theorem d2_54 : decode method_2_code 54 = .ok (.bipush 6, 2) := by decide +kernel
theorem d2_56 : decode method_2_code 56 = .ok (.if_icmp .ne 7, 3) := by decide +kernel
theorem d2_59 : decode method_2_code 59 = .ok (.getstatic 28, 3) := by decide +kernel
theorem d2_62 : decode method_2_code 62 = .ok (.areturn, 1) := by decide +kernel
theorem d2_63 : decode method_2_code 63 = .ok (.aconst_null, 1) := by decide +kernel
theorem d2_64 : decode method_2_code 64 = .ok (.areturn, 1) := by decide +kernel
theorem d3_0 : decode prog_73_method_4_code 0 = .ok (.aload_n 0, 1) := by decide +kernel
theorem d3_1 : decode prog_73_method_4_code 1 = .ok (.getfield 44, 3) := by decide +kernel
theorem d3_4 : decode prog_73_method_4_code 4 = .ok (.ireturn, 1) := by decide +kernel
theorem own_pn0 : plainFor x = true := by first | exact plainFor_of_name (by first | (simp [plainName, overriddenIn]; done) | decide +kernel) | decide +kernel
theorem own_pn1 : plainFor (⟨"com/example/reins_for_requests/reinsforrequests/cluster/TokenProtocol$Status", "of", "(B)Lcom/example/reins_for_requests/reinsforrequests/cluster/TokenProtocol$Status;"⟩ : MethodName) = true := by first | exact plainFor_of_name (by first | (simp [plainName, overriddenIn]; done) | decide +kernel) | decide +kernel
theorem own_pn2 : plainFor (⟨"com/example/reins_for_requests/reinsforrequests/cluster/StatusOfPinLaw", "expected", "(B)Lcom/example/reins_for_requests/reinsforrequests/cluster/TokenProtocol$Status;"⟩ : MethodName) = true := by first | exact plainFor_of_name (by first | (simp [plainName, overriddenIn]; done) | decide +kernel) | decide +kernel
theorem own_pn3 : plainFor (⟨"com/example/reins_for_requests/reinsforrequests/cluster/TokenProtocol$Status", "code", "()B"⟩ : MethodName) = true := by first | exact plainFor_of_name (by first | (simp [plainName, overriddenIn]; done) | decide +kernel) | decide +kernel
def Hyp (Z : State) (w : Nat → Addr) : Prop :=
  Sta Z Z.heap "com/example/reins_for_requests/reinsforrequests/cluster/TokenProtocol$Status" "OK" "Lcom/example/reins_for_requests/reinsforrequests/cluster/TokenProtocol$Status;" (.ref (w 0)) ∧
  Exa Z Z.heap (w 0) "com/example/reins_for_requests/reinsforrequests/cluster/TokenProtocol$Status" ∧
  Fld Z Z.heap (w 0) "com/example/reins_for_requests/reinsforrequests/cluster/TokenProtocol$Status" "code" "B" (.int (0 : Int32)) ∧
  Sta Z Z.heap "com/example/reins_for_requests/reinsforrequests/cluster/TokenProtocol$Status" "BLOCKED" "Lcom/example/reins_for_requests/reinsforrequests/cluster/TokenProtocol$Status;" (.ref (w 1)) ∧
  Exa Z Z.heap (w 1) "com/example/reins_for_requests/reinsforrequests/cluster/TokenProtocol$Status" ∧
  Fld Z Z.heap (w 1) "com/example/reins_for_requests/reinsforrequests/cluster/TokenProtocol$Status" "code" "B" (.int (1 : Int32)) ∧
  Sta Z Z.heap "com/example/reins_for_requests/reinsforrequests/cluster/TokenProtocol$Status" "SHOULD_WAIT" "Lcom/example/reins_for_requests/reinsforrequests/cluster/TokenProtocol$Status;" (.ref (w 2)) ∧
  Exa Z Z.heap (w 2) "com/example/reins_for_requests/reinsforrequests/cluster/TokenProtocol$Status" ∧
  Fld Z Z.heap (w 2) "com/example/reins_for_requests/reinsforrequests/cluster/TokenProtocol$Status" "code" "B" (.int (2 : Int32)) ∧
  Sta Z Z.heap "com/example/reins_for_requests/reinsforrequests/cluster/TokenProtocol$Status" "NO_RULE" "Lcom/example/reins_for_requests/reinsforrequests/cluster/TokenProtocol$Status;" (.ref (w 3)) ∧
  Exa Z Z.heap (w 3) "com/example/reins_for_requests/reinsforrequests/cluster/TokenProtocol$Status" ∧
  Fld Z Z.heap (w 3) "com/example/reins_for_requests/reinsforrequests/cluster/TokenProtocol$Status" "code" "B" (.int (3 : Int32)) ∧
  Sta Z Z.heap "com/example/reins_for_requests/reinsforrequests/cluster/TokenProtocol$Status" "BAD_REQUEST" "Lcom/example/reins_for_requests/reinsforrequests/cluster/TokenProtocol$Status;" (.ref (w 4)) ∧
  Exa Z Z.heap (w 4) "com/example/reins_for_requests/reinsforrequests/cluster/TokenProtocol$Status" ∧
  Fld Z Z.heap (w 4) "com/example/reins_for_requests/reinsforrequests/cluster/TokenProtocol$Status" "code" "B" (.int (4 : Int32)) ∧
  Sta Z Z.heap "com/example/reins_for_requests/reinsforrequests/cluster/TokenProtocol$Status" "TOO_MANY_REQUESTS" "Lcom/example/reins_for_requests/reinsforrequests/cluster/TokenProtocol$Status;" (.ref (w 5)) ∧
  Exa Z Z.heap (w 5) "com/example/reins_for_requests/reinsforrequests/cluster/TokenProtocol$Status" ∧
  Fld Z Z.heap (w 5) "com/example/reins_for_requests/reinsforrequests/cluster/TokenProtocol$Status" "code" "B" (.int (5 : Int32)) ∧
  Sta Z Z.heap "com/example/reins_for_requests/reinsforrequests/cluster/TokenProtocol$Status" "FAIL" "Lcom/example/reins_for_requests/reinsforrequests/cluster/TokenProtocol$Status;" (.ref (w 6)) ∧
  Exa Z Z.heap (w 6) "com/example/reins_for_requests/reinsforrequests/cluster/TokenProtocol$Status" ∧
  Fld Z Z.heap (w 6) "com/example/reins_for_requests/reinsforrequests/cluster/TokenProtocol$Status" "code" "B" (.int (6 : Int32)) ∧
  Sta Z Z.heap "com/example/reins_for_requests/reinsforrequests/cluster/TokenProtocol$Status" "BY_CODE" "[Lcom/example/reins_for_requests/reinsforrequests/cluster/TokenProtocol$Status;" (.ref (w 7)) ∧
  (∃ kc, own_Ar Z Z.heap (w 7) kc (.object "com/example/reins_for_requests/reinsforrequests/cluster/TokenProtocol$Status") ([.ref (w 0), .ref (w 1), .ref (w 2), .ref (w 3), .ref (w 4), .ref (w 5), .ref (w 6)]))
theorem own_cases7 {i : Int32} (h0 : 0 ≤ i.toInt) (h1 : i.toInt < 7) : i = 0 ∨ i = 1 ∨ i = 2 ∨ i = 3 ∨ i = 4 ∨ i = 5 ∨ i = 6 := by
  have h : i.toInt = 0 ∨ i.toInt = 1 ∨ i.toInt = 2 ∨ i.toInt = 3 ∨ i.toInt = 4 ∨ i.toInt = 5 ∨ i.toInt = 6 := by omega
  rcases h with h | h | h | h | h | h | h <;> simp [← Int32.toInt_inj, h]
def own_of (i : Int32) (w : Nat → Addr) : Value := if i < 0 then .null else if i < 7 then ([.ref (w 0), .ref (w 1), .ref (w 2), .ref (w 3), .ref (w 4), .ref (w 5), .ref (w 6)] : List Value).getD i.toNatClampNeg .null else .null
theorem own_of_ref (i : Int32) (w : Nat → Addr) : (own_of i w).isRef = true := by
  unfold own_of
  split
  · rfl
  · split
    · rename_i z1 z2
      rw [Int32.lt_iff_toInt_lt] at z1 z2
      have y1 : (0 : Int32).toInt = 0 := by decide
      have y2 : (7 : Int32).toInt = 7 := by decide
      have hc := own_cases7 (i := i) (by omega) (by omega)
      rcases hc with rfl | rfl | rfl | rfl | rfl | rfl | rfl <;> rfl
    · rfl
def own_exp (c : Int32) (w : Nat → Addr) : Value := if c = 0 then .ref (w 0) else if c = 1 then .ref (w 1) else if c = 2 then .ref (w 2) else if c = 3 then .ref (w 3) else if c = 4 then .ref (w 4) else if c = 5 then .ref (w 5) else if c = 6 then .ref (w 6) else .null
theorem own_exp_ref (c : Int32) (w : Nat → Addr) : (own_exp c w).isRef = true := by
  unfold own_exp
  exact own_ite_ref rfl (own_ite_ref rfl (own_ite_ref rfl (own_ite_ref rfl (own_ite_ref rfl (own_ite_ref rfl (own_ite_ref rfl (rfl)))))))
theorem own_of_exp (c : Int32) (w : Nat → Addr) : own_of c w = own_exp c w := by
  have y1 : (0 : Int32).toInt = 0 := by decide
  have y2 : (7 : Int32).toInt = 7 := by decide
  by_cases z1 : c < 0
  · have hn : ∀ k : Int32, 0 ≤ k.toInt → ¬ c = k := fun k hk z => by subst z; rw [Int32.lt_iff_toInt_lt] at z1; omega
    simp [own_of, own_exp, z1, hn 0 (by decide), hn 1 (by decide), hn 2 (by decide), hn 3 (by decide), hn 4 (by decide), hn 5 (by decide), hn 6 (by decide)]
  · by_cases z2 : c < 7
    · rw [Int32.lt_iff_toInt_lt] at z1 z2
      have hc := own_cases7 (i := c) (by omega) (by omega)
      rcases hc with rfl | rfl | rfl | rfl | rfl | rfl | rfl <;> rfl
    · have hn : ∀ k : Int32, k.toInt < 7 → ¬ c = k := fun k hk z => by subst z; rw [Int32.lt_iff_toInt_lt] at z2; omega
      simp [own_of, own_exp, z1, z2, hn 0 (by decide), hn 1 (by decide), hn 2 (by decide), hn 3 (by decide), hn 4 (by decide), hn 5 (by decide), hn 6 (by decide)]
def own_pk (i : Int32) (w : Nat → Addr) : Addr := if i = 0 then w 0 else if i = 1 then w 1 else if i = 2 then w 2 else if i = 3 then w 3 else if i = 4 then w 4 else if i = 5 then w 5 else if i = 6 then w 6 else w 0
set_option maxRecDepth 65536 in
set_option maxHeartbeats 4000000 in
theorem rm1 (l : Launch) (Z : State) (a0 : Array Value) (hw : ∀ d ∈ tables_1, d.before a0 Z = true) (ws : List Jvm.Cond) (w : Nat → Addr) (H : Hyp Z w) (i : Int32) (h0 : Heap) (Ex0 : Ext Z.heap h0)  :
    own_Met l Z (⟨"com/example/reins_for_requests/reinsforrequests/cluster/TokenProtocol$Status", "of", "(B)Lcom/example/reins_for_requests/reinsforrequests/cluster/TokenProtocol$Status;"⟩ : MethodName) prog_73_method_5_code 1 (some (.object "com/example/reins_for_requests/reinsforrequests/cluster/TokenProtocol$Status")) ws ({ frames := 0, cells := 0, slots := 0, locals := 0 } : Room) #[(.int i)] h0 (own_P Z h0 (own_of i w)) := by
  obtain ⟨sS0, sE0, sF0_code, sS1, sE1, sF1_code, sS2, sE2, sF2_code, sS3, sE3, sF3_code, sS4, sE4, sF4_code, sS5, sE5, sF5_code, sS6, sE6, sF6_code, SB, HB⟩ := H
  obtain ⟨kcB, AB⟩ := HB
  refine own_body (ls := #[.val (.int i)]) own_pn1 (fun m => by first | (simp [entryFrame, mkF, argsToLocals, Value.category]; done) | rfl) ?_
  intro p e s m below meth c T0 hZ hx hby hml' hown' hnm hret' hlk X0 e0
  have hml : c.maxLocals = 1 := hml'
  have hown : s.vm.findClass "com/example/reins_for_requests/reinsforrequests/cluster/TokenProtocol$Status" = some m.cls := hown'
  have hret : meth.sig.returnType = (some (.object "com/example/reins_for_requests/reinsforrequests/cluster/TokenProtocol$Status")) := hret'
  have N0 := Fr.nil Z.heap.size
  refine own_step (S' := T0.setTop (mkF m 1 #[.val (.int i)] [(.int i)])) (fun t k => XS.iloadN X0.here hx rfl (hb hby d1_0) rfl k) ?_
  by_cases q1 : i < (0 : Int32)
  ·
    refine own_step (S' := T0.setTop (mkF m 20 #[.val (.int i)] [])) (fun t k => XS.ifYes X0.here hx rfl (pc0 := 1) (pc' := 20) rfl (hb hby d1_1) rfl ((if0 _ _).trans (tlt (q1 : i < (0 : Int32))).1) (by decide) (by decide) k) ?_
    refine own_step (S' := T0.setTop (mkF m 21 #[.val (.int i)] [.null])) (fun t k => XS.aconstNull X0.here hx rfl (hb hby d1_20) k) ?_
    exact own_retA X0 hx hlk hret rfl rfl (hb hby d1_21) (⟨by simp only [own_of]; simp [q1], N0, e0⟩) (by decide) (by decide)
  ·
    refine own_step (S' := T0.setTop (mkF m 4 #[.val (.int i)] [])) (fun t k => XS.ifNo X0.here hx rfl (hb hby d1_1) rfl ((if0 _ _).trans (flt (q1 : ¬ (i < (0 : Int32)))).1) k) ?_
    refine own_step (S' := T0.setTop (mkF m 5 #[.val (.int i)] [(.int i)])) (fun t k => XS.iloadN X0.here hx rfl (hb hby d1_4) rfl k) ?_
    obtain ⟨T2, X2, e2, st2⟩ := getS2 X0 hx hZ hown (host := "") (Or.inl (hw _ (List.mem_of_getElem? (i := 4) rfl))) Via.refl e0 (SB.ext Ex0) (g := (mkF m 5 #[.val (.int i)] [(.int i)])) rfl (hb hby d1_5)
    refine own_step (S' := T2.setTop (mkF m 8 #[.val (.int i)] [(.ref (w 7)), (.int i)])) (fun t k => st2 t k) ?_
    refine own_step (S' := T2.setTop (mkF m 9 #[.val (.int i)] [(.int (7 : Int32)), (.int i)])) (fun t k => own_alen X2 hx hZ e2 (own_Ar.ext Ex0 AB) (z := (7 : Int32)) rfl (g := (mkF m 8 #[.val (.int i)] [(.ref (w 7)), (.int i)])) rfl rfl (hb hby d1_8) t k) ?_
    by_cases q3 : i < (7 : Int32)
    ·
      refine own_step (S' := T2.setTop (mkF m 12 #[.val (.int i)] [])) (fun t k => XS.icmpNo X2.here hx rfl (hb hby d1_9) rfl (tlt (q3 : i < (7 : Int32))).2.1 k) ?_
      obtain ⟨T4, X4, e4, st4⟩ := getS2 X2 hx hZ hown (host := "") (Or.inl (hw _ (List.mem_of_getElem? (i := 4) rfl))) Via.refl e2 (SB.ext Ex0) (g := (mkF m 12 #[.val (.int i)] [])) rfl (hb hby d1_12)
      refine own_step (S' := T4.setTop (mkF m 15 #[.val (.int i)] [(.ref (w 7))])) (fun t k => st4 t k) ?_
      refine own_step (S' := T4.setTop (mkF m 16 #[.val (.int i)] [(.int i), (.ref (w 7))])) (fun t k => XS.iloadN X4.here hx rfl (hb hby d1_15) rfl k) ?_
      have hr : 0 ≤ i.toInt ∧ i.toInt < 7 := by
        have z1 := q1
        have z2 := q3
        rw [Int32.lt_iff_toInt_lt] at z1 z2
        have y1 : (0 : Int32).toInt = 0 := by decide
        have y2 : (7 : Int32).toInt = 7 := by decide
        omega
      have hc := own_cases7 hr.1 hr.2
      have hat : ([.ref (w 0), .ref (w 1), .ref (w 2), .ref (w 3), .ref (w 4), .ref (w 5), .ref (w 6)] : List Value)[i.toNatClampNeg]? = some (([.ref (w 0), .ref (w 1), .ref (w 2), .ref (w 3), .ref (w 4), .ref (w 5), .ref (w 6)] : List Value).getD i.toNatClampNeg .null) := by
        rcases hc with rfl | rfl | rfl | rfl | rfl | rfl | rfl <;> rfl
      have hir : (([.ref (w 0), .ref (w 1), .ref (w 2), .ref (w 3), .ref (w 4), .ref (w 5), .ref (w 6)] : List Value).getD i.toNatClampNeg .null).isRef = true := by
        rcases hc with rfl | rfl | rfl | rfl | rfl | rfl | rfl <;> rfl
      refine own_step (S' := T4.setTop (mkF m 17 #[.val (.int i)] [(([.ref (w 0), .ref (w 1), .ref (w 2), .ref (w 3), .ref (w 4), .ref (w 5), .ref (w 6)] : List Value).getD i.toNatClampNeg .null)])) (fun t k => own_aaload X4 hx hZ e4 (own_Ar.ext Ex0 AB) rfl (j := i) q1 hat (g := (mkF m 16 #[.val (.int i)] [(.int i), (.ref (w 7))])) rfl rfl (hb hby d1_16) t k) ?_
      refine own_step (S' := T4.setTop (mkF m 21 #[.val (.int i)] [(([.ref (w 0), .ref (w 1), .ref (w 2), .ref (w 3), .ref (w 4), .ref (w 5), .ref (w 6)] : List Value).getD i.toNatClampNeg .null)])) (fun t k => XS.goto X4.here hx rfl (pc0 := 17) (pc' := 21) rfl (hb hby d1_17) (by decide) (by decide) k) ?_
      exact own_retA X4 hx hlk hret rfl hir (hb hby d1_21) (⟨by simp only [own_of, q1, q3, if_true, if_false], N0, e4⟩) (by decide) (by decide)
    ·
      refine own_step (S' := T2.setTop (mkF m 20 #[.val (.int i)] [])) (fun t k => XS.icmpYes X2.here hx rfl (pc0 := 9) (pc' := 20) rfl (hb hby d1_9) rfl (flt (q3 : ¬ (i < (7 : Int32)))).2.1 (by decide) (by decide) k) ?_
      refine own_step (S' := T2.setTop (mkF m 21 #[.val (.int i)] [.null])) (fun t k => XS.aconstNull X2.here hx rfl (hb hby d1_20) k) ?_
      exact own_retA X2 hx hlk hret rfl rfl (hb hby d1_21) (⟨by simp only [own_of]; simp [q1, q3], N0, e2⟩) (by decide) (by decide)
set_option maxRecDepth 65536 in
set_option maxHeartbeats 4000000 in
theorem rm2 (l : Launch) (Z : State) (a0 : Array Value) (hw : ∀ d ∈ tables_1, d.before a0 Z = true) (ws : List Jvm.Cond) (w : Nat → Addr) (H : Hyp Z w) (ck : Int32) (h0 : Heap) (Ex0 : Ext Z.heap h0)  :
    own_Met l Z (⟨"com/example/reins_for_requests/reinsforrequests/cluster/StatusOfPinLaw", "expected", "(B)Lcom/example/reins_for_requests/reinsforrequests/cluster/TokenProtocol$Status;"⟩ : MethodName) method_2_code 1 (some (.object "com/example/reins_for_requests/reinsforrequests/cluster/TokenProtocol$Status")) ws ({ frames := 0, cells := 0, slots := 0, locals := 0 } : Room) #[(.int ck)] h0 (own_P Z h0 (own_exp ck w)) := by
  obtain ⟨sS0, sE0, sF0_code, sS1, sE1, sF1_code, sS2, sE2, sF2_code, sS3, sE3, sF3_code, sS4, sE4, sF4_code, sS5, sE5, sF5_code, sS6, sE6, sF6_code, SB, HB⟩ := H
  refine own_body (ls := #[.val (.int ck)]) own_pn2 (fun m => by first | (simp [entryFrame, mkF, argsToLocals, Value.category]; done) | rfl) ?_
  intro p e s m below meth c T0 hZ hx hby hml' hown' hnm hret' hlk X0 e0
  have hml : c.maxLocals = 1 := hml'
  have hown : s.vm.findClass "com/example/reins_for_requests/reinsforrequests/cluster/StatusOfPinLaw" = some m.cls := hown'
  have hret : meth.sig.returnType = (some (.object "com/example/reins_for_requests/reinsforrequests/cluster/TokenProtocol$Status")) := hret'
  have N0 := Fr.nil Z.heap.size
  refine own_step (S' := T0.setTop (mkF m 1 #[.val (.int ck)] [(.int ck)])) (fun t k => XS.iloadN X0.here hx rfl (hb hby d2_0) rfl k) ?_
  by_cases q1 : ck = (0 : Int32)
  ·
    refine own_step (S' := T0.setTop (mkF m 4 #[.val (.int ck)] [])) (fun t k => XS.ifNo X0.here hx rfl (hb hby d2_1) rfl ((if0 _ _).trans (teq (q1 : ck = (0 : Int32))).2) k) ?_
    obtain ⟨T2, X2, e2, st2⟩ := getS2 X0 hx hZ hown (host := "") (Or.inl (hw _ (List.mem_of_getElem? (i := 11) rfl))) Via.refl e0 (sS0.ext Ex0) (g := (mkF m 4 #[.val (.int ck)] [])) rfl (hb hby d2_4)
    refine own_step (S' := T2.setTop (mkF m 7 #[.val (.int ck)] [(.ref (w 0))])) (fun t k => st2 t k) ?_
    exact own_retA X2 hx hlk hret rfl rfl (hb hby d2_7) (⟨by unfold own_exp; rw [if_pos q1], N0, e2⟩) (by decide) (by decide)
  ·
    refine own_step (S' := T0.setTop (mkF m 8 #[.val (.int ck)] [])) (fun t k => XS.ifYes X0.here hx rfl (pc0 := 1) (pc' := 8) rfl (hb hby d2_1) rfl ((if0 _ _).trans (feq (q1 : ¬ (ck = (0 : Int32)))).2) (by decide) (by decide) k) ?_
    refine own_step (S' := T0.setTop (mkF m 9 #[.val (.int ck)] [(.int ck)])) (fun t k => XS.iloadN X0.here hx rfl (hb hby d2_8) rfl k) ?_
    refine own_step (S' := T0.setTop (mkF m 10 #[.val (.int ck)] [(.int (1 : Int32)), (.int ck)])) (fun t k => XS.iconst X0.here hx rfl (hb hby d2_9) k) ?_
    by_cases q3 : ck = (1 : Int32)
    ·
      refine own_step (S' := T0.setTop (mkF m 13 #[.val (.int ck)] [])) (fun t k => XS.icmpNo X0.here hx rfl (hb hby d2_10) rfl (teq (q3 : ck = (1 : Int32))).2 k) ?_
      obtain ⟨T4, X4, e4, st4⟩ := getS2 X0 hx hZ hown (host := "") (Or.inl (hw _ (List.mem_of_getElem? (i := 24) rfl))) Via.refl e0 (sS1.ext Ex0) (g := (mkF m 13 #[.val (.int ck)] [])) rfl (hb hby d2_13)
      refine own_step (S' := T4.setTop (mkF m 16 #[.val (.int ck)] [(.ref (w 1))])) (fun t k => st4 t k) ?_
      exact own_retA X4 hx hlk hret rfl rfl (hb hby d2_16) (⟨by unfold own_exp; rw [if_neg q1, if_pos q3], N0, e4⟩) (by decide) (by decide)
    ·
      refine own_step (S' := T0.setTop (mkF m 17 #[.val (.int ck)] [])) (fun t k => XS.icmpYes X0.here hx rfl (pc0 := 10) (pc' := 17) rfl (hb hby d2_10) rfl (feq (q3 : ¬ (ck = (1 : Int32)))).2 (by decide) (by decide) k) ?_
      refine own_step (S' := T0.setTop (mkF m 18 #[.val (.int ck)] [(.int ck)])) (fun t k => XS.iloadN X0.here hx rfl (hb hby d2_17) rfl k) ?_
      refine own_step (S' := T0.setTop (mkF m 19 #[.val (.int ck)] [(.int (2 : Int32)), (.int ck)])) (fun t k => XS.iconst X0.here hx rfl (hb hby d2_18) k) ?_
      by_cases q5 : ck = (2 : Int32)
      ·
        refine own_step (S' := T0.setTop (mkF m 22 #[.val (.int ck)] [])) (fun t k => XS.icmpNo X0.here hx rfl (hb hby d2_19) rfl (teq (q5 : ck = (2 : Int32))).2 k) ?_
        obtain ⟨T6, X6, e6, st6⟩ := getS2 X0 hx hZ hown (host := "") (Or.inl (hw _ (List.mem_of_getElem? (i := 22) rfl))) Via.refl e0 (sS2.ext Ex0) (g := (mkF m 22 #[.val (.int ck)] [])) rfl (hb hby d2_22)
        refine own_step (S' := T6.setTop (mkF m 25 #[.val (.int ck)] [(.ref (w 2))])) (fun t k => st6 t k) ?_
        exact own_retA X6 hx hlk hret rfl rfl (hb hby d2_25) (⟨by unfold own_exp; rw [if_neg q1, if_neg q3, if_pos q5], N0, e6⟩) (by decide) (by decide)
      ·
        refine own_step (S' := T0.setTop (mkF m 26 #[.val (.int ck)] [])) (fun t k => XS.icmpYes X0.here hx rfl (pc0 := 19) (pc' := 26) rfl (hb hby d2_19) rfl (feq (q5 : ¬ (ck = (2 : Int32)))).2 (by decide) (by decide) k) ?_
        refine own_step (S' := T0.setTop (mkF m 27 #[.val (.int ck)] [(.int ck)])) (fun t k => XS.iloadN X0.here hx rfl (hb hby d2_26) rfl k) ?_
        refine own_step (S' := T0.setTop (mkF m 28 #[.val (.int ck)] [(.int (3 : Int32)), (.int ck)])) (fun t k => XS.iconst X0.here hx rfl (hb hby d2_27) k) ?_
        by_cases q7 : ck = (3 : Int32)
        ·
          refine own_step (S' := T0.setTop (mkF m 31 #[.val (.int ck)] [])) (fun t k => XS.icmpNo X0.here hx rfl (hb hby d2_28) rfl (teq (q7 : ck = (3 : Int32))).2 k) ?_
          obtain ⟨T8, X8, e8, st8⟩ := getS2 X0 hx hZ hown (host := "") (Or.inl (hw _ (List.mem_of_getElem? (i := 20) rfl))) Via.refl e0 (sS3.ext Ex0) (g := (mkF m 31 #[.val (.int ck)] [])) rfl (hb hby d2_31)
          refine own_step (S' := T8.setTop (mkF m 34 #[.val (.int ck)] [(.ref (w 3))])) (fun t k => st8 t k) ?_
          exact own_retA X8 hx hlk hret rfl rfl (hb hby d2_34) (⟨by unfold own_exp; rw [if_neg q1, if_neg q3, if_neg q5, if_pos q7], N0, e8⟩) (by decide) (by decide)
        ·
          refine own_step (S' := T0.setTop (mkF m 35 #[.val (.int ck)] [])) (fun t k => XS.icmpYes X0.here hx rfl (pc0 := 28) (pc' := 35) rfl (hb hby d2_28) rfl (feq (q7 : ¬ (ck = (3 : Int32)))).2 (by decide) (by decide) k) ?_
          refine own_step (S' := T0.setTop (mkF m 36 #[.val (.int ck)] [(.int ck)])) (fun t k => XS.iloadN X0.here hx rfl (hb hby d2_35) rfl k) ?_
          refine own_step (S' := T0.setTop (mkF m 37 #[.val (.int ck)] [(.int (4 : Int32)), (.int ck)])) (fun t k => XS.iconst X0.here hx rfl (hb hby d2_36) k) ?_
          by_cases q9 : ck = (4 : Int32)
          ·
            refine own_step (S' := T0.setTop (mkF m 40 #[.val (.int ck)] [])) (fun t k => XS.icmpNo X0.here hx rfl (hb hby d2_37) rfl (teq (q9 : ck = (4 : Int32))).2 k) ?_
            obtain ⟨T10, X10, e10, st10⟩ := getS2 X0 hx hZ hown (host := "") (Or.inl (hw _ (List.mem_of_getElem? (i := 30) rfl))) Via.refl e0 (sS4.ext Ex0) (g := (mkF m 40 #[.val (.int ck)] [])) rfl (hb hby d2_40)
            refine own_step (S' := T10.setTop (mkF m 43 #[.val (.int ck)] [(.ref (w 4))])) (fun t k => st10 t k) ?_
            exact own_retA X10 hx hlk hret rfl rfl (hb hby d2_43) (⟨by unfold own_exp; rw [if_neg q1, if_neg q3, if_neg q5, if_neg q7, if_pos q9], N0, e10⟩) (by decide) (by decide)
          ·
            refine own_step (S' := T0.setTop (mkF m 44 #[.val (.int ck)] [])) (fun t k => XS.icmpYes X0.here hx rfl (pc0 := 37) (pc' := 44) rfl (hb hby d2_37) rfl (feq (q9 : ¬ (ck = (4 : Int32)))).2 (by decide) (by decide) k) ?_
            refine own_step (S' := T0.setTop (mkF m 45 #[.val (.int ck)] [(.int ck)])) (fun t k => XS.iloadN X0.here hx rfl (hb hby d2_44) rfl k) ?_
            refine own_step (S' := T0.setTop (mkF m 46 #[.val (.int ck)] [(.int (5 : Int32)), (.int ck)])) (fun t k => XS.iconst X0.here hx rfl (hb hby d2_45) k) ?_
            by_cases q11 : ck = (5 : Int32)
            ·
              refine own_step (S' := T0.setTop (mkF m 49 #[.val (.int ck)] [])) (fun t k => XS.icmpNo X0.here hx rfl (hb hby d2_46) rfl (teq (q11 : ck = (5 : Int32))).2 k) ?_
              obtain ⟨T12, X12, e12, st12⟩ := getS2 X0 hx hZ hown (host := "") (Or.inl (hw _ (List.mem_of_getElem? (i := 28) rfl))) Via.refl e0 (sS5.ext Ex0) (g := (mkF m 49 #[.val (.int ck)] [])) rfl (hb hby d2_49)
              refine own_step (S' := T12.setTop (mkF m 52 #[.val (.int ck)] [(.ref (w 5))])) (fun t k => st12 t k) ?_
              exact own_retA X12 hx hlk hret rfl rfl (hb hby d2_52) (⟨by unfold own_exp; rw [if_neg q1, if_neg q3, if_neg q5, if_neg q7, if_neg q9, if_pos q11], N0, e12⟩) (by decide) (by decide)
            ·
              refine own_step (S' := T0.setTop (mkF m 53 #[.val (.int ck)] [])) (fun t k => XS.icmpYes X0.here hx rfl (pc0 := 46) (pc' := 53) rfl (hb hby d2_46) rfl (feq (q11 : ¬ (ck = (5 : Int32)))).2 (by decide) (by decide) k) ?_
              refine own_step (S' := T0.setTop (mkF m 54 #[.val (.int ck)] [(.int ck)])) (fun t k => XS.iloadN X0.here hx rfl (hb hby d2_53) rfl k) ?_
              refine own_step (S' := T0.setTop (mkF m 56 #[.val (.int ck)] [(.int (6 : Int32)), (.int ck)])) (fun t k => XS.bipush X0.here hx rfl (hb hby d2_54) k) ?_
              by_cases q13 : ck = (6 : Int32)
              ·
                refine own_step (S' := T0.setTop (mkF m 59 #[.val (.int ck)] [])) (fun t k => XS.icmpNo X0.here hx rfl (hb hby d2_56) rfl (teq (q13 : ck = (6 : Int32))).2 k) ?_
                obtain ⟨T14, X14, e14, st14⟩ := getS2 X0 hx hZ hown (host := "") (Or.inl (hw _ (List.mem_of_getElem? (i := 26) rfl))) Via.refl e0 (sS6.ext Ex0) (g := (mkF m 59 #[.val (.int ck)] [])) rfl (hb hby d2_59)
                refine own_step (S' := T14.setTop (mkF m 62 #[.val (.int ck)] [(.ref (w 6))])) (fun t k => st14 t k) ?_
                exact own_retA X14 hx hlk hret rfl rfl (hb hby d2_62) (⟨by unfold own_exp; rw [if_neg q1, if_neg q3, if_neg q5, if_neg q7, if_neg q9, if_neg q11, if_pos q13], N0, e14⟩) (by decide) (by decide)
              ·
                refine own_step (S' := T0.setTop (mkF m 63 #[.val (.int ck)] [])) (fun t k => XS.icmpYes X0.here hx rfl (pc0 := 56) (pc' := 63) rfl (hb hby d2_56) rfl (feq (q13 : ¬ (ck = (6 : Int32)))).2 (by decide) (by decide) k) ?_
                refine own_step (S' := T0.setTop (mkF m 64 #[.val (.int ck)] [.null])) (fun t k => XS.aconstNull X0.here hx rfl (hb hby d2_63) k) ?_
                exact own_retA X0 hx hlk hret rfl rfl (hb hby d2_64) (⟨by unfold own_exp; rw [if_neg q1, if_neg q3, if_neg q5, if_neg q7, if_neg q9, if_neg q11, if_neg q13], N0, e0⟩) (by decide) (by decide)
set_option maxRecDepth 65536 in
set_option maxHeartbeats 4000000 in
theorem rm3 (l : Launch) (Z : State) (a0 : Array Value) (hw : ∀ d ∈ tables_1, d.before a0 Z = true) (ws : List Jvm.Cond) (a : Addr) (z : Int32) (h0 : Heap) (Ex0 : Ext Z.heap h0) (Fz : Fld Z Z.heap a "com/example/reins_for_requests/reinsforrequests/cluster/TokenProtocol$Status" "code" "B" (.int z)) (hz : narrow .byte (.int z) = .int z) :
    own_Met l Z (⟨"com/example/reins_for_requests/reinsforrequests/cluster/TokenProtocol$Status", "code", "()B"⟩ : MethodName) prog_73_method_4_code 1 (some .byte) ws ({ frames := 0, cells := 0, slots := 0, locals := 0 } : Room) #[(.ref a)] h0 (own_P Z h0 (.int z)) := by
  refine own_body (ls := #[.val (.ref a)]) own_pn3 (fun m => by first | (simp [entryFrame, mkF, argsToLocals, Value.category]; done) | rfl) ?_
  intro p e s m below meth c T0 hZ hx hby hml' hown' hnm hret' hlk X0 e0
  have hml : c.maxLocals = 1 := hml'
  have hown : s.vm.findClass "com/example/reins_for_requests/reinsforrequests/cluster/TokenProtocol$Status" = some m.cls := hown'
  have hret : meth.sig.returnType = (some .byte) := hret'
  have N0 := Fr.nil Z.heap.size
  refine own_step (S' := T0.setTop (mkF m 1 #[.val (.ref a)] [(.ref a)])) (fun t k => XS.aloadN X0.here hx rfl (hb hby d3_0) rfl rfl k) ?_
  obtain ⟨T1, X1, e1, st1⟩ := getF X0 hx hZ hown (host := "") (Or.inl (hw _ (List.mem_of_getElem? (i := 17) rfl))) Via.refl e0 (Fz.ext Ex0) (g := (mkF m 1 #[.val (.ref a)] [(.ref a)])) rfl rfl (hb hby d3_1)
  refine own_step (S' := T1.setTop (mkF m 4 #[.val (.ref a)] [(.int z)])) (fun t k => st1 t k) ?_
  exact own_retI (t := .byte) X1 hx hlk hret (Or.inr (Or.inr (Or.inl rfl))) hz (hb hby d3_4) (⟨rfl, N0, e1⟩) (by decide) (by decide)
set_option maxRecDepth 65536 in
set_option maxHeartbeats 4000000 in
theorem rm0 (l : Launch) (Z : State) (a0 : Array Value) (hw : ∀ d ∈ tables_1, d.before a0 Z = true) (ws : List Jvm.Cond) (w : Nat → Addr) (H : Hyp Z w) (p0 : Int32) (h0 : Heap) (Ex0 : Ext Z.heap h0)  :
    own_Met l Z x code maxLocals ret ws room_1 #[(.int p0)] h0 (fun v _ L => v = some (.int 1) ∧ Fr Z.heap.size L) := by
  have H0 := H
  obtain ⟨sS0, sE0, sF0_code, sS1, sE1, sF1_code, sS2, sE2, sF2_code, sS3, sE3, sF3_code, sS4, sE4, sF4_code, sS5, sE5, sF5_code, sS6, sE6, sF6_code, SB, HB⟩ := H0
  refine own_body (ls := #[.val (.int p0), .unset, .unset, .unset]) own_pn0 (fun m => by first | (simp [entryFrame, mkF, argsToLocals, Value.category, maxLocals]; done) | rfl) ?_
  intro p e s m below meth c T0 hZ hx hby hml' hown' hnm hret' hlk X0 e0
  have hml : c.maxLocals = 4 := hml'
  have hown : s.vm.findClass "com/example/reins_for_requests/reinsforrequests/cluster/StatusOfPinLaw" = some m.cls := hown'
  have hret : meth.sig.returnType = (some .boolean) := hret'
  have N0 := Fr.nil Z.heap.size
  refine own_step (S' := T0.setTop (mkF m 1 #[.val (.int p0), .unset, .unset, .unset] [(.int p0)])) (fun t k => XS.iloadN X0.here hx rfl (hb hby at_0) rfl k) ?_
  refine own_step (S' := T0.setTop (mkF m 2 #[.val (.int p0), .unset, .unset, .unset] [(.int (p0.toInt8.toInt32))])) (fun t k => XT.i2b X0.here hx rfl (hb hby at_1) rfl k) ?_
  refine own_step (S' := T0.setTop (mkF m 3 #[.val (.int p0), .val (.int (p0.toInt8.toInt32)), .unset, .unset] [])) (fun t k => XS.istoreN X0.here hx rfl (hb hby at_2) rfl (l' := #[.val (.int p0), .val (.int (p0.toInt8.toInt32)), .unset, .unset]) rfl k) ?_
  generalize hg_i : (p0.toInt8.toInt32) = i
  refine own_step (S' := T0.setTop (mkF m 4 #[.val (.int p0), .val (.int i), .unset, .unset] [(.int i)])) (fun t k => XS.iloadN X0.here hx rfl (hb hby at_3) rfl k) ?_
  obtain ⟨_, T1, Lq1, X1, ⟨rfl, Nq1, e1⟩, st1⟩ := own_callS X0 hx hZ hown (hw _ (List.mem_of_getElem? (i := 0) rfl)) (hw _ (List.mem_of_getElem? (i := 1) rfl)) (hw _ (List.mem_of_getElem? (i := 3) rfl)) (hw _ (List.mem_of_getElem? (i := 2) rfl)) (by decide) (argsL := [(.int i)]) (rest := []) (rm1 l Z a0 hw [] w H i h0 Ex0) (W := 0) (by decide) (by decide) e0 (g := (mkF m 4 #[.val (.int p0), .val (.int i), .unset, .unset] [(.int i)])) rfl (by rw [hml]; rfl) (lenOf own_pd0 rfl) rfl (by show 2 * 0 + _ ≤ _; exact Nat.le_of_eq rfl) (hb hby at_4) (by decide) (by decide)
  have N1 := Fr.app N0 Nq1
  refine own_step (S' := T1.setTop (mkF m 7 #[.val (.int p0), .val (.int i), .unset, .unset] [(own_of i w)])) (fun t k => st1 t k) ?_
  refine own_step (S' := T1.setTop (mkF m 8 #[.val (.int p0), .val (.int i), .val (own_of i w), .unset] [])) (fun t k => XS.astoreN X1.here hx rfl (hb hby at_7) rfl (own_of_ref i w) (l' := #[.val (.int p0), .val (.int i), .val (own_of i w), .unset]) (by rcases ref_cases (own_of_ref i w) with hh | ⟨_, hh⟩ <;> rw [hh] <;> rfl) k) ?_
  refine own_step (S' := T1.setTop (mkF m 9 #[.val (.int p0), .val (.int i), .val (own_of i w), .unset] [(own_of i w)])) (fun t k => XS.aloadN X1.here hx rfl (hb hby at_8) rfl (own_of_ref i w) k) ?_
  refine own_step (S' := T1.setTop (mkF m 10 #[.val (.int p0), .val (.int i), .val (own_of i w), .unset] [(.int i), (own_of i w)])) (fun t k => XS.iloadN X1.here hx rfl (hb hby at_9) rfl k) ?_
  obtain ⟨_, T2, Lq2, X2, ⟨rfl, Nq2, e2⟩, st2⟩ := own_callS X1 hx hZ hown (hw _ (List.mem_of_getElem? (i := 7) rfl)) (hw _ (List.mem_of_getElem? (i := 8) rfl)) (hw _ (List.mem_of_getElem? (i := 10) rfl)) (hw _ (List.mem_of_getElem? (i := 9) rfl)) (by decide) (argsL := [(.int i)]) (rest := [(own_of i w)]) (rm2 l Z a0 hw [] w H i h0 Ex0) (W := 1) (by decide) (by decide) e1 (g := (mkF m 10 #[.val (.int p0), .val (.int i), .val (own_of i w), .unset] [(.int i), (own_of i w)])) rfl (by rw [hml]; rfl) (lenOf own_pd0 rfl) rfl (by show 2 * 0 + (List.map (fun v => v.category) [(own_of i w)]).sum ≤ 1; simp [own_cat (own_of_ref i w)]) (hb hby at_10) (by decide) (by decide)
  have N2 := Fr.app N1 Nq2
  refine own_step (S' := T2.setTop (mkF m 13 #[.val (.int p0), .val (.int i), .val (own_of i w), .unset] [(own_exp i w), (own_of i w)])) (fun t k => st2 t k) ?_
  refine own_step (S' := T2.setTop (mkF m 16 #[.val (.int p0), .val (.int i), .val (own_of i w), .unset] [])) (fun t k => Jvm.RoadKit.acmp (g := (mkF m 13 #[.val (.int p0), .val (.int i), .val (own_of i w), .unset] [(own_exp i w), (own_of i w)])) X2 hx rfl (own_of_ref i w) (own_exp_ref i w) (pc0 := 13) (pc' := 16) (same := true) rfl (hb hby at_13) rfl (decide_eq_true ((own_of_exp _ _) : ((own_of i w) : Value) = (own_exp i w))) (by decide) (by decide) k) ?_
  refine own_step (S' := T2.setTop (mkF m 17 #[.val (.int p0), .val (.int i), .val (own_of i w), .unset] [(.int (1 : Int32))])) (fun t k => XS.iconst X2.here hx rfl (hb hby at_16) k) ?_
  refine own_step (S' := T2.setTop (mkF m 21 #[.val (.int p0), .val (.int i), .val (own_of i w), .unset] [(.int (1 : Int32))])) (fun t k => XS.goto X2.here hx rfl (pc0 := 17) (pc' := 21) rfl (hb hby at_17) (by decide) (by decide) k) ?_
  refine own_step (S' := T2.setTop (mkF m 22 #[.val (.int p0), .val (.int i), .val (own_of i w), .val (.int (1 : Int32))] [])) (fun t k => XS.istoreN X2.here hx rfl (hb hby at_21) rfl (l' := #[.val (.int p0), .val (.int i), .val (own_of i w), .val (.int (1 : Int32))]) rfl k) ?_
  refine own_step (S' := T2.setTop (mkF m 23 #[.val (.int p0), .val (.int i), .val (own_of i w), .val (.int (1 : Int32))] [(own_of i w)])) (fun t k => XS.aloadN X2.here hx rfl (hb hby at_22) rfl (own_of_ref i w) k) ?_
  by_cases hz : 0 ≤ i.toInt ∧ i.toInt < 7
  ·
    have hc := own_cases7 hz.1 hz.2
    have hv : own_of i w = .ref (own_pk i w) := by
      rcases hc with rfl | rfl | rfl | rfl | rfl | rfl | rfl <;> rfl
    have Ea : Exa Z Z.heap (own_pk i w) "com/example/reins_for_requests/reinsforrequests/cluster/TokenProtocol$Status" := by
      rcases hc with rfl | rfl | rfl | rfl | rfl | rfl | rfl
      · exact (sE0)
      · exact (sE1)
      · exact (sE2)
      · exact (sE3)
      · exact (sE4)
      · exact (sE5)
      · exact (sE6)
    have Fz : Fld Z Z.heap (own_pk i w) "com/example/reins_for_requests/reinsforrequests/cluster/TokenProtocol$Status" "code" "B" (.int i) := by
      rcases hc with rfl | rfl | rfl | rfl | rfl | rfl | rfl
      · exact (sF0_code)
      · exact (sF1_code)
      · exact (sF2_code)
      · exact (sF3_code)
      · exact (sF4_code)
      · exact (sF5_code)
      · exact (sF6_code)
    have hnz : narrow .byte (.int i) = .int i := by
      rcases hc with rfl | rfl | rfl | rfl | rfl | rfl | rfl <;> rfl
    rw [hv]
    refine own_step (S' := T2.setTop (mkF m 26 #[.val (.int p0), .val (.int i), .val (.ref (own_pk i w)), .val (.int (1 : Int32))] [])) (fun t k => XS.ifnullNo X2.here hx rfl (hb hby at_23) rfl k) ?_
    refine own_step (S' := T2.setTop (mkF m 27 #[.val (.int p0), .val (.int i), .val (.ref (own_pk i w)), .val (.int (1 : Int32))] [(.int (1 : Int32))])) (fun t k => XS.iloadN X2.here hx rfl (hb hby at_26) rfl k) ?_
    refine own_step (S' := T2.setTop (mkF m 30 #[.val (.int p0), .val (.int i), .val (.ref (own_pk i w)), .val (.int (1 : Int32))] [])) (fun t k => XS.ifNo X2.here hx rfl (hb hby at_27) rfl ((if0 _ _).trans (feq ((by decide) : ¬ ((1 : Int32) = (0 : Int32)))).1) k) ?_
    refine own_step (S' := T2.setTop (mkF m 31 #[.val (.int p0), .val (.int i), .val (.ref (own_pk i w)), .val (.int (1 : Int32))] [(.ref (own_pk i w))])) (fun t k => XS.aloadN X2.here hx rfl (hb hby at_30) rfl rfl k) ?_
    obtain ⟨_, T3, Lq3, X3, ⟨rfl, Nq3, e3⟩, st3⟩ := own_callV X2 hx hZ hown (hw _ (List.mem_of_getElem? (i := 12) rfl)) (hw _ (List.mem_of_getElem? (i := 13) rfl)) (hw _ (List.mem_of_getElem? (i := 15) rfl)) (hw _ (List.mem_of_getElem? (i := 14) rfl)) (hw _ (List.mem_of_getElem? (i := 16) rfl)) (hw _ (List.mem_of_getElem? (i := 2) rfl)) (by decide) (argsL := []) (rest := []) (rm3 l Z a0 hw [] (own_pk i w) i h0 Ex0 Fz hnz) (W := 0) (by decide) (by decide) e2 (Ea.ext Ex0) (g := (mkF m 31 #[.val (.int p0), .val (.int i), .val (.ref (own_pk i w)), .val (.int (1 : Int32))] [(.ref (own_pk i w))])) rfl (by rw [hml]; rfl) (lenOf own_pd1 rfl) rfl (by show 2 * 0 + _ ≤ _; exact Nat.le_of_eq rfl) (hb hby at_31) (by decide) (by decide)
    have N3 := Fr.app N2 Nq3
    refine own_step (S' := T3.setTop (mkF m 34 #[.val (.int p0), .val (.int i), .val (.ref (own_pk i w)), .val (.int (1 : Int32))] [(.int i)])) (fun t k => st3 t k) ?_
    refine own_step (S' := T3.setTop (mkF m 35 #[.val (.int p0), .val (.int i), .val (.ref (own_pk i w)), .val (.int (1 : Int32))] [(.int i), (.int i)])) (fun t k => XS.iloadN X3.here hx rfl (hb hby at_34) rfl k) ?_
    refine own_step (S' := T3.setTop (mkF m 38 #[.val (.int p0), .val (.int i), .val (.ref (own_pk i w)), .val (.int (1 : Int32))] [])) (fun t k => XS.icmpNo X3.here hx rfl (hb hby at_35) rfl (teq (rfl : i = i)).2 k) ?_
    refine own_step (S' := T3.setTop (mkF m 39 #[.val (.int p0), .val (.int i), .val (.ref (own_pk i w)), .val (.int (1 : Int32))] [(.int (1 : Int32))])) (fun t k => XS.iconst X3.here hx rfl (hb hby at_38) k) ?_
    refine own_step (S' := T3.setTop (mkF m 43 #[.val (.int p0), .val (.int i), .val (.ref (own_pk i w)), .val (.int (1 : Int32))] [(.int (1 : Int32))])) (fun t k => XS.goto X3.here hx rfl (pc0 := 39) (pc' := 43) rfl (hb hby at_39) (by decide) (by decide) k) ?_
    refine own_step (S' := T3.setTop (mkF m 44 #[.val (.int p0), .val (.int i), .val (.ref (own_pk i w)), .val (.int (1 : Int32))] [])) (fun t k => XS.istoreN X3.here hx rfl (hb hby at_43) rfl (l' := #[.val (.int p0), .val (.int i), .val (.ref (own_pk i w)), .val (.int (1 : Int32))]) rfl k) ?_
    refine own_step (S' := T3.setTop (mkF m 45 #[.val (.int p0), .val (.int i), .val (.ref (own_pk i w)), .val (.int (1 : Int32))] [(.int (1 : Int32))])) (fun t k => XS.iloadN X3.here hx rfl (hb hby at_44) rfl k) ?_
    exact own_retI (t := .boolean) X3 hx hlk hret (Or.inr (Or.inl rfl)) rfl (hb hby at_45) (⟨rfl, N3⟩) (by decide) (by decide)
  ·
    have hv : own_of i w = .null := by
      unfold own_of
      split
      · rfl
      · split
        · rename_i z1 z2
          rw [Int32.lt_iff_toInt_lt] at z1 z2
          have y1 : (0 : Int32).toInt = 0 := by decide
          have y2 : (7 : Int32).toInt = 7 := by decide
          omega
        · rfl
    rw [hv]
    refine own_step (S' := T2.setTop (mkF m 44 #[.val (.int p0), .val (.int i), .val .null, .val (.int (1 : Int32))] [])) (fun t k => XS.ifnullYes X2.here hx rfl (pc0 := 23) (pc' := 44) rfl (hb hby at_23) rfl (by decide) (by decide) k) ?_
    refine own_step (S' := T2.setTop (mkF m 45 #[.val (.int p0), .val (.int i), .val .null, .val (.int (1 : Int32))] [(.int (1 : Int32))])) (fun t k => XS.iloadN X2.here hx rfl (hb hby at_44) rfl k) ?_
    exact own_retI (t := .boolean) X2 hx hlk hret (Or.inr (Or.inl rfl)) rfl (hb hby at_45) (⟨rfl, N2⟩) (by decide) (by decide)
set_option maxRecDepth 65536 in
set_option maxHeartbeats 4000000 in
theorem comes_1 {Post : Tables → Env → Array Value → State → Outcome → State → Prop} (hpost : ∀ tb e args s v u, (limb_1_1.after args s (.returned v) u = true ∧ limb_1_2.after args s (.returned v) u = true ∧ True) → FrameEnd s (.returned v) u (Jvm.fieldLocs frame_1_writes args s ++ Jvm.arrayLocs frame_1_arrays args s ++ Jvm.staticLocs frame_1_statics s) 0 0 → Post tb e args s (.returned v) u) :
    ArmFor flags0 classFile x code maxLocals ret World_1 tables_1 room_1 Calls_1 rest_1 Pre_1 Post := by
  intro l hfl _ _ p e ha hc hk s m args below hf hA hF happ hP
  obtain ⟨hcalls, hrest, hpre⟩ := hP
  obtain ⟨-, -, -, hnamed, -, -, -, hat⟩ := (Spec.applies_iff hf).mp happ
  obtain ⟨hg, hn⟩ := and_e (Cond.before_iff.mp (show (Jvm.Cond.and given_1 narrow_1).before args s = true from hpre))
  obtain ⟨g0, hg⟩ := and_e hg
  have g1 := hg
  obtain ⟨w0, rfl⟩ : ∃ w0 : Value, args = #[w0] := by
    have hs : args.size = 1 := by simpa [Cond.value, given_1] using g0
    obtain ⟨Lx⟩ := args
    match Lx, hs with
    | [w0], _ => exact ⟨w0, rfl⟩
  have hw := fun d (hd : d ∈ tables_1) => atoms_spec (ws := Jvm.Cond.code x code maxLocals ret :: tables_1) hat d (List.mem_cons_of_mem _ hd)
  obtain ⟨i0, ei0⟩ := is_v g1
  obtain rfl : w0 = (.int i0) := Option.some.inj ei0
  obtain ⟨n0, hn⟩ := and_e hn
  obtain ⟨n1, hn⟩ := and_e hn
  obtain ⟨n2, hn⟩ := and_e hn
  obtain ⟨n3, hn⟩ := and_e hn
  obtain ⟨n4, hn⟩ := and_e hn
  obtain ⟨n5, hn⟩ := and_e hn
  obtain ⟨n6, hn⟩ := and_e hn
  obtain ⟨n7, hn⟩ := and_e hn
  obtain ⟨n8, hn⟩ := and_e hn
  obtain ⟨n9, hn⟩ := and_e hn
  obtain ⟨n10, hn⟩ := and_e hn
  obtain ⟨n11, hn⟩ := and_e hn
  obtain ⟨n12, hn⟩ := and_e hn
  obtain ⟨n13, hn⟩ := and_e hn
  obtain ⟨n14, hn⟩ := and_e hn
  obtain ⟨n15, hn⟩ := and_e hn
  obtain ⟨n16, hn⟩ := and_e hn
  obtain ⟨n17, hn⟩ := and_e hn
  obtain ⟨n18, hn⟩ := and_e hn
  obtain ⟨n19, hn⟩ := and_e hn
  obtain ⟨n20, hn⟩ := and_e hn
  obtain ⟨n21, hn⟩ := and_e hn
  have n22 := hn
  obtain ⟨x0, v0, sS0, sE0⟩ := own_exa n2 (hw _ (List.mem_of_getElem? (i := 2) rfl)) (hw _ (List.mem_of_getElem? (i := 6) rfl))
  obtain ⟨x3, v3, sS3, sE3⟩ := own_exa n5 (hw _ (List.mem_of_getElem? (i := 2) rfl)) (hw _ (List.mem_of_getElem? (i := 19) rfl))
  obtain ⟨x2, v2, sS2, sE2⟩ := own_exa n8 (hw _ (List.mem_of_getElem? (i := 2) rfl)) (hw _ (List.mem_of_getElem? (i := 21) rfl))
  obtain ⟨x1, v1, sS1, sE1⟩ := own_exa n11 (hw _ (List.mem_of_getElem? (i := 2) rfl)) (hw _ (List.mem_of_getElem? (i := 23) rfl))
  obtain ⟨x6, v6, sS6, sE6⟩ := own_exa n14 (hw _ (List.mem_of_getElem? (i := 2) rfl)) (hw _ (List.mem_of_getElem? (i := 25) rfl))
  obtain ⟨x5, v5, sS5, sE5⟩ := own_exa n17 (hw _ (List.mem_of_getElem? (i := 2) rfl)) (hw _ (List.mem_of_getElem? (i := 27) rfl))
  obtain ⟨x4, v4, sS4, sE4⟩ := own_exa n20 (hw _ (List.mem_of_getElem? (i := 2) rfl)) (hw _ (List.mem_of_getElem? (i := 29) rfl))
  have sF0_code := own_fldI v0 n4
  have sF3_code := own_fldI v3 n7
  have sF2_code := own_fldI v2 n10
  have sF1_code := own_fldI v1 n13
  have sF6_code := own_fldI v6 n16
  have sF5_code := own_fldI v5 n19
  have sF4_code := own_fldI v4 n22
  obtain ⟨x7, clB, vB, SB, AB⟩ := own_arr n0 (hw _ (List.mem_of_getElem? (i := 2) rfl)) (hw _ (List.mem_of_getElem? (i := 5) rfl))
  have hlB := own_len vB AB n1
  have HB := own_arB AB hlB (vs := [.ref x0, .ref x1, .ref x2, .ref x3, .ref x4, .ref x5, .ref x6]) rfl ⟨own_elem vB AB v0 rfl n3, own_elem vB AB v1 rfl n12, own_elem vB AB v2 rfl n9, own_elem vB AB v3 rfl n6, own_elem vB AB v4 rfl n21, own_elem vB AB v5 rfl n18, own_elem vB AB v6 rfl n15, trivial⟩
  have H : Hyp s (fun j => [x0, x1, x2, x3, x4, x5, x6, x7].getD j 0) := ⟨sS0, sE0, sF0_code, sS1, sE1, sF1_code, sS2, sE2, sF2_code, sS3, sE3, sF3_code, sS4, sE4, sF4_code, sS5, sE5, sF5_code, sS6, sE6, sF6_code, SB, HB⟩
  obtain ⟨n, o, h1, h2, h3, _, L, rfl, ⟨rfl, N⟩, hq⟩ := rm0 l s _ hw tables_1 _ H i0 s.heap ⟨Nat.le_refl _, fun _ _ q => q⟩  p e ha hc hk s m _ below hf ((Spec.applies_iff_loose hf).mp happ).1 ⟨rfl, State.Warmed39.refl s, rfl⟩ trivial
  refine ⟨n, _, h1, h2, h3, hpost _ _ _ _ _ _ ⟨Cond.after_iff.mpr rfl, Cond.after_iff.mpr (eq_i res_at (Term.int_eval (1)) rfl), trivial⟩ ⟨hq.1, hq.2.1, (hq.2.2.sift fun y hy => Or.inr (N y hy)).mono (by decide) (by decide)⟩⟩
theorem main_1_1 : Claimed_1_1 := comes_1 fun _ _ _ _ _ _ h hF => ⟨h.1, hF⟩
theorem main_1_2 : Claimed_1_2 := comes_1 fun _ _ _ _ _ _ h hF => ⟨h.2.1, hF⟩
end Jvm.Pilot.@@N@@
namespace Jvm.Pilot.@@N@@
open Jvm Jvm.ClassFile Sem Op Lib Jvm.Free Jvm.Stand Jvm.Pilot.@@N@@.Jvm.D
/-! MADE BY PROGRAM (witnessworld.py) out of the Statement's table words and the real class files: 13 classes; the members and pool entries that the words name. The judged class is class 1, her method 2. -/
namespace start1
open Jvm.ClassFile
def u (s : String) : CpInfo := .utf8 (stringToUtf16 s)
/-- a pool by its gaps: so many unusable entries, then the entry; so many at the end -/
def gap : Nat → List CpInfo → List CpInfo
  | 0, r => r
  | n + 1, r => .unusable :: gap n r
def poolList (es : List (Nat × CpInfo)) (last : Nat) : List CpInfo := es.foldr (fun e r => gap e.1 (e.2 :: r)) (gap last [])
def pool (es : List (Nat × CpInfo)) (last : Nat) : Array CpInfo := ⟨poolList es last⟩
def fileOf (pool : Array CpInfo) (this : Nat) (attrs : Array Attribute := #[]) (ms : Array MethodInfo := #[]) (fl : Nat := 33) (sup : Nat := 0) (ifs : Array Nat := #[]) (fds : Array FieldInfo := #[]) : ClassFile where
  minorVersion := 0
  majorVersion := 65
  constantPool := pool
  accessFlags := fl
  thisClass := this
  superClass := sup
  interfaces := ifs
  fields := fds
  methods := ms
  attributes := attrs
def plain (name : String) (sup : Option ClassId) : Class where
  name := name
  kind := .ordinary
  loader := none
  accessFlags := 33
  super := sup
  interfaces := #[]
  cf := none
  fields := #[]
  methods := #[]
  instanceTypes := #[]
  staticTypes := #[]
  resolved := #[]
  callSites := []
  init := .initialized
  statics := none
  mirror := none

def pool0 : Array CpInfo := pool [(5, u "<init>"), (0, u "()V"), (1, .class_ 10), (1, u "java/lang/Object")] 113

def k0m0 : Method := { name := "<init>", desc := "()V", sig := { parameters := [], returnType := none }, accessFlags := 1, code := none }
/-- java/lang/Object -/
def k0 : Class := { plain "java/lang/Object" none with
  accessFlags := 33
  interfaces := #[]
  cf := some (fileOf pool0 8 #[] #[{ accessFlags := 1, nameIndex := 5, descriptorIndex := 6, attributes := #[] }] 33 0 #[] #[])
  fields := #[]
  methods := #[k0m0]
  instanceTypes := #[]
  staticTypes := #[]
  resolved := Array.replicate 124 none
  statics := none }

def pool1 : Array CpInfo := pool [(2, .class_ 4), (1, u "java/lang/Object"), (0, u "<init>"), (0, u "()V"), (0, .fieldref 8 9), (0, .class_ 10), (0, .nameAndType 11 12), (0, u "com/example/reins_for_requests/reinsforrequests/cluster/TokenProtocol$Status"), (0, u "OK"), (0, u "Lcom/example/reins_for_requests/reinsforrequests/cluster/TokenProtocol$Status;"), (0, .fieldref 8 14), (0, .nameAndType 15 12), (0, u "BLOCKED"), (0, .fieldref 8 17), (0, .nameAndType 18 12), (0, u "SHOULD_WAIT"), (0, .fieldref 8 20), (0, .nameAndType 21 12), (0, u "NO_RULE"), (0, .fieldref 8 23), (0, .nameAndType 24 12), (0, u "BAD_REQUEST"), (0, .fieldref 8 26), (0, .nameAndType 27 12), (0, u "TOO_MANY_REQUESTS"), (0, .fieldref 8 29), (0, .nameAndType 30 12), (0, u "FAIL"), (0, .methodref 8 32), (0, .nameAndType 33 34), (0, u "of"), (0, u "(B)Lcom/example/reins_for_requests/reinsforrequests/cluster/TokenProtocol$Status;"), (0, .methodref 36 37), (0, .class_ 38), (0, .nameAndType 39 34), (0, u "com/example/reins_for_requests/reinsforrequests/cluster/StatusOfPinLaw"), (0, u "expected"), (0, .methodref 8 41), (0, .nameAndType 42 43), (0, u "code"), (0, u "()B"), (3, u "law"), (0, u "(I)Z")] 6

def k1m0 : Method := { name := "<init>", desc := "()V", sig := { parameters := [], returnType := none }, accessFlags := 2, code := none }
def k1c1 : Code := { maxStack := 2, maxLocals := 1, code := method_2_code, exceptionTable := #[], attributes := #[] }
def k1m1 : Method := { name := "expected", desc := "(B)Lcom/example/reins_for_requests/reinsforrequests/cluster/TokenProtocol$Status;", sig := { parameters := [.byte], returnType := some (.object "com/example/reins_for_requests/reinsforrequests/cluster/TokenProtocol$Status") }, accessFlags := 10, code := some k1c1 }
def k1c2 : Code := { maxStack := 2, maxLocals := 4, code := code, exceptionTable := #[], attributes := #[] }
def k1m2 : Method := { name := "law", desc := "(I)Z", sig := { parameters := [.int], returnType := some .boolean }, accessFlags := 9, code := some k1c2 }
/-- com/example/reins_for_requests/reinsforrequests/cluster/StatusOfPinLaw -/
def k1 : Class := { plain "com/example/reins_for_requests/reinsforrequests/cluster/StatusOfPinLaw" (some 0) with
  accessFlags := 49
  interfaces := #[]
  cf := some (fileOf pool1 36 #[] #[{ accessFlags := 2, nameIndex := 5, descriptorIndex := 6, attributes := #[] }, { accessFlags := 10, nameIndex := 39, descriptorIndex := 34, attributes := #[] }, { accessFlags := 9, nameIndex := 47, descriptorIndex := 48, attributes := #[] }] 49 2 #[] #[])
  fields := #[]
  methods := #[k1m0, k1m1, k1m2]
  instanceTypes := #[]
  staticTypes := #[]
  resolved := Array.replicate 55 none
  statics := none }

def pool2 : Array CpInfo := pool [(1, .class_ 2), (0, u "java/lang/constant/Constable"), (0, .class_ 4), (0, u "java/lang/Object")] 6

/-- java/lang/constant/Constable -/
def k2 : Class := { plain "java/lang/constant/Constable" (some 0) with
  accessFlags := 1537
  interfaces := #[]
  cf := some (fileOf pool2 1 #[] #[] 1537 3 #[] #[])
  fields := #[]
  methods := #[]
  instanceTypes := #[]
  staticTypes := #[]
  resolved := Array.replicate 11 none
  statics := none }

def pool3 : Array CpInfo := pool [(1, .class_ 2), (0, u "java/lang/Comparable"), (0, .class_ 4), (0, u "java/lang/Object")] 7

/-- java/lang/Comparable -/
def k3 : Class := { plain "java/lang/Comparable" (some 0) with
  accessFlags := 1537
  interfaces := #[]
  cf := some (fileOf pool3 1 #[] #[] 1537 3 #[] #[])
  fields := #[]
  methods := #[]
  instanceTypes := #[]
  staticTypes := #[]
  resolved := Array.replicate 12 none
  statics := none }

def pool4 : Array CpInfo := pool [(1, .class_ 2), (0, u "java/io/Serializable"), (0, .class_ 4), (0, u "java/lang/Object")] 2

/-- java/io/Serializable -/
def k4 : Class := { plain "java/io/Serializable" (some 0) with
  accessFlags := 1537
  interfaces := #[]
  cf := some (fileOf pool4 1 #[] #[] 1537 3 #[] #[])
  fields := #[]
  methods := #[]
  instanceTypes := #[]
  staticTypes := #[]
  resolved := Array.replicate 7 none
  statics := none }

def pool5 : Array CpInfo := pool [(2, .class_ 4), (1, u "java/lang/Enum"), (0, u "name"), (0, u "Ljava/lang/String;"), (2, u "ordinal"), (0, u "I"), (1, .class_ 14), (1, u "java/lang/Object"), (4, u "hash"), (86, .class_ 108), (1, u "java/lang/Enum$EnumDesc"), (2, .class_ 112), (0, u "java/lang/constant/Constable"), (0, .class_ 114), (0, u "java/lang/Comparable"), (0, .class_ 116), (0, u "java/io/Serializable")] 87

/-- java/lang/Enum -/
def k5 : Class := { plain "java/lang/Enum" (some 0) with
  accessFlags := 1057
  interfaces := #[2, 3, 4]
  cf := some (fileOf pool5 2 #[.nestMembers #[106]] #[] 1057 12 #[111, 113, 115] #[{ accessFlags := 18, nameIndex := 5, descriptorIndex := 6, attributes := #[] }, { accessFlags := 18, nameIndex := 9, descriptorIndex := 10, attributes := #[] }, { accessFlags := 2, nameIndex := 19, descriptorIndex := 10, attributes := #[] }])
  fields := #[{ name := "name", type := (.object "java/lang/String"), accessFlags := 18, slot := 0, constantValue := 0 }, { name := "ordinal", type := .int, accessFlags := 18, slot := 1, constantValue := 0 }, { name := "hash", type := .int, accessFlags := 2, slot := 2, constantValue := 0 }]
  methods := #[]
  instanceTypes := #[(.object "java/lang/String"), .int, .int]
  staticTypes := #[]
  resolved := Array.replicate 204 none
  statics := none }

def pool6 : Array CpInfo := pool [(1, .class_ 2), (0, u "com/example/reins_for_requests/reinsforrequests/cluster/TokenProtocol$Status"), (2, u "OK"), (0, u "Lcom/example/reins_for_requests/reinsforrequests/cluster/TokenProtocol$Status;"), (2, u "BLOCKED"), (2, u "SHOULD_WAIT"), (2, u "NO_RULE"), (2, u "BAD_REQUEST"), (2, u "TOO_MANY_REQUESTS"), (2, u "FAIL"), (2, u "$VALUES"), (0, u "[Lcom/example/reins_for_requests/reinsforrequests/cluster/TokenProtocol$Status;"), (6, .class_ 37), (1, u "java/lang/Enum"), (6, .fieldref 1 45), (0, .nameAndType 46 47), (0, u "code"), (0, u "B"), (0, .fieldref 1 49), (0, .nameAndType 50 28), (0, u "BY_CODE"), (23, u "()B"), (0, u "of"), (0, u "(B)Lcom/example/reins_for_requests/reinsforrequests/cluster/TokenProtocol$Status;"), (7, .class_ 85), (0, u "com/example/reins_for_requests/reinsforrequests/cluster/TokenProtocol")] 2

def k6c0 : Code := { maxStack := 1, maxLocals := 1, code := prog_73_method_4_code, exceptionTable := #[], attributes := #[] }
def k6m0 : Method := { name := "code", desc := "()B", sig := { parameters := [], returnType := some .byte }, accessFlags := 0, code := some k6c0 }
def k6c1 : Code := { maxStack := 2, maxLocals := 1, code := prog_73_method_5_code, exceptionTable := #[], attributes := #[] }
def k6m1 : Method := { name := "of", desc := "(B)Lcom/example/reins_for_requests/reinsforrequests/cluster/TokenProtocol$Status;", sig := { parameters := [.byte], returnType := some (.object "com/example/reins_for_requests/reinsforrequests/cluster/TokenProtocol$Status") }, accessFlags := 8, code := some k6c1 }
/-- com/example/reins_for_requests/reinsforrequests/cluster/TokenProtocol$Status -/
def k6 : Class := { plain "com/example/reins_for_requests/reinsforrequests/cluster/TokenProtocol$Status" (some 5) with
  accessFlags := 16432
  interfaces := #[]
  cf := some (fileOf pool6 1 #[.nestHost 84] #[{ accessFlags := 0, nameIndex := 46, descriptorIndex := 74, attributes := #[] }, { accessFlags := 8, nameIndex := 75, descriptorIndex := 76, attributes := #[] }] 16432 35 #[] #[{ accessFlags := 16409, nameIndex := 5, descriptorIndex := 6, attributes := #[] }, { accessFlags := 16409, nameIndex := 9, descriptorIndex := 6, attributes := #[] }, { accessFlags := 16409, nameIndex := 12, descriptorIndex := 6, attributes := #[] }, { accessFlags := 16409, nameIndex := 15, descriptorIndex := 6, attributes := #[] }, { accessFlags := 16409, nameIndex := 18, descriptorIndex := 6, attributes := #[] }, { accessFlags := 16409, nameIndex := 21, descriptorIndex := 6, attributes := #[] }, { accessFlags := 16409, nameIndex := 24, descriptorIndex := 6, attributes := #[] }, { accessFlags := 26, nameIndex := 50, descriptorIndex := 28, attributes := #[] }, { accessFlags := 18, nameIndex := 46, descriptorIndex := 47, attributes := #[] }, { accessFlags := 4122, nameIndex := 27, descriptorIndex := 28, attributes := #[] }])
  fields := #[{ name := "OK", type := (.object "com/example/reins_for_requests/reinsforrequests/cluster/TokenProtocol$Status"), accessFlags := 16409, slot := 0, constantValue := 0 }, { name := "BLOCKED", type := (.object "com/example/reins_for_requests/reinsforrequests/cluster/TokenProtocol$Status"), accessFlags := 16409, slot := 1, constantValue := 0 }, { name := "SHOULD_WAIT", type := (.object "com/example/reins_for_requests/reinsforrequests/cluster/TokenProtocol$Status"), accessFlags := 16409, slot := 2, constantValue := 0 }, { name := "NO_RULE", type := (.object "com/example/reins_for_requests/reinsforrequests/cluster/TokenProtocol$Status"), accessFlags := 16409, slot := 3, constantValue := 0 }, { name := "BAD_REQUEST", type := (.object "com/example/reins_for_requests/reinsforrequests/cluster/TokenProtocol$Status"), accessFlags := 16409, slot := 4, constantValue := 0 }, { name := "TOO_MANY_REQUESTS", type := (.object "com/example/reins_for_requests/reinsforrequests/cluster/TokenProtocol$Status"), accessFlags := 16409, slot := 5, constantValue := 0 }, { name := "FAIL", type := (.object "com/example/reins_for_requests/reinsforrequests/cluster/TokenProtocol$Status"), accessFlags := 16409, slot := 6, constantValue := 0 }, { name := "BY_CODE", type := (.array (.object "com/example/reins_for_requests/reinsforrequests/cluster/TokenProtocol$Status")), accessFlags := 26, slot := 7, constantValue := 0 }, { name := "code", type := .byte, accessFlags := 18, slot := 3, constantValue := 0 }, { name := "$VALUES", type := (.array (.object "com/example/reins_for_requests/reinsforrequests/cluster/TokenProtocol$Status")), accessFlags := 4122, slot := 8, constantValue := 0 }]
  methods := #[k6m0, k6m1]
  instanceTypes := #[(.object "java/lang/String"), .int, .int, .byte]
  staticTypes := #[(.object "com/example/reins_for_requests/reinsforrequests/cluster/TokenProtocol$Status"), (.object "com/example/reins_for_requests/reinsforrequests/cluster/TokenProtocol$Status"), (.object "com/example/reins_for_requests/reinsforrequests/cluster/TokenProtocol$Status"), (.object "com/example/reins_for_requests/reinsforrequests/cluster/TokenProtocol$Status"), (.object "com/example/reins_for_requests/reinsforrequests/cluster/TokenProtocol$Status"), (.object "com/example/reins_for_requests/reinsforrequests/cluster/TokenProtocol$Status"), (.object "com/example/reins_for_requests/reinsforrequests/cluster/TokenProtocol$Status"), (.array (.object "com/example/reins_for_requests/reinsforrequests/cluster/TokenProtocol$Status")), (.array (.object "com/example/reins_for_requests/reinsforrequests/cluster/TokenProtocol$Status"))]
  resolved := Array.replicate 88 none
  statics := some 0 }

def pool7 : Array CpInfo := pool [(1, u "java/lang/Cloneable"), (0, .class_ 1), (0, u "java/lang/Object"), (0, .class_ 3)] 3

/-- java/lang/Cloneable -/
def k7 : Class := { plain "java/lang/Cloneable" (some 0) with
  accessFlags := 1537
  interfaces := #[]
  cf := some (fileOf pool7 2 #[] #[] 1537 4 #[] #[])
  fields := #[]
  methods := #[]
  instanceTypes := #[]
  staticTypes := #[]
  resolved := Array.replicate 8 none
  statics := none }

/-- the primitive byte -/
def k8 : Class := { plain "byte" none with kind := .primitive 'B', accessFlags := 0x411 }
/-- [B -/
def k9 : Class := { plain "[B" (some 0) with kind := .array 8 .byte, interfaces := #[7, 4], accessFlags := 1041 }

/-- the primitive int -/
def k10 : Class := { plain "int" none with kind := .primitive 'I', accessFlags := 0x411 }
/-- [I -/
def k11 : Class := { plain "[I" (some 0) with kind := .array 10 .int, interfaces := #[7, 4], accessFlags := 1041 }

/-- [Lcom/example/reins_for_requests/reinsforrequests/cluster/TokenProtocol$Status; -/
def k12 : Class := { plain "[Lcom/example/reins_for_requests/reinsforrequests/cluster/TokenProtocol$Status;" (some 0) with kind := .array 6 (.object "com/example/reins_for_requests/reinsforrequests/cluster/TokenProtocol$Status"), interfaces := #[7, 4], accessFlags := 1041 }

def heap : Heap := #[{ cls := 6, slots := #[.ref 2, .ref 3, .ref 4, .ref 5, .ref 6, .ref 7, .ref 8, .ref 1, .null], vm := .statics 6 },
  { cls := 12, slots := #[.ref 2, .ref 3, .ref 4, .ref 5, .ref 6, .ref 7, .ref 8], vm := .none },
  { cls := 6, slots := #[.null, .int 0, .int 0, .int 0], vm := .none },
  { cls := 6, slots := #[.null, .int 0, .int 0, .int 1], vm := .none },
  { cls := 6, slots := #[.null, .int 0, .int 0, .int 2], vm := .none },
  { cls := 6, slots := #[.null, .int 0, .int 0, .int 3], vm := .none },
  { cls := 6, slots := #[.null, .int 0, .int 0, .int 4], vm := .none },
  { cls := 6, slots := #[.null, .int 0, .int 0, .int 5], vm := .none },
  { cls := 6, slots := #[.null, .int 0, .int 0, .int 6], vm := .none }]
def classes : Array Class := #[k0, k1, k2, k3, k4, k5, k6, k7, k8, k9, k10, k11, k12]
def interned : List (Array UInt16 × Addr) := []
def slotsUsed : Nat := 44
def theMethod : MethodId := ⟨1, 2⟩
def args0 : Array Value := #[.int 5]
def aboutOver (below : List Frame) : State where
  vm := { classes := classes, interned := interned.toArray }
  heap := heap
  slotsUsed := slotsUsed
  threads := #[{ frames := .invoking theMethod args0 :: below }]
def below0 : List Frame := [.native { method := ⟨0, 0⟩, args := #[] }]
def about1 : State := aboutOver below0
def p0 : Program := .bare "" "" ""
def e0 : Env := launch0.env 0 0 0
theorem w_frames : about1.frames = Frame.invoking theMethod args0 :: below0 := rfl
set_option maxRecDepth 65536 in
theorem w_args : argsFit about1.vm theMethod args0 = true := by decide +kernel
set_option maxRecDepth 65536 in
theorem w_heap : heapFits about1 = true := by decide +kernel
set_option maxRecDepth 65536 in
theorem w_runnable : about1.curStatus? = some .runnable := by decide +kernel
set_option maxRecDepth 65536 in
theorem w_alone : about1.alone = true := by decide +kernel
set_option maxRecDepth 65536 in
theorem w_named : about1.methodNamed? x = some theMethod := by decide +kernel
set_option maxRecDepth 65536 in
theorem w_hears : about1.hears theMethod below0 = true := by decide +kernel
set_option maxRecDepth 65536 in
theorem w_ripe : about1.ripe theMethod args0 below0 = true := by decide +kernel
theorem w_running : about1.status = .running := rfl
set_option maxRecDepth 65536 in
theorem w_room : about1.hasRoom e0.platform room_1 = true :=
  launch0.hasRoom_least _ room_1 (by decide +kernel) (by decide +kernel) (by decide +kernel) (by decide +kernel) (by decide +kernel) (by decide +kernel)
theorem allAtoms_all (ts : List Jvm.Cond) (a : Array Jvm.Value) (st : Jvm.State) : (allAtoms ts).before a st = ts.all (fun c => c.before a st) := by
  induction ts with
  | nil => rfl
  | cons c t ih =>
    show (Jvm.Cond.and c (allAtoms t)).before a st = _
    rw [Jvm.Cond.before_and, ih, List.all_cons]
def words1 : List Jvm.Cond := Jvm.Cond.code x code maxLocals ret :: tables_1
/-- a 'code' word, met by the world's own term for the bytes: nothing is compared byte by byte -/
theorem code_word {y : MethodName} {bytes : ByteArray} {mx : Nat} {rt : Option FieldType} {a : Array Value} {s : State} {m : MethodId} {meth : Method} {c : Code} (h1 : s.methodNamed? y = some m) (h2 : s.vm.method? m = some meth) (h3 : meth.code = some c) (h4 : c.code = bytes)
    (h5 : (c.maxLocals == mx && c.exceptionTable.isEmpty && decide (c.maxStack ≤ mostOperands) && decide (meth.sig.returnType = rt) && !meth.locks && decide (parseMethodDescriptor y.desc = some meth.sig)) = true) : (Jvm.Cond.code y bytes mx rt).before a s = true := by
  simp only [Bool.and_eq_true, beq_iff_eq, Bool.not_eq_true', decide_eq_true_eq] at h5
  obtain ⟨⟨⟨⟨⟨g1, g2⟩, g3⟩, g4⟩, g5⟩, g6⟩ := h5
  simp [Cond.before, Cond.holds, Cond.value, h1, h2, h3, h4, g1, g2, g3, g4, g5, g6]
def isCode : Jvm.Cond → Bool
  | .code _ _ _ _ => true
  | _ => false
theorem all_split {L : List Jvm.Cond} {P : Jvm.Cond → Bool} (h1 : L.all (fun c => isCode c || P c) = true) (h2 : ∀ c ∈ L.filter isCode, P c = true) : L.all P = true := by
  refine List.all_eq_true.mpr fun c hc => ?_
  have h := List.all_eq_true.mp h1 c hc
  rcases Bool.eq_false_or_eq_true (isCode c) with hi | hi
  · exact h2 c (List.mem_filter.mpr ⟨hc, hi⟩)
  · simpa [hi] using h
set_option maxRecDepth 65536 in
theorem w_c0 : (Jvm.Cond.code x code maxLocals ret).before args0 about1 = true := code_word (m := ⟨1, 2⟩) (meth := k1m2) (c := k1c2) (by decide +kernel) rfl rfl rfl (by decide +kernel)
set_option maxRecDepth 65536 in
theorem w_c1 : (Jvm.Cond.code ({ cls := "com/example/reins_for_requests/reinsforrequests/cluster/TokenProtocol$Status", name := "of", desc := "(B)Lcom/example/reins_for_requests/reinsforrequests/cluster/TokenProtocol$Status;" } : Jvm.MethodName) prog_73_method_5_code (1 : Nat) (Option.some (Jvm.ClassFile.FieldType.object "com/example/reins_for_requests/reinsforrequests/cluster/TokenProtocol$Status"))).before args0 about1 = true := code_word (m := ⟨6, 1⟩) (meth := k6m1) (c := k6c1) (by decide +kernel) rfl rfl rfl (by decide +kernel)
set_option maxRecDepth 65536 in
theorem w_c2 : (Jvm.Cond.code ({ cls := "com/example/reins_for_requests/reinsforrequests/cluster/StatusOfPinLaw", name := "expected", desc := "(B)Lcom/example/reins_for_requests/reinsforrequests/cluster/TokenProtocol$Status;" } : Jvm.MethodName) method_2_code (1 : Nat) (Option.some (Jvm.ClassFile.FieldType.object "com/example/reins_for_requests/reinsforrequests/cluster/TokenProtocol$Status"))).before args0 about1 = true := code_word (m := ⟨1, 1⟩) (meth := k1m1) (c := k1c1) (by decide +kernel) rfl rfl rfl (by decide +kernel)
set_option maxRecDepth 65536 in
theorem w_c3 : (Jvm.Cond.code ({ cls := "com/example/reins_for_requests/reinsforrequests/cluster/TokenProtocol$Status", name := "code", desc := "()B" } : Jvm.MethodName) prog_73_method_4_code (1 : Nat) (Option.some Jvm.ClassFile.FieldType.byte)).before args0 about1 = true := code_word (m := ⟨6, 0⟩) (meth := k6m0) (c := k6c0) (by decide +kernel) rfl rfl rfl (by decide +kernel)
def codes1 : List Jvm.Cond := [Jvm.Cond.code x code maxLocals ret, Jvm.Cond.code ({ cls := "com/example/reins_for_requests/reinsforrequests/cluster/TokenProtocol$Status", name := "of", desc := "(B)Lcom/example/reins_for_requests/reinsforrequests/cluster/TokenProtocol$Status;" } : Jvm.MethodName) prog_73_method_5_code (1 : Nat) (Option.some (Jvm.ClassFile.FieldType.object "com/example/reins_for_requests/reinsforrequests/cluster/TokenProtocol$Status")), Jvm.Cond.code ({ cls := "com/example/reins_for_requests/reinsforrequests/cluster/StatusOfPinLaw", name := "expected", desc := "(B)Lcom/example/reins_for_requests/reinsforrequests/cluster/TokenProtocol$Status;" } : Jvm.MethodName) method_2_code (1 : Nat) (Option.some (Jvm.ClassFile.FieldType.object "com/example/reins_for_requests/reinsforrequests/cluster/TokenProtocol$Status")), Jvm.Cond.code ({ cls := "com/example/reins_for_requests/reinsforrequests/cluster/TokenProtocol$Status", name := "code", desc := "()B" } : Jvm.MethodName) prog_73_method_4_code (1 : Nat) (Option.some Jvm.ClassFile.FieldType.byte)]
set_option maxRecDepth 65536 in
theorem codes_eq : words1.filter isCode = codes1 := rfl
theorem w_codes : ∀ c ∈ words1.filter isCode, c.before args0 about1 = true := by
  rw [codes_eq]
  intro c hc
  simp only [codes1, List.mem_cons, List.not_mem_nil, or_false] at hc
  rcases hc with rfl | rfl | rfl | rfl
  · exact w_c0
  · exact w_c1
  · exact w_c2
  · exact w_c3
set_option maxRecDepth 65536 in
theorem w_t1 : (words1.take 24).all (fun c => isCode c || c.before args0 about1) = true := by decide +kernel
set_option maxRecDepth 65536 in
theorem w_t2 : (words1.drop 24).all (fun c => isCode c || c.before args0 about1) = true := by decide +kernel
theorem w_tables : (allAtoms (Jvm.Cond.code x code maxLocals ret :: tables_1)).before args0 about1 = true := by
  rw [allAtoms_all]
  show words1.all (fun c => c.before args0 about1) = true
  refine all_split ?_ w_codes
  rw [← List.take_append_drop 24 words1, List.all_append, w_t1, w_t2]
  rfl
set_option maxRecDepth 65536 in
theorem w_case : (Jvm.Cond.and given_1 narrow_1).before args0 about1 = true := by decide +kernel
theorem w_applies : (headSpec (Jvm.Cond.code x code maxLocals ret :: tables_1) room_1).applies x e0.platform about1 = true :=
  (Spec.applies_iff w_frames).mpr ⟨w_running, w_runnable, w_alone, w_named, w_hears, w_ripe, w_room, w_tables⟩
theorem atStart : AtStart classFile x code maxLocals ret World_1 tables_1 room_1 Calls_1 rest_1 Pre_1 launch0 p0 e0 about1 theMethod args0 below0 :=
  ⟨lists_1, trivial, launch0.admits_env _ _ _, launch0.least_env, fairChoices_fair.cas, fairChoices_fair.clock, w_frames, w_args, w_heap, w_applies, trivial, trivial, w_case⟩
end start1
theorem witness_1 : WitnessClaimed_1 := ⟨start1.p0, start1.e0, start1.about1, start1.theMethod, start1.args0, start1.below0, start1.atStart⟩
end Jvm.Pilot.@@N@@
