import JvmDerived
import JvmDerived.Pilot.@@N@@Statement
import JvmDerived.Pilot.@@N@@Code
set_option linter.unusedVariables false
set_option linter.unusedSimpArgs false
namespace Jvm.Pilot.@@N@@
open Jvm Jvm.ClassFile Sem Op Lib Jvm.Free Jvm.Stand Jvm.LawKit Jvm.RoadKit Bundle Jvm.Pilot.@@N@@.Jvm.D
/-! 1. my way of walking: 'from here the run comes to an end that G allows' -/
def Rch (p : Program) (e : Env) (below : List Frame) (G : Outcome → State → Prop) (T : State) (f : JFrame) : Prop := ∃ s₂ o, Steps p.tables e below (T.setTop f) s₂ ∧ s₂.status = .running ∧ Ended s₂ below o ∧ G o s₂
def Gd (s : State) (Q : Option Value → Heap → List Loc → Prop) (k n : Nat) : Outcome → State → Prop := fun o U' => ∃ v L, o = .returned v ∧ Q v U'.heap L ∧ FrameEnd s o U' L k n
section Own
variable {p : Program} {l : Launch} {e : Env} {R : Room} {s : State} {m : MethodId} {args : Array Value} {below : List Frame} {meth : Method} {c : Code} {T T' : State} {f f' : JFrame} {locs : List Loc} {cells slots k n : Nat} {G : Outcome → State → Prop} {Q : Option Value → Heap → List Loc → Prop}
theorem own_go (st : ∀ t, Steps p.tables e below (T'.setTop f') t → Steps p.tables e below (T.setTop f) t) (r : Rch p e below G T' f') : Rch p e below G T f := by
  obtain ⟨s₂, o, h1, h2⟩ := r
  exact ⟨s₂, o, st _ h1, h2⟩
theorem own_go2 (st : Steps p.tables e below (T.setTop f) (T'.setTop f')) (r : Rch p e below G T' f') : Rch p e below G T f := own_go (fun t h => st.trans h) r
theorem own_fin (X : Stand p l e R s m args below meth c T locs cells slots) (hlk : meth.locks = false) {v : Option Value} (hv : meth.sig.returnType = none → v = none) (hc : cells ≤ k) (hs : slots ≤ n)
    (st : ∀ fs, (∀ (f : JFrame) (acts : List Action), f.method = m → f.locked = none → f.entered = [] → (doReturn e (T.setTop f) acts v).1 = T.setFrames fs) → Steps p.tables e below (T.setTop f) (T.setFrames fs)) (hQ : Q v T.heap locs) : Rch p e below (Gd s Q k n) T f := by
  obtain ⟨fs, hr, hrun, hended, hW, hsame⟩ := X.leave hv hlk
  exact ⟨_, _, st fs hr, hrun, hended, _, _, rfl, hQ, ⟨_, rfl⟩, hW, hsame.mono hc hs⟩
theorem own_retV (X : Stand p l e R s m args below meth c T locs cells slots) (hx : p.tables.exec = Jvm.exec) (hlk : meth.locks = false) (hret : meth.sig.returnType = none) {pc : Nat} {Ls : Array Slot} (hd : decode c.code pc = .ok (.return_, 1)) (hc : cells ≤ k) (hs : slots ≤ n) (hQ : Q none T.heap locs) : Rch p e below (Gd s Q k n) T (mkF m pc Ls []) :=
  own_fin X hlk (fun _ => rfl) hc hs (fun fs hr => X.returnOut hx hret hd hr) hQ
theorem own_retN (X : Stand p l e R s m args below meth c T locs cells slots) (hx : p.tables.exec = Jvm.exec) (hlk : meth.locks = false) {t : FieldType} (hret : meth.sig.returnType = some t) (ht : t = .boolean ∨ t = .byte ∨ t = .char ∨ t = .short) {pc : Nat} {Ls : Array Slot} {z w : Int32} {rest : List Value} (hd : decode c.code pc = .ok (.ireturn, 1)) (hz : nar t z = w) (hc : cells ≤ k) (hs : slots ≤ n) (hQ : Q (some (.int w)) T.heap locs) : Rch p e below (Gd s Q k n) T (mkF m pc Ls (.int z :: rest)) :=
  own_fin X hlk (fun h => by rw [hret] at h; cases h) hc hs (fun fs hr => retN X hx hret ht hd (by rw [hz]; exact hr)) hQ
theorem own_retI (X : Stand p l e R s m args below meth c T locs cells slots) (hx : p.tables.exec = Jvm.exec) (hlk : meth.locks = false) (hret : meth.sig.returnType = some .int) {pc : Nat} {Ls : Array Slot} {z : Int32} {rest : List Value} (hd : decode c.code pc = .ok (.ireturn, 1)) (hc : cells ≤ k) (hs : slots ≤ n) (hQ : Q (some (.int z)) T.heap locs) : Rch p e below (Gd s Q k n) T (mkF m pc Ls (.int z :: rest)) :=
  own_fin X hlk (fun h => by rw [hret] at h; cases h) hc hs (fun fs hr => retOut X hx hret rfl (Or.inl ⟨rfl, Or.inl rfl, z, rfl⟩) hd hr) hQ
theorem own_retJ (X : Stand p l e R s m args below meth c T locs cells slots) (hx : p.tables.exec = Jvm.exec) (hlk : meth.locks = false) (hret : meth.sig.returnType = some .long) {pc : Nat} {Ls : Array Slot} {z : Int64} {rest : List Value} (hd : decode c.code pc = .ok (.lreturn, 1)) (hc : cells ≤ k) (hs : slots ≤ n) (hQ : Q (some (.long z)) T.heap locs) : Rch p e below (Gd s Q k n) T (mkF m pc Ls (.long z :: rest)) :=
  own_fin X hlk (fun h => by rw [hret] at h; cases h) hc hs (fun fs hr => retOut X hx hret rfl (Or.inr (Or.inl ⟨rfl, rfl, z, rfl⟩)) hd hr) hQ
theorem own_retA (X : Stand p l e R s m args below meth c T locs cells slots) (hx : p.tables.exec = Jvm.exec) (hlk : meth.locks = false) {t : FieldType} (hret : meth.sig.returnType = some t) (ht : t.isReference = true) {w : Value} (hw : w.isRef = true) {pc : Nat} {Ls : Array Slot} {rest : List Value} (hd : decode c.code pc = .ok (.areturn, 1)) (hc : cells ≤ k) (hs : slots ≤ n) (hQ : Q (some w) T.heap locs) : Rch p e below (Gd s Q k n) T (mkF m pc Ls (w :: rest)) :=
  own_fin X hlk (fun h => by rw [hret] at h; cases h) hc hs (fun fs hr => retOut X hx hret (by rcases ref_cases hw with rfl | ⟨a, rfl⟩ <;> (cases t <;> first | rfl | cases ht)) (Or.inr (Or.inr (Or.inr (Or.inr ⟨rfl, ht, hw⟩)))) hd hr) hQ
end Own

theorem own_by (x : Int32) : x.toInt8.toInt32.toInt8.toInt32 = x.toInt8.toInt32 := by simp
theorem own_small (x : Int32) (h0 : 0 ≤ x.toInt) (h1 : x.toInt ≤ 31) : x.toInt8.toInt32 = x := by
  have q := c_i2b x
  apply Int32.toInt_inj.mp
  omega
theorem d2_0 : decode jdk_30_method_1_code 0 = .ok (.aload_n 0, 1) := by decide +kernel
theorem d2_1 : decode jdk_30_method_1_code 1 = .ok (.invokespecial 1, 3) := by decide +kernel
theorem d2_4 : decode jdk_30_method_1_code 4 = .ok (.return_, 1) := by decide +kernel
theorem pn_2 : plainName "java/lang/Record" = true := by first | (simp [plainName, overriddenIn]; done) | decide +kernel
theorem ef_2 (m : MethodId) (x0 : Addr) : entryFrame m #[(.ref x0)] 1 = mkF m 0 #[.val (.ref x0)] [] := by first | (simp [entryFrame, mkF, argsToLocals, Value.category]; done) | rfl
def Q2 (Z : State) (u0 : Addr) (h0 : Heap) (n0 : Nat) (v : Option Value) (h : Heap) (L : List Loc) : Prop := v = none ∧ Fr n0 L ∧ h = h0
set_option maxRecDepth 65536 in
set_option maxHeartbeats 40000000 in
theorem rm2 (l : Launch) (Z : State) (a0 : Array Value) (hw : ∀ d ∈ tables_1, d.before a0 Z = true) (ws : List Jvm.Cond) (u0 : Addr) (h0 : Heap) (n0 : Nat) (Z0 : n0 ≤ h0.size) :
    MetFree l (⟨"java/lang/Record", "<init>", "()V"⟩ : MethodName) (head1 (Jvm.Cond.code (⟨"java/lang/Record", "<init>", "()V"⟩ : MethodName) jdk_30_method_1_code 1 none :: ws) ({ frames := 1, cells := 0, slots := 0, locals := 12 } : Room)) (fun a U => a = #[(.ref u0)] ∧ Z.Warmed39 U.vm ∧ U.heap = h0) (fun _ _ _ _ _ => True) (fun _ U o U' => ∃ v L, o = .returned v ∧ Q2 Z u0 h0 n0 v U'.heap L ∧ FrameEnd U o U' L ({ frames := 1, cells := 0, slots := 0, locals := 12 } : Room).cells ({ frames := 1, cells := 0, slots := 0, locals := 12 } : Room).slots) := by
  refine MetFree.of_bodySF (plainFor_of_name pn_2) hisR ?_
  intro p e s m args below meth c s₁ Bd hml0 hP hK
  obtain ⟨rfl, hZ, hh⟩ := hP
  have hx := Bd.exec
  have hby := Bd.bytes
  have hlk := Bd.notSynchronized
  have hret := Bd.returns
  have hml : c.maxLocals = 1 := hml0
  have hown : s.vm.findClass "java/lang/Record" = some m.cls := findClass_of_methodNamed Bd.named
  have hnm := (name_of_methodNamed Bd.named Bd.method).1
  have X0 : Stand p l e ({ frames := 1, cells := 0, slots := 0, locals := 12 } : Room) s m #[(.ref u0)] below meth c s₁ [] 0 0 := Stand.of_body Bd
  have e0 : s₁.heap = h0 := by rw [← hh, Bd.state]; rfl
  have N0 := Fr.nil n0
  suffices G0 : Rch p e below (Gd s (Q2 Z u0 h0 n0) ({ frames := 1, cells := 0, slots := 0, locals := 12 } : Room).cells ({ frames := 1, cells := 0, slots := 0, locals := 12 } : Room).slots) s₁ (mkF m 0 #[.val (.ref u0)] []) by
    obtain ⟨s₂, o, r1, r2, r3, r4⟩ := G0
    exact ⟨s₂, o, castTop (ef_2 m u0) r1, r2, r3, r4⟩
  refine own_go (T := s₁) (T' := s₁) (f := (mkF m 0 #[.val (.ref u0)] [])) (f' := (mkF m 1 #[.val (.ref u0)] [(.ref u0)])) (fun t k => ?_) ?_
  · show Steps p.tables e below (s₁.setTop (mkF m 0 #[.val (.ref u0)] [])) _
    refine XS.aloadN X0.here hx rfl (hb hby d2_0) rfl rfl ?_
    exact k
  obtain ⟨T1, X1, e1, st1⟩ := initO X0 hx hZ hown (hw _ (List.mem_of_getElem? (i := 11) rfl)) (hw _ (List.mem_of_getElem? (i := 12) rfl)) (hw _ (List.mem_of_getElem? (i := 13) rfl)) e0 (g := (mkF m 1 #[.val (.ref u0)] [(.ref u0)])) rfl (by rw [hml]; rfl) rfl (hb hby d2_1) (by decide) (W := 0) (by show 2 * 0 + _ ≤ _; exact Nat.le_of_eq rfl) (by decide)
  refine own_go st1 ?_
  show Rch p e below _ T1 (mkF m 4 #[.val (.ref u0)] [])
  exact own_retV X1 hx hlk hret (hb hby d2_4) (by decide) (by decide) (by rw [e1]; exact ⟨rfl, N0, rfl⟩)
theorem d1_0 : decode prog_54_method_1_code 0 = .ok (.aload_n 0, 1) := by decide +kernel
theorem d1_1 : decode prog_54_method_1_code 1 = .ok (.invokespecial 3, 3) := by decide +kernel
theorem pd__28_29V : parseMethodDescriptor "()V" = some ⟨[], none⟩ := by decide +kernel
theorem d1_4 : decode prog_54_method_1_code 4 = .ok (.aload_n 0, 1) := by decide +kernel
theorem d1_5 : decode prog_54_method_1_code 5 = .ok (.iload_n 1, 1) := by decide +kernel
theorem d1_6 : decode prog_54_method_1_code 6 = .ok (.putfield 9, 3) := by decide +kernel
theorem d1_9 : decode prog_54_method_1_code 9 = .ok (.aload_n 0, 1) := by decide +kernel
theorem d1_10 : decode prog_54_method_1_code 10 = .ok (.iload_n 2, 1) := by decide +kernel
theorem d1_11 : decode prog_54_method_1_code 11 = .ok (.putfield 15, 3) := by decide +kernel
theorem d1_14 : decode prog_54_method_1_code 14 = .ok (.aload_n 0, 1) := by decide +kernel
theorem d1_15 : decode prog_54_method_1_code 15 = .ok (.iload_n 3, 1) := by decide +kernel
theorem d1_16 : decode prog_54_method_1_code 16 = .ok (.putfield 18, 3) := by decide +kernel
theorem d1_19 : decode prog_54_method_1_code 19 = .ok (.return_, 1) := by decide +kernel
theorem pn_1 : plainName "com/example/deft_index/deftindex/index/DocsLayout" = true := by first | (simp [plainName, overriddenIn]; done) | decide +kernel
theorem ef_1 (m : MethodId) (x0 : Addr) (x1 : Int32) (x2 : Int32) (x3 : Int32) : entryFrame m #[(.ref x0), (.int x1), (.int x2), (.int x3)] 4 = mkF m 0 #[.val (.ref x0), .val (.int x1), .val (.int x2), .val (.int x3)] [] := by first | (simp [entryFrame, mkF, argsToLocals, Value.category]; done) | rfl
def Q1 (Z : State) (u0 : Addr) (p1 : Int32) (p2 : Int32) (p3 : Int32) (h0 : Heap) (n0 : Nat) (v : Option Value) (h : Heap) (L : List Loc) : Prop := v = none ∧ Fr n0 L ∧ Keep h0 h [u0] ∧ Exa Z h u0 "com/example/deft_index/deftindex/index/DocsLayout" ∧ Fld Z h u0 "com/example/deft_index/deftindex/index/DocsLayout" "offsetBits" "I" (.int p2) ∧ Fld Z h u0 "com/example/deft_index/deftindex/index/DocsLayout" "lengthBits" "I" (.int p3)
set_option maxRecDepth 65536 in
set_option maxHeartbeats 40000000 in
theorem rm1 (l : Launch) (Z : State) (a0 : Array Value) (hw : ∀ d ∈ tables_1, d.before a0 Z = true) (ws : List Jvm.Cond) (u0 : Addr) (p1 : Int32) (p2 : Int32) (p3 : Int32) (h0 : Heap) (n0 : Nat) (Z0 : n0 ≤ h0.size) (Fd : Fld Z h0 u0 "com/example/deft_index/deftindex/index/DocsLayout" "documents" "I" (.int (0 : Int32))) (Fo : Fld Z h0 u0 "com/example/deft_index/deftindex/index/DocsLayout" "offsetBits" "I" (.int (0 : Int32))) (Fl : Fld Z h0 u0 "com/example/deft_index/deftindex/index/DocsLayout" "lengthBits" "I" (.int (0 : Int32))) (E : Exa Z h0 u0 "com/example/deft_index/deftindex/index/DocsLayout") (g : n0 ≤ u0) :
    MetFree l (⟨"com/example/deft_index/deftindex/index/DocsLayout", "<init>", "(III)V"⟩ : MethodName) (head1 (Jvm.Cond.code (⟨"com/example/deft_index/deftindex/index/DocsLayout", "<init>", "(III)V"⟩ : MethodName) prog_54_method_1_code 4 none :: ws) ({ frames := 2, cells := 0, slots := 0, locals := 24 } : Room)) (fun a U => a = #[(.ref u0), (.int p1), (.int p2), (.int p3)] ∧ Z.Warmed39 U.vm ∧ U.heap = h0) (fun _ _ _ _ _ => True) (fun _ U o U' => ∃ v L, o = .returned v ∧ Q1 Z u0 p1 p2 p3 h0 n0 v U'.heap L ∧ FrameEnd U o U' L ({ frames := 2, cells := 0, slots := 0, locals := 24 } : Room).cells ({ frames := 2, cells := 0, slots := 0, locals := 24 } : Room).slots) := by
  refine MetFree.of_bodySF (plainFor_of_name pn_1) hisR ?_
  intro p e s m args below meth c s₁ Bd hml0 hP hK
  obtain ⟨rfl, hZ, hh⟩ := hP
  have hx := Bd.exec
  have hby := Bd.bytes
  have hlk := Bd.notSynchronized
  have hret := Bd.returns
  have hml : c.maxLocals = 4 := hml0
  have hown : s.vm.findClass "com/example/deft_index/deftindex/index/DocsLayout" = some m.cls := findClass_of_methodNamed Bd.named
  have hnm := (name_of_methodNamed Bd.named Bd.method).1
  have X0 : Stand p l e ({ frames := 2, cells := 0, slots := 0, locals := 24 } : Room) s m #[(.ref u0), (.int p1), (.int p2), (.int p3)] below meth c s₁ [] 0 0 := Stand.of_body Bd
  have e0 : s₁.heap = h0 := by rw [← hh, Bd.state]; rfl
  have N0 := Fr.nil n0
  suffices G0 : Rch p e below (Gd s (Q1 Z u0 p1 p2 p3 h0 n0) ({ frames := 2, cells := 0, slots := 0, locals := 24 } : Room).cells ({ frames := 2, cells := 0, slots := 0, locals := 24 } : Room).slots) s₁ (mkF m 0 #[.val (.ref u0), .val (.int p1), .val (.int p2), .val (.int p3)] []) by
    obtain ⟨s₂, o, r1, r2, r3, r4⟩ := G0
    exact ⟨s₂, o, castTop (ef_1 m u0 p1 p2 p3) r1, r2, r3, r4⟩
  refine own_go (T := s₁) (T' := s₁) (f := (mkF m 0 #[.val (.ref u0), .val (.int p1), .val (.int p2), .val (.int p3)] [])) (f' := (mkF m 1 #[.val (.ref u0), .val (.int p1), .val (.int p2), .val (.int p3)] [(.ref u0)])) (fun t k => ?_) ?_
  · show Steps p.tables e below (s₁.setTop (mkF m 0 #[.val (.ref u0), .val (.int p1), .val (.int p2), .val (.int p3)] [])) _
    refine XS.aloadN X0.here hx rfl (hb hby d1_0) rfl rfl ?_
    exact k
  obtain ⟨_, _, ⟨T2, L2, k2, n2⟩, -, X2, ⟨Lc2, hQ2, l2, y2, z2⟩, st2⟩ := X0.specialBack hx (y := (⟨"java/lang/Record", "<init>", "()V"⟩ : MethodName)) rfl hown (mvT hZ (hw _ (List.mem_of_getElem? (i := 6) rfl))) (mvT hZ (hw _ (List.mem_of_getElem? (i := 7) rfl))) (mvT hZ (hw _ (List.mem_of_getElem? (i := 10) rfl))) (by decide) (backOf (W := 0) (rm2 l Z a0 hw [] u0 h0 n0 Z0) hZ (hw _ (List.mem_of_getElem? (i := 10) rfl)) (hw _ (List.mem_of_getElem? (i := 9) rfl)) (by decide) (by decide)) (g := (mkF m 1 #[.val (.ref u0), .val (.int p1), .val (.int p2), .val (.int p3)] [(.ref u0)])) rfl (by rw [hml]; rfl) (Steps.refl _) (a := u0) (argsL := []) (rest := []) (lenOf pd__28_29V rfl) rfl (by show 2 * 0 + _ ≤ _; exact Nat.le_of_eq rfl) (hb hby d1_1) (fun _ _ => ⟨rfl, e0, (by decide : 0 + 0 ≤ _), (by decide : 0 + 0 ≤ _)⟩)
  dsimp only [Pt.U, Pt.locs, Pt.cells, Pt.slots] at X2 l2 y2 z2 st2 hQ2
  subst l2 y2 z2
  obtain ⟨rfl, N2q, e2⟩ := hQ2
  have N2 := Fr.app N0 N2q
  refine own_go2 st2 ?_
  show Rch p e below _ T2 (mkF m 4 #[.val (.ref u0), .val (.int p1), .val (.int p2), .val (.int p3)] [])
  refine own_go (T := T2) (T' := T2) (f := (mkF m 4 #[.val (.ref u0), .val (.int p1), .val (.int p2), .val (.int p3)] [])) (f' := (mkF m 6 #[.val (.ref u0), .val (.int p1), .val (.int p2), .val (.int p3)] [(.int p1), (.ref u0)])) (fun t k => ?_) ?_
  · show Steps p.tables e below (T2.setTop (mkF m 4 #[.val (.ref u0), .val (.int p1), .val (.int p2), .val (.int p3)] [])) _
    refine XS.aloadN X2.here hx rfl (hb hby d1_4) rfl rfl ?_
    show Steps p.tables e below (T2.setTop (mkF m 5 #[.val (.ref u0), .val (.int p1), .val (.int p2), .val (.int p3)] [(.ref u0)])) _
    refine XS.iloadN X2.here hx rfl (hb hby d1_5) rfl ?_
    exact k
  obtain ⟨T3, h3, X3, e3, W3, st3⟩ := putF X2 hx hZ hown (host := "") (Or.inl (hw _ (List.mem_of_getElem? (i := 14) rfl))) Via.refl e2 Fd E (Or.inr ⟨(hw _ (List.mem_of_getElem? (i := 15) rfl)), rfl, hnm⟩) (hw _ (List.mem_of_getElem? (i := 1) rfl)) (ty := .int) (by decide) rfl rfl (g := (mkF m 6 #[.val (.ref u0), .val (.int p1), .val (.int p2), .val (.int p3)] [(.int p1), (.ref u0)])) rfl rfl (hb hby d1_6)
  have N3 := Fr.snoc X3 N2 g
  refine own_go st3 ?_
  show Rch p e below _ T3 (mkF m 9 #[.val (.ref u0), .val (.int p1), .val (.int p2), .val (.int p3)] [])
  refine own_go (T := T3) (T' := T3) (f := (mkF m 9 #[.val (.ref u0), .val (.int p1), .val (.int p2), .val (.int p3)] [])) (f' := (mkF m 11 #[.val (.ref u0), .val (.int p1), .val (.int p2), .val (.int p3)] [(.int p2), (.ref u0)])) (fun t k => ?_) ?_
  · show Steps p.tables e below (T3.setTop (mkF m 9 #[.val (.ref u0), .val (.int p1), .val (.int p2), .val (.int p3)] [])) _
    refine XS.aloadN X3.here hx rfl (hb hby d1_9) rfl rfl ?_
    show Steps p.tables e below (T3.setTop (mkF m 10 #[.val (.ref u0), .val (.int p1), .val (.int p2), .val (.int p3)] [(.ref u0)])) _
    refine XS.iloadN X3.here hx rfl (hb hby d1_10) rfl ?_
    exact k
  have Fo1 := (Fo.other W3 (Or.inr (slot_ne (Or.inr (hw _ (List.mem_of_getElem? (i := 17) rfl))) (Or.inr (hw _ (List.mem_of_getElem? (i := 15) rfl))) (by decide) (t := .int) (t' := .int) (by decide) (by decide))))
  obtain ⟨T4, h4, X4, e4, W4, st4⟩ := putF X3 hx hZ hown (host := "") (Or.inl (hw _ (List.mem_of_getElem? (i := 16) rfl))) Via.refl e3 Fo1 (E.wr W3) (Or.inr ⟨(hw _ (List.mem_of_getElem? (i := 17) rfl)), rfl, hnm⟩) (hw _ (List.mem_of_getElem? (i := 1) rfl)) (ty := .int) (by decide) rfl rfl (g := (mkF m 11 #[.val (.ref u0), .val (.int p1), .val (.int p2), .val (.int p3)] [(.int p2), (.ref u0)])) rfl rfl (hb hby d1_11)
  have N4 := Fr.snoc X4 N3 g
  refine own_go st4 ?_
  show Rch p e below _ T4 (mkF m 14 #[.val (.ref u0), .val (.int p1), .val (.int p2), .val (.int p3)] [])
  have Fl1 := (Fl.other W3 (Or.inr (slot_ne (Or.inr (hw _ (List.mem_of_getElem? (i := 19) rfl))) (Or.inr (hw _ (List.mem_of_getElem? (i := 15) rfl))) (by decide) (t := .int) (t' := .int) (by decide) (by decide))))
  have Fl2 := (Fl1.other W4 (Or.inr (slot_ne (Or.inr (hw _ (List.mem_of_getElem? (i := 19) rfl))) (Or.inr (hw _ (List.mem_of_getElem? (i := 17) rfl))) (by decide) (t := .int) (t' := .int) (by decide) (by decide))))
  refine own_go (T := T4) (T' := T4) (f := (mkF m 14 #[.val (.ref u0), .val (.int p1), .val (.int p2), .val (.int p3)] [])) (f' := (mkF m 16 #[.val (.ref u0), .val (.int p1), .val (.int p2), .val (.int p3)] [(.int p3), (.ref u0)])) (fun t k => ?_) ?_
  · show Steps p.tables e below (T4.setTop (mkF m 14 #[.val (.ref u0), .val (.int p1), .val (.int p2), .val (.int p3)] [])) _
    refine XS.aloadN X4.here hx rfl (hb hby d1_14) rfl rfl ?_
    show Steps p.tables e below (T4.setTop (mkF m 15 #[.val (.ref u0), .val (.int p1), .val (.int p2), .val (.int p3)] [(.ref u0)])) _
    refine XS.iloadN X4.here hx rfl (hb hby d1_15) rfl ?_
    exact k
  obtain ⟨T5, h5, X5, e5, W5, st5⟩ := putF X4 hx hZ hown (host := "") (Or.inl (hw _ (List.mem_of_getElem? (i := 18) rfl))) Via.refl e4 Fl2 ((E.wr W3).wr W4) (Or.inr ⟨(hw _ (List.mem_of_getElem? (i := 19) rfl)), rfl, hnm⟩) (hw _ (List.mem_of_getElem? (i := 1) rfl)) (ty := .int) (by decide) rfl rfl (g := (mkF m 16 #[.val (.ref u0), .val (.int p1), .val (.int p2), .val (.int p3)] [(.int p3), (.ref u0)])) rfl rfl (hb hby d1_16)
  have N5 := Fr.snoc X5 N4 g
  refine own_go st5 ?_
  show Rch p e below _ T5 (mkF m 19 #[.val (.ref u0), .val (.int p1), .val (.int p2), .val (.int p3)] [])
  have Fo2 := Fo1.same W4
  have Fo3 := (Fo2.other W5 (Or.inr (slot_ne (Or.inr (hw _ (List.mem_of_getElem? (i := 17) rfl))) (Or.inr (hw _ (List.mem_of_getElem? (i := 19) rfl))) (by decide) (t := .int) (t' := .int) (by decide) (by decide))))
  have Fl3 := Fl2.same W5
  exact own_retV X5 hx hlk hret (hb hby d1_19) (by decide) (by decide) (by rw [e5]; exact ⟨rfl, N5, ((((Keep.refl h0 [u0]).wr W3 (Or.inl (List.mem_of_getElem? (i := 0) rfl))).wr W4 (Or.inl (List.mem_of_getElem? (i := 0) rfl))).wr W5 (Or.inl (List.mem_of_getElem? (i := 0) rfl))), (((E.wr W3).wr W4).wr W5), Fo3, Fl3⟩)
theorem d4_0 : decode prog_54_method_4_code 0 = .ok (.iconst 2, 1) := by decide +kernel
theorem d4_1 : decode prog_54_method_4_code 1 = .ok (.newarray .byte, 2) := by decide +kernel
theorem d4_3 : decode prog_54_method_4_code 3 = .ok (.dup, 1) := by decide +kernel
theorem d4_4 : decode prog_54_method_4_code 4 = .ok (.iconst 0, 1) := by decide +kernel
theorem d4_5 : decode prog_54_method_4_code 5 = .ok (.aload_n 0, 1) := by decide +kernel
theorem d4_6 : decode prog_54_method_4_code 6 = .ok (.getfield 15, 3) := by decide +kernel
theorem d4_9 : decode prog_54_method_4_code 9 = .ok (.i2b, 1) := by decide +kernel
theorem d4_10 : decode prog_54_method_4_code 10 = .ok (.bastore, 1) := by decide +kernel
theorem d4_11 : decode prog_54_method_4_code 11 = .ok (.dup, 1) := by decide +kernel
theorem d4_12 : decode prog_54_method_4_code 12 = .ok (.iconst 1, 1) := by decide +kernel
theorem d4_13 : decode prog_54_method_4_code 13 = .ok (.aload_n 0, 1) := by decide +kernel
theorem d4_14 : decode prog_54_method_4_code 14 = .ok (.getfield 18, 3) := by decide +kernel
theorem d4_17 : decode prog_54_method_4_code 17 = .ok (.i2b, 1) := by decide +kernel
theorem d4_18 : decode prog_54_method_4_code 18 = .ok (.bastore, 1) := by decide +kernel
theorem d4_19 : decode prog_54_method_4_code 19 = .ok (.areturn, 1) := by decide +kernel
theorem pn_4 : plainName "com/example/deft_index/deftindex/index/DocsLayout" = true := by first | (simp [plainName, overriddenIn]; done) | decide +kernel
theorem ef_4 (m : MethodId) (x0 : Addr) : entryFrame m #[(.ref x0)] 1 = mkF m 0 #[.val (.ref x0)] [] := by first | (simp [entryFrame, mkF, argsToLocals, Value.category]; done) | rfl
def Q4 (Z : State) (u0 : Addr) (x : Int32) (y : Int32) (h0 : Heap) (n0 : Nat) (v : Option Value) (h : Heap) (L : List Loc) : Prop := ∃ (b : Addr) (k : ClassId), v = some (.ref b) ∧ Fr n0 L ∧ h0.size ≤ b ∧ Keep h0 h [] ∧ Arv Z h b k .byte (2 : Int32) [.int x, .int y] (.int (0 : Int32))
set_option maxRecDepth 65536 in
set_option maxHeartbeats 40000000 in
theorem rm4 (l : Launch) (Z : State) (a0 : Array Value) (hw : ∀ d ∈ tables_1, d.before a0 Z = true) (ws : List Jvm.Cond) (u0 : Addr) (x : Int32) (y : Int32) (h0 : Heap) (n0 : Nat) (Z0 : n0 ≤ h0.size) (Fo : Fld Z h0 u0 "com/example/deft_index/deftindex/index/DocsLayout" "offsetBits" "I" (.int x)) (Fl : Fld Z h0 u0 "com/example/deft_index/deftindex/index/DocsLayout" "lengthBits" "I" (.int y)) (hbx : x.toInt8.toInt32 = x) (hby1 : y.toInt8.toInt32 = y) :
    MetFree l (⟨"com/example/deft_index/deftindex/index/DocsLayout", "header", "()[B"⟩ : MethodName) (head1 (Jvm.Cond.code (⟨"com/example/deft_index/deftindex/index/DocsLayout", "header", "()[B"⟩ : MethodName) prog_54_method_4_code 1 (some (.array .byte)) :: ws) ({ frames := 0, cells := 1, slots := 2, locals := 0 } : Room)) (fun a U => a = #[(.ref u0)] ∧ Z.Warmed39 U.vm ∧ U.heap = h0) (fun _ _ _ _ _ => True) (fun _ U o U' => ∃ v L, o = .returned v ∧ Q4 Z u0 x y h0 n0 v U'.heap L ∧ FrameEnd U o U' L ({ frames := 0, cells := 1, slots := 2, locals := 0 } : Room).cells ({ frames := 0, cells := 1, slots := 2, locals := 0 } : Room).slots) := by
  refine MetFree.of_bodySF (plainFor_of_name pn_4) hisR ?_
  intro p e s m args below meth c s₁ Bd hml0 hP hK
  obtain ⟨rfl, hZ, hh⟩ := hP
  have hx := Bd.exec
  have hby := Bd.bytes
  have hlk := Bd.notSynchronized
  have hret := Bd.returns
  have hml : c.maxLocals = 1 := hml0
  have hown : s.vm.findClass "com/example/deft_index/deftindex/index/DocsLayout" = some m.cls := findClass_of_methodNamed Bd.named
  have hnm := (name_of_methodNamed Bd.named Bd.method).1
  have X0 : Stand p l e ({ frames := 0, cells := 1, slots := 2, locals := 0 } : Room) s m #[(.ref u0)] below meth c s₁ [] 0 0 := Stand.of_body Bd
  have e0 : s₁.heap = h0 := by rw [← hh, Bd.state]; rfl
  have N0 := Fr.nil n0
  suffices G0 : Rch p e below (Gd s (Q4 Z u0 x y h0 n0) ({ frames := 0, cells := 1, slots := 2, locals := 0 } : Room).cells ({ frames := 0, cells := 1, slots := 2, locals := 0 } : Room).slots) s₁ (mkF m 0 #[.val (.ref u0)] []) by
    obtain ⟨s₂, o, r1, r2, r3, r4⟩ := G0
    exact ⟨s₂, o, castTop (ef_4 m u0) r1, r2, r3, r4⟩
  refine own_go (T := s₁) (T' := s₁) (f := (mkF m 0 #[.val (.ref u0)] [])) (f' := (mkF m 1 #[.val (.ref u0)] [(.int (2 : Int32))])) (fun t k => ?_) ?_
  · show Steps p.tables e below (s₁.setTop (mkF m 0 #[.val (.ref u0)] [])) _
    refine XS.iconst X0.here hx rfl (hb hby d4_0) ?_
    exact k
  obtain ⟨T6, h6, k6, X6, e6, E6, A6, st6⟩ := newP X0 hx hZ (hw _ (List.mem_of_getElem? (i := 25) rfl)) e0 (g := (mkF m 1 #[.val (.ref u0)] [(.int (2 : Int32))])) rfl (hb hby d4_1) rfl (by decide) (cap := 2) (by decide) (by decide) (by decide) (by decide)
  obtain ⟨b6, g6⟩ : ∃ z, z = h0.size := ⟨_, rfl⟩
  rw [← g6] at A6 st6
  have V6 : Arv Z h6 b6 k6 .byte (2 : Int32) [] (.int (0 : Int32)) := Arv.new A6 (by decide)
  refine own_go st6 ?_
  show Rch p e below _ T6 (mkF m 3 #[.val (.ref u0)] [(.ref b6)])
  have V0 : Arv Z h6 b6 k6 .byte (2 : Int32) [(.int (0 : Int32)), (.int (0 : Int32))] (.int (0 : Int32)) := V6.pad (pad_rep [] (.int (0 : Int32)) 2)
  have ne0 : u0 ≠ b6 := Nat.ne_of_lt (Nat.lt_of_lt_of_le Fo.lt (Nat.le_of_eq g6.symm))
  have gb : n0 ≤ b6 := Nat.le_trans Z0 (Nat.le_of_eq g6.symm)
  refine own_go (T := T6) (T' := T6) (f := (mkF m 3 #[.val (.ref u0)] [(.ref b6)])) (f' := (mkF m 6 #[.val (.ref u0)] [(.ref u0), (.int (0 : Int32)), (.ref b6), (.ref b6)])) (fun t k => ?_) ?_
  · show Steps p.tables e below (T6.setTop (mkF m 3 #[.val (.ref u0)] [(.ref b6)])) _
    refine XS.dup X6.here hx rfl (hb hby d4_3) rfl rfl ?_
    show Steps p.tables e below (T6.setTop (mkF m 4 #[.val (.ref u0)] [(.ref b6), (.ref b6)])) _
    refine XS.iconst X6.here hx rfl (hb hby d4_4) ?_
    show Steps p.tables e below (T6.setTop (mkF m 5 #[.val (.ref u0)] [(.int (0 : Int32)), (.ref b6), (.ref b6)])) _
    refine XS.aloadN X6.here hx rfl (hb hby d4_5) rfl rfl ?_
    exact k
  obtain ⟨T7, X7, e7, st7⟩ := getF X6 hx hZ hown (host := "") (Or.inl (hw _ (List.mem_of_getElem? (i := 16) rfl))) Via.refl e6 (Fo.ext E6) (g := (mkF m 6 #[.val (.ref u0)] [(.ref u0), (.int (0 : Int32)), (.ref b6), (.ref b6)])) rfl rfl (hb hby d4_6)
  refine own_go st7 ?_
  show Rch p e below _ T7 (mkF m 9 #[.val (.ref u0)] [(.int x), (.int (0 : Int32)), (.ref b6), (.ref b6)])
  refine own_go (T := T7) (T' := T7) (f := (mkF m 9 #[.val (.ref u0)] [(.int x), (.int (0 : Int32)), (.ref b6), (.ref b6)])) (f' := (mkF m 10 #[.val (.ref u0)] [(.int (x.toInt8.toInt32)), (.int (0 : Int32)), (.ref b6), (.ref b6)])) (fun t k => ?_) ?_
  · show Steps p.tables e below (T7.setTop (mkF m 9 #[.val (.ref u0)] [(.int x), (.int (0 : Int32)), (.ref b6), (.ref b6)])) _
    refine XS.i2b X7.here hx rfl (hb hby d4_9) rfl ?_
    exact k
  obtain ⟨cl8, Ar8, q18, q28, q38, q48, q58⟩ := id V0
  have hin8 : ¬ ((0 : Int32) < 0 ∨ cl8.slots.size ≤ ((0 : Int32)).toNatClampNeg) := inb_of q28 ⟨by decide, by decide⟩
  obtain ⟨T8, h8, X8, e8, W8, st8⟩ := stB X7 hx hZ e7 Ar8 (j := (0 : Int32)) hin8 (g := (mkF m 10 #[.val (.ref u0)] [(.int (x.toInt8.toInt32)), (.int (0 : Int32)), (.ref b6), (.ref b6)])) rfl rfl (hb hby d4_10)
  have V8 := Arv.set Ar8 q18 q28 q38 q48 q58 (fits_nar_byte _) W8 0 rfl (Nat.le_of_ble_eq_true rfl)
  have N8 := Fr.snoc X8 N0 gb
  refine own_go st8 ?_
  show Rch p e below _ T8 (mkF m 11 #[.val (.ref u0)] [(.ref b6)])
  refine own_go (T := T8) (T' := T8) (f := (mkF m 11 #[.val (.ref u0)] [(.ref b6)])) (f' := (mkF m 14 #[.val (.ref u0)] [(.ref u0), (.int (1 : Int32)), (.ref b6), (.ref b6)])) (fun t k => ?_) ?_
  · show Steps p.tables e below (T8.setTop (mkF m 11 #[.val (.ref u0)] [(.ref b6)])) _
    refine XS.dup X8.here hx rfl (hb hby d4_11) rfl rfl ?_
    show Steps p.tables e below (T8.setTop (mkF m 12 #[.val (.ref u0)] [(.ref b6), (.ref b6)])) _
    refine XS.iconst X8.here hx rfl (hb hby d4_12) ?_
    show Steps p.tables e below (T8.setTop (mkF m 13 #[.val (.ref u0)] [(.int (1 : Int32)), (.ref b6), (.ref b6)])) _
    refine XS.aloadN X8.here hx rfl (hb hby d4_13) rfl rfl ?_
    exact k
  obtain ⟨T9, X9, e9, st9⟩ := getF X8 hx hZ hown (host := "") (Or.inl (hw _ (List.mem_of_getElem? (i := 18) rfl))) Via.refl e8 ((Fl.ext E6).other W8 (Or.inl ne0)) (g := (mkF m 14 #[.val (.ref u0)] [(.ref u0), (.int (1 : Int32)), (.ref b6), (.ref b6)])) rfl rfl (hb hby d4_14)
  refine own_go st9 ?_
  show Rch p e below _ T9 (mkF m 17 #[.val (.ref u0)] [(.int y), (.int (1 : Int32)), (.ref b6), (.ref b6)])
  refine own_go (T := T9) (T' := T9) (f := (mkF m 17 #[.val (.ref u0)] [(.int y), (.int (1 : Int32)), (.ref b6), (.ref b6)])) (f' := (mkF m 18 #[.val (.ref u0)] [(.int (y.toInt8.toInt32)), (.int (1 : Int32)), (.ref b6), (.ref b6)])) (fun t k => ?_) ?_
  · show Steps p.tables e below (T9.setTop (mkF m 17 #[.val (.ref u0)] [(.int y), (.int (1 : Int32)), (.ref b6), (.ref b6)])) _
    refine XS.i2b X9.here hx rfl (hb hby d4_17) rfl ?_
    exact k
  obtain ⟨cl10, Ar10, q110, q210, q310, q410, q510⟩ := id V8
  have hin10 : ¬ ((1 : Int32) < 0 ∨ cl10.slots.size ≤ ((1 : Int32)).toNatClampNeg) := inb_of q210 ⟨by decide, by decide⟩
  obtain ⟨T10, h10, X10, e10, W10, st10⟩ := stB X9 hx hZ e9 Ar10 (j := (1 : Int32)) hin10 (g := (mkF m 18 #[.val (.ref u0)] [(.int (y.toInt8.toInt32)), (.int (1 : Int32)), (.ref b6), (.ref b6)])) rfl rfl (hb hby d4_18)
  have V10 := Arv.set Ar10 q110 q210 q310 q410 q510 (fits_nar_byte _) W10 1 rfl (Nat.le_of_ble_eq_true rfl)
  have N10 := Fr.snoc X10 N8 gb
  refine own_go st10 ?_
  show Rch p e below _ T10 (mkF m 19 #[.val (.ref u0)] [(.ref b6)])
  have Vf : Arv Z h10 b6 k6 .byte (2 : Int32) [.int x, .int y] (.int (0 : Int32)) := by
    have q := V10
    simp only [hbx, hby1] at q
    exact q
  exact own_retA X10 hx hlk hret rfl rfl (hb hby d4_19) (by decide) (by decide) (by rw [e10]; exact ⟨b6, k6, rfl, N10, (Nat.le_of_eq g6.symm), ((((Keep.refl h0 []).ext E6).wr W8 (Or.inr (Nat.le_of_eq g6.symm))).wr W10 (Or.inr (Nat.le_of_eq g6.symm))), Vf⟩)
theorem pd__28III_29V : parseMethodDescriptor "(III)V" = some ⟨[.int, .int, .int], none⟩ := by decide +kernel
theorem pd__28_29_5bB : parseMethodDescriptor "()[B" = some ⟨[], some (.array .byte)⟩ := by decide +kernel
theorem pn_0 : plainName "com/example/deft_index/deftindex/index/DocsLayoutHeaderPinLaw" = true := by first | (simp [plainName, overriddenIn]; done) | decide +kernel
theorem ef_0 (m : MethodId) (x0 : Int32) (x1 : Int32) (x2 : Int32) : entryFrame m #[(.int x0), (.int x1), (.int x2)] maxLocals = mkF m 0 #[.val (.int x0), .val (.int x1), .val (.int x2), .unset, .unset, .unset, .unset, .unset, .unset, .unset, .unset, .unset] [] := by first | (simp [entryFrame, mkF, argsToLocals, Value.category, maxLocals]; done) | rfl
def Q0 (Z : State) (p0 : Int32) (p1 : Int32) (p2 : Int32) (h0 : Heap) (n0 : Nat) (v : Option Value) (h : Heap) (L : List Loc) : Prop := v = some (.int 1) ∧ Fr n0 L
set_option maxRecDepth 65536 in
set_option maxHeartbeats 40000000 in
theorem rm0 (l : Launch) (Z : State) (a0 : Array Value) (hw : ∀ d ∈ tables_1, d.before a0 Z = true) (ws : List Jvm.Cond) (p0 : Int32) (p1 : Int32) (p2 : Int32) (h0 : Heap) (n0 : Nat) (Z0 : n0 ≤ h0.size) :
    MetFree l x (head1 (Jvm.Cond.code x code maxLocals ret :: ws) room_1) (fun a U => a = #[(.int p0), (.int p1), (.int p2)] ∧ Z.Warmed39 U.vm ∧ U.heap = h0) (fun _ _ _ _ _ => True) (fun _ U o U' => ∃ v L, o = .returned v ∧ Q0 Z p0 p1 p2 h0 n0 v U'.heap L ∧ FrameEnd U o U' L room_1.cells room_1.slots) := by
  refine MetFree.of_bodySF (plainFor_of_name pn_0) hisR ?_
  intro p e s m args below meth c s₁ Bd hml0 hP hK
  obtain ⟨rfl, hZ, hh⟩ := hP
  have hx := Bd.exec
  have hby := Bd.bytes
  have hlk := Bd.notSynchronized
  have hret := Bd.returns
  have hml : c.maxLocals = 12 := hml0
  have hown : s.vm.findClass "com/example/deft_index/deftindex/index/DocsLayoutHeaderPinLaw" = some m.cls := findClass_of_methodNamed Bd.named
  have hnm := (name_of_methodNamed Bd.named Bd.method).1
  have X0 : Stand p l e room_1 s m #[(.int p0), (.int p1), (.int p2)] below meth c s₁ [] 0 0 := Stand.of_body Bd
  have e0 : s₁.heap = h0 := by rw [← hh, Bd.state]; rfl
  have N0 := Fr.nil n0
  suffices G0 : Rch p e below (Gd s (Q0 Z p0 p1 p2 h0 n0) room_1.cells room_1.slots) s₁ (mkF m 0 #[.val (.int p0), .val (.int p1), .val (.int p2), .unset, .unset, .unset, .unset, .unset, .unset, .unset, .unset, .unset] []) by
    obtain ⟨s₂, o, r1, r2, r3, r4⟩ := G0
    exact ⟨s₂, o, castTop (ef_0 m p0 p1 p2) r1, r2, r3, r4⟩
  refine own_go (T := s₁) (T' := s₁) (f := (mkF m 0 #[.val (.int p0), .val (.int p1), .val (.int p2), .unset, .unset, .unset, .unset, .unset, .unset, .unset, .unset, .unset] [])) (f' := (mkF m 11 #[.val (.int p0), .val (.int p1), .val (.int p2), .val (.int (p1 &&& (31 : Int32))), .val (.int (p2 &&& (31 : Int32))), .unset, .unset, .unset, .unset, .unset, .unset, .unset] [])) (fun t k => ?_) ?_
  · show Steps p.tables e below (s₁.setTop (mkF m 0 #[.val (.int p0), .val (.int p1), .val (.int p2), .unset, .unset, .unset, .unset, .unset, .unset, .unset, .unset, .unset] [])) _
    refine XS.iloadN X0.here hx rfl (hb hby at_0) rfl ?_
    show Steps p.tables e below (s₁.setTop (mkF m 1 #[.val (.int p0), .val (.int p1), .val (.int p2), .unset, .unset, .unset, .unset, .unset, .unset, .unset, .unset, .unset] [(.int p1)])) _
    refine XS.bipush X0.here hx rfl (hb hby at_1) ?_
    show Steps p.tables e below (s₁.setTop (mkF m 3 #[.val (.int p0), .val (.int p1), .val (.int p2), .unset, .unset, .unset, .unset, .unset, .unset, .unset, .unset, .unset] [(.int (31 : Int32)), (.int p1)])) _
    refine XS.iand X0.here hx rfl (hb hby at_3) rfl ?_
    show Steps p.tables e below (s₁.setTop (mkF m 4 #[.val (.int p0), .val (.int p1), .val (.int p2), .unset, .unset, .unset, .unset, .unset, .unset, .unset, .unset, .unset] [(.int (p1 &&& (31 : Int32)))])) _
    refine XS.istoreN X0.here hx rfl (hb hby at_4) rfl (l' := #[.val (.int p0), .val (.int p1), .val (.int p2), .val (.int (p1 &&& (31 : Int32))), .unset, .unset, .unset, .unset, .unset, .unset, .unset, .unset]) rfl ?_
    show Steps p.tables e below (s₁.setTop (mkF m 5 #[.val (.int p0), .val (.int p1), .val (.int p2), .val (.int (p1 &&& (31 : Int32))), .unset, .unset, .unset, .unset, .unset, .unset, .unset, .unset] [])) _
    refine XS.iloadN X0.here hx rfl (hb hby at_5) rfl ?_
    show Steps p.tables e below (s₁.setTop (mkF m 6 #[.val (.int p0), .val (.int p1), .val (.int p2), .val (.int (p1 &&& (31 : Int32))), .unset, .unset, .unset, .unset, .unset, .unset, .unset, .unset] [(.int p2)])) _
    refine XS.bipush X0.here hx rfl (hb hby at_6) ?_
    show Steps p.tables e below (s₁.setTop (mkF m 8 #[.val (.int p0), .val (.int p1), .val (.int p2), .val (.int (p1 &&& (31 : Int32))), .unset, .unset, .unset, .unset, .unset, .unset, .unset, .unset] [(.int (31 : Int32)), (.int p2)])) _
    refine XS.iand X0.here hx rfl (hb hby at_8) rfl ?_
    show Steps p.tables e below (s₁.setTop (mkF m 9 #[.val (.int p0), .val (.int p1), .val (.int p2), .val (.int (p1 &&& (31 : Int32))), .unset, .unset, .unset, .unset, .unset, .unset, .unset, .unset] [(.int (p2 &&& (31 : Int32)))])) _
    refine XS.istore X0.here hx rfl (hb hby at_9) rfl (l' := #[.val (.int p0), .val (.int p1), .val (.int p2), .val (.int (p1 &&& (31 : Int32))), .val (.int (p2 &&& (31 : Int32))), .unset, .unset, .unset, .unset, .unset, .unset, .unset]) rfl ?_
    exact k
  suffices J11 : ∀ x y : Int32, x.toInt8.toInt32 = x → y.toInt8.toInt32 = y → Rch p e below (Gd s (Q0 Z p0 p1 p2 h0 n0) room_1.cells room_1.slots) s₁ (mkF m 11 #[.val (.int p0), .val (.int p1), .val (.int p2), .val (.int x), .val (.int y), .unset, .unset, .unset, .unset, .unset, .unset, .unset] []) by
    have q1 := c_mask p1 31 5 (by decide) (by decide)
    have q2 := c_mask p2 31 5 (by decide) (by decide)
    exact J11 _ _ (own_small _ (by omega) (by omega)) (own_small _ (by omega) (by omega))
  intro x y hbx hby1
  obtain ⟨T11, h11, X11, e11, E11, A11, D11, -, st11⟩ := newO X0 hx hZ hown (hw _ (List.mem_of_getElem? (i := 0) rfl)) (hw _ (List.mem_of_getElem? (i := 1) rfl)) (hw _ (List.mem_of_getElem? (i := 2) rfl)) e0 (g := (mkF m 11 #[.val (.int p0), .val (.int p1), .val (.int p2), .val (.int x), .val (.int y), .unset, .unset, .unset, .unset, .unset, .unset, .unset] [])) rfl (hb hby at_11) (by decide) (by decide)
  obtain ⟨b11, g11⟩ : ∃ z, z = h0.size := ⟨_, rfl⟩
  rw [← g11] at A11 D11 st11
  have F_documents_b11 : Fld Z h11 b11 "com/example/deft_index/deftindex/index/DocsLayout" "documents" "I" (.int (0 : Int32)) := D11 (Or.inr (hw _ (List.mem_of_getElem? (i := 15) rfl))) (ty := .int) (by decide)
  have F_offsetBits_b11 : Fld Z h11 b11 "com/example/deft_index/deftindex/index/DocsLayout" "offsetBits" "I" (.int (0 : Int32)) := D11 (Or.inr (hw _ (List.mem_of_getElem? (i := 17) rfl))) (ty := .int) (by decide)
  have F_lengthBits_b11 : Fld Z h11 b11 "com/example/deft_index/deftindex/index/DocsLayout" "lengthBits" "I" (.int (0 : Int32)) := D11 (Or.inr (hw _ (List.mem_of_getElem? (i := 19) rfl))) (ty := .int) (by decide)
  refine own_go st11 ?_
  show Rch p e below _ T11 (mkF m 14 #[.val (.int p0), .val (.int p1), .val (.int p2), .val (.int x), .val (.int y), .unset, .unset, .unset, .unset, .unset, .unset, .unset] [(.ref b11)])
  have gb : n0 ≤ b11 := Nat.le_trans Z0 (Nat.le_of_eq g11.symm)
  have z1 : n0 ≤ h11.size := Nat.le_trans Z0 E11.1
  refine own_go (T := T11) (T' := T11) (f := (mkF m 14 #[.val (.int p0), .val (.int p1), .val (.int p2), .val (.int x), .val (.int y), .unset, .unset, .unset, .unset, .unset, .unset, .unset] [(.ref b11)])) (f' := (mkF m 19 #[.val (.int p0), .val (.int p1), .val (.int p2), .val (.int x), .val (.int y), .unset, .unset, .unset, .unset, .unset, .unset, .unset] [(.int y), (.int x), (.int p0), (.ref b11), (.ref b11)])) (fun t k => ?_) ?_
  · show Steps p.tables e below (T11.setTop (mkF m 14 #[.val (.int p0), .val (.int p1), .val (.int p2), .val (.int x), .val (.int y), .unset, .unset, .unset, .unset, .unset, .unset, .unset] [(.ref b11)])) _
    refine XS.dup X11.here hx rfl (hb hby at_14) rfl rfl ?_
    show Steps p.tables e below (T11.setTop (mkF m 15 #[.val (.int p0), .val (.int p1), .val (.int p2), .val (.int x), .val (.int y), .unset, .unset, .unset, .unset, .unset, .unset, .unset] [(.ref b11), (.ref b11)])) _
    refine XS.iloadN X11.here hx rfl (hb hby at_15) rfl ?_
    show Steps p.tables e below (T11.setTop (mkF m 16 #[.val (.int p0), .val (.int p1), .val (.int p2), .val (.int x), .val (.int y), .unset, .unset, .unset, .unset, .unset, .unset, .unset] [(.int p0), (.ref b11), (.ref b11)])) _
    refine XS.iloadN X11.here hx rfl (hb hby at_16) rfl ?_
    show Steps p.tables e below (T11.setTop (mkF m 17 #[.val (.int p0), .val (.int p1), .val (.int p2), .val (.int x), .val (.int y), .unset, .unset, .unset, .unset, .unset, .unset, .unset] [(.int x), (.int p0), (.ref b11), (.ref b11)])) _
    refine XS.iload X11.here hx rfl (hb hby at_17) rfl ?_
    exact k
  obtain ⟨_, _, ⟨T12, L12, k12, n12⟩, -, X12, ⟨Lc12, hQ12, l12, y12, z12⟩, st12⟩ := X11.specialBack hx (y := (⟨"com/example/deft_index/deftindex/index/DocsLayout", "<init>", "(III)V"⟩ : MethodName)) rfl hown (mvT hZ (hw _ (List.mem_of_getElem? (i := 3) rfl))) (mvT hZ (hw _ (List.mem_of_getElem? (i := 4) rfl))) (mvT hZ (hw _ (List.mem_of_getElem? (i := 5) rfl))) (by decide) (backOf (W := 1) (rm1 l Z a0 hw [] b11 p0 x y h11 n0 z1 F_documents_b11 F_offsetBits_b11 F_lengthBits_b11 A11 gb) hZ (hw _ (List.mem_of_getElem? (i := 5) rfl)) (hw _ (List.mem_of_getElem? (i := 2) rfl)) (by decide) (by decide)) (g := (mkF m 19 #[.val (.int p0), .val (.int p1), .val (.int p2), .val (.int x), .val (.int y), .unset, .unset, .unset, .unset, .unset, .unset, .unset] [(.int y), (.int x), (.int p0), (.ref b11), (.ref b11)])) rfl (by rw [hml]; rfl) (Steps.refl _) (a := b11) (argsL := [(.int p0), (.int x), (.int y)]) (rest := [(.ref b11)]) (lenOf pd__28III_29V rfl) rfl (by show 2 * 0 + _ ≤ _; exact Nat.le_of_eq rfl) (hb hby at_19) (fun _ _ => ⟨rfl, e11, (by decide : 1 + 0 ≤ _), (by decide : 3 + 0 ≤ _)⟩)
  dsimp only [Pt.U, Pt.locs, Pt.cells, Pt.slots] at X12 l12 y12 z12 st12 hQ12
  subst l12 y12 z12
  obtain ⟨rfl, N12q, K12, Ex12, Fo12, Fl12⟩ := hQ12
  have N12 := Fr.app N0 N12q
  refine own_go2 st12 ?_
  show Rch p e below _ T12 (mkF m 22 #[.val (.int p0), .val (.int p1), .val (.int p2), .val (.int x), .val (.int y), .unset, .unset, .unset, .unset, .unset, .unset, .unset] [(.ref b11)])
  have z2 : n0 ≤ T12.heap.size := Nat.le_trans z1 K12.1
  refine own_go (T := T12) (T' := T12) (f := (mkF m 22 #[.val (.int p0), .val (.int p1), .val (.int p2), .val (.int x), .val (.int y), .unset, .unset, .unset, .unset, .unset, .unset, .unset] [(.ref b11)])) (f' := (mkF m 26 #[.val (.int p0), .val (.int p1), .val (.int p2), .val (.int x), .val (.int y), .val (.ref b11), .unset, .unset, .unset, .unset, .unset, .unset] [(.ref b11)])) (fun t k => ?_) ?_
  · show Steps p.tables e below (T12.setTop (mkF m 22 #[.val (.int p0), .val (.int p1), .val (.int p2), .val (.int x), .val (.int y), .unset, .unset, .unset, .unset, .unset, .unset, .unset] [(.ref b11)])) _
    refine XS.astore X12.here hx rfl (hb hby at_22) rfl rfl (l' := #[.val (.int p0), .val (.int p1), .val (.int p2), .val (.int x), .val (.int y), .val (.ref b11), .unset, .unset, .unset, .unset, .unset, .unset]) rfl ?_
    show Steps p.tables e below (T12.setTop (mkF m 24 #[.val (.int p0), .val (.int p1), .val (.int p2), .val (.int x), .val (.int y), .val (.ref b11), .unset, .unset, .unset, .unset, .unset, .unset] [])) _
    refine XS.aload X12.here hx rfl (hb hby at_24) rfl rfl ?_
    exact k
  obtain ⟨cq13, kq13, q13a, q13b, q13c⟩ := isOf hZ rfl Ex12
  obtain ⟨_, _, ⟨T13, L13, k13, n13⟩, -, X13, ⟨Lc13, hQ13, l13, y13, z13⟩, st13⟩ := X12.virtualBack hx (y := (⟨"com/example/deft_index/deftindex/index/DocsLayout", "header", "()[B"⟩ : MethodName)) (z := (⟨"com/example/deft_index/deftindex/index/DocsLayout", "header", "()[B"⟩ : MethodName)) hown (mvT hZ (hw _ (List.mem_of_getElem? (i := 20) rfl))) (mvT hZ (hw _ (List.mem_of_getElem? (i := 21) rfl))) (notFace_of_selects (args := #[]) (mvT hZ (hw _ (List.mem_of_getElem? (i := 23) rfl)))) (mvT hZ (hw _ (List.mem_of_getElem? (i := 23) rfl))) (mvT hZ (hw _ (List.mem_of_getElem? (i := 22) rfl))) (by decide) (backOf (W := 0) (rm4 l Z a0 hw [] b11 x y T12.heap n0 z2 Fo12 Fl12 hbx hby1) hZ (hw _ (List.mem_of_getElem? (i := 24) rfl)) (hw _ (List.mem_of_getElem? (i := 2) rfl)) (by decide) (by decide)) q13a q13c (g := (mkF m 26 #[.val (.int p0), .val (.int p1), .val (.int p2), .val (.int x), .val (.int y), .val (.ref b11), .unset, .unset, .unset, .unset, .unset, .unset] [(.ref b11)])) rfl (by rw [hml]; rfl) (Steps.refl _) (argsL := []) (rest := []) (lenOf pd__28_29_5bB rfl) rfl (by show 2 * 0 + _ ≤ _; exact Nat.le_of_eq rfl) (hb hby at_26) (fun _ _ => ⟨rfl, rfl, (by decide : 1 + 1 ≤ _), (by decide : 3 + 2 ≤ _)⟩)
  dsimp only [Pt.U, Pt.locs, Pt.cells, Pt.slots] at X13 l13 y13 z13 st13 hQ13
  subst l13 y13 z13
  obtain ⟨ba13, ka13, rfl, N13q, sz13, K13, V13⟩ := hQ13
  have N13 := Fr.app N12 N13q
  refine own_go2 st13 ?_
  show Rch p e below _ T13 (mkF m 29 #[.val (.int p0), .val (.int p1), .val (.int p2), .val (.int x), .val (.int y), .val (.ref b11), .unset, .unset, .unset, .unset, .unset, .unset] [(.ref ba13)])
  have ga : n0 ≤ ba13 := Nat.le_trans z2 sz13
  have ne0 : b11 ≠ ba13 := Nat.ne_of_lt (Nat.lt_of_lt_of_le Fo12.lt sz13)
  refine own_go (T := T13) (T' := T13) (f := (mkF m 29 #[.val (.int p0), .val (.int p1), .val (.int p2), .val (.int x), .val (.int y), .val (.ref b11), .unset, .unset, .unset, .unset, .unset, .unset] [(.ref ba13)])) (f' := (mkF m 33 #[.val (.int p0), .val (.int p1), .val (.int p2), .val (.int x), .val (.int y), .val (.ref b11), .val (.ref ba13), .unset, .unset, .unset, .unset, .unset] [(.ref ba13)])) (fun t k => ?_) ?_
  · show Steps p.tables e below (T13.setTop (mkF m 29 #[.val (.int p0), .val (.int p1), .val (.int p2), .val (.int x), .val (.int y), .val (.ref b11), .unset, .unset, .unset, .unset, .unset, .unset] [(.ref ba13)])) _
    refine XS.astore X13.here hx rfl (hb hby at_29) rfl rfl (l' := #[.val (.int p0), .val (.int p1), .val (.int p2), .val (.int x), .val (.int y), .val (.ref b11), .val (.ref ba13), .unset, .unset, .unset, .unset, .unset]) rfl ?_
    show Steps p.tables e below (T13.setTop (mkF m 31 #[.val (.int p0), .val (.int p1), .val (.int p2), .val (.int x), .val (.int y), .val (.ref b11), .val (.ref ba13), .unset, .unset, .unset, .unset, .unset] [])) _
    refine XS.aload X13.here hx rfl (hb hby at_31) rfl rfl ?_
    exact k
  refine own_go (T := T13) (T' := T13) (f := (mkF m 33 #[.val (.int p0), .val (.int p1), .val (.int p2), .val (.int x), .val (.int y), .val (.ref b11), .val (.ref ba13), .unset, .unset, .unset, .unset, .unset] [(.ref ba13)])) (f' := (mkF m 36 #[.val (.int p0), .val (.int p1), .val (.int p2), .val (.int x), .val (.int y), .val (.ref b11), .val (.ref ba13), .unset, .unset, .unset, .unset, .unset] [])) (fun t k => ?_) ?_
  · show Steps p.tables e below (T13.setTop (mkF m 33 #[.val (.int p0), .val (.int p1), .val (.int p2), .val (.int x), .val (.int y), .val (.ref b11), .val (.ref ba13), .unset, .unset, .unset, .unset, .unset] [(.ref ba13)])) _
    refine XS.ifnullNo X13.here hx rfl (hb hby at_33) rfl ?_
    exact k
  refine own_go (T := T13) (T' := T13) (f := (mkF m 36 #[.val (.int p0), .val (.int p1), .val (.int p2), .val (.int x), .val (.int y), .val (.ref b11), .val (.ref ba13), .unset, .unset, .unset, .unset, .unset] [])) (f' := (mkF m 38 #[.val (.int p0), .val (.int p1), .val (.int p2), .val (.int x), .val (.int y), .val (.ref b11), .val (.ref ba13), .unset, .unset, .unset, .unset, .unset] [(.ref ba13)])) (fun t k => ?_) ?_
  · show Steps p.tables e below (T13.setTop (mkF m 36 #[.val (.int p0), .val (.int p1), .val (.int p2), .val (.int x), .val (.int y), .val (.ref b11), .val (.ref ba13), .unset, .unset, .unset, .unset, .unset] [])) _
    refine XS.aload X13.here hx rfl (hb hby at_36) rfl rfl ?_
    exact k
  obtain ⟨cl14, Ar14, q114, q214, q314, q414, q514⟩ := id V13
  refine own_go (T := T13) (T' := T13) (f := (mkF m 38 #[.val (.int p0), .val (.int p1), .val (.int p2), .val (.int x), .val (.int y), .val (.ref b11), .val (.ref ba13), .unset, .unset, .unset, .unset, .unset] [(.ref ba13)])) (f' := (mkF m 39 #[.val (.int p0), .val (.int p1), .val (.int p2), .val (.int x), .val (.int y), .val (.ref b11), .val (.ref ba13), .unset, .unset, .unset, .unset, .unset] [(.int (2 : Int32))])) (fun t k => ?_) ?_
  · refine X13.arraylength hx Ar14.1 (State.isArrayOf_alike hZ.alike Ar14.2.1) (g := (mkF m 38 #[.val (.int p0), .val (.int p1), .val (.int p2), .val (.int x), .val (.int y), .val (.ref b11), .val (.ref ba13), .unset, .unset, .unset, .unset, .unset] [(.ref ba13)])) rfl rfl (hb hby at_38) _ ?_
    rw [len_of q214 q314]
    exact k
  refine own_go (T := T13) (T' := T13) (f := (mkF m 39 #[.val (.int p0), .val (.int p1), .val (.int p2), .val (.int x), .val (.int y), .val (.ref b11), .val (.ref ba13), .unset, .unset, .unset, .unset, .unset] [(.int (2 : Int32))])) (f' := (mkF m 40 #[.val (.int p0), .val (.int p1), .val (.int p2), .val (.int x), .val (.int y), .val (.ref b11), .val (.ref ba13), .unset, .unset, .unset, .unset, .unset] [(.int (2 : Int32)), (.int (2 : Int32))])) (fun t k => ?_) ?_
  · show Steps p.tables e below (T13.setTop (mkF m 39 #[.val (.int p0), .val (.int p1), .val (.int p2), .val (.int x), .val (.int y), .val (.ref b11), .val (.ref ba13), .unset, .unset, .unset, .unset, .unset] [(.int (2 : Int32))])) _
    refine XS.iconst X13.here hx rfl (hb hby at_39) ?_
    exact k
  refine own_go (T := T13) (T' := T13) (f := (mkF m 40 #[.val (.int p0), .val (.int p1), .val (.int p2), .val (.int x), .val (.int y), .val (.ref b11), .val (.ref ba13), .unset, .unset, .unset, .unset, .unset] [(.int (2 : Int32)), (.int (2 : Int32))])) (f' := (mkF m 45 #[.val (.int p0), .val (.int p1), .val (.int p2), .val (.int x), .val (.int y), .val (.ref b11), .val (.ref ba13), .unset, .unset, .unset, .unset, .unset] [])) (fun t k => ?_) ?_
  · show Steps p.tables e below (T13.setTop (mkF m 40 #[.val (.int p0), .val (.int p1), .val (.int p2), .val (.int x), .val (.int y), .val (.ref b11), .val (.ref ba13), .unset, .unset, .unset, .unset, .unset] [(.int (2 : Int32)), (.int (2 : Int32))])) _
    refine XS.icmpYes X13.here hx rfl (pc0 := 40) (pc' := 45) rfl (hb hby at_40) rfl (teq rfl).1 (by decide) (by decide) ?_
    exact k
  refine own_go (T := T13) (T' := T13) (f := (mkF m 45 #[.val (.int p0), .val (.int p1), .val (.int p2), .val (.int x), .val (.int y), .val (.ref b11), .val (.ref ba13), .unset, .unset, .unset, .unset, .unset] [])) (f' := (mkF m 48 #[.val (.int p0), .val (.int p1), .val (.int p2), .val (.int x), .val (.int y), .val (.ref b11), .val (.ref ba13), .unset, .unset, .unset, .unset, .unset] [(.int (0 : Int32)), (.ref ba13)])) (fun t k => ?_) ?_
  · show Steps p.tables e below (T13.setTop (mkF m 45 #[.val (.int p0), .val (.int p1), .val (.int p2), .val (.int x), .val (.int y), .val (.ref b11), .val (.ref ba13), .unset, .unset, .unset, .unset, .unset] [])) _
    refine XS.aload X13.here hx rfl (hb hby at_45) rfl rfl ?_
    show Steps p.tables e below (T13.setTop (mkF m 47 #[.val (.int p0), .val (.int p1), .val (.int p2), .val (.int x), .val (.int y), .val (.ref b11), .val (.ref ba13), .unset, .unset, .unset, .unset, .unset] [(.ref ba13)])) _
    refine XS.iconst X13.here hx rfl (hb hby at_47) ?_
    exact k
  obtain ⟨cl15, Ar15, q115, q215, q315, q415, q515⟩ := id V13
  have hin15 : ¬ ((0 : Int32) < 0 ∨ cl15.slots.size ≤ ((0 : Int32)).toNatClampNeg) := inb_of q215 ⟨by decide, by decide⟩
  refine own_go (f' := (mkF m 49 #[.val (.int p0), .val (.int p1), .val (.int p2), .val (.int x), .val (.int y), .val (.ref b11), .val (.ref ba13), .unset, .unset, .unset, .unset, .unset] [(.int x)])) (X13.baloadBytes hx (j := (0 : Int32)) (v := (.int x)) Ar15.1 (State.isArrayOf_alike hZ.alike Ar15.2.1) Ar15.2.2 hin15 (Has.at q415 hin15 rfl) (g := (mkF m 48 #[.val (.int p0), .val (.int p1), .val (.int p2), .val (.int x), .val (.int y), .val (.ref b11), .val (.ref ba13), .unset, .unset, .unset, .unset, .unset] [(.int (0 : Int32)), (.ref ba13)])) rfl rfl (hb hby at_48)) ?_
  show Rch p e below _ T13 (mkF m 49 #[.val (.int p0), .val (.int p1), .val (.int p2), .val (.int x), .val (.int y), .val (.ref b11), .val (.ref ba13), .unset, .unset, .unset, .unset, .unset] [(.int x)])
  refine own_go (T := T13) (T' := T13) (f := (mkF m 49 #[.val (.int p0), .val (.int p1), .val (.int p2), .val (.int x), .val (.int y), .val (.ref b11), .val (.ref ba13), .unset, .unset, .unset, .unset, .unset] [(.int x)])) (f' := (mkF m 54 #[.val (.int p0), .val (.int p1), .val (.int p2), .val (.int x), .val (.int y), .val (.ref b11), .val (.ref ba13), .val (.int x), .unset, .unset, .unset, .unset] [(.int (1 : Int32)), (.ref ba13)])) (fun t k => ?_) ?_
  · show Steps p.tables e below (T13.setTop (mkF m 49 #[.val (.int p0), .val (.int p1), .val (.int p2), .val (.int x), .val (.int y), .val (.ref b11), .val (.ref ba13), .unset, .unset, .unset, .unset, .unset] [(.int x)])) _
    refine XS.istore X13.here hx rfl (hb hby at_49) rfl (l' := #[.val (.int p0), .val (.int p1), .val (.int p2), .val (.int x), .val (.int y), .val (.ref b11), .val (.ref ba13), .val (.int x), .unset, .unset, .unset, .unset]) rfl ?_
    show Steps p.tables e below (T13.setTop (mkF m 51 #[.val (.int p0), .val (.int p1), .val (.int p2), .val (.int x), .val (.int y), .val (.ref b11), .val (.ref ba13), .val (.int x), .unset, .unset, .unset, .unset] [])) _
    refine XS.aload X13.here hx rfl (hb hby at_51) rfl rfl ?_
    show Steps p.tables e below (T13.setTop (mkF m 53 #[.val (.int p0), .val (.int p1), .val (.int p2), .val (.int x), .val (.int y), .val (.ref b11), .val (.ref ba13), .val (.int x), .unset, .unset, .unset, .unset] [(.ref ba13)])) _
    refine XS.iconst X13.here hx rfl (hb hby at_53) ?_
    exact k
  obtain ⟨cl16, Ar16, q116, q216, q316, q416, q516⟩ := id V13
  have hin16 : ¬ ((1 : Int32) < 0 ∨ cl16.slots.size ≤ ((1 : Int32)).toNatClampNeg) := inb_of q216 ⟨by decide, by decide⟩
  refine own_go (f' := (mkF m 55 #[.val (.int p0), .val (.int p1), .val (.int p2), .val (.int x), .val (.int y), .val (.ref b11), .val (.ref ba13), .val (.int x), .unset, .unset, .unset, .unset] [(.int y)])) (X13.baloadBytes hx (j := (1 : Int32)) (v := (.int y)) Ar16.1 (State.isArrayOf_alike hZ.alike Ar16.2.1) Ar16.2.2 hin16 (Has.at q416 hin16 rfl) (g := (mkF m 54 #[.val (.int p0), .val (.int p1), .val (.int p2), .val (.int x), .val (.int y), .val (.ref b11), .val (.ref ba13), .val (.int x), .unset, .unset, .unset, .unset] [(.int (1 : Int32)), (.ref ba13)])) rfl rfl (hb hby at_54)) ?_
  show Rch p e below _ T13 (mkF m 55 #[.val (.int p0), .val (.int p1), .val (.int p2), .val (.int x), .val (.int y), .val (.ref b11), .val (.ref ba13), .val (.int x), .unset, .unset, .unset, .unset] [(.int y)])
  refine own_go (T := T13) (T' := T13) (f := (mkF m 55 #[.val (.int p0), .val (.int p1), .val (.int p2), .val (.int x), .val (.int y), .val (.ref b11), .val (.ref ba13), .val (.int x), .unset, .unset, .unset, .unset] [(.int y)])) (f' := (mkF m 60 #[.val (.int p0), .val (.int p1), .val (.int p2), .val (.int x), .val (.int y), .val (.ref b11), .val (.ref ba13), .val (.int x), .val (.int y), .unset, .unset, .unset] [(.int x), (.int x)])) (fun t k => ?_) ?_
  · show Steps p.tables e below (T13.setTop (mkF m 55 #[.val (.int p0), .val (.int p1), .val (.int p2), .val (.int x), .val (.int y), .val (.ref b11), .val (.ref ba13), .val (.int x), .unset, .unset, .unset, .unset] [(.int y)])) _
    refine XS.istore X13.here hx rfl (hb hby at_55) rfl (l' := #[.val (.int p0), .val (.int p1), .val (.int p2), .val (.int x), .val (.int y), .val (.ref b11), .val (.ref ba13), .val (.int x), .val (.int y), .unset, .unset, .unset]) rfl ?_
    show Steps p.tables e below (T13.setTop (mkF m 57 #[.val (.int p0), .val (.int p1), .val (.int p2), .val (.int x), .val (.int y), .val (.ref b11), .val (.ref ba13), .val (.int x), .val (.int y), .unset, .unset, .unset] [])) _
    refine XS.iload X13.here hx rfl (hb hby at_57) rfl ?_
    show Steps p.tables e below (T13.setTop (mkF m 59 #[.val (.int p0), .val (.int p1), .val (.int p2), .val (.int x), .val (.int y), .val (.ref b11), .val (.ref ba13), .val (.int x), .val (.int y), .unset, .unset, .unset] [(.int x)])) _
    refine XS.iloadN X13.here hx rfl (hb hby at_59) rfl ?_
    exact k
  refine own_go (T := T13) (T' := T13) (f := (mkF m 60 #[.val (.int p0), .val (.int p1), .val (.int p2), .val (.int x), .val (.int y), .val (.ref b11), .val (.ref ba13), .val (.int x), .val (.int y), .unset, .unset, .unset] [(.int x), (.int x)])) (f' := (mkF m 63 #[.val (.int p0), .val (.int p1), .val (.int p2), .val (.int x), .val (.int y), .val (.ref b11), .val (.ref ba13), .val (.int x), .val (.int y), .unset, .unset, .unset] [])) (fun t k => ?_) ?_
  · show Steps p.tables e below (T13.setTop (mkF m 60 #[.val (.int p0), .val (.int p1), .val (.int p2), .val (.int x), .val (.int y), .val (.ref b11), .val (.ref ba13), .val (.int x), .val (.int y), .unset, .unset, .unset] [(.int x), (.int x)])) _
    refine XS.icmpNo X13.here hx rfl (hb hby at_60) rfl (teq rfl).2 ?_
    exact k
  refine own_go (T := T13) (T' := T13) (f := (mkF m 63 #[.val (.int p0), .val (.int p1), .val (.int p2), .val (.int x), .val (.int y), .val (.ref b11), .val (.ref ba13), .val (.int x), .val (.int y), .unset, .unset, .unset] [])) (f' := (mkF m 67 #[.val (.int p0), .val (.int p1), .val (.int p2), .val (.int x), .val (.int y), .val (.ref b11), .val (.ref ba13), .val (.int x), .val (.int y), .unset, .unset, .unset] [(.int y), (.int y)])) (fun t k => ?_) ?_
  · show Steps p.tables e below (T13.setTop (mkF m 63 #[.val (.int p0), .val (.int p1), .val (.int p2), .val (.int x), .val (.int y), .val (.ref b11), .val (.ref ba13), .val (.int x), .val (.int y), .unset, .unset, .unset] [])) _
    refine XS.iload X13.here hx rfl (hb hby at_63) rfl ?_
    show Steps p.tables e below (T13.setTop (mkF m 65 #[.val (.int p0), .val (.int p1), .val (.int p2), .val (.int x), .val (.int y), .val (.ref b11), .val (.ref ba13), .val (.int x), .val (.int y), .unset, .unset, .unset] [(.int y)])) _
    refine XS.iload X13.here hx rfl (hb hby at_65) rfl ?_
    exact k
  refine own_go (T := T13) (T' := T13) (f := (mkF m 67 #[.val (.int p0), .val (.int p1), .val (.int p2), .val (.int x), .val (.int y), .val (.ref b11), .val (.ref ba13), .val (.int x), .val (.int y), .unset, .unset, .unset] [(.int y), (.int y)])) (f' := (mkF m 72 #[.val (.int p0), .val (.int p1), .val (.int p2), .val (.int x), .val (.int y), .val (.ref b11), .val (.ref ba13), .val (.int x), .val (.int y), .unset, .unset, .unset] [])) (fun t k => ?_) ?_
  · show Steps p.tables e below (T13.setTop (mkF m 67 #[.val (.int p0), .val (.int p1), .val (.int p2), .val (.int x), .val (.int y), .val (.ref b11), .val (.ref ba13), .val (.int x), .val (.int y), .unset, .unset, .unset] [(.int y), (.int y)])) _
    refine XS.icmpYes X13.here hx rfl (pc0 := 67) (pc' := 72) rfl (hb hby at_67) rfl (teq rfl).1 (by decide) (by decide) ?_
    exact k
  refine own_go (T := T13) (T' := T13) (f := (mkF m 72 #[.val (.int p0), .val (.int p1), .val (.int p2), .val (.int x), .val (.int y), .val (.ref b11), .val (.ref ba13), .val (.int x), .val (.int y), .unset, .unset, .unset] [])) (f' := (mkF m 77 #[.val (.int p0), .val (.int p1), .val (.int p2), .val (.int x), .val (.int y), .val (.ref b11), .val (.ref ba13), .val (.int x), .val (.int y), .unset, .unset, .unset] [(.int (99 : Int32)), (.int (0 : Int32)), (.ref ba13)])) (fun t k => ?_) ?_
  · show Steps p.tables e below (T13.setTop (mkF m 72 #[.val (.int p0), .val (.int p1), .val (.int p2), .val (.int x), .val (.int y), .val (.ref b11), .val (.ref ba13), .val (.int x), .val (.int y), .unset, .unset, .unset] [])) _
    refine XS.aload X13.here hx rfl (hb hby at_72) rfl rfl ?_
    show Steps p.tables e below (T13.setTop (mkF m 74 #[.val (.int p0), .val (.int p1), .val (.int p2), .val (.int x), .val (.int y), .val (.ref b11), .val (.ref ba13), .val (.int x), .val (.int y), .unset, .unset, .unset] [(.ref ba13)])) _
    refine XS.iconst X13.here hx rfl (hb hby at_74) ?_
    show Steps p.tables e below (T13.setTop (mkF m 75 #[.val (.int p0), .val (.int p1), .val (.int p2), .val (.int x), .val (.int y), .val (.ref b11), .val (.ref ba13), .val (.int x), .val (.int y), .unset, .unset, .unset] [(.int (0 : Int32)), (.ref ba13)])) _
    refine XS.bipush X13.here hx rfl (hb hby at_75) ?_
    exact k
  obtain ⟨cl17, Ar17, q117, q217, q317, q417, q517⟩ := id V13
  have hin17 : ¬ ((0 : Int32) < 0 ∨ cl17.slots.size ≤ ((0 : Int32)).toNatClampNeg) := inb_of q217 ⟨by decide, by decide⟩
  obtain ⟨T17, h17, X17, e17, W17, st17⟩ := stB X13 hx hZ rfl Ar17 (j := (0 : Int32)) hin17 (g := (mkF m 77 #[.val (.int p0), .val (.int p1), .val (.int p2), .val (.int x), .val (.int y), .val (.ref b11), .val (.ref ba13), .val (.int x), .val (.int y), .unset, .unset, .unset] [(.int (99 : Int32)), (.int (0 : Int32)), (.ref ba13)])) rfl rfl (hb hby at_77)
  have V17 := Arv.set Ar17 q117 q217 q317 q417 q517 (fits_nar_byte _) W17 0 rfl (Nat.le_of_ble_eq_true rfl)
  have N17 := Fr.snoc X17 N13 ga
  refine own_go st17 ?_
  show Rch p e below _ T17 (mkF m 78 #[.val (.int p0), .val (.int p1), .val (.int p2), .val (.int x), .val (.int y), .val (.ref b11), .val (.ref ba13), .val (.int x), .val (.int y), .unset, .unset, .unset] [])
  refine own_go (T := T17) (T' := T17) (f := (mkF m 78 #[.val (.int p0), .val (.int p1), .val (.int p2), .val (.int x), .val (.int y), .val (.ref b11), .val (.ref ba13), .val (.int x), .val (.int y), .unset, .unset, .unset] [])) (f' := (mkF m 83 #[.val (.int p0), .val (.int p1), .val (.int p2), .val (.int x), .val (.int y), .val (.ref b11), .val (.ref ba13), .val (.int x), .val (.int y), .unset, .unset, .unset] [(.int (99 : Int32)), (.int (1 : Int32)), (.ref ba13)])) (fun t k => ?_) ?_
  · show Steps p.tables e below (T17.setTop (mkF m 78 #[.val (.int p0), .val (.int p1), .val (.int p2), .val (.int x), .val (.int y), .val (.ref b11), .val (.ref ba13), .val (.int x), .val (.int y), .unset, .unset, .unset] [])) _
    refine XS.aload X17.here hx rfl (hb hby at_78) rfl rfl ?_
    show Steps p.tables e below (T17.setTop (mkF m 80 #[.val (.int p0), .val (.int p1), .val (.int p2), .val (.int x), .val (.int y), .val (.ref b11), .val (.ref ba13), .val (.int x), .val (.int y), .unset, .unset, .unset] [(.ref ba13)])) _
    refine XS.iconst X17.here hx rfl (hb hby at_80) ?_
    show Steps p.tables e below (T17.setTop (mkF m 81 #[.val (.int p0), .val (.int p1), .val (.int p2), .val (.int x), .val (.int y), .val (.ref b11), .val (.ref ba13), .val (.int x), .val (.int y), .unset, .unset, .unset] [(.int (1 : Int32)), (.ref ba13)])) _
    refine XS.bipush X17.here hx rfl (hb hby at_81) ?_
    exact k
  obtain ⟨cl18, Ar18, q118, q218, q318, q418, q518⟩ := id V17
  have hin18 : ¬ ((1 : Int32) < 0 ∨ cl18.slots.size ≤ ((1 : Int32)).toNatClampNeg) := inb_of q218 ⟨by decide, by decide⟩
  obtain ⟨T18, h18, X18, e18, W18, st18⟩ := stB X17 hx hZ e17 Ar18 (j := (1 : Int32)) hin18 (g := (mkF m 83 #[.val (.int p0), .val (.int p1), .val (.int p2), .val (.int x), .val (.int y), .val (.ref b11), .val (.ref ba13), .val (.int x), .val (.int y), .unset, .unset, .unset] [(.int (99 : Int32)), (.int (1 : Int32)), (.ref ba13)])) rfl rfl (hb hby at_83)
  have V18 := Arv.set Ar18 q118 q218 q318 q418 q518 (fits_nar_byte _) W18 1 rfl (Nat.le_of_ble_eq_true rfl)
  have N18 := Fr.snoc X18 N17 ga
  refine own_go st18 ?_
  show Rch p e below _ T18 (mkF m 84 #[.val (.int p0), .val (.int p1), .val (.int p2), .val (.int x), .val (.int y), .val (.ref b11), .val (.ref ba13), .val (.int x), .val (.int y), .unset, .unset, .unset] [])
  have Fox := ((Fo12.keep K13 (fun q => nomatch q)).other W17 (Or.inl ne0)).other W18 (Or.inl ne0)
  have Flx := ((Fl12.keep K13 (fun q => nomatch q)).other W17 (Or.inl ne0)).other W18 (Or.inl ne0)
  have Exx := ((Ex12.keep K13).wr W17).wr W18
  have z3 : n0 ≤ h18.size := Nat.le_of_lt (Nat.lt_of_le_of_lt gb Fox.lt)
  refine own_go (T := T18) (T' := T18) (f := (mkF m 84 #[.val (.int p0), .val (.int p1), .val (.int p2), .val (.int x), .val (.int y), .val (.ref b11), .val (.ref ba13), .val (.int x), .val (.int y), .unset, .unset, .unset] [])) (f' := (mkF m 86 #[.val (.int p0), .val (.int p1), .val (.int p2), .val (.int x), .val (.int y), .val (.ref b11), .val (.ref ba13), .val (.int x), .val (.int y), .unset, .unset, .unset] [(.ref b11)])) (fun t k => ?_) ?_
  · show Steps p.tables e below (T18.setTop (mkF m 84 #[.val (.int p0), .val (.int p1), .val (.int p2), .val (.int x), .val (.int y), .val (.ref b11), .val (.ref ba13), .val (.int x), .val (.int y), .unset, .unset, .unset] [])) _
    refine XS.aload X18.here hx rfl (hb hby at_84) rfl rfl ?_
    exact k
  obtain ⟨cq19, kq19, q19a, q19b, q19c⟩ := isOf hZ e18 Exx
  obtain ⟨_, _, ⟨T19, L19, k19, n19⟩, -, X19, ⟨Lc19, hQ19, l19, y19, z19⟩, st19⟩ := X18.virtualBack hx (y := (⟨"com/example/deft_index/deftindex/index/DocsLayout", "header", "()[B"⟩ : MethodName)) (z := (⟨"com/example/deft_index/deftindex/index/DocsLayout", "header", "()[B"⟩ : MethodName)) hown (mvT hZ (hw _ (List.mem_of_getElem? (i := 20) rfl))) (mvT hZ (hw _ (List.mem_of_getElem? (i := 21) rfl))) (notFace_of_selects (args := #[]) (mvT hZ (hw _ (List.mem_of_getElem? (i := 23) rfl)))) (mvT hZ (hw _ (List.mem_of_getElem? (i := 23) rfl))) (mvT hZ (hw _ (List.mem_of_getElem? (i := 22) rfl))) (by decide) (backOf (W := 0) (rm4 l Z a0 hw [] b11 x y h18 n0 z3 Fox Flx hbx hby1) hZ (hw _ (List.mem_of_getElem? (i := 24) rfl)) (hw _ (List.mem_of_getElem? (i := 2) rfl)) (by decide) (by decide)) q19a q19c (g := (mkF m 86 #[.val (.int p0), .val (.int p1), .val (.int p2), .val (.int x), .val (.int y), .val (.ref b11), .val (.ref ba13), .val (.int x), .val (.int y), .unset, .unset, .unset] [(.ref b11)])) rfl (by rw [hml]; rfl) (Steps.refl _) (argsL := []) (rest := []) (lenOf pd__28_29_5bB rfl) rfl (by show 2 * 0 + _ ≤ _; exact Nat.le_of_eq rfl) (hb hby at_86) (fun _ _ => ⟨rfl, e18, (by decide : 2 + 1 ≤ _), (by decide : 5 + 2 ≤ _)⟩)
  dsimp only [Pt.U, Pt.locs, Pt.cells, Pt.slots] at X19 l19 y19 z19 st19 hQ19
  subst l19 y19 z19
  obtain ⟨ba19, ka19, rfl, N19q, sz19, K19, V19⟩ := hQ19
  have N19 := Fr.app N18 N19q
  refine own_go2 st19 ?_
  show Rch p e below _ T19 (mkF m 89 #[.val (.int p0), .val (.int p1), .val (.int p2), .val (.int x), .val (.int y), .val (.ref b11), .val (.ref ba13), .val (.int x), .val (.int y), .unset, .unset, .unset] [(.ref ba19)])
  refine own_go (T := T19) (T' := T19) (f := (mkF m 89 #[.val (.int p0), .val (.int p1), .val (.int p2), .val (.int x), .val (.int y), .val (.ref b11), .val (.ref ba13), .val (.int x), .val (.int y), .unset, .unset, .unset] [(.ref ba19)])) (f' := (mkF m 93 #[.val (.int p0), .val (.int p1), .val (.int p2), .val (.int x), .val (.int y), .val (.ref b11), .val (.ref ba13), .val (.int x), .val (.int y), .val (.ref ba19), .unset, .unset] [(.ref ba19)])) (fun t k => ?_) ?_
  · show Steps p.tables e below (T19.setTop (mkF m 89 #[.val (.int p0), .val (.int p1), .val (.int p2), .val (.int x), .val (.int y), .val (.ref b11), .val (.ref ba13), .val (.int x), .val (.int y), .unset, .unset, .unset] [(.ref ba19)])) _
    refine XS.astore X19.here hx rfl (hb hby at_89) rfl rfl (l' := #[.val (.int p0), .val (.int p1), .val (.int p2), .val (.int x), .val (.int y), .val (.ref b11), .val (.ref ba13), .val (.int x), .val (.int y), .val (.ref ba19), .unset, .unset]) rfl ?_
    show Steps p.tables e below (T19.setTop (mkF m 91 #[.val (.int p0), .val (.int p1), .val (.int p2), .val (.int x), .val (.int y), .val (.ref b11), .val (.ref ba13), .val (.int x), .val (.int y), .val (.ref ba19), .unset, .unset] [])) _
    refine XS.aload X19.here hx rfl (hb hby at_91) rfl rfl ?_
    exact k
  refine own_go (T := T19) (T' := T19) (f := (mkF m 93 #[.val (.int p0), .val (.int p1), .val (.int p2), .val (.int x), .val (.int y), .val (.ref b11), .val (.ref ba13), .val (.int x), .val (.int y), .val (.ref ba19), .unset, .unset] [(.ref ba19)])) (f' := (mkF m 96 #[.val (.int p0), .val (.int p1), .val (.int p2), .val (.int x), .val (.int y), .val (.ref b11), .val (.ref ba13), .val (.int x), .val (.int y), .val (.ref ba19), .unset, .unset] [])) (fun t k => ?_) ?_
  · show Steps p.tables e below (T19.setTop (mkF m 93 #[.val (.int p0), .val (.int p1), .val (.int p2), .val (.int x), .val (.int y), .val (.ref b11), .val (.ref ba13), .val (.int x), .val (.int y), .val (.ref ba19), .unset, .unset] [(.ref ba19)])) _
    refine XS.ifnullNo X19.here hx rfl (hb hby at_93) rfl ?_
    exact k
  refine own_go (T := T19) (T' := T19) (f := (mkF m 96 #[.val (.int p0), .val (.int p1), .val (.int p2), .val (.int x), .val (.int y), .val (.ref b11), .val (.ref ba13), .val (.int x), .val (.int y), .val (.ref ba19), .unset, .unset] [])) (f' := (mkF m 98 #[.val (.int p0), .val (.int p1), .val (.int p2), .val (.int x), .val (.int y), .val (.ref b11), .val (.ref ba13), .val (.int x), .val (.int y), .val (.ref ba19), .unset, .unset] [(.ref ba19)])) (fun t k => ?_) ?_
  · show Steps p.tables e below (T19.setTop (mkF m 96 #[.val (.int p0), .val (.int p1), .val (.int p2), .val (.int x), .val (.int y), .val (.ref b11), .val (.ref ba13), .val (.int x), .val (.int y), .val (.ref ba19), .unset, .unset] [])) _
    refine XS.aload X19.here hx rfl (hb hby at_96) rfl rfl ?_
    exact k
  obtain ⟨cl20, Ar20, q120, q220, q320, q420, q520⟩ := id V19
  refine own_go (T := T19) (T' := T19) (f := (mkF m 98 #[.val (.int p0), .val (.int p1), .val (.int p2), .val (.int x), .val (.int y), .val (.ref b11), .val (.ref ba13), .val (.int x), .val (.int y), .val (.ref ba19), .unset, .unset] [(.ref ba19)])) (f' := (mkF m 99 #[.val (.int p0), .val (.int p1), .val (.int p2), .val (.int x), .val (.int y), .val (.ref b11), .val (.ref ba13), .val (.int x), .val (.int y), .val (.ref ba19), .unset, .unset] [(.int (2 : Int32))])) (fun t k => ?_) ?_
  · refine X19.arraylength hx Ar20.1 (State.isArrayOf_alike hZ.alike Ar20.2.1) (g := (mkF m 98 #[.val (.int p0), .val (.int p1), .val (.int p2), .val (.int x), .val (.int y), .val (.ref b11), .val (.ref ba13), .val (.int x), .val (.int y), .val (.ref ba19), .unset, .unset] [(.ref ba19)])) rfl rfl (hb hby at_98) _ ?_
    rw [len_of q220 q320]
    exact k
  refine own_go (T := T19) (T' := T19) (f := (mkF m 99 #[.val (.int p0), .val (.int p1), .val (.int p2), .val (.int x), .val (.int y), .val (.ref b11), .val (.ref ba13), .val (.int x), .val (.int y), .val (.ref ba19), .unset, .unset] [(.int (2 : Int32))])) (f' := (mkF m 100 #[.val (.int p0), .val (.int p1), .val (.int p2), .val (.int x), .val (.int y), .val (.ref b11), .val (.ref ba13), .val (.int x), .val (.int y), .val (.ref ba19), .unset, .unset] [(.int (2 : Int32)), (.int (2 : Int32))])) (fun t k => ?_) ?_
  · show Steps p.tables e below (T19.setTop (mkF m 99 #[.val (.int p0), .val (.int p1), .val (.int p2), .val (.int x), .val (.int y), .val (.ref b11), .val (.ref ba13), .val (.int x), .val (.int y), .val (.ref ba19), .unset, .unset] [(.int (2 : Int32))])) _
    refine XS.iconst X19.here hx rfl (hb hby at_99) ?_
    exact k
  refine own_go (T := T19) (T' := T19) (f := (mkF m 100 #[.val (.int p0), .val (.int p1), .val (.int p2), .val (.int x), .val (.int y), .val (.ref b11), .val (.ref ba13), .val (.int x), .val (.int y), .val (.ref ba19), .unset, .unset] [(.int (2 : Int32)), (.int (2 : Int32))])) (f' := (mkF m 105 #[.val (.int p0), .val (.int p1), .val (.int p2), .val (.int x), .val (.int y), .val (.ref b11), .val (.ref ba13), .val (.int x), .val (.int y), .val (.ref ba19), .unset, .unset] [])) (fun t k => ?_) ?_
  · show Steps p.tables e below (T19.setTop (mkF m 100 #[.val (.int p0), .val (.int p1), .val (.int p2), .val (.int x), .val (.int y), .val (.ref b11), .val (.ref ba13), .val (.int x), .val (.int y), .val (.ref ba19), .unset, .unset] [(.int (2 : Int32)), (.int (2 : Int32))])) _
    refine XS.icmpYes X19.here hx rfl (pc0 := 100) (pc' := 105) rfl (hb hby at_100) rfl (teq rfl).1 (by decide) (by decide) ?_
    exact k
  refine own_go (T := T19) (T' := T19) (f := (mkF m 105 #[.val (.int p0), .val (.int p1), .val (.int p2), .val (.int x), .val (.int y), .val (.ref b11), .val (.ref ba13), .val (.int x), .val (.int y), .val (.ref ba19), .unset, .unset] [])) (f' := (mkF m 108 #[.val (.int p0), .val (.int p1), .val (.int p2), .val (.int x), .val (.int y), .val (.ref b11), .val (.ref ba13), .val (.int x), .val (.int y), .val (.ref ba19), .unset, .unset] [(.int (0 : Int32)), (.ref ba19)])) (fun t k => ?_) ?_
  · show Steps p.tables e below (T19.setTop (mkF m 105 #[.val (.int p0), .val (.int p1), .val (.int p2), .val (.int x), .val (.int y), .val (.ref b11), .val (.ref ba13), .val (.int x), .val (.int y), .val (.ref ba19), .unset, .unset] [])) _
    refine XS.aload X19.here hx rfl (hb hby at_105) rfl rfl ?_
    show Steps p.tables e below (T19.setTop (mkF m 107 #[.val (.int p0), .val (.int p1), .val (.int p2), .val (.int x), .val (.int y), .val (.ref b11), .val (.ref ba13), .val (.int x), .val (.int y), .val (.ref ba19), .unset, .unset] [(.ref ba19)])) _
    refine XS.iconst X19.here hx rfl (hb hby at_107) ?_
    exact k
  obtain ⟨cl21, Ar21, q121, q221, q321, q421, q521⟩ := id V19
  have hin21 : ¬ ((0 : Int32) < 0 ∨ cl21.slots.size ≤ ((0 : Int32)).toNatClampNeg) := inb_of q221 ⟨by decide, by decide⟩
  refine own_go (f' := (mkF m 109 #[.val (.int p0), .val (.int p1), .val (.int p2), .val (.int x), .val (.int y), .val (.ref b11), .val (.ref ba13), .val (.int x), .val (.int y), .val (.ref ba19), .unset, .unset] [(.int x)])) (X19.baloadBytes hx (j := (0 : Int32)) (v := (.int x)) Ar21.1 (State.isArrayOf_alike hZ.alike Ar21.2.1) Ar21.2.2 hin21 (Has.at q421 hin21 rfl) (g := (mkF m 108 #[.val (.int p0), .val (.int p1), .val (.int p2), .val (.int x), .val (.int y), .val (.ref b11), .val (.ref ba13), .val (.int x), .val (.int y), .val (.ref ba19), .unset, .unset] [(.int (0 : Int32)), (.ref ba19)])) rfl rfl (hb hby at_108)) ?_
  show Rch p e below _ T19 (mkF m 109 #[.val (.int p0), .val (.int p1), .val (.int p2), .val (.int x), .val (.int y), .val (.ref b11), .val (.ref ba13), .val (.int x), .val (.int y), .val (.ref ba19), .unset, .unset] [(.int x)])
  refine own_go (T := T19) (T' := T19) (f := (mkF m 109 #[.val (.int p0), .val (.int p1), .val (.int p2), .val (.int x), .val (.int y), .val (.ref b11), .val (.ref ba13), .val (.int x), .val (.int y), .val (.ref ba19), .unset, .unset] [(.int x)])) (f' := (mkF m 114 #[.val (.int p0), .val (.int p1), .val (.int p2), .val (.int x), .val (.int y), .val (.ref b11), .val (.ref ba13), .val (.int x), .val (.int y), .val (.ref ba19), .val (.int x), .unset] [(.int (1 : Int32)), (.ref ba19)])) (fun t k => ?_) ?_
  · show Steps p.tables e below (T19.setTop (mkF m 109 #[.val (.int p0), .val (.int p1), .val (.int p2), .val (.int x), .val (.int y), .val (.ref b11), .val (.ref ba13), .val (.int x), .val (.int y), .val (.ref ba19), .unset, .unset] [(.int x)])) _
    refine XS.istore X19.here hx rfl (hb hby at_109) rfl (l' := #[.val (.int p0), .val (.int p1), .val (.int p2), .val (.int x), .val (.int y), .val (.ref b11), .val (.ref ba13), .val (.int x), .val (.int y), .val (.ref ba19), .val (.int x), .unset]) rfl ?_
    show Steps p.tables e below (T19.setTop (mkF m 111 #[.val (.int p0), .val (.int p1), .val (.int p2), .val (.int x), .val (.int y), .val (.ref b11), .val (.ref ba13), .val (.int x), .val (.int y), .val (.ref ba19), .val (.int x), .unset] [])) _
    refine XS.aload X19.here hx rfl (hb hby at_111) rfl rfl ?_
    show Steps p.tables e below (T19.setTop (mkF m 113 #[.val (.int p0), .val (.int p1), .val (.int p2), .val (.int x), .val (.int y), .val (.ref b11), .val (.ref ba13), .val (.int x), .val (.int y), .val (.ref ba19), .val (.int x), .unset] [(.ref ba19)])) _
    refine XS.iconst X19.here hx rfl (hb hby at_113) ?_
    exact k
  obtain ⟨cl22, Ar22, q122, q222, q322, q422, q522⟩ := id V19
  have hin22 : ¬ ((1 : Int32) < 0 ∨ cl22.slots.size ≤ ((1 : Int32)).toNatClampNeg) := inb_of q222 ⟨by decide, by decide⟩
  refine own_go (f' := (mkF m 115 #[.val (.int p0), .val (.int p1), .val (.int p2), .val (.int x), .val (.int y), .val (.ref b11), .val (.ref ba13), .val (.int x), .val (.int y), .val (.ref ba19), .val (.int x), .unset] [(.int y)])) (X19.baloadBytes hx (j := (1 : Int32)) (v := (.int y)) Ar22.1 (State.isArrayOf_alike hZ.alike Ar22.2.1) Ar22.2.2 hin22 (Has.at q422 hin22 rfl) (g := (mkF m 114 #[.val (.int p0), .val (.int p1), .val (.int p2), .val (.int x), .val (.int y), .val (.ref b11), .val (.ref ba13), .val (.int x), .val (.int y), .val (.ref ba19), .val (.int x), .unset] [(.int (1 : Int32)), (.ref ba19)])) rfl rfl (hb hby at_114)) ?_
  show Rch p e below _ T19 (mkF m 115 #[.val (.int p0), .val (.int p1), .val (.int p2), .val (.int x), .val (.int y), .val (.ref b11), .val (.ref ba13), .val (.int x), .val (.int y), .val (.ref ba19), .val (.int x), .unset] [(.int y)])
  refine own_go (T := T19) (T' := T19) (f := (mkF m 115 #[.val (.int p0), .val (.int p1), .val (.int p2), .val (.int x), .val (.int y), .val (.ref b11), .val (.ref ba13), .val (.int x), .val (.int y), .val (.ref ba19), .val (.int x), .unset] [(.int y)])) (f' := (mkF m 120 #[.val (.int p0), .val (.int p1), .val (.int p2), .val (.int x), .val (.int y), .val (.ref b11), .val (.ref ba13), .val (.int x), .val (.int y), .val (.ref ba19), .val (.int x), .val (.int y)] [(.int x), (.int x)])) (fun t k => ?_) ?_
  · show Steps p.tables e below (T19.setTop (mkF m 115 #[.val (.int p0), .val (.int p1), .val (.int p2), .val (.int x), .val (.int y), .val (.ref b11), .val (.ref ba13), .val (.int x), .val (.int y), .val (.ref ba19), .val (.int x), .unset] [(.int y)])) _
    refine XS.istore X19.here hx rfl (hb hby at_115) rfl (l' := #[.val (.int p0), .val (.int p1), .val (.int p2), .val (.int x), .val (.int y), .val (.ref b11), .val (.ref ba13), .val (.int x), .val (.int y), .val (.ref ba19), .val (.int x), .val (.int y)]) rfl ?_
    show Steps p.tables e below (T19.setTop (mkF m 117 #[.val (.int p0), .val (.int p1), .val (.int p2), .val (.int x), .val (.int y), .val (.ref b11), .val (.ref ba13), .val (.int x), .val (.int y), .val (.ref ba19), .val (.int x), .val (.int y)] [])) _
    refine XS.iload X19.here hx rfl (hb hby at_117) rfl ?_
    show Steps p.tables e below (T19.setTop (mkF m 119 #[.val (.int p0), .val (.int p1), .val (.int p2), .val (.int x), .val (.int y), .val (.ref b11), .val (.ref ba13), .val (.int x), .val (.int y), .val (.ref ba19), .val (.int x), .val (.int y)] [(.int x)])) _
    refine XS.iloadN X19.here hx rfl (hb hby at_119) rfl ?_
    exact k
  refine own_go (T := T19) (T' := T19) (f := (mkF m 120 #[.val (.int p0), .val (.int p1), .val (.int p2), .val (.int x), .val (.int y), .val (.ref b11), .val (.ref ba13), .val (.int x), .val (.int y), .val (.ref ba19), .val (.int x), .val (.int y)] [(.int x), (.int x)])) (f' := (mkF m 123 #[.val (.int p0), .val (.int p1), .val (.int p2), .val (.int x), .val (.int y), .val (.ref b11), .val (.ref ba13), .val (.int x), .val (.int y), .val (.ref ba19), .val (.int x), .val (.int y)] [])) (fun t k => ?_) ?_
  · show Steps p.tables e below (T19.setTop (mkF m 120 #[.val (.int p0), .val (.int p1), .val (.int p2), .val (.int x), .val (.int y), .val (.ref b11), .val (.ref ba13), .val (.int x), .val (.int y), .val (.ref ba19), .val (.int x), .val (.int y)] [(.int x), (.int x)])) _
    refine XS.icmpNo X19.here hx rfl (hb hby at_120) rfl (teq rfl).2 ?_
    exact k
  refine own_go (T := T19) (T' := T19) (f := (mkF m 123 #[.val (.int p0), .val (.int p1), .val (.int p2), .val (.int x), .val (.int y), .val (.ref b11), .val (.ref ba13), .val (.int x), .val (.int y), .val (.ref ba19), .val (.int x), .val (.int y)] [])) (f' := (mkF m 127 #[.val (.int p0), .val (.int p1), .val (.int p2), .val (.int x), .val (.int y), .val (.ref b11), .val (.ref ba13), .val (.int x), .val (.int y), .val (.ref ba19), .val (.int x), .val (.int y)] [(.int y), (.int y)])) (fun t k => ?_) ?_
  · show Steps p.tables e below (T19.setTop (mkF m 123 #[.val (.int p0), .val (.int p1), .val (.int p2), .val (.int x), .val (.int y), .val (.ref b11), .val (.ref ba13), .val (.int x), .val (.int y), .val (.ref ba19), .val (.int x), .val (.int y)] [])) _
    refine XS.iload X19.here hx rfl (hb hby at_123) rfl ?_
    show Steps p.tables e below (T19.setTop (mkF m 125 #[.val (.int p0), .val (.int p1), .val (.int p2), .val (.int x), .val (.int y), .val (.ref b11), .val (.ref ba13), .val (.int x), .val (.int y), .val (.ref ba19), .val (.int x), .val (.int y)] [(.int y)])) _
    refine XS.iload X19.here hx rfl (hb hby at_125) rfl ?_
    exact k
  refine own_go (T := T19) (T' := T19) (f := (mkF m 127 #[.val (.int p0), .val (.int p1), .val (.int p2), .val (.int x), .val (.int y), .val (.ref b11), .val (.ref ba13), .val (.int x), .val (.int y), .val (.ref ba19), .val (.int x), .val (.int y)] [(.int y), (.int y)])) (f' := (mkF m 130 #[.val (.int p0), .val (.int p1), .val (.int p2), .val (.int x), .val (.int y), .val (.ref b11), .val (.ref ba13), .val (.int x), .val (.int y), .val (.ref ba19), .val (.int x), .val (.int y)] [])) (fun t k => ?_) ?_
  · show Steps p.tables e below (T19.setTop (mkF m 127 #[.val (.int p0), .val (.int p1), .val (.int p2), .val (.int x), .val (.int y), .val (.ref b11), .val (.ref ba13), .val (.int x), .val (.int y), .val (.ref ba19), .val (.int x), .val (.int y)] [(.int y), (.int y)])) _
    refine XS.icmpNo X19.here hx rfl (hb hby at_127) rfl (teq rfl).2 ?_
    exact k
  refine own_go (T := T19) (T' := T19) (f := (mkF m 130 #[.val (.int p0), .val (.int p1), .val (.int p2), .val (.int x), .val (.int y), .val (.ref b11), .val (.ref ba13), .val (.int x), .val (.int y), .val (.ref ba19), .val (.int x), .val (.int y)] [])) (f' := (mkF m 135 #[.val (.int p0), .val (.int p1), .val (.int p2), .val (.int x), .val (.int y), .val (.ref b11), .val (.ref ba13), .val (.int x), .val (.int y), .val (.ref ba19), .val (.int x), .val (.int y)] [(.int (1 : Int32))])) (fun t k => ?_) ?_
  · show Steps p.tables e below (T19.setTop (mkF m 130 #[.val (.int p0), .val (.int p1), .val (.int p2), .val (.int x), .val (.int y), .val (.ref b11), .val (.ref ba13), .val (.int x), .val (.int y), .val (.ref ba19), .val (.int x), .val (.int y)] [])) _
    refine XS.iconst X19.here hx rfl (hb hby at_130) ?_
    show Steps p.tables e below (T19.setTop (mkF m 131 #[.val (.int p0), .val (.int p1), .val (.int p2), .val (.int x), .val (.int y), .val (.ref b11), .val (.ref ba13), .val (.int x), .val (.int y), .val (.ref ba19), .val (.int x), .val (.int y)] [(.int (1 : Int32))])) _
    refine XS.goto X19.here hx rfl (pc0 := 131) (pc' := 135) rfl (hb hby at_131) (by decide) (by decide) ?_
    exact k
  exact own_retN X19 hx hlk (t := .boolean) (w := (1 : Int32)) hret (by simp) (hb hby at_135) rfl (by decide) (by decide) ⟨rfl, N19⟩
set_option maxRecDepth 65536 in
set_option maxHeartbeats 40000000 in
theorem comes_1 {Post : Tables → Env → Array Value → State → Outcome → State → Prop} (hpost : ∀ tb e args s v u, (limb_1_1.after args s (.returned v) u = true ∧ limb_1_2.after args s (.returned v) u = true ∧ True) → FrameEnd s (.returned v) u (Jvm.fieldLocs frame_1_writes args s ++ Jvm.arrayLocs frame_1_arrays args s ++ Jvm.staticLocs frame_1_statics s) 16 128 → Post tb e args s (.returned v) u) :
    ArmFor flags0 classFile x code maxLocals ret World_1 tables_1 room_1 Calls_1 rest_1 Pre_1 Post := by
  intro l hfl _ _ p e ha hc hk s m args below hf hA hF happ hP
  obtain ⟨hcalls, hrest, hpre⟩ := hP
  obtain ⟨-, -, -, hnamed, -, -, -, hat⟩ := (Spec.applies_iff hf).mp happ
  obtain ⟨hg, hn⟩ := and_e (Cond.before_iff.mp (show (Jvm.Cond.and given_1 narrow_1).before args s = true from hpre))
  obtain ⟨gc, ga0⟩ := and_e hg
  obtain ⟨gv0, ga1⟩ := and_e ga0
  obtain ⟨gv1, ga2⟩ := and_e ga1
  obtain ⟨w0, w1, w2, rfl⟩ : ∃ w0 w1 w2, args = #[w0, w1, w2] := by
    have hs : args.size = 3 := by simpa [Cond.value, given_1] using gc
    obtain ⟨L⟩ := args
    match L, hs with
    | [w0, w1, w2], _ => exact ⟨w0, w1, w2, rfl⟩
  have hw := fun d (hd : d ∈ tables_1) => atoms_spec (ws := Jvm.Cond.code x code maxLocals ret :: tables_1) hat d (List.mem_cons_of_mem _ hd)
  have hfit : Fit s := fun {y c} hc i hi => by
    obtain ⟨ha, rfl⟩ := Array.getElem?_eq_some_iff.mp hc
    have q := List.all_eq_true.mp ((Array.all_eq_true_iff_forall_mem.mp hF) _ (Array.getElem_mem ha)) i (List.mem_range.mpr hi)
    simpa [Array.getElem?_eq_getElem hi] using q
  obtain ⟨i0, e0⟩ := is_v gv0
  obtain rfl : w0 = (.int i0) := Option.some.inj e0
  obtain ⟨i1, e1⟩ := is_v gv1
  obtain rfl : w1 = (.int i1) := Option.some.inj e1
  obtain ⟨i2, e2⟩ := is_v ga2
  obtain rfl : w2 = (.int i2) := Option.some.inj e2
  obtain ⟨n, o, h1, h2, h3, _, L, rfl, ⟨rfl, N⟩, hq⟩ := rm0 l s _ hw tables_1 i0 i1 i2  s.heap s.heap.size (Nat.le_refl _)  p e ha hc hk s m _ below hf ((Spec.applies_iff_loose hf).mp happ).1 ⟨rfl, State.Warmed39.refl s, rfl⟩ trivial
  refine ⟨n, _, h1, h2, h3, hpost _ _ _ _ _ _ ⟨Cond.after_iff.mpr rfl, Cond.after_iff.mpr (eq_i res_at (Term.int_eval (1)) rfl), trivial⟩ ⟨hq.1, hq.2.1, (hq.2.2.sift fun y hy => Or.inr (N y hy)).mono (by decide) (by decide)⟩⟩
theorem main_1_1 : Claimed_1_1 := comes_1 fun _ _ _ _ _ _ h hF => ⟨h.1, hF⟩
theorem main_1_2 : Claimed_1_2 := comes_1 fun _ _ _ _ _ _ h hF => ⟨h.2.1, hF⟩
end Jvm.Pilot.@@N@@
namespace Jvm.Pilot.@@N@@
open Jvm Jvm.ClassFile Sem Op Lib Jvm.Free Jvm.Stand Jvm.Pilot.@@N@@.Jvm.D
/-! MADE BY PROGRAM (witnessworld.py) out of the Statement's table words and the real class files: 10 classes; the members and pool entries that the words name. The judged class is class 1, her method 1. -/
namespace start1
open Jvm.ClassFile
def u (s : String) : CpInfo := .utf8 (stringToUtf16 s)
/-- a pool by its gaps: so many unusable entries, then the entry; so many at the end -/
def gap : Nat → List CpInfo → List CpInfo
  | 0, r => r
  | n + 1, r => .unusable :: gap n r
def poolList (es : List (Nat × CpInfo)) (last : Nat) : List CpInfo := es.foldr (fun e r => gap e.1 (e.2 :: r)) (gap last [])
def pool (es : List (Nat × CpInfo)) (last : Nat) : Array CpInfo := ⟨poolList es last⟩
def fileOf (pool : Array CpInfo) (this : Nat) (attrs : Array Attribute := #[]) (ms : Array MethodInfo := #[]) (fl : Nat := 33) (sup : Nat := 0) (ifs : Array Nat := #[]) (fds : Array FieldInfo := #[]) : ClassFile where
  minorVersion := 0
  majorVersion := 65
  constantPool := pool
  accessFlags := fl
  thisClass := this
  superClass := sup
  interfaces := ifs
  fields := fds
  methods := ms
  attributes := attrs
def plain (name : String) (sup : Option ClassId) : Class where
  name := name
  kind := .ordinary
  loader := none
  accessFlags := 33
  super := sup
  interfaces := #[]
  cf := none
  fields := #[]
  methods := #[]
  instanceTypes := #[]
  staticTypes := #[]
  resolved := #[]
  callSites := []
  init := .initialized
  statics := none
  mirror := none

def pool0 : Array CpInfo := pool [(5, u "<init>"), (0, u "()V"), (1, .class_ 10), (1, u "java/lang/Object")] 113

def k0c0 : Code := { maxStack := 0, maxLocals := 1, code := object_method_1_code, exceptionTable := #[], attributes := #[] }
def k0m0 : Method := { name := "<init>", desc := "()V", sig := { parameters := [], returnType := none }, accessFlags := 1, code := some k0c0 }
/-- java/lang/Object -/
def k0 : Class := { plain "java/lang/Object" none with
  accessFlags := 33
  interfaces := #[]
  cf := some (fileOf pool0 8 #[] #[{ accessFlags := 1, nameIndex := 5, descriptorIndex := 6, attributes := #[] }] 33 0 #[] #[])
  fields := #[]
  methods := #[k0m0]
  instanceTypes := #[]
  staticTypes := #[]
  resolved := Array.replicate 124 none
  statics := none }

def pool1 : Array CpInfo := pool [(2, .class_ 4), (1, u "java/lang/Object"), (0, u "<init>"), (0, u "()V"), (0, .class_ 8), (0, u "com/example/deft_index/deftindex/index/DocsLayout"), (0, .methodref 7 10), (0, .nameAndType 5 11), (0, u "(III)V"), (0, .methodref 7 13), (0, .nameAndType 14 15), (0, u "header"), (0, u "()[B"), (0, .class_ 17), (0, u "com/example/deft_index/deftindex/index/DocsLayoutHeaderPinLaw"), (2, u "law"), (0, u "(III)Z")] 5

def k1m0 : Method := { name := "<init>", desc := "()V", sig := { parameters := [], returnType := none }, accessFlags := 2, code := none }
def k1c1 : Code := { maxStack := 5, maxLocals := 12, code := code, exceptionTable := #[], attributes := #[] }
def k1m1 : Method := { name := "law", desc := "(III)Z", sig := { parameters := [.int, .int, .int], returnType := some .boolean }, accessFlags := 9, code := some k1c1 }
/-- com/example/deft_index/deftindex/index/DocsLayoutHeaderPinLaw -/
def k1 : Class := { plain "com/example/deft_index/deftindex/index/DocsLayoutHeaderPinLaw" (some 0) with
  accessFlags := 49
  interfaces := #[]
  cf := some (fileOf pool1 16 #[] #[{ accessFlags := 2, nameIndex := 5, descriptorIndex := 6, attributes := #[] }, { accessFlags := 9, nameIndex := 20, descriptorIndex := 21, attributes := #[] }] 49 2 #[] #[])
  fields := #[]
  methods := #[k1m0, k1m1]
  instanceTypes := #[]
  staticTypes := #[]
  resolved := Array.replicate 27 none
  statics := none }

def pool2 : Array CpInfo := pool [(1, .methodref 2 3), (0, .class_ 4), (0, .nameAndType 5 6), (0, u "java/lang/Object"), (0, u "<init>"), (0, u "()V"), (0, .class_ 8), (0, u "java/lang/Record")] 13

def k2c0 : Code := { maxStack := 1, maxLocals := 1, code := jdk_30_method_1_code, exceptionTable := #[], attributes := #[] }
def k2m0 : Method := { name := "<init>", desc := "()V", sig := { parameters := [], returnType := none }, accessFlags := 4, code := some k2c0 }
/-- java/lang/Record -/
def k2 : Class := { plain "java/lang/Record" (some 0) with
  accessFlags := 1057
  interfaces := #[]
  cf := some (fileOf pool2 7 #[] #[{ accessFlags := 4, nameIndex := 5, descriptorIndex := 6, attributes := #[] }] 1057 2 #[] #[])
  fields := #[]
  methods := #[k2m0]
  instanceTypes := #[]
  staticTypes := #[]
  resolved := Array.replicate 22 none
  statics := none }

def pool3 : Array CpInfo := pool [(3, .methodref 4 5), (0, .class_ 6), (0, .nameAndType 7 8), (0, u "java/lang/Record"), (0, u "<init>"), (0, u "()V"), (0, .fieldref 10 11), (0, .class_ 12), (0, .nameAndType 13 14), (0, u "com/example/deft_index/deftindex/index/DocsLayout"), (0, u "documents"), (0, u "I"), (0, .fieldref 10 16), (0, .nameAndType 17 14), (0, u "offsetBits"), (0, .fieldref 10 19), (0, .nameAndType 20 14), (0, u "lengthBits"), (6, u "(III)V"), (64, u "HEADER"), (2, u "MAX_BITS"), (13, u "header"), (0, u "()[B")] 36

def k3c0 : Code := { maxStack := 2, maxLocals := 4, code := prog_54_method_1_code, exceptionTable := #[], attributes := #[] }
def k3m0 : Method := { name := "<init>", desc := "(III)V", sig := { parameters := [.int, .int, .int], returnType := none }, accessFlags := 0, code := some k3c0 }
def k3c1 : Code := { maxStack := 4, maxLocals := 1, code := prog_54_method_4_code, exceptionTable := #[], attributes := #[] }
def k3m1 : Method := { name := "header", desc := "()[B", sig := { parameters := [], returnType := some (.array .byte) }, accessFlags := 0, code := some k3c1 }
/-- com/example/deft_index/deftindex/index/DocsLayout -/
def k3 : Class := { plain "com/example/deft_index/deftindex/index/DocsLayout" (some 2) with
  accessFlags := 48
  interfaces := #[]
  cf := some (fileOf pool3 10 #[] #[{ accessFlags := 0, nameIndex := 7, descriptorIndex := 27, attributes := #[] }, { accessFlags := 0, nameIndex := 109, descriptorIndex := 110, attributes := #[] }] 48 4 #[] #[{ accessFlags := 18, nameIndex := 13, descriptorIndex := 14, attributes := #[] }, { accessFlags := 18, nameIndex := 17, descriptorIndex := 14, attributes := #[] }, { accessFlags := 18, nameIndex := 20, descriptorIndex := 14, attributes := #[] }, { accessFlags := 26, nameIndex := 92, descriptorIndex := 14, attributes := #[] }, { accessFlags := 26, nameIndex := 95, descriptorIndex := 14, attributes := #[] }])
  fields := #[{ name := "documents", type := .int, accessFlags := 18, slot := 0, constantValue := 0 }, { name := "offsetBits", type := .int, accessFlags := 18, slot := 1, constantValue := 0 }, { name := "lengthBits", type := .int, accessFlags := 18, slot := 2, constantValue := 0 }, { name := "HEADER", type := .int, accessFlags := 26, slot := 0, constantValue := 0 }, { name := "MAX_BITS", type := .int, accessFlags := 26, slot := 1, constantValue := 0 }]
  methods := #[k3m0, k3m1]
  instanceTypes := #[.int, .int, .int]
  staticTypes := #[.int, .int]
  resolved := Array.replicate 147 none
  statics := none }

def pool4 : Array CpInfo := pool [(1, u "java/lang/Cloneable"), (0, .class_ 1), (0, u "java/lang/Object"), (0, .class_ 3)] 3

/-- java/lang/Cloneable -/
def k4 : Class := { plain "java/lang/Cloneable" (some 0) with
  accessFlags := 1537
  interfaces := #[]
  cf := some (fileOf pool4 2 #[] #[] 1537 4 #[] #[])
  fields := #[]
  methods := #[]
  instanceTypes := #[]
  staticTypes := #[]
  resolved := Array.replicate 8 none
  statics := none }

def pool5 : Array CpInfo := pool [(1, u "java/io/Serializable"), (0, .class_ 1), (0, u "java/lang/Object"), (0, .class_ 3)] 3

/-- java/io/Serializable -/
def k5 : Class := { plain "java/io/Serializable" (some 0) with
  accessFlags := 1537
  interfaces := #[]
  cf := some (fileOf pool5 2 #[] #[] 1537 4 #[] #[])
  fields := #[]
  methods := #[]
  instanceTypes := #[]
  staticTypes := #[]
  resolved := Array.replicate 8 none
  statics := none }

/-- the primitive byte -/
def k6 : Class := { plain "byte" none with kind := .primitive 'B', accessFlags := 0x411 }
/-- [B -/
def k7 : Class := { plain "[B" (some 0) with kind := .array 6 .byte, interfaces := #[4, 5], accessFlags := 1041 }

/-- the primitive int -/
def k8 : Class := { plain "int" none with kind := .primitive 'I', accessFlags := 0x411 }
/-- [I -/
def k9 : Class := { plain "[I" (some 0) with kind := .array 8 .int, interfaces := #[4, 5], accessFlags := 1041 }

def heap : Heap := #[]
def classes : Array Class := #[k0, k1, k2, k3, k4, k5, k6, k7, k8, k9]
def interned : List (Array UInt16 × Addr) := []
def slotsUsed : Nat := 0
def theMethod : MethodId := ⟨1, 1⟩
def args0 : Array Value := #[.int 5, .int 300, .int 7]
def aboutOver (below : List Frame) : State where
  vm := { classes := classes, interned := interned.toArray }
  heap := heap
  slotsUsed := slotsUsed
  threads := #[{ frames := .invoking theMethod args0 :: below }]
def below0 : List Frame := [.native { method := ⟨0, 0⟩, args := #[] }]
def about1 : State := aboutOver below0
def p0 : Program := .bare "" "" ""
def e0 : Env := launch0.env 0 0 0
theorem w_frames : about1.frames = Frame.invoking theMethod args0 :: below0 := rfl
set_option maxRecDepth 65536 in
theorem w_args : argsFit about1.vm theMethod args0 = true := by decide +kernel
set_option maxRecDepth 65536 in
theorem w_heap : heapFits about1 = true := by decide +kernel
set_option maxRecDepth 65536 in
theorem w_runnable : about1.curStatus? = some .runnable := by decide +kernel
set_option maxRecDepth 65536 in
theorem w_alone : about1.alone = true := by decide +kernel
set_option maxRecDepth 65536 in
theorem w_named : about1.methodNamed? x = some theMethod := by decide +kernel
set_option maxRecDepth 65536 in
theorem w_hears : about1.hears theMethod below0 = true := by decide +kernel
set_option maxRecDepth 65536 in
theorem w_ripe : about1.ripe theMethod args0 below0 = true := by decide +kernel
theorem w_running : about1.status = .running := rfl
set_option maxRecDepth 65536 in
theorem w_room : about1.hasRoom e0.platform room_1 = true :=
  launch0.hasRoom_least _ room_1 (by decide +kernel) (by decide +kernel) (by decide +kernel) (by decide +kernel) (by decide +kernel) (by decide +kernel)
theorem allAtoms_all (ts : List Jvm.Cond) (a : Array Jvm.Value) (st : Jvm.State) : (allAtoms ts).before a st = ts.all (fun c => c.before a st) := by
  induction ts with
  | nil => rfl
  | cons c t ih =>
    show (Jvm.Cond.and c (allAtoms t)).before a st = _
    rw [Jvm.Cond.before_and, ih, List.all_cons]
def words1 : List Jvm.Cond := Jvm.Cond.code x code maxLocals ret :: tables_1
/-- a 'code' word, met by the world's own term for the bytes: nothing is compared byte by byte -/
theorem code_word {y : MethodName} {bytes : ByteArray} {mx : Nat} {rt : Option FieldType} {a : Array Value} {s : State} {m : MethodId} {meth : Method} {c : Code} (h1 : s.methodNamed? y = some m) (h2 : s.vm.method? m = some meth) (h3 : meth.code = some c) (h4 : c.code = bytes)
    (h5 : (c.maxLocals == mx && c.exceptionTable.isEmpty && decide (c.maxStack ≤ mostOperands) && decide (meth.sig.returnType = rt) && !meth.locks && decide (parseMethodDescriptor y.desc = some meth.sig)) = true) : (Jvm.Cond.code y bytes mx rt).before a s = true := by
  simp only [Bool.and_eq_true, beq_iff_eq, Bool.not_eq_true', decide_eq_true_eq] at h5
  obtain ⟨⟨⟨⟨⟨g1, g2⟩, g3⟩, g4⟩, g5⟩, g6⟩ := h5
  simp [Cond.before, Cond.holds, Cond.value, h1, h2, h3, h4, g1, g2, g3, g4, g5, g6]
def isCode : Jvm.Cond → Bool
  | .code _ _ _ _ => true
  | _ => false
theorem all_split {L : List Jvm.Cond} {P : Jvm.Cond → Bool} (h1 : L.all (fun c => isCode c || P c) = true) (h2 : ∀ c ∈ L.filter isCode, P c = true) : L.all P = true := by
  refine List.all_eq_true.mpr fun c hc => ?_
  have h := List.all_eq_true.mp h1 c hc
  rcases Bool.eq_false_or_eq_true (isCode c) with hi | hi
  · exact h2 c (List.mem_filter.mpr ⟨hc, hi⟩)
  · simpa [hi] using h
set_option maxRecDepth 65536 in
theorem w_c0 : (Jvm.Cond.code x code maxLocals ret).before args0 about1 = true := code_word (m := ⟨1, 1⟩) (meth := k1m1) (c := k1c1) (by decide +kernel) rfl rfl rfl (by decide +kernel)
set_option maxRecDepth 65536 in
theorem w_c1 : (Jvm.Cond.code ({ cls := "com/example/deft_index/deftindex/index/DocsLayout", name := "<init>", desc := "(III)V" } : Jvm.MethodName) prog_54_method_1_code (4 : Nat) (Option.none : Option Jvm.ClassFile.FieldType)).before args0 about1 = true := code_word (m := ⟨3, 0⟩) (meth := k3m0) (c := k3c0) (by decide +kernel) rfl rfl rfl (by decide +kernel)
set_option maxRecDepth 65536 in
theorem w_c2 : (Jvm.Cond.code ({ cls := "java/lang/Record", name := "<init>", desc := "()V" } : Jvm.MethodName) jdk_30_method_1_code (1 : Nat) (Option.none : Option Jvm.ClassFile.FieldType)).before args0 about1 = true := code_word (m := ⟨2, 0⟩) (meth := k2m0) (c := k2c0) (by decide +kernel) rfl rfl rfl (by decide +kernel)
set_option maxRecDepth 65536 in
theorem w_c3 : (Jvm.Cond.code ({ cls := "java/lang/Object", name := "<init>", desc := "()V" } : Jvm.MethodName) object_method_1_code (1 : Nat) (Option.none : Option Jvm.ClassFile.FieldType)).before args0 about1 = true := code_word (m := ⟨0, 0⟩) (meth := k0m0) (c := k0c0) (by decide +kernel) rfl rfl rfl (by decide +kernel)
set_option maxRecDepth 65536 in
theorem w_c4 : (Jvm.Cond.code ({ cls := "com/example/deft_index/deftindex/index/DocsLayout", name := "header", desc := "()[B" } : Jvm.MethodName) prog_54_method_4_code (1 : Nat) (Option.some (Jvm.ClassFile.FieldType.array Jvm.ClassFile.FieldType.byte))).before args0 about1 = true := code_word (m := ⟨3, 1⟩) (meth := k3m1) (c := k3c1) (by decide +kernel) rfl rfl rfl (by decide +kernel)
def codes1 : List Jvm.Cond := [Jvm.Cond.code x code maxLocals ret, Jvm.Cond.code ({ cls := "com/example/deft_index/deftindex/index/DocsLayout", name := "<init>", desc := "(III)V" } : Jvm.MethodName) prog_54_method_1_code (4 : Nat) (Option.none : Option Jvm.ClassFile.FieldType), Jvm.Cond.code ({ cls := "java/lang/Record", name := "<init>", desc := "()V" } : Jvm.MethodName) jdk_30_method_1_code (1 : Nat) (Option.none : Option Jvm.ClassFile.FieldType), Jvm.Cond.code ({ cls := "java/lang/Object", name := "<init>", desc := "()V" } : Jvm.MethodName) object_method_1_code (1 : Nat) (Option.none : Option Jvm.ClassFile.FieldType), Jvm.Cond.code ({ cls := "com/example/deft_index/deftindex/index/DocsLayout", name := "header", desc := "()[B" } : Jvm.MethodName) prog_54_method_4_code (1 : Nat) (Option.some (Jvm.ClassFile.FieldType.array Jvm.ClassFile.FieldType.byte))]
set_option maxRecDepth 65536 in
theorem codes_eq : words1.filter isCode = codes1 := rfl
theorem w_codes : ∀ c ∈ words1.filter isCode, c.before args0 about1 = true := by
  rw [codes_eq]
  intro c hc
  simp only [codes1, List.mem_cons, List.not_mem_nil, or_false] at hc
  rcases hc with rfl | rfl | rfl | rfl | rfl
  · exact w_c0
  · exact w_c1
  · exact w_c2
  · exact w_c3
  · exact w_c4
set_option maxRecDepth 65536 in
theorem w_t1 : (words1.take 24).all (fun c => isCode c || c.before args0 about1) = true := by decide +kernel
set_option maxRecDepth 65536 in
theorem w_t2 : (words1.drop 24).all (fun c => isCode c || c.before args0 about1) = true := by decide +kernel
theorem w_tables : (allAtoms (Jvm.Cond.code x code maxLocals ret :: tables_1)).before args0 about1 = true := by
  rw [allAtoms_all]
  show words1.all (fun c => c.before args0 about1) = true
  refine all_split ?_ w_codes
  rw [← List.take_append_drop 24 words1, List.all_append, w_t1, w_t2]
  rfl
set_option maxRecDepth 65536 in
theorem w_case : (Jvm.Cond.and given_1 narrow_1).before args0 about1 = true := by decide +kernel
theorem w_applies : (headSpec (Jvm.Cond.code x code maxLocals ret :: tables_1) room_1).applies x e0.platform about1 = true :=
  (Spec.applies_iff w_frames).mpr ⟨w_running, w_runnable, w_alone, w_named, w_hears, w_ripe, w_room, w_tables⟩
theorem atStart : AtStart classFile x code maxLocals ret World_1 tables_1 room_1 Calls_1 rest_1 Pre_1 launch0 p0 e0 about1 theMethod args0 below0 :=
  ⟨lists_1, trivial, launch0.admits_env _ _ _, launch0.least_env, fairChoices_fair.cas, fairChoices_fair.clock, w_frames, w_args, w_heap, w_applies, trivial, trivial, w_case⟩
end start1
theorem witness_1 : WitnessClaimed_1 := ⟨start1.p0, start1.e0, start1.about1, start1.theMethod, start1.args0, start1.below0, start1.atStart⟩
end Jvm.Pilot.@@N@@
