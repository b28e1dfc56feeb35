import JvmDerived
import JvmDerived.Pilot.@@N@@Statement
import JvmDerived.Pilot.@@N@@Code
set_option linter.unusedVariables false
set_option linter.unusedSimpArgs false
namespace Jvm.Pilot.@@N@@
open Jvm Jvm.ClassFile Sem Op Lib Jvm.Free Jvm.Stand Jvm.LawKit Jvm.RoadKit Bundle Jvm.Pilot.@@N@@.Jvm.D
/-! 1. my way of walking: 'from here the run comes to an end that G allows' -/
def Rch (p : Program) (e : Env) (below : List Frame) (G : Outcome → State → Prop) (T : State) (f : JFrame) : Prop := ∃ s₂ o, Steps p.tables e below (T.setTop f) s₂ ∧ s₂.status = .running ∧ Ended s₂ below o ∧ G o s₂
def Gd (s : State) (Q : Option Value → Heap → List Loc → Prop) (k n : Nat) : Outcome → State → Prop := fun o U' => ∃ v L, o = .returned v ∧ Q v U'.heap L ∧ FrameEnd s o U' L k n
section Own
variable {p : Program} {l : Launch} {e : Env} {R : Room} {s : State} {m : MethodId} {args : Array Value} {below : List Frame} {meth : Method} {c : Code} {T T' : State} {f f' : JFrame} {locs : List Loc} {cells slots k n : Nat} {G : Outcome → State → Prop} {Q : Option Value → Heap → List Loc → Prop}
theorem own_go (st : ∀ t, Steps p.tables e below (T'.setTop f') t → Steps p.tables e below (T.setTop f) t) (r : Rch p e below G T' f') : Rch p e below G T f := by
  obtain ⟨s₂, o, h1, h2⟩ := r
  exact ⟨s₂, o, st _ h1, h2⟩
theorem own_go2 (st : Steps p.tables e below (T.setTop f) (T'.setTop f')) (r : Rch p e below G T' f') : Rch p e below G T f := own_go (fun t h => st.trans h) r
theorem own_fin (X : Stand p l e R s m args below meth c T locs cells slots) (hlk : meth.locks = false) {v : Option Value} (hv : meth.sig.returnType = none → v = none) (hc : cells ≤ k) (hs : slots ≤ n)
    (st : ∀ fs, (∀ (f : JFrame) (acts : List Action), f.method = m → f.locked = none → f.entered = [] → (doReturn e (T.setTop f) acts v).1 = T.setFrames fs) → Steps p.tables e below (T.setTop f) (T.setFrames fs)) (hQ : Q v T.heap locs) : Rch p e below (Gd s Q k n) T f := by
  obtain ⟨fs, hr, hrun, hended, hW, hsame⟩ := X.leave hv hlk
  exact ⟨_, _, st fs hr, hrun, hended, _, _, rfl, hQ, ⟨_, rfl⟩, hW, hsame.mono hc hs⟩
theorem own_retV (X : Stand p l e R s m args below meth c T locs cells slots) (hx : p.tables.exec = Jvm.exec) (hlk : meth.locks = false) (hret : meth.sig.returnType = none) {pc : Nat} {Ls : Array Slot} (hd : decode c.code pc = .ok (.return_, 1)) (hc : cells ≤ k) (hs : slots ≤ n) (hQ : Q none T.heap locs) : Rch p e below (Gd s Q k n) T (mkF m pc Ls []) :=
  own_fin X hlk (fun _ => rfl) hc hs (fun fs hr => X.returnOut hx hret hd hr) hQ
theorem own_retN (X : Stand p l e R s m args below meth c T locs cells slots) (hx : p.tables.exec = Jvm.exec) (hlk : meth.locks = false) {t : FieldType} (hret : meth.sig.returnType = some t) (ht : t = .boolean ∨ t = .byte ∨ t = .char ∨ t = .short) {pc : Nat} {Ls : Array Slot} {z w : Int32} {rest : List Value} (hd : decode c.code pc = .ok (.ireturn, 1)) (hz : nar t z = w) (hc : cells ≤ k) (hs : slots ≤ n) (hQ : Q (some (.int w)) T.heap locs) : Rch p e below (Gd s Q k n) T (mkF m pc Ls (.int z :: rest)) :=
  own_fin X hlk (fun h => by rw [hret] at h; cases h) hc hs (fun fs hr => retN X hx hret ht hd (by rw [hz]; exact hr)) hQ
theorem own_retI (X : Stand p l e R s m args below meth c T locs cells slots) (hx : p.tables.exec = Jvm.exec) (hlk : meth.locks = false) (hret : meth.sig.returnType = some .int) {pc : Nat} {Ls : Array Slot} {z : Int32} {rest : List Value} (hd : decode c.code pc = .ok (.ireturn, 1)) (hc : cells ≤ k) (hs : slots ≤ n) (hQ : Q (some (.int z)) T.heap locs) : Rch p e below (Gd s Q k n) T (mkF m pc Ls (.int z :: rest)) :=
  own_fin X hlk (fun h => by rw [hret] at h; cases h) hc hs (fun fs hr => retOut X hx hret rfl (Or.inl ⟨rfl, Or.inl rfl, z, rfl⟩) hd hr) hQ
theorem own_retJ (X : Stand p l e R s m args below meth c T locs cells slots) (hx : p.tables.exec = Jvm.exec) (hlk : meth.locks = false) (hret : meth.sig.returnType = some .long) {pc : Nat} {Ls : Array Slot} {z : Int64} {rest : List Value} (hd : decode c.code pc = .ok (.lreturn, 1)) (hc : cells ≤ k) (hs : slots ≤ n) (hQ : Q (some (.long z)) T.heap locs) : Rch p e below (Gd s Q k n) T (mkF m pc Ls (.long z :: rest)) :=
  own_fin X hlk (fun h => by rw [hret] at h; cases h) hc hs (fun fs hr => retOut X hx hret rfl (Or.inr (Or.inl ⟨rfl, rfl, z, rfl⟩)) hd hr) hQ
theorem own_retA (X : Stand p l e R s m args below meth c T locs cells slots) (hx : p.tables.exec = Jvm.exec) (hlk : meth.locks = false) {t : FieldType} (hret : meth.sig.returnType = some t) (ht : t.isReference = true) {w : Value} (hw : w.isRef = true) {pc : Nat} {Ls : Array Slot} {rest : List Value} (hd : decode c.code pc = .ok (.areturn, 1)) (hc : cells ≤ k) (hs : slots ≤ n) (hQ : Q (some w) T.heap locs) : Rch p e below (Gd s Q k n) T (mkF m pc Ls (w :: rest)) :=
  own_fin X hlk (fun h => by rw [hret] at h; cases h) hc hs (fun fs hr => retOut X hx hret (by rcases ref_cases hw with rfl | ⟨a, rfl⟩ <;> (cases t <;> first | rfl | cases ht)) (Or.inr (Or.inr (Or.inr (Or.inr ⟨rfl, ht, hw⟩)))) hd hr) hQ
end Own

theorem own_eqi {args : Array Value} {s : State} {t : Term} {k : Int32} (h : (Jvm.Cond.eq t (.int k)).value args s none s [] = some true) : t.eval args s none [] s = some (.int k) := by
  obtain ⟨x, y, e1, e2, -, k2⟩ := cmp_v (Or.inl h)
  have e3 : y = .int k := (Option.some.inj e2).symm
  subst e3
  obtain ⟨z, rfl⟩ := k2
  have q := (Cond.eq_ints e1 e2).symm.trans h
  rw [e1, of_decide_eq_true (Option.some.inj q)]
theorem own_ord {args : Array Value} {s : State} {t : Term} {a : Addr} {C n d : String} {k : Int32} (ht : t.eval args s none [] s = some (.ref a)) (h : (Jvm.Cond.eq (.field t C n d) (.int k)).value args s none s [] = some true) : s.fieldOf? a C n d = some (.int k) := (fld_at ht).symm.trans (own_eqi h)
theorem own_ne {s : State} {a b : Addr} {C n d : String} {j k : Int32} (h1 : s.fieldOf? a C n d = some (.int j)) (h2 : s.fieldOf? b C n d = some (.int k)) (hn : j ≠ k) : ¬ (a = b) := fun q => by
  subst q
  rw [h1] at h2
  exact hn (Value.int.inj (Option.some.inj h2))
def own_vd (u sh sn wa fa : Addr) : Addr := if u = sh then wa else if u = sn then wa else fa
theorem d1_0 : decode prog_18_method_5_code 0 = .ok (.aload_n 0, 1) := by decide +kernel
theorem d1_1 : decode prog_18_method_5_code 1 = .ok (.getstatic 10, 3) := by decide +kernel
theorem d1_4 : decode prog_18_method_5_code 4 = .ok (.if_acmp .eq 10, 3) := by decide +kernel
theorem d1_14 : decode prog_18_method_5_code 14 = .ok (.getstatic 39, 3) := by decide +kernel
theorem d1_17 : decode prog_18_method_5_code 17 = .ok (.goto 6, 3) := by decide +kernel
theorem d1_23 : decode prog_18_method_5_code 23 = .ok (.areturn, 1) := by decide +kernel
theorem d1_7 : decode prog_18_method_5_code 7 = .ok (.aload_n 0, 1) := by decide +kernel
theorem d1_8 : decode prog_18_method_5_code 8 = .ok (.getstatic 13, 3) := by decide +kernel
theorem d1_11 : decode prog_18_method_5_code 11 = .ok (.if_acmp .ne 9, 3) := by decide +kernel
theorem d1_20 : decode prog_18_method_5_code 20 = .ok (.getstatic 45, 3) := by decide +kernel
theorem pn_1 : plainName "com/example/sealbind/sealbind/core/Level" = true := by first | (simp [plainName, overriddenIn]; done) | decide +kernel
theorem ef_1 (m : MethodId) (x0 : Addr) : entryFrame m #[(.ref x0)] 1 = mkF m 0 #[.val (.ref x0)] [] := by first | (simp [entryFrame, mkF, argsToLocals, Value.category]; done) | rfl
def Q1 (Z : State) (u0 : Addr) (sh : Addr) (sn : Addr) (wa : Addr) (fa : Addr) (h0 : Heap) (n0 : Nat) (v : Option Value) (h : Heap) (L : List Loc) : Prop := v = some (.ref (own_vd u0 sh sn wa fa)) ∧ Fr n0 L ∧ h = h0
set_option maxRecDepth 65536 in
set_option maxHeartbeats 40000000 in
theorem rm1 (l : Launch) (Z : State) (a0 : Array Value) (hw : ∀ d ∈ tables_1, d.before a0 Z = true) (ws : List Jvm.Cond) (u0 : Addr) (sh : Addr) (sn : Addr) (wa : Addr) (fa : Addr) (h0 : Heap) (n0 : Nat) (Z0 : n0 ≤ h0.size) (S_SHOULD : Sta Z h0 "com/example/sealbind/sealbind/core/Level" "SHOULD" "Lcom/example/sealbind/sealbind/core/Level;" (.ref sh)) (S_SHOULD_NOT : Sta Z h0 "com/example/sealbind/sealbind/core/Level" "SHOULD_NOT" "Lcom/example/sealbind/sealbind/core/Level;" (.ref sn)) (S_WARNING : Sta Z h0 "com/example/sealbind/sealbind/core/Verdict" "WARNING" "Lcom/example/sealbind/sealbind/core/Verdict;" (.ref wa)) (S_FAILED : Sta Z h0 "com/example/sealbind/sealbind/core/Verdict" "FAILED" "Lcom/example/sealbind/sealbind/core/Verdict;" (.ref fa)) :
    MetFree l (⟨"com/example/sealbind/sealbind/core/Level", "verdictWhenUnmet", "()Lcom/example/sealbind/sealbind/core/Verdict;"⟩ : MethodName) (head1 (Jvm.Cond.code (⟨"com/example/sealbind/sealbind/core/Level", "verdictWhenUnmet", "()Lcom/example/sealbind/sealbind/core/Verdict;"⟩ : MethodName) prog_18_method_5_code 1 (some (.object "com/example/sealbind/sealbind/core/Verdict")) :: ws) ({ frames := 0, cells := 0, slots := 0, locals := 0 } : Room)) (fun a U => a = #[(.ref u0)] ∧ Z.Warmed39 U.vm ∧ U.heap = h0) (fun _ _ _ _ _ => True) (fun _ U o U' => ∃ v L, o = .returned v ∧ Q1 Z u0 sh sn wa fa h0 n0 v U'.heap L ∧ FrameEnd U o U' L ({ frames := 0, cells := 0, slots := 0, locals := 0 } : Room).cells ({ frames := 0, cells := 0, slots := 0, locals := 0 } : Room).slots) := by
  refine MetFree.of_bodySF (plainFor_of_name pn_1) hisR ?_
  intro p e s m args below meth c s₁ Bd hml0 hP hK
  obtain ⟨rfl, hZ, hh⟩ := hP
  have hx := Bd.exec
  have hby := Bd.bytes
  have hlk := Bd.notSynchronized
  have hret := Bd.returns
  have hml : c.maxLocals = 1 := hml0
  have hown : s.vm.findClass "com/example/sealbind/sealbind/core/Level" = some m.cls := findClass_of_methodNamed Bd.named
  have hnm := (name_of_methodNamed Bd.named Bd.method).1
  have X0 : Stand p l e ({ frames := 0, cells := 0, slots := 0, locals := 0 } : Room) s m #[(.ref u0)] below meth c s₁ [] 0 0 := Stand.of_body Bd
  have e0 : s₁.heap = h0 := by rw [← hh, Bd.state]; rfl
  have N0 := Fr.nil n0
  suffices G0 : Rch p e below (Gd s (Q1 Z u0 sh sn wa fa h0 n0) ({ frames := 0, cells := 0, slots := 0, locals := 0 } : Room).cells ({ frames := 0, cells := 0, slots := 0, locals := 0 } : Room).slots) s₁ (mkF m 0 #[.val (.ref u0)] []) by
    obtain ⟨s₂, o, r1, r2, r3, r4⟩ := G0
    exact ⟨s₂, o, castTop (ef_1 m u0) r1, r2, r3, r4⟩
  refine own_go (T := s₁) (T' := s₁) (f := (mkF m 0 #[.val (.ref u0)] [])) (f' := (mkF m 1 #[.val (.ref u0)] [(.ref u0)])) (fun t k => ?_) ?_
  · show Steps p.tables e below (s₁.setTop (mkF m 0 #[.val (.ref u0)] [])) _
    refine XS.aloadN X0.here hx rfl (hb hby d1_0) rfl rfl ?_
    exact k
  obtain ⟨T1, X1, e1, st1⟩ := getS2 X0 hx hZ hown (host := "") (Or.inl (hw _ (List.mem_of_getElem? (i := 11) rfl))) Via.refl e0 S_SHOULD (g := (mkF m 1 #[.val (.ref u0)] [(.ref u0)])) rfl (hb hby d1_1)
  refine own_go st1 ?_
  show Rch p e below _ T1 (mkF m 4 #[.val (.ref u0)] [(.ref sh), (.ref u0)])
  by_cases hc4 : u0 = sh
  · refine own_go (T := T1) (T' := T1) (f := (mkF m 4 #[.val (.ref u0)] [(.ref sh), (.ref u0)])) (f' := (mkF m 14 #[.val (.ref u0)] [])) (fun t k => ?_) ?_
    · show Steps p.tables e below (T1.setTop (mkF m 4 #[.val (.ref u0)] [(.ref sh), (.ref u0)])) _
      refine Jvm.RoadKit.acmp (g := (mkF m 4 #[.val (.ref u0)] [(.ref sh), (.ref u0)])) X1 hx rfl rfl rfl (pc0 := 4) (pc' := 14) (same := true) rfl (hb hby d1_4) rfl (decide_eq_true (congrArg Value.ref hc4)) (by decide) (by decide) ?_
      exact k
    obtain ⟨T2, X2, e2, st2⟩ := getS2 X1 hx hZ hown (host := "") (Or.inl (hw _ (List.mem_of_getElem? (i := 19) rfl))) Via.refl e1 S_WARNING (g := (mkF m 14 #[.val (.ref u0)] [])) rfl (hb hby d1_14)
    refine own_go st2 ?_
    show Rch p e below _ T2 (mkF m 17 #[.val (.ref u0)] [(.ref wa)])
    refine own_go (T := T2) (T' := T2) (f := (mkF m 17 #[.val (.ref u0)] [(.ref wa)])) (f' := (mkF m 23 #[.val (.ref u0)] [(.ref wa)])) (fun t k => ?_) ?_
    · show Steps p.tables e below (T2.setTop (mkF m 17 #[.val (.ref u0)] [(.ref wa)])) _
      refine XS.goto X2.here hx rfl (pc0 := 17) (pc' := 23) rfl (hb hby d1_17) (by decide) (by decide) ?_
      exact k
    exact own_retA X2 hx hlk hret rfl rfl (hb hby d1_23) (by decide) (by decide) (by rw [e2]; exact ⟨(by simp [own_vd, hc4]), N0, rfl⟩)
  · refine own_go (T := T1) (T' := T1) (f := (mkF m 4 #[.val (.ref u0)] [(.ref sh), (.ref u0)])) (f' := (mkF m 7 #[.val (.ref u0)] [])) (fun t k => ?_) ?_
    · show Steps p.tables e below (T1.setTop (mkF m 4 #[.val (.ref u0)] [(.ref sh), (.ref u0)])) _
      refine Jvm.RoadKit.acmp (g := (mkF m 4 #[.val (.ref u0)] [(.ref sh), (.ref u0)])) X1 hx rfl rfl rfl (pc0 := 4) (pc' := 7) (same := false) rfl (hb hby d1_4) rfl (decide_eq_false fun q => hc4 (Value.ref.inj q)) (by decide) (by decide) ?_
      exact k
    refine own_go (T := T1) (T' := T1) (f := (mkF m 7 #[.val (.ref u0)] [])) (f' := (mkF m 8 #[.val (.ref u0)] [(.ref u0)])) (fun t k => ?_) ?_
    · show Steps p.tables e below (T1.setTop (mkF m 7 #[.val (.ref u0)] [])) _
      refine XS.aloadN X1.here hx rfl (hb hby d1_7) rfl rfl ?_
      exact k
    obtain ⟨T3, X3, e3, st3⟩ := getS2 X1 hx hZ hown (host := "") (Or.inl (hw _ (List.mem_of_getElem? (i := 13) rfl))) Via.refl e1 S_SHOULD_NOT (g := (mkF m 8 #[.val (.ref u0)] [(.ref u0)])) rfl (hb hby d1_8)
    refine own_go st3 ?_
    show Rch p e below _ T3 (mkF m 11 #[.val (.ref u0)] [(.ref sn), (.ref u0)])
    by_cases hc11 : u0 = sn
    · refine own_go (T := T3) (T' := T3) (f := (mkF m 11 #[.val (.ref u0)] [(.ref sn), (.ref u0)])) (f' := (mkF m 14 #[.val (.ref u0)] [])) (fun t k => ?_) ?_
      · show Steps p.tables e below (T3.setTop (mkF m 11 #[.val (.ref u0)] [(.ref sn), (.ref u0)])) _
        refine Jvm.RoadKit.acmp (g := (mkF m 11 #[.val (.ref u0)] [(.ref sn), (.ref u0)])) X3 hx rfl rfl rfl (pc0 := 11) (pc' := 14) (same := true) rfl (hb hby d1_11) rfl (decide_eq_true (congrArg Value.ref hc11)) (by decide) (by decide) ?_
        exact k
      obtain ⟨T4, X4, e4, st4⟩ := getS2 X3 hx hZ hown (host := "") (Or.inl (hw _ (List.mem_of_getElem? (i := 19) rfl))) Via.refl e3 S_WARNING (g := (mkF m 14 #[.val (.ref u0)] [])) rfl (hb hby d1_14)
      refine own_go st4 ?_
      show Rch p e below _ T4 (mkF m 17 #[.val (.ref u0)] [(.ref wa)])
      refine own_go (T := T4) (T' := T4) (f := (mkF m 17 #[.val (.ref u0)] [(.ref wa)])) (f' := (mkF m 23 #[.val (.ref u0)] [(.ref wa)])) (fun t k => ?_) ?_
      · show Steps p.tables e below (T4.setTop (mkF m 17 #[.val (.ref u0)] [(.ref wa)])) _
        refine XS.goto X4.here hx rfl (pc0 := 17) (pc' := 23) rfl (hb hby d1_17) (by decide) (by decide) ?_
        exact k
      exact own_retA X4 hx hlk hret rfl rfl (hb hby d1_23) (by decide) (by decide) (by rw [e4]; exact ⟨(by simp [own_vd, hc4, hc11]), N0, rfl⟩)
    · refine own_go (T := T3) (T' := T3) (f := (mkF m 11 #[.val (.ref u0)] [(.ref sn), (.ref u0)])) (f' := (mkF m 20 #[.val (.ref u0)] [])) (fun t k => ?_) ?_
      · show Steps p.tables e below (T3.setTop (mkF m 11 #[.val (.ref u0)] [(.ref sn), (.ref u0)])) _
        refine Jvm.RoadKit.acmp (g := (mkF m 11 #[.val (.ref u0)] [(.ref sn), (.ref u0)])) X3 hx rfl rfl rfl (pc0 := 11) (pc' := 20) (same := false) rfl (hb hby d1_11) rfl (decide_eq_false fun q => hc11 (Value.ref.inj q)) (by decide) (by decide) ?_
        exact k
      obtain ⟨T5, X5, e5, st5⟩ := getS2 X3 hx hZ hown (host := "") (Or.inl (hw _ (List.mem_of_getElem? (i := 15) rfl))) Via.refl e3 S_FAILED (g := (mkF m 20 #[.val (.ref u0)] [])) rfl (hb hby d1_20)
      refine own_go st5 ?_
      show Rch p e below _ T5 (mkF m 23 #[.val (.ref u0)] [(.ref fa)])
      exact own_retA X5 hx hlk hret rfl rfl (hb hby d1_23) (by decide) (by decide) (by rw [e5]; exact ⟨(by simp [own_vd, hc4, hc11]), N0, rfl⟩)
theorem pd__28_29Lcom_2fexample_2fsealbind_2fsealbind_2fcore_2fVerdict_3b : parseMethodDescriptor "()Lcom/example/sealbind/sealbind/core/Verdict;" = some ⟨[], some (.object "com/example/sealbind/sealbind/core/Verdict")⟩ := by decide +kernel
theorem pn_0 : plainName "com/example/sealbind/sealbind/core/LevelVerdictWhenUnmetPinLaw" = true := by first | (simp [plainName, overriddenIn]; done) | decide +kernel
theorem ef_0 (m : MethodId) (x0 : Int32) : entryFrame m #[(.int x0)] maxLocals = mkF m 0 #[.val (.int x0), .unset, .unset, .unset] [] := by first | (simp [entryFrame, mkF, argsToLocals, Value.category, maxLocals]; done) | rfl
def Q0 (Z : State) (p0 : Int32) (mu : Addr) (mn : Addr) (sh : Addr) (sn : Addr) (wa : Addr) (fa : Addr) (h0 : Heap) (n0 : Nat) (v : Option Value) (h : Heap) (L : List Loc) : Prop := v = some (.int 1) ∧ Fr n0 L
set_option maxRecDepth 65536 in
set_option maxHeartbeats 40000000 in
theorem rm0 (l : Launch) (Z : State) (a0 : Array Value) (hw : ∀ d ∈ tables_1, d.before a0 Z = true) (ws : List Jvm.Cond) (p0 : Int32) (mu : Addr) (mn : Addr) (sh : Addr) (sn : Addr) (wa : Addr) (fa : Addr) (h0 : Heap) (n0 : Nat) (Z0 : n0 ≤ h0.size) (S_MUST : Sta Z h0 "com/example/sealbind/sealbind/core/Level" "MUST" "Lcom/example/sealbind/sealbind/core/Level;" (.ref mu)) (S_MUST_NOT : Sta Z h0 "com/example/sealbind/sealbind/core/Level" "MUST_NOT" "Lcom/example/sealbind/sealbind/core/Level;" (.ref mn)) (S_SHOULD : Sta Z h0 "com/example/sealbind/sealbind/core/Level" "SHOULD" "Lcom/example/sealbind/sealbind/core/Level;" (.ref sh)) (S_SHOULD_NOT : Sta Z h0 "com/example/sealbind/sealbind/core/Level" "SHOULD_NOT" "Lcom/example/sealbind/sealbind/core/Level;" (.ref sn)) (S_WARNING : Sta Z h0 "com/example/sealbind/sealbind/core/Verdict" "WARNING" "Lcom/example/sealbind/sealbind/core/Verdict;" (.ref wa)) (S_FAILED : Sta Z h0 "com/example/sealbind/sealbind/core/Verdict" "FAILED" "Lcom/example/sealbind/sealbind/core/Verdict;" (.ref fa)) (E_mu : Exa Z h0 mu "com/example/sealbind/sealbind/core/Level") (E_mn : Exa Z h0 mn "com/example/sealbind/sealbind/core/Level") (E_sh : Exa Z h0 sh "com/example/sealbind/sealbind/core/Level") (E_sn : Exa Z h0 sn "com/example/sealbind/sealbind/core/Level") (d1 : ¬ (mu = sh)) (d2 : ¬ (mu = sn)) (d3 : ¬ (mn = sh)) (d4 : ¬ (mn = sn)) :
    MetFree l x (head1 (Jvm.Cond.code x code maxLocals ret :: ws) room_1) (fun a U => a = #[(.int p0)] ∧ Z.Warmed39 U.vm ∧ U.heap = h0) (fun _ _ _ _ _ => True) (fun _ U o U' => ∃ v L, o = .returned v ∧ Q0 Z p0 mu mn sh sn wa fa h0 n0 v U'.heap L ∧ FrameEnd U o U' L room_1.cells room_1.slots) := by
  refine MetFree.of_bodySF (plainFor_of_name pn_0) hisR ?_
  intro p e s m args below meth c s₁ Bd hml0 hP hK
  obtain ⟨rfl, hZ, hh⟩ := hP
  have hx := Bd.exec
  have hby := Bd.bytes
  have hlk := Bd.notSynchronized
  have hret := Bd.returns
  have hml : c.maxLocals = 4 := hml0
  have hown : s.vm.findClass "com/example/sealbind/sealbind/core/LevelVerdictWhenUnmetPinLaw" = some m.cls := findClass_of_methodNamed Bd.named
  have hnm := (name_of_methodNamed Bd.named Bd.method).1
  have X0 : Stand p l e room_1 s m #[(.int p0)] below meth c s₁ [] 0 0 := Stand.of_body Bd
  have e0 : s₁.heap = h0 := by rw [← hh, Bd.state]; rfl
  have N0 := Fr.nil n0
  suffices G0 : Rch p e below (Gd s (Q0 Z p0 mu mn sh sn wa fa h0 n0) room_1.cells room_1.slots) s₁ (mkF m 0 #[.val (.int p0), .unset, .unset, .unset] []) by
    obtain ⟨s₂, o, r1, r2, r3, r4⟩ := G0
    exact ⟨s₂, o, castTop (ef_0 m p0) r1, r2, r3, r4⟩
  refine own_go (T := s₁) (T' := s₁) (f := (mkF m 0 #[.val (.int p0), .unset, .unset, .unset] [])) (f' := (mkF m 5 #[.val (.int p0), .val (.int (p0 &&& (3 : Int32))), .unset, .unset] [(.int (p0 &&& (3 : Int32)))])) (fun t k => ?_) ?_
  · show Steps p.tables e below (s₁.setTop (mkF m 0 #[.val (.int p0), .unset, .unset, .unset] [])) _
    refine XS.iloadN X0.here hx rfl (hb hby at_0) rfl ?_
    show Steps p.tables e below (s₁.setTop (mkF m 1 #[.val (.int p0), .unset, .unset, .unset] [(.int p0)])) _
    refine XS.iconst X0.here hx rfl (hb hby at_1) ?_
    show Steps p.tables e below (s₁.setTop (mkF m 2 #[.val (.int p0), .unset, .unset, .unset] [(.int (3 : Int32)), (.int p0)])) _
    refine XS.iand X0.here hx rfl (hb hby at_2) rfl ?_
    show Steps p.tables e below (s₁.setTop (mkF m 3 #[.val (.int p0), .unset, .unset, .unset] [(.int (p0 &&& (3 : Int32)))])) _
    refine XS.istoreN X0.here hx rfl (hb hby at_3) rfl (l' := #[.val (.int p0), .val (.int (p0 &&& (3 : Int32))), .unset, .unset]) rfl ?_
    show Steps p.tables e below (s₁.setTop (mkF m 4 #[.val (.int p0), .val (.int (p0 &&& (3 : Int32))), .unset, .unset] [])) _
    refine XS.iloadN X0.here hx rfl (hb hby at_4) rfl ?_
    exact k
  by_cases hc5 : (p0 &&& (3 : Int32)) = (0 : Int32)
  · refine own_go (T := s₁) (T' := s₁) (f := (mkF m 5 #[.val (.int p0), .val (.int (p0 &&& (3 : Int32))), .unset, .unset] [(.int (p0 &&& (3 : Int32)))])) (f' := (mkF m 8 #[.val (.int p0), .val (.int (p0 &&& (3 : Int32))), .unset, .unset] [])) (fun t k => ?_) ?_
    · show Steps p.tables e below (s₁.setTop (mkF m 5 #[.val (.int p0), .val (.int (p0 &&& (3 : Int32))), .unset, .unset] [(.int (p0 &&& (3 : Int32)))])) _
      refine XS.ifNo X0.here hx rfl (hb hby at_5) rfl ((if0 _ _).trans (teq hc5).2) ?_
      exact k
    obtain ⟨T6, X6, e6, st6⟩ := getS2 X0 hx hZ hown (host := "") (Or.inl (hw _ (List.mem_of_getElem? (i := 0) rfl))) Via.refl e0 S_MUST (g := (mkF m 8 #[.val (.int p0), .val (.int (p0 &&& (3 : Int32))), .unset, .unset] [])) rfl (hb hby at_8)
    refine own_go st6 ?_
    show Rch p e below _ T6 (mkF m 11 #[.val (.int p0), .val (.int (p0 &&& (3 : Int32))), .unset, .unset] [(.ref mu)])
    refine own_go (T := T6) (T' := T6) (f := (mkF m 11 #[.val (.int p0), .val (.int (p0 &&& (3 : Int32))), .unset, .unset] [(.ref mu)])) (f' := (mkF m 12 #[.val (.int p0), .val (.int (p0 &&& (3 : Int32))), .val (.ref mu), .unset] [])) (fun t k => ?_) ?_
    · show Steps p.tables e below (T6.setTop (mkF m 11 #[.val (.int p0), .val (.int (p0 &&& (3 : Int32))), .unset, .unset] [(.ref mu)])) _
      refine XS.astoreN X6.here hx rfl (hb hby at_11) rfl rfl (l' := #[.val (.int p0), .val (.int (p0 &&& (3 : Int32))), .val (.ref mu), .unset]) rfl ?_
      exact k
    obtain ⟨T7, X7, e7, st7⟩ := getS2 X6 hx hZ hown (host := "") (Or.inl (hw _ (List.mem_of_getElem? (i := 3) rfl))) Via.refl e6 S_FAILED (g := (mkF m 12 #[.val (.int p0), .val (.int (p0 &&& (3 : Int32))), .val (.ref mu), .unset] [])) rfl (hb hby at_12)
    refine own_go st7 ?_
    show Rch p e below _ T7 (mkF m 15 #[.val (.int p0), .val (.int (p0 &&& (3 : Int32))), .val (.ref mu), .unset] [(.ref fa)])
    refine own_go (T := T7) (T' := T7) (f := (mkF m 15 #[.val (.int p0), .val (.int (p0 &&& (3 : Int32))), .val (.ref mu), .unset] [(.ref fa)])) (f' := (mkF m 60 #[.val (.int p0), .val (.int (p0 &&& (3 : Int32))), .val (.ref mu), .val (.ref fa)] [(.ref mu)])) (fun t k => ?_) ?_
    · show Steps p.tables e below (T7.setTop (mkF m 15 #[.val (.int p0), .val (.int (p0 &&& (3 : Int32))), .val (.ref mu), .unset] [(.ref fa)])) _
      refine XS.astoreN X7.here hx rfl (hb hby at_15) rfl rfl (l' := #[.val (.int p0), .val (.int (p0 &&& (3 : Int32))), .val (.ref mu), .val (.ref fa)]) rfl ?_
      show Steps p.tables e below (T7.setTop (mkF m 16 #[.val (.int p0), .val (.int (p0 &&& (3 : Int32))), .val (.ref mu), .val (.ref fa)] [])) _
      refine XS.goto X7.here hx rfl (pc0 := 16) (pc' := 59) rfl (hb hby at_16) (by decide) (by decide) ?_
      show Steps p.tables e below (T7.setTop (mkF m 59 #[.val (.int p0), .val (.int (p0 &&& (3 : Int32))), .val (.ref mu), .val (.ref fa)] [])) _
      refine XS.aloadN X7.here hx rfl (hb hby at_59) rfl rfl ?_
      exact k
    obtain ⟨cq8, kq8, q8a, q8b, q8c⟩ := isOf hZ e7 E_mu
    obtain ⟨_, _, ⟨T8, L8, k8, n8⟩, -, X8, ⟨Lc8, hQ8, l8, y8, z8⟩, st8⟩ := X7.virtualBack hx (y := (⟨"com/example/sealbind/sealbind/core/Level", "verdictWhenUnmet", "()Lcom/example/sealbind/sealbind/core/Verdict;"⟩ : MethodName)) (z := (⟨"com/example/sealbind/sealbind/core/Level", "verdictWhenUnmet", "()Lcom/example/sealbind/sealbind/core/Verdict;"⟩ : MethodName)) hown (mvT hZ (hw _ (List.mem_of_getElem? (i := 6) rfl))) (mvT hZ (hw _ (List.mem_of_getElem? (i := 7) rfl))) (notFace_of_selects (args := #[]) (mvT hZ (hw _ (List.mem_of_getElem? (i := 9) rfl)))) (mvT hZ (hw _ (List.mem_of_getElem? (i := 9) rfl))) (mvT hZ (hw _ (List.mem_of_getElem? (i := 8) rfl))) (by decide) (backOf (W := 0) (rm1 l Z a0 hw [] mu sh sn wa fa h0 n0 Z0 S_SHOULD S_SHOULD_NOT S_WARNING S_FAILED) hZ (hw _ (List.mem_of_getElem? (i := 10) rfl)) (hw _ (List.mem_of_getElem? (i := 1) rfl)) (by decide) (by decide)) q8a q8c (g := (mkF m 60 #[.val (.int p0), .val (.int (p0 &&& (3 : Int32))), .val (.ref mu), .val (.ref fa)] [(.ref mu)])) rfl (by rw [hml]; rfl) (Steps.refl _) (argsL := []) (rest := []) (lenOf pd__28_29Lcom_2fexample_2fsealbind_2fsealbind_2fcore_2fVerdict_3b rfl) rfl (by show 2 * 0 + _ ≤ _; exact Nat.le_of_eq rfl) (hb hby at_60) (fun _ _ => ⟨rfl, e7, (by decide : 0 + 0 ≤ _), (by decide : 0 + 0 ≤ _)⟩)
    dsimp only [Pt.U, Pt.locs, Pt.cells, Pt.slots] at X8 l8 y8 z8 st8 hQ8
    subst l8 y8 z8
    obtain ⟨rfl, N8q, e8⟩ := hQ8
    have N8 := Fr.app N0 N8q
    refine own_go2 st8 ?_
    show Rch p e below _ T8 (mkF m 63 #[.val (.int p0), .val (.int (p0 &&& (3 : Int32))), .val (.ref mu), .val (.ref fa)] [(.ref (own_vd mu sh sn wa fa))])
    refine own_go (T := T8) (T' := T8) (f := (mkF m 63 #[.val (.int p0), .val (.int (p0 &&& (3 : Int32))), .val (.ref mu), .val (.ref fa)] [(.ref (own_vd mu sh sn wa fa))])) (f' := (mkF m 64 #[.val (.int p0), .val (.int (p0 &&& (3 : Int32))), .val (.ref mu), .val (.ref fa)] [(.ref fa), (.ref (own_vd mu sh sn wa fa))])) (fun t k => ?_) ?_
    · show Steps p.tables e below (T8.setTop (mkF m 63 #[.val (.int p0), .val (.int (p0 &&& (3 : Int32))), .val (.ref mu), .val (.ref fa)] [(.ref (own_vd mu sh sn wa fa))])) _
      refine XS.aloadN X8.here hx rfl (hb hby at_63) rfl rfl ?_
      exact k
    refine own_go (T := T8) (T' := T8) (f := (mkF m 64 #[.val (.int p0), .val (.int (p0 &&& (3 : Int32))), .val (.ref mu), .val (.ref fa)] [(.ref fa), (.ref (own_vd mu sh sn wa fa))])) (f' := (mkF m 67 #[.val (.int p0), .val (.int (p0 &&& (3 : Int32))), .val (.ref mu), .val (.ref fa)] [])) (fun t k => ?_) ?_
    · show Steps p.tables e below (T8.setTop (mkF m 64 #[.val (.int p0), .val (.int (p0 &&& (3 : Int32))), .val (.ref mu), .val (.ref fa)] [(.ref fa), (.ref (own_vd mu sh sn wa fa))])) _
      refine Jvm.RoadKit.acmp (g := (mkF m 64 #[.val (.int p0), .val (.int (p0 &&& (3 : Int32))), .val (.ref mu), .val (.ref fa)] [(.ref fa), (.ref (own_vd mu sh sn wa fa))])) X8 hx rfl rfl rfl (pc0 := 64) (pc' := 67) (same := true) rfl (hb hby at_64) rfl (decide_eq_true (congrArg Value.ref (by simp [own_vd, d1, d2]))) (by decide) (by decide) ?_
      exact k
    refine own_go (T := T8) (T' := T8) (f := (mkF m 67 #[.val (.int p0), .val (.int (p0 &&& (3 : Int32))), .val (.ref mu), .val (.ref fa)] [])) (f' := (mkF m 72 #[.val (.int p0), .val (.int (p0 &&& (3 : Int32))), .val (.ref mu), .val (.ref fa)] [(.int (1 : Int32))])) (fun t k => ?_) ?_
    · show Steps p.tables e below (T8.setTop (mkF m 67 #[.val (.int p0), .val (.int (p0 &&& (3 : Int32))), .val (.ref mu), .val (.ref fa)] [])) _
      refine XS.iconst X8.here hx rfl (hb hby at_67) ?_
      show Steps p.tables e below (T8.setTop (mkF m 68 #[.val (.int p0), .val (.int (p0 &&& (3 : Int32))), .val (.ref mu), .val (.ref fa)] [(.int (1 : Int32))])) _
      refine XS.goto X8.here hx rfl (pc0 := 68) (pc' := 72) rfl (hb hby at_68) (by decide) (by decide) ?_
      exact k
    exact own_retN X8 hx hlk (t := .boolean) (w := (1 : Int32)) hret (by simp) (hb hby at_72) rfl (by decide) (by decide) (by rw [e8]; exact ⟨rfl, N8⟩)
  · refine own_go (T := s₁) (T' := s₁) (f := (mkF m 5 #[.val (.int p0), .val (.int (p0 &&& (3 : Int32))), .unset, .unset] [(.int (p0 &&& (3 : Int32)))])) (f' := (mkF m 19 #[.val (.int p0), .val (.int (p0 &&& (3 : Int32))), .unset, .unset] [])) (fun t k => ?_) ?_
    · show Steps p.tables e below (s₁.setTop (mkF m 5 #[.val (.int p0), .val (.int (p0 &&& (3 : Int32))), .unset, .unset] [(.int (p0 &&& (3 : Int32)))])) _
      refine XS.ifYes X0.here hx rfl (pc0 := 5) (pc' := 19) rfl (hb hby at_5) rfl ((if0 _ _).trans (feq hc5).2) (by decide) (by decide) ?_
      exact k
    refine own_go (T := s₁) (T' := s₁) (f := (mkF m 19 #[.val (.int p0), .val (.int (p0 &&& (3 : Int32))), .unset, .unset] [])) (f' := (mkF m 21 #[.val (.int p0), .val (.int (p0 &&& (3 : Int32))), .unset, .unset] [(.int (1 : Int32)), (.int (p0 &&& (3 : Int32)))])) (fun t k => ?_) ?_
    · show Steps p.tables e below (s₁.setTop (mkF m 19 #[.val (.int p0), .val (.int (p0 &&& (3 : Int32))), .unset, .unset] [])) _
      refine XS.iloadN X0.here hx rfl (hb hby at_19) rfl ?_
      show Steps p.tables e below (s₁.setTop (mkF m 20 #[.val (.int p0), .val (.int (p0 &&& (3 : Int32))), .unset, .unset] [(.int (p0 &&& (3 : Int32)))])) _
      refine XS.iconst X0.here hx rfl (hb hby at_20) ?_
      exact k
    by_cases hc21 : (p0 &&& (3 : Int32)) = (1 : Int32)
    · refine own_go (T := s₁) (T' := s₁) (f := (mkF m 21 #[.val (.int p0), .val (.int (p0 &&& (3 : Int32))), .unset, .unset] [(.int (1 : Int32)), (.int (p0 &&& (3 : Int32)))])) (f' := (mkF m 24 #[.val (.int p0), .val (.int (p0 &&& (3 : Int32))), .unset, .unset] [])) (fun t k => ?_) ?_
      · show Steps p.tables e below (s₁.setTop (mkF m 21 #[.val (.int p0), .val (.int (p0 &&& (3 : Int32))), .unset, .unset] [(.int (1 : Int32)), (.int (p0 &&& (3 : Int32)))])) _
        refine XS.icmpNo X0.here hx rfl (hb hby at_21) rfl (teq hc21).2 ?_
        exact k
      obtain ⟨T9, X9, e9, st9⟩ := getS2 X0 hx hZ hown (host := "") (Or.inl (hw _ (List.mem_of_getElem? (i := 21) rfl))) Via.refl e0 S_MUST_NOT (g := (mkF m 24 #[.val (.int p0), .val (.int (p0 &&& (3 : Int32))), .unset, .unset] [])) rfl (hb hby at_24)
      refine own_go st9 ?_
      show Rch p e below _ T9 (mkF m 27 #[.val (.int p0), .val (.int (p0 &&& (3 : Int32))), .unset, .unset] [(.ref mn)])
      refine own_go (T := T9) (T' := T9) (f := (mkF m 27 #[.val (.int p0), .val (.int (p0 &&& (3 : Int32))), .unset, .unset] [(.ref mn)])) (f' := (mkF m 28 #[.val (.int p0), .val (.int (p0 &&& (3 : Int32))), .val (.ref mn), .unset] [])) (fun t k => ?_) ?_
      · show Steps p.tables e below (T9.setTop (mkF m 27 #[.val (.int p0), .val (.int (p0 &&& (3 : Int32))), .unset, .unset] [(.ref mn)])) _
        refine XS.astoreN X9.here hx rfl (hb hby at_27) rfl rfl (l' := #[.val (.int p0), .val (.int (p0 &&& (3 : Int32))), .val (.ref mn), .unset]) rfl ?_
        exact k
      obtain ⟨T10, X10, e10, st10⟩ := getS2 X9 hx hZ hown (host := "") (Or.inl (hw _ (List.mem_of_getElem? (i := 3) rfl))) Via.refl e9 S_FAILED (g := (mkF m 28 #[.val (.int p0), .val (.int (p0 &&& (3 : Int32))), .val (.ref mn), .unset] [])) rfl (hb hby at_28)
      refine own_go st10 ?_
      show Rch p e below _ T10 (mkF m 31 #[.val (.int p0), .val (.int (p0 &&& (3 : Int32))), .val (.ref mn), .unset] [(.ref fa)])
      refine own_go (T := T10) (T' := T10) (f := (mkF m 31 #[.val (.int p0), .val (.int (p0 &&& (3 : Int32))), .val (.ref mn), .unset] [(.ref fa)])) (f' := (mkF m 60 #[.val (.int p0), .val (.int (p0 &&& (3 : Int32))), .val (.ref mn), .val (.ref fa)] [(.ref mn)])) (fun t k => ?_) ?_
      · show Steps p.tables e below (T10.setTop (mkF m 31 #[.val (.int p0), .val (.int (p0 &&& (3 : Int32))), .val (.ref mn), .unset] [(.ref fa)])) _
        refine XS.astoreN X10.here hx rfl (hb hby at_31) rfl rfl (l' := #[.val (.int p0), .val (.int (p0 &&& (3 : Int32))), .val (.ref mn), .val (.ref fa)]) rfl ?_
        show Steps p.tables e below (T10.setTop (mkF m 32 #[.val (.int p0), .val (.int (p0 &&& (3 : Int32))), .val (.ref mn), .val (.ref fa)] [])) _
        refine XS.goto X10.here hx rfl (pc0 := 32) (pc' := 59) rfl (hb hby at_32) (by decide) (by decide) ?_
        show Steps p.tables e below (T10.setTop (mkF m 59 #[.val (.int p0), .val (.int (p0 &&& (3 : Int32))), .val (.ref mn), .val (.ref fa)] [])) _
        refine XS.aloadN X10.here hx rfl (hb hby at_59) rfl rfl ?_
        exact k
      obtain ⟨cq11, kq11, q11a, q11b, q11c⟩ := isOf hZ e10 E_mn
      obtain ⟨_, _, ⟨T11, L11, k11, n11⟩, -, X11, ⟨Lc11, hQ11, l11, y11, z11⟩, st11⟩ := X10.virtualBack hx (y := (⟨"com/example/sealbind/sealbind/core/Level", "verdictWhenUnmet", "()Lcom/example/sealbind/sealbind/core/Verdict;"⟩ : MethodName)) (z := (⟨"com/example/sealbind/sealbind/core/Level", "verdictWhenUnmet", "()Lcom/example/sealbind/sealbind/core/Verdict;"⟩ : MethodName)) hown (mvT hZ (hw _ (List.mem_of_getElem? (i := 6) rfl))) (mvT hZ (hw _ (List.mem_of_getElem? (i := 7) rfl))) (notFace_of_selects (args := #[]) (mvT hZ (hw _ (List.mem_of_getElem? (i := 9) rfl)))) (mvT hZ (hw _ (List.mem_of_getElem? (i := 9) rfl))) (mvT hZ (hw _ (List.mem_of_getElem? (i := 8) rfl))) (by decide) (backOf (W := 0) (rm1 l Z a0 hw [] mn sh sn wa fa h0 n0 Z0 S_SHOULD S_SHOULD_NOT S_WARNING S_FAILED) hZ (hw _ (List.mem_of_getElem? (i := 10) rfl)) (hw _ (List.mem_of_getElem? (i := 1) rfl)) (by decide) (by decide)) q11a q11c (g := (mkF m 60 #[.val (.int p0), .val (.int (p0 &&& (3 : Int32))), .val (.ref mn), .val (.ref fa)] [(.ref mn)])) rfl (by rw [hml]; rfl) (Steps.refl _) (argsL := []) (rest := []) (lenOf pd__28_29Lcom_2fexample_2fsealbind_2fsealbind_2fcore_2fVerdict_3b rfl) rfl (by show 2 * 0 + _ ≤ _; exact Nat.le_of_eq rfl) (hb hby at_60) (fun _ _ => ⟨rfl, e10, (by decide : 0 + 0 ≤ _), (by decide : 0 + 0 ≤ _)⟩)
      dsimp only [Pt.U, Pt.locs, Pt.cells, Pt.slots] at X11 l11 y11 z11 st11 hQ11
      subst l11 y11 z11
      obtain ⟨rfl, N11q, e11⟩ := hQ11
      have N11 := Fr.app N0 N11q
      refine own_go2 st11 ?_
      show Rch p e below _ T11 (mkF m 63 #[.val (.int p0), .val (.int (p0 &&& (3 : Int32))), .val (.ref mn), .val (.ref fa)] [(.ref (own_vd mn sh sn wa fa))])
      refine own_go (T := T11) (T' := T11) (f := (mkF m 63 #[.val (.int p0), .val (.int (p0 &&& (3 : Int32))), .val (.ref mn), .val (.ref fa)] [(.ref (own_vd mn sh sn wa fa))])) (f' := (mkF m 64 #[.val (.int p0), .val (.int (p0 &&& (3 : Int32))), .val (.ref mn), .val (.ref fa)] [(.ref fa), (.ref (own_vd mn sh sn wa fa))])) (fun t k => ?_) ?_
      · show Steps p.tables e below (T11.setTop (mkF m 63 #[.val (.int p0), .val (.int (p0 &&& (3 : Int32))), .val (.ref mn), .val (.ref fa)] [(.ref (own_vd mn sh sn wa fa))])) _
        refine XS.aloadN X11.here hx rfl (hb hby at_63) rfl rfl ?_
        exact k
      refine own_go (T := T11) (T' := T11) (f := (mkF m 64 #[.val (.int p0), .val (.int (p0 &&& (3 : Int32))), .val (.ref mn), .val (.ref fa)] [(.ref fa), (.ref (own_vd mn sh sn wa fa))])) (f' := (mkF m 67 #[.val (.int p0), .val (.int (p0 &&& (3 : Int32))), .val (.ref mn), .val (.ref fa)] [])) (fun t k => ?_) ?_
      · show Steps p.tables e below (T11.setTop (mkF m 64 #[.val (.int p0), .val (.int (p0 &&& (3 : Int32))), .val (.ref mn), .val (.ref fa)] [(.ref fa), (.ref (own_vd mn sh sn wa fa))])) _
        refine Jvm.RoadKit.acmp (g := (mkF m 64 #[.val (.int p0), .val (.int (p0 &&& (3 : Int32))), .val (.ref mn), .val (.ref fa)] [(.ref fa), (.ref (own_vd mn sh sn wa fa))])) X11 hx rfl rfl rfl (pc0 := 64) (pc' := 67) (same := true) rfl (hb hby at_64) rfl (decide_eq_true (congrArg Value.ref (by simp [own_vd, d3, d4]))) (by decide) (by decide) ?_
        exact k
      refine own_go (T := T11) (T' := T11) (f := (mkF m 67 #[.val (.int p0), .val (.int (p0 &&& (3 : Int32))), .val (.ref mn), .val (.ref fa)] [])) (f' := (mkF m 72 #[.val (.int p0), .val (.int (p0 &&& (3 : Int32))), .val (.ref mn), .val (.ref fa)] [(.int (1 : Int32))])) (fun t k => ?_) ?_
      · show Steps p.tables e below (T11.setTop (mkF m 67 #[.val (.int p0), .val (.int (p0 &&& (3 : Int32))), .val (.ref mn), .val (.ref fa)] [])) _
        refine XS.iconst X11.here hx rfl (hb hby at_67) ?_
        show Steps p.tables e below (T11.setTop (mkF m 68 #[.val (.int p0), .val (.int (p0 &&& (3 : Int32))), .val (.ref mn), .val (.ref fa)] [(.int (1 : Int32))])) _
        refine XS.goto X11.here hx rfl (pc0 := 68) (pc' := 72) rfl (hb hby at_68) (by decide) (by decide) ?_
        exact k
      exact own_retN X11 hx hlk (t := .boolean) (w := (1 : Int32)) hret (by simp) (hb hby at_72) rfl (by decide) (by decide) (by rw [e11]; exact ⟨rfl, N11⟩)
    · refine own_go (T := s₁) (T' := s₁) (f := (mkF m 21 #[.val (.int p0), .val (.int (p0 &&& (3 : Int32))), .unset, .unset] [(.int (1 : Int32)), (.int (p0 &&& (3 : Int32)))])) (f' := (mkF m 35 #[.val (.int p0), .val (.int (p0 &&& (3 : Int32))), .unset, .unset] [])) (fun t k => ?_) ?_
      · show Steps p.tables e below (s₁.setTop (mkF m 21 #[.val (.int p0), .val (.int (p0 &&& (3 : Int32))), .unset, .unset] [(.int (1 : Int32)), (.int (p0 &&& (3 : Int32)))])) _
        refine XS.icmpYes X0.here hx rfl (pc0 := 21) (pc' := 35) rfl (hb hby at_21) rfl (feq hc21).2 (by decide) (by decide) ?_
        exact k
      refine own_go (T := s₁) (T' := s₁) (f := (mkF m 35 #[.val (.int p0), .val (.int (p0 &&& (3 : Int32))), .unset, .unset] [])) (f' := (mkF m 37 #[.val (.int p0), .val (.int (p0 &&& (3 : Int32))), .unset, .unset] [(.int (2 : Int32)), (.int (p0 &&& (3 : Int32)))])) (fun t k => ?_) ?_
      · show Steps p.tables e below (s₁.setTop (mkF m 35 #[.val (.int p0), .val (.int (p0 &&& (3 : Int32))), .unset, .unset] [])) _
        refine XS.iloadN X0.here hx rfl (hb hby at_35) rfl ?_
        show Steps p.tables e below (s₁.setTop (mkF m 36 #[.val (.int p0), .val (.int (p0 &&& (3 : Int32))), .unset, .unset] [(.int (p0 &&& (3 : Int32)))])) _
        refine XS.iconst X0.here hx rfl (hb hby at_36) ?_
        exact k
      by_cases hc37 : (p0 &&& (3 : Int32)) = (2 : Int32)
      · refine own_go (T := s₁) (T' := s₁) (f := (mkF m 37 #[.val (.int p0), .val (.int (p0 &&& (3 : Int32))), .unset, .unset] [(.int (2 : Int32)), (.int (p0 &&& (3 : Int32)))])) (f' := (mkF m 40 #[.val (.int p0), .val (.int (p0 &&& (3 : Int32))), .unset, .unset] [])) (fun t k => ?_) ?_
        · show Steps p.tables e below (s₁.setTop (mkF m 37 #[.val (.int p0), .val (.int (p0 &&& (3 : Int32))), .unset, .unset] [(.int (2 : Int32)), (.int (p0 &&& (3 : Int32)))])) _
          refine XS.icmpNo X0.here hx rfl (hb hby at_37) rfl (teq hc37).2 ?_
          exact k
        obtain ⟨T12, X12, e12, st12⟩ := getS2 X0 hx hZ hown (host := "") (Or.inl (hw _ (List.mem_of_getElem? (i := 20) rfl))) Via.refl e0 S_SHOULD (g := (mkF m 40 #[.val (.int p0), .val (.int (p0 &&& (3 : Int32))), .unset, .unset] [])) rfl (hb hby at_40)
        refine own_go st12 ?_
        show Rch p e below _ T12 (mkF m 43 #[.val (.int p0), .val (.int (p0 &&& (3 : Int32))), .unset, .unset] [(.ref sh)])
        refine own_go (T := T12) (T' := T12) (f := (mkF m 43 #[.val (.int p0), .val (.int (p0 &&& (3 : Int32))), .unset, .unset] [(.ref sh)])) (f' := (mkF m 44 #[.val (.int p0), .val (.int (p0 &&& (3 : Int32))), .val (.ref sh), .unset] [])) (fun t k => ?_) ?_
        · show Steps p.tables e below (T12.setTop (mkF m 43 #[.val (.int p0), .val (.int (p0 &&& (3 : Int32))), .unset, .unset] [(.ref sh)])) _
          refine XS.astoreN X12.here hx rfl (hb hby at_43) rfl rfl (l' := #[.val (.int p0), .val (.int (p0 &&& (3 : Int32))), .val (.ref sh), .unset]) rfl ?_
          exact k
        obtain ⟨T13, X13, e13, st13⟩ := getS2 X12 hx hZ hown (host := "") (Or.inl (hw _ (List.mem_of_getElem? (i := 17) rfl))) Via.refl e12 S_WARNING (g := (mkF m 44 #[.val (.int p0), .val (.int (p0 &&& (3 : Int32))), .val (.ref sh), .unset] [])) rfl (hb hby at_44)
        refine own_go st13 ?_
        show Rch p e below _ T13 (mkF m 47 #[.val (.int p0), .val (.int (p0 &&& (3 : Int32))), .val (.ref sh), .unset] [(.ref wa)])
        refine own_go (T := T13) (T' := T13) (f := (mkF m 47 #[.val (.int p0), .val (.int (p0 &&& (3 : Int32))), .val (.ref sh), .unset] [(.ref wa)])) (f' := (mkF m 60 #[.val (.int p0), .val (.int (p0 &&& (3 : Int32))), .val (.ref sh), .val (.ref wa)] [(.ref sh)])) (fun t k => ?_) ?_
        · show Steps p.tables e below (T13.setTop (mkF m 47 #[.val (.int p0), .val (.int (p0 &&& (3 : Int32))), .val (.ref sh), .unset] [(.ref wa)])) _
          refine XS.astoreN X13.here hx rfl (hb hby at_47) rfl rfl (l' := #[.val (.int p0), .val (.int (p0 &&& (3 : Int32))), .val (.ref sh), .val (.ref wa)]) rfl ?_
          show Steps p.tables e below (T13.setTop (mkF m 48 #[.val (.int p0), .val (.int (p0 &&& (3 : Int32))), .val (.ref sh), .val (.ref wa)] [])) _
          refine XS.goto X13.here hx rfl (pc0 := 48) (pc' := 59) rfl (hb hby at_48) (by decide) (by decide) ?_
          show Steps p.tables e below (T13.setTop (mkF m 59 #[.val (.int p0), .val (.int (p0 &&& (3 : Int32))), .val (.ref sh), .val (.ref wa)] [])) _
          refine XS.aloadN X13.here hx rfl (hb hby at_59) rfl rfl ?_
          exact k
        obtain ⟨cq14, kq14, q14a, q14b, q14c⟩ := isOf hZ e13 E_sh
        obtain ⟨_, _, ⟨T14, L14, k14, n14⟩, -, X14, ⟨Lc14, hQ14, l14, y14, z14⟩, st14⟩ := X13.virtualBack hx (y := (⟨"com/example/sealbind/sealbind/core/Level", "verdictWhenUnmet", "()Lcom/example/sealbind/sealbind/core/Verdict;"⟩ : MethodName)) (z := (⟨"com/example/sealbind/sealbind/core/Level", "verdictWhenUnmet", "()Lcom/example/sealbind/sealbind/core/Verdict;"⟩ : MethodName)) hown (mvT hZ (hw _ (List.mem_of_getElem? (i := 6) rfl))) (mvT hZ (hw _ (List.mem_of_getElem? (i := 7) rfl))) (notFace_of_selects (args := #[]) (mvT hZ (hw _ (List.mem_of_getElem? (i := 9) rfl)))) (mvT hZ (hw _ (List.mem_of_getElem? (i := 9) rfl))) (mvT hZ (hw _ (List.mem_of_getElem? (i := 8) rfl))) (by decide) (backOf (W := 0) (rm1 l Z a0 hw [] sh sh sn wa fa h0 n0 Z0 S_SHOULD S_SHOULD_NOT S_WARNING S_FAILED) hZ (hw _ (List.mem_of_getElem? (i := 10) rfl)) (hw _ (List.mem_of_getElem? (i := 1) rfl)) (by decide) (by decide)) q14a q14c (g := (mkF m 60 #[.val (.int p0), .val (.int (p0 &&& (3 : Int32))), .val (.ref sh), .val (.ref wa)] [(.ref sh)])) rfl (by rw [hml]; rfl) (Steps.refl _) (argsL := []) (rest := []) (lenOf pd__28_29Lcom_2fexample_2fsealbind_2fsealbind_2fcore_2fVerdict_3b rfl) rfl (by show 2 * 0 + _ ≤ _; exact Nat.le_of_eq rfl) (hb hby at_60) (fun _ _ => ⟨rfl, e13, (by decide : 0 + 0 ≤ _), (by decide : 0 + 0 ≤ _)⟩)
        dsimp only [Pt.U, Pt.locs, Pt.cells, Pt.slots] at X14 l14 y14 z14 st14 hQ14
        subst l14 y14 z14
        obtain ⟨rfl, N14q, e14⟩ := hQ14
        have N14 := Fr.app N0 N14q
        refine own_go2 st14 ?_
        show Rch p e below _ T14 (mkF m 63 #[.val (.int p0), .val (.int (p0 &&& (3 : Int32))), .val (.ref sh), .val (.ref wa)] [(.ref (own_vd sh sh sn wa fa))])
        refine own_go (T := T14) (T' := T14) (f := (mkF m 63 #[.val (.int p0), .val (.int (p0 &&& (3 : Int32))), .val (.ref sh), .val (.ref wa)] [(.ref (own_vd sh sh sn wa fa))])) (f' := (mkF m 64 #[.val (.int p0), .val (.int (p0 &&& (3 : Int32))), .val (.ref sh), .val (.ref wa)] [(.ref wa), (.ref (own_vd sh sh sn wa fa))])) (fun t k => ?_) ?_
        · show Steps p.tables e below (T14.setTop (mkF m 63 #[.val (.int p0), .val (.int (p0 &&& (3 : Int32))), .val (.ref sh), .val (.ref wa)] [(.ref (own_vd sh sh sn wa fa))])) _
          refine XS.aloadN X14.here hx rfl (hb hby at_63) rfl rfl ?_
          exact k
        refine own_go (T := T14) (T' := T14) (f := (mkF m 64 #[.val (.int p0), .val (.int (p0 &&& (3 : Int32))), .val (.ref sh), .val (.ref wa)] [(.ref wa), (.ref (own_vd sh sh sn wa fa))])) (f' := (mkF m 67 #[.val (.int p0), .val (.int (p0 &&& (3 : Int32))), .val (.ref sh), .val (.ref wa)] [])) (fun t k => ?_) ?_
        · show Steps p.tables e below (T14.setTop (mkF m 64 #[.val (.int p0), .val (.int (p0 &&& (3 : Int32))), .val (.ref sh), .val (.ref wa)] [(.ref wa), (.ref (own_vd sh sh sn wa fa))])) _
          refine Jvm.RoadKit.acmp (g := (mkF m 64 #[.val (.int p0), .val (.int (p0 &&& (3 : Int32))), .val (.ref sh), .val (.ref wa)] [(.ref wa), (.ref (own_vd sh sh sn wa fa))])) X14 hx rfl rfl rfl (pc0 := 64) (pc' := 67) (same := true) rfl (hb hby at_64) rfl (decide_eq_true (congrArg Value.ref (by simp [own_vd]))) (by decide) (by decide) ?_
          exact k
        refine own_go (T := T14) (T' := T14) (f := (mkF m 67 #[.val (.int p0), .val (.int (p0 &&& (3 : Int32))), .val (.ref sh), .val (.ref wa)] [])) (f' := (mkF m 72 #[.val (.int p0), .val (.int (p0 &&& (3 : Int32))), .val (.ref sh), .val (.ref wa)] [(.int (1 : Int32))])) (fun t k => ?_) ?_
        · show Steps p.tables e below (T14.setTop (mkF m 67 #[.val (.int p0), .val (.int (p0 &&& (3 : Int32))), .val (.ref sh), .val (.ref wa)] [])) _
          refine XS.iconst X14.here hx rfl (hb hby at_67) ?_
          show Steps p.tables e below (T14.setTop (mkF m 68 #[.val (.int p0), .val (.int (p0 &&& (3 : Int32))), .val (.ref sh), .val (.ref wa)] [(.int (1 : Int32))])) _
          refine XS.goto X14.here hx rfl (pc0 := 68) (pc' := 72) rfl (hb hby at_68) (by decide) (by decide) ?_
          exact k
        exact own_retN X14 hx hlk (t := .boolean) (w := (1 : Int32)) hret (by simp) (hb hby at_72) rfl (by decide) (by decide) (by rw [e14]; exact ⟨rfl, N14⟩)
      · refine own_go (T := s₁) (T' := s₁) (f := (mkF m 37 #[.val (.int p0), .val (.int (p0 &&& (3 : Int32))), .unset, .unset] [(.int (2 : Int32)), (.int (p0 &&& (3 : Int32)))])) (f' := (mkF m 51 #[.val (.int p0), .val (.int (p0 &&& (3 : Int32))), .unset, .unset] [])) (fun t k => ?_) ?_
        · show Steps p.tables e below (s₁.setTop (mkF m 37 #[.val (.int p0), .val (.int (p0 &&& (3 : Int32))), .unset, .unset] [(.int (2 : Int32)), (.int (p0 &&& (3 : Int32)))])) _
          refine XS.icmpYes X0.here hx rfl (pc0 := 37) (pc' := 51) rfl (hb hby at_37) rfl (feq hc37).2 (by decide) (by decide) ?_
          exact k
        obtain ⟨T15, X15, e15, st15⟩ := getS2 X0 hx hZ hown (host := "") (Or.inl (hw _ (List.mem_of_getElem? (i := 16) rfl))) Via.refl e0 S_SHOULD_NOT (g := (mkF m 51 #[.val (.int p0), .val (.int (p0 &&& (3 : Int32))), .unset, .unset] [])) rfl (hb hby at_51)
        refine own_go st15 ?_
        show Rch p e below _ T15 (mkF m 54 #[.val (.int p0), .val (.int (p0 &&& (3 : Int32))), .unset, .unset] [(.ref sn)])
        refine own_go (T := T15) (T' := T15) (f := (mkF m 54 #[.val (.int p0), .val (.int (p0 &&& (3 : Int32))), .unset, .unset] [(.ref sn)])) (f' := (mkF m 55 #[.val (.int p0), .val (.int (p0 &&& (3 : Int32))), .val (.ref sn), .unset] [])) (fun t k => ?_) ?_
        · show Steps p.tables e below (T15.setTop (mkF m 54 #[.val (.int p0), .val (.int (p0 &&& (3 : Int32))), .unset, .unset] [(.ref sn)])) _
          refine XS.astoreN X15.here hx rfl (hb hby at_54) rfl rfl (l' := #[.val (.int p0), .val (.int (p0 &&& (3 : Int32))), .val (.ref sn), .unset]) rfl ?_
          exact k
        obtain ⟨T16, X16, e16, st16⟩ := getS2 X15 hx hZ hown (host := "") (Or.inl (hw _ (List.mem_of_getElem? (i := 17) rfl))) Via.refl e15 S_WARNING (g := (mkF m 55 #[.val (.int p0), .val (.int (p0 &&& (3 : Int32))), .val (.ref sn), .unset] [])) rfl (hb hby at_55)
        refine own_go st16 ?_
        show Rch p e below _ T16 (mkF m 58 #[.val (.int p0), .val (.int (p0 &&& (3 : Int32))), .val (.ref sn), .unset] [(.ref wa)])
        refine own_go (T := T16) (T' := T16) (f := (mkF m 58 #[.val (.int p0), .val (.int (p0 &&& (3 : Int32))), .val (.ref sn), .unset] [(.ref wa)])) (f' := (mkF m 60 #[.val (.int p0), .val (.int (p0 &&& (3 : Int32))), .val (.ref sn), .val (.ref wa)] [(.ref sn)])) (fun t k => ?_) ?_
        · show Steps p.tables e below (T16.setTop (mkF m 58 #[.val (.int p0), .val (.int (p0 &&& (3 : Int32))), .val (.ref sn), .unset] [(.ref wa)])) _
          refine XS.astoreN X16.here hx rfl (hb hby at_58) rfl rfl (l' := #[.val (.int p0), .val (.int (p0 &&& (3 : Int32))), .val (.ref sn), .val (.ref wa)]) rfl ?_
          show Steps p.tables e below (T16.setTop (mkF m 59 #[.val (.int p0), .val (.int (p0 &&& (3 : Int32))), .val (.ref sn), .val (.ref wa)] [])) _
          refine XS.aloadN X16.here hx rfl (hb hby at_59) rfl rfl ?_
          exact k
        obtain ⟨cq17, kq17, q17a, q17b, q17c⟩ := isOf hZ e16 E_sn
        obtain ⟨_, _, ⟨T17, L17, k17, n17⟩, -, X17, ⟨Lc17, hQ17, l17, y17, z17⟩, st17⟩ := X16.virtualBack hx (y := (⟨"com/example/sealbind/sealbind/core/Level", "verdictWhenUnmet", "()Lcom/example/sealbind/sealbind/core/Verdict;"⟩ : MethodName)) (z := (⟨"com/example/sealbind/sealbind/core/Level", "verdictWhenUnmet", "()Lcom/example/sealbind/sealbind/core/Verdict;"⟩ : MethodName)) hown (mvT hZ (hw _ (List.mem_of_getElem? (i := 6) rfl))) (mvT hZ (hw _ (List.mem_of_getElem? (i := 7) rfl))) (notFace_of_selects (args := #[]) (mvT hZ (hw _ (List.mem_of_getElem? (i := 9) rfl)))) (mvT hZ (hw _ (List.mem_of_getElem? (i := 9) rfl))) (mvT hZ (hw _ (List.mem_of_getElem? (i := 8) rfl))) (by decide) (backOf (W := 0) (rm1 l Z a0 hw [] sn sh sn wa fa h0 n0 Z0 S_SHOULD S_SHOULD_NOT S_WARNING S_FAILED) hZ (hw _ (List.mem_of_getElem? (i := 10) rfl)) (hw _ (List.mem_of_getElem? (i := 1) rfl)) (by decide) (by decide)) q17a q17c (g := (mkF m 60 #[.val (.int p0), .val (.int (p0 &&& (3 : Int32))), .val (.ref sn), .val (.ref wa)] [(.ref sn)])) rfl (by rw [hml]; rfl) (Steps.refl _) (argsL := []) (rest := []) (lenOf pd__28_29Lcom_2fexample_2fsealbind_2fsealbind_2fcore_2fVerdict_3b rfl) rfl (by show 2 * 0 + _ ≤ _; exact Nat.le_of_eq rfl) (hb hby at_60) (fun _ _ => ⟨rfl, e16, (by decide : 0 + 0 ≤ _), (by decide : 0 + 0 ≤ _)⟩)
        dsimp only [Pt.U, Pt.locs, Pt.cells, Pt.slots] at X17 l17 y17 z17 st17 hQ17
        subst l17 y17 z17
        obtain ⟨rfl, N17q, e17⟩ := hQ17
        have N17 := Fr.app N0 N17q
        refine own_go2 st17 ?_
        show Rch p e below _ T17 (mkF m 63 #[.val (.int p0), .val (.int (p0 &&& (3 : Int32))), .val (.ref sn), .val (.ref wa)] [(.ref (own_vd sn sh sn wa fa))])
        refine own_go (T := T17) (T' := T17) (f := (mkF m 63 #[.val (.int p0), .val (.int (p0 &&& (3 : Int32))), .val (.ref sn), .val (.ref wa)] [(.ref (own_vd sn sh sn wa fa))])) (f' := (mkF m 64 #[.val (.int p0), .val (.int (p0 &&& (3 : Int32))), .val (.ref sn), .val (.ref wa)] [(.ref wa), (.ref (own_vd sn sh sn wa fa))])) (fun t k => ?_) ?_
        · show Steps p.tables e below (T17.setTop (mkF m 63 #[.val (.int p0), .val (.int (p0 &&& (3 : Int32))), .val (.ref sn), .val (.ref wa)] [(.ref (own_vd sn sh sn wa fa))])) _
          refine XS.aloadN X17.here hx rfl (hb hby at_63) rfl rfl ?_
          exact k
        refine own_go (T := T17) (T' := T17) (f := (mkF m 64 #[.val (.int p0), .val (.int (p0 &&& (3 : Int32))), .val (.ref sn), .val (.ref wa)] [(.ref wa), (.ref (own_vd sn sh sn wa fa))])) (f' := (mkF m 67 #[.val (.int p0), .val (.int (p0 &&& (3 : Int32))), .val (.ref sn), .val (.ref wa)] [])) (fun t k => ?_) ?_
        · show Steps p.tables e below (T17.setTop (mkF m 64 #[.val (.int p0), .val (.int (p0 &&& (3 : Int32))), .val (.ref sn), .val (.ref wa)] [(.ref wa), (.ref (own_vd sn sh sn wa fa))])) _
          refine Jvm.RoadKit.acmp (g := (mkF m 64 #[.val (.int p0), .val (.int (p0 &&& (3 : Int32))), .val (.ref sn), .val (.ref wa)] [(.ref wa), (.ref (own_vd sn sh sn wa fa))])) X17 hx rfl rfl rfl (pc0 := 64) (pc' := 67) (same := true) rfl (hb hby at_64) rfl (decide_eq_true (congrArg Value.ref (by simp [own_vd]))) (by decide) (by decide) ?_
          exact k
        refine own_go (T := T17) (T' := T17) (f := (mkF m 67 #[.val (.int p0), .val (.int (p0 &&& (3 : Int32))), .val (.ref sn), .val (.ref wa)] [])) (f' := (mkF m 72 #[.val (.int p0), .val (.int (p0 &&& (3 : Int32))), .val (.ref sn), .val (.ref wa)] [(.int (1 : Int32))])) (fun t k => ?_) ?_
        · show Steps p.tables e below (T17.setTop (mkF m 67 #[.val (.int p0), .val (.int (p0 &&& (3 : Int32))), .val (.ref sn), .val (.ref wa)] [])) _
          refine XS.iconst X17.here hx rfl (hb hby at_67) ?_
          show Steps p.tables e below (T17.setTop (mkF m 68 #[.val (.int p0), .val (.int (p0 &&& (3 : Int32))), .val (.ref sn), .val (.ref wa)] [(.int (1 : Int32))])) _
          refine XS.goto X17.here hx rfl (pc0 := 68) (pc' := 72) rfl (hb hby at_68) (by decide) (by decide) ?_
          exact k
        exact own_retN X17 hx hlk (t := .boolean) (w := (1 : Int32)) hret (by simp) (hb hby at_72) rfl (by decide) (by decide) (by rw [e17]; exact ⟨rfl, N17⟩)
set_option maxRecDepth 65536 in
set_option maxHeartbeats 40000000 in
theorem comes_1 {Post : Tables → Env → Array Value → State → Outcome → State → Prop} (hpost : ∀ tb e args s v u, (limb_1_1.after args s (.returned v) u = true ∧ limb_1_2.after args s (.returned v) u = true ∧ True) → FrameEnd s (.returned v) u (Jvm.fieldLocs frame_1_writes args s ++ Jvm.arrayLocs frame_1_arrays args s ++ Jvm.staticLocs frame_1_statics s) 0 0 → Post tb e args s (.returned v) u) :
    ArmFor flags0 classFile x code maxLocals ret World_1 tables_1 room_1 Calls_1 rest_1 Pre_1 Post := by
  intro l hfl _ _ p e ha hc hk s m args below hf hA hF happ hP
  obtain ⟨hcalls, hrest, hpre⟩ := hP
  obtain ⟨-, -, -, hnamed, -, -, -, hat⟩ := (Spec.applies_iff hf).mp happ
  obtain ⟨hg, hn⟩ := and_e (Cond.before_iff.mp (show (Jvm.Cond.and given_1 narrow_1).before args s = true from hpre))
  obtain ⟨gc, ga0⟩ := and_e hg
  obtain ⟨w0, rfl⟩ : ∃ w0, args = #[w0] := by
    have hs : args.size = 1 := by simpa [Cond.value, given_1] using gc
    obtain ⟨L⟩ := args
    match L, hs with
    | [w0], _ => exact ⟨w0, rfl⟩
  have hw := fun d (hd : d ∈ tables_1) => atoms_spec (ws := Jvm.Cond.code x code maxLocals ret :: tables_1) hat d (List.mem_cons_of_mem _ hd)
  have hfit : Fit s := fun {y c} hc i hi => by
    obtain ⟨ha, rfl⟩ := Array.getElem?_eq_some_iff.mp hc
    have q := List.all_eq_true.mp ((Array.all_eq_true_iff_forall_mem.mp hF) _ (Array.getElem_mem ha)) i (List.mem_range.mpr hi)
    simpa [Array.getElem?_eq_getElem hi] using q
  obtain ⟨i0, e0⟩ := is_v ga0
  obtain rfl : w0 = (.int i0) := Option.some.inj e0
  obtain ⟨x1, hn⟩ := and_e hn
  obtain ⟨x2, hn⟩ := and_e hn
  obtain ⟨x3, hn⟩ := and_e hn
  obtain ⟨x4, hn⟩ := and_e hn
  obtain ⟨x5, hn⟩ := and_e hn
  obtain ⟨x6, hn⟩ := and_e hn
  obtain ⟨x7, hn⟩ := and_e hn
  obtain ⟨x8, hn⟩ := and_e hn
  obtain ⟨x9, x10⟩ := and_e hn
  obtain ⟨mu, t1⟩ := exa_v x1
  obtain ⟨fa, t2⟩ := exa_v x2
  obtain ⟨sh, t3⟩ := exa_v x3
  obtain ⟨sn, t6⟩ := exa_v x6
  obtain ⟨wa, t8⟩ := exa_v x8
  obtain ⟨mn, t9⟩ := exa_v x9
  have o1 := own_ord t1 x4
  have o3 := own_ord t3 x5
  have o6 := own_ord t6 x7
  have o9 := own_ord t9 x10
  obtain ⟨n, o, h1, h2, h3, _, L, rfl, ⟨rfl, N⟩, hq⟩ := rm0 l s _ hw tables_1 i0 mu mn sh sn wa fa s.heap s.heap.size (Nat.le_refl _) (Sta.start t1 (Or.inr ⟨(hw _ (List.mem_of_getElem? (i := 1) rfl)), (hw _ (List.mem_of_getElem? (i := 2) rfl))⟩)) (Sta.start t9 (Or.inr ⟨(hw _ (List.mem_of_getElem? (i := 1) rfl)), (hw _ (List.mem_of_getElem? (i := 22) rfl))⟩)) (Sta.start t3 (Or.inr ⟨(hw _ (List.mem_of_getElem? (i := 1) rfl)), (hw _ (List.mem_of_getElem? (i := 12) rfl))⟩)) (Sta.start t6 (Or.inr ⟨(hw _ (List.mem_of_getElem? (i := 1) rfl)), (hw _ (List.mem_of_getElem? (i := 14) rfl))⟩)) (Sta.start t8 (Or.inr ⟨(hw _ (List.mem_of_getElem? (i := 4) rfl)), (hw _ (List.mem_of_getElem? (i := 18) rfl))⟩)) (Sta.start t2 (Or.inr ⟨(hw _ (List.mem_of_getElem? (i := 4) rfl)), (hw _ (List.mem_of_getElem? (i := 5) rfl))⟩)) (Exa.start t1 x1) (Exa.start t9 x9) (Exa.start t3 x3) (Exa.start t6 x6) (own_ne o1 o3 (by decide)) (own_ne o1 o6 (by decide)) (own_ne o9 o3 (by decide)) (own_ne o9 o6 (by decide)) p e ha hc hk s m _ below hf ((Spec.applies_iff_loose hf).mp happ).1 ⟨rfl, State.Warmed39.refl s, rfl⟩ trivial
  refine ⟨n, _, h1, h2, h3, hpost _ _ _ _ _ _ ⟨Cond.after_iff.mpr rfl, Cond.after_iff.mpr (eq_i res_at (Term.int_eval (1)) rfl), trivial⟩ ⟨hq.1, hq.2.1, (hq.2.2.sift fun y hy => Or.inr (N y hy)).mono (by decide) (by decide)⟩⟩
theorem main_1_1 : Claimed_1_1 := comes_1 fun _ _ _ _ _ _ h hF => ⟨h.1, hF⟩
theorem main_1_2 : Claimed_1_2 := comes_1 fun _ _ _ _ _ _ h hF => ⟨h.2.1, hF⟩
end Jvm.Pilot.@@N@@
namespace Jvm.Pilot.@@N@@
open Jvm Jvm.ClassFile Sem Op Lib Jvm.Free Jvm.Stand Jvm.Pilot.@@N@@.Jvm.D
/-! MADE BY PROGRAM (witnessworld.py) out of the Statement's table words and the real class files: 13 classes; the members and pool entries that the words name. The judged class is class 1, her method 1. -/
namespace start1
open Jvm.ClassFile
def u (s : String) : CpInfo := .utf8 (stringToUtf16 s)
/-- a pool by its gaps: so many unusable entries, then the entry; so many at the end -/
def gap : Nat → List CpInfo → List CpInfo
  | 0, r => r
  | n + 1, r => .unusable :: gap n r
def poolList (es : List (Nat × CpInfo)) (last : Nat) : List CpInfo := es.foldr (fun e r => gap e.1 (e.2 :: r)) (gap last [])
def pool (es : List (Nat × CpInfo)) (last : Nat) : Array CpInfo := ⟨poolList es last⟩
def fileOf (pool : Array CpInfo) (this : Nat) (attrs : Array Attribute := #[]) (ms : Array MethodInfo := #[]) (fl : Nat := 33) (sup : Nat := 0) (ifs : Array Nat := #[]) (fds : Array FieldInfo := #[]) : ClassFile where
  minorVersion := 0
  majorVersion := 65
  constantPool := pool
  accessFlags := fl
  thisClass := this
  superClass := sup
  interfaces := ifs
  fields := fds
  methods := ms
  attributes := attrs
def plain (name : String) (sup : Option ClassId) : Class where
  name := name
  kind := .ordinary
  loader := none
  accessFlags := 33
  super := sup
  interfaces := #[]
  cf := none
  fields := #[]
  methods := #[]
  instanceTypes := #[]
  staticTypes := #[]
  resolved := #[]
  callSites := []
  init := .initialized
  statics := none
  mirror := none

def pool0 : Array CpInfo := pool [(5, u "<init>"), (0, u "()V"), (1, .class_ 10), (1, u "java/lang/Object")] 113

def k0m0 : Method := { name := "<init>", desc := "()V", sig := { parameters := [], returnType := none }, accessFlags := 1, code := none }
/-- java/lang/Object -/
def k0 : Class := { plain "java/lang/Object" none with
  accessFlags := 33
  interfaces := #[]
  cf := some (fileOf pool0 8 #[] #[{ accessFlags := 1, nameIndex := 5, descriptorIndex := 6, attributes := #[] }] 33 0 #[] #[])
  fields := #[]
  methods := #[k0m0]
  instanceTypes := #[]
  staticTypes := #[]
  resolved := Array.replicate 124 none
  statics := none }

def pool1 : Array CpInfo := pool [(2, .class_ 4), (1, u "java/lang/Object"), (0, u "<init>"), (0, u "()V"), (0, .fieldref 8 9), (0, .class_ 10), (0, .nameAndType 11 12), (0, u "com/example/sealbind/sealbind/core/Level"), (0, u "MUST"), (0, u "Lcom/example/sealbind/sealbind/core/Level;"), (0, .fieldref 14 15), (0, .class_ 16), (0, .nameAndType 17 18), (0, u "com/example/sealbind/sealbind/core/Verdict"), (0, u "FAILED"), (0, u "Lcom/example/sealbind/sealbind/core/Verdict;"), (0, .fieldref 8 20), (0, .nameAndType 21 12), (0, u "MUST_NOT"), (0, .fieldref 8 23), (0, .nameAndType 24 12), (0, u "SHOULD"), (0, .fieldref 14 26), (0, .nameAndType 27 18), (0, u "WARNING"), (0, .fieldref 8 29), (0, .nameAndType 30 12), (0, u "SHOULD_NOT"), (0, .methodref 8 32), (0, .nameAndType 33 34), (0, u "verdictWhenUnmet"), (0, u "()Lcom/example/sealbind/sealbind/core/Verdict;"), (0, .class_ 36), (0, u "com/example/sealbind/sealbind/core/LevelVerdictWhenUnmetPinLaw"), (2, u "law"), (0, u "(I)Z")] 3

def k1m0 : Method := { name := "<init>", desc := "()V", sig := { parameters := [], returnType := none }, accessFlags := 1, code := none }
def k1c1 : Code := { maxStack := 2, maxLocals := 4, code := code, exceptionTable := #[], attributes := #[] }
def k1m1 : Method := { name := "law", desc := "(I)Z", sig := { parameters := [.int], returnType := some .boolean }, accessFlags := 9, code := some k1c1 }
/-- com/example/sealbind/sealbind/core/LevelVerdictWhenUnmetPinLaw -/
def k1 : Class := { plain "com/example/sealbind/sealbind/core/LevelVerdictWhenUnmetPinLaw" (some 0) with
  accessFlags := 49
  interfaces := #[]
  cf := some (fileOf pool1 35 #[] #[{ accessFlags := 1, nameIndex := 5, descriptorIndex := 6, attributes := #[] }, { accessFlags := 9, nameIndex := 39, descriptorIndex := 40, attributes := #[] }] 49 2 #[] #[])
  fields := #[]
  methods := #[k1m0, k1m1]
  instanceTypes := #[]
  staticTypes := #[]
  resolved := Array.replicate 44 none
  statics := none }

def pool2 : Array CpInfo := pool [(1, .class_ 2), (0, u "java/lang/constant/Constable"), (0, .class_ 4), (0, u "java/lang/Object")] 6

/-- java/lang/constant/Constable -/
def k2 : Class := { plain "java/lang/constant/Constable" (some 0) with
  accessFlags := 1537
  interfaces := #[]
  cf := some (fileOf pool2 1 #[] #[] 1537 3 #[] #[])
  fields := #[]
  methods := #[]
  instanceTypes := #[]
  staticTypes := #[]
  resolved := Array.replicate 11 none
  statics := none }

def pool3 : Array CpInfo := pool [(1, .class_ 2), (0, u "java/lang/Comparable"), (0, .class_ 4), (0, u "java/lang/Object")] 7

/-- java/lang/Comparable -/
def k3 : Class := { plain "java/lang/Comparable" (some 0) with
  accessFlags := 1537
  interfaces := #[]
  cf := some (fileOf pool3 1 #[] #[] 1537 3 #[] #[])
  fields := #[]
  methods := #[]
  instanceTypes := #[]
  staticTypes := #[]
  resolved := Array.replicate 12 none
  statics := none }

def pool4 : Array CpInfo := pool [(1, .class_ 2), (0, u "java/io/Serializable"), (0, .class_ 4), (0, u "java/lang/Object")] 2

/-- java/io/Serializable -/
def k4 : Class := { plain "java/io/Serializable" (some 0) with
  accessFlags := 1537
  interfaces := #[]
  cf := some (fileOf pool4 1 #[] #[] 1537 3 #[] #[])
  fields := #[]
  methods := #[]
  instanceTypes := #[]
  staticTypes := #[]
  resolved := Array.replicate 7 none
  statics := none }

def pool5 : Array CpInfo := pool [(2, .class_ 4), (1, u "java/lang/Enum"), (0, u "name"), (0, u "Ljava/lang/String;"), (2, u "ordinal"), (0, u "I"), (1, .class_ 14), (1, u "java/lang/Object"), (4, u "hash"), (86, .class_ 108), (1, u "java/lang/Enum$EnumDesc"), (2, .class_ 112), (0, u "java/lang/constant/Constable"), (0, .class_ 114), (0, u "java/lang/Comparable"), (0, .class_ 116), (0, u "java/io/Serializable")] 87

/-- java/lang/Enum -/
def k5 : Class := { plain "java/lang/Enum" (some 0) with
  accessFlags := 1057
  interfaces := #[2, 3, 4]
  cf := some (fileOf pool5 2 #[.nestMembers #[106]] #[] 1057 12 #[111, 113, 115] #[{ accessFlags := 18, nameIndex := 5, descriptorIndex := 6, attributes := #[] }, { accessFlags := 18, nameIndex := 9, descriptorIndex := 10, attributes := #[] }, { accessFlags := 2, nameIndex := 19, descriptorIndex := 10, attributes := #[] }])
  fields := #[{ name := "name", type := (.object "java/lang/String"), accessFlags := 18, slot := 0, constantValue := 0 }, { name := "ordinal", type := .int, accessFlags := 18, slot := 1, constantValue := 0 }, { name := "hash", type := .int, accessFlags := 2, slot := 2, constantValue := 0 }]
  methods := #[]
  instanceTypes := #[(.object "java/lang/String"), .int, .int]
  staticTypes := #[]
  resolved := Array.replicate 204 none
  statics := none }

def pool6 : Array CpInfo := pool [(1, .class_ 2), (0, u "com/example/sealbind/sealbind/core/Level"), (2, u "MUST"), (0, u "Lcom/example/sealbind/sealbind/core/Level;"), (2, u "MUST_NOT"), (0, .fieldref 1 11), (0, .nameAndType 12 6), (0, u "SHOULD"), (0, .fieldref 1 14), (0, .nameAndType 15 6), (0, u "SHOULD_NOT"), (2, u "$VALUES"), (0, u "[Lcom/example/sealbind/sealbind/core/Level;"), (6, .class_ 28), (1, u "java/lang/Enum"), (8, u "keyword"), (0, u "Ljava/lang/String;"), (0, .fieldref 40 41), (0, .class_ 42), (0, .nameAndType 43 44), (0, u "com/example/sealbind/sealbind/core/Verdict"), (0, u "WARNING"), (0, u "Lcom/example/sealbind/sealbind/core/Verdict;"), (0, .fieldref 40 46), (0, .nameAndType 47 44), (0, u "FAILED"), (23, u "verdictWhenUnmet"), (0, u "()Lcom/example/sealbind/sealbind/core/Verdict;")] 6

def k6c0 : Code := { maxStack := 2, maxLocals := 1, code := prog_18_method_5_code, exceptionTable := #[], attributes := #[] }
def k6m0 : Method := { name := "verdictWhenUnmet", desc := "()Lcom/example/sealbind/sealbind/core/Verdict;", sig := { parameters := [], returnType := some (.object "com/example/sealbind/sealbind/core/Verdict") }, accessFlags := 1, code := some k6c0 }
/-- com/example/sealbind/sealbind/core/Level -/
def k6 : Class := { plain "com/example/sealbind/sealbind/core/Level" (some 5) with
  accessFlags := 16433
  interfaces := #[]
  cf := some (fileOf pool6 1 #[] #[{ accessFlags := 1, nameIndex := 71, descriptorIndex := 72, attributes := #[] }] 16433 26 #[] #[{ accessFlags := 16409, nameIndex := 5, descriptorIndex := 6, attributes := #[] }, { accessFlags := 16409, nameIndex := 9, descriptorIndex := 6, attributes := #[] }, { accessFlags := 16409, nameIndex := 12, descriptorIndex := 6, attributes := #[] }, { accessFlags := 16409, nameIndex := 15, descriptorIndex := 6, attributes := #[] }, { accessFlags := 18, nameIndex := 37, descriptorIndex := 38, attributes := #[] }, { accessFlags := 4122, nameIndex := 18, descriptorIndex := 19, attributes := #[] }])
  fields := #[{ name := "MUST", type := (.object "com/example/sealbind/sealbind/core/Level"), accessFlags := 16409, slot := 0, constantValue := 0 }, { name := "MUST_NOT", type := (.object "com/example/sealbind/sealbind/core/Level"), accessFlags := 16409, slot := 1, constantValue := 0 }, { name := "SHOULD", type := (.object "com/example/sealbind/sealbind/core/Level"), accessFlags := 16409, slot := 2, constantValue := 0 }, { name := "SHOULD_NOT", type := (.object "com/example/sealbind/sealbind/core/Level"), accessFlags := 16409, slot := 3, constantValue := 0 }, { name := "keyword", type := (.object "java/lang/String"), accessFlags := 18, slot := 3, constantValue := 0 }, { name := "$VALUES", type := (.array (.object "com/example/sealbind/sealbind/core/Level")), accessFlags := 4122, slot := 4, constantValue := 0 }]
  methods := #[k6m0]
  instanceTypes := #[(.object "java/lang/String"), .int, .int, (.object "java/lang/String")]
  staticTypes := #[(.object "com/example/sealbind/sealbind/core/Level"), (.object "com/example/sealbind/sealbind/core/Level"), (.object "com/example/sealbind/sealbind/core/Level"), (.object "com/example/sealbind/sealbind/core/Level"), (.array (.object "com/example/sealbind/sealbind/core/Level"))]
  resolved := Array.replicate 79 none
  statics := some 0 }

def pool7 : Array CpInfo := pool [(1, .class_ 2), (0, u "com/example/sealbind/sealbind/core/Verdict"), (2, u "PASSED"), (0, u "Lcom/example/sealbind/sealbind/core/Verdict;"), (2, u "FAILED"), (2, u "WARNING"), (2, u "NOT_APPLICABLE"), (2, u "$VALUES"), (0, u "[Lcom/example/sealbind/sealbind/core/Verdict;"), (6, .class_ 28), (1, u "java/lang/Enum"), (8, u "word"), (0, u "Ljava/lang/String;")] 32

/-- com/example/sealbind/sealbind/core/Verdict -/
def k7 : Class := { plain "com/example/sealbind/sealbind/core/Verdict" (some 5) with
  accessFlags := 16433
  interfaces := #[]
  cf := some (fileOf pool7 1 #[] #[] 16433 26 #[] #[{ accessFlags := 16409, nameIndex := 5, descriptorIndex := 6, attributes := #[] }, { accessFlags := 16409, nameIndex := 9, descriptorIndex := 6, attributes := #[] }, { accessFlags := 16409, nameIndex := 12, descriptorIndex := 6, attributes := #[] }, { accessFlags := 16409, nameIndex := 15, descriptorIndex := 6, attributes := #[] }, { accessFlags := 18, nameIndex := 37, descriptorIndex := 38, attributes := #[] }, { accessFlags := 4122, nameIndex := 18, descriptorIndex := 19, attributes := #[] }])
  fields := #[{ name := "PASSED", type := (.object "com/example/sealbind/sealbind/core/Verdict"), accessFlags := 16409, slot := 0, constantValue := 0 }, { name := "FAILED", type := (.object "com/example/sealbind/sealbind/core/Verdict"), accessFlags := 16409, slot := 1, constantValue := 0 }, { name := "WARNING", type := (.object "com/example/sealbind/sealbind/core/Verdict"), accessFlags := 16409, slot := 2, constantValue := 0 }, { name := "NOT_APPLICABLE", type := (.object "com/example/sealbind/sealbind/core/Verdict"), accessFlags := 16409, slot := 3, constantValue := 0 }, { name := "word", type := (.object "java/lang/String"), accessFlags := 18, slot := 3, constantValue := 0 }, { name := "$VALUES", type := (.array (.object "com/example/sealbind/sealbind/core/Verdict")), accessFlags := 4122, slot := 4, constantValue := 0 }]
  methods := #[]
  instanceTypes := #[(.object "java/lang/String"), .int, .int, (.object "java/lang/String")]
  staticTypes := #[(.object "com/example/sealbind/sealbind/core/Verdict"), (.object "com/example/sealbind/sealbind/core/Verdict"), (.object "com/example/sealbind/sealbind/core/Verdict"), (.object "com/example/sealbind/sealbind/core/Verdict"), (.array (.object "com/example/sealbind/sealbind/core/Verdict"))]
  resolved := Array.replicate 71 none
  statics := some 1 }

def pool8 : Array CpInfo := pool [(1, u "java/lang/Cloneable"), (0, .class_ 1), (0, u "java/lang/Object"), (0, .class_ 3)] 3

/-- java/lang/Cloneable -/
def k8 : Class := { plain "java/lang/Cloneable" (some 0) with
  accessFlags := 1537
  interfaces := #[]
  cf := some (fileOf pool8 2 #[] #[] 1537 4 #[] #[])
  fields := #[]
  methods := #[]
  instanceTypes := #[]
  staticTypes := #[]
  resolved := Array.replicate 8 none
  statics := none }

/-- the primitive byte -/
def k9 : Class := { plain "byte" none with kind := .primitive 'B', accessFlags := 0x411 }
/-- [B -/
def k10 : Class := { plain "[B" (some 0) with kind := .array 9 .byte, interfaces := #[8, 4], accessFlags := 1041 }

/-- the primitive int -/
def k11 : Class := { plain "int" none with kind := .primitive 'I', accessFlags := 0x411 }
/-- [I -/
def k12 : Class := { plain "[I" (some 0) with kind := .array 11 .int, interfaces := #[8, 4], accessFlags := 1041 }

def heap : Heap := #[{ cls := 6, slots := #[.ref 2, .ref 3, .ref 4, .ref 5, .null], vm := .statics 6 },
  { cls := 7, slots := #[.null, .ref 6, .ref 7, .null, .null], vm := .statics 7 },
  { cls := 6, slots := #[.null, .int 0, .int 0, .null], vm := .none },
  { cls := 6, slots := #[.null, .int 1, .int 0, .null], vm := .none },
  { cls := 6, slots := #[.null, .int 2, .int 0, .null], vm := .none },
  { cls := 6, slots := #[.null, .int 3, .int 0, .null], vm := .none },
  { cls := 7, slots := #[.null, .int 1, .int 0, .null], vm := .none },
  { cls := 7, slots := #[.null, .int 2, .int 0, .null], vm := .none }]
def classes : Array Class := #[k0, k1, k2, k3, k4, k5, k6, k7, k8, k9, k10, k11, k12]
def interned : List (Array UInt16 × Addr) := []
def slotsUsed : Nat := 34
def theMethod : MethodId := ⟨1, 1⟩
def args0 : Array Value := #[.int 5]
def aboutOver (below : List Frame) : State where
  vm := { classes := classes, interned := interned.toArray }
  heap := heap
  slotsUsed := slotsUsed
  threads := #[{ frames := .invoking theMethod args0 :: below }]
def below0 : List Frame := [.native { method := ⟨0, 0⟩, args := #[] }]
def about1 : State := aboutOver below0
def p0 : Program := .bare "" "" ""
def e0 : Env := launch0.env 0 0 0
theorem w_frames : about1.frames = Frame.invoking theMethod args0 :: below0 := rfl
set_option maxRecDepth 65536 in
theorem w_args : argsFit about1.vm theMethod args0 = true := by decide +kernel
set_option maxRecDepth 65536 in
theorem w_heap : heapFits about1 = true := by decide +kernel
set_option maxRecDepth 65536 in
theorem w_runnable : about1.curStatus? = some .runnable := by decide +kernel
set_option maxRecDepth 65536 in
theorem w_alone : about1.alone = true := by decide +kernel
set_option maxRecDepth 65536 in
theorem w_named : about1.methodNamed? x = some theMethod := by decide +kernel
set_option maxRecDepth 65536 in
theorem w_hears : about1.hears theMethod below0 = true := by decide +kernel
set_option maxRecDepth 65536 in
theorem w_ripe : about1.ripe theMethod args0 below0 = true := by decide +kernel
theorem w_running : about1.status = .running := rfl
set_option maxRecDepth 65536 in
theorem w_room : about1.hasRoom e0.platform room_1 = true :=
  launch0.hasRoom_least _ room_1 (by decide +kernel) (by decide +kernel) (by decide +kernel) (by decide +kernel) (by decide +kernel) (by decide +kernel)
theorem allAtoms_all (ts : List Jvm.Cond) (a : Array Jvm.Value) (st : Jvm.State) : (allAtoms ts).before a st = ts.all (fun c => c.before a st) := by
  induction ts with
  | nil => rfl
  | cons c t ih =>
    show (Jvm.Cond.and c (allAtoms t)).before a st = _
    rw [Jvm.Cond.before_and, ih, List.all_cons]
def words1 : List Jvm.Cond := Jvm.Cond.code x code maxLocals ret :: tables_1
/-- a 'code' word, met by the world's own term for the bytes: nothing is compared byte by byte -/
theorem code_word {y : MethodName} {bytes : ByteArray} {mx : Nat} {rt : Option FieldType} {a : Array Value} {s : State} {m : MethodId} {meth : Method} {c : Code} (h1 : s.methodNamed? y = some m) (h2 : s.vm.method? m = some meth) (h3 : meth.code = some c) (h4 : c.code = bytes)
    (h5 : (c.maxLocals == mx && c.exceptionTable.isEmpty && decide (c.maxStack ≤ mostOperands) && decide (meth.sig.returnType = rt) && !meth.locks && decide (parseMethodDescriptor y.desc = some meth.sig)) = true) : (Jvm.Cond.code y bytes mx rt).before a s = true := by
  simp only [Bool.and_eq_true, beq_iff_eq, Bool.not_eq_true', decide_eq_true_eq] at h5
  obtain ⟨⟨⟨⟨⟨g1, g2⟩, g3⟩, g4⟩, g5⟩, g6⟩ := h5
  simp [Cond.before, Cond.holds, Cond.value, h1, h2, h3, h4, g1, g2, g3, g4, g5, g6]
def isCode : Jvm.Cond → Bool
  | .code _ _ _ _ => true
  | _ => false
theorem all_split {L : List Jvm.Cond} {P : Jvm.Cond → Bool} (h1 : L.all (fun c => isCode c || P c) = true) (h2 : ∀ c ∈ L.filter isCode, P c = true) : L.all P = true := by
  refine List.all_eq_true.mpr fun c hc => ?_
  have h := List.all_eq_true.mp h1 c hc
  rcases Bool.eq_false_or_eq_true (isCode c) with hi | hi
  · exact h2 c (List.mem_filter.mpr ⟨hc, hi⟩)
  · simpa [hi] using h
set_option maxRecDepth 65536 in
theorem w_c0 : (Jvm.Cond.code x code maxLocals ret).before args0 about1 = true := code_word (m := ⟨1, 1⟩) (meth := k1m1) (c := k1c1) (by decide +kernel) rfl rfl rfl (by decide +kernel)
set_option maxRecDepth 65536 in
theorem w_c1 : (Jvm.Cond.code ({ cls := "com/example/sealbind/sealbind/core/Level", name := "verdictWhenUnmet", desc := "()Lcom/example/sealbind/sealbind/core/Verdict;" } : Jvm.MethodName) prog_18_method_5_code (1 : Nat) (Option.some (Jvm.ClassFile.FieldType.object "com/example/sealbind/sealbind/core/Verdict"))).before args0 about1 = true := code_word (m := ⟨6, 0⟩) (meth := k6m0) (c := k6c0) (by decide +kernel) rfl rfl rfl (by decide +kernel)
def codes1 : List Jvm.Cond := [Jvm.Cond.code x code maxLocals ret, Jvm.Cond.code ({ cls := "com/example/sealbind/sealbind/core/Level", name := "verdictWhenUnmet", desc := "()Lcom/example/sealbind/sealbind/core/Verdict;" } : Jvm.MethodName) prog_18_method_5_code (1 : Nat) (Option.some (Jvm.ClassFile.FieldType.object "com/example/sealbind/sealbind/core/Verdict"))]
set_option maxRecDepth 65536 in
theorem codes_eq : words1.filter isCode = codes1 := rfl
theorem w_codes : ∀ c ∈ words1.filter isCode, c.before args0 about1 = true := by
  rw [codes_eq]
  intro c hc
  simp only [codes1, List.mem_cons, List.not_mem_nil, or_false] at hc
  rcases hc with rfl | rfl
  · exact w_c0
  · exact w_c1
set_option maxRecDepth 65536 in
theorem w_t1 : words1.all (fun c => isCode c || c.before args0 about1) = true := by decide +kernel
theorem w_tables : (allAtoms (Jvm.Cond.code x code maxLocals ret :: tables_1)).before args0 about1 = true := by
  rw [allAtoms_all]
  show words1.all (fun c => c.before args0 about1) = true
  refine all_split ?_ w_codes
  rw [w_t1]
set_option maxRecDepth 65536 in
theorem w_case : (Jvm.Cond.and given_1 narrow_1).before args0 about1 = true := by decide +kernel
theorem w_applies : (headSpec (Jvm.Cond.code x code maxLocals ret :: tables_1) room_1).applies x e0.platform about1 = true :=
  (Spec.applies_iff w_frames).mpr ⟨w_running, w_runnable, w_alone, w_named, w_hears, w_ripe, w_room, w_tables⟩
theorem atStart : AtStart classFile x code maxLocals ret World_1 tables_1 room_1 Calls_1 rest_1 Pre_1 launch0 p0 e0 about1 theMethod args0 below0 :=
  ⟨lists_1, trivial, launch0.admits_env _ _ _, launch0.least_env, fairChoices_fair.cas, fairChoices_fair.clock, w_frames, w_args, w_heap, w_applies, trivial, trivial, w_case⟩
end start1
theorem witness_1 : WitnessClaimed_1 := ⟨start1.p0, start1.e0, start1.about1, start1.theMethod, start1.args0, start1.below0, start1.atStart⟩
end Jvm.Pilot.@@N@@
