import JvmDerived
import JvmDerived.Pilot.@@N@@Statement
import JvmDerived.Pilot.@@N@@Code
set_option linter.unusedVariables false
set_option linter.unusedSimpArgs false
namespace Jvm.Pilot.@@N@@
open Jvm Jvm.ClassFile Sem Op Lib Jvm.Free Jvm.Stand Jvm.LawKit Jvm.RoadKit Bundle Jvm.Pilot.@@N@@.Jvm.D
/-! 1. my way of walking: 'from here the run comes to an end that G allows' -/
def Rch (p : Program) (e : Env) (below : List Frame) (G : Outcome → State → Prop) (T : State) (f : JFrame) : Prop := ∃ s₂ o, Steps p.tables e below (T.setTop f) s₂ ∧ s₂.status = .running ∧ Ended s₂ below o ∧ G o s₂
def Gd (s : State) (Q : Option Value → Heap → List Loc → Prop) (k n : Nat) : Outcome → State → Prop := fun o U' => ∃ v L, o = .returned v ∧ Q v U'.heap L ∧ FrameEnd s o U' L k n
section Own
variable {p : Program} {l : Launch} {e : Env} {R : Room} {s : State} {m : MethodId} {args : Array Value} {below : List Frame} {meth : Method} {c : Code} {T T' : State} {f f' : JFrame} {locs : List Loc} {cells slots k n : Nat} {G : Outcome → State → Prop} {Q : Option Value → Heap → List Loc → Prop}
theorem own_go (st : ∀ t, Steps p.tables e below (T'.setTop f') t → Steps p.tables e below (T.setTop f) t) (r : Rch p e below G T' f') : Rch p e below G T f := by
  obtain ⟨s₂, o, h1, h2⟩ := r
  exact ⟨s₂, o, st _ h1, h2⟩
theorem own_go2 (st : Steps p.tables e below (T.setTop f) (T'.setTop f')) (r : Rch p e below G T' f') : Rch p e below G T f := own_go (fun t h => st.trans h) r
theorem own_fin (X : Stand p l e R s m args below meth c T locs cells slots) (hlk : meth.locks = false) {v : Option Value} (hv : meth.sig.returnType = none → v = none) (hc : cells ≤ k) (hs : slots ≤ n)
    (st : ∀ fs, (∀ (f : JFrame) (acts : List Action), f.method = m → f.locked = none → f.entered = [] → (doReturn e (T.setTop f) acts v).1 = T.setFrames fs) → Steps p.tables e below (T.setTop f) (T.setFrames fs)) (hQ : Q v T.heap locs) : Rch p e below (Gd s Q k n) T f := by
  obtain ⟨fs, hr, hrun, hended, hW, hsame⟩ := X.leave hv hlk
  exact ⟨_, _, st fs hr, hrun, hended, _, _, rfl, hQ, ⟨_, rfl⟩, hW, hsame.mono hc hs⟩
theorem own_retV (X : Stand p l e R s m args below meth c T locs cells slots) (hx : p.tables.exec = Jvm.exec) (hlk : meth.locks = false) (hret : meth.sig.returnType = none) {pc : Nat} {Ls : Array Slot} (hd : decode c.code pc = .ok (.return_, 1)) (hc : cells ≤ k) (hs : slots ≤ n) (hQ : Q none T.heap locs) : Rch p e below (Gd s Q k n) T (mkF m pc Ls []) :=
  own_fin X hlk (fun _ => rfl) hc hs (fun fs hr => X.returnOut hx hret hd hr) hQ
theorem own_retN (X : Stand p l e R s m args below meth c T locs cells slots) (hx : p.tables.exec = Jvm.exec) (hlk : meth.locks = false) {t : FieldType} (hret : meth.sig.returnType = some t) (ht : t = .boolean ∨ t = .byte ∨ t = .char ∨ t = .short) {pc : Nat} {Ls : Array Slot} {z w : Int32} {rest : List Value} (hd : decode c.code pc = .ok (.ireturn, 1)) (hz : nar t z = w) (hc : cells ≤ k) (hs : slots ≤ n) (hQ : Q (some (.int w)) T.heap locs) : Rch p e below (Gd s Q k n) T (mkF m pc Ls (.int z :: rest)) :=
  own_fin X hlk (fun h => by rw [hret] at h; cases h) hc hs (fun fs hr => retN X hx hret ht hd (by rw [hz]; exact hr)) hQ
theorem own_retI (X : Stand p l e R s m args below meth c T locs cells slots) (hx : p.tables.exec = Jvm.exec) (hlk : meth.locks = false) (hret : meth.sig.returnType = some .int) {pc : Nat} {Ls : Array Slot} {z : Int32} {rest : List Value} (hd : decode c.code pc = .ok (.ireturn, 1)) (hc : cells ≤ k) (hs : slots ≤ n) (hQ : Q (some (.int z)) T.heap locs) : Rch p e below (Gd s Q k n) T (mkF m pc Ls (.int z :: rest)) :=
  own_fin X hlk (fun h => by rw [hret] at h; cases h) hc hs (fun fs hr => retOut X hx hret rfl (Or.inl ⟨rfl, Or.inl rfl, z, rfl⟩) hd hr) hQ
theorem own_retJ (X : Stand p l e R s m args below meth c T locs cells slots) (hx : p.tables.exec = Jvm.exec) (hlk : meth.locks = false) (hret : meth.sig.returnType = some .long) {pc : Nat} {Ls : Array Slot} {z : Int64} {rest : List Value} (hd : decode c.code pc = .ok (.lreturn, 1)) (hc : cells ≤ k) (hs : slots ≤ n) (hQ : Q (some (.long z)) T.heap locs) : Rch p e below (Gd s Q k n) T (mkF m pc Ls (.long z :: rest)) :=
  own_fin X hlk (fun h => by rw [hret] at h; cases h) hc hs (fun fs hr => retOut X hx hret rfl (Or.inr (Or.inl ⟨rfl, rfl, z, rfl⟩)) hd hr) hQ
theorem own_retA (X : Stand p l e R s m args below meth c T locs cells slots) (hx : p.tables.exec = Jvm.exec) (hlk : meth.locks = false) {t : FieldType} (hret : meth.sig.returnType = some t) (ht : t.isReference = true) {w : Value} (hw : w.isRef = true) {pc : Nat} {Ls : Array Slot} {rest : List Value} (hd : decode c.code pc = .ok (.areturn, 1)) (hc : cells ≤ k) (hs : slots ≤ n) (hQ : Q (some w) T.heap locs) : Rch p e below (Gd s Q k n) T (mkF m pc Ls (w :: rest)) :=
  own_fin X hlk (fun h => by rw [hret] at h; cases h) hc hs (fun fs hr => retOut X hx hret (by rcases ref_cases hw with rfl | ⟨a, rfl⟩ <;> (cases t <;> first | rfl | cases ht)) (Or.inr (Or.inr (Or.inr (Or.inr ⟨rfl, ht, hw⟩)))) hd hr) hQ
end Own

theorem own_nat (n : Int32) : n.toNatClampNeg = n.toInt.toNat := rfl
theorem own_l0 : (0 : Int32).toInt = 0 := by decide
def own_min (x y : Int32) : Int32 := if y < x then y else x
theorem own_map (vs : List Value) (d : Value) : (List.range vs.length).map (fun i => vs.getD (0 + i) d) = vs := by
  apply List.ext_getElem
  · simp
  · intro i h1 h2
    simp [List.getD_eq_getElem?_getD, h2]
theorem own_sta {Z : State} {h h' : Heap} {C n d : String} {v : Value} (F : Sta Z h C n d v) (K : Keep h h' []) : Sta Z h' C n d v := by
  obtain ⟨cf, i, k, f, st, cell, h1, h2, h3, h4, h5, r⟩ := F
  exact ⟨cf, i, k, f, st, cell, h1, h2, h3, h4, K.2.1 _ _ h5 (fun q => nomatch q), r⟩
theorem own_eqi {args : Array Value} {s : State} {t : Term} {k : Int32} (h : (Jvm.Cond.eq t (.int k)).value args s none s [] = some true) : t.eval args s none [] s = some (.int k) := by
  obtain ⟨x, y, e1, e2, -, k2⟩ := cmp_v (Or.inl h)
  have e3 : y = .int k := (Option.some.inj e2).symm
  subst e3
  obtain ⟨z, rfl⟩ := k2
  have q := (Cond.eq_ints e1 e2).symm.trans h
  rw [e1, of_decide_eq_true (Option.some.inj q)]
theorem own_len {args : Array Value} {s : State} {t : Term} {a : Addr} {cl : Cell} {k : Int32} (ht : t.eval args s none [] s = some (.ref a)) (ha : s.arrayAt? a = some cl) (h : (Term.length t).eval args s none [] s = some (.int k)) : cl.slots.size < 2 ^ 31 ∧ cl.slots.size.toInt32 = k := by
  by_cases q : cl.slots.size < 2 ^ 31
  · rw [len_f ht ha q] at h
    exact ⟨q, Value.int.inj (Option.some.inj h)⟩
  · simp [Term.eval, ht, ha, q] at h
theorem d3_0 : decode jdk_29_method_69_code 0 = .ok (.iload_n 0, 1) := by decide +kernel
theorem d3_1 : decode jdk_29_method_69_code 1 = .ok (.iload_n 1, 1) := by decide +kernel
theorem d3_2 : decode jdk_29_method_69_code 2 = .ok (.if_icmp .gt 7, 3) := by decide +kernel
theorem d3_9 : decode jdk_29_method_69_code 9 = .ok (.iload_n 1, 1) := by decide +kernel
theorem d3_10 : decode jdk_29_method_69_code 10 = .ok (.ireturn, 1) := by decide +kernel
theorem d3_5 : decode jdk_29_method_69_code 5 = .ok (.iload_n 0, 1) := by decide +kernel
theorem d3_6 : decode jdk_29_method_69_code 6 = .ok (.goto 4, 3) := by decide +kernel
theorem ef_3 (m : MethodId) (x0 : Int32) (x1 : Int32) : entryFrame m #[(.int x0), (.int x1)] 2 = mkF m 0 #[.val (.int x0), .val (.int x1)] [] := by first | (simp [entryFrame, mkF, argsToLocals, Value.category]; done) | rfl
def Q3 (Z : State) (p0 : Int32) (p1 : Int32) (h0 : Heap) (n0 : Nat) (v : Option Value) (h : Heap) (L : List Loc) : Prop := v = some (.int (own_min p0 p1)) ∧ Fr n0 L ∧ h = h0
set_option maxRecDepth 65536 in
set_option maxHeartbeats 40000000 in
theorem rm3 (l : Launch) (Z : State) (a0 : Array Value) (hw : ∀ d ∈ tables_1, d.before a0 Z = true) (ws : List Jvm.Cond) (p0 : Int32) (p1 : Int32) (h0 : Heap) (n0 : Nat) (Z0 : n0 ≤ h0.size) :
    MetFree l (⟨"java/lang/Math", "min", "(II)I"⟩ : MethodName) (head1 (Jvm.Cond.code (⟨"java/lang/Math", "min", "(II)I"⟩ : MethodName) jdk_29_method_69_code 2 (some .int) :: ws) ({ frames := 0, cells := 0, slots := 0, locals := 0 } : Room)) (fun a U => a = #[(.int p0), (.int p1)] ∧ Z.Warmed39 U.vm ∧ U.heap = h0) (fun _ _ _ _ _ => True) (fun _ U o U' => ∃ v L, o = .returned v ∧ Q3 Z p0 p1 h0 n0 v U'.heap L ∧ FrameEnd U o U' L ({ frames := 0, cells := 0, slots := 0, locals := 0 } : Room).cells ({ frames := 0, cells := 0, slots := 0, locals := 0 } : Room).slots) := by
  refine MetFree.of_bodySF (Jvm.Free.JP.mathPlain rfl (by decide +kernel)) hisR ?_
  intro p e s m args below meth c s₁ Bd hml0 hP hK
  obtain ⟨rfl, hZ, hh⟩ := hP
  have hx := Bd.exec
  have hby := Bd.bytes
  have hlk := Bd.notSynchronized
  have hret := Bd.returns
  have hml : c.maxLocals = 2 := hml0
  have hown : s.vm.findClass "java/lang/Math" = some m.cls := findClass_of_methodNamed Bd.named
  have hnm := (name_of_methodNamed Bd.named Bd.method).1
  have X0 : Stand p l e ({ frames := 0, cells := 0, slots := 0, locals := 0 } : Room) s m #[(.int p0), (.int p1)] below meth c s₁ [] 0 0 := Stand.of_body Bd
  have e0 : s₁.heap = h0 := by rw [← hh, Bd.state]; rfl
  have N0 := Fr.nil n0
  suffices G0 : Rch p e below (Gd s (Q3 Z p0 p1 h0 n0) ({ frames := 0, cells := 0, slots := 0, locals := 0 } : Room).cells ({ frames := 0, cells := 0, slots := 0, locals := 0 } : Room).slots) s₁ (mkF m 0 #[.val (.int p0), .val (.int p1)] []) by
    obtain ⟨s₂, o, r1, r2, r3, r4⟩ := G0
    exact ⟨s₂, o, castTop (ef_3 m p0 p1) r1, r2, r3, r4⟩
  refine own_go (T := s₁) (T' := s₁) (f := (mkF m 0 #[.val (.int p0), .val (.int p1)] [])) (f' := (mkF m 2 #[.val (.int p0), .val (.int p1)] [(.int p1), (.int p0)])) (fun t k => ?_) ?_
  · show Steps p.tables e below (s₁.setTop (mkF m 0 #[.val (.int p0), .val (.int p1)] [])) _
    refine XS.iloadN X0.here hx rfl (hb hby d3_0) rfl ?_
    show Steps p.tables e below (s₁.setTop (mkF m 1 #[.val (.int p0), .val (.int p1)] [(.int p0)])) _
    refine XS.iloadN X0.here hx rfl (hb hby d3_1) rfl ?_
    exact k
  by_cases hc2 : p1 < p0
  · refine own_go (T := s₁) (T' := s₁) (f := (mkF m 2 #[.val (.int p0), .val (.int p1)] [(.int p1), (.int p0)])) (f' := (mkF m 9 #[.val (.int p0), .val (.int p1)] [])) (fun t k => ?_) ?_
    · show Steps p.tables e below (s₁.setTop (mkF m 2 #[.val (.int p0), .val (.int p1)] [(.int p1), (.int p0)])) _
      refine XS.icmpYes X0.here hx rfl (pc0 := 2) (pc' := 9) rfl (hb hby d3_2) rfl (tlt hc2).2.2.1 (by decide) (by decide) ?_
      exact k
    refine own_go (T := s₁) (T' := s₁) (f := (mkF m 9 #[.val (.int p0), .val (.int p1)] [])) (f' := (mkF m 10 #[.val (.int p0), .val (.int p1)] [(.int p1)])) (fun t k => ?_) ?_
    · show Steps p.tables e below (s₁.setTop (mkF m 9 #[.val (.int p0), .val (.int p1)] [])) _
      refine XS.iloadN X0.here hx rfl (hb hby d3_9) rfl ?_
      exact k
    exact own_retI X0 hx hlk hret (hb hby d3_10) (by decide) (by decide) (by rw [e0]; exact ⟨(by simp [own_min, hc2]), N0, rfl⟩)
  · refine own_go (T := s₁) (T' := s₁) (f := (mkF m 2 #[.val (.int p0), .val (.int p1)] [(.int p1), (.int p0)])) (f' := (mkF m 5 #[.val (.int p0), .val (.int p1)] [])) (fun t k => ?_) ?_
    · show Steps p.tables e below (s₁.setTop (mkF m 2 #[.val (.int p0), .val (.int p1)] [(.int p1), (.int p0)])) _
      refine XS.icmpNo X0.here hx rfl (hb hby d3_2) rfl (flt hc2).2.2.1 ?_
      exact k
    refine own_go (T := s₁) (T' := s₁) (f := (mkF m 5 #[.val (.int p0), .val (.int p1)] [])) (f' := (mkF m 10 #[.val (.int p0), .val (.int p1)] [(.int p0)])) (fun t k => ?_) ?_
    · show Steps p.tables e below (s₁.setTop (mkF m 5 #[.val (.int p0), .val (.int p1)] [])) _
      refine XS.iloadN X0.here hx rfl (hb hby d3_5) rfl ?_
      show Steps p.tables e below (s₁.setTop (mkF m 6 #[.val (.int p0), .val (.int p1)] [(.int p0)])) _
      refine XS.goto X0.here hx rfl (pc0 := 6) (pc' := 10) rfl (hb hby d3_6) (by decide) (by decide) ?_
      exact k
    exact own_retI X0 hx hlk hret (hb hby d3_10) (by decide) (by decide) (by rw [e0]; exact ⟨(by simp [own_min, hc2]), N0, rfl⟩)
theorem d2_0 : decode jdk_65_method_121_code 0 = .ok (.iload_n 1, 1) := by decide +kernel
theorem d2_1 : decode jdk_65_method_121_code 1 = .ok (.aload_n 0, 1) := by decide +kernel
theorem d2_2 : decode jdk_65_method_121_code 2 = .ok (.arraylength, 1) := by decide +kernel
theorem d2_3 : decode jdk_65_method_121_code 3 = .ok (.if_icmp .ne 11, 3) := by decide +kernel
theorem d2_14 : decode jdk_65_method_121_code 14 = .ok (.iload_n 1, 1) := by decide +kernel
theorem d2_15 : decode jdk_65_method_121_code 15 = .ok (.newarray .byte, 2) := by decide +kernel
theorem d2_17 : decode jdk_65_method_121_code 17 = .ok (.astore_n 2, 1) := by decide +kernel
theorem d2_18 : decode jdk_65_method_121_code 18 = .ok (.aload_n 0, 1) := by decide +kernel
theorem d2_19 : decode jdk_65_method_121_code 19 = .ok (.iconst 0, 1) := by decide +kernel
theorem d2_20 : decode jdk_65_method_121_code 20 = .ok (.aload_n 2, 1) := by decide +kernel
theorem d2_21 : decode jdk_65_method_121_code 21 = .ok (.iconst 0, 1) := by decide +kernel
theorem d2_22 : decode jdk_65_method_121_code 22 = .ok (.aload_n 0, 1) := by decide +kernel
theorem d2_23 : decode jdk_65_method_121_code 23 = .ok (.arraylength, 1) := by decide +kernel
theorem d2_24 : decode jdk_65_method_121_code 24 = .ok (.iload_n 1, 1) := by decide +kernel
theorem d2_25 : decode jdk_65_method_121_code 25 = .ok (.invokestatic 304, 3) := by decide +kernel
theorem pd__28II_29I : parseMethodDescriptor "(II)I" = some ⟨[.int, .int], some .int⟩ := by decide +kernel
theorem d2_28 : decode jdk_65_method_121_code 28 = .ok (.invokestatic 150, 3) := by decide +kernel
theorem d2_31 : decode jdk_65_method_121_code 31 = .ok (.aload_n 2, 1) := by decide +kernel
theorem d2_32 : decode jdk_65_method_121_code 32 = .ok (.areturn, 1) := by decide +kernel
theorem pn_2 : plainName "java/util/Arrays" = true := by first | (simp [plainName, overriddenIn]; done) | decide +kernel
theorem ef_2 (m : MethodId) (x0 : Addr) (x1 : Int32) : entryFrame m #[(.ref x0), (.int x1)] 3 = mkF m 0 #[.val (.ref x0), .val (.int x1), .unset] [] := by first | (simp [entryFrame, mkF, argsToLocals, Value.category]; done) | rfl
def Q2 (Z : State) (u0 : Addr) (p1 : Int32) (k : ClassId) (z : Int32) (vs : List Value) (h0 : Heap) (n0 : Nat) (v : Option Value) (h : Heap) (L : List Loc) : Prop := ∃ (b : Addr) (k' : ClassId), v = some (.ref b) ∧ Fr n0 L ∧ h0.size ≤ b ∧ Keep h0 h [] ∧ Arv Z h b k' .byte p1 vs (.int (0 : Int32))
set_option maxRecDepth 65536 in
set_option maxHeartbeats 40000000 in
theorem rm2 (l : Launch) (Z : State) (a0 : Array Value) (hw : ∀ d ∈ tables_1, d.before a0 Z = true) (ws : List Jvm.Cond) (u0 : Addr) (p1 : Int32) (k : ClassId) (z : Int32) (vs : List Value) (h0 : Heap) (n0 : Nat) (Z0 : n0 ≤ h0.size) (V : Arv Z h0 u0 k .byte z vs (.int (0 : Int32))) (hlen : vs.length = z.toNatClampNeg) (hz : z < p1) (hcap : p1.toNatClampNeg ≤ 5) :
    MetFree l (⟨"java/util/Arrays", "copyOf", "([BI)[B"⟩ : MethodName) (head1 (Jvm.Cond.code (⟨"java/util/Arrays", "copyOf", "([BI)[B"⟩ : MethodName) jdk_65_method_121_code 3 (some (.array .byte)) :: ws) ({ frames := 1, cells := 1, slots := 5, locals := 40 } : Room)) (fun a U => a = #[(.ref u0), (.int p1)] ∧ Z.Warmed39 U.vm ∧ U.heap = h0) (fun _ _ _ _ _ => True) (fun _ U o U' => ∃ v L, o = .returned v ∧ Q2 Z u0 p1 k z vs h0 n0 v U'.heap L ∧ FrameEnd U o U' L ({ frames := 1, cells := 1, slots := 5, locals := 40 } : Room).cells ({ frames := 1, cells := 1, slots := 5, locals := 40 } : Room).slots) := by
  refine MetFree.of_bodySF (plainFor_of_name pn_2) hisR ?_
  intro p e s m args below meth c s₁ Bd hml0 hP hK
  obtain ⟨rfl, hZ, hh⟩ := hP
  have hx := Bd.exec
  have hby := Bd.bytes
  have hlk := Bd.notSynchronized
  have hret := Bd.returns
  have hml : c.maxLocals = 3 := hml0
  have hown : s.vm.findClass "java/util/Arrays" = some m.cls := findClass_of_methodNamed Bd.named
  have hnm := (name_of_methodNamed Bd.named Bd.method).1
  have X0 : Stand p l e ({ frames := 1, cells := 1, slots := 5, locals := 40 } : Room) s m #[(.ref u0), (.int p1)] below meth c s₁ [] 0 0 := Stand.of_body Bd
  have e0 : s₁.heap = h0 := by rw [← hh, Bd.state]; rfl
  have N0 := Fr.nil n0
  suffices G0 : Rch p e below (Gd s (Q2 Z u0 p1 k z vs h0 n0) ({ frames := 1, cells := 1, slots := 5, locals := 40 } : Room).cells ({ frames := 1, cells := 1, slots := 5, locals := 40 } : Room).slots) s₁ (mkF m 0 #[.val (.ref u0), .val (.int p1), .unset] []) by
    obtain ⟨s₂, o, r1, r2, r3, r4⟩ := G0
    exact ⟨s₂, o, castTop (ef_2 m u0 p1) r1, r2, r3, r4⟩
  have hne : ¬ (p1 = z) := fun q => by rw [q, Int32.lt_iff_toInt_lt] at hz; omega
  have hn1 : ¬ p1 < 0 := by
    obtain ⟨-, -, -, -, q3, -, -⟩ := V
    rw [Int32.lt_iff_toInt_lt] at *
    omega
  have hn0 : ¬ z < 0 := by
    obtain ⟨-, -, -, -, q3, -, -⟩ := V
    exact q3
  refine own_go (T := s₁) (T' := s₁) (f := (mkF m 0 #[.val (.ref u0), .val (.int p1), .unset] [])) (f' := (mkF m 2 #[.val (.ref u0), .val (.int p1), .unset] [(.ref u0), (.int p1)])) (fun t k => ?_) ?_
  · show Steps p.tables e below (s₁.setTop (mkF m 0 #[.val (.ref u0), .val (.int p1), .unset] [])) _
    refine XS.iloadN X0.here hx rfl (hb hby d2_0) rfl ?_
    show Steps p.tables e below (s₁.setTop (mkF m 1 #[.val (.ref u0), .val (.int p1), .unset] [(.int p1)])) _
    refine XS.aloadN X0.here hx rfl (hb hby d2_1) rfl rfl ?_
    exact k
  obtain ⟨cl1, Ar1, q11, q21, q31, q41, q51⟩ := id V
  refine own_go (T := s₁) (T' := s₁) (f := (mkF m 2 #[.val (.ref u0), .val (.int p1), .unset] [(.ref u0), (.int p1)])) (f' := (mkF m 3 #[.val (.ref u0), .val (.int p1), .unset] [(.int z), (.int p1)])) (fun t k => ?_) ?_
  · refine X0.arraylength hx (by rw [e0]; exact Ar1.1) (State.isArrayOf_alike hZ.alike Ar1.2.1) (g := (mkF m 2 #[.val (.ref u0), .val (.int p1), .unset] [(.ref u0), (.int p1)])) rfl rfl (hb hby d2_2) _ ?_
    rw [len_of q21 q31]
    exact k
  refine own_go (T := s₁) (T' := s₁) (f := (mkF m 3 #[.val (.ref u0), .val (.int p1), .unset] [(.int z), (.int p1)])) (f' := (mkF m 14 #[.val (.ref u0), .val (.int p1), .unset] [])) (fun t k => ?_) ?_
  · show Steps p.tables e below (s₁.setTop (mkF m 3 #[.val (.ref u0), .val (.int p1), .unset] [(.int z), (.int p1)])) _
    refine XS.icmpYes X0.here hx rfl (pc0 := 3) (pc' := 14) rfl (hb hby d2_3) rfl (feq hne).2 (by decide) (by decide) ?_
    exact k
  refine own_go (T := s₁) (T' := s₁) (f := (mkF m 14 #[.val (.ref u0), .val (.int p1), .unset] [])) (f' := (mkF m 15 #[.val (.ref u0), .val (.int p1), .unset] [(.int p1)])) (fun t k => ?_) ?_
  · show Steps p.tables e below (s₁.setTop (mkF m 14 #[.val (.ref u0), .val (.int p1), .unset] [])) _
    refine XS.iloadN X0.here hx rfl (hb hby d2_14) rfl ?_
    exact k
  obtain ⟨T2, h2, k2, X2, e2, E2, A2, st2⟩ := newP X0 hx hZ (hw _ (List.mem_of_getElem? (i := 10) rfl)) e0 (g := (mkF m 15 #[.val (.ref u0), .val (.int p1), .unset] [(.int p1)])) rfl (hb hby d2_15) rfl hn1 (cap := 5) hcap (by decide) (by decide) (by decide)
  obtain ⟨b2, g2⟩ : ∃ z, z = h0.size := ⟨_, rfl⟩
  rw [← g2] at A2 st2
  have V2 : Arv Z h2 b2 k2 .byte p1 [] (.int (0 : Int32)) := Arv.new A2 hn1
  refine own_go st2 ?_
  show Rch p e below _ T2 (mkF m 17 #[.val (.ref u0), .val (.int p1), .unset] [(.ref b2)])
  have V0 : Arv Z h2 b2 k2 .byte p1 (List.replicate vs.length (.int (0 : Int32))) (.int (0 : Int32)) := V2.pad (pad_rep [] (.int (0 : Int32)) vs.length)
  have gb : n0 ≤ b2 := Nat.le_trans Z0 (Nat.le_of_eq g2.symm)
  have V1 := V.ext E2
  refine own_go (T := T2) (T' := T2) (f := (mkF m 17 #[.val (.ref u0), .val (.int p1), .unset] [(.ref b2)])) (f' := (mkF m 23 #[.val (.ref u0), .val (.int p1), .val (.ref b2)] [(.ref u0), (.int (0 : Int32)), (.ref b2), (.int (0 : Int32)), (.ref u0)])) (fun t k => ?_) ?_
  · show Steps p.tables e below (T2.setTop (mkF m 17 #[.val (.ref u0), .val (.int p1), .unset] [(.ref b2)])) _
    refine XS.astoreN X2.here hx rfl (hb hby d2_17) rfl rfl (l' := #[.val (.ref u0), .val (.int p1), .val (.ref b2)]) rfl ?_
    show Steps p.tables e below (T2.setTop (mkF m 18 #[.val (.ref u0), .val (.int p1), .val (.ref b2)] [])) _
    refine XS.aloadN X2.here hx rfl (hb hby d2_18) rfl rfl ?_
    show Steps p.tables e below (T2.setTop (mkF m 19 #[.val (.ref u0), .val (.int p1), .val (.ref b2)] [(.ref u0)])) _
    refine XS.iconst X2.here hx rfl (hb hby d2_19) ?_
    show Steps p.tables e below (T2.setTop (mkF m 20 #[.val (.ref u0), .val (.int p1), .val (.ref b2)] [(.int (0 : Int32)), (.ref u0)])) _
    refine XS.aloadN X2.here hx rfl (hb hby d2_20) rfl rfl ?_
    show Steps p.tables e below (T2.setTop (mkF m 21 #[.val (.ref u0), .val (.int p1), .val (.ref b2)] [(.ref b2), (.int (0 : Int32)), (.ref u0)])) _
    refine XS.iconst X2.here hx rfl (hb hby d2_21) ?_
    show Steps p.tables e below (T2.setTop (mkF m 22 #[.val (.ref u0), .val (.int p1), .val (.ref b2)] [(.int (0 : Int32)), (.ref b2), (.int (0 : Int32)), (.ref u0)])) _
    refine XS.aloadN X2.here hx rfl (hb hby d2_22) rfl rfl ?_
    exact k
  obtain ⟨cl3, Ar3, q13, q23, q33, q43, q53⟩ := id V1
  refine own_go (T := T2) (T' := T2) (f := (mkF m 23 #[.val (.ref u0), .val (.int p1), .val (.ref b2)] [(.ref u0), (.int (0 : Int32)), (.ref b2), (.int (0 : Int32)), (.ref u0)])) (f' := (mkF m 24 #[.val (.ref u0), .val (.int p1), .val (.ref b2)] [(.int z), (.int (0 : Int32)), (.ref b2), (.int (0 : Int32)), (.ref u0)])) (fun t k => ?_) ?_
  · refine X2.arraylength hx (by rw [e2]; exact Ar3.1) (State.isArrayOf_alike hZ.alike Ar3.2.1) (g := (mkF m 23 #[.val (.ref u0), .val (.int p1), .val (.ref b2)] [(.ref u0), (.int (0 : Int32)), (.ref b2), (.int (0 : Int32)), (.ref u0)])) rfl rfl (hb hby d2_23) _ ?_
    rw [len_of q23 q33]
    exact k
  refine own_go (T := T2) (T' := T2) (f := (mkF m 24 #[.val (.ref u0), .val (.int p1), .val (.ref b2)] [(.int z), (.int (0 : Int32)), (.ref b2), (.int (0 : Int32)), (.ref u0)])) (f' := (mkF m 25 #[.val (.ref u0), .val (.int p1), .val (.ref b2)] [(.int p1), (.int z), (.int (0 : Int32)), (.ref b2), (.int (0 : Int32)), (.ref u0)])) (fun t k => ?_) ?_
  · show Steps p.tables e below (T2.setTop (mkF m 24 #[.val (.ref u0), .val (.int p1), .val (.ref b2)] [(.int z), (.int (0 : Int32)), (.ref b2), (.int (0 : Int32)), (.ref u0)])) _
    refine XS.iloadN X2.here hx rfl (hb hby d2_24) rfl ?_
    exact k
  obtain ⟨_, _, ⟨T4, L4, k4, n4⟩, -, X4, ⟨Lc4, hQ4, l4, y4, z4⟩, st4⟩ := Jvm.LawKit.callS X2 hx (y := (⟨"java/lang/Math", "min", "(II)I"⟩ : MethodName)) hown (mvT hZ (hw _ (List.mem_of_getElem? (i := 11) rfl))) (mvT hZ (hw _ (List.mem_of_getElem? (i := 12) rfl))) (mvT hZ (hw _ (List.mem_of_getElem? (i := 13) rfl))) (mvT hZ (hw _ (List.mem_of_getElem? (i := 14) rfl))) (by decide) (backOf (W := 4) (rm3 l Z a0 hw [] z p1 h2 n0 (Nat.le_trans Z0 E2.1)) hZ (hw _ (List.mem_of_getElem? (i := 14) rfl)) (hw _ (List.mem_of_getElem? (i := 13) rfl)) (by decide) (by decide)) (g := (mkF m 25 #[.val (.ref u0), .val (.int p1), .val (.ref b2)] [(.int p1), (.int z), (.int (0 : Int32)), (.ref b2), (.int (0 : Int32)), (.ref u0)])) rfl (by rw [hml]; rfl) (argsL := [(.int z), (.int p1)]) (rest := [(.int (0 : Int32)), (.ref b2), (.int (0 : Int32)), (.ref u0)]) (lenOf pd__28II_29I rfl) rfl (by show 2 * 0 + _ ≤ _; exact Nat.le_of_eq rfl) (hb hby d2_25) (fun _ _ => ⟨rfl, e2, (by decide : 1 + 0 ≤ _), (by decide : 5 + 0 ≤ _)⟩)
  dsimp only [Pt.U, Pt.locs, Pt.cells, Pt.slots] at X4 l4 y4 z4 st4 hQ4
  subst l4 y4 z4
  obtain ⟨rfl, N4q, e4⟩ := hQ4
  have N4 := Fr.app N0 N4q
  refine own_go st4 ?_
  show Rch p e below _ T4 (mkF m 28 #[.val (.ref u0), .val (.int p1), .val (.ref b2)] [(.int (own_min z p1)), (.int (0 : Int32)), (.ref b2), (.int (0 : Int32)), (.ref u0)])
  have hmin : own_min z p1 = z := by unfold own_min; exact if_neg fun q => by rw [Int32.lt_iff_toInt_lt] at *; omega
  rw [hmin]
  show Rch p e below _ T4 (mkF m 28 #[.val (.ref u0), .val (.int p1), .val (.ref b2)] [(.int z), (.int (0 : Int32)), (.ref b2), (.int (0 : Int32)), (.ref u0)])
  have hzp : z.toNatClampNeg ≤ p1.toNatClampNeg := by rw [own_nat, own_nat]; rw [Int32.lt_iff_toInt_lt] at hz; omega
  obtain ⟨T5, h5, L5, X5, e5, N5, K5, V5, st5⟩ := cpA X4 hx hZ hown (hw _ (List.mem_of_getElem? (i := 15) rfl)) (hw _ (List.mem_of_getElem? (i := 18) rfl)) (hw _ (List.mem_of_getElem? (i := 16) rfl)) (hw _ (List.mem_of_getElem? (i := 17) rfl)) e4 (sp := (0 : Int32)) (dp := (0 : Int32)) (nn := z) (us := vs) V1 V0 (Or.inl ⟨rfl, rfl⟩) (by decide) (by decide) hn0 (by show 0 + _ ≤ _; omega) (by show 0 + _ ≤ _; omega) (by rw [← hlen]; exact (own_map vs _).symm) (by rw [List.length_replicate, hlen]; show 0 + _ ≤ _; omega) N4 gb (g := (mkF m 28 #[.val (.ref u0), .val (.int p1), .val (.ref b2)] [(.int z), (.int (0 : Int32)), (.ref b2), (.int (0 : Int32)), (.ref u0)])) rfl (by rw [hml]; rfl) rfl (hb hby d2_28) (by decide) (W := 0) (by show 2 * 0 + _ ≤ _; exact Nat.le_of_eq rfl) (by decide)
  refine own_go st5 ?_
  show Rch p e below _ T5 (mkF m 31 #[.val (.ref u0), .val (.int p1), .val (.ref b2)] [])
  have Vf : Arv Z h5 b2 k2 .byte p1 vs (.int (0 : Int32)) := by
    have q := V5
    rw [show (List.take (0 : Int32).toNatClampNeg (List.replicate vs.length (.int (0 : Int32))) ++ vs ++ List.drop ((0 : Int32).toNatClampNeg + z.toNatClampNeg) (List.replicate vs.length (.int (0 : Int32)))) = vs from by
      have e : (0 : Int32).toNatClampNeg = 0 := by decide
      rw [e, ← hlen]
      simp] at q
    exact q
  refine own_go (T := T5) (T' := T5) (f := (mkF m 31 #[.val (.ref u0), .val (.int p1), .val (.ref b2)] [])) (f' := (mkF m 32 #[.val (.ref u0), .val (.int p1), .val (.ref b2)] [(.ref b2)])) (fun t k => ?_) ?_
  · show Steps p.tables e below (T5.setTop (mkF m 31 #[.val (.ref u0), .val (.int p1), .val (.ref b2)] [])) _
    refine XS.aloadN X5.here hx rfl (hb hby d2_31) rfl rfl ?_
    exact k
  exact own_retA X5 hx hlk hret rfl rfl (hb hby d2_32) (by decide) (by decide) (by rw [e5]; exact ⟨b2, k2, rfl, N5, (Nat.le_of_eq g2.symm), (((Keep.refl h0 []).ext E2).trans K5 (allS (Or.inr (Nat.le_of_eq g2.symm)) all0)), Vf⟩)
theorem d1_0 : decode prog_8_method_2_code 0 = .ok (.getstatic 7, 3) := by decide +kernel
theorem d1_3 : decode prog_8_method_2_code 3 = .ok (.iconst 5, 1) := by decide +kernel
theorem d1_4 : decode prog_8_method_2_code 4 = .ok (.invokestatic 13, 3) := by decide +kernel
theorem pd__28_5bBI_29_5bB : parseMethodDescriptor "([BI)[B" = some ⟨[(.array .byte), .int], some (.array .byte)⟩ := by decide +kernel
theorem d1_7 : decode prog_8_method_2_code 7 = .ok (.astore_n 0, 1) := by decide +kernel
theorem d1_8 : decode prog_8_method_2_code 8 = .ok (.aload_n 0, 1) := by decide +kernel
theorem d1_9 : decode prog_8_method_2_code 9 = .ok (.getstatic 7, 3) := by decide +kernel
theorem d1_12 : decode prog_8_method_2_code 12 = .ok (.arraylength, 1) := by decide +kernel
theorem d1_13 : decode prog_8_method_2_code 13 = .ok (.iconst 1, 1) := by decide +kernel
theorem d1_14 : decode prog_8_method_2_code 14 = .ok (.bastore, 1) := by decide +kernel
theorem d1_15 : decode prog_8_method_2_code 15 = .ok (.aload_n 0, 1) := by decide +kernel
theorem d1_16 : decode prog_8_method_2_code 16 = .ok (.areturn, 1) := by decide +kernel
theorem pn_1 : plainName "com/example/leafweight/leafweight/Header" = true := by first | (simp [plainName, overriddenIn]; done) | decide +kernel
theorem ef_1 (m : MethodId)  : entryFrame m #[] 1 = mkF m 0 #[.unset] [] := by first | (simp [entryFrame, mkF, argsToLocals, Value.category]; done) | rfl
def Q1 (Z : State) (mg : Addr) (k : ClassId) (h0 : Heap) (n0 : Nat) (v : Option Value) (h : Heap) (L : List Loc) : Prop := ∃ (b : Addr) (k' : ClassId), v = some (.ref b) ∧ Fr n0 L ∧ h0.size ≤ b ∧ Keep h0 h [] ∧ Arv Z h b k' .byte (5 : Int32) [.int 76, .int 69, .int 65, .int 70, .int 1] (.int (0 : Int32))
set_option maxRecDepth 65536 in
set_option maxHeartbeats 40000000 in
theorem rm1 (l : Launch) (Z : State) (a0 : Array Value) (hw : ∀ d ∈ tables_1, d.before a0 Z = true) (ws : List Jvm.Cond) (mg : Addr) (k : ClassId) (h0 : Heap) (n0 : Nat) (Z0 : n0 ≤ h0.size) (S_M : Sta Z h0 "com/example/leafweight/leafweight/Header" "MAGIC" "[B" (.ref mg)) (V : Arv Z h0 mg k .byte (4 : Int32) [.int 76, .int 69, .int 65, .int 70] (.int (0 : Int32))) :
    MetFree l (⟨"com/example/leafweight/leafweight/Header", "bytes", "()[B"⟩ : MethodName) (head1 (Jvm.Cond.code (⟨"com/example/leafweight/leafweight/Header", "bytes", "()[B"⟩ : MethodName) prog_8_method_2_code 1 (some (.array .byte)) :: ws) ({ frames := 2, cells := 1, slots := 5, locals := 60 } : Room)) (fun a U => a = #[] ∧ Z.Warmed39 U.vm ∧ U.heap = h0) (fun _ _ _ _ _ => True) (fun _ U o U' => ∃ v L, o = .returned v ∧ Q1 Z mg k h0 n0 v U'.heap L ∧ FrameEnd U o U' L ({ frames := 2, cells := 1, slots := 5, locals := 60 } : Room).cells ({ frames := 2, cells := 1, slots := 5, locals := 60 } : Room).slots) := by
  refine MetFree.of_bodySF (plainFor_of_name pn_1) hisR ?_
  intro p e s m args below meth c s₁ Bd hml0 hP hK
  obtain ⟨rfl, hZ, hh⟩ := hP
  have hx := Bd.exec
  have hby := Bd.bytes
  have hlk := Bd.notSynchronized
  have hret := Bd.returns
  have hml : c.maxLocals = 1 := hml0
  have hown : s.vm.findClass "com/example/leafweight/leafweight/Header" = some m.cls := findClass_of_methodNamed Bd.named
  have hnm := (name_of_methodNamed Bd.named Bd.method).1
  have X0 : Stand p l e ({ frames := 2, cells := 1, slots := 5, locals := 60 } : Room) s m #[] below meth c s₁ [] 0 0 := Stand.of_body Bd
  have e0 : s₁.heap = h0 := by rw [← hh, Bd.state]; rfl
  have N0 := Fr.nil n0
  suffices G0 : Rch p e below (Gd s (Q1 Z mg k h0 n0) ({ frames := 2, cells := 1, slots := 5, locals := 60 } : Room).cells ({ frames := 2, cells := 1, slots := 5, locals := 60 } : Room).slots) s₁ (mkF m 0 #[.unset] []) by
    obtain ⟨s₂, o, r1, r2, r3, r4⟩ := G0
    exact ⟨s₂, o, castTop (ef_1 m ) r1, r2, r3, r4⟩
  obtain ⟨T6, X6, e6, st6⟩ := getS2 X0 hx hZ hown (host := "") (Or.inl (hw _ (List.mem_of_getElem? (i := 4) rfl))) Via.refl e0 S_M (g := (mkF m 0 #[.unset] [])) rfl (hb hby d1_0)
  refine own_go st6 ?_
  show Rch p e below _ T6 (mkF m 3 #[.unset] [(.ref mg)])
  refine own_go (T := T6) (T' := T6) (f := (mkF m 3 #[.unset] [(.ref mg)])) (f' := (mkF m 4 #[.unset] [(.int (5 : Int32)), (.ref mg)])) (fun t k => ?_) ?_
  · show Steps p.tables e below (T6.setTop (mkF m 3 #[.unset] [(.ref mg)])) _
    refine XS.iconst X6.here hx rfl (hb hby d1_3) ?_
    exact k
  obtain ⟨_, _, ⟨T7, L7, k7, n7⟩, -, X7, ⟨Lc7, hQ7, l7, y7, z7⟩, st7⟩ := Jvm.LawKit.callS X6 hx (y := (⟨"java/util/Arrays", "copyOf", "([BI)[B"⟩ : MethodName)) hown (mvT hZ (hw _ (List.mem_of_getElem? (i := 6) rfl))) (mvT hZ (hw _ (List.mem_of_getElem? (i := 7) rfl))) (mvT hZ (hw _ (List.mem_of_getElem? (i := 8) rfl))) (mvT hZ (hw _ (List.mem_of_getElem? (i := 9) rfl))) (by decide) (backOf (W := 0) (rm2 l Z a0 hw [] mg (5 : Int32) k (4 : Int32) [.int 76, .int 69, .int 65, .int 70] h0 n0 Z0 V rfl (by decide) (by decide)) hZ (hw _ (List.mem_of_getElem? (i := 9) rfl)) (hw _ (List.mem_of_getElem? (i := 8) rfl)) (by decide) (by decide)) (g := (mkF m 4 #[.unset] [(.int (5 : Int32)), (.ref mg)])) rfl (by rw [hml]; rfl) (argsL := [(.ref mg), (.int (5 : Int32))]) (rest := []) (lenOf pd__28_5bBI_29_5bB rfl) rfl (by show 2 * 0 + _ ≤ _; exact Nat.le_of_eq rfl) (hb hby d1_4) (fun _ _ => ⟨rfl, e6, (by decide : 0 + 1 ≤ _), (by decide : 0 + 5 ≤ _)⟩)
  dsimp only [Pt.U, Pt.locs, Pt.cells, Pt.slots] at X7 l7 y7 z7 st7 hQ7
  subst l7 y7 z7
  obtain ⟨b7, k7', rfl, N7q, sz7, K7, V7⟩ := hQ7
  have N7 := Fr.app N0 N7q
  refine own_go st7 ?_
  show Rch p e below _ T7 (mkF m 7 #[.unset] [(.ref b7)])
  have gb : n0 ≤ b7 := Nat.le_trans Z0 sz7
  have S1 := own_sta S_M K7
  have V1 := V.keep K7 nin0
  have V2 : Arv Z T7.heap b7 k7' .byte (5 : Int32) [.int 76, .int 69, .int 65, .int 70, (.int (0 : Int32))] (.int (0 : Int32)) := V7.pad (pad_rep [.int 76, .int 69, .int 65, .int 70] (.int (0 : Int32)) 1)
  refine own_go (T := T7) (T' := T7) (f := (mkF m 7 #[.unset] [(.ref b7)])) (f' := (mkF m 9 #[.val (.ref b7)] [(.ref b7)])) (fun t k => ?_) ?_
  · show Steps p.tables e below (T7.setTop (mkF m 7 #[.unset] [(.ref b7)])) _
    refine XS.astoreN X7.here hx rfl (hb hby d1_7) rfl rfl (l' := #[.val (.ref b7)]) rfl ?_
    show Steps p.tables e below (T7.setTop (mkF m 8 #[.val (.ref b7)] [])) _
    refine XS.aloadN X7.here hx rfl (hb hby d1_8) rfl rfl ?_
    exact k
  obtain ⟨T8, X8, e8, st8⟩ := getS2 X7 hx hZ hown (host := "") (Or.inl (hw _ (List.mem_of_getElem? (i := 4) rfl))) Via.refl rfl S1 (g := (mkF m 9 #[.val (.ref b7)] [(.ref b7)])) rfl (hb hby d1_9)
  refine own_go st8 ?_
  show Rch p e below _ T8 (mkF m 12 #[.val (.ref b7)] [(.ref mg), (.ref b7)])
  obtain ⟨cl9, Ar9, q19, q29, q39, q49, q59⟩ := id V1
  refine own_go (T := T8) (T' := T8) (f := (mkF m 12 #[.val (.ref b7)] [(.ref mg), (.ref b7)])) (f' := (mkF m 13 #[.val (.ref b7)] [(.int (4 : Int32)), (.ref b7)])) (fun t k => ?_) ?_
  · refine X8.arraylength hx (by rw [e8]; exact Ar9.1) (State.isArrayOf_alike hZ.alike Ar9.2.1) (g := (mkF m 12 #[.val (.ref b7)] [(.ref mg), (.ref b7)])) rfl rfl (hb hby d1_12) _ ?_
    rw [len_of q29 q39]
    exact k
  refine own_go (T := T8) (T' := T8) (f := (mkF m 13 #[.val (.ref b7)] [(.int (4 : Int32)), (.ref b7)])) (f' := (mkF m 14 #[.val (.ref b7)] [(.int (1 : Int32)), (.int (4 : Int32)), (.ref b7)])) (fun t k => ?_) ?_
  · show Steps p.tables e below (T8.setTop (mkF m 13 #[.val (.ref b7)] [(.int (4 : Int32)), (.ref b7)])) _
    refine XS.iconst X8.here hx rfl (hb hby d1_13) ?_
    exact k
  obtain ⟨cl10, Ar10, q110, q210, q310, q410, q510⟩ := id V2
  have hin10 : ¬ ((4 : Int32) < 0 ∨ cl10.slots.size ≤ ((4 : Int32)).toNatClampNeg) := inb_of q210 ⟨by decide, by decide⟩
  obtain ⟨T10, h10, X10, e10, W10, st10⟩ := stB X8 hx hZ e8 Ar10 (j := (4 : Int32)) hin10 (g := (mkF m 14 #[.val (.ref b7)] [(.int (1 : Int32)), (.int (4 : Int32)), (.ref b7)])) rfl rfl (hb hby d1_14)
  have V10 := Arv.set Ar10 q110 q210 q310 q410 q510 (fits_nar_byte _) W10 4 rfl (Nat.le_of_ble_eq_true rfl)
  have N10 := Fr.snoc X10 N7 gb
  refine own_go st10 ?_
  show Rch p e below _ T10 (mkF m 15 #[.val (.ref b7)] [])
  refine own_go (T := T10) (T' := T10) (f := (mkF m 15 #[.val (.ref b7)] [])) (f' := (mkF m 16 #[.val (.ref b7)] [(.ref b7)])) (fun t k => ?_) ?_
  · show Steps p.tables e below (T10.setTop (mkF m 15 #[.val (.ref b7)] [])) _
    refine XS.aloadN X10.here hx rfl (hb hby d1_15) rfl rfl ?_
    exact k
  exact own_retA X10 hx hlk hret rfl rfl (hb hby d1_16) (by decide) (by decide) (by rw [e10]; exact ⟨b7, k7', rfl, N10, sz7, (K7.wr W10 (Or.inr sz7)), V10⟩)
theorem d4_0 : decode method_2_code 0 = .ok (.aload_n 0, 1) := by decide +kernel
theorem d4_1 : decode method_2_code 1 = .ok (.ifnull 52, 3) := by decide +kernel
theorem d4_4 : decode method_2_code 4 = .ok (.aload_n 0, 1) := by decide +kernel
theorem d4_5 : decode method_2_code 5 = .ok (.arraylength, 1) := by decide +kernel
theorem d4_6 : decode method_2_code 6 = .ok (.iconst 5, 1) := by decide +kernel
theorem d4_7 : decode method_2_code 7 = .ok (.if_icmp .ne 46, 3) := by decide +kernel
theorem d4_10 : decode method_2_code 10 = .ok (.aload_n 0, 1) := by decide +kernel
theorem d4_11 : decode method_2_code 11 = .ok (.iconst 0, 1) := by decide +kernel
theorem d4_12 : decode method_2_code 12 = .ok (.baload, 1) := by decide +kernel
theorem d4_13 : decode method_2_code 13 = .ok (.bipush 76, 2) := by decide +kernel
theorem d4_15 : decode method_2_code 15 = .ok (.if_icmp .ne 38, 3) := by decide +kernel
theorem d4_18 : decode method_2_code 18 = .ok (.aload_n 0, 1) := by decide +kernel
theorem d4_19 : decode method_2_code 19 = .ok (.iconst 1, 1) := by decide +kernel
theorem d4_20 : decode method_2_code 20 = .ok (.baload, 1) := by decide +kernel
theorem d4_21 : decode method_2_code 21 = .ok (.bipush 69, 2) := by decide +kernel
theorem d4_23 : decode method_2_code 23 = .ok (.if_icmp .ne 30, 3) := by decide +kernel
theorem d4_26 : decode method_2_code 26 = .ok (.aload_n 0, 1) := by decide +kernel
theorem d4_27 : decode method_2_code 27 = .ok (.iconst 2, 1) := by decide +kernel
theorem d4_28 : decode method_2_code 28 = .ok (.baload, 1) := by decide +kernel
theorem d4_29 : decode method_2_code 29 = .ok (.bipush 65, 2) := by decide +kernel
theorem d4_31 : decode method_2_code 31 = .ok (.if_icmp .ne 22, 3) := by decide +kernel
theorem d4_34 : decode method_2_code 34 = .ok (.aload_n 0, 1) := by decide +kernel
theorem d4_35 : decode method_2_code 35 = .ok (.iconst 3, 1) := by decide +kernel
theorem d4_36 : decode method_2_code 36 = .ok (.baload, 1) := by decide +kernel
theorem d4_37 : decode method_2_code 37 = .ok (.bipush 70, 2) := by decide +kernel
theorem d4_39 : decode method_2_code 39 = .ok (.if_icmp .ne 14, 3) := by decide +kernel
theorem d4_42 : decode method_2_code 42 = .ok (.aload_n 0, 1) := by decide +kernel
theorem d4_43 : decode method_2_code 43 = .ok (.iconst 4, 1) := by decide +kernel
theorem d4_44 : decode method_2_code 44 = .ok (.baload, 1) := by decide +kernel
theorem d4_45 : decode method_2_code 45 = .ok (.iconst 1, 1) := by decide +kernel
theorem d4_46 : decode method_2_code 46 = .ok (.if_icmp .ne 7, 3) := by decide +kernel
theorem d4_49 : decode method_2_code 49 = .ok (.iconst 1, 1) := by decide +kernel
theorem d4_50 : decode method_2_code 50 = .ok (.goto 4, 3) := by decide +kernel
theorem d4_54 : decode method_2_code 54 = .ok (.ireturn, 1) := by decide +kernel
theorem pn_4 : plainName "com/example/leafweight/leafweight/HeaderBytesPinLaw" = true := by first | (simp [plainName, overriddenIn]; done) | decide +kernel
theorem ef_4 (m : MethodId) (x0 : Addr) : entryFrame m #[(.ref x0)] 1 = mkF m 0 #[.val (.ref x0)] [] := by first | (simp [entryFrame, mkF, argsToLocals, Value.category]; done) | rfl
def Q4 (Z : State) (u0 : Addr) (k : ClassId) (h0 : Heap) (n0 : Nat) (v : Option Value) (h : Heap) (L : List Loc) : Prop := v = some (.int 1) ∧ Fr n0 L ∧ h = h0
set_option maxRecDepth 65536 in
set_option maxHeartbeats 40000000 in
theorem rm4 (l : Launch) (Z : State) (a0 : Array Value) (hw : ∀ d ∈ tables_1, d.before a0 Z = true) (ws : List Jvm.Cond) (u0 : Addr) (k : ClassId) (h0 : Heap) (n0 : Nat) (Z0 : n0 ≤ h0.size) (V : Arv Z h0 u0 k .byte (5 : Int32) [.int 76, .int 69, .int 65, .int 70, .int 1] (.int (0 : Int32))) :
    MetFree l (⟨"com/example/leafweight/leafweight/HeaderBytesPinLaw", "isHeader", "([B)Z"⟩ : MethodName) (head1 (Jvm.Cond.code (⟨"com/example/leafweight/leafweight/HeaderBytesPinLaw", "isHeader", "([B)Z"⟩ : MethodName) method_2_code 1 (some .boolean) :: ws) ({ frames := 0, cells := 0, slots := 0, locals := 0 } : Room)) (fun a U => a = #[(.ref u0)] ∧ Z.Warmed39 U.vm ∧ U.heap = h0) (fun _ _ _ _ _ => True) (fun _ U o U' => ∃ v L, o = .returned v ∧ Q4 Z u0 k h0 n0 v U'.heap L ∧ FrameEnd U o U' L ({ frames := 0, cells := 0, slots := 0, locals := 0 } : Room).cells ({ frames := 0, cells := 0, slots := 0, locals := 0 } : Room).slots) := by
  refine MetFree.of_bodySF (plainFor_of_name pn_4) hisR ?_
  intro p e s m args below meth c s₁ Bd hml0 hP hK
  obtain ⟨rfl, hZ, hh⟩ := hP
  have hx := Bd.exec
  have hby := Bd.bytes
  have hlk := Bd.notSynchronized
  have hret := Bd.returns
  have hml : c.maxLocals = 1 := hml0
  have hown : s.vm.findClass "com/example/leafweight/leafweight/HeaderBytesPinLaw" = some m.cls := findClass_of_methodNamed Bd.named
  have hnm := (name_of_methodNamed Bd.named Bd.method).1
  have X0 : Stand p l e ({ frames := 0, cells := 0, slots := 0, locals := 0 } : Room) s m #[(.ref u0)] below meth c s₁ [] 0 0 := Stand.of_body Bd
  have e0 : s₁.heap = h0 := by rw [← hh, Bd.state]; rfl
  have N0 := Fr.nil n0
  suffices G0 : Rch p e below (Gd s (Q4 Z u0 k h0 n0) ({ frames := 0, cells := 0, slots := 0, locals := 0 } : Room).cells ({ frames := 0, cells := 0, slots := 0, locals := 0 } : Room).slots) s₁ (mkF m 0 #[.val (.ref u0)] []) by
    obtain ⟨s₂, o, r1, r2, r3, r4⟩ := G0
    exact ⟨s₂, o, castTop (ef_4 m u0) r1, r2, r3, r4⟩
  refine own_go (T := s₁) (T' := s₁) (f := (mkF m 0 #[.val (.ref u0)] [])) (f' := (mkF m 1 #[.val (.ref u0)] [(.ref u0)])) (fun t k => ?_) ?_
  · show Steps p.tables e below (s₁.setTop (mkF m 0 #[.val (.ref u0)] [])) _
    refine XS.aloadN X0.here hx rfl (hb hby d4_0) rfl rfl ?_
    exact k
  refine own_go (T := s₁) (T' := s₁) (f := (mkF m 1 #[.val (.ref u0)] [(.ref u0)])) (f' := (mkF m 4 #[.val (.ref u0)] [])) (fun t k => ?_) ?_
  · show Steps p.tables e below (s₁.setTop (mkF m 1 #[.val (.ref u0)] [(.ref u0)])) _
    refine XS.ifnullNo X0.here hx rfl (hb hby d4_1) rfl ?_
    exact k
  refine own_go (T := s₁) (T' := s₁) (f := (mkF m 4 #[.val (.ref u0)] [])) (f' := (mkF m 5 #[.val (.ref u0)] [(.ref u0)])) (fun t k => ?_) ?_
  · show Steps p.tables e below (s₁.setTop (mkF m 4 #[.val (.ref u0)] [])) _
    refine XS.aloadN X0.here hx rfl (hb hby d4_4) rfl rfl ?_
    exact k
  obtain ⟨cl11, Ar11, q111, q211, q311, q411, q511⟩ := id V
  refine own_go (T := s₁) (T' := s₁) (f := (mkF m 5 #[.val (.ref u0)] [(.ref u0)])) (f' := (mkF m 6 #[.val (.ref u0)] [(.int (5 : Int32))])) (fun t k => ?_) ?_
  · refine X0.arraylength hx (by rw [e0]; exact Ar11.1) (State.isArrayOf_alike hZ.alike Ar11.2.1) (g := (mkF m 5 #[.val (.ref u0)] [(.ref u0)])) rfl rfl (hb hby d4_5) _ ?_
    rw [len_of q211 q311]
    exact k
  refine own_go (T := s₁) (T' := s₁) (f := (mkF m 6 #[.val (.ref u0)] [(.int (5 : Int32))])) (f' := (mkF m 7 #[.val (.ref u0)] [(.int (5 : Int32)), (.int (5 : Int32))])) (fun t k => ?_) ?_
  · show Steps p.tables e below (s₁.setTop (mkF m 6 #[.val (.ref u0)] [(.int (5 : Int32))])) _
    refine XS.iconst X0.here hx rfl (hb hby d4_6) ?_
    exact k
  refine own_go (T := s₁) (T' := s₁) (f := (mkF m 7 #[.val (.ref u0)] [(.int (5 : Int32)), (.int (5 : Int32))])) (f' := (mkF m 10 #[.val (.ref u0)] [])) (fun t k => ?_) ?_
  · show Steps p.tables e below (s₁.setTop (mkF m 7 #[.val (.ref u0)] [(.int (5 : Int32)), (.int (5 : Int32))])) _
    refine XS.icmpNo X0.here hx rfl (hb hby d4_7) rfl (teq rfl).2 ?_
    exact k
  refine own_go (T := s₁) (T' := s₁) (f := (mkF m 10 #[.val (.ref u0)] [])) (f' := (mkF m 12 #[.val (.ref u0)] [(.int (0 : Int32)), (.ref u0)])) (fun t k => ?_) ?_
  · show Steps p.tables e below (s₁.setTop (mkF m 10 #[.val (.ref u0)] [])) _
    refine XS.aloadN X0.here hx rfl (hb hby d4_10) rfl rfl ?_
    show Steps p.tables e below (s₁.setTop (mkF m 11 #[.val (.ref u0)] [(.ref u0)])) _
    refine XS.iconst X0.here hx rfl (hb hby d4_11) ?_
    exact k
  obtain ⟨cl12, Ar12, q112, q212, q312, q412, q512⟩ := id V
  have hin12 : ¬ ((0 : Int32) < 0 ∨ cl12.slots.size ≤ ((0 : Int32)).toNatClampNeg) := inb_of q212 ⟨by decide, by decide⟩
  refine own_go (f' := (mkF m 13 #[.val (.ref u0)] [(.int (76 : Int32))])) (X0.baloadBytes hx (j := (0 : Int32)) (v := (.int (76 : Int32))) (by rw [e0]; exact Ar12.1) (State.isArrayOf_alike hZ.alike Ar12.2.1) Ar12.2.2 hin12 (Has.at q412 hin12 rfl) (g := (mkF m 12 #[.val (.ref u0)] [(.int (0 : Int32)), (.ref u0)])) rfl rfl (hb hby d4_12)) ?_
  show Rch p e below _ s₁ (mkF m 13 #[.val (.ref u0)] [(.int (76 : Int32))])
  refine own_go (T := s₁) (T' := s₁) (f := (mkF m 13 #[.val (.ref u0)] [(.int (76 : Int32))])) (f' := (mkF m 15 #[.val (.ref u0)] [(.int (76 : Int32)), (.int (76 : Int32))])) (fun t k => ?_) ?_
  · show Steps p.tables e below (s₁.setTop (mkF m 13 #[.val (.ref u0)] [(.int (76 : Int32))])) _
    refine XS.bipush X0.here hx rfl (hb hby d4_13) ?_
    exact k
  refine own_go (T := s₁) (T' := s₁) (f := (mkF m 15 #[.val (.ref u0)] [(.int (76 : Int32)), (.int (76 : Int32))])) (f' := (mkF m 18 #[.val (.ref u0)] [])) (fun t k => ?_) ?_
  · show Steps p.tables e below (s₁.setTop (mkF m 15 #[.val (.ref u0)] [(.int (76 : Int32)), (.int (76 : Int32))])) _
    refine XS.icmpNo X0.here hx rfl (hb hby d4_15) rfl (teq rfl).2 ?_
    exact k
  refine own_go (T := s₁) (T' := s₁) (f := (mkF m 18 #[.val (.ref u0)] [])) (f' := (mkF m 20 #[.val (.ref u0)] [(.int (1 : Int32)), (.ref u0)])) (fun t k => ?_) ?_
  · show Steps p.tables e below (s₁.setTop (mkF m 18 #[.val (.ref u0)] [])) _
    refine XS.aloadN X0.here hx rfl (hb hby d4_18) rfl rfl ?_
    show Steps p.tables e below (s₁.setTop (mkF m 19 #[.val (.ref u0)] [(.ref u0)])) _
    refine XS.iconst X0.here hx rfl (hb hby d4_19) ?_
    exact k
  obtain ⟨cl13, Ar13, q113, q213, q313, q413, q513⟩ := id V
  have hin13 : ¬ ((1 : Int32) < 0 ∨ cl13.slots.size ≤ ((1 : Int32)).toNatClampNeg) := inb_of q213 ⟨by decide, by decide⟩
  refine own_go (f' := (mkF m 21 #[.val (.ref u0)] [(.int (69 : Int32))])) (X0.baloadBytes hx (j := (1 : Int32)) (v := (.int (69 : Int32))) (by rw [e0]; exact Ar13.1) (State.isArrayOf_alike hZ.alike Ar13.2.1) Ar13.2.2 hin13 (Has.at q413 hin13 rfl) (g := (mkF m 20 #[.val (.ref u0)] [(.int (1 : Int32)), (.ref u0)])) rfl rfl (hb hby d4_20)) ?_
  show Rch p e below _ s₁ (mkF m 21 #[.val (.ref u0)] [(.int (69 : Int32))])
  refine own_go (T := s₁) (T' := s₁) (f := (mkF m 21 #[.val (.ref u0)] [(.int (69 : Int32))])) (f' := (mkF m 23 #[.val (.ref u0)] [(.int (69 : Int32)), (.int (69 : Int32))])) (fun t k => ?_) ?_
  · show Steps p.tables e below (s₁.setTop (mkF m 21 #[.val (.ref u0)] [(.int (69 : Int32))])) _
    refine XS.bipush X0.here hx rfl (hb hby d4_21) ?_
    exact k
  refine own_go (T := s₁) (T' := s₁) (f := (mkF m 23 #[.val (.ref u0)] [(.int (69 : Int32)), (.int (69 : Int32))])) (f' := (mkF m 26 #[.val (.ref u0)] [])) (fun t k => ?_) ?_
  · show Steps p.tables e below (s₁.setTop (mkF m 23 #[.val (.ref u0)] [(.int (69 : Int32)), (.int (69 : Int32))])) _
    refine XS.icmpNo X0.here hx rfl (hb hby d4_23) rfl (teq rfl).2 ?_
    exact k
  refine own_go (T := s₁) (T' := s₁) (f := (mkF m 26 #[.val (.ref u0)] [])) (f' := (mkF m 28 #[.val (.ref u0)] [(.int (2 : Int32)), (.ref u0)])) (fun t k => ?_) ?_
  · show Steps p.tables e below (s₁.setTop (mkF m 26 #[.val (.ref u0)] [])) _
    refine XS.aloadN X0.here hx rfl (hb hby d4_26) rfl rfl ?_
    show Steps p.tables e below (s₁.setTop (mkF m 27 #[.val (.ref u0)] [(.ref u0)])) _
    refine XS.iconst X0.here hx rfl (hb hby d4_27) ?_
    exact k
  obtain ⟨cl14, Ar14, q114, q214, q314, q414, q514⟩ := id V
  have hin14 : ¬ ((2 : Int32) < 0 ∨ cl14.slots.size ≤ ((2 : Int32)).toNatClampNeg) := inb_of q214 ⟨by decide, by decide⟩
  refine own_go (f' := (mkF m 29 #[.val (.ref u0)] [(.int (65 : Int32))])) (X0.baloadBytes hx (j := (2 : Int32)) (v := (.int (65 : Int32))) (by rw [e0]; exact Ar14.1) (State.isArrayOf_alike hZ.alike Ar14.2.1) Ar14.2.2 hin14 (Has.at q414 hin14 rfl) (g := (mkF m 28 #[.val (.ref u0)] [(.int (2 : Int32)), (.ref u0)])) rfl rfl (hb hby d4_28)) ?_
  show Rch p e below _ s₁ (mkF m 29 #[.val (.ref u0)] [(.int (65 : Int32))])
  refine own_go (T := s₁) (T' := s₁) (f := (mkF m 29 #[.val (.ref u0)] [(.int (65 : Int32))])) (f' := (mkF m 31 #[.val (.ref u0)] [(.int (65 : Int32)), (.int (65 : Int32))])) (fun t k => ?_) ?_
  · show Steps p.tables e below (s₁.setTop (mkF m 29 #[.val (.ref u0)] [(.int (65 : Int32))])) _
    refine XS.bipush X0.here hx rfl (hb hby d4_29) ?_
    exact k
  refine own_go (T := s₁) (T' := s₁) (f := (mkF m 31 #[.val (.ref u0)] [(.int (65 : Int32)), (.int (65 : Int32))])) (f' := (mkF m 34 #[.val (.ref u0)] [])) (fun t k => ?_) ?_
  · show Steps p.tables e below (s₁.setTop (mkF m 31 #[.val (.ref u0)] [(.int (65 : Int32)), (.int (65 : Int32))])) _
    refine XS.icmpNo X0.here hx rfl (hb hby d4_31) rfl (teq rfl).2 ?_
    exact k
  refine own_go (T := s₁) (T' := s₁) (f := (mkF m 34 #[.val (.ref u0)] [])) (f' := (mkF m 36 #[.val (.ref u0)] [(.int (3 : Int32)), (.ref u0)])) (fun t k => ?_) ?_
  · show Steps p.tables e below (s₁.setTop (mkF m 34 #[.val (.ref u0)] [])) _
    refine XS.aloadN X0.here hx rfl (hb hby d4_34) rfl rfl ?_
    show Steps p.tables e below (s₁.setTop (mkF m 35 #[.val (.ref u0)] [(.ref u0)])) _
    refine XS.iconst X0.here hx rfl (hb hby d4_35) ?_
    exact k
  obtain ⟨cl15, Ar15, q115, q215, q315, q415, q515⟩ := id V
  have hin15 : ¬ ((3 : Int32) < 0 ∨ cl15.slots.size ≤ ((3 : Int32)).toNatClampNeg) := inb_of q215 ⟨by decide, by decide⟩
  refine own_go (f' := (mkF m 37 #[.val (.ref u0)] [(.int (70 : Int32))])) (X0.baloadBytes hx (j := (3 : Int32)) (v := (.int (70 : Int32))) (by rw [e0]; exact Ar15.1) (State.isArrayOf_alike hZ.alike Ar15.2.1) Ar15.2.2 hin15 (Has.at q415 hin15 rfl) (g := (mkF m 36 #[.val (.ref u0)] [(.int (3 : Int32)), (.ref u0)])) rfl rfl (hb hby d4_36)) ?_
  show Rch p e below _ s₁ (mkF m 37 #[.val (.ref u0)] [(.int (70 : Int32))])
  refine own_go (T := s₁) (T' := s₁) (f := (mkF m 37 #[.val (.ref u0)] [(.int (70 : Int32))])) (f' := (mkF m 39 #[.val (.ref u0)] [(.int (70 : Int32)), (.int (70 : Int32))])) (fun t k => ?_) ?_
  · show Steps p.tables e below (s₁.setTop (mkF m 37 #[.val (.ref u0)] [(.int (70 : Int32))])) _
    refine XS.bipush X0.here hx rfl (hb hby d4_37) ?_
    exact k
  refine own_go (T := s₁) (T' := s₁) (f := (mkF m 39 #[.val (.ref u0)] [(.int (70 : Int32)), (.int (70 : Int32))])) (f' := (mkF m 42 #[.val (.ref u0)] [])) (fun t k => ?_) ?_
  · show Steps p.tables e below (s₁.setTop (mkF m 39 #[.val (.ref u0)] [(.int (70 : Int32)), (.int (70 : Int32))])) _
    refine XS.icmpNo X0.here hx rfl (hb hby d4_39) rfl (teq rfl).2 ?_
    exact k
  refine own_go (T := s₁) (T' := s₁) (f := (mkF m 42 #[.val (.ref u0)] [])) (f' := (mkF m 44 #[.val (.ref u0)] [(.int (4 : Int32)), (.ref u0)])) (fun t k => ?_) ?_
  · show Steps p.tables e below (s₁.setTop (mkF m 42 #[.val (.ref u0)] [])) _
    refine XS.aloadN X0.here hx rfl (hb hby d4_42) rfl rfl ?_
    show Steps p.tables e below (s₁.setTop (mkF m 43 #[.val (.ref u0)] [(.ref u0)])) _
    refine XS.iconst X0.here hx rfl (hb hby d4_43) ?_
    exact k
  obtain ⟨cl16, Ar16, q116, q216, q316, q416, q516⟩ := id V
  have hin16 : ¬ ((4 : Int32) < 0 ∨ cl16.slots.size ≤ ((4 : Int32)).toNatClampNeg) := inb_of q216 ⟨by decide, by decide⟩
  refine own_go (f' := (mkF m 45 #[.val (.ref u0)] [(.int (1 : Int32))])) (X0.baloadBytes hx (j := (4 : Int32)) (v := (.int (1 : Int32))) (by rw [e0]; exact Ar16.1) (State.isArrayOf_alike hZ.alike Ar16.2.1) Ar16.2.2 hin16 (Has.at q416 hin16 rfl) (g := (mkF m 44 #[.val (.ref u0)] [(.int (4 : Int32)), (.ref u0)])) rfl rfl (hb hby d4_44)) ?_
  show Rch p e below _ s₁ (mkF m 45 #[.val (.ref u0)] [(.int (1 : Int32))])
  refine own_go (T := s₁) (T' := s₁) (f := (mkF m 45 #[.val (.ref u0)] [(.int (1 : Int32))])) (f' := (mkF m 46 #[.val (.ref u0)] [(.int (1 : Int32)), (.int (1 : Int32))])) (fun t k => ?_) ?_
  · show Steps p.tables e below (s₁.setTop (mkF m 45 #[.val (.ref u0)] [(.int (1 : Int32))])) _
    refine XS.iconst X0.here hx rfl (hb hby d4_45) ?_
    exact k
  refine own_go (T := s₁) (T' := s₁) (f := (mkF m 46 #[.val (.ref u0)] [(.int (1 : Int32)), (.int (1 : Int32))])) (f' := (mkF m 49 #[.val (.ref u0)] [])) (fun t k => ?_) ?_
  · show Steps p.tables e below (s₁.setTop (mkF m 46 #[.val (.ref u0)] [(.int (1 : Int32)), (.int (1 : Int32))])) _
    refine XS.icmpNo X0.here hx rfl (hb hby d4_46) rfl (teq rfl).2 ?_
    exact k
  refine own_go (T := s₁) (T' := s₁) (f := (mkF m 49 #[.val (.ref u0)] [])) (f' := (mkF m 54 #[.val (.ref u0)] [(.int (1 : Int32))])) (fun t k => ?_) ?_
  · show Steps p.tables e below (s₁.setTop (mkF m 49 #[.val (.ref u0)] [])) _
    refine XS.iconst X0.here hx rfl (hb hby d4_49) ?_
    show Steps p.tables e below (s₁.setTop (mkF m 50 #[.val (.ref u0)] [(.int (1 : Int32))])) _
    refine XS.goto X0.here hx rfl (pc0 := 50) (pc' := 54) rfl (hb hby d4_50) (by decide) (by decide) ?_
    exact k
  exact own_retN X0 hx hlk (t := .boolean) (w := (1 : Int32)) hret (by simp) (hb hby d4_54) rfl (by decide) (by decide) (by rw [e0]; exact ⟨rfl, N0, rfl⟩)
theorem pd__28_29_5bB : parseMethodDescriptor "()[B" = some ⟨[], some (.array .byte)⟩ := by decide +kernel
theorem pd__28_5bB_29Z : parseMethodDescriptor "([B)Z" = some ⟨[(.array .byte)], some .boolean⟩ := by decide +kernel
theorem pn_0 : plainName "com/example/leafweight/leafweight/HeaderBytesPinLaw" = true := by first | (simp [plainName, overriddenIn]; done) | decide +kernel
theorem ef_0 (m : MethodId) (x0 : Int32) (x1 : Int32) : entryFrame m #[(.int x0), (.int x1)] maxLocals = mkF m 0 #[.val (.int x0), .val (.int x1), .unset, .unset] [] := by first | (simp [entryFrame, mkF, argsToLocals, Value.category, maxLocals]; done) | rfl
def Q0 (Z : State) (p0 : Int32) (p1 : Int32) (mg : Addr) (k : ClassId) (h0 : Heap) (n0 : Nat) (v : Option Value) (h : Heap) (L : List Loc) : Prop := v = some (.int 1) ∧ Fr n0 L
set_option maxRecDepth 65536 in
set_option maxHeartbeats 40000000 in
theorem rm0 (l : Launch) (Z : State) (a0 : Array Value) (hw : ∀ d ∈ tables_1, d.before a0 Z = true) (ws : List Jvm.Cond) (p0 : Int32) (p1 : Int32) (mg : Addr) (k : ClassId) (h0 : Heap) (n0 : Nat) (Z0 : n0 ≤ h0.size) (S_M : Sta Z h0 "com/example/leafweight/leafweight/Header" "MAGIC" "[B" (.ref mg)) (V : Arv Z h0 mg k .byte (4 : Int32) [.int 76, .int 69, .int 65, .int 70] (.int (0 : Int32))) :
    MetFree l x (head1 (Jvm.Cond.code x code maxLocals ret :: ws) room_1) (fun a U => a = #[(.int p0), (.int p1)] ∧ Z.Warmed39 U.vm ∧ U.heap = h0) (fun _ _ _ _ _ => True) (fun _ U o U' => ∃ v L, o = .returned v ∧ Q0 Z p0 p1 mg k h0 n0 v U'.heap L ∧ FrameEnd U o U' L room_1.cells room_1.slots) := by
  refine MetFree.of_bodySF (plainFor_of_name pn_0) hisR ?_
  intro p e s m args below meth c s₁ Bd hml0 hP hK
  obtain ⟨rfl, hZ, hh⟩ := hP
  have hx := Bd.exec
  have hby := Bd.bytes
  have hlk := Bd.notSynchronized
  have hret := Bd.returns
  have hml : c.maxLocals = 4 := hml0
  have hown : s.vm.findClass "com/example/leafweight/leafweight/HeaderBytesPinLaw" = some m.cls := findClass_of_methodNamed Bd.named
  have hnm := (name_of_methodNamed Bd.named Bd.method).1
  have X0 : Stand p l e room_1 s m #[(.int p0), (.int p1)] below meth c s₁ [] 0 0 := Stand.of_body Bd
  have e0 : s₁.heap = h0 := by rw [← hh, Bd.state]; rfl
  have N0 := Fr.nil n0
  suffices G0 : Rch p e below (Gd s (Q0 Z p0 p1 mg k h0 n0) room_1.cells room_1.slots) s₁ (mkF m 0 #[.val (.int p0), .val (.int p1), .unset, .unset] []) by
    obtain ⟨s₂, o, r1, r2, r3, r4⟩ := G0
    exact ⟨s₂, o, castTop (ef_0 m p0 p1) r1, r2, r3, r4⟩
  obtain ⟨_, _, ⟨T17, L17, k17, n17⟩, -, X17, ⟨Lc17, hQ17, l17, y17, z17⟩, st17⟩ := Jvm.LawKit.callS X0 hx (y := (⟨"com/example/leafweight/leafweight/Header", "bytes", "()[B"⟩ : MethodName)) hown (mvT hZ (hw _ (List.mem_of_getElem? (i := 0) rfl))) (mvT hZ (hw _ (List.mem_of_getElem? (i := 1) rfl))) (mvT hZ (hw _ (List.mem_of_getElem? (i := 2) rfl))) (mvT hZ (hw _ (List.mem_of_getElem? (i := 3) rfl))) (by decide) (backOf (W := 0) (rm1 l Z a0 hw [] mg k h0 n0 Z0 S_M V) hZ (hw _ (List.mem_of_getElem? (i := 3) rfl)) (hw _ (List.mem_of_getElem? (i := 2) rfl)) (by decide) (by decide)) (g := (mkF m 0 #[.val (.int p0), .val (.int p1), .unset, .unset] [])) rfl (by rw [hml]; rfl) (argsL := []) (rest := []) (lenOf pd__28_29_5bB rfl) rfl (by show 2 * 0 + _ ≤ _; exact Nat.le_of_eq rfl) (hb hby at_0) (fun _ _ => ⟨rfl, e0, (by decide : 0 + 1 ≤ _), (by decide : 0 + 5 ≤ _)⟩)
  dsimp only [Pt.U, Pt.locs, Pt.cells, Pt.slots] at X17 l17 y17 z17 st17 hQ17
  subst l17 y17 z17
  obtain ⟨b17, k17', rfl, N17q, sz17, K17, V17⟩ := hQ17
  have N17 := Fr.app N0 N17q
  refine own_go st17 ?_
  show Rch p e below _ T17 (mkF m 3 #[.val (.int p0), .val (.int p1), .unset, .unset] [(.ref b17)])
  have gb : n0 ≤ b17 := Nat.le_trans Z0 sz17
  have z1 : n0 ≤ T17.heap.size := Nat.le_trans Z0 K17.1
  refine own_go (T := T17) (T' := T17) (f := (mkF m 3 #[.val (.int p0), .val (.int p1), .unset, .unset] [(.ref b17)])) (f' := (mkF m 5 #[.val (.int p0), .val (.int p1), .val (.ref b17), .unset] [(.ref b17)])) (fun t k => ?_) ?_
  · show Steps p.tables e below (T17.setTop (mkF m 3 #[.val (.int p0), .val (.int p1), .unset, .unset] [(.ref b17)])) _
    refine XS.astoreN X17.here hx rfl (hb hby at_3) rfl rfl (l' := #[.val (.int p0), .val (.int p1), .val (.ref b17), .unset]) rfl ?_
    show Steps p.tables e below (T17.setTop (mkF m 4 #[.val (.int p0), .val (.int p1), .val (.ref b17), .unset] [])) _
    refine XS.aloadN X17.here hx rfl (hb hby at_4) rfl rfl ?_
    exact k
  obtain ⟨_, _, ⟨T18, L18, k18, n18⟩, -, X18, ⟨Lc18, hQ18, l18, y18, z18⟩, st18⟩ := Jvm.LawKit.callS X17 hx (y := (⟨"com/example/leafweight/leafweight/HeaderBytesPinLaw", "isHeader", "([B)Z"⟩ : MethodName)) hown (mvT hZ (hw _ (List.mem_of_getElem? (i := 19) rfl))) (mvT hZ (hw _ (List.mem_of_getElem? (i := 20) rfl))) (mvT hZ (hw _ (List.mem_of_getElem? (i := 21) rfl))) (mvT hZ (hw _ (List.mem_of_getElem? (i := 22) rfl))) (by decide) (backOf (W := 0) (rm4 l Z a0 hw [] b17 k17' T17.heap n0 z1 V17) hZ (hw _ (List.mem_of_getElem? (i := 22) rfl)) (hw _ (List.mem_of_getElem? (i := 21) rfl)) (by decide) (by decide)) (g := (mkF m 5 #[.val (.int p0), .val (.int p1), .val (.ref b17), .unset] [(.ref b17)])) rfl (by rw [hml]; rfl) (argsL := [(.ref b17)]) (rest := []) (lenOf pd__28_5bB_29Z rfl) rfl (by show 2 * 0 + _ ≤ _; exact Nat.le_of_eq rfl) (hb hby at_5) (fun _ _ => ⟨rfl, rfl, (by decide : 1 + 0 ≤ _), (by decide : 5 + 0 ≤ _)⟩)
  dsimp only [Pt.U, Pt.locs, Pt.cells, Pt.slots] at X18 l18 y18 z18 st18 hQ18
  subst l18 y18 z18
  obtain ⟨rfl, N18q, e18⟩ := hQ18
  have N18 := Fr.app N17 N18q
  refine own_go st18 ?_
  show Rch p e below _ T18 (mkF m 8 #[.val (.int p0), .val (.int p1), .val (.ref b17), .unset] [(.int (1 : Int32))])
  refine own_go (T := T18) (T' := T18) (f := (mkF m 8 #[.val (.int p0), .val (.int p1), .val (.ref b17), .unset] [(.int (1 : Int32))])) (f' := (mkF m 13 #[.val (.int p0), .val (.int p1), .val (.ref b17), .unset] [])) (fun t k => ?_) ?_
  · show Steps p.tables e below (T18.setTop (mkF m 8 #[.val (.int p0), .val (.int p1), .val (.ref b17), .unset] [(.int (1 : Int32))])) _
    refine XS.ifYes X18.here hx rfl (pc0 := 8) (pc' := 13) rfl (hb hby at_8) rfl ((if0 _ _).trans (feq (by decide)).2) (by decide) (by decide) ?_
    exact k
  refine own_go (T := T18) (T' := T18) (f := (mkF m 13 #[.val (.int p0), .val (.int p1), .val (.ref b17), .unset] [])) (f' := (mkF m 19 #[.val (.int p0), .val (.int p1), .val (.ref b17), .unset] [(.int (5 : Int32)), (.int (p0 &&& (2147483647 : Int32))), (.ref b17)])) (fun t k => ?_) ?_
  · show Steps p.tables e below (T18.setTop (mkF m 13 #[.val (.int p0), .val (.int p1), .val (.ref b17), .unset] [])) _
    refine XS.aloadN X18.here hx rfl (hb hby at_13) rfl rfl ?_
    show Steps p.tables e below (T18.setTop (mkF m 14 #[.val (.int p0), .val (.int p1), .val (.ref b17), .unset] [(.ref b17)])) _
    refine XS.iloadN X18.here hx rfl (hb hby at_14) rfl ?_
    show Steps p.tables e below (T18.setTop (mkF m 15 #[.val (.int p0), .val (.int p1), .val (.ref b17), .unset] [(.int p0), (.ref b17)])) _
    refine X18.ldcInt hx hown (mvT hZ (hw _ (List.mem_of_getElem? (i := 23) rfl))) (g := (mkF m 15 #[.val (.int p0), .val (.int p1), .val (.ref b17), .unset] [(.int p0), (.ref b17)])) rfl (hb hby at_15) _ ?_
    show Steps p.tables e below (T18.setTop (mkF m 17 #[.val (.int p0), .val (.int p1), .val (.ref b17), .unset] [(.int (2147483647 : Int32)), (.int p0), (.ref b17)])) _
    refine XS.iand X18.here hx rfl (hb hby at_17) rfl ?_
    show Steps p.tables e below (T18.setTop (mkF m 18 #[.val (.int p0), .val (.int p1), .val (.ref b17), .unset] [(.int (p0 &&& (2147483647 : Int32))), (.ref b17)])) _
    refine XS.iconst X18.here hx rfl (hb hby at_18) ?_
    exact k
  refine own_go (T := T18) (T' := T18) (f := (mkF m 19 #[.val (.int p0), .val (.int p1), .val (.ref b17), .unset] [(.int (5 : Int32)), (.int (p0 &&& (2147483647 : Int32))), (.ref b17)])) (f' := (mkF m 20 #[.val (.int p0), .val (.int p1), .val (.ref b17), .unset] [(.int ((p0 &&& (2147483647 : Int32)) % (5 : Int32))), (.ref b17)])) (fun t k => ?_) ?_
  · show Steps p.tables e below (T18.setTop (mkF m 19 #[.val (.int p0), .val (.int p1), .val (.ref b17), .unset] [(.int (5 : Int32)), (.int (p0 &&& (2147483647 : Int32))), (.ref b17)])) _
    refine iremM X18 hx rfl (hb hby at_19) rfl (by decide) ?_
    exact k
  obtain ⟨j, hj⟩ : ∃ j, j = (p0 &&& (2147483647 : Int32)) % (5 : Int32) := ⟨_, rfl⟩
  have hj0 : 0 ≤ j.toInt ∧ j.toInt < 5 := by
    have q1 := c_mask p0 2147483647 31 (by decide) (by decide)
    have q2 := c_irem (p0 &&& (2147483647 : Int32)) (5 : Int32) 5 (by decide)
    rw [hj]
    omega
  rw [← hj]
  show Rch p e below _ T18 (mkF m 20 #[.val (.int p0), .val (.int p1), .val (.ref b17), .unset] [(.int j), (.ref b17)])
  refine own_go (T := T18) (T' := T18) (f := (mkF m 20 #[.val (.int p0), .val (.int p1), .val (.ref b17), .unset] [(.int j), (.ref b17)])) (f' := (mkF m 22 #[.val (.int p0), .val (.int p1), .val (.ref b17), .unset] [(.int (p1.toInt8.toInt32)), (.int j), (.ref b17)])) (fun t k => ?_) ?_
  · show Steps p.tables e below (T18.setTop (mkF m 20 #[.val (.int p0), .val (.int p1), .val (.ref b17), .unset] [(.int j), (.ref b17)])) _
    refine XS.iloadN X18.here hx rfl (hb hby at_20) rfl ?_
    show Steps p.tables e below (T18.setTop (mkF m 21 #[.val (.int p0), .val (.int p1), .val (.ref b17), .unset] [(.int p1), (.int j), (.ref b17)])) _
    refine XS.i2b X18.here hx rfl (hb hby at_21) rfl ?_
    exact k
  obtain ⟨cl19, Ar19, q119, q219, q319, q419, q519⟩ := id V17
  have hin19 : ¬ (j < 0 ∨ cl19.slots.size ≤ (j).toNatClampNeg) := inb_of q219 ⟨by rw [Int32.lt_iff_toInt_lt, own_l0]; omega, by rw [Int32.lt_iff_toInt_lt, show (5 : Int32).toInt = 5 from by decide]; omega⟩
  obtain ⟨T19, h19, X19, e19, W19, st19⟩ := stB X18 hx hZ e18 Ar19 (j := j) hin19 (g := (mkF m 22 #[.val (.int p0), .val (.int p1), .val (.ref b17), .unset] [(.int (p1.toInt8.toInt32)), (.int j), (.ref b17)])) rfl rfl (hb hby at_22)
  have V19 := Arv.set Ar19 q119 q219 q319 q419 q519 (fits_nar_byte _) W19 j.toNatClampNeg rfl (by show j.toInt.toNat < 5; omega)
  have N19 := Fr.snoc X19 N18 gb
  refine own_go st19 ?_
  show Rch p e below _ T19 (mkF m 23 #[.val (.int p0), .val (.int p1), .val (.ref b17), .unset] [])
  have S1 := (own_sta S_M K17).wr W19
  have V1 := (V.keep K17 nin0).other W19 (Nat.ne_of_lt (Nat.lt_of_lt_of_le V.lt sz17))
  have z2 : n0 ≤ h19.size := by rw [W19.size]; exact z1
  have bl : b17 < h19.size := V19.lt
  obtain ⟨_, _, ⟨T20, L20, k20, n20⟩, -, X20, ⟨Lc20, hQ20, l20, y20, z20⟩, st20⟩ := Jvm.LawKit.callS X19 hx (y := (⟨"com/example/leafweight/leafweight/Header", "bytes", "()[B"⟩ : MethodName)) hown (mvT hZ (hw _ (List.mem_of_getElem? (i := 0) rfl))) (mvT hZ (hw _ (List.mem_of_getElem? (i := 1) rfl))) (mvT hZ (hw _ (List.mem_of_getElem? (i := 2) rfl))) (mvT hZ (hw _ (List.mem_of_getElem? (i := 3) rfl))) (by decide) (backOf (W := 0) (rm1 l Z a0 hw [] mg k h19 n0 z2 S1 V1) hZ (hw _ (List.mem_of_getElem? (i := 3) rfl)) (hw _ (List.mem_of_getElem? (i := 2) rfl)) (by decide) (by decide)) (g := (mkF m 23 #[.val (.int p0), .val (.int p1), .val (.ref b17), .unset] [])) rfl (by rw [hml]; rfl) (argsL := []) (rest := []) (lenOf pd__28_29_5bB rfl) rfl (by show 2 * 0 + _ ≤ _; exact Nat.le_of_eq rfl) (hb hby at_23) (fun _ _ => ⟨rfl, e19, (by decide : 1 + 1 ≤ _), (by decide : 5 + 5 ≤ _)⟩)
  dsimp only [Pt.U, Pt.locs, Pt.cells, Pt.slots] at X20 l20 y20 z20 st20 hQ20
  subst l20 y20 z20
  obtain ⟨b20, k20', rfl, N20q, sz20, K20, V20⟩ := hQ20
  have N20 := Fr.app N19 N20q
  refine own_go st20 ?_
  show Rch p e below _ T20 (mkF m 26 #[.val (.int p0), .val (.int p1), .val (.ref b17), .unset] [(.ref b20)])
  have hne : ¬ (b20 = b17) := fun q => by rw [q] at sz20; exact absurd bl (Nat.not_lt.mpr sz20)
  refine own_go (T := T20) (T' := T20) (f := (mkF m 26 #[.val (.int p0), .val (.int p1), .val (.ref b17), .unset] [(.ref b20)])) (f' := (mkF m 29 #[.val (.int p0), .val (.int p1), .val (.ref b17), .val (.ref b20)] [(.ref b17), (.ref b20)])) (fun t k => ?_) ?_
  · show Steps p.tables e below (T20.setTop (mkF m 26 #[.val (.int p0), .val (.int p1), .val (.ref b17), .unset] [(.ref b20)])) _
    refine XS.astoreN X20.here hx rfl (hb hby at_26) rfl rfl (l' := #[.val (.int p0), .val (.int p1), .val (.ref b17), .val (.ref b20)]) rfl ?_
    show Steps p.tables e below (T20.setTop (mkF m 27 #[.val (.int p0), .val (.int p1), .val (.ref b17), .val (.ref b20)] [])) _
    refine XS.aloadN X20.here hx rfl (hb hby at_27) rfl rfl ?_
    show Steps p.tables e below (T20.setTop (mkF m 28 #[.val (.int p0), .val (.int p1), .val (.ref b17), .val (.ref b20)] [(.ref b20)])) _
    refine XS.aloadN X20.here hx rfl (hb hby at_28) rfl rfl ?_
    exact k
  refine own_go (T := T20) (T' := T20) (f := (mkF m 29 #[.val (.int p0), .val (.int p1), .val (.ref b17), .val (.ref b20)] [(.ref b17), (.ref b20)])) (f' := (mkF m 32 #[.val (.int p0), .val (.int p1), .val (.ref b17), .val (.ref b20)] [])) (fun t k => ?_) ?_
  · show Steps p.tables e below (T20.setTop (mkF m 29 #[.val (.int p0), .val (.int p1), .val (.ref b17), .val (.ref b20)] [(.ref b17), (.ref b20)])) _
    refine Jvm.RoadKit.acmp (g := (mkF m 29 #[.val (.int p0), .val (.int p1), .val (.ref b17), .val (.ref b20)] [(.ref b17), (.ref b20)])) X20 hx rfl rfl rfl (pc0 := 29) (pc' := 32) (same := false) rfl (hb hby at_29) rfl (decide_eq_false fun q => hne (Value.ref.inj q)) (by decide) (by decide) ?_
    exact k
  refine own_go (T := T20) (T' := T20) (f := (mkF m 32 #[.val (.int p0), .val (.int p1), .val (.ref b17), .val (.ref b20)] [])) (f' := (mkF m 33 #[.val (.int p0), .val (.int p1), .val (.ref b17), .val (.ref b20)] [(.ref b20)])) (fun t k => ?_) ?_
  · show Steps p.tables e below (T20.setTop (mkF m 32 #[.val (.int p0), .val (.int p1), .val (.ref b17), .val (.ref b20)] [])) _
    refine XS.aloadN X20.here hx rfl (hb hby at_32) rfl rfl ?_
    exact k
  obtain ⟨_, _, ⟨T21, L21, k21, n21⟩, -, X21, ⟨Lc21, hQ21, l21, y21, z21⟩, st21⟩ := Jvm.LawKit.callS X20 hx (y := (⟨"com/example/leafweight/leafweight/HeaderBytesPinLaw", "isHeader", "([B)Z"⟩ : MethodName)) hown (mvT hZ (hw _ (List.mem_of_getElem? (i := 19) rfl))) (mvT hZ (hw _ (List.mem_of_getElem? (i := 20) rfl))) (mvT hZ (hw _ (List.mem_of_getElem? (i := 21) rfl))) (mvT hZ (hw _ (List.mem_of_getElem? (i := 22) rfl))) (by decide) (backOf (W := 0) (rm4 l Z a0 hw [] b20 k20' T20.heap n0 (Nat.le_trans z2 K20.1) V20) hZ (hw _ (List.mem_of_getElem? (i := 22) rfl)) (hw _ (List.mem_of_getElem? (i := 21) rfl)) (by decide) (by decide)) (g := (mkF m 33 #[.val (.int p0), .val (.int p1), .val (.ref b17), .val (.ref b20)] [(.ref b20)])) rfl (by rw [hml]; rfl) (argsL := [(.ref b20)]) (rest := []) (lenOf pd__28_5bB_29Z rfl) rfl (by show 2 * 0 + _ ≤ _; exact Nat.le_of_eq rfl) (hb hby at_33) (fun _ _ => ⟨rfl, rfl, (by decide : 2 + 0 ≤ _), (by decide : 10 + 0 ≤ _)⟩)
  dsimp only [Pt.U, Pt.locs, Pt.cells, Pt.slots] at X21 l21 y21 z21 st21 hQ21
  subst l21 y21 z21
  obtain ⟨rfl, N21q, e21⟩ := hQ21
  have N21 := Fr.app N20 N21q
  refine own_go st21 ?_
  show Rch p e below _ T21 (mkF m 36 #[.val (.int p0), .val (.int p1), .val (.ref b17), .val (.ref b20)] [(.int (1 : Int32))])
  refine own_go (T := T21) (T' := T21) (f := (mkF m 36 #[.val (.int p0), .val (.int p1), .val (.ref b17), .val (.ref b20)] [(.int (1 : Int32))])) (f' := (mkF m 39 #[.val (.int p0), .val (.int p1), .val (.ref b17), .val (.ref b20)] [])) (fun t k => ?_) ?_
  · show Steps p.tables e below (T21.setTop (mkF m 36 #[.val (.int p0), .val (.int p1), .val (.ref b17), .val (.ref b20)] [(.int (1 : Int32))])) _
    refine XS.ifNo X21.here hx rfl (hb hby at_36) rfl ((if0 _ _).trans (feq (by decide)).1) ?_
    exact k
  refine own_go (T := T21) (T' := T21) (f := (mkF m 39 #[.val (.int p0), .val (.int p1), .val (.ref b17), .val (.ref b20)] [])) (f' := (mkF m 44 #[.val (.int p0), .val (.int p1), .val (.ref b17), .val (.ref b20)] [(.int (1 : Int32))])) (fun t k => ?_) ?_
  · show Steps p.tables e below (T21.setTop (mkF m 39 #[.val (.int p0), .val (.int p1), .val (.ref b17), .val (.ref b20)] [])) _
    refine XS.iconst X21.here hx rfl (hb hby at_39) ?_
    show Steps p.tables e below (T21.setTop (mkF m 40 #[.val (.int p0), .val (.int p1), .val (.ref b17), .val (.ref b20)] [(.int (1 : Int32))])) _
    refine XS.goto X21.here hx rfl (pc0 := 40) (pc' := 44) rfl (hb hby at_40) (by decide) (by decide) ?_
    exact k
  exact own_retN X21 hx hlk (t := .boolean) (w := (1 : Int32)) hret (by simp) (hb hby at_44) rfl (by decide) (by decide) (by rw [e21]; exact ⟨rfl, N21⟩)
set_option maxRecDepth 65536 in
set_option maxHeartbeats 40000000 in
theorem comes_1 {Post : Tables → Env → Array Value → State → Outcome → State → Prop} (hpost : ∀ tb e args s v u, (limb_1_1.after args s (.returned v) u = true ∧ limb_1_2.after args s (.returned v) u = true ∧ True) → FrameEnd s (.returned v) u (Jvm.fieldLocs frame_1_writes args s ++ Jvm.arrayLocs frame_1_arrays args s ++ Jvm.staticLocs frame_1_statics s) 16 128 → Post tb e args s (.returned v) u) :
    ArmFor flags0 classFile x code maxLocals ret World_1 tables_1 room_1 Calls_1 rest_1 Pre_1 Post := by
  intro l hfl _ _ p e ha hc hk s m args below hf hA hF happ hP
  obtain ⟨hcalls, hrest, hpre⟩ := hP
  obtain ⟨-, -, -, hnamed, -, -, -, hat⟩ := (Spec.applies_iff hf).mp happ
  obtain ⟨hg, hn⟩ := and_e (Cond.before_iff.mp (show (Jvm.Cond.and given_1 narrow_1).before args s = true from hpre))
  obtain ⟨gc, ga0⟩ := and_e hg
  obtain ⟨gv0, ga1⟩ := and_e ga0
  obtain ⟨w0, w1, rfl⟩ : ∃ w0 w1, args = #[w0, w1] := by
    have hs : args.size = 2 := by simpa [Cond.value, given_1] using gc
    obtain ⟨L⟩ := args
    match L, hs with
    | [w0, w1], _ => exact ⟨w0, w1, rfl⟩
  have hw := fun d (hd : d ∈ tables_1) => atoms_spec (ws := Jvm.Cond.code x code maxLocals ret :: tables_1) hat d (List.mem_cons_of_mem _ hd)
  have hfit : Fit s := fun {y c} hc i hi => by
    obtain ⟨ha, rfl⟩ := Array.getElem?_eq_some_iff.mp hc
    have q := List.all_eq_true.mp ((Array.all_eq_true_iff_forall_mem.mp hF) _ (Array.getElem_mem ha)) i (List.mem_range.mpr hi)
    simpa [Array.getElem?_eq_getElem hi] using q
  obtain ⟨i0, e0⟩ := is_v gv0
  obtain rfl : w0 = (.int i0) := Option.some.inj e0
  obtain ⟨i1, e1⟩ := is_v ga1
  obtain rfl : w1 = (.int i1) := Option.some.inj e1
  obtain ⟨x1, hn⟩ := and_e hn
  obtain ⟨x2, hn⟩ := and_e hn
  obtain ⟨x3, hn⟩ := and_e hn
  obtain ⟨x4, hn⟩ := and_e hn
  obtain ⟨x5, hn⟩ := and_e hn
  obtain ⟨x6, x7⟩ := and_e hn
  obtain ⟨mg, t1⟩ := arr_v x1
  obtain ⟨cl, A1⟩ := Arr.start t1 x1
  obtain ⟨y1, y2⟩ := own_len t1 (A1.fin (Vm.Alike.refl _)) (own_eqi x3)
  have k0 := (elem_in (own_eqi x4) t1 rfl A1.1).2
  have k1 := (elem_in (own_eqi x5) t1 rfl A1.1).2
  have k2 := (elem_in (own_eqi x6) t1 rfl A1.1).2
  have k3 := (elem_in (own_eqi x7) t1 rfl A1.1).2
  have VV : Arv s s.heap mg cl.cls .byte (4 : Int32) [.int 76, .int 69, .int 65, .int 70] (.int (0 : Int32)) := Arv.start hfit A1 y1 y2 (by decide) rfl ⟨k0, k1, k2, k3, trivial⟩
  obtain ⟨n, o, h1, h2, h3, _, L, rfl, ⟨rfl, N⟩, hq⟩ := rm0 l s _ hw tables_1 i0 i1 mg cl.cls s.heap s.heap.size (Nat.le_refl _) (Sta.start t1 (Or.inr ⟨(hw _ (List.mem_of_getElem? (i := 2) rfl)), (hw _ (List.mem_of_getElem? (i := 5) rfl))⟩)) VV p e ha hc hk s m _ below hf ((Spec.applies_iff_loose hf).mp happ).1 ⟨rfl, State.Warmed39.refl s, rfl⟩ trivial
  refine ⟨n, _, h1, h2, h3, hpost _ _ _ _ _ _ ⟨Cond.after_iff.mpr rfl, Cond.after_iff.mpr (eq_i res_at (Term.int_eval (1)) rfl), trivial⟩ ⟨hq.1, hq.2.1, (hq.2.2.sift fun y hy => Or.inr (N y hy)).mono (by decide) (by decide)⟩⟩
theorem main_1_1 : Claimed_1_1 := comes_1 fun _ _ _ _ _ _ h hF => ⟨h.1, hF⟩
theorem main_1_2 : Claimed_1_2 := comes_1 fun _ _ _ _ _ _ h hF => ⟨h.2.1, hF⟩
end Jvm.Pilot.@@N@@
namespace Jvm.Pilot.@@N@@
open Jvm Jvm.ClassFile Sem Op Lib Jvm.Free Jvm.Stand Jvm.Pilot.@@N@@.Jvm.D
/-! MADE BY PROGRAM (witnessworld.py) out of the Statement's table words and the real class files: 12 classes; the members and pool entries that the words name. The judged class is class 1, her method 2. -/
namespace start1
open Jvm.ClassFile
def u (s : String) : CpInfo := .utf8 (stringToUtf16 s)
/-- a pool by its gaps: so many unusable entries, then the entry; so many at the end -/
def gap : Nat → List CpInfo → List CpInfo
  | 0, r => r
  | n + 1, r => .unusable :: gap n r
def poolList (es : List (Nat × CpInfo)) (last : Nat) : List CpInfo := es.foldr (fun e r => gap e.1 (e.2 :: r)) (gap last [])
def pool (es : List (Nat × CpInfo)) (last : Nat) : Array CpInfo := ⟨poolList es last⟩
def fileOf (pool : Array CpInfo) (this : Nat) (attrs : Array Attribute := #[]) (ms : Array MethodInfo := #[]) (fl : Nat := 33) (sup : Nat := 0) (ifs : Array Nat := #[]) (fds : Array FieldInfo := #[]) : ClassFile where
  minorVersion := 0
  majorVersion := 65
  constantPool := pool
  accessFlags := fl
  thisClass := this
  superClass := sup
  interfaces := ifs
  fields := fds
  methods := ms
  attributes := attrs
def plain (name : String) (sup : Option ClassId) : Class where
  name := name
  kind := .ordinary
  loader := none
  accessFlags := 33
  super := sup
  interfaces := #[]
  cf := none
  fields := #[]
  methods := #[]
  instanceTypes := #[]
  staticTypes := #[]
  resolved := #[]
  callSites := []
  init := .initialized
  statics := none
  mirror := none

def pool0 : Array CpInfo := pool [(5, u "<init>"), (0, u "()V"), (1, .class_ 10), (1, u "java/lang/Object")] 113

def k0m0 : Method := { name := "<init>", desc := "()V", sig := { parameters := [], returnType := none }, accessFlags := 1, code := none }
/-- java/lang/Object -/
def k0 : Class := { plain "java/lang/Object" none with
  accessFlags := 33
  interfaces := #[]
  cf := some (fileOf pool0 8 #[] #[{ accessFlags := 1, nameIndex := 5, descriptorIndex := 6, attributes := #[] }] 33 0 #[] #[])
  fields := #[]
  methods := #[k0m0]
  instanceTypes := #[]
  staticTypes := #[]
  resolved := Array.replicate 124 none
  statics := none }

def pool1 : Array CpInfo := pool [(2, .class_ 4), (1, u "java/lang/Object"), (0, u "<init>"), (0, u "()V"), (0, .class_ 8), (0, u "com/example/leafweight/leafweight/Header"), (0, .methodref 7 10), (0, .nameAndType 11 12), (0, u "bytes"), (0, u "()[B"), (0, .methodref 14 15), (0, .class_ 16), (0, .nameAndType 17 18), (0, u "com/example/leafweight/leafweight/HeaderBytesPinLaw"), (0, u "isHeader"), (0, u "([B)Z"), (0, .integer 2147483647), (3, u "law"), (0, u "(II)Z")] 4

def k1m0 : Method := { name := "<init>", desc := "()V", sig := { parameters := [], returnType := none }, accessFlags := 2, code := none }
def k1c1 : Code := { maxStack := 2, maxLocals := 1, code := method_2_code, exceptionTable := #[], attributes := #[] }
def k1m1 : Method := { name := "isHeader", desc := "([B)Z", sig := { parameters := [(.array .byte)], returnType := some .boolean }, accessFlags := 10, code := some k1c1 }
def k1c2 : Code := { maxStack := 3, maxLocals := 4, code := code, exceptionTable := #[], attributes := #[] }
def k1m2 : Method := { name := "law", desc := "(II)Z", sig := { parameters := [.int, .int], returnType := some .boolean }, accessFlags := 9, code := some k1c2 }
/-- com/example/leafweight/leafweight/HeaderBytesPinLaw -/
def k1 : Class := { plain "com/example/leafweight/leafweight/HeaderBytesPinLaw" (some 0) with
  accessFlags := 49
  interfaces := #[]
  cf := some (fileOf pool1 14 #[] #[{ accessFlags := 2, nameIndex := 5, descriptorIndex := 6, attributes := #[] }, { accessFlags := 10, nameIndex := 17, descriptorIndex := 18, attributes := #[] }, { accessFlags := 9, nameIndex := 23, descriptorIndex := 24, attributes := #[] }] 49 2 #[] #[])
  fields := #[]
  methods := #[k1m0, k1m1, k1m2]
  instanceTypes := #[]
  staticTypes := #[]
  resolved := Array.replicate 29 none
  statics := none }

def pool2 : Array CpInfo := pool [(2, .class_ 4), (1, u "java/lang/Object"), (0, u "<init>"), (0, u "()V"), (0, .fieldref 8 9), (0, .class_ 10), (0, .nameAndType 11 12), (0, u "com/example/leafweight/leafweight/Header"), (0, u "MAGIC"), (0, u "[B"), (0, .methodref 14 15), (0, .class_ 16), (0, .nameAndType 17 18), (0, u "java/util/Arrays"), (0, u "copyOf"), (0, u "([BI)[B"), (23, u "VERSION"), (0, u "I"), (2, u "LENGTH"), (3, u "bytes"), (0, u "()[B")] 23

def k2m0 : Method := { name := "<init>", desc := "()V", sig := { parameters := [], returnType := none }, accessFlags := 2, code := none }
def k2c1 : Code := { maxStack := 3, maxLocals := 1, code := prog_8_method_2_code, exceptionTable := #[], attributes := #[] }
def k2m1 : Method := { name := "bytes", desc := "()[B", sig := { parameters := [], returnType := some (.array .byte) }, accessFlags := 8, code := some k2c1 }
/-- com/example/leafweight/leafweight/Header -/
def k2 : Class := { plain "com/example/leafweight/leafweight/Header" (some 0) with
  accessFlags := 48
  interfaces := #[]
  cf := some (fileOf pool2 8 #[] #[{ accessFlags := 2, nameIndex := 5, descriptorIndex := 6, attributes := #[] }, { accessFlags := 8, nameIndex := 50, descriptorIndex := 51, attributes := #[] }] 48 2 #[] #[{ accessFlags := 24, nameIndex := 42, descriptorIndex := 43, attributes := #[] }, { accessFlags := 24, nameIndex := 46, descriptorIndex := 43, attributes := #[] }, { accessFlags := 26, nameIndex := 11, descriptorIndex := 12, attributes := #[] }])
  fields := #[{ name := "VERSION", type := .int, accessFlags := 24, slot := 0, constantValue := 0 }, { name := "LENGTH", type := .int, accessFlags := 24, slot := 1, constantValue := 0 }, { name := "MAGIC", type := (.array .byte), accessFlags := 26, slot := 2, constantValue := 0 }]
  methods := #[k2m0, k2m1]
  instanceTypes := #[]
  staticTypes := #[.int, .int, (.array .byte)]
  resolved := Array.replicate 75 none
  statics := some 0 }

def pool3 : Array CpInfo := pool [(2, .class_ 4), (1, u "java/lang/Object"), (0, u "<init>"), (0, u "()V"), (7, .class_ 16), (1, u "java/util/Arrays"), (57, .class_ 76), (1, u "java/util/Arrays$NaturalOrder"), (36, .class_ 115), (1, u "java/util/Arrays$LegacyMergeSort"), (1, u "Z"), (32, .methodref 151 152), (0, .class_ 153), (0, .nameAndType 154 155), (0, u "java/lang/System"), (0, u "arraycopy"), (0, u "(Ljava/lang/Object;ILjava/lang/Object;II)V"), (146, u "copyOf"), (1, .methodref 305 306), (0, .class_ 307), (0, .nameAndType 308 309), (0, u "java/lang/Math"), (0, u "min"), (0, u "(II)I"), (65, .class_ 376), (0, u "java/util/Arrays$ArrayList"), (68, u "$assertionsDisabled"), (269, u "MIN_ARRAY_SORT_GRAN"), (0, u "I"), (2, u "INSERTIONSORT_THRESHOLD"), (149, u "([BI)[B"), (105, .class_ 976), (0, u "java/util/Arrays$ArrayItr")] 52

def k3m0 : Method := { name := "<init>", desc := "()V", sig := { parameters := [], returnType := none }, accessFlags := 2, code := none }
def k3c1 : Code := { maxStack := 6, maxLocals := 3, code := jdk_65_method_121_code, exceptionTable := #[], attributes := #[] }
def k3m1 : Method := { name := "copyOf", desc := "([BI)[B", sig := { parameters := [(.array .byte), .int], returnType := some (.array .byte) }, accessFlags := 9, code := some k3c1 }
/-- java/util/Arrays -/
def k3 : Class := { plain "java/util/Arrays" (some 0) with
  accessFlags := 49
  interfaces := #[]
  cf := some (fileOf pool3 14 #[.nestMembers #[975, 375, 113, 74]] #[{ accessFlags := 2, nameIndex := 5, descriptorIndex := 6, attributes := #[] }, { accessFlags := 9, nameIndex := 302, descriptorIndex := 869, attributes := #[] }] 49 2 #[] #[{ accessFlags := 26, nameIndex := 715, descriptorIndex := 716, attributes := #[] }, { accessFlags := 26, nameIndex := 719, descriptorIndex := 716, attributes := #[] }, { accessFlags := 4120, nameIndex := 445, descriptorIndex := 117, attributes := #[] }])
  fields := #[{ name := "MIN_ARRAY_SORT_GRAN", type := .int, accessFlags := 26, slot := 0, constantValue := 0 }, { name := "INSERTIONSORT_THRESHOLD", type := .int, accessFlags := 26, slot := 1, constantValue := 0 }, { name := "$assertionsDisabled", type := .boolean, accessFlags := 4120, slot := 2, constantValue := 0 }]
  methods := #[k3m0, k3m1]
  instanceTypes := #[]
  staticTypes := #[.int, .int, .boolean]
  resolved := Array.replicate 1029 none
  statics := none }

def pool4 : Array CpInfo := pool [(1, .class_ 2), (0, u "java/lang/Math"), (1, .class_ 6), (1, u "java/lang/Object"), (0, u "<init>"), (0, u "()V"), (89, .class_ 100), (1, u "java/lang/Math$RandomNumberGeneratorHolder"), (71, u "negativeZeroFloatBits"), (0, u "J"), (2, u "negativeZeroDoubleBits"), (24, u "min"), (43, u "$assertionsDisabled"), (0, u "Z"), (88, u "(II)I"), (2, u "twoToTheDoubleScaleDown"), (0, u "D"), (4, u "twoToTheDoubleScaleUp"), (9, u "E"), (3, u "PI"), (2, u "TAU"), (2, u "DEGREES_TO_RADIANS"), (0, u "RADIANS_TO_DEGREES")] 94

def k4m0 : Method := { name := "<init>", desc := "()V", sig := { parameters := [], returnType := none }, accessFlags := 2, code := none }
def k4c1 : Code := { maxStack := 2, maxLocals := 2, code := jdk_29_method_69_code, exceptionTable := #[], attributes := #[] }
def k4m1 : Method := { name := "min", desc := "(II)I", sig := { parameters := [.int, .int], returnType := some .int }, accessFlags := 9, code := some k4c1 }
/-- java/lang/Math -/
def k4 : Class := { plain "java/lang/Math" (some 0) with
  accessFlags := 49
  interfaces := #[]
  cf := some (fileOf pool4 1 #[.nestMembers #[98]] #[{ accessFlags := 2, nameIndex := 7, descriptorIndex := 8, attributes := #[] }, { accessFlags := 9, nameIndex := 201, descriptorIndex := 335, attributes := #[] }] 49 4 #[] #[{ accessFlags := 25, nameIndex := 354, descriptorIndex := 339, attributes := #[] }, { accessFlags := 25, nameIndex := 358, descriptorIndex := 339, attributes := #[] }, { accessFlags := 25, nameIndex := 361, descriptorIndex := 339, attributes := #[] }, { accessFlags := 26, nameIndex := 364, descriptorIndex := 339, attributes := #[] }, { accessFlags := 26, nameIndex := 365, descriptorIndex := 339, attributes := #[] }, { accessFlags := 26, nameIndex := 172, descriptorIndex := 173, attributes := #[] }, { accessFlags := 26, nameIndex := 176, descriptorIndex := 173, attributes := #[] }, { accessFlags := 8, nameIndex := 344, descriptorIndex := 339, attributes := #[] }, { accessFlags := 8, nameIndex := 338, descriptorIndex := 339, attributes := #[] }, { accessFlags := 4120, nameIndex := 245, descriptorIndex := 246, attributes := #[] }])
  fields := #[{ name := "E", type := .double, accessFlags := 25, slot := 0, constantValue := 0 }, { name := "PI", type := .double, accessFlags := 25, slot := 1, constantValue := 0 }, { name := "TAU", type := .double, accessFlags := 25, slot := 2, constantValue := 0 }, { name := "DEGREES_TO_RADIANS", type := .double, accessFlags := 26, slot := 3, constantValue := 0 }, { name := "RADIANS_TO_DEGREES", type := .double, accessFlags := 26, slot := 4, constantValue := 0 }, { name := "negativeZeroFloatBits", type := .long, accessFlags := 26, slot := 5, constantValue := 0 }, { name := "negativeZeroDoubleBits", type := .long, accessFlags := 26, slot := 6, constantValue := 0 }, { name := "twoToTheDoubleScaleUp", type := .double, accessFlags := 8, slot := 7, constantValue := 0 }, { name := "twoToTheDoubleScaleDown", type := .double, accessFlags := 8, slot := 8, constantValue := 0 }, { name := "$assertionsDisabled", type := .boolean, accessFlags := 4120, slot := 9, constantValue := 0 }]
  methods := #[k4m0, k4m1]
  instanceTypes := #[]
  staticTypes := #[.double, .double, .double, .double, .double, .long, .long, .double, .double, .boolean]
  resolved := Array.replicate 460 none
  statics := none }

def pool5 : Array CpInfo := pool [(2, .class_ 4), (1, u "java/lang/Object"), (0, u "<init>"), (0, u "()V"), (1, .class_ 10), (1, u "java/lang/System"), (0, u "allowSecurityManager"), (0, u "I"), (16, u "cons"), (0, u "Ljava/io/Console;"), (77, .class_ 110), (1, u "java/lang/System$CallersHolder"), (43, u "initialErrStream"), (0, u "Ljava/io/PrintStream;"), (19, u "security"), (0, u "Ljava/lang/SecurityManager;"), (31, .class_ 209), (0, u "java/lang/System$1"), (7, u "props"), (0, u "Ljava/util/Properties;"), (2, u "lineSeparator"), (0, u "Ljava/lang/String;"), (96, .class_ 321), (1, u "java/lang/System$LoggerFinder"), (5, .class_ 328), (0, u "java/lang/System$Logger"), (67, u "err"), (2, u "out"), (91, u "notSupportedJnuEncoding"), (15, u "in"), (17, u "initialIn"), (0, u "Ljava/io/InputStream;"), (35, u "bootLayer"), (0, u "Ljava/lang/ModuleLayer;"), (99, .class_ 664), (0, u "java/lang/System$2"), (9, u "NEVER"), (2, u "MAYBE"), (49, u "arraycopy"), (0, u "(Ljava/lang/Object;ILjava/lang/Object;II)V"), (72, .class_ 802), (0, u "java/lang/System$Logger$Level")] 31

def k5m0 : Method := { name := "<init>", desc := "()V", sig := { parameters := [], returnType := none }, accessFlags := 2, code := none }
def k5m1 : Method := { name := "arraycopy", desc := "(Ljava/lang/Object;ILjava/lang/Object;II)V", sig := { parameters := [(.object "java/lang/Object"), .int, (.object "java/lang/Object"), .int, .int], returnType := none }, accessFlags := 265, code := none }
/-- java/lang/System -/
def k5 : Class := { plain "java/lang/System" (some 0) with
  accessFlags := 49
  interfaces := #[]
  cf := some (fileOf pool5 8 #[.nestMembers #[319, 327, 801, 108, 663, 208]] #[{ accessFlags := 2, nameIndex := 5, descriptorIndex := 6, attributes := #[] }, { accessFlags := 265, nameIndex := 727, descriptorIndex := 728, attributes := #[] }] 49 2 #[] #[{ accessFlags := 25, nameIndex := 507, descriptorIndex := 526, attributes := #[] }, { accessFlags := 25, nameIndex := 399, descriptorIndex := 155, attributes := #[] }, { accessFlags := 25, nameIndex := 396, descriptorIndex := 155, attributes := #[] }, { accessFlags := 10, nameIndex := 525, descriptorIndex := 526, attributes := #[] }, { accessFlags := 26, nameIndex := 674, descriptorIndex := 12, attributes := #[] }, { accessFlags := 26, nameIndex := 677, descriptorIndex := 12, attributes := #[] }, { accessFlags := 10, nameIndex := 11, descriptorIndex := 12, attributes := #[] }, { accessFlags := 74, nameIndex := 175, descriptorIndex := 176, attributes := #[] }, { accessFlags := 10, nameIndex := 491, descriptorIndex := 222, attributes := #[] }, { accessFlags := 74, nameIndex := 29, descriptorIndex := 30, attributes := #[] }, { accessFlags := 74, nameIndex := 154, descriptorIndex := 155, attributes := #[] }, { accessFlags := 10, nameIndex := 217, descriptorIndex := 218, attributes := #[] }, { accessFlags := 10, nameIndex := 221, descriptorIndex := 222, attributes := #[] }, { accessFlags := 8, nameIndex := 562, descriptorIndex := 563, attributes := #[] }])
  fields := #[{ name := "in", type := (.object "java/io/InputStream"), accessFlags := 25, slot := 0, constantValue := 0 }, { name := "out", type := (.object "java/io/PrintStream"), accessFlags := 25, slot := 1, constantValue := 0 }, { name := "err", type := (.object "java/io/PrintStream"), accessFlags := 25, slot := 2, constantValue := 0 }, { name := "initialIn", type := (.object "java/io/InputStream"), accessFlags := 10, slot := 3, constantValue := 0 }, { name := "NEVER", type := .int, accessFlags := 26, slot := 4, constantValue := 0 }, { name := "MAYBE", type := .int, accessFlags := 26, slot := 5, constantValue := 0 }, { name := "allowSecurityManager", type := .int, accessFlags := 10, slot := 6, constantValue := 0 }, { name := "security", type := (.object "java/lang/SecurityManager"), accessFlags := 74, slot := 7, constantValue := 0 }, { name := "notSupportedJnuEncoding", type := (.object "java/lang/String"), accessFlags := 10, slot := 8, constantValue := 0 }, { name := "cons", type := (.object "java/io/Console"), accessFlags := 74, slot := 9, constantValue := 0 }, { name := "initialErrStream", type := (.object "java/io/PrintStream"), accessFlags := 74, slot := 10, constantValue := 0 }, { name := "props", type := (.object "java/util/Properties"), accessFlags := 10, slot := 11, constantValue := 0 }, { name := "lineSeparator", type := (.object "java/lang/String"), accessFlags := 10, slot := 12, constantValue := 0 }, { name := "bootLayer", type := (.object "java/lang/ModuleLayer"), accessFlags := 8, slot := 13, constantValue := 0 }]
  methods := #[k5m0, k5m1]
  instanceTypes := #[]
  staticTypes := #[(.object "java/io/InputStream"), (.object "java/io/PrintStream"), (.object "java/io/PrintStream"), (.object "java/io/InputStream"), .int, .int, .int, (.object "java/lang/SecurityManager"), (.object "java/lang/String"), (.object "java/io/Console"), (.object "java/io/PrintStream"), (.object "java/util/Properties"), (.object "java/lang/String"), (.object "java/lang/ModuleLayer")]
  resolved := Array.replicate 834 none
  statics := none }

def pool6 : Array CpInfo := pool [(1, u "java/lang/Cloneable"), (0, .class_ 1), (0, u "java/lang/Object"), (0, .class_ 3)] 3

/-- java/lang/Cloneable -/
def k6 : Class := { plain "java/lang/Cloneable" (some 0) with
  accessFlags := 1537
  interfaces := #[]
  cf := some (fileOf pool6 2 #[] #[] 1537 4 #[] #[])
  fields := #[]
  methods := #[]
  instanceTypes := #[]
  staticTypes := #[]
  resolved := Array.replicate 8 none
  statics := none }

def pool7 : Array CpInfo := pool [(1, u "java/io/Serializable"), (0, .class_ 1), (0, u "java/lang/Object"), (0, .class_ 3)] 3

/-- java/io/Serializable -/
def k7 : Class := { plain "java/io/Serializable" (some 0) with
  accessFlags := 1537
  interfaces := #[]
  cf := some (fileOf pool7 2 #[] #[] 1537 4 #[] #[])
  fields := #[]
  methods := #[]
  instanceTypes := #[]
  staticTypes := #[]
  resolved := Array.replicate 8 none
  statics := none }

/-- the primitive byte -/
def k8 : Class := { plain "byte" none with kind := .primitive 'B', accessFlags := 0x411 }
/-- [B -/
def k9 : Class := { plain "[B" (some 0) with kind := .array 8 .byte, interfaces := #[6, 7], accessFlags := 1041 }

/-- the primitive int -/
def k10 : Class := { plain "int" none with kind := .primitive 'I', accessFlags := 0x411 }
/-- [I -/
def k11 : Class := { plain "[I" (some 0) with kind := .array 10 .int, interfaces := #[6, 7], accessFlags := 1041 }

def heap : Heap := #[{ cls := 2, slots := #[.int 0, .int 0, .ref 1], vm := .statics 2 },
  { cls := 9, slots := #[.int 76, .int 69, .int 65, .int 70], vm := .none }]
def classes : Array Class := #[k0, k1, k2, k3, k4, k5, k6, k7, k8, k9, k10, k11]
def interned : List (Array UInt16 × Addr) := []
def slotsUsed : Nat := 7
def theMethod : MethodId := ⟨1, 2⟩
def args0 : Array Value := #[.int 5, .int 300]
def aboutOver (below : List Frame) : State where
  vm := { classes := classes, interned := interned.toArray }
  heap := heap
  slotsUsed := slotsUsed
  threads := #[{ frames := .invoking theMethod args0 :: below }]
def below0 : List Frame := [.native { method := ⟨0, 0⟩, args := #[] }]
def about1 : State := aboutOver below0
def p0 : Program := .bare "" "" ""
def e0 : Env := launch0.env 0 0 0
theorem w_frames : about1.frames = Frame.invoking theMethod args0 :: below0 := rfl
set_option maxRecDepth 65536 in
theorem w_args : argsFit about1.vm theMethod args0 = true := by decide +kernel
set_option maxRecDepth 65536 in
theorem w_heap : heapFits about1 = true := by decide +kernel
set_option maxRecDepth 65536 in
theorem w_runnable : about1.curStatus? = some .runnable := by decide +kernel
set_option maxRecDepth 65536 in
theorem w_alone : about1.alone = true := by decide +kernel
set_option maxRecDepth 65536 in
theorem w_named : about1.methodNamed? x = some theMethod := by decide +kernel
set_option maxRecDepth 65536 in
theorem w_hears : about1.hears theMethod below0 = true := by decide +kernel
set_option maxRecDepth 65536 in
theorem w_ripe : about1.ripe theMethod args0 below0 = true := by decide +kernel
theorem w_running : about1.status = .running := rfl
set_option maxRecDepth 65536 in
theorem w_room : about1.hasRoom e0.platform room_1 = true :=
  launch0.hasRoom_least _ room_1 (by decide +kernel) (by decide +kernel) (by decide +kernel) (by decide +kernel) (by decide +kernel) (by decide +kernel)
theorem allAtoms_all (ts : List Jvm.Cond) (a : Array Jvm.Value) (st : Jvm.State) : (allAtoms ts).before a st = ts.all (fun c => c.before a st) := by
  induction ts with
  | nil => rfl
  | cons c t ih =>
    show (Jvm.Cond.and c (allAtoms t)).before a st = _
    rw [Jvm.Cond.before_and, ih, List.all_cons]
def words1 : List Jvm.Cond := Jvm.Cond.code x code maxLocals ret :: tables_1
/-- a 'code' word, met by the world's own term for the bytes: nothing is compared byte by byte -/
theorem code_word {y : MethodName} {bytes : ByteArray} {mx : Nat} {rt : Option FieldType} {a : Array Value} {s : State} {m : MethodId} {meth : Method} {c : Code} (h1 : s.methodNamed? y = some m) (h2 : s.vm.method? m = some meth) (h3 : meth.code = some c) (h4 : c.code = bytes)
    (h5 : (c.maxLocals == mx && c.exceptionTable.isEmpty && decide (c.maxStack ≤ mostOperands) && decide (meth.sig.returnType = rt) && !meth.locks && decide (parseMethodDescriptor y.desc = some meth.sig)) = true) : (Jvm.Cond.code y bytes mx rt).before a s = true := by
  simp only [Bool.and_eq_true, beq_iff_eq, Bool.not_eq_true', decide_eq_true_eq] at h5
  obtain ⟨⟨⟨⟨⟨g1, g2⟩, g3⟩, g4⟩, g5⟩, g6⟩ := h5
  simp [Cond.before, Cond.holds, Cond.value, h1, h2, h3, h4, g1, g2, g3, g4, g5, g6]
def isCode : Jvm.Cond → Bool
  | .code _ _ _ _ => true
  | _ => false
theorem all_split {L : List Jvm.Cond} {P : Jvm.Cond → Bool} (h1 : L.all (fun c => isCode c || P c) = true) (h2 : ∀ c ∈ L.filter isCode, P c = true) : L.all P = true := by
  refine List.all_eq_true.mpr fun c hc => ?_
  have h := List.all_eq_true.mp h1 c hc
  rcases Bool.eq_false_or_eq_true (isCode c) with hi | hi
  · exact h2 c (List.mem_filter.mpr ⟨hc, hi⟩)
  · simpa [hi] using h
set_option maxRecDepth 65536 in
theorem w_c0 : (Jvm.Cond.code x code maxLocals ret).before args0 about1 = true := code_word (m := ⟨1, 2⟩) (meth := k1m2) (c := k1c2) (by decide +kernel) rfl rfl rfl (by decide +kernel)
set_option maxRecDepth 65536 in
theorem w_c1 : (Jvm.Cond.code ({ cls := "com/example/leafweight/leafweight/Header", name := "bytes", desc := "()[B" } : Jvm.MethodName) prog_8_method_2_code (1 : Nat) (Option.some (Jvm.ClassFile.FieldType.array Jvm.ClassFile.FieldType.byte))).before args0 about1 = true := code_word (m := ⟨2, 1⟩) (meth := k2m1) (c := k2c1) (by decide +kernel) rfl rfl rfl (by decide +kernel)
set_option maxRecDepth 65536 in
theorem w_c2 : (Jvm.Cond.code ({ cls := "java/util/Arrays", name := "copyOf", desc := "([BI)[B" } : Jvm.MethodName) jdk_65_method_121_code (3 : Nat) (Option.some (Jvm.ClassFile.FieldType.array Jvm.ClassFile.FieldType.byte))).before args0 about1 = true := code_word (m := ⟨3, 1⟩) (meth := k3m1) (c := k3c1) (by decide +kernel) rfl rfl rfl (by decide +kernel)
set_option maxRecDepth 65536 in
theorem w_c3 : (Jvm.Cond.code ({ cls := "java/lang/Math", name := "min", desc := "(II)I" } : Jvm.MethodName) jdk_29_method_69_code (2 : Nat) (Option.some Jvm.ClassFile.FieldType.int)).before args0 about1 = true := code_word (m := ⟨4, 1⟩) (meth := k4m1) (c := k4c1) (by decide +kernel) rfl rfl rfl (by decide +kernel)
set_option maxRecDepth 65536 in
theorem w_c4 : (Jvm.Cond.code ({ cls := "com/example/leafweight/leafweight/HeaderBytesPinLaw", name := "isHeader", desc := "([B)Z" } : Jvm.MethodName) method_2_code (1 : Nat) (Option.some Jvm.ClassFile.FieldType.boolean)).before args0 about1 = true := code_word (m := ⟨1, 1⟩) (meth := k1m1) (c := k1c1) (by decide +kernel) rfl rfl rfl (by decide +kernel)
def codes1 : List Jvm.Cond := [Jvm.Cond.code x code maxLocals ret, Jvm.Cond.code ({ cls := "com/example/leafweight/leafweight/Header", name := "bytes", desc := "()[B" } : Jvm.MethodName) prog_8_method_2_code (1 : Nat) (Option.some (Jvm.ClassFile.FieldType.array Jvm.ClassFile.FieldType.byte)), Jvm.Cond.code ({ cls := "java/util/Arrays", name := "copyOf", desc := "([BI)[B" } : Jvm.MethodName) jdk_65_method_121_code (3 : Nat) (Option.some (Jvm.ClassFile.FieldType.array Jvm.ClassFile.FieldType.byte)), Jvm.Cond.code ({ cls := "java/lang/Math", name := "min", desc := "(II)I" } : Jvm.MethodName) jdk_29_method_69_code (2 : Nat) (Option.some Jvm.ClassFile.FieldType.int), Jvm.Cond.code ({ cls := "com/example/leafweight/leafweight/HeaderBytesPinLaw", name := "isHeader", desc := "([B)Z" } : Jvm.MethodName) method_2_code (1 : Nat) (Option.some Jvm.ClassFile.FieldType.boolean)]
set_option maxRecDepth 65536 in
theorem codes_eq : words1.filter isCode = codes1 := rfl
theorem w_codes : ∀ c ∈ words1.filter isCode, c.before args0 about1 = true := by
  rw [codes_eq]
  intro c hc
  simp only [codes1, List.mem_cons, List.not_mem_nil, or_false] at hc
  rcases hc with rfl | rfl | rfl | rfl | rfl
  · exact w_c0
  · exact w_c1
  · exact w_c2
  · exact w_c3
  · exact w_c4
set_option maxRecDepth 65536 in
theorem w_t1 : (words1.take 24).all (fun c => isCode c || c.before args0 about1) = true := by decide +kernel
set_option maxRecDepth 65536 in
theorem w_t2 : (words1.drop 24).all (fun c => isCode c || c.before args0 about1) = true := by decide +kernel
theorem w_tables : (allAtoms (Jvm.Cond.code x code maxLocals ret :: tables_1)).before args0 about1 = true := by
  rw [allAtoms_all]
  show words1.all (fun c => c.before args0 about1) = true
  refine all_split ?_ w_codes
  rw [← List.take_append_drop 24 words1, List.all_append, w_t1, w_t2]
  rfl
set_option maxRecDepth 65536 in
theorem w_case : (Jvm.Cond.and given_1 narrow_1).before args0 about1 = true := by decide +kernel
theorem w_applies : (headSpec (Jvm.Cond.code x code maxLocals ret :: tables_1) room_1).applies x e0.platform about1 = true :=
  (Spec.applies_iff w_frames).mpr ⟨w_running, w_runnable, w_alone, w_named, w_hears, w_ripe, w_room, w_tables⟩
theorem atStart : AtStart classFile x code maxLocals ret World_1 tables_1 room_1 Calls_1 rest_1 Pre_1 launch0 p0 e0 about1 theMethod args0 below0 :=
  ⟨lists_1, trivial, launch0.admits_env _ _ _, launch0.least_env, fairChoices_fair.cas, fairChoices_fair.clock, w_frames, w_args, w_heap, w_applies, trivial, trivial, w_case⟩
end start1
theorem witness_1 : WitnessClaimed_1 := ⟨start1.p0, start1.e0, start1.about1, start1.theMethod, start1.args0, start1.below0, start1.atStart⟩
end Jvm.Pilot.@@N@@
