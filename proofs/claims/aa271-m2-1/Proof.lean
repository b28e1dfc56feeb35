import JvmDerived
import JvmDerived.Pilot.@@N@@Statement
import JvmDerived.Pilot.@@N@@Code
set_option linter.unusedVariables false
set_option linter.unusedSimpArgs false
namespace Jvm.Pilot.@@N@@
open Jvm Jvm.ClassFile Sem Op Lib Jvm.Free Jvm.Stand Jvm.LawKit Jvm.RoadKit Bundle Jvm.Pilot.@@N@@.Jvm.D
/-! 1. my way of walking: 'from here the run comes to an end that G allows' -/
def Rch (p : Program) (e : Env) (below : List Frame) (G : Outcome → State → Prop) (T : State) (f : JFrame) : Prop := ∃ s₂ o, Steps p.tables e below (T.setTop f) s₂ ∧ s₂.status = .running ∧ Ended s₂ below o ∧ G o s₂
def Gd (s : State) (Q : Option Value → Heap → List Loc → Prop) (k n : Nat) : Outcome → State → Prop := fun o U' => ∃ v L, o = .returned v ∧ Q v U'.heap L ∧ FrameEnd s o U' L k n
section Own
variable {p : Program} {l : Launch} {e : Env} {R : Room} {s : State} {m : MethodId} {args : Array Value} {below : List Frame} {meth : Method} {c : Code} {T T' : State} {f f' : JFrame} {locs : List Loc} {cells slots k n : Nat} {G : Outcome → State → Prop} {Q : Option Value → Heap → List Loc → Prop}
theorem own_go (st : ∀ t, Steps p.tables e below (T'.setTop f') t → Steps p.tables e below (T.setTop f) t) (r : Rch p e below G T' f') : Rch p e below G T f := by
  obtain ⟨s₂, o, h1, h2⟩ := r
  exact ⟨s₂, o, st _ h1, h2⟩
theorem own_go2 (st : Steps p.tables e below (T.setTop f) (T'.setTop f')) (r : Rch p e below G T' f') : Rch p e below G T f := own_go (fun t h => st.trans h) r
theorem own_fin (X : Stand p l e R s m args below meth c T locs cells slots) (hlk : meth.locks = false) {v : Option Value} (hv : meth.sig.returnType = none → v = none) (hc : cells ≤ k) (hs : slots ≤ n)
    (st : ∀ fs, (∀ (f : JFrame) (acts : List Action), f.method = m → f.locked = none → f.entered = [] → (doReturn e (T.setTop f) acts v).1 = T.setFrames fs) → Steps p.tables e below (T.setTop f) (T.setFrames fs)) (hQ : Q v T.heap locs) : Rch p e below (Gd s Q k n) T f := by
  obtain ⟨fs, hr, hrun, hended, hW, hsame⟩ := X.leave hv hlk
  exact ⟨_, _, st fs hr, hrun, hended, _, _, rfl, hQ, ⟨_, rfl⟩, hW, hsame.mono hc hs⟩
theorem own_retV (X : Stand p l e R s m args below meth c T locs cells slots) (hx : p.tables.exec = Jvm.exec) (hlk : meth.locks = false) (hret : meth.sig.returnType = none) {pc : Nat} {Ls : Array Slot} (hd : decode c.code pc = .ok (.return_, 1)) (hc : cells ≤ k) (hs : slots ≤ n) (hQ : Q none T.heap locs) : Rch p e below (Gd s Q k n) T (mkF m pc Ls []) :=
  own_fin X hlk (fun _ => rfl) hc hs (fun fs hr => X.returnOut hx hret hd hr) hQ
theorem own_retN (X : Stand p l e R s m args below meth c T locs cells slots) (hx : p.tables.exec = Jvm.exec) (hlk : meth.locks = false) {t : FieldType} (hret : meth.sig.returnType = some t) (ht : t = .boolean ∨ t = .byte ∨ t = .char ∨ t = .short) {pc : Nat} {Ls : Array Slot} {z w : Int32} {rest : List Value} (hd : decode c.code pc = .ok (.ireturn, 1)) (hz : nar t z = w) (hc : cells ≤ k) (hs : slots ≤ n) (hQ : Q (some (.int w)) T.heap locs) : Rch p e below (Gd s Q k n) T (mkF m pc Ls (.int z :: rest)) :=
  own_fin X hlk (fun h => by rw [hret] at h; cases h) hc hs (fun fs hr => retN X hx hret ht hd (by rw [hz]; exact hr)) hQ
theorem own_retI (X : Stand p l e R s m args below meth c T locs cells slots) (hx : p.tables.exec = Jvm.exec) (hlk : meth.locks = false) (hret : meth.sig.returnType = some .int) {pc : Nat} {Ls : Array Slot} {z : Int32} {rest : List Value} (hd : decode c.code pc = .ok (.ireturn, 1)) (hc : cells ≤ k) (hs : slots ≤ n) (hQ : Q (some (.int z)) T.heap locs) : Rch p e below (Gd s Q k n) T (mkF m pc Ls (.int z :: rest)) :=
  own_fin X hlk (fun h => by rw [hret] at h; cases h) hc hs (fun fs hr => retOut X hx hret rfl (Or.inl ⟨rfl, Or.inl rfl, z, rfl⟩) hd hr) hQ
theorem own_retJ (X : Stand p l e R s m args below meth c T locs cells slots) (hx : p.tables.exec = Jvm.exec) (hlk : meth.locks = false) (hret : meth.sig.returnType = some .long) {pc : Nat} {Ls : Array Slot} {z : Int64} {rest : List Value} (hd : decode c.code pc = .ok (.lreturn, 1)) (hc : cells ≤ k) (hs : slots ≤ n) (hQ : Q (some (.long z)) T.heap locs) : Rch p e below (Gd s Q k n) T (mkF m pc Ls (.long z :: rest)) :=
  own_fin X hlk (fun h => by rw [hret] at h; cases h) hc hs (fun fs hr => retOut X hx hret rfl (Or.inr (Or.inl ⟨rfl, rfl, z, rfl⟩)) hd hr) hQ
theorem own_retA (X : Stand p l e R s m args below meth c T locs cells slots) (hx : p.tables.exec = Jvm.exec) (hlk : meth.locks = false) {t : FieldType} (hret : meth.sig.returnType = some t) (ht : t.isReference = true) {w : Value} (hw : w.isRef = true) {pc : Nat} {Ls : Array Slot} {rest : List Value} (hd : decode c.code pc = .ok (.areturn, 1)) (hc : cells ≤ k) (hs : slots ≤ n) (hQ : Q (some w) T.heap locs) : Rch p e below (Gd s Q k n) T (mkF m pc Ls (w :: rest)) :=
  own_fin X hlk (fun h => by rw [hret] at h; cases h) hc hs (fun fs hr => retOut X hx hret (by rcases ref_cases hw with rfl | ⟨a, rfl⟩ <;> (cases t <;> first | rfl | cases ht)) (Or.inr (Or.inr (Or.inr (Or.inr ⟨rfl, ht, hw⟩)))) hd hr) hQ
end Own

theorem own_free {Z : State} {h : Heap} {a : Addr} {k : ClassId} {ty : FieldType} {n : Int32} {vs vs' : List Value} {d : Value} (V : Arv Z h a k ty n vs d) (q : ∀ i, i < n.toNatClampNeg → vs'.getD i d = vs.getD i d) : Arv Z h a k ty n vs' d := by
  obtain ⟨c, A, r1, r2, r3, H, G⟩ := V
  exact ⟨c, A, r1, r2, r3, fun i hi => by rw [q i (r2 ▸ hi)]; exact H i hi, fun i hi => by rw [q i (r2 ▸ hi)]; exact G i hi⟩
theorem own_nat (n : Int32) : n.toNatClampNeg = n.toInt.toNat := rfl
theorem own_l0 : (0 : Int32).toInt = 0 := by decide
theorem own_l1 : (1 : Int32).toInt = 1 := by decide
theorem own_l2 : (2 : Int32).toInt = 2 := by decide
theorem own_in0 {n : Int32} (h : ¬ n < (2 : Int32)) : ¬ (0 : Int32) < 0 ∧ (0 : Int32) < n := by
  simp only [Int32.lt_iff_toInt_lt, own_l0, own_l2] at *
  omega
theorem own_in1 {n : Int32} (h : ¬ n < (2 : Int32)) : ¬ (1 : Int32) < 0 ∧ (1 : Int32) < n := by
  simp only [Int32.lt_iff_toInt_lt, own_l0, own_l1, own_l2] at *
  omega
theorem own_by (x : Int32) : x.toInt8.toInt32.toInt8.toInt32 = x.toInt8.toInt32 := by simp
def own_sg (n x y : Int32) : Int32 := if n < (2 : Int32) then 0 else if (x &&& (255 : Int32)) = (31 : Int32) then (if (y &&& (255 : Int32)) = (139 : Int32) then 1 else 0) else 0
def own_ex (n x y : Int32) : Int32 := if n < (2 : Int32) then 0 else if x = (31 : Int32) then (if y = (-117 : Int32) then 1 else 0) else 0
theorem own_law (n x y : Int32) (hx : x.toInt8.toInt32 = x) (hy : y.toInt8.toInt32 = y) : own_sg n x y = own_ex n x y := by
  have a1 := c_i2b x
  have a2 := c_i2b y
  rw [hx] at a1
  rw [hy] at a2
  have m1 := c_mask x 255 8 (by decide) (by decide)
  have m2 := c_mask y 255 8 (by decide) (by decide)
  have h1 : (31 : Int32).toInt = 31 := by decide
  have h2 : (139 : Int32).toInt = 139 := by decide
  have h3 : (-117 : Int32).toInt = -117 := by decide
  have p1 : ((x &&& (255 : Int32)) = (31 : Int32)) = (x = (31 : Int32)) := by
    simp only [← Int32.toInt_inj, m1, h1]
    apply propext
    omega
  have p2 : ((y &&& (255 : Int32)) = (139 : Int32)) = (y = (-117 : Int32)) := by
    simp only [← Int32.toInt_inj, m2, h2, h3]
    apply propext
    omega
  unfold own_sg own_ex
  simp only [p1, p2]
theorem d1_0 : decode prog_25_method_2_code 0 = .ok (.aload_n 0, 1) := by decide +kernel
theorem d1_1 : decode prog_25_method_2_code 1 = .ok (.arraylength, 1) := by decide +kernel
theorem d1_2 : decode prog_25_method_2_code 2 = .ok (.iconst 2, 1) := by decide +kernel
theorem d1_3 : decode prog_25_method_2_code 3 = .ok (.if_icmp .lt 32, 3) := by decide +kernel
theorem d1_35 : decode prog_25_method_2_code 35 = .ok (.iconst 0, 1) := by decide +kernel
theorem d1_36 : decode prog_25_method_2_code 36 = .ok (.ireturn, 1) := by decide +kernel
theorem d1_6 : decode prog_25_method_2_code 6 = .ok (.aload_n 0, 1) := by decide +kernel
theorem d1_7 : decode prog_25_method_2_code 7 = .ok (.iconst 0, 1) := by decide +kernel
theorem d1_8 : decode prog_25_method_2_code 8 = .ok (.baload, 1) := by decide +kernel
theorem d1_9 : decode prog_25_method_2_code 9 = .ok (.sipush 255, 3) := by decide +kernel
theorem d1_12 : decode prog_25_method_2_code 12 = .ok (.iand, 1) := by decide +kernel
theorem d1_13 : decode prog_25_method_2_code 13 = .ok (.bipush 31, 2) := by decide +kernel
theorem d1_15 : decode prog_25_method_2_code 15 = .ok (.if_icmp .ne 20, 3) := by decide +kernel
theorem d1_18 : decode prog_25_method_2_code 18 = .ok (.aload_n 0, 1) := by decide +kernel
theorem d1_19 : decode prog_25_method_2_code 19 = .ok (.iconst 1, 1) := by decide +kernel
theorem d1_20 : decode prog_25_method_2_code 20 = .ok (.baload, 1) := by decide +kernel
theorem d1_21 : decode prog_25_method_2_code 21 = .ok (.sipush 255, 3) := by decide +kernel
theorem d1_24 : decode prog_25_method_2_code 24 = .ok (.iand, 1) := by decide +kernel
theorem d1_25 : decode prog_25_method_2_code 25 = .ok (.sipush 139, 3) := by decide +kernel
theorem d1_28 : decode prog_25_method_2_code 28 = .ok (.if_icmp .ne 7, 3) := by decide +kernel
theorem d1_31 : decode prog_25_method_2_code 31 = .ok (.iconst 1, 1) := by decide +kernel
theorem d1_32 : decode prog_25_method_2_code 32 = .ok (.goto 4, 3) := by decide +kernel
theorem pn_1 : plainName "com/example/deft_index/deftindex/collection/GzipMembers" = true := by first | (simp [plainName, overriddenIn]; done) | decide +kernel
theorem ef_1 (m : MethodId) (x0 : Addr) : entryFrame m #[(.ref x0)] 1 = mkF m 0 #[.val (.ref x0)] [] := by first | (simp [entryFrame, mkF, argsToLocals, Value.category]; done) | rfl
def Q1 (Z : State) (u0 : Addr) (k : ClassId) (n : Int32) (x0 : Int32) (x1 : Int32) (x2 : Int32) (h0 : Heap) (n0 : Nat) (v : Option Value) (h : Heap) (L : List Loc) : Prop := v = some (.int (own_sg n x0 x1)) ∧ Fr n0 L ∧ h = h0
set_option maxRecDepth 65536 in
set_option maxHeartbeats 40000000 in
theorem rm1 (l : Launch) (Z : State) (a0 : Array Value) (hw : ∀ d ∈ tables_1, d.before a0 Z = true) (ws : List Jvm.Cond) (u0 : Addr) (k : ClassId) (n : Int32) (x0 : Int32) (x1 : Int32) (x2 : Int32) (h0 : Heap) (n0 : Nat) (Z0 : n0 ≤ h0.size) (V : Arv Z h0 u0 k .byte n [.int x0, .int x1, .int x2] (.int (0 : Int32))) :
    MetFree l (⟨"com/example/deft_index/deftindex/collection/GzipMembers", "startsGzip", "([B)Z"⟩ : MethodName) (head1 (Jvm.Cond.code (⟨"com/example/deft_index/deftindex/collection/GzipMembers", "startsGzip", "([B)Z"⟩ : MethodName) prog_25_method_2_code 1 (some .boolean) :: ws) ({ frames := 0, cells := 0, slots := 0, locals := 0 } : Room)) (fun a U => a = #[(.ref u0)] ∧ Z.Warmed39 U.vm ∧ U.heap = h0) (fun _ _ _ _ _ => True) (fun _ U o U' => ∃ v L, o = .returned v ∧ Q1 Z u0 k n x0 x1 x2 h0 n0 v U'.heap L ∧ FrameEnd U o U' L ({ frames := 0, cells := 0, slots := 0, locals := 0 } : Room).cells ({ frames := 0, cells := 0, slots := 0, locals := 0 } : Room).slots) := by
  refine MetFree.of_bodySF (plainFor_of_name pn_1) hisR ?_
  intro p e s m args below meth c s₁ Bd hml0 hP hK
  obtain ⟨rfl, hZ, hh⟩ := hP
  have hx := Bd.exec
  have hby := Bd.bytes
  have hlk := Bd.notSynchronized
  have hret := Bd.returns
  have hml : c.maxLocals = 1 := hml0
  have hown : s.vm.findClass "com/example/deft_index/deftindex/collection/GzipMembers" = some m.cls := findClass_of_methodNamed Bd.named
  have hnm := (name_of_methodNamed Bd.named Bd.method).1
  have X0 : Stand p l e ({ frames := 0, cells := 0, slots := 0, locals := 0 } : Room) s m #[(.ref u0)] below meth c s₁ [] 0 0 := Stand.of_body Bd
  have e0 : s₁.heap = h0 := by rw [← hh, Bd.state]; rfl
  have N0 := Fr.nil n0
  suffices G0 : Rch p e below (Gd s (Q1 Z u0 k n x0 x1 x2 h0 n0) ({ frames := 0, cells := 0, slots := 0, locals := 0 } : Room).cells ({ frames := 0, cells := 0, slots := 0, locals := 0 } : Room).slots) s₁ (mkF m 0 #[.val (.ref u0)] []) by
    obtain ⟨s₂, o, r1, r2, r3, r4⟩ := G0
    exact ⟨s₂, o, castTop (ef_1 m u0) r1, r2, r3, r4⟩
  refine own_go (T := s₁) (T' := s₁) (f := (mkF m 0 #[.val (.ref u0)] [])) (f' := (mkF m 1 #[.val (.ref u0)] [(.ref u0)])) (fun t k => ?_) ?_
  · show Steps p.tables e below (s₁.setTop (mkF m 0 #[.val (.ref u0)] [])) _
    refine XS.aloadN X0.here hx rfl (hb hby d1_0) rfl rfl ?_
    exact k
  obtain ⟨cl1, Ar1, q11, q21, q31, q41, q51⟩ := id V
  refine own_go (T := s₁) (T' := s₁) (f := (mkF m 1 #[.val (.ref u0)] [(.ref u0)])) (f' := (mkF m 2 #[.val (.ref u0)] [(.int n)])) (fun t k => ?_) ?_
  · refine X0.arraylength hx (by rw [e0]; exact Ar1.1) (State.isArrayOf_alike hZ.alike Ar1.2.1) (g := (mkF m 1 #[.val (.ref u0)] [(.ref u0)])) rfl rfl (hb hby d1_1) _ ?_
    rw [len_of q21 q31]
    exact k
  refine own_go (T := s₁) (T' := s₁) (f := (mkF m 2 #[.val (.ref u0)] [(.int n)])) (f' := (mkF m 3 #[.val (.ref u0)] [(.int (2 : Int32)), (.int n)])) (fun t k => ?_) ?_
  · show Steps p.tables e below (s₁.setTop (mkF m 2 #[.val (.ref u0)] [(.int n)])) _
    refine XS.iconst X0.here hx rfl (hb hby d1_2) ?_
    exact k
  by_cases hc3 : n < (2 : Int32)
  · refine own_go (T := s₁) (T' := s₁) (f := (mkF m 3 #[.val (.ref u0)] [(.int (2 : Int32)), (.int n)])) (f' := (mkF m 35 #[.val (.ref u0)] [])) (fun t k => ?_) ?_
    · show Steps p.tables e below (s₁.setTop (mkF m 3 #[.val (.ref u0)] [(.int (2 : Int32)), (.int n)])) _
      refine XS.icmpYes X0.here hx rfl (pc0 := 3) (pc' := 35) rfl (hb hby d1_3) rfl (tlt hc3).1 (by decide) (by decide) ?_
      exact k
    refine own_go (T := s₁) (T' := s₁) (f := (mkF m 35 #[.val (.ref u0)] [])) (f' := (mkF m 36 #[.val (.ref u0)] [(.int (0 : Int32))])) (fun t k => ?_) ?_
    · show Steps p.tables e below (s₁.setTop (mkF m 35 #[.val (.ref u0)] [])) _
      refine XS.iconst X0.here hx rfl (hb hby d1_35) ?_
      exact k
    exact own_retN X0 hx hlk (t := .boolean) (w := (0 : Int32)) hret (by simp) (hb hby d1_36) rfl (by decide) (by decide) (by rw [e0]; exact ⟨(by simp [own_sg, hc3]), N0, rfl⟩)
  · refine own_go (T := s₁) (T' := s₁) (f := (mkF m 3 #[.val (.ref u0)] [(.int (2 : Int32)), (.int n)])) (f' := (mkF m 6 #[.val (.ref u0)] [])) (fun t k => ?_) ?_
    · show Steps p.tables e below (s₁.setTop (mkF m 3 #[.val (.ref u0)] [(.int (2 : Int32)), (.int n)])) _
      refine XS.icmpNo X0.here hx rfl (hb hby d1_3) rfl (flt hc3).1 ?_
      exact k
    refine own_go (T := s₁) (T' := s₁) (f := (mkF m 6 #[.val (.ref u0)] [])) (f' := (mkF m 8 #[.val (.ref u0)] [(.int (0 : Int32)), (.ref u0)])) (fun t k => ?_) ?_
    · show Steps p.tables e below (s₁.setTop (mkF m 6 #[.val (.ref u0)] [])) _
      refine XS.aloadN X0.here hx rfl (hb hby d1_6) rfl rfl ?_
      show Steps p.tables e below (s₁.setTop (mkF m 7 #[.val (.ref u0)] [(.ref u0)])) _
      refine XS.iconst X0.here hx rfl (hb hby d1_7) ?_
      exact k
    obtain ⟨cl2, Ar2, q12, q22, q32, q42, q52⟩ := id V
    have hin2 : ¬ ((0 : Int32) < 0 ∨ cl2.slots.size ≤ ((0 : Int32)).toNatClampNeg) := inb_of q22 (own_in0 hc3)
    refine own_go (f' := (mkF m 9 #[.val (.ref u0)] [(.int x0)])) (X0.baloadBytes hx (j := (0 : Int32)) (v := (.int x0)) (by rw [e0]; exact Ar2.1) (State.isArrayOf_alike hZ.alike Ar2.2.1) Ar2.2.2 hin2 (Has.at q42 hin2 rfl) (g := (mkF m 8 #[.val (.ref u0)] [(.int (0 : Int32)), (.ref u0)])) rfl rfl (hb hby d1_8)) ?_
    show Rch p e below _ s₁ (mkF m 9 #[.val (.ref u0)] [(.int x0)])
    refine own_go (T := s₁) (T' := s₁) (f := (mkF m 9 #[.val (.ref u0)] [(.int x0)])) (f' := (mkF m 15 #[.val (.ref u0)] [(.int (31 : Int32)), (.int (x0 &&& (255 : Int32)))])) (fun t k => ?_) ?_
    · show Steps p.tables e below (s₁.setTop (mkF m 9 #[.val (.ref u0)] [(.int x0)])) _
      refine XS.sipush X0.here hx rfl (hb hby d1_9) ?_
      show Steps p.tables e below (s₁.setTop (mkF m 12 #[.val (.ref u0)] [(.int (255 : Int32)), (.int x0)])) _
      refine XS.iand X0.here hx rfl (hb hby d1_12) rfl ?_
      show Steps p.tables e below (s₁.setTop (mkF m 13 #[.val (.ref u0)] [(.int (x0 &&& (255 : Int32)))])) _
      refine XS.bipush X0.here hx rfl (hb hby d1_13) ?_
      exact k
    by_cases hc15 : (x0 &&& (255 : Int32)) = (31 : Int32)
    · refine own_go (T := s₁) (T' := s₁) (f := (mkF m 15 #[.val (.ref u0)] [(.int (31 : Int32)), (.int (x0 &&& (255 : Int32)))])) (f' := (mkF m 18 #[.val (.ref u0)] [])) (fun t k => ?_) ?_
      · show Steps p.tables e below (s₁.setTop (mkF m 15 #[.val (.ref u0)] [(.int (31 : Int32)), (.int (x0 &&& (255 : Int32)))])) _
        refine XS.icmpNo X0.here hx rfl (hb hby d1_15) rfl (teq hc15).2 ?_
        exact k
      refine own_go (T := s₁) (T' := s₁) (f := (mkF m 18 #[.val (.ref u0)] [])) (f' := (mkF m 20 #[.val (.ref u0)] [(.int (1 : Int32)), (.ref u0)])) (fun t k => ?_) ?_
      · show Steps p.tables e below (s₁.setTop (mkF m 18 #[.val (.ref u0)] [])) _
        refine XS.aloadN X0.here hx rfl (hb hby d1_18) rfl rfl ?_
        show Steps p.tables e below (s₁.setTop (mkF m 19 #[.val (.ref u0)] [(.ref u0)])) _
        refine XS.iconst X0.here hx rfl (hb hby d1_19) ?_
        exact k
      obtain ⟨cl3, Ar3, q13, q23, q33, q43, q53⟩ := id V
      have hin3 : ¬ ((1 : Int32) < 0 ∨ cl3.slots.size ≤ ((1 : Int32)).toNatClampNeg) := inb_of q23 (own_in1 hc3)
      refine own_go (f' := (mkF m 21 #[.val (.ref u0)] [(.int x1)])) (X0.baloadBytes hx (j := (1 : Int32)) (v := (.int x1)) (by rw [e0]; exact Ar3.1) (State.isArrayOf_alike hZ.alike Ar3.2.1) Ar3.2.2 hin3 (Has.at q43 hin3 rfl) (g := (mkF m 20 #[.val (.ref u0)] [(.int (1 : Int32)), (.ref u0)])) rfl rfl (hb hby d1_20)) ?_
      show Rch p e below _ s₁ (mkF m 21 #[.val (.ref u0)] [(.int x1)])
      refine own_go (T := s₁) (T' := s₁) (f := (mkF m 21 #[.val (.ref u0)] [(.int x1)])) (f' := (mkF m 28 #[.val (.ref u0)] [(.int (139 : Int32)), (.int (x1 &&& (255 : Int32)))])) (fun t k => ?_) ?_
      · show Steps p.tables e below (s₁.setTop (mkF m 21 #[.val (.ref u0)] [(.int x1)])) _
        refine XS.sipush X0.here hx rfl (hb hby d1_21) ?_
        show Steps p.tables e below (s₁.setTop (mkF m 24 #[.val (.ref u0)] [(.int (255 : Int32)), (.int x1)])) _
        refine XS.iand X0.here hx rfl (hb hby d1_24) rfl ?_
        show Steps p.tables e below (s₁.setTop (mkF m 25 #[.val (.ref u0)] [(.int (x1 &&& (255 : Int32)))])) _
        refine XS.sipush X0.here hx rfl (hb hby d1_25) ?_
        exact k
      by_cases hc28 : (x1 &&& (255 : Int32)) = (139 : Int32)
      · refine own_go (T := s₁) (T' := s₁) (f := (mkF m 28 #[.val (.ref u0)] [(.int (139 : Int32)), (.int (x1 &&& (255 : Int32)))])) (f' := (mkF m 31 #[.val (.ref u0)] [])) (fun t k => ?_) ?_
        · show Steps p.tables e below (s₁.setTop (mkF m 28 #[.val (.ref u0)] [(.int (139 : Int32)), (.int (x1 &&& (255 : Int32)))])) _
          refine XS.icmpNo X0.here hx rfl (hb hby d1_28) rfl (teq hc28).2 ?_
          exact k
        refine own_go (T := s₁) (T' := s₁) (f := (mkF m 31 #[.val (.ref u0)] [])) (f' := (mkF m 36 #[.val (.ref u0)] [(.int (1 : Int32))])) (fun t k => ?_) ?_
        · show Steps p.tables e below (s₁.setTop (mkF m 31 #[.val (.ref u0)] [])) _
          refine XS.iconst X0.here hx rfl (hb hby d1_31) ?_
          show Steps p.tables e below (s₁.setTop (mkF m 32 #[.val (.ref u0)] [(.int (1 : Int32))])) _
          refine XS.goto X0.here hx rfl (pc0 := 32) (pc' := 36) rfl (hb hby d1_32) (by decide) (by decide) ?_
          exact k
        exact own_retN X0 hx hlk (t := .boolean) (w := (1 : Int32)) hret (by simp) (hb hby d1_36) rfl (by decide) (by decide) (by rw [e0]; exact ⟨(by simp [own_sg, hc3, hc15, hc28]), N0, rfl⟩)
      · refine own_go (T := s₁) (T' := s₁) (f := (mkF m 28 #[.val (.ref u0)] [(.int (139 : Int32)), (.int (x1 &&& (255 : Int32)))])) (f' := (mkF m 35 #[.val (.ref u0)] [])) (fun t k => ?_) ?_
        · show Steps p.tables e below (s₁.setTop (mkF m 28 #[.val (.ref u0)] [(.int (139 : Int32)), (.int (x1 &&& (255 : Int32)))])) _
          refine XS.icmpYes X0.here hx rfl (pc0 := 28) (pc' := 35) rfl (hb hby d1_28) rfl (feq hc28).2 (by decide) (by decide) ?_
          exact k
        refine own_go (T := s₁) (T' := s₁) (f := (mkF m 35 #[.val (.ref u0)] [])) (f' := (mkF m 36 #[.val (.ref u0)] [(.int (0 : Int32))])) (fun t k => ?_) ?_
        · show Steps p.tables e below (s₁.setTop (mkF m 35 #[.val (.ref u0)] [])) _
          refine XS.iconst X0.here hx rfl (hb hby d1_35) ?_
          exact k
        exact own_retN X0 hx hlk (t := .boolean) (w := (0 : Int32)) hret (by simp) (hb hby d1_36) rfl (by decide) (by decide) (by rw [e0]; exact ⟨(by simp [own_sg, hc3, hc15, hc28]), N0, rfl⟩)
    · refine own_go (T := s₁) (T' := s₁) (f := (mkF m 15 #[.val (.ref u0)] [(.int (31 : Int32)), (.int (x0 &&& (255 : Int32)))])) (f' := (mkF m 35 #[.val (.ref u0)] [])) (fun t k => ?_) ?_
      · show Steps p.tables e below (s₁.setTop (mkF m 15 #[.val (.ref u0)] [(.int (31 : Int32)), (.int (x0 &&& (255 : Int32)))])) _
        refine XS.icmpYes X0.here hx rfl (pc0 := 15) (pc' := 35) rfl (hb hby d1_15) rfl (feq hc15).2 (by decide) (by decide) ?_
        exact k
      refine own_go (T := s₁) (T' := s₁) (f := (mkF m 35 #[.val (.ref u0)] [])) (f' := (mkF m 36 #[.val (.ref u0)] [(.int (0 : Int32))])) (fun t k => ?_) ?_
      · show Steps p.tables e below (s₁.setTop (mkF m 35 #[.val (.ref u0)] [])) _
        refine XS.iconst X0.here hx rfl (hb hby d1_35) ?_
        exact k
      exact own_retN X0 hx hlk (t := .boolean) (w := (0 : Int32)) hret (by simp) (hb hby d1_36) rfl (by decide) (by decide) (by rw [e0]; exact ⟨(by simp [own_sg, hc3, hc15]), N0, rfl⟩)
theorem pd__28_5bB_29Z : parseMethodDescriptor "([B)Z" = some ⟨[(.array .byte)], some .boolean⟩ := by decide +kernel
theorem pn_0 : plainName "com/example/deft_index/deftindex/collection/GzipMembersStartsGzipPinLaw" = true := by first | (simp [plainName, overriddenIn]; done) | decide +kernel
theorem ef_0 (m : MethodId) (x0 : Int32) (x1 : Int32) (x2 : Int32) (x3 : Int32) : entryFrame m #[(.int x0), (.int x1), (.int x2), (.int x3)] maxLocals = mkF m 0 #[.val (.int x0), .val (.int x1), .val (.int x2), .val (.int x3), .unset, .unset, .unset, .unset, .unset, .unset] [] := by first | (simp [entryFrame, mkF, argsToLocals, Value.category, maxLocals]; done) | rfl
def Q0 (Z : State) (p0 : Int32) (p1 : Int32) (p2 : Int32) (p3 : Int32) (h0 : Heap) (n0 : Nat) (v : Option Value) (h : Heap) (L : List Loc) : Prop := v = some (.int 1) ∧ Fr n0 L
set_option maxRecDepth 65536 in
set_option maxHeartbeats 40000000 in
theorem rm0 (l : Launch) (Z : State) (a0 : Array Value) (hw : ∀ d ∈ tables_1, d.before a0 Z = true) (ws : List Jvm.Cond) (p0 : Int32) (p1 : Int32) (p2 : Int32) (p3 : Int32) (h0 : Heap) (n0 : Nat) (Z0 : n0 ≤ h0.size) :
    MetFree l x (head1 (Jvm.Cond.code x code maxLocals ret :: ws) room_1) (fun a U => a = #[(.int p0), (.int p1), (.int p2), (.int p3)] ∧ Z.Warmed39 U.vm ∧ U.heap = h0) (fun _ _ _ _ _ => True) (fun _ U o U' => ∃ v L, o = .returned v ∧ Q0 Z p0 p1 p2 p3 h0 n0 v U'.heap L ∧ FrameEnd U o U' L room_1.cells room_1.slots) := by
  refine MetFree.of_bodySF (plainFor_of_name pn_0) hisR ?_
  intro p e s m args below meth c s₁ Bd hml0 hP hK
  obtain ⟨rfl, hZ, hh⟩ := hP
  have hx := Bd.exec
  have hby := Bd.bytes
  have hlk := Bd.notSynchronized
  have hret := Bd.returns
  have hml : c.maxLocals = 10 := hml0
  have hown : s.vm.findClass "com/example/deft_index/deftindex/collection/GzipMembersStartsGzipPinLaw" = some m.cls := findClass_of_methodNamed Bd.named
  have hnm := (name_of_methodNamed Bd.named Bd.method).1
  have X0 : Stand p l e room_1 s m #[(.int p0), (.int p1), (.int p2), (.int p3)] below meth c s₁ [] 0 0 := Stand.of_body Bd
  have e0 : s₁.heap = h0 := by rw [← hh, Bd.state]; rfl
  have N0 := Fr.nil n0
  suffices G0 : Rch p e below (Gd s (Q0 Z p0 p1 p2 p3 h0 n0) room_1.cells room_1.slots) s₁ (mkF m 0 #[.val (.int p0), .val (.int p1), .val (.int p2), .val (.int p3), .unset, .unset, .unset, .unset, .unset, .unset] []) by
    obtain ⟨s₂, o, r1, r2, r3, r4⟩ := G0
    exact ⟨s₂, o, castTop (ef_0 m p0 p1 p2 p3) r1, r2, r3, r4⟩
  refine own_go (T := s₁) (T' := s₁) (f := (mkF m 0 #[.val (.int p0), .val (.int p1), .val (.int p2), .val (.int p3), .unset, .unset, .unset, .unset, .unset, .unset] [])) (f' := (mkF m 5 #[.val (.int p0), .val (.int p1), .val (.int p2), .val (.int p3), .val (.int (p0 &&& (3 : Int32))), .unset, .unset, .unset, .unset, .unset] [])) (fun t k => ?_) ?_
  · show Steps p.tables e below (s₁.setTop (mkF m 0 #[.val (.int p0), .val (.int p1), .val (.int p2), .val (.int p3), .unset, .unset, .unset, .unset, .unset, .unset] [])) _
    refine XS.iloadN X0.here hx rfl (hb hby at_0) rfl ?_
    show Steps p.tables e below (s₁.setTop (mkF m 1 #[.val (.int p0), .val (.int p1), .val (.int p2), .val (.int p3), .unset, .unset, .unset, .unset, .unset, .unset] [(.int p0)])) _
    refine XS.iconst X0.here hx rfl (hb hby at_1) ?_
    show Steps p.tables e below (s₁.setTop (mkF m 2 #[.val (.int p0), .val (.int p1), .val (.int p2), .val (.int p3), .unset, .unset, .unset, .unset, .unset, .unset] [(.int (3 : Int32)), (.int p0)])) _
    refine XS.iand X0.here hx rfl (hb hby at_2) rfl ?_
    show Steps p.tables e below (s₁.setTop (mkF m 3 #[.val (.int p0), .val (.int p1), .val (.int p2), .val (.int p3), .unset, .unset, .unset, .unset, .unset, .unset] [(.int (p0 &&& (3 : Int32)))])) _
    refine XS.istore X0.here hx rfl (hb hby at_3) rfl (l' := #[.val (.int p0), .val (.int p1), .val (.int p2), .val (.int p3), .val (.int (p0 &&& (3 : Int32))), .unset, .unset, .unset, .unset, .unset]) rfl ?_
    exact k
  suffices J5 : ∀ n : Int32, 0 ≤ n.toInt → n.toInt ≤ 3 → Rch p e below (Gd s (Q0 Z p0 p1 p2 p3 h0 n0) room_1.cells room_1.slots) s₁ (mkF m 5 #[.val (.int p0), .val (.int p1), .val (.int p2), .val (.int p3), .val (.int n), .unset, .unset, .unset, .unset, .unset] []) by
    refine J5 _ ?_ ?_
    · have q := c_mask p0 3 2 (by decide) (by decide); omega
    · have q := c_mask p0 3 2 (by decide) (by decide); omega
  intro n hn0 hn3
  refine own_go (T := s₁) (T' := s₁) (f := (mkF m 5 #[.val (.int p0), .val (.int p1), .val (.int p2), .val (.int p3), .val (.int n), .unset, .unset, .unset, .unset, .unset] [])) (f' := (mkF m 8 #[.val (.int p0), .val (.int p1), .val (.int p2), .val (.int p3), .val (.int n), .unset, .unset, .unset, .unset, .unset] [(.int (p0 &&& (4 : Int32)))])) (fun t k => ?_) ?_
  · show Steps p.tables e below (s₁.setTop (mkF m 5 #[.val (.int p0), .val (.int p1), .val (.int p2), .val (.int p3), .val (.int n), .unset, .unset, .unset, .unset, .unset] [])) _
    refine XS.iloadN X0.here hx rfl (hb hby at_5) rfl ?_
    show Steps p.tables e below (s₁.setTop (mkF m 6 #[.val (.int p0), .val (.int p1), .val (.int p2), .val (.int p3), .val (.int n), .unset, .unset, .unset, .unset, .unset] [(.int p0)])) _
    refine XS.iconst X0.here hx rfl (hb hby at_6) ?_
    show Steps p.tables e below (s₁.setTop (mkF m 7 #[.val (.int p0), .val (.int p1), .val (.int p2), .val (.int p3), .val (.int n), .unset, .unset, .unset, .unset, .unset] [(.int (4 : Int32)), (.int p0)])) _
    refine XS.iand X0.here hx rfl (hb hby at_7) rfl ?_
    exact k
  suffices J18 : ∀ x : Int32, x.toInt8.toInt32 = x → Rch p e below (Gd s (Q0 Z p0 p1 p2 p3 h0 n0) room_1.cells room_1.slots) s₁ (mkF m 18 #[.val (.int p0), .val (.int p1), .val (.int p2), .val (.int p3), .val (.int n), .unset, .unset, .unset, .unset, .unset] [(.int x)]) by
    by_cases hc8 : (p0 &&& (4 : Int32)) = (0 : Int32)
    · refine own_go (T := s₁) (T' := s₁) (f := (mkF m 8 #[.val (.int p0), .val (.int p1), .val (.int p2), .val (.int p3), .val (.int n), .unset, .unset, .unset, .unset, .unset] [(.int (p0 &&& (4 : Int32)))])) (f' := (mkF m 16 #[.val (.int p0), .val (.int p1), .val (.int p2), .val (.int p3), .val (.int n), .unset, .unset, .unset, .unset, .unset] [])) (fun t k => ?_) ?_
      · show Steps p.tables e below (s₁.setTop (mkF m 8 #[.val (.int p0), .val (.int p1), .val (.int p2), .val (.int p3), .val (.int n), .unset, .unset, .unset, .unset, .unset] [(.int (p0 &&& (4 : Int32)))])) _
        refine XS.ifYes X0.here hx rfl (pc0 := 8) (pc' := 16) rfl (hb hby at_8) rfl ((if0 _ _).trans (teq hc8).1) (by decide) (by decide) ?_
        exact k
      refine own_go (T := s₁) (T' := s₁) (f := (mkF m 16 #[.val (.int p0), .val (.int p1), .val (.int p2), .val (.int p3), .val (.int n), .unset, .unset, .unset, .unset, .unset] [])) (f' := (mkF m 18 #[.val (.int p0), .val (.int p1), .val (.int p2), .val (.int p3), .val (.int n), .unset, .unset, .unset, .unset, .unset] [(.int (p1.toInt8.toInt32))])) (fun t k => ?_) ?_
      · show Steps p.tables e below (s₁.setTop (mkF m 16 #[.val (.int p0), .val (.int p1), .val (.int p2), .val (.int p3), .val (.int n), .unset, .unset, .unset, .unset, .unset] [])) _
        refine XS.iloadN X0.here hx rfl (hb hby at_16) rfl ?_
        show Steps p.tables e below (s₁.setTop (mkF m 17 #[.val (.int p0), .val (.int p1), .val (.int p2), .val (.int p3), .val (.int n), .unset, .unset, .unset, .unset, .unset] [(.int p1)])) _
        refine XS.i2b X0.here hx rfl (hb hby at_17) rfl ?_
        exact k
      exact J18 _ (own_by _)
    · refine own_go (T := s₁) (T' := s₁) (f := (mkF m 8 #[.val (.int p0), .val (.int p1), .val (.int p2), .val (.int p3), .val (.int n), .unset, .unset, .unset, .unset, .unset] [(.int (p0 &&& (4 : Int32)))])) (f' := (mkF m 11 #[.val (.int p0), .val (.int p1), .val (.int p2), .val (.int p3), .val (.int n), .unset, .unset, .unset, .unset, .unset] [])) (fun t k => ?_) ?_
      · show Steps p.tables e below (s₁.setTop (mkF m 8 #[.val (.int p0), .val (.int p1), .val (.int p2), .val (.int p3), .val (.int n), .unset, .unset, .unset, .unset, .unset] [(.int (p0 &&& (4 : Int32)))])) _
        refine XS.ifNo X0.here hx rfl (hb hby at_8) rfl ((if0 _ _).trans (feq hc8).1) ?_
        exact k
      refine own_go (T := s₁) (T' := s₁) (f := (mkF m 11 #[.val (.int p0), .val (.int p1), .val (.int p2), .val (.int p3), .val (.int n), .unset, .unset, .unset, .unset, .unset] [])) (f' := (mkF m 18 #[.val (.int p0), .val (.int p1), .val (.int p2), .val (.int p3), .val (.int n), .unset, .unset, .unset, .unset, .unset] [(.int (31 : Int32))])) (fun t k => ?_) ?_
      · show Steps p.tables e below (s₁.setTop (mkF m 11 #[.val (.int p0), .val (.int p1), .val (.int p2), .val (.int p3), .val (.int n), .unset, .unset, .unset, .unset, .unset] [])) _
        refine XS.bipush X0.here hx rfl (hb hby at_11) ?_
        show Steps p.tables e below (s₁.setTop (mkF m 13 #[.val (.int p0), .val (.int p1), .val (.int p2), .val (.int p3), .val (.int n), .unset, .unset, .unset, .unset, .unset] [(.int (31 : Int32))])) _
        refine XS.goto X0.here hx rfl (pc0 := 13) (pc' := 18) rfl (hb hby at_13) (by decide) (by decide) ?_
        exact k
      exact J18 _ (by decide)
  intro x hbx
  refine own_go (T := s₁) (T' := s₁) (f := (mkF m 18 #[.val (.int p0), .val (.int p1), .val (.int p2), .val (.int p3), .val (.int n), .unset, .unset, .unset, .unset, .unset] [(.int x)])) (f' := (mkF m 24 #[.val (.int p0), .val (.int p1), .val (.int p2), .val (.int p3), .val (.int n), .val (.int x), .unset, .unset, .unset, .unset] [(.int (p0 &&& (8 : Int32)))])) (fun t k => ?_) ?_
  · show Steps p.tables e below (s₁.setTop (mkF m 18 #[.val (.int p0), .val (.int p1), .val (.int p2), .val (.int p3), .val (.int n), .unset, .unset, .unset, .unset, .unset] [(.int x)])) _
    refine XS.istore X0.here hx rfl (hb hby at_18) rfl (l' := #[.val (.int p0), .val (.int p1), .val (.int p2), .val (.int p3), .val (.int n), .val (.int x), .unset, .unset, .unset, .unset]) rfl ?_
    show Steps p.tables e below (s₁.setTop (mkF m 20 #[.val (.int p0), .val (.int p1), .val (.int p2), .val (.int p3), .val (.int n), .val (.int x), .unset, .unset, .unset, .unset] [])) _
    refine XS.iloadN X0.here hx rfl (hb hby at_20) rfl ?_
    show Steps p.tables e below (s₁.setTop (mkF m 21 #[.val (.int p0), .val (.int p1), .val (.int p2), .val (.int p3), .val (.int n), .val (.int x), .unset, .unset, .unset, .unset] [(.int p0)])) _
    refine XS.bipush X0.here hx rfl (hb hby at_21) ?_
    show Steps p.tables e below (s₁.setTop (mkF m 23 #[.val (.int p0), .val (.int p1), .val (.int p2), .val (.int p3), .val (.int n), .val (.int x), .unset, .unset, .unset, .unset] [(.int (8 : Int32)), (.int p0)])) _
    refine XS.iand X0.here hx rfl (hb hby at_23) rfl ?_
    exact k
  suffices J34 : ∀ y : Int32, y.toInt8.toInt32 = y → Rch p e below (Gd s (Q0 Z p0 p1 p2 p3 h0 n0) room_1.cells room_1.slots) s₁ (mkF m 34 #[.val (.int p0), .val (.int p1), .val (.int p2), .val (.int p3), .val (.int n), .val (.int x), .unset, .unset, .unset, .unset] [(.int y)]) by
    by_cases hc24 : (p0 &&& (8 : Int32)) = (0 : Int32)
    · refine own_go (T := s₁) (T' := s₁) (f := (mkF m 24 #[.val (.int p0), .val (.int p1), .val (.int p2), .val (.int p3), .val (.int n), .val (.int x), .unset, .unset, .unset, .unset] [(.int (p0 &&& (8 : Int32)))])) (f' := (mkF m 32 #[.val (.int p0), .val (.int p1), .val (.int p2), .val (.int p3), .val (.int n), .val (.int x), .unset, .unset, .unset, .unset] [])) (fun t k => ?_) ?_
      · show Steps p.tables e below (s₁.setTop (mkF m 24 #[.val (.int p0), .val (.int p1), .val (.int p2), .val (.int p3), .val (.int n), .val (.int x), .unset, .unset, .unset, .unset] [(.int (p0 &&& (8 : Int32)))])) _
        refine XS.ifYes X0.here hx rfl (pc0 := 24) (pc' := 32) rfl (hb hby at_24) rfl ((if0 _ _).trans (teq hc24).1) (by decide) (by decide) ?_
        exact k
      refine own_go (T := s₁) (T' := s₁) (f := (mkF m 32 #[.val (.int p0), .val (.int p1), .val (.int p2), .val (.int p3), .val (.int n), .val (.int x), .unset, .unset, .unset, .unset] [])) (f' := (mkF m 34 #[.val (.int p0), .val (.int p1), .val (.int p2), .val (.int p3), .val (.int n), .val (.int x), .unset, .unset, .unset, .unset] [(.int (p2.toInt8.toInt32))])) (fun t k => ?_) ?_
      · show Steps p.tables e below (s₁.setTop (mkF m 32 #[.val (.int p0), .val (.int p1), .val (.int p2), .val (.int p3), .val (.int n), .val (.int x), .unset, .unset, .unset, .unset] [])) _
        refine XS.iloadN X0.here hx rfl (hb hby at_32) rfl ?_
        show Steps p.tables e below (s₁.setTop (mkF m 33 #[.val (.int p0), .val (.int p1), .val (.int p2), .val (.int p3), .val (.int n), .val (.int x), .unset, .unset, .unset, .unset] [(.int p2)])) _
        refine XS.i2b X0.here hx rfl (hb hby at_33) rfl ?_
        exact k
      exact J34 _ (own_by _)
    · refine own_go (T := s₁) (T' := s₁) (f := (mkF m 24 #[.val (.int p0), .val (.int p1), .val (.int p2), .val (.int p3), .val (.int n), .val (.int x), .unset, .unset, .unset, .unset] [(.int (p0 &&& (8 : Int32)))])) (f' := (mkF m 27 #[.val (.int p0), .val (.int p1), .val (.int p2), .val (.int p3), .val (.int n), .val (.int x), .unset, .unset, .unset, .unset] [])) (fun t k => ?_) ?_
      · show Steps p.tables e below (s₁.setTop (mkF m 24 #[.val (.int p0), .val (.int p1), .val (.int p2), .val (.int p3), .val (.int n), .val (.int x), .unset, .unset, .unset, .unset] [(.int (p0 &&& (8 : Int32)))])) _
        refine XS.ifNo X0.here hx rfl (hb hby at_24) rfl ((if0 _ _).trans (feq hc24).1) ?_
        exact k
      refine own_go (T := s₁) (T' := s₁) (f := (mkF m 27 #[.val (.int p0), .val (.int p1), .val (.int p2), .val (.int p3), .val (.int n), .val (.int x), .unset, .unset, .unset, .unset] [])) (f' := (mkF m 34 #[.val (.int p0), .val (.int p1), .val (.int p2), .val (.int p3), .val (.int n), .val (.int x), .unset, .unset, .unset, .unset] [(.int (-117 : Int32))])) (fun t k => ?_) ?_
      · show Steps p.tables e below (s₁.setTop (mkF m 27 #[.val (.int p0), .val (.int p1), .val (.int p2), .val (.int p3), .val (.int n), .val (.int x), .unset, .unset, .unset, .unset] [])) _
        refine XS.bipush X0.here hx rfl (hb hby at_27) ?_
        show Steps p.tables e below (s₁.setTop (mkF m 29 #[.val (.int p0), .val (.int p1), .val (.int p2), .val (.int p3), .val (.int n), .val (.int x), .unset, .unset, .unset, .unset] [(.int (-117 : Int32))])) _
        refine XS.goto X0.here hx rfl (pc0 := 29) (pc' := 34) rfl (hb hby at_29) (by decide) (by decide) ?_
        exact k
      exact J34 _ (by decide)
  intro y hby1
  refine own_go (T := s₁) (T' := s₁) (f := (mkF m 34 #[.val (.int p0), .val (.int p1), .val (.int p2), .val (.int p3), .val (.int n), .val (.int x), .unset, .unset, .unset, .unset] [(.int y)])) (f' := (mkF m 38 #[.val (.int p0), .val (.int p1), .val (.int p2), .val (.int p3), .val (.int n), .val (.int x), .val (.int y), .unset, .unset, .unset] [(.int (p3.toInt8.toInt32))])) (fun t k => ?_) ?_
  · show Steps p.tables e below (s₁.setTop (mkF m 34 #[.val (.int p0), .val (.int p1), .val (.int p2), .val (.int p3), .val (.int n), .val (.int x), .unset, .unset, .unset, .unset] [(.int y)])) _
    refine XS.istore X0.here hx rfl (hb hby at_34) rfl (l' := #[.val (.int p0), .val (.int p1), .val (.int p2), .val (.int p3), .val (.int n), .val (.int x), .val (.int y), .unset, .unset, .unset]) rfl ?_
    show Steps p.tables e below (s₁.setTop (mkF m 36 #[.val (.int p0), .val (.int p1), .val (.int p2), .val (.int p3), .val (.int n), .val (.int x), .val (.int y), .unset, .unset, .unset] [])) _
    refine XS.iloadN X0.here hx rfl (hb hby at_36) rfl ?_
    show Steps p.tables e below (s₁.setTop (mkF m 37 #[.val (.int p0), .val (.int p1), .val (.int p2), .val (.int p3), .val (.int n), .val (.int x), .val (.int y), .unset, .unset, .unset] [(.int p3)])) _
    refine XS.i2b X0.here hx rfl (hb hby at_37) rfl ?_
    exact k
  obtain ⟨z, hz⟩ : ∃ z, z = p3.toInt8.toInt32 := ⟨_, rfl⟩
  have hbz : z.toInt8.toInt32 = z := by rw [hz]; exact own_by _
  rw [show (p3.toInt8.toInt32) = z from hz.symm]
  show Rch p e below _ s₁ (mkF m 38 #[.val (.int p0), .val (.int p1), .val (.int p2), .val (.int p3), .val (.int n), .val (.int x), .val (.int y), .unset, .unset, .unset] [(.int z)])
  refine own_go (T := s₁) (T' := s₁) (f := (mkF m 38 #[.val (.int p0), .val (.int p1), .val (.int p2), .val (.int p3), .val (.int n), .val (.int x), .val (.int y), .unset, .unset, .unset] [(.int z)])) (f' := (mkF m 42 #[.val (.int p0), .val (.int p1), .val (.int p2), .val (.int p3), .val (.int n), .val (.int x), .val (.int y), .val (.int z), .unset, .unset] [(.int n)])) (fun t k => ?_) ?_
  · show Steps p.tables e below (s₁.setTop (mkF m 38 #[.val (.int p0), .val (.int p1), .val (.int p2), .val (.int p3), .val (.int n), .val (.int x), .val (.int y), .unset, .unset, .unset] [(.int z)])) _
    refine XS.istore X0.here hx rfl (hb hby at_38) rfl (l' := #[.val (.int p0), .val (.int p1), .val (.int p2), .val (.int p3), .val (.int n), .val (.int x), .val (.int y), .val (.int z), .unset, .unset]) rfl ?_
    show Steps p.tables e below (s₁.setTop (mkF m 40 #[.val (.int p0), .val (.int p1), .val (.int p2), .val (.int p3), .val (.int n), .val (.int x), .val (.int y), .val (.int z), .unset, .unset] [])) _
    refine XS.iload X0.here hx rfl (hb hby at_40) rfl ?_
    exact k
  have hneg : ¬ n < 0 := by simp only [Int32.lt_iff_toInt_lt, own_l0]; omega
  have hcap : n.toNatClampNeg ≤ 3 := by rw [own_nat]; omega
  obtain ⟨T4, h4, k4, X4, e4, E4, A4, st4⟩ := newP X0 hx hZ (hw _ (List.mem_of_getElem? (i := 0) rfl)) e0 (g := (mkF m 42 #[.val (.int p0), .val (.int p1), .val (.int p2), .val (.int p3), .val (.int n), .val (.int x), .val (.int y), .val (.int z), .unset, .unset] [(.int n)])) rfl (hb hby at_42) rfl hneg (cap := 3) hcap (by decide) (by decide) (by decide)
  obtain ⟨b4, g4⟩ : ∃ z, z = h0.size := ⟨_, rfl⟩
  rw [← g4] at A4 st4
  have V4 : Arv Z h4 b4 k4 .byte n [] (.int (0 : Int32)) := Arv.new A4 hneg
  refine own_go st4 ?_
  show Rch p e below _ T4 (mkF m 44 #[.val (.int p0), .val (.int p1), .val (.int p2), .val (.int p3), .val (.int n), .val (.int x), .val (.int y), .val (.int z), .unset, .unset] [(.ref b4)])
  have gb : n0 ≤ b4 := Nat.le_trans Z0 (Nat.le_of_eq g4.symm)
  have V0 : Arv Z h4 b4 k4 .byte n [(.int (0 : Int32)), (.int (0 : Int32)), (.int (0 : Int32))] (.int (0 : Int32)) := V4.pad (pad_rep [] (.int (0 : Int32)) 3)
  refine own_go (T := T4) (T' := T4) (f := (mkF m 44 #[.val (.int p0), .val (.int p1), .val (.int p2), .val (.int p3), .val (.int n), .val (.int x), .val (.int y), .val (.int z), .unset, .unset] [(.ref b4)])) (f' := (mkF m 48 #[.val (.int p0), .val (.int p1), .val (.int p2), .val (.int p3), .val (.int n), .val (.int x), .val (.int y), .val (.int z), .val (.ref b4), .unset] [(.int n)])) (fun t k => ?_) ?_
  · show Steps p.tables e below (T4.setTop (mkF m 44 #[.val (.int p0), .val (.int p1), .val (.int p2), .val (.int p3), .val (.int n), .val (.int x), .val (.int y), .val (.int z), .unset, .unset] [(.ref b4)])) _
    refine XS.astore X4.here hx rfl (hb hby at_44) rfl rfl (l' := #[.val (.int p0), .val (.int p1), .val (.int p2), .val (.int p3), .val (.int n), .val (.int x), .val (.int y), .val (.int z), .val (.ref b4), .unset]) rfl ?_
    show Steps p.tables e below (T4.setTop (mkF m 46 #[.val (.int p0), .val (.int p1), .val (.int p2), .val (.int p3), .val (.int n), .val (.int x), .val (.int y), .val (.int z), .val (.ref b4), .unset] [])) _
    refine XS.iload X4.here hx rfl (hb hby at_46) rfl ?_
    exact k
  suffices J57 : ∀ (T : State) (locs : List Loc) (h : Heap), Stand p l e room_1 s m #[(.int p0), (.int p1), (.int p2), (.int p3)] below meth c T locs 1 3 → T.heap = h → Arv Z h b4 k4 .byte n [(.int x), (.int (0 : Int32)), (.int (0 : Int32))] (.int (0 : Int32)) → Fr n0 locs → Rch p e below (Gd s (Q0 Z p0 p1 p2 p3 h0 n0) room_1.cells room_1.slots) T (mkF m 57 #[.val (.int p0), .val (.int p1), .val (.int p2), .val (.int p3), .val (.int n), .val (.int x), .val (.int y), .val (.int z), .val (.ref b4), .unset] []) by
    by_cases hc48 : (0 : Int32) < n
    · refine own_go (T := T4) (T' := T4) (f := (mkF m 48 #[.val (.int p0), .val (.int p1), .val (.int p2), .val (.int p3), .val (.int n), .val (.int x), .val (.int y), .val (.int z), .val (.ref b4), .unset] [(.int n)])) (f' := (mkF m 51 #[.val (.int p0), .val (.int p1), .val (.int p2), .val (.int p3), .val (.int n), .val (.int x), .val (.int y), .val (.int z), .val (.ref b4), .unset] [])) (fun t k => ?_) ?_
      · show Steps p.tables e below (T4.setTop (mkF m 48 #[.val (.int p0), .val (.int p1), .val (.int p2), .val (.int p3), .val (.int n), .val (.int x), .val (.int y), .val (.int z), .val (.ref b4), .unset] [(.int n)])) _
        refine XS.ifNo X4.here hx rfl (hb hby at_48) rfl ((if0 _ _).trans (tlt hc48).2.2.2) ?_
        exact k
      refine own_go (T := T4) (T' := T4) (f := (mkF m 51 #[.val (.int p0), .val (.int p1), .val (.int p2), .val (.int p3), .val (.int n), .val (.int x), .val (.int y), .val (.int z), .val (.ref b4), .unset] [])) (f' := (mkF m 56 #[.val (.int p0), .val (.int p1), .val (.int p2), .val (.int p3), .val (.int n), .val (.int x), .val (.int y), .val (.int z), .val (.ref b4), .unset] [(.int x), (.int (0 : Int32)), (.ref b4)])) (fun t k => ?_) ?_
      · show Steps p.tables e below (T4.setTop (mkF m 51 #[.val (.int p0), .val (.int p1), .val (.int p2), .val (.int p3), .val (.int n), .val (.int x), .val (.int y), .val (.int z), .val (.ref b4), .unset] [])) _
        refine XS.aload X4.here hx rfl (hb hby at_51) rfl rfl ?_
        show Steps p.tables e below (T4.setTop (mkF m 53 #[.val (.int p0), .val (.int p1), .val (.int p2), .val (.int p3), .val (.int n), .val (.int x), .val (.int y), .val (.int z), .val (.ref b4), .unset] [(.ref b4)])) _
        refine XS.iconst X4.here hx rfl (hb hby at_53) ?_
        show Steps p.tables e below (T4.setTop (mkF m 54 #[.val (.int p0), .val (.int p1), .val (.int p2), .val (.int p3), .val (.int n), .val (.int x), .val (.int y), .val (.int z), .val (.ref b4), .unset] [(.int (0 : Int32)), (.ref b4)])) _
        refine XS.iload X4.here hx rfl (hb hby at_54) rfl ?_
        exact k
      obtain ⟨cl5, Ar5, q15, q25, q35, q45, q55⟩ := id V0
      have hin5 : ¬ ((0 : Int32) < 0 ∨ cl5.slots.size ≤ ((0 : Int32)).toNatClampNeg) := inb_of q25 ⟨by decide, hc48⟩
      obtain ⟨T5, h5, X5, e5, W5, st5⟩ := stB X4 hx hZ e4 Ar5 (j := (0 : Int32)) hin5 (g := (mkF m 56 #[.val (.int p0), .val (.int p1), .val (.int p2), .val (.int p3), .val (.int n), .val (.int x), .val (.int y), .val (.int z), .val (.ref b4), .unset] [(.int x), (.int (0 : Int32)), (.ref b4)])) rfl rfl (hb hby at_56)
      have V5 := Arv.set Ar5 q15 q25 q35 q45 q55 (fits_nar_byte _) W5 0 rfl (Nat.le_of_ble_eq_true rfl)
      have N5 := Fr.snoc X5 N0 gb
      refine own_go st5 ?_
      show Rch p e below _ T5 (mkF m 57 #[.val (.int p0), .val (.int p1), .val (.int p2), .val (.int p3), .val (.int n), .val (.int x), .val (.int y), .val (.int z), .val (.ref b4), .unset] [])
      have V5' : Arv Z h5 b4 k4 .byte n [(.int x), (.int (0 : Int32)), (.int (0 : Int32))] (.int (0 : Int32)) := by
        have q := V5
        simp only [hbx] at q
        exact q
      exact J57 _ _ _ X5 e5 V5' N5
    · refine own_go (T := T4) (T' := T4) (f := (mkF m 48 #[.val (.int p0), .val (.int p1), .val (.int p2), .val (.int p3), .val (.int n), .val (.int x), .val (.int y), .val (.int z), .val (.ref b4), .unset] [(.int n)])) (f' := (mkF m 57 #[.val (.int p0), .val (.int p1), .val (.int p2), .val (.int p3), .val (.int n), .val (.int x), .val (.int y), .val (.int z), .val (.ref b4), .unset] [])) (fun t k => ?_) ?_
      · show Steps p.tables e below (T4.setTop (mkF m 48 #[.val (.int p0), .val (.int p1), .val (.int p2), .val (.int p3), .val (.int n), .val (.int x), .val (.int y), .val (.int z), .val (.ref b4), .unset] [(.int n)])) _
        refine XS.ifYes X4.here hx rfl (pc0 := 48) (pc' := 57) rfl (hb hby at_48) rfl ((if0 _ _).trans (flt hc48).2.2.2) (by decide) (by decide) ?_
        exact k
      refine J57 _ _ _ X4 e4 (own_free V0 fun i hi => ?_) N0
      rw [own_nat] at hi
      simp only [Int32.lt_iff_toInt_lt, own_l0, own_l1, own_l2] at hc48
      rcases i with _ | _ | _ | i <;> first | rfl | (exfalso; omega)
  intro T1000 locs1000 h1000 X1000 e1000 V1000 N1000
  refine own_go (T := T1000) (T' := T1000) (f := (mkF m 57 #[.val (.int p0), .val (.int p1), .val (.int p2), .val (.int p3), .val (.int n), .val (.int x), .val (.int y), .val (.int z), .val (.ref b4), .unset] [])) (f' := (mkF m 60 #[.val (.int p0), .val (.int p1), .val (.int p2), .val (.int p3), .val (.int n), .val (.int x), .val (.int y), .val (.int z), .val (.ref b4), .unset] [(.int (1 : Int32)), (.int n)])) (fun t k => ?_) ?_
  · show Steps p.tables e below (T1000.setTop (mkF m 57 #[.val (.int p0), .val (.int p1), .val (.int p2), .val (.int p3), .val (.int n), .val (.int x), .val (.int y), .val (.int z), .val (.ref b4), .unset] [])) _
    refine XS.iload X1000.here hx rfl (hb hby at_57) rfl ?_
    show Steps p.tables e below (T1000.setTop (mkF m 59 #[.val (.int p0), .val (.int p1), .val (.int p2), .val (.int p3), .val (.int n), .val (.int x), .val (.int y), .val (.int z), .val (.ref b4), .unset] [(.int n)])) _
    refine XS.iconst X1000.here hx rfl (hb hby at_59) ?_
    exact k
  suffices J69 : ∀ (T : State) (locs : List Loc) (h : Heap), Stand p l e room_1 s m #[(.int p0), (.int p1), (.int p2), (.int p3)] below meth c T locs 1 3 → T.heap = h → Arv Z h b4 k4 .byte n [(.int x), (.int y), (.int (0 : Int32))] (.int (0 : Int32)) → Fr n0 locs → Rch p e below (Gd s (Q0 Z p0 p1 p2 p3 h0 n0) room_1.cells room_1.slots) T (mkF m 69 #[.val (.int p0), .val (.int p1), .val (.int p2), .val (.int p3), .val (.int n), .val (.int x), .val (.int y), .val (.int z), .val (.ref b4), .unset] []) by
    by_cases hc60 : (1 : Int32) < n
    · refine own_go (T := T1000) (T' := T1000) (f := (mkF m 60 #[.val (.int p0), .val (.int p1), .val (.int p2), .val (.int p3), .val (.int n), .val (.int x), .val (.int y), .val (.int z), .val (.ref b4), .unset] [(.int (1 : Int32)), (.int n)])) (f' := (mkF m 63 #[.val (.int p0), .val (.int p1), .val (.int p2), .val (.int p3), .val (.int n), .val (.int x), .val (.int y), .val (.int z), .val (.ref b4), .unset] [])) (fun t k => ?_) ?_
      · show Steps p.tables e below (T1000.setTop (mkF m 60 #[.val (.int p0), .val (.int p1), .val (.int p2), .val (.int p3), .val (.int n), .val (.int x), .val (.int y), .val (.int z), .val (.ref b4), .unset] [(.int (1 : Int32)), (.int n)])) _
        refine XS.icmpNo X1000.here hx rfl (hb hby at_60) rfl (tlt hc60).2.2.2 ?_
        exact k
      refine own_go (T := T1000) (T' := T1000) (f := (mkF m 63 #[.val (.int p0), .val (.int p1), .val (.int p2), .val (.int p3), .val (.int n), .val (.int x), .val (.int y), .val (.int z), .val (.ref b4), .unset] [])) (f' := (mkF m 68 #[.val (.int p0), .val (.int p1), .val (.int p2), .val (.int p3), .val (.int n), .val (.int x), .val (.int y), .val (.int z), .val (.ref b4), .unset] [(.int y), (.int (1 : Int32)), (.ref b4)])) (fun t k => ?_) ?_
      · show Steps p.tables e below (T1000.setTop (mkF m 63 #[.val (.int p0), .val (.int p1), .val (.int p2), .val (.int p3), .val (.int n), .val (.int x), .val (.int y), .val (.int z), .val (.ref b4), .unset] [])) _
        refine XS.aload X1000.here hx rfl (hb hby at_63) rfl rfl ?_
        show Steps p.tables e below (T1000.setTop (mkF m 65 #[.val (.int p0), .val (.int p1), .val (.int p2), .val (.int p3), .val (.int n), .val (.int x), .val (.int y), .val (.int z), .val (.ref b4), .unset] [(.ref b4)])) _
        refine XS.iconst X1000.here hx rfl (hb hby at_65) ?_
        show Steps p.tables e below (T1000.setTop (mkF m 66 #[.val (.int p0), .val (.int p1), .val (.int p2), .val (.int p3), .val (.int n), .val (.int x), .val (.int y), .val (.int z), .val (.ref b4), .unset] [(.int (1 : Int32)), (.ref b4)])) _
        refine XS.iload X1000.here hx rfl (hb hby at_66) rfl ?_
        exact k
      obtain ⟨cl6, Ar6, q16, q26, q36, q46, q56⟩ := id V1000
      have hin6 : ¬ ((1 : Int32) < 0 ∨ cl6.slots.size ≤ ((1 : Int32)).toNatClampNeg) := inb_of q26 ⟨by decide, hc60⟩
      obtain ⟨T6, h6, X6, e6, W6, st6⟩ := stB X1000 hx hZ e1000 Ar6 (j := (1 : Int32)) hin6 (g := (mkF m 68 #[.val (.int p0), .val (.int p1), .val (.int p2), .val (.int p3), .val (.int n), .val (.int x), .val (.int y), .val (.int z), .val (.ref b4), .unset] [(.int y), (.int (1 : Int32)), (.ref b4)])) rfl rfl (hb hby at_68)
      have V6 := Arv.set Ar6 q16 q26 q36 q46 q56 (fits_nar_byte _) W6 1 rfl (Nat.le_of_ble_eq_true rfl)
      have N6 := Fr.snoc X6 N1000 gb
      refine own_go st6 ?_
      show Rch p e below _ T6 (mkF m 69 #[.val (.int p0), .val (.int p1), .val (.int p2), .val (.int p3), .val (.int n), .val (.int x), .val (.int y), .val (.int z), .val (.ref b4), .unset] [])
      have V6' : Arv Z h6 b4 k4 .byte n [(.int x), (.int y), (.int (0 : Int32))] (.int (0 : Int32)) := by
        have q := V6
        simp only [hby1] at q
        exact q
      exact J69 _ _ _ X6 e6 V6' N6
    · refine own_go (T := T1000) (T' := T1000) (f := (mkF m 60 #[.val (.int p0), .val (.int p1), .val (.int p2), .val (.int p3), .val (.int n), .val (.int x), .val (.int y), .val (.int z), .val (.ref b4), .unset] [(.int (1 : Int32)), (.int n)])) (f' := (mkF m 69 #[.val (.int p0), .val (.int p1), .val (.int p2), .val (.int p3), .val (.int n), .val (.int x), .val (.int y), .val (.int z), .val (.ref b4), .unset] [])) (fun t k => ?_) ?_
      · show Steps p.tables e below (T1000.setTop (mkF m 60 #[.val (.int p0), .val (.int p1), .val (.int p2), .val (.int p3), .val (.int n), .val (.int x), .val (.int y), .val (.int z), .val (.ref b4), .unset] [(.int (1 : Int32)), (.int n)])) _
        refine XS.icmpYes X1000.here hx rfl (pc0 := 60) (pc' := 69) rfl (hb hby at_60) rfl (flt hc60).2.2.2 (by decide) (by decide) ?_
        exact k
      refine J69 _ _ _ X1000 e1000 (own_free V1000 fun i hi => ?_) N1000
      rw [own_nat] at hi
      simp only [Int32.lt_iff_toInt_lt, own_l0, own_l1, own_l2] at hc60
      rcases i with _ | _ | _ | i <;> first | rfl | (exfalso; omega)
  intro T1001 locs1001 h1001 X1001 e1001 V1001 N1001
  refine own_go (T := T1001) (T' := T1001) (f := (mkF m 69 #[.val (.int p0), .val (.int p1), .val (.int p2), .val (.int p3), .val (.int n), .val (.int x), .val (.int y), .val (.int z), .val (.ref b4), .unset] [])) (f' := (mkF m 72 #[.val (.int p0), .val (.int p1), .val (.int p2), .val (.int p3), .val (.int n), .val (.int x), .val (.int y), .val (.int z), .val (.ref b4), .unset] [(.int (2 : Int32)), (.int n)])) (fun t k => ?_) ?_
  · show Steps p.tables e below (T1001.setTop (mkF m 69 #[.val (.int p0), .val (.int p1), .val (.int p2), .val (.int p3), .val (.int n), .val (.int x), .val (.int y), .val (.int z), .val (.ref b4), .unset] [])) _
    refine XS.iload X1001.here hx rfl (hb hby at_69) rfl ?_
    show Steps p.tables e below (T1001.setTop (mkF m 71 #[.val (.int p0), .val (.int p1), .val (.int p2), .val (.int p3), .val (.int n), .val (.int x), .val (.int y), .val (.int z), .val (.ref b4), .unset] [(.int n)])) _
    refine XS.iconst X1001.here hx rfl (hb hby at_71) ?_
    exact k
  suffices J81 : ∀ (T : State) (locs : List Loc) (h : Heap), Stand p l e room_1 s m #[(.int p0), (.int p1), (.int p2), (.int p3)] below meth c T locs 1 3 → T.heap = h → Arv Z h b4 k4 .byte n [(.int x), (.int y), (.int z)] (.int (0 : Int32)) → Fr n0 locs → Rch p e below (Gd s (Q0 Z p0 p1 p2 p3 h0 n0) room_1.cells room_1.slots) T (mkF m 81 #[.val (.int p0), .val (.int p1), .val (.int p2), .val (.int p3), .val (.int n), .val (.int x), .val (.int y), .val (.int z), .val (.ref b4), .unset] []) by
    by_cases hc72 : (2 : Int32) < n
    · refine own_go (T := T1001) (T' := T1001) (f := (mkF m 72 #[.val (.int p0), .val (.int p1), .val (.int p2), .val (.int p3), .val (.int n), .val (.int x), .val (.int y), .val (.int z), .val (.ref b4), .unset] [(.int (2 : Int32)), (.int n)])) (f' := (mkF m 75 #[.val (.int p0), .val (.int p1), .val (.int p2), .val (.int p3), .val (.int n), .val (.int x), .val (.int y), .val (.int z), .val (.ref b4), .unset] [])) (fun t k => ?_) ?_
      · show Steps p.tables e below (T1001.setTop (mkF m 72 #[.val (.int p0), .val (.int p1), .val (.int p2), .val (.int p3), .val (.int n), .val (.int x), .val (.int y), .val (.int z), .val (.ref b4), .unset] [(.int (2 : Int32)), (.int n)])) _
        refine XS.icmpNo X1001.here hx rfl (hb hby at_72) rfl (tlt hc72).2.2.2 ?_
        exact k
      refine own_go (T := T1001) (T' := T1001) (f := (mkF m 75 #[.val (.int p0), .val (.int p1), .val (.int p2), .val (.int p3), .val (.int n), .val (.int x), .val (.int y), .val (.int z), .val (.ref b4), .unset] [])) (f' := (mkF m 80 #[.val (.int p0), .val (.int p1), .val (.int p2), .val (.int p3), .val (.int n), .val (.int x), .val (.int y), .val (.int z), .val (.ref b4), .unset] [(.int z), (.int (2 : Int32)), (.ref b4)])) (fun t k => ?_) ?_
      · show Steps p.tables e below (T1001.setTop (mkF m 75 #[.val (.int p0), .val (.int p1), .val (.int p2), .val (.int p3), .val (.int n), .val (.int x), .val (.int y), .val (.int z), .val (.ref b4), .unset] [])) _
        refine XS.aload X1001.here hx rfl (hb hby at_75) rfl rfl ?_
        show Steps p.tables e below (T1001.setTop (mkF m 77 #[.val (.int p0), .val (.int p1), .val (.int p2), .val (.int p3), .val (.int n), .val (.int x), .val (.int y), .val (.int z), .val (.ref b4), .unset] [(.ref b4)])) _
        refine XS.iconst X1001.here hx rfl (hb hby at_77) ?_
        show Steps p.tables e below (T1001.setTop (mkF m 78 #[.val (.int p0), .val (.int p1), .val (.int p2), .val (.int p3), .val (.int n), .val (.int x), .val (.int y), .val (.int z), .val (.ref b4), .unset] [(.int (2 : Int32)), (.ref b4)])) _
        refine XS.iload X1001.here hx rfl (hb hby at_78) rfl ?_
        exact k
      obtain ⟨cl7, Ar7, q17, q27, q37, q47, q57⟩ := id V1001
      have hin7 : ¬ ((2 : Int32) < 0 ∨ cl7.slots.size ≤ ((2 : Int32)).toNatClampNeg) := inb_of q27 ⟨by decide, hc72⟩
      obtain ⟨T7, h7, X7, e7, W7, st7⟩ := stB X1001 hx hZ e1001 Ar7 (j := (2 : Int32)) hin7 (g := (mkF m 80 #[.val (.int p0), .val (.int p1), .val (.int p2), .val (.int p3), .val (.int n), .val (.int x), .val (.int y), .val (.int z), .val (.ref b4), .unset] [(.int z), (.int (2 : Int32)), (.ref b4)])) rfl rfl (hb hby at_80)
      have V7 := Arv.set Ar7 q17 q27 q37 q47 q57 (fits_nar_byte _) W7 2 rfl (Nat.le_of_ble_eq_true rfl)
      have N7 := Fr.snoc X7 N1001 gb
      refine own_go st7 ?_
      show Rch p e below _ T7 (mkF m 81 #[.val (.int p0), .val (.int p1), .val (.int p2), .val (.int p3), .val (.int n), .val (.int x), .val (.int y), .val (.int z), .val (.ref b4), .unset] [])
      have V7' : Arv Z h7 b4 k4 .byte n [(.int x), (.int y), (.int z)] (.int (0 : Int32)) := by
        have q := V7
        simp only [hbz] at q
        exact q
      exact J81 _ _ _ X7 e7 V7' N7
    · refine own_go (T := T1001) (T' := T1001) (f := (mkF m 72 #[.val (.int p0), .val (.int p1), .val (.int p2), .val (.int p3), .val (.int n), .val (.int x), .val (.int y), .val (.int z), .val (.ref b4), .unset] [(.int (2 : Int32)), (.int n)])) (f' := (mkF m 81 #[.val (.int p0), .val (.int p1), .val (.int p2), .val (.int p3), .val (.int n), .val (.int x), .val (.int y), .val (.int z), .val (.ref b4), .unset] [])) (fun t k => ?_) ?_
      · show Steps p.tables e below (T1001.setTop (mkF m 72 #[.val (.int p0), .val (.int p1), .val (.int p2), .val (.int p3), .val (.int n), .val (.int x), .val (.int y), .val (.int z), .val (.ref b4), .unset] [(.int (2 : Int32)), (.int n)])) _
        refine XS.icmpYes X1001.here hx rfl (pc0 := 72) (pc' := 81) rfl (hb hby at_72) rfl (flt hc72).2.2.2 (by decide) (by decide) ?_
        exact k
      refine J81 _ _ _ X1001 e1001 (own_free V1001 fun i hi => ?_) N1001
      rw [own_nat] at hi
      simp only [Int32.lt_iff_toInt_lt, own_l0, own_l1, own_l2] at hc72
      rcases i with _ | _ | _ | i <;> first | rfl | (exfalso; omega)
  intro T1002 locs1002 h1002 X1002 e1002 V1002 N1002
  refine own_go (T := T1002) (T' := T1002) (f := (mkF m 81 #[.val (.int p0), .val (.int p1), .val (.int p2), .val (.int p3), .val (.int n), .val (.int x), .val (.int y), .val (.int z), .val (.ref b4), .unset] [])) (f' := (mkF m 84 #[.val (.int p0), .val (.int p1), .val (.int p2), .val (.int p3), .val (.int n), .val (.int x), .val (.int y), .val (.int z), .val (.ref b4), .unset] [(.int (2 : Int32)), (.int n)])) (fun t k => ?_) ?_
  · show Steps p.tables e below (T1002.setTop (mkF m 81 #[.val (.int p0), .val (.int p1), .val (.int p2), .val (.int p3), .val (.int n), .val (.int x), .val (.int y), .val (.int z), .val (.ref b4), .unset] [])) _
    refine XS.iload X1002.here hx rfl (hb hby at_81) rfl ?_
    show Steps p.tables e below (T1002.setTop (mkF m 83 #[.val (.int p0), .val (.int p1), .val (.int p2), .val (.int p3), .val (.int n), .val (.int x), .val (.int y), .val (.int z), .val (.ref b4), .unset] [(.int n)])) _
    refine XS.iconst X1002.here hx rfl (hb hby at_83) ?_
    exact k
  suffices J106 : ∀ r : Int32, own_ex n x y = r → Rch p e below (Gd s (Q0 Z p0 p1 p2 p3 h0 n0) room_1.cells room_1.slots) T1002 (mkF m 106 #[.val (.int p0), .val (.int p1), .val (.int p2), .val (.int p3), .val (.int n), .val (.int x), .val (.int y), .val (.int z), .val (.ref b4), .unset] [(.int r)]) by
    by_cases hc84 : n < (2 : Int32)
    · refine own_go (T := T1002) (T' := T1002) (f := (mkF m 84 #[.val (.int p0), .val (.int p1), .val (.int p2), .val (.int p3), .val (.int n), .val (.int x), .val (.int y), .val (.int z), .val (.ref b4), .unset] [(.int (2 : Int32)), (.int n)])) (f' := (mkF m 105 #[.val (.int p0), .val (.int p1), .val (.int p2), .val (.int p3), .val (.int n), .val (.int x), .val (.int y), .val (.int z), .val (.ref b4), .unset] [])) (fun t k => ?_) ?_
      · show Steps p.tables e below (T1002.setTop (mkF m 84 #[.val (.int p0), .val (.int p1), .val (.int p2), .val (.int p3), .val (.int n), .val (.int x), .val (.int y), .val (.int z), .val (.ref b4), .unset] [(.int (2 : Int32)), (.int n)])) _
        refine XS.icmpYes X1002.here hx rfl (pc0 := 84) (pc' := 105) rfl (hb hby at_84) rfl (tlt hc84).1 (by decide) (by decide) ?_
        exact k
      refine own_go (T := T1002) (T' := T1002) (f := (mkF m 105 #[.val (.int p0), .val (.int p1), .val (.int p2), .val (.int p3), .val (.int n), .val (.int x), .val (.int y), .val (.int z), .val (.ref b4), .unset] [])) (f' := (mkF m 106 #[.val (.int p0), .val (.int p1), .val (.int p2), .val (.int p3), .val (.int n), .val (.int x), .val (.int y), .val (.int z), .val (.ref b4), .unset] [(.int (0 : Int32))])) (fun t k => ?_) ?_
      · show Steps p.tables e below (T1002.setTop (mkF m 105 #[.val (.int p0), .val (.int p1), .val (.int p2), .val (.int p3), .val (.int n), .val (.int x), .val (.int y), .val (.int z), .val (.ref b4), .unset] [])) _
        refine XS.iconst X1002.here hx rfl (hb hby at_105) ?_
        exact k
      exact J106 _ (by simp [own_ex, hc84])
    · refine own_go (T := T1002) (T' := T1002) (f := (mkF m 84 #[.val (.int p0), .val (.int p1), .val (.int p2), .val (.int p3), .val (.int n), .val (.int x), .val (.int y), .val (.int z), .val (.ref b4), .unset] [(.int (2 : Int32)), (.int n)])) (f' := (mkF m 87 #[.val (.int p0), .val (.int p1), .val (.int p2), .val (.int p3), .val (.int n), .val (.int x), .val (.int y), .val (.int z), .val (.ref b4), .unset] [])) (fun t k => ?_) ?_
      · show Steps p.tables e below (T1002.setTop (mkF m 84 #[.val (.int p0), .val (.int p1), .val (.int p2), .val (.int p3), .val (.int n), .val (.int x), .val (.int y), .val (.int z), .val (.ref b4), .unset] [(.int (2 : Int32)), (.int n)])) _
        refine XS.icmpNo X1002.here hx rfl (hb hby at_84) rfl (flt hc84).1 ?_
        exact k
      refine own_go (T := T1002) (T' := T1002) (f := (mkF m 87 #[.val (.int p0), .val (.int p1), .val (.int p2), .val (.int p3), .val (.int n), .val (.int x), .val (.int y), .val (.int z), .val (.ref b4), .unset] [])) (f' := (mkF m 91 #[.val (.int p0), .val (.int p1), .val (.int p2), .val (.int p3), .val (.int n), .val (.int x), .val (.int y), .val (.int z), .val (.ref b4), .unset] [(.int (31 : Int32)), (.int x)])) (fun t k => ?_) ?_
      · show Steps p.tables e below (T1002.setTop (mkF m 87 #[.val (.int p0), .val (.int p1), .val (.int p2), .val (.int p3), .val (.int n), .val (.int x), .val (.int y), .val (.int z), .val (.ref b4), .unset] [])) _
        refine XS.iload X1002.here hx rfl (hb hby at_87) rfl ?_
        show Steps p.tables e below (T1002.setTop (mkF m 89 #[.val (.int p0), .val (.int p1), .val (.int p2), .val (.int p3), .val (.int n), .val (.int x), .val (.int y), .val (.int z), .val (.ref b4), .unset] [(.int x)])) _
        refine XS.bipush X1002.here hx rfl (hb hby at_89) ?_
        exact k
      by_cases hc91 : x = (31 : Int32)
      · refine own_go (T := T1002) (T' := T1002) (f := (mkF m 91 #[.val (.int p0), .val (.int p1), .val (.int p2), .val (.int p3), .val (.int n), .val (.int x), .val (.int y), .val (.int z), .val (.ref b4), .unset] [(.int (31 : Int32)), (.int x)])) (f' := (mkF m 94 #[.val (.int p0), .val (.int p1), .val (.int p2), .val (.int p3), .val (.int n), .val (.int x), .val (.int y), .val (.int z), .val (.ref b4), .unset] [])) (fun t k => ?_) ?_
        · show Steps p.tables e below (T1002.setTop (mkF m 91 #[.val (.int p0), .val (.int p1), .val (.int p2), .val (.int p3), .val (.int n), .val (.int x), .val (.int y), .val (.int z), .val (.ref b4), .unset] [(.int (31 : Int32)), (.int x)])) _
          refine XS.icmpNo X1002.here hx rfl (hb hby at_91) rfl (teq hc91).2 ?_
          exact k
        refine own_go (T := T1002) (T' := T1002) (f := (mkF m 94 #[.val (.int p0), .val (.int p1), .val (.int p2), .val (.int p3), .val (.int n), .val (.int x), .val (.int y), .val (.int z), .val (.ref b4), .unset] [])) (f' := (mkF m 98 #[.val (.int p0), .val (.int p1), .val (.int p2), .val (.int p3), .val (.int n), .val (.int x), .val (.int y), .val (.int z), .val (.ref b4), .unset] [(.int (-117 : Int32)), (.int y)])) (fun t k => ?_) ?_
        · show Steps p.tables e below (T1002.setTop (mkF m 94 #[.val (.int p0), .val (.int p1), .val (.int p2), .val (.int p3), .val (.int n), .val (.int x), .val (.int y), .val (.int z), .val (.ref b4), .unset] [])) _
          refine XS.iload X1002.here hx rfl (hb hby at_94) rfl ?_
          show Steps p.tables e below (T1002.setTop (mkF m 96 #[.val (.int p0), .val (.int p1), .val (.int p2), .val (.int p3), .val (.int n), .val (.int x), .val (.int y), .val (.int z), .val (.ref b4), .unset] [(.int y)])) _
          refine XS.bipush X1002.here hx rfl (hb hby at_96) ?_
          exact k
        by_cases hc98 : y = (-117 : Int32)
        · refine own_go (T := T1002) (T' := T1002) (f := (mkF m 98 #[.val (.int p0), .val (.int p1), .val (.int p2), .val (.int p3), .val (.int n), .val (.int x), .val (.int y), .val (.int z), .val (.ref b4), .unset] [(.int (-117 : Int32)), (.int y)])) (f' := (mkF m 101 #[.val (.int p0), .val (.int p1), .val (.int p2), .val (.int p3), .val (.int n), .val (.int x), .val (.int y), .val (.int z), .val (.ref b4), .unset] [])) (fun t k => ?_) ?_
          · show Steps p.tables e below (T1002.setTop (mkF m 98 #[.val (.int p0), .val (.int p1), .val (.int p2), .val (.int p3), .val (.int n), .val (.int x), .val (.int y), .val (.int z), .val (.ref b4), .unset] [(.int (-117 : Int32)), (.int y)])) _
            refine XS.icmpNo X1002.here hx rfl (hb hby at_98) rfl (teq hc98).2 ?_
            exact k
          refine own_go (T := T1002) (T' := T1002) (f := (mkF m 101 #[.val (.int p0), .val (.int p1), .val (.int p2), .val (.int p3), .val (.int n), .val (.int x), .val (.int y), .val (.int z), .val (.ref b4), .unset] [])) (f' := (mkF m 106 #[.val (.int p0), .val (.int p1), .val (.int p2), .val (.int p3), .val (.int n), .val (.int x), .val (.int y), .val (.int z), .val (.ref b4), .unset] [(.int (1 : Int32))])) (fun t k => ?_) ?_
          · show Steps p.tables e below (T1002.setTop (mkF m 101 #[.val (.int p0), .val (.int p1), .val (.int p2), .val (.int p3), .val (.int n), .val (.int x), .val (.int y), .val (.int z), .val (.ref b4), .unset] [])) _
            refine XS.iconst X1002.here hx rfl (hb hby at_101) ?_
            show Steps p.tables e below (T1002.setTop (mkF m 102 #[.val (.int p0), .val (.int p1), .val (.int p2), .val (.int p3), .val (.int n), .val (.int x), .val (.int y), .val (.int z), .val (.ref b4), .unset] [(.int (1 : Int32))])) _
            refine XS.goto X1002.here hx rfl (pc0 := 102) (pc' := 106) rfl (hb hby at_102) (by decide) (by decide) ?_
            exact k
          exact J106 _ (by simp [own_ex, hc84, hc91, hc98])
        · refine own_go (T := T1002) (T' := T1002) (f := (mkF m 98 #[.val (.int p0), .val (.int p1), .val (.int p2), .val (.int p3), .val (.int n), .val (.int x), .val (.int y), .val (.int z), .val (.ref b4), .unset] [(.int (-117 : Int32)), (.int y)])) (f' := (mkF m 105 #[.val (.int p0), .val (.int p1), .val (.int p2), .val (.int p3), .val (.int n), .val (.int x), .val (.int y), .val (.int z), .val (.ref b4), .unset] [])) (fun t k => ?_) ?_
          · show Steps p.tables e below (T1002.setTop (mkF m 98 #[.val (.int p0), .val (.int p1), .val (.int p2), .val (.int p3), .val (.int n), .val (.int x), .val (.int y), .val (.int z), .val (.ref b4), .unset] [(.int (-117 : Int32)), (.int y)])) _
            refine XS.icmpYes X1002.here hx rfl (pc0 := 98) (pc' := 105) rfl (hb hby at_98) rfl (feq hc98).2 (by decide) (by decide) ?_
            exact k
          refine own_go (T := T1002) (T' := T1002) (f := (mkF m 105 #[.val (.int p0), .val (.int p1), .val (.int p2), .val (.int p3), .val (.int n), .val (.int x), .val (.int y), .val (.int z), .val (.ref b4), .unset] [])) (f' := (mkF m 106 #[.val (.int p0), .val (.int p1), .val (.int p2), .val (.int p3), .val (.int n), .val (.int x), .val (.int y), .val (.int z), .val (.ref b4), .unset] [(.int (0 : Int32))])) (fun t k => ?_) ?_
          · show Steps p.tables e below (T1002.setTop (mkF m 105 #[.val (.int p0), .val (.int p1), .val (.int p2), .val (.int p3), .val (.int n), .val (.int x), .val (.int y), .val (.int z), .val (.ref b4), .unset] [])) _
            refine XS.iconst X1002.here hx rfl (hb hby at_105) ?_
            exact k
          exact J106 _ (by simp [own_ex, hc84, hc91, hc98])
      · refine own_go (T := T1002) (T' := T1002) (f := (mkF m 91 #[.val (.int p0), .val (.int p1), .val (.int p2), .val (.int p3), .val (.int n), .val (.int x), .val (.int y), .val (.int z), .val (.ref b4), .unset] [(.int (31 : Int32)), (.int x)])) (f' := (mkF m 105 #[.val (.int p0), .val (.int p1), .val (.int p2), .val (.int p3), .val (.int n), .val (.int x), .val (.int y), .val (.int z), .val (.ref b4), .unset] [])) (fun t k => ?_) ?_
        · show Steps p.tables e below (T1002.setTop (mkF m 91 #[.val (.int p0), .val (.int p1), .val (.int p2), .val (.int p3), .val (.int n), .val (.int x), .val (.int y), .val (.int z), .val (.ref b4), .unset] [(.int (31 : Int32)), (.int x)])) _
          refine XS.icmpYes X1002.here hx rfl (pc0 := 91) (pc' := 105) rfl (hb hby at_91) rfl (feq hc91).2 (by decide) (by decide) ?_
          exact k
        refine own_go (T := T1002) (T' := T1002) (f := (mkF m 105 #[.val (.int p0), .val (.int p1), .val (.int p2), .val (.int p3), .val (.int n), .val (.int x), .val (.int y), .val (.int z), .val (.ref b4), .unset] [])) (f' := (mkF m 106 #[.val (.int p0), .val (.int p1), .val (.int p2), .val (.int p3), .val (.int n), .val (.int x), .val (.int y), .val (.int z), .val (.ref b4), .unset] [(.int (0 : Int32))])) (fun t k => ?_) ?_
        · show Steps p.tables e below (T1002.setTop (mkF m 105 #[.val (.int p0), .val (.int p1), .val (.int p2), .val (.int p3), .val (.int n), .val (.int x), .val (.int y), .val (.int z), .val (.ref b4), .unset] [])) _
          refine XS.iconst X1002.here hx rfl (hb hby at_105) ?_
          exact k
        exact J106 _ (by simp [own_ex, hc84, hc91])
  intro r hr
  refine own_go (T := T1002) (T' := T1002) (f := (mkF m 106 #[.val (.int p0), .val (.int p1), .val (.int p2), .val (.int p3), .val (.int n), .val (.int x), .val (.int y), .val (.int z), .val (.ref b4), .unset] [(.int r)])) (f' := (mkF m 110 #[.val (.int p0), .val (.int p1), .val (.int p2), .val (.int p3), .val (.int n), .val (.int x), .val (.int y), .val (.int z), .val (.ref b4), .val (.int r)] [(.ref b4)])) (fun t k => ?_) ?_
  · show Steps p.tables e below (T1002.setTop (mkF m 106 #[.val (.int p0), .val (.int p1), .val (.int p2), .val (.int p3), .val (.int n), .val (.int x), .val (.int y), .val (.int z), .val (.ref b4), .unset] [(.int r)])) _
    refine XS.istore X1002.here hx rfl (hb hby at_106) rfl (l' := #[.val (.int p0), .val (.int p1), .val (.int p2), .val (.int p3), .val (.int n), .val (.int x), .val (.int y), .val (.int z), .val (.ref b4), .val (.int r)]) rfl ?_
    show Steps p.tables e below (T1002.setTop (mkF m 108 #[.val (.int p0), .val (.int p1), .val (.int p2), .val (.int p3), .val (.int n), .val (.int x), .val (.int y), .val (.int z), .val (.ref b4), .val (.int r)] [])) _
    refine XS.aload X1002.here hx rfl (hb hby at_108) rfl rfl ?_
    exact k
  obtain ⟨_, _, ⟨T8, L8, k8, n8⟩, -, X8, ⟨Lc8, hQ8, l8, y8, z8⟩, st8⟩ := Jvm.LawKit.callS X1002 hx (y := (⟨"com/example/deft_index/deftindex/collection/GzipMembers", "startsGzip", "([B)Z"⟩ : MethodName)) hown (mvT hZ (hw _ (List.mem_of_getElem? (i := 1) rfl))) (mvT hZ (hw _ (List.mem_of_getElem? (i := 2) rfl))) (mvT hZ (hw _ (List.mem_of_getElem? (i := 3) rfl))) (mvT hZ (hw _ (List.mem_of_getElem? (i := 4) rfl))) (by decide) (backOf (W := 0) (rm1 l Z a0 hw [] b4 k4 n x y z h1002 n0 (Nat.le_of_lt (Nat.lt_of_le_of_lt gb V1002.lt)) V1002) hZ (hw _ (List.mem_of_getElem? (i := 4) rfl)) (hw _ (List.mem_of_getElem? (i := 3) rfl)) (by decide) (by decide)) (g := (mkF m 110 #[.val (.int p0), .val (.int p1), .val (.int p2), .val (.int p3), .val (.int n), .val (.int x), .val (.int y), .val (.int z), .val (.ref b4), .val (.int r)] [(.ref b4)])) rfl (by rw [hml]; rfl) (argsL := [(.ref b4)]) (rest := []) (lenOf pd__28_5bB_29Z rfl) rfl (by show 2 * 0 + _ ≤ _; exact Nat.le_of_eq rfl) (hb hby at_110) (fun _ _ => ⟨rfl, e1002, (by decide : 1 + 0 ≤ _), (by decide : 3 + 0 ≤ _)⟩)
  dsimp only [Pt.U, Pt.locs, Pt.cells, Pt.slots] at X8 l8 y8 z8 st8 hQ8
  subst l8 y8 z8
  obtain ⟨rfl, N8q, e8⟩ := hQ8
  have N8 := Fr.app N1002 N8q
  refine own_go st8 ?_
  show Rch p e below _ T8 (mkF m 113 #[.val (.int p0), .val (.int p1), .val (.int p2), .val (.int p3), .val (.int n), .val (.int x), .val (.int y), .val (.int z), .val (.ref b4), .val (.int r)] [(.int (own_sg n x y))])
  refine own_go (T := T8) (T' := T8) (f := (mkF m 113 #[.val (.int p0), .val (.int p1), .val (.int p2), .val (.int p3), .val (.int n), .val (.int x), .val (.int y), .val (.int z), .val (.ref b4), .val (.int r)] [(.int (own_sg n x y))])) (f' := (mkF m 115 #[.val (.int p0), .val (.int p1), .val (.int p2), .val (.int p3), .val (.int n), .val (.int x), .val (.int y), .val (.int z), .val (.ref b4), .val (.int r)] [(.int r), (.int (own_sg n x y))])) (fun t k => ?_) ?_
  · show Steps p.tables e below (T8.setTop (mkF m 113 #[.val (.int p0), .val (.int p1), .val (.int p2), .val (.int p3), .val (.int n), .val (.int x), .val (.int y), .val (.int z), .val (.ref b4), .val (.int r)] [(.int (own_sg n x y))])) _
    refine XS.iload X8.here hx rfl (hb hby at_113) rfl ?_
    exact k
  refine own_go (T := T8) (T' := T8) (f := (mkF m 115 #[.val (.int p0), .val (.int p1), .val (.int p2), .val (.int p3), .val (.int n), .val (.int x), .val (.int y), .val (.int z), .val (.ref b4), .val (.int r)] [(.int r), (.int (own_sg n x y))])) (f' := (mkF m 118 #[.val (.int p0), .val (.int p1), .val (.int p2), .val (.int p3), .val (.int n), .val (.int x), .val (.int y), .val (.int z), .val (.ref b4), .val (.int r)] [])) (fun t k => ?_) ?_
  · show Steps p.tables e below (T8.setTop (mkF m 115 #[.val (.int p0), .val (.int p1), .val (.int p2), .val (.int p3), .val (.int n), .val (.int x), .val (.int y), .val (.int z), .val (.ref b4), .val (.int r)] [(.int r), (.int (own_sg n x y))])) _
    refine XS.icmpNo X8.here hx rfl (hb hby at_115) rfl (teq ((own_law n x y hbx hby1).trans hr)).2 ?_
    exact k
  refine own_go (T := T8) (T' := T8) (f := (mkF m 118 #[.val (.int p0), .val (.int p1), .val (.int p2), .val (.int p3), .val (.int n), .val (.int x), .val (.int y), .val (.int z), .val (.ref b4), .val (.int r)] [])) (f' := (mkF m 123 #[.val (.int p0), .val (.int p1), .val (.int p2), .val (.int p3), .val (.int n), .val (.int x), .val (.int y), .val (.int z), .val (.ref b4), .val (.int r)] [(.int (1 : Int32))])) (fun t k => ?_) ?_
  · show Steps p.tables e below (T8.setTop (mkF m 118 #[.val (.int p0), .val (.int p1), .val (.int p2), .val (.int p3), .val (.int n), .val (.int x), .val (.int y), .val (.int z), .val (.ref b4), .val (.int r)] [])) _
    refine XS.iconst X8.here hx rfl (hb hby at_118) ?_
    show Steps p.tables e below (T8.setTop (mkF m 119 #[.val (.int p0), .val (.int p1), .val (.int p2), .val (.int p3), .val (.int n), .val (.int x), .val (.int y), .val (.int z), .val (.ref b4), .val (.int r)] [(.int (1 : Int32))])) _
    refine XS.goto X8.here hx rfl (pc0 := 119) (pc' := 123) rfl (hb hby at_119) (by decide) (by decide) ?_
    exact k
  exact own_retN X8 hx hlk (t := .boolean) (w := (1 : Int32)) hret (by simp) (hb hby at_123) rfl (by decide) (by decide) (by rw [e8]; exact ⟨rfl, N8⟩)
set_option maxRecDepth 65536 in
set_option maxHeartbeats 40000000 in
theorem comes_1 {Post : Tables → Env → Array Value → State → Outcome → State → Prop} (hpost : ∀ tb e args s v u, (limb_1_1.after args s (.returned v) u = true ∧ limb_1_2.after args s (.returned v) u = true ∧ True) → FrameEnd s (.returned v) u (Jvm.fieldLocs frame_1_writes args s ++ Jvm.arrayLocs frame_1_arrays args s ++ Jvm.staticLocs frame_1_statics s) 16 128 → Post tb e args s (.returned v) u) :
    ArmFor flags0 classFile x code maxLocals ret World_1 tables_1 room_1 Calls_1 rest_1 Pre_1 Post := by
  intro l hfl _ _ p e ha hc hk s m args below hf hA hF happ hP
  obtain ⟨hcalls, hrest, hpre⟩ := hP
  obtain ⟨-, -, -, hnamed, -, -, -, hat⟩ := (Spec.applies_iff hf).mp happ
  obtain ⟨hg, hn⟩ := and_e (Cond.before_iff.mp (show (Jvm.Cond.and given_1 narrow_1).before args s = true from hpre))
  obtain ⟨gc, ga0⟩ := and_e hg
  obtain ⟨gv0, ga1⟩ := and_e ga0
  obtain ⟨gv1, ga2⟩ := and_e ga1
  obtain ⟨gv2, ga3⟩ := and_e ga2
  obtain ⟨w0, w1, w2, w3, rfl⟩ : ∃ w0 w1 w2 w3, args = #[w0, w1, w2, w3] := by
    have hs : args.size = 4 := by simpa [Cond.value, given_1] using gc
    obtain ⟨L⟩ := args
    match L, hs with
    | [w0, w1, w2, w3], _ => exact ⟨w0, w1, w2, w3, rfl⟩
  have hw := fun d (hd : d ∈ tables_1) => atoms_spec (ws := Jvm.Cond.code x code maxLocals ret :: tables_1) hat d (List.mem_cons_of_mem _ hd)
  have hfit : Fit s := fun {y c} hc i hi => by
    obtain ⟨ha, rfl⟩ := Array.getElem?_eq_some_iff.mp hc
    have q := List.all_eq_true.mp ((Array.all_eq_true_iff_forall_mem.mp hF) _ (Array.getElem_mem ha)) i (List.mem_range.mpr hi)
    simpa [Array.getElem?_eq_getElem hi] using q
  obtain ⟨i0, e0⟩ := is_v gv0
  obtain rfl : w0 = (.int i0) := Option.some.inj e0
  obtain ⟨i1, e1⟩ := is_v gv1
  obtain rfl : w1 = (.int i1) := Option.some.inj e1
  obtain ⟨i2, e2⟩ := is_v gv2
  obtain rfl : w2 = (.int i2) := Option.some.inj e2
  obtain ⟨i3, e3⟩ := is_v ga3
  obtain rfl : w3 = (.int i3) := Option.some.inj e3
  obtain ⟨n, o, h1, h2, h3, _, L, rfl, ⟨rfl, N⟩, hq⟩ := rm0 l s _ hw tables_1 i0 i1 i2 i3  s.heap s.heap.size (Nat.le_refl _)  p e ha hc hk s m _ below hf ((Spec.applies_iff_loose hf).mp happ).1 ⟨rfl, State.Warmed39.refl s, rfl⟩ trivial
  refine ⟨n, _, h1, h2, h3, hpost _ _ _ _ _ _ ⟨Cond.after_iff.mpr rfl, Cond.after_iff.mpr (eq_i res_at (Term.int_eval (1)) rfl), trivial⟩ ⟨hq.1, hq.2.1, (hq.2.2.sift fun y hy => Or.inr (N y hy)).mono (by decide) (by decide)⟩⟩
theorem main_1_1 : Claimed_1_1 := comes_1 fun _ _ _ _ _ _ h hF => ⟨h.1, hF⟩
theorem main_1_2 : Claimed_1_2 := comes_1 fun _ _ _ _ _ _ h hF => ⟨h.2.1, hF⟩
end Jvm.Pilot.@@N@@
namespace Jvm.Pilot.@@N@@
open Jvm Jvm.ClassFile Sem Op Lib Jvm.Free Jvm.Stand Jvm.Pilot.@@N@@.Jvm.D
/-! MADE BY PROGRAM (witnessworld.py) out of the Statement's table words and the real class files: 12 classes; the members and pool entries that the words name. The judged class is class 1, her method 1. -/
namespace start1
open Jvm.ClassFile
def u (s : String) : CpInfo := .utf8 (stringToUtf16 s)
/-- a pool by its gaps: so many unusable entries, then the entry; so many at the end -/
def gap : Nat → List CpInfo → List CpInfo
  | 0, r => r
  | n + 1, r => .unusable :: gap n r
def poolList (es : List (Nat × CpInfo)) (last : Nat) : List CpInfo := es.foldr (fun e r => gap e.1 (e.2 :: r)) (gap last [])
def pool (es : List (Nat × CpInfo)) (last : Nat) : Array CpInfo := ⟨poolList es last⟩
def fileOf (pool : Array CpInfo) (this : Nat) (attrs : Array Attribute := #[]) (ms : Array MethodInfo := #[]) (fl : Nat := 33) (sup : Nat := 0) (ifs : Array Nat := #[]) (fds : Array FieldInfo := #[]) : ClassFile where
  minorVersion := 0
  majorVersion := 65
  constantPool := pool
  accessFlags := fl
  thisClass := this
  superClass := sup
  interfaces := ifs
  fields := fds
  methods := ms
  attributes := attrs
def plain (name : String) (sup : Option ClassId) : Class where
  name := name
  kind := .ordinary
  loader := none
  accessFlags := 33
  super := sup
  interfaces := #[]
  cf := none
  fields := #[]
  methods := #[]
  instanceTypes := #[]
  staticTypes := #[]
  resolved := #[]
  callSites := []
  init := .initialized
  statics := none
  mirror := none

def pool0 : Array CpInfo := pool [(5, u "<init>"), (0, u "()V"), (1, .class_ 10), (1, u "java/lang/Object")] 113

def k0m0 : Method := { name := "<init>", desc := "()V", sig := { parameters := [], returnType := none }, accessFlags := 1, code := none }
/-- java/lang/Object -/
def k0 : Class := { plain "java/lang/Object" none with
  accessFlags := 33
  interfaces := #[]
  cf := some (fileOf pool0 8 #[] #[{ accessFlags := 1, nameIndex := 5, descriptorIndex := 6, attributes := #[] }] 33 0 #[] #[])
  fields := #[]
  methods := #[k0m0]
  instanceTypes := #[]
  staticTypes := #[]
  resolved := Array.replicate 124 none
  statics := none }

def pool1 : Array CpInfo := pool [(2, .class_ 4), (1, u "java/lang/Object"), (0, u "<init>"), (0, u "()V"), (0, .methodref 8 9), (0, .class_ 10), (0, .nameAndType 11 12), (0, u "com/example/deft_index/deftindex/collection/GzipMembers"), (0, u "startsGzip"), (0, u "([B)Z"), (0, .class_ 14), (0, u "com/example/deft_index/deftindex/collection/GzipMembersStartsGzipPinLaw"), (2, u "law"), (0, u "(IIII)Z")] 5

def k1m0 : Method := { name := "<init>", desc := "()V", sig := { parameters := [], returnType := none }, accessFlags := 2, code := none }
def k1c1 : Code := { maxStack := 3, maxLocals := 10, code := code, exceptionTable := #[], attributes := #[] }
def k1m1 : Method := { name := "law", desc := "(IIII)Z", sig := { parameters := [.int, .int, .int, .int], returnType := some .boolean }, accessFlags := 9, code := some k1c1 }
/-- com/example/deft_index/deftindex/collection/GzipMembersStartsGzipPinLaw -/
def k1 : Class := { plain "com/example/deft_index/deftindex/collection/GzipMembersStartsGzipPinLaw" (some 0) with
  accessFlags := 49
  interfaces := #[]
  cf := some (fileOf pool1 13 #[] #[{ accessFlags := 2, nameIndex := 5, descriptorIndex := 6, attributes := #[] }, { accessFlags := 9, nameIndex := 17, descriptorIndex := 18, attributes := #[] }] 49 2 #[] #[])
  fields := #[]
  methods := #[k1m0, k1m1]
  instanceTypes := #[]
  staticTypes := #[]
  resolved := Array.replicate 24 none
  statics := none }

def pool2 : Array CpInfo := pool [(1, .class_ 2), (0, u "java/lang/AutoCloseable"), (0, .class_ 4), (0, u "java/lang/Object")] 7

/-- java/lang/AutoCloseable -/
def k2 : Class := { plain "java/lang/AutoCloseable" (some 0) with
  accessFlags := 1537
  interfaces := #[]
  cf := some (fileOf pool2 1 #[] #[] 1537 3 #[] #[])
  fields := #[]
  methods := #[]
  instanceTypes := #[]
  staticTypes := #[]
  resolved := Array.replicate 12 none
  statics := none }

def pool3 : Array CpInfo := pool [(1, .class_ 2), (0, u "java/io/Closeable"), (0, .class_ 4), (0, u "java/lang/Object"), (0, .class_ 6), (0, u "java/lang/AutoCloseable")] 7

/-- java/io/Closeable -/
def k3 : Class := { plain "java/io/Closeable" (some 0) with
  accessFlags := 1537
  interfaces := #[2]
  cf := some (fileOf pool3 1 #[] #[] 1537 3 #[5] #[])
  fields := #[]
  methods := #[]
  instanceTypes := #[]
  staticTypes := #[]
  resolved := Array.replicate 14 none
  statics := none }

def pool4 : Array CpInfo := pool [(4, .class_ 6), (1, u "java/lang/Object"), (0, u "<init>"), (0, u "()V"), (0, .class_ 10), (0, u "java/io/InputStream$1"), (2, .class_ 15), (1, u "java/io/InputStream"), (116, .class_ 133), (0, u "java/io/Closeable"), (0, u "MAX_SKIP_BUFFER_SIZE"), (0, u "I"), (2, u "DEFAULT_BUFFER_SIZE"), (1, u "MAX_BUFFER_SIZE")] 54

def k4m0 : Method := { name := "<init>", desc := "()V", sig := { parameters := [], returnType := none }, accessFlags := 1, code := none }
/-- java/io/InputStream -/
def k4 : Class := { plain "java/io/InputStream" (some 0) with
  accessFlags := 1057
  interfaces := #[3]
  cf := some (fileOf pool4 13 #[.nestMembers #[9]] #[{ accessFlags := 1, nameIndex := 7, descriptorIndex := 8, attributes := #[] }] 1057 4 #[132] #[{ accessFlags := 26, nameIndex := 134, descriptorIndex := 135, attributes := #[] }, { accessFlags := 26, nameIndex := 138, descriptorIndex := 135, attributes := #[] }, { accessFlags := 26, nameIndex := 140, descriptorIndex := 135, attributes := #[] }])
  fields := #[{ name := "MAX_SKIP_BUFFER_SIZE", type := .int, accessFlags := 26, slot := 0, constantValue := 0 }, { name := "DEFAULT_BUFFER_SIZE", type := .int, accessFlags := 26, slot := 1, constantValue := 0 }, { name := "MAX_BUFFER_SIZE", type := .int, accessFlags := 26, slot := 2, constantValue := 0 }]
  methods := #[k4m0]
  instanceTypes := #[]
  staticTypes := #[.int, .int, .int]
  resolved := Array.replicate 195 none
  statics := none }

def pool5 : Array CpInfo := pool [(2, .class_ 4), (1, u "java/io/InputStream"), (8, .class_ 15), (1, u "com/example/deft_index/deftindex/collection/GzipMembers"), (0, u "inflater"), (0, u "Ljava/util/zip/Inflater;"), (5, u "crc"), (0, u "Ljava/util/zip/CRC32;"), (3, u "buffer"), (0, u "[B"), (2, u "in"), (0, u "Ljava/io/InputStream;"), (2, u "file"), (0, u "Ljava/nio/file/Path;"), (12, u "ended"), (0, u "Z"), (2, u "inMember"), (13, u "length"), (0, u "J"), (18, u "start"), (0, u "I"), (2, u "end"), (23, u "bufferOffset"), (69, u "ID1"), (2, u "ID2"), (1, u "DEFLATE"), (1, u "FHCRC"), (1, u "FEXTRA"), (1, u "FNAME"), (0, u "FCOMMENT"), (1, u "RESERVED"), (1, u "UNUSED_HEADER_BYTES"), (4, u "startsGzip"), (0, u "([B)Z")] 28

def k5c0 : Code := { maxStack := 2, maxLocals := 1, code := prog_25_method_2_code, exceptionTable := #[], attributes := #[] }
def k5m0 : Method := { name := "startsGzip", desc := "([B)Z", sig := { parameters := [(.array .byte)], returnType := some .boolean }, accessFlags := 8, code := some k5c0 }
/-- com/example/deft_index/deftindex/collection/GzipMembers -/
def k5 : Class := { plain "com/example/deft_index/deftindex/collection/GzipMembers" (some 4) with
  accessFlags := 48
  interfaces := #[]
  cf := some (fileOf pool5 13 #[] #[{ accessFlags := 8, nameIndex := 207, descriptorIndex := 208, attributes := #[] }] 48 2 #[] #[{ accessFlags := 26, nameIndex := 186, descriptorIndex := 89, attributes := #[] }, { accessFlags := 26, nameIndex := 189, descriptorIndex := 89, attributes := #[] }, { accessFlags := 26, nameIndex := 191, descriptorIndex := 89, attributes := #[] }, { accessFlags := 26, nameIndex := 193, descriptorIndex := 89, attributes := #[] }, { accessFlags := 26, nameIndex := 195, descriptorIndex := 89, attributes := #[] }, { accessFlags := 26, nameIndex := 197, descriptorIndex := 89, attributes := #[] }, { accessFlags := 26, nameIndex := 198, descriptorIndex := 89, attributes := #[] }, { accessFlags := 26, nameIndex := 200, descriptorIndex := 89, attributes := #[] }, { accessFlags := 26, nameIndex := 202, descriptorIndex := 89, attributes := #[] }, { accessFlags := 18, nameIndex := 32, descriptorIndex := 33, attributes := #[] }, { accessFlags := 18, nameIndex := 36, descriptorIndex := 37, attributes := #[] }, { accessFlags := 18, nameIndex := 16, descriptorIndex := 17, attributes := #[] }, { accessFlags := 18, nameIndex := 23, descriptorIndex := 24, attributes := #[] }, { accessFlags := 18, nameIndex := 28, descriptorIndex := 29, attributes := #[] }, { accessFlags := 2, nameIndex := 88, descriptorIndex := 89, attributes := #[] }, { accessFlags := 2, nameIndex := 92, descriptorIndex := 89, attributes := #[] }, { accessFlags := 2, nameIndex := 116, descriptorIndex := 69, attributes := #[] }, { accessFlags := 2, nameIndex := 68, descriptorIndex := 69, attributes := #[] }, { accessFlags := 2, nameIndex := 54, descriptorIndex := 51, attributes := #[] }, { accessFlags := 2, nameIndex := 50, descriptorIndex := 51, attributes := #[] }])
  fields := #[{ name := "ID1", type := .int, accessFlags := 26, slot := 0, constantValue := 0 }, { name := "ID2", type := .int, accessFlags := 26, slot := 1, constantValue := 0 }, { name := "DEFLATE", type := .int, accessFlags := 26, slot := 2, constantValue := 0 }, { name := "FHCRC", type := .int, accessFlags := 26, slot := 3, constantValue := 0 }, { name := "FEXTRA", type := .int, accessFlags := 26, slot := 4, constantValue := 0 }, { name := "FNAME", type := .int, accessFlags := 26, slot := 5, constantValue := 0 }, { name := "FCOMMENT", type := .int, accessFlags := 26, slot := 6, constantValue := 0 }, { name := "RESERVED", type := .int, accessFlags := 26, slot := 7, constantValue := 0 }, { name := "UNUSED_HEADER_BYTES", type := .int, accessFlags := 26, slot := 8, constantValue := 0 }, { name := "in", type := (.object "java/io/InputStream"), accessFlags := 18, slot := 0, constantValue := 0 }, { name := "file", type := (.object "java/nio/file/Path"), accessFlags := 18, slot := 1, constantValue := 0 }, { name := "inflater", type := (.object "java/util/zip/Inflater"), accessFlags := 18, slot := 2, constantValue := 0 }, { name := "crc", type := (.object "java/util/zip/CRC32"), accessFlags := 18, slot := 3, constantValue := 0 }, { name := "buffer", type := (.array .byte), accessFlags := 18, slot := 4, constantValue := 0 }, { name := "start", type := .int, accessFlags := 2, slot := 5, constantValue := 0 }, { name := "end", type := .int, accessFlags := 2, slot := 6, constantValue := 0 }, { name := "bufferOffset", type := .long, accessFlags := 2, slot := 7, constantValue := 0 }, { name := "length", type := .long, accessFlags := 2, slot := 8, constantValue := 0 }, { name := "inMember", type := .boolean, accessFlags := 2, slot := 9, constantValue := 0 }, { name := "ended", type := .boolean, accessFlags := 2, slot := 10, constantValue := 0 }]
  methods := #[k5m0]
  instanceTypes := #[(.object "java/io/InputStream"), (.object "java/nio/file/Path"), (.object "java/util/zip/Inflater"), (.object "java/util/zip/CRC32"), (.array .byte), .int, .int, .long, .long, .boolean, .boolean]
  staticTypes := #[.int, .int, .int, .int, .int, .int, .int, .int, .int]
  resolved := Array.replicate 237 none
  statics := none }

def pool6 : Array CpInfo := pool [(1, u "java/lang/Cloneable"), (0, .class_ 1), (0, u "java/lang/Object"), (0, .class_ 3)] 3

/-- java/lang/Cloneable -/
def k6 : Class := { plain "java/lang/Cloneable" (some 0) with
  accessFlags := 1537
  interfaces := #[]
  cf := some (fileOf pool6 2 #[] #[] 1537 4 #[] #[])
  fields := #[]
  methods := #[]
  instanceTypes := #[]
  staticTypes := #[]
  resolved := Array.replicate 8 none
  statics := none }

def pool7 : Array CpInfo := pool [(1, u "java/io/Serializable"), (0, .class_ 1), (0, u "java/lang/Object"), (0, .class_ 3)] 3

/-- java/io/Serializable -/
def k7 : Class := { plain "java/io/Serializable" (some 0) with
  accessFlags := 1537
  interfaces := #[]
  cf := some (fileOf pool7 2 #[] #[] 1537 4 #[] #[])
  fields := #[]
  methods := #[]
  instanceTypes := #[]
  staticTypes := #[]
  resolved := Array.replicate 8 none
  statics := none }

/-- the primitive byte -/
def k8 : Class := { plain "byte" none with kind := .primitive 'B', accessFlags := 0x411 }
/-- [B -/
def k9 : Class := { plain "[B" (some 0) with kind := .array 8 .byte, interfaces := #[6, 7], accessFlags := 1041 }

/-- the primitive int -/
def k10 : Class := { plain "int" none with kind := .primitive 'I', accessFlags := 0x411 }
/-- [I -/
def k11 : Class := { plain "[I" (some 0) with kind := .array 10 .int, interfaces := #[6, 7], accessFlags := 1041 }

def heap : Heap := #[]
def classes : Array Class := #[k0, k1, k2, k3, k4, k5, k6, k7, k8, k9, k10, k11]
def interned : List (Array UInt16 × Addr) := []
def slotsUsed : Nat := 0
def theMethod : MethodId := ⟨1, 1⟩
def args0 : Array Value := #[.int 5, .int 300, .int 7, .int 1]
def aboutOver (below : List Frame) : State where
  vm := { classes := classes, interned := interned.toArray }
  heap := heap
  slotsUsed := slotsUsed
  threads := #[{ frames := .invoking theMethod args0 :: below }]
def below0 : List Frame := [.native { method := ⟨0, 0⟩, args := #[] }]
def about1 : State := aboutOver below0
def p0 : Program := .bare "" "" ""
def e0 : Env := launch0.env 0 0 0
theorem w_frames : about1.frames = Frame.invoking theMethod args0 :: below0 := rfl
set_option maxRecDepth 65536 in
theorem w_args : argsFit about1.vm theMethod args0 = true := by decide +kernel
set_option maxRecDepth 65536 in
theorem w_heap : heapFits about1 = true := by decide +kernel
set_option maxRecDepth 65536 in
theorem w_runnable : about1.curStatus? = some .runnable := by decide +kernel
set_option maxRecDepth 65536 in
theorem w_alone : about1.alone = true := by decide +kernel
set_option maxRecDepth 65536 in
theorem w_named : about1.methodNamed? x = some theMethod := by decide +kernel
set_option maxRecDepth 65536 in
theorem w_hears : about1.hears theMethod below0 = true := by decide +kernel
set_option maxRecDepth 65536 in
theorem w_ripe : about1.ripe theMethod args0 below0 = true := by decide +kernel
theorem w_running : about1.status = .running := rfl
set_option maxRecDepth 65536 in
theorem w_room : about1.hasRoom e0.platform room_1 = true :=
  launch0.hasRoom_least _ room_1 (by decide +kernel) (by decide +kernel) (by decide +kernel) (by decide +kernel) (by decide +kernel) (by decide +kernel)
theorem allAtoms_all (ts : List Jvm.Cond) (a : Array Jvm.Value) (st : Jvm.State) : (allAtoms ts).before a st = ts.all (fun c => c.before a st) := by
  induction ts with
  | nil => rfl
  | cons c t ih =>
    show (Jvm.Cond.and c (allAtoms t)).before a st = _
    rw [Jvm.Cond.before_and, ih, List.all_cons]
def words1 : List Jvm.Cond := Jvm.Cond.code x code maxLocals ret :: tables_1
/-- a 'code' word, met by the world's own term for the bytes: nothing is compared byte by byte -/
theorem code_word {y : MethodName} {bytes : ByteArray} {mx : Nat} {rt : Option FieldType} {a : Array Value} {s : State} {m : MethodId} {meth : Method} {c : Code} (h1 : s.methodNamed? y = some m) (h2 : s.vm.method? m = some meth) (h3 : meth.code = some c) (h4 : c.code = bytes)
    (h5 : (c.maxLocals == mx && c.exceptionTable.isEmpty && decide (c.maxStack ≤ mostOperands) && decide (meth.sig.returnType = rt) && !meth.locks && decide (parseMethodDescriptor y.desc = some meth.sig)) = true) : (Jvm.Cond.code y bytes mx rt).before a s = true := by
  simp only [Bool.and_eq_true, beq_iff_eq, Bool.not_eq_true', decide_eq_true_eq] at h5
  obtain ⟨⟨⟨⟨⟨g1, g2⟩, g3⟩, g4⟩, g5⟩, g6⟩ := h5
  simp [Cond.before, Cond.holds, Cond.value, h1, h2, h3, h4, g1, g2, g3, g4, g5, g6]
def isCode : Jvm.Cond → Bool
  | .code _ _ _ _ => true
  | _ => false
theorem all_split {L : List Jvm.Cond} {P : Jvm.Cond → Bool} (h1 : L.all (fun c => isCode c || P c) = true) (h2 : ∀ c ∈ L.filter isCode, P c = true) : L.all P = true := by
  refine List.all_eq_true.mpr fun c hc => ?_
  have h := List.all_eq_true.mp h1 c hc
  rcases Bool.eq_false_or_eq_true (isCode c) with hi | hi
  · exact h2 c (List.mem_filter.mpr ⟨hc, hi⟩)
  · simpa [hi] using h
set_option maxRecDepth 65536 in
theorem w_c0 : (Jvm.Cond.code x code maxLocals ret).before args0 about1 = true := code_word (m := ⟨1, 1⟩) (meth := k1m1) (c := k1c1) (by decide +kernel) rfl rfl rfl (by decide +kernel)
set_option maxRecDepth 65536 in
theorem w_c1 : (Jvm.Cond.code ({ cls := "com/example/deft_index/deftindex/collection/GzipMembers", name := "startsGzip", desc := "([B)Z" } : Jvm.MethodName) prog_25_method_2_code (1 : Nat) (Option.some Jvm.ClassFile.FieldType.boolean)).before args0 about1 = true := code_word (m := ⟨5, 0⟩) (meth := k5m0) (c := k5c0) (by decide +kernel) rfl rfl rfl (by decide +kernel)
def codes1 : List Jvm.Cond := [Jvm.Cond.code x code maxLocals ret, Jvm.Cond.code ({ cls := "com/example/deft_index/deftindex/collection/GzipMembers", name := "startsGzip", desc := "([B)Z" } : Jvm.MethodName) prog_25_method_2_code (1 : Nat) (Option.some Jvm.ClassFile.FieldType.boolean)]
set_option maxRecDepth 65536 in
theorem codes_eq : words1.filter isCode = codes1 := rfl
theorem w_codes : ∀ c ∈ words1.filter isCode, c.before args0 about1 = true := by
  rw [codes_eq]
  intro c hc
  simp only [codes1, List.mem_cons, List.not_mem_nil, or_false] at hc
  rcases hc with rfl | rfl
  · exact w_c0
  · exact w_c1
set_option maxRecDepth 65536 in
theorem w_t1 : words1.all (fun c => isCode c || c.before args0 about1) = true := by decide +kernel
theorem w_tables : (allAtoms (Jvm.Cond.code x code maxLocals ret :: tables_1)).before args0 about1 = true := by
  rw [allAtoms_all]
  show words1.all (fun c => c.before args0 about1) = true
  refine all_split ?_ w_codes
  rw [w_t1]
set_option maxRecDepth 65536 in
theorem w_case : (Jvm.Cond.and given_1 narrow_1).before args0 about1 = true := by decide +kernel
theorem w_applies : (headSpec (Jvm.Cond.code x code maxLocals ret :: tables_1) room_1).applies x e0.platform about1 = true :=
  (Spec.applies_iff w_frames).mpr ⟨w_running, w_runnable, w_alone, w_named, w_hears, w_ripe, w_room, w_tables⟩
theorem atStart : AtStart classFile x code maxLocals ret World_1 tables_1 room_1 Calls_1 rest_1 Pre_1 launch0 p0 e0 about1 theMethod args0 below0 :=
  ⟨lists_1, trivial, launch0.admits_env _ _ _, launch0.least_env, fairChoices_fair.cas, fairChoices_fair.clock, w_frames, w_args, w_heap, w_applies, trivial, trivial, w_case⟩
end start1
theorem witness_1 : WitnessClaimed_1 := ⟨start1.p0, start1.e0, start1.about1, start1.theMethod, start1.args0, start1.below0, start1.atStart⟩
end Jvm.Pilot.@@N@@
