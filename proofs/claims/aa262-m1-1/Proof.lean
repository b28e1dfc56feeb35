import JvmDerived
import JvmDerived.Pilot.@@N@@Statement
import JvmDerived.Pilot.@@N@@Code
set_option linter.unusedVariables false
set_option linter.unusedSimpArgs false
namespace Jvm.Pilot.@@N@@
open Jvm Jvm.ClassFile Sem Op Lib Jvm.Free Jvm.Stand Jvm.LawKit Jvm.RoadKit Bundle Jvm.Pilot.@@N@@.Jvm.D
/-! 1. my way of walking: 'from here the run comes to an end that G allows' -/
def Rch (p : Program) (e : Env) (below : List Frame) (G : Outcome → State → Prop) (T : State) (f : JFrame) : Prop := ∃ s₂ o, Steps p.tables e below (T.setTop f) s₂ ∧ s₂.status = .running ∧ Ended s₂ below o ∧ G o s₂
def Gd (s : State) (Q : Option Value → Heap → List Loc → Prop) (k n : Nat) : Outcome → State → Prop := fun o U' => ∃ v L, o = .returned v ∧ Q v U'.heap L ∧ FrameEnd s o U' L k n
section Own
variable {p : Program} {l : Launch} {e : Env} {R : Room} {s : State} {m : MethodId} {args : Array Value} {below : List Frame} {meth : Method} {c : Code} {T T' : State} {f f' : JFrame} {locs : List Loc} {cells slots k n : Nat} {G : Outcome → State → Prop} {Q : Option Value → Heap → List Loc → Prop}
theorem own_go (st : ∀ t, Steps p.tables e below (T'.setTop f') t → Steps p.tables e below (T.setTop f) t) (r : Rch p e below G T' f') : Rch p e below G T f := by
  obtain ⟨s₂, o, h1, h2⟩ := r
  exact ⟨s₂, o, st _ h1, h2⟩
theorem own_go2 (st : Steps p.tables e below (T.setTop f) (T'.setTop f')) (r : Rch p e below G T' f') : Rch p e below G T f := own_go (fun t h => st.trans h) r
theorem own_fin (X : Stand p l e R s m args below meth c T locs cells slots) (hlk : meth.locks = false) {v : Option Value} (hv : meth.sig.returnType = none → v = none) (hc : cells ≤ k) (hs : slots ≤ n)
    (st : ∀ fs, (∀ (f : JFrame) (acts : List Action), f.method = m → f.locked = none → f.entered = [] → (doReturn e (T.setTop f) acts v).1 = T.setFrames fs) → Steps p.tables e below (T.setTop f) (T.setFrames fs)) (hQ : Q v T.heap locs) : Rch p e below (Gd s Q k n) T f := by
  obtain ⟨fs, hr, hrun, hended, hW, hsame⟩ := X.leave hv hlk
  exact ⟨_, _, st fs hr, hrun, hended, _, _, rfl, hQ, ⟨_, rfl⟩, hW, hsame.mono hc hs⟩
theorem own_retV (X : Stand p l e R s m args below meth c T locs cells slots) (hx : p.tables.exec = Jvm.exec) (hlk : meth.locks = false) (hret : meth.sig.returnType = none) {pc : Nat} {Ls : Array Slot} (hd : decode c.code pc = .ok (.return_, 1)) (hc : cells ≤ k) (hs : slots ≤ n) (hQ : Q none T.heap locs) : Rch p e below (Gd s Q k n) T (mkF m pc Ls []) :=
  own_fin X hlk (fun _ => rfl) hc hs (fun fs hr => X.returnOut hx hret hd hr) hQ
theorem own_retN (X : Stand p l e R s m args below meth c T locs cells slots) (hx : p.tables.exec = Jvm.exec) (hlk : meth.locks = false) {t : FieldType} (hret : meth.sig.returnType = some t) (ht : t = .boolean ∨ t = .byte ∨ t = .char ∨ t = .short) {pc : Nat} {Ls : Array Slot} {z w : Int32} {rest : List Value} (hd : decode c.code pc = .ok (.ireturn, 1)) (hz : nar t z = w) (hc : cells ≤ k) (hs : slots ≤ n) (hQ : Q (some (.int w)) T.heap locs) : Rch p e below (Gd s Q k n) T (mkF m pc Ls (.int z :: rest)) :=
  own_fin X hlk (fun h => by rw [hret] at h; cases h) hc hs (fun fs hr => retN X hx hret ht hd (by rw [hz]; exact hr)) hQ
theorem own_retI (X : Stand p l e R s m args below meth c T locs cells slots) (hx : p.tables.exec = Jvm.exec) (hlk : meth.locks = false) (hret : meth.sig.returnType = some .int) {pc : Nat} {Ls : Array Slot} {z : Int32} {rest : List Value} (hd : decode c.code pc = .ok (.ireturn, 1)) (hc : cells ≤ k) (hs : slots ≤ n) (hQ : Q (some (.int z)) T.heap locs) : Rch p e below (Gd s Q k n) T (mkF m pc Ls (.int z :: rest)) :=
  own_fin X hlk (fun h => by rw [hret] at h; cases h) hc hs (fun fs hr => retOut X hx hret rfl (Or.inl ⟨rfl, Or.inl rfl, z, rfl⟩) hd hr) hQ
theorem own_retJ (X : Stand p l e R s m args below meth c T locs cells slots) (hx : p.tables.exec = Jvm.exec) (hlk : meth.locks = false) (hret : meth.sig.returnType = some .long) {pc : Nat} {Ls : Array Slot} {z : Int64} {rest : List Value} (hd : decode c.code pc = .ok (.lreturn, 1)) (hc : cells ≤ k) (hs : slots ≤ n) (hQ : Q (some (.long z)) T.heap locs) : Rch p e below (Gd s Q k n) T (mkF m pc Ls (.long z :: rest)) :=
  own_fin X hlk (fun h => by rw [hret] at h; cases h) hc hs (fun fs hr => retOut X hx hret rfl (Or.inr (Or.inl ⟨rfl, rfl, z, rfl⟩)) hd hr) hQ
theorem own_retA (X : Stand p l e R s m args below meth c T locs cells slots) (hx : p.tables.exec = Jvm.exec) (hlk : meth.locks = false) {t : FieldType} (hret : meth.sig.returnType = some t) (ht : t.isReference = true) {w : Value} (hw : w.isRef = true) {pc : Nat} {Ls : Array Slot} {rest : List Value} (hd : decode c.code pc = .ok (.areturn, 1)) (hc : cells ≤ k) (hs : slots ≤ n) (hQ : Q (some w) T.heap locs) : Rch p e below (Gd s Q k n) T (mkF m pc Ls (w :: rest)) :=
  own_fin X hlk (fun h => by rw [hret] at h; cases h) hc hs (fun fs hr => retOut X hx hret (by rcases ref_cases hw with rfl | ⟨a, rfl⟩ <;> (cases t <;> first | rfl | cases ht)) (Or.inr (Or.inr (Or.inr (Or.inr ⟨rfl, ht, hw⟩)))) hd hr) hQ
end Own

theorem own_nat (n : Int32) : n.toNatClampNeg = n.toInt.toNat := rfl
theorem own_l0 : (0 : Int32).toInt = 0 := by decide
def own_hf (fr tot n pl : Int32) : Int32 := if pl < fr then 0 else if (fr + n) = tot then 1 else 0
def own_ex (fr tot n pl : Int32) : Int32 := if pl < fr then 0 else if (lcmpW ((tot.toInt64) - (fr.toInt64)) (n.toInt64)) = (0 : Int32) then 1 else 0
theorem own_law (fr tot n pl : Int32) (h0 : 0 ≤ fr.toInt) (h1 : fr.toInt ≤ 2147483643) (h2 : 0 ≤ n.toInt) (h3 : n.toInt ≤ 3) : own_hf fr tot n pl = own_ex fr tot n pl := by
  have p : ((lcmpW ((tot.toInt64) - (fr.toInt64)) (n.toInt64)) = (0 : Int32)) = ((fr + n) = tot) := by
    rw [lcW]
    apply propext
    rw [lc_eq]
    have a1 := c_lsub tot.toInt64 fr.toInt64
    rw [c_i2l, c_i2l] at a1
    have a2 := c_i2l n
    have a3 := c_iadd fr n
    have b1 := Int64.toInt_lt (tot.toInt64 - fr.toInt64)
    have b2 := Int64.le_toInt (tot.toInt64 - fr.toInt64)
    have b3 := Int32.toInt_lt tot
    have b4 := Int32.le_toInt tot
    have b5 := Int32.toInt_lt (fr + n)
    have b6 := Int32.le_toInt (fr + n)
    rw [← Int64.toInt_inj, ← Int32.toInt_inj, a2]
    omega
  unfold own_hf own_ex
  simp only [p]
theorem d1_0 : decode prog_29_method_2_code 0 = .ok (.aload_n 0, 1) := by decide +kernel
theorem d1_1 : decode prog_29_method_2_code 1 = .ok (.invokespecial 7, 3) := by decide +kernel
theorem d1_4 : decode prog_29_method_2_code 4 = .ok (.aload_n 0, 1) := by decide +kernel
theorem d1_5 : decode prog_29_method_2_code 5 = .ok (.lload_n 1, 1) := by decide +kernel
theorem d1_6 : decode prog_29_method_2_code 6 = .ok (.putfield 12, 3) := by decide +kernel
theorem d1_9 : decode prog_29_method_2_code 9 = .ok (.aload_n 0, 1) := by decide +kernel
theorem d1_10 : decode prog_29_method_2_code 10 = .ok (.iload_n 3, 1) := by decide +kernel
theorem d1_11 : decode prog_29_method_2_code 11 = .ok (.putfield 16, 3) := by decide +kernel
theorem d1_14 : decode prog_29_method_2_code 14 = .ok (.aload_n 0, 1) := by decide +kernel
theorem d1_15 : decode prog_29_method_2_code 15 = .ok (.iload 4, 2) := by decide +kernel
theorem d1_17 : decode prog_29_method_2_code 17 = .ok (.putfield 20, 3) := by decide +kernel
theorem d1_20 : decode prog_29_method_2_code 20 = .ok (.aload_n 0, 1) := by decide +kernel
theorem d1_21 : decode prog_29_method_2_code 21 = .ok (.iload 5, 2) := by decide +kernel
theorem d1_23 : decode prog_29_method_2_code 23 = .ok (.putfield 23, 3) := by decide +kernel
theorem d1_26 : decode prog_29_method_2_code 26 = .ok (.aload_n 0, 1) := by decide +kernel
theorem d1_27 : decode prog_29_method_2_code 27 = .ok (.aload 6, 2) := by decide +kernel
theorem d1_29 : decode prog_29_method_2_code 29 = .ok (.putfield 26, 3) := by decide +kernel
theorem d1_32 : decode prog_29_method_2_code 32 = .ok (.aload_n 0, 1) := by decide +kernel
theorem d1_33 : decode prog_29_method_2_code 33 = .ok (.iload 7, 2) := by decide +kernel
theorem d1_35 : decode prog_29_method_2_code 35 = .ok (.putfield 30, 3) := by decide +kernel
theorem d1_38 : decode prog_29_method_2_code 38 = .ok (.return_, 1) := by decide +kernel
theorem pn_1 : plainName "com/example/auscult/auscult/store/SearchMatches" = true := by first | (simp [plainName, overriddenIn]; done) | decide +kernel
theorem ef_1 (m : MethodId) (x0 : Addr) (x1 : Int64) (x2 : Int32) (x3 : Int32) (x4 : Int32) (x5 : Addr) (x6 : Int32) : entryFrame m #[(.ref x0), (.long x1), (.int x2), (.int x3), (.int x4), (.ref x5), (.int x6)] 8 = mkF m 0 #[.val (.ref x0), .val (.long x1), .second, .val (.int x2), .val (.int x3), .val (.int x4), .val (.ref x5), .val (.int x6)] [] := by first | (simp [entryFrame, mkF, argsToLocals, Value.category]; done) | rfl
def Q1 (Z : State) (u0 : Addr) (q1 : Int64) (p2 : Int32) (p3 : Int32) (p4 : Int32) (u5 : Addr) (p6 : Int32) (h0 : Heap) (n0 : Nat) (v : Option Value) (h : Heap) (L : List Loc) : Prop := v = none ∧ Fr n0 L ∧ Keep h0 h [u0] ∧ Exa Z h u0 "com/example/auscult/auscult/store/SearchMatches" ∧ Fld Z h u0 "com/example/auscult/auscult/store/SearchMatches" "total" "I" (.int p2) ∧ Fld Z h u0 "com/example/auscult/auscult/store/SearchMatches" "from" "I" (.int p4) ∧ Fld Z h u0 "com/example/auscult/auscult/store/SearchMatches" "versions" "[J" (.ref u5)
set_option maxRecDepth 65536 in
set_option maxHeartbeats 40000000 in
theorem rm1 (l : Launch) (Z : State) (a0 : Array Value) (hw : ∀ d ∈ tables_1, d.before a0 Z = true) (ws : List Jvm.Cond) (u0 : Addr) (q1 : Int64) (p2 : Int32) (p3 : Int32) (p4 : Int32) (u5 : Addr) (p6 : Int32) (h0 : Heap) (n0 : Nat) (Z0 : n0 ≤ h0.size) (F_point : Fld Z h0 u0 "com/example/auscult/auscult/store/SearchMatches" "point" "J" (.long (0 : Int64))) (F_total : Fld Z h0 u0 "com/example/auscult/auscult/store/SearchMatches" "total" "I" (.int (0 : Int32))) (F_matched : Fld Z h0 u0 "com/example/auscult/auscult/store/SearchMatches" "matched" "I" (.int (0 : Int32))) (F_from : Fld Z h0 u0 "com/example/auscult/auscult/store/SearchMatches" "from" "I" (.int (0 : Int32))) (F_versions : Fld Z h0 u0 "com/example/auscult/auscult/store/SearchMatches" "versions" "[J" .null) (F_lasting : Fld Z h0 u0 "com/example/auscult/auscult/store/SearchMatches" "lasting" "Z" (.int (0 : Int32))) (E : Exa Z h0 u0 "com/example/auscult/auscult/store/SearchMatches") (g : n0 ≤ u0) :
    MetFree l (⟨"com/example/auscult/auscult/store/SearchMatches", "<init>", "(JIII[JZ)V"⟩ : MethodName) (head1 (Jvm.Cond.code (⟨"com/example/auscult/auscult/store/SearchMatches", "<init>", "(JIII[JZ)V"⟩ : MethodName) prog_29_method_2_code 8 none :: ws) ({ frames := 1, cells := 0, slots := 0, locals := 12 } : Room)) (fun a U => a = #[(.ref u0), (.long q1), (.int p2), (.int p3), (.int p4), (.ref u5), (.int p6)] ∧ Z.Warmed39 U.vm ∧ U.heap = h0) (fun _ _ _ _ _ => True) (fun _ U o U' => ∃ v L, o = .returned v ∧ Q1 Z u0 q1 p2 p3 p4 u5 p6 h0 n0 v U'.heap L ∧ FrameEnd U o U' L ({ frames := 1, cells := 0, slots := 0, locals := 12 } : Room).cells ({ frames := 1, cells := 0, slots := 0, locals := 12 } : Room).slots) := by
  refine MetFree.of_bodySF (plainFor_of_name pn_1) hisR ?_
  intro p e s m args below meth c s₁ Bd hml0 hP hK
  obtain ⟨rfl, hZ, hh⟩ := hP
  have hx := Bd.exec
  have hby := Bd.bytes
  have hlk := Bd.notSynchronized
  have hret := Bd.returns
  have hml : c.maxLocals = 8 := hml0
  have hown : s.vm.findClass "com/example/auscult/auscult/store/SearchMatches" = some m.cls := findClass_of_methodNamed Bd.named
  have hnm := (name_of_methodNamed Bd.named Bd.method).1
  have X0 : Stand p l e ({ frames := 1, cells := 0, slots := 0, locals := 12 } : Room) s m #[(.ref u0), (.long q1), (.int p2), (.int p3), (.int p4), (.ref u5), (.int p6)] below meth c s₁ [] 0 0 := Stand.of_body Bd
  have e0 : s₁.heap = h0 := by rw [← hh, Bd.state]; rfl
  have N0 := Fr.nil n0
  suffices G0 : Rch p e below (Gd s (Q1 Z u0 q1 p2 p3 p4 u5 p6 h0 n0) ({ frames := 1, cells := 0, slots := 0, locals := 12 } : Room).cells ({ frames := 1, cells := 0, slots := 0, locals := 12 } : Room).slots) s₁ (mkF m 0 #[.val (.ref u0), .val (.long q1), .second, .val (.int p2), .val (.int p3), .val (.int p4), .val (.ref u5), .val (.int p6)] []) by
    obtain ⟨s₂, o, r1, r2, r3, r4⟩ := G0
    exact ⟨s₂, o, castTop (ef_1 m u0 q1 p2 p3 p4 u5 p6) r1, r2, r3, r4⟩
  refine own_go (T := s₁) (T' := s₁) (f := (mkF m 0 #[.val (.ref u0), .val (.long q1), .second, .val (.int p2), .val (.int p3), .val (.int p4), .val (.ref u5), .val (.int p6)] [])) (f' := (mkF m 1 #[.val (.ref u0), .val (.long q1), .second, .val (.int p2), .val (.int p3), .val (.int p4), .val (.ref u5), .val (.int p6)] [(.ref u0)])) (fun t k => ?_) ?_
  · show Steps p.tables e below (s₁.setTop (mkF m 0 #[.val (.ref u0), .val (.long q1), .second, .val (.int p2), .val (.int p3), .val (.int p4), .val (.ref u5), .val (.int p6)] [])) _
    refine XS.aloadN X0.here hx rfl (hb hby d1_0) rfl rfl ?_
    exact k
  obtain ⟨T1, X1, e1, st1⟩ := initO X0 hx hZ hown (hw _ (List.mem_of_getElem? (i := 9) rfl)) (hw _ (List.mem_of_getElem? (i := 10) rfl)) (hw _ (List.mem_of_getElem? (i := 11) rfl)) e0 (g := (mkF m 1 #[.val (.ref u0), .val (.long q1), .second, .val (.int p2), .val (.int p3), .val (.int p4), .val (.ref u5), .val (.int p6)] [(.ref u0)])) rfl (by rw [hml]; rfl) rfl (hb hby d1_1) (by decide) (W := 0) (by show 2 * 0 + _ ≤ _; exact Nat.le_of_eq rfl) (by decide)
  refine own_go st1 ?_
  show Rch p e below _ T1 (mkF m 4 #[.val (.ref u0), .val (.long q1), .second, .val (.int p2), .val (.int p3), .val (.int p4), .val (.ref u5), .val (.int p6)] [])
  refine own_go (T := T1) (T' := T1) (f := (mkF m 4 #[.val (.ref u0), .val (.long q1), .second, .val (.int p2), .val (.int p3), .val (.int p4), .val (.ref u5), .val (.int p6)] [])) (f' := (mkF m 6 #[.val (.ref u0), .val (.long q1), .second, .val (.int p2), .val (.int p3), .val (.int p4), .val (.ref u5), .val (.int p6)] [(.long q1), (.ref u0)])) (fun t k => ?_) ?_
  · show Steps p.tables e below (T1.setTop (mkF m 4 #[.val (.ref u0), .val (.long q1), .second, .val (.int p2), .val (.int p3), .val (.int p4), .val (.ref u5), .val (.int p6)] [])) _
    refine XS.aloadN X1.here hx rfl (hb hby d1_4) rfl rfl ?_
    show Steps p.tables e below (T1.setTop (mkF m 5 #[.val (.ref u0), .val (.long q1), .second, .val (.int p2), .val (.int p3), .val (.int p4), .val (.ref u5), .val (.int p6)] [(.ref u0)])) _
    refine XS.lloadN X1.here hx rfl (hb hby d1_5) rfl ?_
    exact k
  obtain ⟨T2, h2, X2, e2, W2, st2⟩ := putF X1 hx hZ hown (host := "") (Or.inl (hw _ (List.mem_of_getElem? (i := 12) rfl))) Via.refl e1 F_point E (Or.inr ⟨(hw _ (List.mem_of_getElem? (i := 13) rfl)), rfl, hnm⟩) (hw _ (List.mem_of_getElem? (i := 4) rfl)) (ty := .long) (by decide) rfl rfl (g := (mkF m 6 #[.val (.ref u0), .val (.long q1), .second, .val (.int p2), .val (.int p3), .val (.int p4), .val (.ref u5), .val (.int p6)] [(.long q1), (.ref u0)])) rfl rfl (hb hby d1_6)
  have N2 := Fr.snoc X2 N0 g
  refine own_go st2 ?_
  show Rch p e below _ T2 (mkF m 9 #[.val (.ref u0), .val (.long q1), .second, .val (.int p2), .val (.int p3), .val (.int p4), .val (.ref u5), .val (.int p6)] [])
  have F2_point := F_point.same W2
  have F2_total := (F_total.other W2 (Or.inr (slot_ne (Or.inr (hw _ (List.mem_of_getElem? (i := 15) rfl))) (Or.inr (hw _ (List.mem_of_getElem? (i := 13) rfl))) (by decide) (t := .int) (t' := .long) (by decide) (by decide))))
  have F2_matched := (F_matched.other W2 (Or.inr (slot_ne (Or.inr (hw _ (List.mem_of_getElem? (i := 17) rfl))) (Or.inr (hw _ (List.mem_of_getElem? (i := 13) rfl))) (by decide) (t := .int) (t' := .long) (by decide) (by decide))))
  have F2_from := (F_from.other W2 (Or.inr (slot_ne (Or.inr (hw _ (List.mem_of_getElem? (i := 19) rfl))) (Or.inr (hw _ (List.mem_of_getElem? (i := 13) rfl))) (by decide) (t := .int) (t' := .long) (by decide) (by decide))))
  have F2_versions := (F_versions.other W2 (Or.inr (slot_ne (Or.inr (hw _ (List.mem_of_getElem? (i := 21) rfl))) (Or.inr (hw _ (List.mem_of_getElem? (i := 13) rfl))) (by decide) (t := (.array .long)) (t' := .long) (by decide) (by decide))))
  have F2_lasting := (F_lasting.other W2 (Or.inr (slot_ne (Or.inr (hw _ (List.mem_of_getElem? (i := 23) rfl))) (Or.inr (hw _ (List.mem_of_getElem? (i := 13) rfl))) (by decide) (t := .boolean) (t' := .long) (by decide) (by decide))))
  have E2 := E.wr W2
  have K2 := (Keep.refl h0 [u0]).wr W2 (Or.inl (List.mem_of_getElem? (i := 0) rfl))
  refine own_go (T := T2) (T' := T2) (f := (mkF m 9 #[.val (.ref u0), .val (.long q1), .second, .val (.int p2), .val (.int p3), .val (.int p4), .val (.ref u5), .val (.int p6)] [])) (f' := (mkF m 11 #[.val (.ref u0), .val (.long q1), .second, .val (.int p2), .val (.int p3), .val (.int p4), .val (.ref u5), .val (.int p6)] [(.int p2), (.ref u0)])) (fun t k => ?_) ?_
  · show Steps p.tables e below (T2.setTop (mkF m 9 #[.val (.ref u0), .val (.long q1), .second, .val (.int p2), .val (.int p3), .val (.int p4), .val (.ref u5), .val (.int p6)] [])) _
    refine XS.aloadN X2.here hx rfl (hb hby d1_9) rfl rfl ?_
    show Steps p.tables e below (T2.setTop (mkF m 10 #[.val (.ref u0), .val (.long q1), .second, .val (.int p2), .val (.int p3), .val (.int p4), .val (.ref u5), .val (.int p6)] [(.ref u0)])) _
    refine XS.iloadN X2.here hx rfl (hb hby d1_10) rfl ?_
    exact k
  obtain ⟨T3, h3, X3, e3, W3, st3⟩ := putF X2 hx hZ hown (host := "") (Or.inl (hw _ (List.mem_of_getElem? (i := 14) rfl))) Via.refl e2 F2_total E2 (Or.inr ⟨(hw _ (List.mem_of_getElem? (i := 15) rfl)), rfl, hnm⟩) (hw _ (List.mem_of_getElem? (i := 4) rfl)) (ty := .int) (by decide) rfl rfl (g := (mkF m 11 #[.val (.ref u0), .val (.long q1), .second, .val (.int p2), .val (.int p3), .val (.int p4), .val (.ref u5), .val (.int p6)] [(.int p2), (.ref u0)])) rfl rfl (hb hby d1_11)
  have N3 := Fr.snoc X3 N2 g
  refine own_go st3 ?_
  show Rch p e below _ T3 (mkF m 14 #[.val (.ref u0), .val (.long q1), .second, .val (.int p2), .val (.int p3), .val (.int p4), .val (.ref u5), .val (.int p6)] [])
  have F3_point := (F2_point.other W3 (Or.inr (slot_ne (Or.inr (hw _ (List.mem_of_getElem? (i := 13) rfl))) (Or.inr (hw _ (List.mem_of_getElem? (i := 15) rfl))) (by decide) (t := .long) (t' := .int) (by decide) (by decide))))
  have F3_total := F2_total.same W3
  have F3_matched := (F2_matched.other W3 (Or.inr (slot_ne (Or.inr (hw _ (List.mem_of_getElem? (i := 17) rfl))) (Or.inr (hw _ (List.mem_of_getElem? (i := 15) rfl))) (by decide) (t := .int) (t' := .int) (by decide) (by decide))))
  have F3_from := (F2_from.other W3 (Or.inr (slot_ne (Or.inr (hw _ (List.mem_of_getElem? (i := 19) rfl))) (Or.inr (hw _ (List.mem_of_getElem? (i := 15) rfl))) (by decide) (t := .int) (t' := .int) (by decide) (by decide))))
  have F3_versions := (F2_versions.other W3 (Or.inr (slot_ne (Or.inr (hw _ (List.mem_of_getElem? (i := 21) rfl))) (Or.inr (hw _ (List.mem_of_getElem? (i := 15) rfl))) (by decide) (t := (.array .long)) (t' := .int) (by decide) (by decide))))
  have F3_lasting := (F2_lasting.other W3 (Or.inr (slot_ne (Or.inr (hw _ (List.mem_of_getElem? (i := 23) rfl))) (Or.inr (hw _ (List.mem_of_getElem? (i := 15) rfl))) (by decide) (t := .boolean) (t' := .int) (by decide) (by decide))))
  have E3 := E2.wr W3
  have K3 := K2.wr W3 (Or.inl (List.mem_of_getElem? (i := 0) rfl))
  refine own_go (T := T3) (T' := T3) (f := (mkF m 14 #[.val (.ref u0), .val (.long q1), .second, .val (.int p2), .val (.int p3), .val (.int p4), .val (.ref u5), .val (.int p6)] [])) (f' := (mkF m 17 #[.val (.ref u0), .val (.long q1), .second, .val (.int p2), .val (.int p3), .val (.int p4), .val (.ref u5), .val (.int p6)] [(.int p3), (.ref u0)])) (fun t k => ?_) ?_
  · show Steps p.tables e below (T3.setTop (mkF m 14 #[.val (.ref u0), .val (.long q1), .second, .val (.int p2), .val (.int p3), .val (.int p4), .val (.ref u5), .val (.int p6)] [])) _
    refine XS.aloadN X3.here hx rfl (hb hby d1_14) rfl rfl ?_
    show Steps p.tables e below (T3.setTop (mkF m 15 #[.val (.ref u0), .val (.long q1), .second, .val (.int p2), .val (.int p3), .val (.int p4), .val (.ref u5), .val (.int p6)] [(.ref u0)])) _
    refine XS.iload X3.here hx rfl (hb hby d1_15) rfl ?_
    exact k
  obtain ⟨T4, h4, X4, e4, W4, st4⟩ := putF X3 hx hZ hown (host := "") (Or.inl (hw _ (List.mem_of_getElem? (i := 16) rfl))) Via.refl e3 F3_matched E3 (Or.inr ⟨(hw _ (List.mem_of_getElem? (i := 17) rfl)), rfl, hnm⟩) (hw _ (List.mem_of_getElem? (i := 4) rfl)) (ty := .int) (by decide) rfl rfl (g := (mkF m 17 #[.val (.ref u0), .val (.long q1), .second, .val (.int p2), .val (.int p3), .val (.int p4), .val (.ref u5), .val (.int p6)] [(.int p3), (.ref u0)])) rfl rfl (hb hby d1_17)
  have N4 := Fr.snoc X4 N3 g
  refine own_go st4 ?_
  show Rch p e below _ T4 (mkF m 20 #[.val (.ref u0), .val (.long q1), .second, .val (.int p2), .val (.int p3), .val (.int p4), .val (.ref u5), .val (.int p6)] [])
  have F4_point := (F3_point.other W4 (Or.inr (slot_ne (Or.inr (hw _ (List.mem_of_getElem? (i := 13) rfl))) (Or.inr (hw _ (List.mem_of_getElem? (i := 17) rfl))) (by decide) (t := .long) (t' := .int) (by decide) (by decide))))
  have F4_total := (F3_total.other W4 (Or.inr (slot_ne (Or.inr (hw _ (List.mem_of_getElem? (i := 15) rfl))) (Or.inr (hw _ (List.mem_of_getElem? (i := 17) rfl))) (by decide) (t := .int) (t' := .int) (by decide) (by decide))))
  have F4_matched := F3_matched.same W4
  have F4_from := (F3_from.other W4 (Or.inr (slot_ne (Or.inr (hw _ (List.mem_of_getElem? (i := 19) rfl))) (Or.inr (hw _ (List.mem_of_getElem? (i := 17) rfl))) (by decide) (t := .int) (t' := .int) (by decide) (by decide))))
  have F4_versions := (F3_versions.other W4 (Or.inr (slot_ne (Or.inr (hw _ (List.mem_of_getElem? (i := 21) rfl))) (Or.inr (hw _ (List.mem_of_getElem? (i := 17) rfl))) (by decide) (t := (.array .long)) (t' := .int) (by decide) (by decide))))
  have F4_lasting := (F3_lasting.other W4 (Or.inr (slot_ne (Or.inr (hw _ (List.mem_of_getElem? (i := 23) rfl))) (Or.inr (hw _ (List.mem_of_getElem? (i := 17) rfl))) (by decide) (t := .boolean) (t' := .int) (by decide) (by decide))))
  have E4 := E3.wr W4
  have K4 := K3.wr W4 (Or.inl (List.mem_of_getElem? (i := 0) rfl))
  refine own_go (T := T4) (T' := T4) (f := (mkF m 20 #[.val (.ref u0), .val (.long q1), .second, .val (.int p2), .val (.int p3), .val (.int p4), .val (.ref u5), .val (.int p6)] [])) (f' := (mkF m 23 #[.val (.ref u0), .val (.long q1), .second, .val (.int p2), .val (.int p3), .val (.int p4), .val (.ref u5), .val (.int p6)] [(.int p4), (.ref u0)])) (fun t k => ?_) ?_
  · show Steps p.tables e below (T4.setTop (mkF m 20 #[.val (.ref u0), .val (.long q1), .second, .val (.int p2), .val (.int p3), .val (.int p4), .val (.ref u5), .val (.int p6)] [])) _
    refine XS.aloadN X4.here hx rfl (hb hby d1_20) rfl rfl ?_
    show Steps p.tables e below (T4.setTop (mkF m 21 #[.val (.ref u0), .val (.long q1), .second, .val (.int p2), .val (.int p3), .val (.int p4), .val (.ref u5), .val (.int p6)] [(.ref u0)])) _
    refine XS.iload X4.here hx rfl (hb hby d1_21) rfl ?_
    exact k
  obtain ⟨T5, h5, X5, e5, W5, st5⟩ := putF X4 hx hZ hown (host := "") (Or.inl (hw _ (List.mem_of_getElem? (i := 18) rfl))) Via.refl e4 F4_from E4 (Or.inr ⟨(hw _ (List.mem_of_getElem? (i := 19) rfl)), rfl, hnm⟩) (hw _ (List.mem_of_getElem? (i := 4) rfl)) (ty := .int) (by decide) rfl rfl (g := (mkF m 23 #[.val (.ref u0), .val (.long q1), .second, .val (.int p2), .val (.int p3), .val (.int p4), .val (.ref u5), .val (.int p6)] [(.int p4), (.ref u0)])) rfl rfl (hb hby d1_23)
  have N5 := Fr.snoc X5 N4 g
  refine own_go st5 ?_
  show Rch p e below _ T5 (mkF m 26 #[.val (.ref u0), .val (.long q1), .second, .val (.int p2), .val (.int p3), .val (.int p4), .val (.ref u5), .val (.int p6)] [])
  have F5_point := (F4_point.other W5 (Or.inr (slot_ne (Or.inr (hw _ (List.mem_of_getElem? (i := 13) rfl))) (Or.inr (hw _ (List.mem_of_getElem? (i := 19) rfl))) (by decide) (t := .long) (t' := .int) (by decide) (by decide))))
  have F5_total := (F4_total.other W5 (Or.inr (slot_ne (Or.inr (hw _ (List.mem_of_getElem? (i := 15) rfl))) (Or.inr (hw _ (List.mem_of_getElem? (i := 19) rfl))) (by decide) (t := .int) (t' := .int) (by decide) (by decide))))
  have F5_matched := (F4_matched.other W5 (Or.inr (slot_ne (Or.inr (hw _ (List.mem_of_getElem? (i := 17) rfl))) (Or.inr (hw _ (List.mem_of_getElem? (i := 19) rfl))) (by decide) (t := .int) (t' := .int) (by decide) (by decide))))
  have F5_from := F4_from.same W5
  have F5_versions := (F4_versions.other W5 (Or.inr (slot_ne (Or.inr (hw _ (List.mem_of_getElem? (i := 21) rfl))) (Or.inr (hw _ (List.mem_of_getElem? (i := 19) rfl))) (by decide) (t := (.array .long)) (t' := .int) (by decide) (by decide))))
  have F5_lasting := (F4_lasting.other W5 (Or.inr (slot_ne (Or.inr (hw _ (List.mem_of_getElem? (i := 23) rfl))) (Or.inr (hw _ (List.mem_of_getElem? (i := 19) rfl))) (by decide) (t := .boolean) (t' := .int) (by decide) (by decide))))
  have E5 := E4.wr W5
  have K5 := K4.wr W5 (Or.inl (List.mem_of_getElem? (i := 0) rfl))
  refine own_go (T := T5) (T' := T5) (f := (mkF m 26 #[.val (.ref u0), .val (.long q1), .second, .val (.int p2), .val (.int p3), .val (.int p4), .val (.ref u5), .val (.int p6)] [])) (f' := (mkF m 29 #[.val (.ref u0), .val (.long q1), .second, .val (.int p2), .val (.int p3), .val (.int p4), .val (.ref u5), .val (.int p6)] [(.ref u5), (.ref u0)])) (fun t k => ?_) ?_
  · show Steps p.tables e below (T5.setTop (mkF m 26 #[.val (.ref u0), .val (.long q1), .second, .val (.int p2), .val (.int p3), .val (.int p4), .val (.ref u5), .val (.int p6)] [])) _
    refine XS.aloadN X5.here hx rfl (hb hby d1_26) rfl rfl ?_
    show Steps p.tables e below (T5.setTop (mkF m 27 #[.val (.ref u0), .val (.long q1), .second, .val (.int p2), .val (.int p3), .val (.int p4), .val (.ref u5), .val (.int p6)] [(.ref u0)])) _
    refine XS.aload X5.here hx rfl (hb hby d1_27) rfl rfl ?_
    exact k
  obtain ⟨T6, h6, X6, e6, W6, st6⟩ := putF X5 hx hZ hown (host := "") (Or.inl (hw _ (List.mem_of_getElem? (i := 20) rfl))) Via.refl e5 F5_versions E5 (Or.inr ⟨(hw _ (List.mem_of_getElem? (i := 21) rfl)), rfl, hnm⟩) (hw _ (List.mem_of_getElem? (i := 4) rfl)) (ty := (.array .long)) (by decide) rfl rfl (g := (mkF m 29 #[.val (.ref u0), .val (.long q1), .second, .val (.int p2), .val (.int p3), .val (.int p4), .val (.ref u5), .val (.int p6)] [(.ref u5), (.ref u0)])) rfl rfl (hb hby d1_29)
  have N6 := Fr.snoc X6 N5 g
  refine own_go st6 ?_
  show Rch p e below _ T6 (mkF m 32 #[.val (.ref u0), .val (.long q1), .second, .val (.int p2), .val (.int p3), .val (.int p4), .val (.ref u5), .val (.int p6)] [])
  have F6_point := (F5_point.other W6 (Or.inr (slot_ne (Or.inr (hw _ (List.mem_of_getElem? (i := 13) rfl))) (Or.inr (hw _ (List.mem_of_getElem? (i := 21) rfl))) (by decide) (t := .long) (t' := (.array .long)) (by decide) (by decide))))
  have F6_total := (F5_total.other W6 (Or.inr (slot_ne (Or.inr (hw _ (List.mem_of_getElem? (i := 15) rfl))) (Or.inr (hw _ (List.mem_of_getElem? (i := 21) rfl))) (by decide) (t := .int) (t' := (.array .long)) (by decide) (by decide))))
  have F6_matched := (F5_matched.other W6 (Or.inr (slot_ne (Or.inr (hw _ (List.mem_of_getElem? (i := 17) rfl))) (Or.inr (hw _ (List.mem_of_getElem? (i := 21) rfl))) (by decide) (t := .int) (t' := (.array .long)) (by decide) (by decide))))
  have F6_from := (F5_from.other W6 (Or.inr (slot_ne (Or.inr (hw _ (List.mem_of_getElem? (i := 19) rfl))) (Or.inr (hw _ (List.mem_of_getElem? (i := 21) rfl))) (by decide) (t := .int) (t' := (.array .long)) (by decide) (by decide))))
  have F6_versions := F5_versions.same W6
  have F6_lasting := (F5_lasting.other W6 (Or.inr (slot_ne (Or.inr (hw _ (List.mem_of_getElem? (i := 23) rfl))) (Or.inr (hw _ (List.mem_of_getElem? (i := 21) rfl))) (by decide) (t := .boolean) (t' := (.array .long)) (by decide) (by decide))))
  have E6 := E5.wr W6
  have K6 := K5.wr W6 (Or.inl (List.mem_of_getElem? (i := 0) rfl))
  refine own_go (T := T6) (T' := T6) (f := (mkF m 32 #[.val (.ref u0), .val (.long q1), .second, .val (.int p2), .val (.int p3), .val (.int p4), .val (.ref u5), .val (.int p6)] [])) (f' := (mkF m 35 #[.val (.ref u0), .val (.long q1), .second, .val (.int p2), .val (.int p3), .val (.int p4), .val (.ref u5), .val (.int p6)] [(.int p6), (.ref u0)])) (fun t k => ?_) ?_
  · show Steps p.tables e below (T6.setTop (mkF m 32 #[.val (.ref u0), .val (.long q1), .second, .val (.int p2), .val (.int p3), .val (.int p4), .val (.ref u5), .val (.int p6)] [])) _
    refine XS.aloadN X6.here hx rfl (hb hby d1_32) rfl rfl ?_
    show Steps p.tables e below (T6.setTop (mkF m 33 #[.val (.ref u0), .val (.long q1), .second, .val (.int p2), .val (.int p3), .val (.int p4), .val (.ref u5), .val (.int p6)] [(.ref u0)])) _
    refine XS.iload X6.here hx rfl (hb hby d1_33) rfl ?_
    exact k
  obtain ⟨T7, h7, X7, e7, W7, st7⟩ := putFN X6 hx hZ hown (hw _ (List.mem_of_getElem? (i := 22) rfl)) Via.refl e6 F6_lasting E6 (Or.inr ⟨(hw _ (List.mem_of_getElem? (i := 23) rfl)), rfl, hnm⟩) (hw _ (List.mem_of_getElem? (i := 4) rfl)) (ty := .boolean) (v' := (.int (nar .boolean p6))) (by decide) rfl (fits_nar_bool _) (g := (mkF m 35 #[.val (.ref u0), .val (.long q1), .second, .val (.int p2), .val (.int p3), .val (.int p4), .val (.ref u5), .val (.int p6)] [(.int p6), (.ref u0)])) rfl rfl (hb hby d1_35)
  have N7 := Fr.snoc X7 N6 g
  refine own_go st7 ?_
  show Rch p e below _ T7 (mkF m 38 #[.val (.ref u0), .val (.long q1), .second, .val (.int p2), .val (.int p3), .val (.int p4), .val (.ref u5), .val (.int p6)] [])
  have F7_point := (F6_point.other W7 (Or.inr (slot_ne (Or.inr (hw _ (List.mem_of_getElem? (i := 13) rfl))) (Or.inr (hw _ (List.mem_of_getElem? (i := 23) rfl))) (by decide) (t := .long) (t' := .boolean) (by decide) (by decide))))
  have F7_total := (F6_total.other W7 (Or.inr (slot_ne (Or.inr (hw _ (List.mem_of_getElem? (i := 15) rfl))) (Or.inr (hw _ (List.mem_of_getElem? (i := 23) rfl))) (by decide) (t := .int) (t' := .boolean) (by decide) (by decide))))
  have F7_matched := (F6_matched.other W7 (Or.inr (slot_ne (Or.inr (hw _ (List.mem_of_getElem? (i := 17) rfl))) (Or.inr (hw _ (List.mem_of_getElem? (i := 23) rfl))) (by decide) (t := .int) (t' := .boolean) (by decide) (by decide))))
  have F7_from := (F6_from.other W7 (Or.inr (slot_ne (Or.inr (hw _ (List.mem_of_getElem? (i := 19) rfl))) (Or.inr (hw _ (List.mem_of_getElem? (i := 23) rfl))) (by decide) (t := .int) (t' := .boolean) (by decide) (by decide))))
  have F7_versions := (F6_versions.other W7 (Or.inr (slot_ne (Or.inr (hw _ (List.mem_of_getElem? (i := 21) rfl))) (Or.inr (hw _ (List.mem_of_getElem? (i := 23) rfl))) (by decide) (t := (.array .long)) (t' := .boolean) (by decide) (by decide))))
  have F7_lasting := F6_lasting.same W7
  have E7 := E6.wr W7
  have K7 := K6.wr W7 (Or.inl (List.mem_of_getElem? (i := 0) rfl))
  exact own_retV X7 hx hlk hret (hb hby d1_38) (by decide) (by decide) (by rw [e7]; exact ⟨rfl, N7, K7, E7, F7_total, F7_from, F7_versions⟩)
theorem d3_0 : decode prog_29_method_8_code 0 = .ok (.aload_n 0, 1) := by decide +kernel
theorem d3_1 : decode prog_29_method_8_code 1 = .ok (.getfield 23, 3) := by decide +kernel
theorem d3_4 : decode prog_29_method_8_code 4 = .ok (.iload_n 1, 1) := by decide +kernel
theorem d3_5 : decode prog_29_method_8_code 5 = .ok (.if_icmp .gt 24, 3) := by decide +kernel
theorem d3_29 : decode prog_29_method_8_code 29 = .ok (.iconst 0, 1) := by decide +kernel
theorem d3_30 : decode prog_29_method_8_code 30 = .ok (.ireturn, 1) := by decide +kernel
theorem d3_8 : decode prog_29_method_8_code 8 = .ok (.aload_n 0, 1) := by decide +kernel
theorem d3_9 : decode prog_29_method_8_code 9 = .ok (.getfield 23, 3) := by decide +kernel
theorem d3_12 : decode prog_29_method_8_code 12 = .ok (.aload_n 0, 1) := by decide +kernel
theorem d3_13 : decode prog_29_method_8_code 13 = .ok (.getfield 26, 3) := by decide +kernel
theorem d3_16 : decode prog_29_method_8_code 16 = .ok (.arraylength, 1) := by decide +kernel
theorem d3_17 : decode prog_29_method_8_code 17 = .ok (.iadd, 1) := by decide +kernel
theorem d3_18 : decode prog_29_method_8_code 18 = .ok (.aload_n 0, 1) := by decide +kernel
theorem d3_19 : decode prog_29_method_8_code 19 = .ok (.getfield 16, 3) := by decide +kernel
theorem d3_22 : decode prog_29_method_8_code 22 = .ok (.if_icmp .ne 7, 3) := by decide +kernel
theorem d3_25 : decode prog_29_method_8_code 25 = .ok (.iconst 1, 1) := by decide +kernel
theorem d3_26 : decode prog_29_method_8_code 26 = .ok (.goto 4, 3) := by decide +kernel
theorem pn_3 : plainName "com/example/auscult/auscult/store/SearchMatches" = true := by first | (simp [plainName, overriddenIn]; done) | decide +kernel
theorem ef_3 (m : MethodId) (x0 : Addr) (x1 : Int32) : entryFrame m #[(.ref x0), (.int x1)] 2 = mkF m 0 #[.val (.ref x0), .val (.int x1)] [] := by first | (simp [entryFrame, mkF, argsToLocals, Value.category]; done) | rfl
def Q3 (Z : State) (u0 : Addr) (p1 : Int32) (fr : Int32) (tot : Int32) (n : Int32) (va : Addr) (k : ClassId) (h0 : Heap) (n0 : Nat) (v : Option Value) (h : Heap) (L : List Loc) : Prop := v = some (.int (own_hf fr tot n p1)) ∧ Fr n0 L ∧ h = h0
set_option maxRecDepth 65536 in
set_option maxHeartbeats 40000000 in
theorem rm3 (l : Launch) (Z : State) (a0 : Array Value) (hw : ∀ d ∈ tables_1, d.before a0 Z = true) (ws : List Jvm.Cond) (u0 : Addr) (p1 : Int32) (fr : Int32) (tot : Int32) (n : Int32) (va : Addr) (k : ClassId) (h0 : Heap) (n0 : Nat) (Z0 : n0 ≤ h0.size) (Ff : Fld Z h0 u0 "com/example/auscult/auscult/store/SearchMatches" "from" "I" (.int fr)) (Ft : Fld Z h0 u0 "com/example/auscult/auscult/store/SearchMatches" "total" "I" (.int tot)) (Fv : Fld Z h0 u0 "com/example/auscult/auscult/store/SearchMatches" "versions" "[J" (.ref va)) (V : Arv Z h0 va k .long n [] (.long (0 : Int64))) :
    MetFree l (⟨"com/example/auscult/auscult/store/SearchMatches", "holdsFrom", "(I)Z"⟩ : MethodName) (head1 (Jvm.Cond.code (⟨"com/example/auscult/auscult/store/SearchMatches", "holdsFrom", "(I)Z"⟩ : MethodName) prog_29_method_8_code 2 (some .boolean) :: ws) ({ frames := 0, cells := 0, slots := 0, locals := 0 } : Room)) (fun a U => a = #[(.ref u0), (.int p1)] ∧ Z.Warmed39 U.vm ∧ U.heap = h0) (fun _ _ _ _ _ => True) (fun _ U o U' => ∃ v L, o = .returned v ∧ Q3 Z u0 p1 fr tot n va k h0 n0 v U'.heap L ∧ FrameEnd U o U' L ({ frames := 0, cells := 0, slots := 0, locals := 0 } : Room).cells ({ frames := 0, cells := 0, slots := 0, locals := 0 } : Room).slots) := by
  refine MetFree.of_bodySF (plainFor_of_name pn_3) hisR ?_
  intro p e s m args below meth c s₁ Bd hml0 hP hK
  obtain ⟨rfl, hZ, hh⟩ := hP
  have hx := Bd.exec
  have hby := Bd.bytes
  have hlk := Bd.notSynchronized
  have hret := Bd.returns
  have hml : c.maxLocals = 2 := hml0
  have hown : s.vm.findClass "com/example/auscult/auscult/store/SearchMatches" = some m.cls := findClass_of_methodNamed Bd.named
  have hnm := (name_of_methodNamed Bd.named Bd.method).1
  have X0 : Stand p l e ({ frames := 0, cells := 0, slots := 0, locals := 0 } : Room) s m #[(.ref u0), (.int p1)] below meth c s₁ [] 0 0 := Stand.of_body Bd
  have e0 : s₁.heap = h0 := by rw [← hh, Bd.state]; rfl
  have N0 := Fr.nil n0
  suffices G0 : Rch p e below (Gd s (Q3 Z u0 p1 fr tot n va k h0 n0) ({ frames := 0, cells := 0, slots := 0, locals := 0 } : Room).cells ({ frames := 0, cells := 0, slots := 0, locals := 0 } : Room).slots) s₁ (mkF m 0 #[.val (.ref u0), .val (.int p1)] []) by
    obtain ⟨s₂, o, r1, r2, r3, r4⟩ := G0
    exact ⟨s₂, o, castTop (ef_3 m u0 p1) r1, r2, r3, r4⟩
  refine own_go (T := s₁) (T' := s₁) (f := (mkF m 0 #[.val (.ref u0), .val (.int p1)] [])) (f' := (mkF m 1 #[.val (.ref u0), .val (.int p1)] [(.ref u0)])) (fun t k => ?_) ?_
  · show Steps p.tables e below (s₁.setTop (mkF m 0 #[.val (.ref u0), .val (.int p1)] [])) _
    refine XS.aloadN X0.here hx rfl (hb hby d3_0) rfl rfl ?_
    exact k
  obtain ⟨T8, X8, e8, st8⟩ := getF X0 hx hZ hown (host := "") (Or.inl (hw _ (List.mem_of_getElem? (i := 18) rfl))) Via.refl e0 Ff (g := (mkF m 1 #[.val (.ref u0), .val (.int p1)] [(.ref u0)])) rfl rfl (hb hby d3_1)
  refine own_go st8 ?_
  show Rch p e below _ T8 (mkF m 4 #[.val (.ref u0), .val (.int p1)] [(.int fr)])
  refine own_go (T := T8) (T' := T8) (f := (mkF m 4 #[.val (.ref u0), .val (.int p1)] [(.int fr)])) (f' := (mkF m 5 #[.val (.ref u0), .val (.int p1)] [(.int p1), (.int fr)])) (fun t k => ?_) ?_
  · show Steps p.tables e below (T8.setTop (mkF m 4 #[.val (.ref u0), .val (.int p1)] [(.int fr)])) _
    refine XS.iloadN X8.here hx rfl (hb hby d3_4) rfl ?_
    exact k
  by_cases hc5 : p1 < fr
  · refine own_go (T := T8) (T' := T8) (f := (mkF m 5 #[.val (.ref u0), .val (.int p1)] [(.int p1), (.int fr)])) (f' := (mkF m 29 #[.val (.ref u0), .val (.int p1)] [])) (fun t k => ?_) ?_
    · show Steps p.tables e below (T8.setTop (mkF m 5 #[.val (.ref u0), .val (.int p1)] [(.int p1), (.int fr)])) _
      refine XS.icmpYes X8.here hx rfl (pc0 := 5) (pc' := 29) rfl (hb hby d3_5) rfl (tlt hc5).2.2.1 (by decide) (by decide) ?_
      exact k
    refine own_go (T := T8) (T' := T8) (f := (mkF m 29 #[.val (.ref u0), .val (.int p1)] [])) (f' := (mkF m 30 #[.val (.ref u0), .val (.int p1)] [(.int (0 : Int32))])) (fun t k => ?_) ?_
    · show Steps p.tables e below (T8.setTop (mkF m 29 #[.val (.ref u0), .val (.int p1)] [])) _
      refine XS.iconst X8.here hx rfl (hb hby d3_29) ?_
      exact k
    exact own_retN X8 hx hlk (t := .boolean) (w := (0 : Int32)) hret (by simp) (hb hby d3_30) rfl (by decide) (by decide) (by rw [e8]; exact ⟨(by simp [own_hf, hc5]), N0, rfl⟩)
  · refine own_go (T := T8) (T' := T8) (f := (mkF m 5 #[.val (.ref u0), .val (.int p1)] [(.int p1), (.int fr)])) (f' := (mkF m 8 #[.val (.ref u0), .val (.int p1)] [])) (fun t k => ?_) ?_
    · show Steps p.tables e below (T8.setTop (mkF m 5 #[.val (.ref u0), .val (.int p1)] [(.int p1), (.int fr)])) _
      refine XS.icmpNo X8.here hx rfl (hb hby d3_5) rfl (flt hc5).2.2.1 ?_
      exact k
    refine own_go (T := T8) (T' := T8) (f := (mkF m 8 #[.val (.ref u0), .val (.int p1)] [])) (f' := (mkF m 9 #[.val (.ref u0), .val (.int p1)] [(.ref u0)])) (fun t k => ?_) ?_
    · show Steps p.tables e below (T8.setTop (mkF m 8 #[.val (.ref u0), .val (.int p1)] [])) _
      refine XS.aloadN X8.here hx rfl (hb hby d3_8) rfl rfl ?_
      exact k
    obtain ⟨T9, X9, e9, st9⟩ := getF X8 hx hZ hown (host := "") (Or.inl (hw _ (List.mem_of_getElem? (i := 18) rfl))) Via.refl e8 Ff (g := (mkF m 9 #[.val (.ref u0), .val (.int p1)] [(.ref u0)])) rfl rfl (hb hby d3_9)
    refine own_go st9 ?_
    show Rch p e below _ T9 (mkF m 12 #[.val (.ref u0), .val (.int p1)] [(.int fr)])
    refine own_go (T := T9) (T' := T9) (f := (mkF m 12 #[.val (.ref u0), .val (.int p1)] [(.int fr)])) (f' := (mkF m 13 #[.val (.ref u0), .val (.int p1)] [(.ref u0), (.int fr)])) (fun t k => ?_) ?_
    · show Steps p.tables e below (T9.setTop (mkF m 12 #[.val (.ref u0), .val (.int p1)] [(.int fr)])) _
      refine XS.aloadN X9.here hx rfl (hb hby d3_12) rfl rfl ?_
      exact k
    obtain ⟨T10, X10, e10, st10⟩ := getF X9 hx hZ hown (host := "") (Or.inl (hw _ (List.mem_of_getElem? (i := 20) rfl))) Via.refl e9 Fv (g := (mkF m 13 #[.val (.ref u0), .val (.int p1)] [(.ref u0), (.int fr)])) rfl rfl (hb hby d3_13)
    refine own_go st10 ?_
    show Rch p e below _ T10 (mkF m 16 #[.val (.ref u0), .val (.int p1)] [(.ref va), (.int fr)])
    obtain ⟨cl11, Ar11, q111, q211, q311, q411, q511⟩ := id V
    refine own_go (T := T10) (T' := T10) (f := (mkF m 16 #[.val (.ref u0), .val (.int p1)] [(.ref va), (.int fr)])) (f' := (mkF m 17 #[.val (.ref u0), .val (.int p1)] [(.int n), (.int fr)])) (fun t k => ?_) ?_
    · refine X10.arraylength hx (by rw [e10]; exact Ar11.1) (State.isArrayOf_alike hZ.alike Ar11.2.1) (g := (mkF m 16 #[.val (.ref u0), .val (.int p1)] [(.ref va), (.int fr)])) rfl rfl (hb hby d3_16) _ ?_
      rw [len_of q211 q311]
      exact k
    refine own_go (T := T10) (T' := T10) (f := (mkF m 17 #[.val (.ref u0), .val (.int p1)] [(.int n), (.int fr)])) (f' := (mkF m 19 #[.val (.ref u0), .val (.int p1)] [(.ref u0), (.int (fr + n))])) (fun t k => ?_) ?_
    · show Steps p.tables e below (T10.setTop (mkF m 17 #[.val (.ref u0), .val (.int p1)] [(.int n), (.int fr)])) _
      refine XS.iadd X10.here hx rfl (hb hby d3_17) rfl ?_
      show Steps p.tables e below (T10.setTop (mkF m 18 #[.val (.ref u0), .val (.int p1)] [(.int (fr + n))])) _
      refine XS.aloadN X10.here hx rfl (hb hby d3_18) rfl rfl ?_
      exact k
    obtain ⟨T12, X12, e12, st12⟩ := getF X10 hx hZ hown (host := "") (Or.inl (hw _ (List.mem_of_getElem? (i := 14) rfl))) Via.refl e10 Ft (g := (mkF m 19 #[.val (.ref u0), .val (.int p1)] [(.ref u0), (.int (fr + n))])) rfl rfl (hb hby d3_19)
    refine own_go st12 ?_
    show Rch p e below _ T12 (mkF m 22 #[.val (.ref u0), .val (.int p1)] [(.int tot), (.int (fr + n))])
    by_cases hc22 : (fr + n) = tot
    · refine own_go (T := T12) (T' := T12) (f := (mkF m 22 #[.val (.ref u0), .val (.int p1)] [(.int tot), (.int (fr + n))])) (f' := (mkF m 25 #[.val (.ref u0), .val (.int p1)] [])) (fun t k => ?_) ?_
      · show Steps p.tables e below (T12.setTop (mkF m 22 #[.val (.ref u0), .val (.int p1)] [(.int tot), (.int (fr + n))])) _
        refine XS.icmpNo X12.here hx rfl (hb hby d3_22) rfl (teq hc22).2 ?_
        exact k
      refine own_go (T := T12) (T' := T12) (f := (mkF m 25 #[.val (.ref u0), .val (.int p1)] [])) (f' := (mkF m 30 #[.val (.ref u0), .val (.int p1)] [(.int (1 : Int32))])) (fun t k => ?_) ?_
      · show Steps p.tables e below (T12.setTop (mkF m 25 #[.val (.ref u0), .val (.int p1)] [])) _
        refine XS.iconst X12.here hx rfl (hb hby d3_25) ?_
        show Steps p.tables e below (T12.setTop (mkF m 26 #[.val (.ref u0), .val (.int p1)] [(.int (1 : Int32))])) _
        refine XS.goto X12.here hx rfl (pc0 := 26) (pc' := 30) rfl (hb hby d3_26) (by decide) (by decide) ?_
        exact k
      exact own_retN X12 hx hlk (t := .boolean) (w := (1 : Int32)) hret (by simp) (hb hby d3_30) rfl (by decide) (by decide) (by rw [e12]; exact ⟨(by simp [own_hf, hc5, hc22]), N0, rfl⟩)
    · refine own_go (T := T12) (T' := T12) (f := (mkF m 22 #[.val (.ref u0), .val (.int p1)] [(.int tot), (.int (fr + n))])) (f' := (mkF m 29 #[.val (.ref u0), .val (.int p1)] [])) (fun t k => ?_) ?_
      · show Steps p.tables e below (T12.setTop (mkF m 22 #[.val (.ref u0), .val (.int p1)] [(.int tot), (.int (fr + n))])) _
        refine XS.icmpYes X12.here hx rfl (pc0 := 22) (pc' := 29) rfl (hb hby d3_22) rfl (feq hc22).2 (by decide) (by decide) ?_
        exact k
      refine own_go (T := T12) (T' := T12) (f := (mkF m 29 #[.val (.ref u0), .val (.int p1)] [])) (f' := (mkF m 30 #[.val (.ref u0), .val (.int p1)] [(.int (0 : Int32))])) (fun t k => ?_) ?_
      · show Steps p.tables e below (T12.setTop (mkF m 29 #[.val (.ref u0), .val (.int p1)] [])) _
        refine XS.iconst X12.here hx rfl (hb hby d3_29) ?_
        exact k
      exact own_retN X12 hx hlk (t := .boolean) (w := (0 : Int32)) hret (by simp) (hb hby d3_30) rfl (by decide) (by decide) (by rw [e12]; exact ⟨(by simp [own_hf, hc5, hc22]), N0, rfl⟩)
theorem pd__28JIII_5bJZ_29V : parseMethodDescriptor "(JIII[JZ)V" = some ⟨[.long, .int, .int, .int, (.array .long), .boolean], none⟩ := by decide +kernel
theorem pd__28I_29Z : parseMethodDescriptor "(I)Z" = some ⟨[.int], some .boolean⟩ := by decide +kernel
theorem pn_0 : plainName "com/example/auscult/auscult/store/SearchMatchesHoldsFromPinLaw" = true := by first | (simp [plainName, overriddenIn]; done) | decide +kernel
theorem ef_0 (m : MethodId) (x0 : Int64) (x1 : Int32) (x2 : Int32) (x3 : Int32) (x4 : Int32) (x5 : Int32) : entryFrame m #[(.long x0), (.int x1), (.int x2), (.int x3), (.int x4), (.int x5)] maxLocals = mkF m 0 #[.val (.long x0), .second, .val (.int x1), .val (.int x2), .val (.int x3), .val (.int x4), .val (.int x5), .unset, .unset, .unset, .unset, .unset, .unset, .unset, .unset, .unset, .unset, .unset, .unset] [] := by first | (simp [entryFrame, mkF, argsToLocals, Value.category, maxLocals]; done) | rfl
def Q0 (Z : State) (q0 : Int64) (p1 : Int32) (p2 : Int32) (p3 : Int32) (p4 : Int32) (p5 : Int32) (h0 : Heap) (n0 : Nat) (v : Option Value) (h : Heap) (L : List Loc) : Prop := v = some (.int 1) ∧ Fr n0 L
set_option maxRecDepth 65536 in
set_option maxHeartbeats 40000000 in
theorem rm0 (l : Launch) (Z : State) (a0 : Array Value) (hw : ∀ d ∈ tables_1, d.before a0 Z = true) (ws : List Jvm.Cond) (q0 : Int64) (p1 : Int32) (p2 : Int32) (p3 : Int32) (p4 : Int32) (p5 : Int32) (h0 : Heap) (n0 : Nat) (Z0 : n0 ≤ h0.size) :
    MetFree l x (head1 (Jvm.Cond.code x code maxLocals ret :: ws) room_1) (fun a U => a = #[(.long q0), (.int p1), (.int p2), (.int p3), (.int p4), (.int p5)] ∧ Z.Warmed39 U.vm ∧ U.heap = h0) (fun _ _ _ _ _ => True) (fun _ U o U' => ∃ v L, o = .returned v ∧ Q0 Z q0 p1 p2 p3 p4 p5 h0 n0 v U'.heap L ∧ FrameEnd U o U' L room_1.cells room_1.slots) := by
  refine MetFree.of_bodySF (plainFor_of_name pn_0) hisR ?_
  intro p e s m args below meth c s₁ Bd hml0 hP hK
  obtain ⟨rfl, hZ, hh⟩ := hP
  have hx := Bd.exec
  have hby := Bd.bytes
  have hlk := Bd.notSynchronized
  have hret := Bd.returns
  have hml : c.maxLocals = 19 := hml0
  have hown : s.vm.findClass "com/example/auscult/auscult/store/SearchMatchesHoldsFromPinLaw" = some m.cls := findClass_of_methodNamed Bd.named
  have hnm := (name_of_methodNamed Bd.named Bd.method).1
  have X0 : Stand p l e room_1 s m #[(.long q0), (.int p1), (.int p2), (.int p3), (.int p4), (.int p5)] below meth c s₁ [] 0 0 := Stand.of_body Bd
  have e0 : s₁.heap = h0 := by rw [← hh, Bd.state]; rfl
  have N0 := Fr.nil n0
  suffices G0 : Rch p e below (Gd s (Q0 Z q0 p1 p2 p3 p4 p5 h0 n0) room_1.cells room_1.slots) s₁ (mkF m 0 #[.val (.long q0), .second, .val (.int p1), .val (.int p2), .val (.int p3), .val (.int p4), .val (.int p5), .unset, .unset, .unset, .unset, .unset, .unset, .unset, .unset, .unset, .unset, .unset, .unset] []) by
    obtain ⟨s₂, o, r1, r2, r3, r4⟩ := G0
    exact ⟨s₂, o, castTop (ef_0 m q0 p1 p2 p3 p4 p5) r1, r2, r3, r4⟩
  refine own_go (T := s₁) (T' := s₁) (f := (mkF m 0 #[.val (.long q0), .second, .val (.int p1), .val (.int p2), .val (.int p3), .val (.int p4), .val (.int p5), .unset, .unset, .unset, .unset, .unset, .unset, .unset, .unset, .unset, .unset, .unset, .unset] [])) (f' := (mkF m 6 #[.val (.long q0), .second, .val (.int p1), .val (.int p2), .val (.int p3), .val (.int p4), .val (.int p5), .unset, .unset, .unset, .unset, .unset, .unset, .unset, .unset, .unset, .unset, .unset, .unset] [(.int (2147483644 : Int32)), (.int (p1 &&& (2147483647 : Int32)))])) (fun t k => ?_) ?_
  · show Steps p.tables e below (s₁.setTop (mkF m 0 #[.val (.long q0), .second, .val (.int p1), .val (.int p2), .val (.int p3), .val (.int p4), .val (.int p5), .unset, .unset, .unset, .unset, .unset, .unset, .unset, .unset, .unset, .unset, .unset, .unset] [])) _
    refine XS.iloadN X0.here hx rfl (hb hby at_0) rfl ?_
    show Steps p.tables e below (s₁.setTop (mkF m 1 #[.val (.long q0), .second, .val (.int p1), .val (.int p2), .val (.int p3), .val (.int p4), .val (.int p5), .unset, .unset, .unset, .unset, .unset, .unset, .unset, .unset, .unset, .unset, .unset, .unset] [(.int p1)])) _
    refine X0.ldcInt hx hown (mvT hZ (hw _ (List.mem_of_getElem? (i := 0) rfl))) (g := (mkF m 1 #[.val (.long q0), .second, .val (.int p1), .val (.int p2), .val (.int p3), .val (.int p4), .val (.int p5), .unset, .unset, .unset, .unset, .unset, .unset, .unset, .unset, .unset, .unset, .unset, .unset] [(.int p1)])) rfl (hb hby at_1) _ ?_
    show Steps p.tables e below (s₁.setTop (mkF m 3 #[.val (.long q0), .second, .val (.int p1), .val (.int p2), .val (.int p3), .val (.int p4), .val (.int p5), .unset, .unset, .unset, .unset, .unset, .unset, .unset, .unset, .unset, .unset, .unset, .unset] [(.int (2147483647 : Int32)), (.int p1)])) _
    refine XS.iand X0.here hx rfl (hb hby at_3) rfl ?_
    show Steps p.tables e below (s₁.setTop (mkF m 4 #[.val (.long q0), .second, .val (.int p1), .val (.int p2), .val (.int p3), .val (.int p4), .val (.int p5), .unset, .unset, .unset, .unset, .unset, .unset, .unset, .unset, .unset, .unset, .unset, .unset] [(.int (p1 &&& (2147483647 : Int32)))])) _
    refine X0.ldcInt hx hown (mvT hZ (hw _ (List.mem_of_getElem? (i := 1) rfl))) (g := (mkF m 4 #[.val (.long q0), .second, .val (.int p1), .val (.int p2), .val (.int p3), .val (.int p4), .val (.int p5), .unset, .unset, .unset, .unset, .unset, .unset, .unset, .unset, .unset, .unset, .unset, .unset] [(.int (p1 &&& (2147483647 : Int32)))])) rfl (hb hby at_4) _ ?_
    exact k
  refine own_go (T := s₁) (T' := s₁) (f := (mkF m 6 #[.val (.long q0), .second, .val (.int p1), .val (.int p2), .val (.int p3), .val (.int p4), .val (.int p5), .unset, .unset, .unset, .unset, .unset, .unset, .unset, .unset, .unset, .unset, .unset, .unset] [(.int (2147483644 : Int32)), (.int (p1 &&& (2147483647 : Int32)))])) (f' := (mkF m 7 #[.val (.long q0), .second, .val (.int p1), .val (.int p2), .val (.int p3), .val (.int p4), .val (.int p5), .unset, .unset, .unset, .unset, .unset, .unset, .unset, .unset, .unset, .unset, .unset, .unset] [(.int ((p1 &&& (2147483647 : Int32)) % (2147483644 : Int32)))])) (fun t k => ?_) ?_
  · show Steps p.tables e below (s₁.setTop (mkF m 6 #[.val (.long q0), .second, .val (.int p1), .val (.int p2), .val (.int p3), .val (.int p4), .val (.int p5), .unset, .unset, .unset, .unset, .unset, .unset, .unset, .unset, .unset, .unset, .unset, .unset] [(.int (2147483644 : Int32)), (.int (p1 &&& (2147483647 : Int32)))])) _
    refine iremM X0 hx rfl (hb hby at_6) rfl (by decide) ?_
    exact k
  refine own_go (T := s₁) (T' := s₁) (f := (mkF m 7 #[.val (.long q0), .second, .val (.int p1), .val (.int p2), .val (.int p3), .val (.int p4), .val (.int p5), .unset, .unset, .unset, .unset, .unset, .unset, .unset, .unset, .unset, .unset, .unset, .unset] [(.int ((p1 &&& (2147483647 : Int32)) % (2147483644 : Int32)))])) (f' := (mkF m 9 #[.val (.long q0), .second, .val (.int p1), .val (.int p2), .val (.int p3), .val (.int p4), .val (.int p5), .val (.int ((p1 &&& (2147483647 : Int32)) % (2147483644 : Int32))), .unset, .unset, .unset, .unset, .unset, .unset, .unset, .unset, .unset, .unset, .unset] [])) (fun t k => ?_) ?_
  · show Steps p.tables e below (s₁.setTop (mkF m 7 #[.val (.long q0), .second, .val (.int p1), .val (.int p2), .val (.int p3), .val (.int p4), .val (.int p5), .unset, .unset, .unset, .unset, .unset, .unset, .unset, .unset, .unset, .unset, .unset, .unset] [(.int ((p1 &&& (2147483647 : Int32)) % (2147483644 : Int32)))])) _
    refine XS.istore X0.here hx rfl (hb hby at_7) rfl (l' := #[.val (.long q0), .second, .val (.int p1), .val (.int p2), .val (.int p3), .val (.int p4), .val (.int p5), .val (.int ((p1 &&& (2147483647 : Int32)) % (2147483644 : Int32))), .unset, .unset, .unset, .unset, .unset, .unset, .unset, .unset, .unset, .unset, .unset]) rfl ?_
    exact k
  suffices J9 : ∀ fr : Int32, 0 ≤ fr.toInt → fr.toInt ≤ 2147483643 → Rch p e below (Gd s (Q0 Z q0 p1 p2 p3 p4 p5 h0 n0) room_1.cells room_1.slots) s₁ (mkF m 9 #[.val (.long q0), .second, .val (.int p1), .val (.int p2), .val (.int p3), .val (.int p4), .val (.int p5), .val (.int fr), .unset, .unset, .unset, .unset, .unset, .unset, .unset, .unset, .unset, .unset, .unset] []) by
    have q1 := c_mask p1 2147483647 31 (by decide) (by decide)
    have q2 := c_irem (p1 &&& (2147483647 : Int32)) (2147483644 : Int32) 2147483644 (by decide)
    exact J9 _ (by omega) (by omega)
  intro fr hf0 hf1
  refine own_go (T := s₁) (T' := s₁) (f := (mkF m 9 #[.val (.long q0), .second, .val (.int p1), .val (.int p2), .val (.int p3), .val (.int p4), .val (.int p5), .val (.int fr), .unset, .unset, .unset, .unset, .unset, .unset, .unset, .unset, .unset, .unset, .unset] [])) (f' := (mkF m 15 #[.val (.long q0), .second, .val (.int p1), .val (.int p2), .val (.int p3), .val (.int p4), .val (.int p5), .val (.int fr), .val (.int (p4 &&& (3 : Int32))), .unset, .unset, .unset, .unset, .unset, .unset, .unset, .unset, .unset, .unset] [])) (fun t k => ?_) ?_
  · show Steps p.tables e below (s₁.setTop (mkF m 9 #[.val (.long q0), .second, .val (.int p1), .val (.int p2), .val (.int p3), .val (.int p4), .val (.int p5), .val (.int fr), .unset, .unset, .unset, .unset, .unset, .unset, .unset, .unset, .unset, .unset, .unset] [])) _
    refine XS.iload X0.here hx rfl (hb hby at_9) rfl ?_
    show Steps p.tables e below (s₁.setTop (mkF m 11 #[.val (.long q0), .second, .val (.int p1), .val (.int p2), .val (.int p3), .val (.int p4), .val (.int p5), .val (.int fr), .unset, .unset, .unset, .unset, .unset, .unset, .unset, .unset, .unset, .unset, .unset] [(.int p4)])) _
    refine XS.iconst X0.here hx rfl (hb hby at_11) ?_
    show Steps p.tables e below (s₁.setTop (mkF m 12 #[.val (.long q0), .second, .val (.int p1), .val (.int p2), .val (.int p3), .val (.int p4), .val (.int p5), .val (.int fr), .unset, .unset, .unset, .unset, .unset, .unset, .unset, .unset, .unset, .unset, .unset] [(.int (3 : Int32)), (.int p4)])) _
    refine XS.iand X0.here hx rfl (hb hby at_12) rfl ?_
    show Steps p.tables e below (s₁.setTop (mkF m 13 #[.val (.long q0), .second, .val (.int p1), .val (.int p2), .val (.int p3), .val (.int p4), .val (.int p5), .val (.int fr), .unset, .unset, .unset, .unset, .unset, .unset, .unset, .unset, .unset, .unset, .unset] [(.int (p4 &&& (3 : Int32)))])) _
    refine XS.istore X0.here hx rfl (hb hby at_13) rfl (l' := #[.val (.long q0), .second, .val (.int p1), .val (.int p2), .val (.int p3), .val (.int p4), .val (.int p5), .val (.int fr), .val (.int (p4 &&& (3 : Int32))), .unset, .unset, .unset, .unset, .unset, .unset, .unset, .unset, .unset, .unset]) rfl ?_
    exact k
  suffices J15 : ∀ n : Int32, 0 ≤ n.toInt → n.toInt ≤ 3 → Rch p e below (Gd s (Q0 Z q0 p1 p2 p3 p4 p5 h0 n0) room_1.cells room_1.slots) s₁ (mkF m 15 #[.val (.long q0), .second, .val (.int p1), .val (.int p2), .val (.int p3), .val (.int p4), .val (.int p5), .val (.int fr), .val (.int n), .unset, .unset, .unset, .unset, .unset, .unset, .unset, .unset, .unset, .unset] []) by
    have q1 := c_mask p4 3 2 (by decide) (by decide)
    exact J15 _ (by omega) (by omega)
  intro n hn0 hn3
  refine own_go (T := s₁) (T' := s₁) (f := (mkF m 15 #[.val (.long q0), .second, .val (.int p1), .val (.int p2), .val (.int p3), .val (.int p4), .val (.int p5), .val (.int fr), .val (.int n), .unset, .unset, .unset, .unset, .unset, .unset, .unset, .unset, .unset, .unset] [])) (f' := (mkF m 17 #[.val (.long q0), .second, .val (.int p1), .val (.int p2), .val (.int p3), .val (.int p4), .val (.int p5), .val (.int fr), .val (.int n), .unset, .unset, .unset, .unset, .unset, .unset, .unset, .unset, .unset, .unset] [(.int n)])) (fun t k => ?_) ?_
  · show Steps p.tables e below (s₁.setTop (mkF m 15 #[.val (.long q0), .second, .val (.int p1), .val (.int p2), .val (.int p3), .val (.int p4), .val (.int p5), .val (.int fr), .val (.int n), .unset, .unset, .unset, .unset, .unset, .unset, .unset, .unset, .unset, .unset] [])) _
    refine XS.iload X0.here hx rfl (hb hby at_15) rfl ?_
    exact k
  have hneg : ¬ n < 0 := by simp only [Int32.lt_iff_toInt_lt, own_l0]; omega
  have hcap : n.toNatClampNeg ≤ 3 := by rw [own_nat]; omega
  obtain ⟨T13, h13, k13, X13, e13, E13, A13, st13⟩ := newP X0 hx hZ (hw _ (List.mem_of_getElem? (i := 2) rfl)) e0 (g := (mkF m 17 #[.val (.long q0), .second, .val (.int p1), .val (.int p2), .val (.int p3), .val (.int p4), .val (.int p5), .val (.int fr), .val (.int n), .unset, .unset, .unset, .unset, .unset, .unset, .unset, .unset, .unset, .unset] [(.int n)])) rfl (hb hby at_17) rfl hneg (cap := 3) hcap (by decide) (by decide) (by decide)
  obtain ⟨b13, g13⟩ : ∃ z, z = h0.size := ⟨_, rfl⟩
  rw [← g13] at A13 st13
  have V13 : Arv Z h13 b13 k13 .long n [] (.long (0 : Int64)) := Arv.new A13 hneg
  refine own_go st13 ?_
  show Rch p e below _ T13 (mkF m 19 #[.val (.long q0), .second, .val (.int p1), .val (.int p2), .val (.int p3), .val (.int p4), .val (.int p5), .val (.int fr), .val (.int n), .unset, .unset, .unset, .unset, .unset, .unset, .unset, .unset, .unset, .unset] [(.ref b13)])
  refine own_go (T := T13) (T' := T13) (f := (mkF m 19 #[.val (.long q0), .second, .val (.int p1), .val (.int p2), .val (.int p3), .val (.int p4), .val (.int p5), .val (.int fr), .val (.int n), .unset, .unset, .unset, .unset, .unset, .unset, .unset, .unset, .unset, .unset] [(.ref b13)])) (f' := (mkF m 31 #[.val (.long q0), .second, .val (.int p1), .val (.int p2), .val (.int p3), .val (.int p4), .val (.int p5), .val (.int fr), .val (.int n), .val (.ref b13), .val (.int ((p4 >>> ((2 : Int32) &&& 31)) &&& (3 : Int32))), .unset, .unset, .unset, .unset, .unset, .unset, .unset, .unset] [(.int ((p4 >>> ((2 : Int32) &&& 31)) &&& (3 : Int32)))])) (fun t k => ?_) ?_
  · show Steps p.tables e below (T13.setTop (mkF m 19 #[.val (.long q0), .second, .val (.int p1), .val (.int p2), .val (.int p3), .val (.int p4), .val (.int p5), .val (.int fr), .val (.int n), .unset, .unset, .unset, .unset, .unset, .unset, .unset, .unset, .unset, .unset] [(.ref b13)])) _
    refine XS.astore X13.here hx rfl (hb hby at_19) rfl rfl (l' := #[.val (.long q0), .second, .val (.int p1), .val (.int p2), .val (.int p3), .val (.int p4), .val (.int p5), .val (.int fr), .val (.int n), .val (.ref b13), .unset, .unset, .unset, .unset, .unset, .unset, .unset, .unset, .unset]) rfl ?_
    show Steps p.tables e below (T13.setTop (mkF m 21 #[.val (.long q0), .second, .val (.int p1), .val (.int p2), .val (.int p3), .val (.int p4), .val (.int p5), .val (.int fr), .val (.int n), .val (.ref b13), .unset, .unset, .unset, .unset, .unset, .unset, .unset, .unset, .unset] [])) _
    refine XS.iload X13.here hx rfl (hb hby at_21) rfl ?_
    show Steps p.tables e below (T13.setTop (mkF m 23 #[.val (.long q0), .second, .val (.int p1), .val (.int p2), .val (.int p3), .val (.int p4), .val (.int p5), .val (.int fr), .val (.int n), .val (.ref b13), .unset, .unset, .unset, .unset, .unset, .unset, .unset, .unset, .unset] [(.int p4)])) _
    refine XS.iconst X13.here hx rfl (hb hby at_23) ?_
    show Steps p.tables e below (T13.setTop (mkF m 24 #[.val (.long q0), .second, .val (.int p1), .val (.int p2), .val (.int p3), .val (.int p4), .val (.int p5), .val (.int fr), .val (.int n), .val (.ref b13), .unset, .unset, .unset, .unset, .unset, .unset, .unset, .unset, .unset] [(.int (2 : Int32)), (.int p4)])) _
    refine XS.ishr X13.here hx rfl (hb hby at_24) rfl ?_
    show Steps p.tables e below (T13.setTop (mkF m 25 #[.val (.long q0), .second, .val (.int p1), .val (.int p2), .val (.int p3), .val (.int p4), .val (.int p5), .val (.int fr), .val (.int n), .val (.ref b13), .unset, .unset, .unset, .unset, .unset, .unset, .unset, .unset, .unset] [(.int (p4 >>> ((2 : Int32) &&& 31)))])) _
    refine XS.iconst X13.here hx rfl (hb hby at_25) ?_
    show Steps p.tables e below (T13.setTop (mkF m 26 #[.val (.long q0), .second, .val (.int p1), .val (.int p2), .val (.int p3), .val (.int p4), .val (.int p5), .val (.int fr), .val (.int n), .val (.ref b13), .unset, .unset, .unset, .unset, .unset, .unset, .unset, .unset, .unset] [(.int (3 : Int32)), (.int (p4 >>> ((2 : Int32) &&& 31)))])) _
    refine XS.iand X13.here hx rfl (hb hby at_26) rfl ?_
    show Steps p.tables e below (T13.setTop (mkF m 27 #[.val (.long q0), .second, .val (.int p1), .val (.int p2), .val (.int p3), .val (.int p4), .val (.int p5), .val (.int fr), .val (.int n), .val (.ref b13), .unset, .unset, .unset, .unset, .unset, .unset, .unset, .unset, .unset] [(.int ((p4 >>> ((2 : Int32) &&& 31)) &&& (3 : Int32)))])) _
    refine XS.istore X13.here hx rfl (hb hby at_27) rfl (l' := #[.val (.long q0), .second, .val (.int p1), .val (.int p2), .val (.int p3), .val (.int p4), .val (.int p5), .val (.int fr), .val (.int n), .val (.ref b13), .val (.int ((p4 >>> ((2 : Int32) &&& 31)) &&& (3 : Int32))), .unset, .unset, .unset, .unset, .unset, .unset, .unset, .unset]) rfl ?_
    show Steps p.tables e below (T13.setTop (mkF m 29 #[.val (.long q0), .second, .val (.int p1), .val (.int p2), .val (.int p3), .val (.int p4), .val (.int p5), .val (.int fr), .val (.int n), .val (.ref b13), .val (.int ((p4 >>> ((2 : Int32) &&& 31)) &&& (3 : Int32))), .unset, .unset, .unset, .unset, .unset, .unset, .unset, .unset] [])) _
    refine XS.iload X13.here hx rfl (hb hby at_29) rfl ?_
    exact k
  suffices J83 : ∀ tot : Int32, Rch p e below (Gd s (Q0 Z q0 p1 p2 p3 p4 p5 h0 n0) room_1.cells room_1.slots) T13 (mkF m 83 #[.val (.long q0), .second, .val (.int p1), .val (.int p2), .val (.int p3), .val (.int p4), .val (.int p5), .val (.int fr), .val (.int n), .val (.ref b13), .val (.int ((p4 >>> ((2 : Int32) &&& 31)) &&& (3 : Int32))), .val (.int tot), .unset, .unset, .unset, .unset, .unset, .unset, .unset] []) by
    by_cases hc31 : ((p4 >>> ((2 : Int32) &&& 31)) &&& (3 : Int32)) = (0 : Int32)
    · refine own_go (T := T13) (T' := T13) (f := (mkF m 31 #[.val (.long q0), .second, .val (.int p1), .val (.int p2), .val (.int p3), .val (.int p4), .val (.int p5), .val (.int fr), .val (.int n), .val (.ref b13), .val (.int ((p4 >>> ((2 : Int32) &&& 31)) &&& (3 : Int32))), .unset, .unset, .unset, .unset, .unset, .unset, .unset, .unset] [(.int ((p4 >>> ((2 : Int32) &&& 31)) &&& (3 : Int32)))])) (f' := (mkF m 34 #[.val (.long q0), .second, .val (.int p1), .val (.int p2), .val (.int p3), .val (.int p4), .val (.int p5), .val (.int fr), .val (.int n), .val (.ref b13), .val (.int ((p4 >>> ((2 : Int32) &&& 31)) &&& (3 : Int32))), .unset, .unset, .unset, .unset, .unset, .unset, .unset, .unset] [])) (fun t k => ?_) ?_
      · show Steps p.tables e below (T13.setTop (mkF m 31 #[.val (.long q0), .second, .val (.int p1), .val (.int p2), .val (.int p3), .val (.int p4), .val (.int p5), .val (.int fr), .val (.int n), .val (.ref b13), .val (.int ((p4 >>> ((2 : Int32) &&& 31)) &&& (3 : Int32))), .unset, .unset, .unset, .unset, .unset, .unset, .unset, .unset] [(.int ((p4 >>> ((2 : Int32) &&& 31)) &&& (3 : Int32)))])) _
        refine XS.ifNo X13.here hx rfl (hb hby at_31) rfl ((if0 _ _).trans (teq hc31).2) ?_
        exact k
      refine own_go (T := T13) (T' := T13) (f := (mkF m 34 #[.val (.long q0), .second, .val (.int p1), .val (.int p2), .val (.int p3), .val (.int p4), .val (.int p5), .val (.int fr), .val (.int n), .val (.ref b13), .val (.int ((p4 >>> ((2 : Int32) &&& 31)) &&& (3 : Int32))), .unset, .unset, .unset, .unset, .unset, .unset, .unset, .unset] [])) (f' := (mkF m 83 #[.val (.long q0), .second, .val (.int p1), .val (.int p2), .val (.int p3), .val (.int p4), .val (.int p5), .val (.int fr), .val (.int n), .val (.ref b13), .val (.int ((p4 >>> ((2 : Int32) &&& 31)) &&& (3 : Int32))), .val (.int (fr + n)), .unset, .unset, .unset, .unset, .unset, .unset, .unset] [])) (fun t k => ?_) ?_
      · show Steps p.tables e below (T13.setTop (mkF m 34 #[.val (.long q0), .second, .val (.int p1), .val (.int p2), .val (.int p3), .val (.int p4), .val (.int p5), .val (.int fr), .val (.int n), .val (.ref b13), .val (.int ((p4 >>> ((2 : Int32) &&& 31)) &&& (3 : Int32))), .unset, .unset, .unset, .unset, .unset, .unset, .unset, .unset] [])) _
        refine XS.iload X13.here hx rfl (hb hby at_34) rfl ?_
        show Steps p.tables e below (T13.setTop (mkF m 36 #[.val (.long q0), .second, .val (.int p1), .val (.int p2), .val (.int p3), .val (.int p4), .val (.int p5), .val (.int fr), .val (.int n), .val (.ref b13), .val (.int ((p4 >>> ((2 : Int32) &&& 31)) &&& (3 : Int32))), .unset, .unset, .unset, .unset, .unset, .unset, .unset, .unset] [(.int fr)])) _
        refine XS.iload X13.here hx rfl (hb hby at_36) rfl ?_
        show Steps p.tables e below (T13.setTop (mkF m 38 #[.val (.long q0), .second, .val (.int p1), .val (.int p2), .val (.int p3), .val (.int p4), .val (.int p5), .val (.int fr), .val (.int n), .val (.ref b13), .val (.int ((p4 >>> ((2 : Int32) &&& 31)) &&& (3 : Int32))), .unset, .unset, .unset, .unset, .unset, .unset, .unset, .unset] [(.int n), (.int fr)])) _
        refine XS.iadd X13.here hx rfl (hb hby at_38) rfl ?_
        show Steps p.tables e below (T13.setTop (mkF m 39 #[.val (.long q0), .second, .val (.int p1), .val (.int p2), .val (.int p3), .val (.int p4), .val (.int p5), .val (.int fr), .val (.int n), .val (.ref b13), .val (.int ((p4 >>> ((2 : Int32) &&& 31)) &&& (3 : Int32))), .unset, .unset, .unset, .unset, .unset, .unset, .unset, .unset] [(.int (fr + n))])) _
        refine XS.istore X13.here hx rfl (hb hby at_39) rfl (l' := #[.val (.long q0), .second, .val (.int p1), .val (.int p2), .val (.int p3), .val (.int p4), .val (.int p5), .val (.int fr), .val (.int n), .val (.ref b13), .val (.int ((p4 >>> ((2 : Int32) &&& 31)) &&& (3 : Int32))), .val (.int (fr + n)), .unset, .unset, .unset, .unset, .unset, .unset, .unset]) rfl ?_
        show Steps p.tables e below (T13.setTop (mkF m 41 #[.val (.long q0), .second, .val (.int p1), .val (.int p2), .val (.int p3), .val (.int p4), .val (.int p5), .val (.int fr), .val (.int n), .val (.ref b13), .val (.int ((p4 >>> ((2 : Int32) &&& 31)) &&& (3 : Int32))), .val (.int (fr + n)), .unset, .unset, .unset, .unset, .unset, .unset, .unset] [])) _
        refine XS.goto X13.here hx rfl (pc0 := 41) (pc' := 83) rfl (hb hby at_41) (by decide) (by decide) ?_
        exact k
      exact J83 _
    · refine own_go (T := T13) (T' := T13) (f := (mkF m 31 #[.val (.long q0), .second, .val (.int p1), .val (.int p2), .val (.int p3), .val (.int p4), .val (.int p5), .val (.int fr), .val (.int n), .val (.ref b13), .val (.int ((p4 >>> ((2 : Int32) &&& 31)) &&& (3 : Int32))), .unset, .unset, .unset, .unset, .unset, .unset, .unset, .unset] [(.int ((p4 >>> ((2 : Int32) &&& 31)) &&& (3 : Int32)))])) (f' := (mkF m 44 #[.val (.long q0), .second, .val (.int p1), .val (.int p2), .val (.int p3), .val (.int p4), .val (.int p5), .val (.int fr), .val (.int n), .val (.ref b13), .val (.int ((p4 >>> ((2 : Int32) &&& 31)) &&& (3 : Int32))), .unset, .unset, .unset, .unset, .unset, .unset, .unset, .unset] [])) (fun t k => ?_) ?_
      · show Steps p.tables e below (T13.setTop (mkF m 31 #[.val (.long q0), .second, .val (.int p1), .val (.int p2), .val (.int p3), .val (.int p4), .val (.int p5), .val (.int fr), .val (.int n), .val (.ref b13), .val (.int ((p4 >>> ((2 : Int32) &&& 31)) &&& (3 : Int32))), .unset, .unset, .unset, .unset, .unset, .unset, .unset, .unset] [(.int ((p4 >>> ((2 : Int32) &&& 31)) &&& (3 : Int32)))])) _
        refine XS.ifYes X13.here hx rfl (pc0 := 31) (pc' := 44) rfl (hb hby at_31) rfl ((if0 _ _).trans (feq hc31).2) (by decide) (by decide) ?_
        exact k
      refine own_go (T := T13) (T' := T13) (f := (mkF m 44 #[.val (.long q0), .second, .val (.int p1), .val (.int p2), .val (.int p3), .val (.int p4), .val (.int p5), .val (.int fr), .val (.int n), .val (.ref b13), .val (.int ((p4 >>> ((2 : Int32) &&& 31)) &&& (3 : Int32))), .unset, .unset, .unset, .unset, .unset, .unset, .unset, .unset] [])) (f' := (mkF m 47 #[.val (.long q0), .second, .val (.int p1), .val (.int p2), .val (.int p3), .val (.int p4), .val (.int p5), .val (.int fr), .val (.int n), .val (.ref b13), .val (.int ((p4 >>> ((2 : Int32) &&& 31)) &&& (3 : Int32))), .unset, .unset, .unset, .unset, .unset, .unset, .unset, .unset] [(.int (1 : Int32)), (.int ((p4 >>> ((2 : Int32) &&& 31)) &&& (3 : Int32)))])) (fun t k => ?_) ?_
      · show Steps p.tables e below (T13.setTop (mkF m 44 #[.val (.long q0), .second, .val (.int p1), .val (.int p2), .val (.int p3), .val (.int p4), .val (.int p5), .val (.int fr), .val (.int n), .val (.ref b13), .val (.int ((p4 >>> ((2 : Int32) &&& 31)) &&& (3 : Int32))), .unset, .unset, .unset, .unset, .unset, .unset, .unset, .unset] [])) _
        refine XS.iload X13.here hx rfl (hb hby at_44) rfl ?_
        show Steps p.tables e below (T13.setTop (mkF m 46 #[.val (.long q0), .second, .val (.int p1), .val (.int p2), .val (.int p3), .val (.int p4), .val (.int p5), .val (.int fr), .val (.int n), .val (.ref b13), .val (.int ((p4 >>> ((2 : Int32) &&& 31)) &&& (3 : Int32))), .unset, .unset, .unset, .unset, .unset, .unset, .unset, .unset] [(.int ((p4 >>> ((2 : Int32) &&& 31)) &&& (3 : Int32)))])) _
        refine XS.iconst X13.here hx rfl (hb hby at_46) ?_
        exact k
      by_cases hc47 : ((p4 >>> ((2 : Int32) &&& 31)) &&& (3 : Int32)) = (1 : Int32)
      · refine own_go (T := T13) (T' := T13) (f := (mkF m 47 #[.val (.long q0), .second, .val (.int p1), .val (.int p2), .val (.int p3), .val (.int p4), .val (.int p5), .val (.int fr), .val (.int n), .val (.ref b13), .val (.int ((p4 >>> ((2 : Int32) &&& 31)) &&& (3 : Int32))), .unset, .unset, .unset, .unset, .unset, .unset, .unset, .unset] [(.int (1 : Int32)), (.int ((p4 >>> ((2 : Int32) &&& 31)) &&& (3 : Int32)))])) (f' := (mkF m 50 #[.val (.long q0), .second, .val (.int p1), .val (.int p2), .val (.int p3), .val (.int p4), .val (.int p5), .val (.int fr), .val (.int n), .val (.ref b13), .val (.int ((p4 >>> ((2 : Int32) &&& 31)) &&& (3 : Int32))), .unset, .unset, .unset, .unset, .unset, .unset, .unset, .unset] [])) (fun t k => ?_) ?_
        · show Steps p.tables e below (T13.setTop (mkF m 47 #[.val (.long q0), .second, .val (.int p1), .val (.int p2), .val (.int p3), .val (.int p4), .val (.int p5), .val (.int fr), .val (.int n), .val (.ref b13), .val (.int ((p4 >>> ((2 : Int32) &&& 31)) &&& (3 : Int32))), .unset, .unset, .unset, .unset, .unset, .unset, .unset, .unset] [(.int (1 : Int32)), (.int ((p4 >>> ((2 : Int32) &&& 31)) &&& (3 : Int32)))])) _
          refine XS.icmpNo X13.here hx rfl (hb hby at_47) rfl (teq hc47).2 ?_
          exact k
        refine own_go (T := T13) (T' := T13) (f := (mkF m 50 #[.val (.long q0), .second, .val (.int p1), .val (.int p2), .val (.int p3), .val (.int p4), .val (.int p5), .val (.int fr), .val (.int n), .val (.ref b13), .val (.int ((p4 >>> ((2 : Int32) &&& 31)) &&& (3 : Int32))), .unset, .unset, .unset, .unset, .unset, .unset, .unset, .unset] [])) (f' := (mkF m 83 #[.val (.long q0), .second, .val (.int p1), .val (.int p2), .val (.int p3), .val (.int p4), .val (.int p5), .val (.int fr), .val (.int n), .val (.ref b13), .val (.int ((p4 >>> ((2 : Int32) &&& 31)) &&& (3 : Int32))), .val (.int ((fr + n) + (1 : Int32))), .unset, .unset, .unset, .unset, .unset, .unset, .unset] [])) (fun t k => ?_) ?_
        · show Steps p.tables e below (T13.setTop (mkF m 50 #[.val (.long q0), .second, .val (.int p1), .val (.int p2), .val (.int p3), .val (.int p4), .val (.int p5), .val (.int fr), .val (.int n), .val (.ref b13), .val (.int ((p4 >>> ((2 : Int32) &&& 31)) &&& (3 : Int32))), .unset, .unset, .unset, .unset, .unset, .unset, .unset, .unset] [])) _
          refine XS.iload X13.here hx rfl (hb hby at_50) rfl ?_
          show Steps p.tables e below (T13.setTop (mkF m 52 #[.val (.long q0), .second, .val (.int p1), .val (.int p2), .val (.int p3), .val (.int p4), .val (.int p5), .val (.int fr), .val (.int n), .val (.ref b13), .val (.int ((p4 >>> ((2 : Int32) &&& 31)) &&& (3 : Int32))), .unset, .unset, .unset, .unset, .unset, .unset, .unset, .unset] [(.int fr)])) _
          refine XS.iload X13.here hx rfl (hb hby at_52) rfl ?_
          show Steps p.tables e below (T13.setTop (mkF m 54 #[.val (.long q0), .second, .val (.int p1), .val (.int p2), .val (.int p3), .val (.int p4), .val (.int p5), .val (.int fr), .val (.int n), .val (.ref b13), .val (.int ((p4 >>> ((2 : Int32) &&& 31)) &&& (3 : Int32))), .unset, .unset, .unset, .unset, .unset, .unset, .unset, .unset] [(.int n), (.int fr)])) _
          refine XS.iadd X13.here hx rfl (hb hby at_54) rfl ?_
          show Steps p.tables e below (T13.setTop (mkF m 55 #[.val (.long q0), .second, .val (.int p1), .val (.int p2), .val (.int p3), .val (.int p4), .val (.int p5), .val (.int fr), .val (.int n), .val (.ref b13), .val (.int ((p4 >>> ((2 : Int32) &&& 31)) &&& (3 : Int32))), .unset, .unset, .unset, .unset, .unset, .unset, .unset, .unset] [(.int (fr + n))])) _
          refine XS.iconst X13.here hx rfl (hb hby at_55) ?_
          show Steps p.tables e below (T13.setTop (mkF m 56 #[.val (.long q0), .second, .val (.int p1), .val (.int p2), .val (.int p3), .val (.int p4), .val (.int p5), .val (.int fr), .val (.int n), .val (.ref b13), .val (.int ((p4 >>> ((2 : Int32) &&& 31)) &&& (3 : Int32))), .unset, .unset, .unset, .unset, .unset, .unset, .unset, .unset] [(.int (1 : Int32)), (.int (fr + n))])) _
          refine XS.iadd X13.here hx rfl (hb hby at_56) rfl ?_
          show Steps p.tables e below (T13.setTop (mkF m 57 #[.val (.long q0), .second, .val (.int p1), .val (.int p2), .val (.int p3), .val (.int p4), .val (.int p5), .val (.int fr), .val (.int n), .val (.ref b13), .val (.int ((p4 >>> ((2 : Int32) &&& 31)) &&& (3 : Int32))), .unset, .unset, .unset, .unset, .unset, .unset, .unset, .unset] [(.int ((fr + n) + (1 : Int32)))])) _
          refine XS.istore X13.here hx rfl (hb hby at_57) rfl (l' := #[.val (.long q0), .second, .val (.int p1), .val (.int p2), .val (.int p3), .val (.int p4), .val (.int p5), .val (.int fr), .val (.int n), .val (.ref b13), .val (.int ((p4 >>> ((2 : Int32) &&& 31)) &&& (3 : Int32))), .val (.int ((fr + n) + (1 : Int32))), .unset, .unset, .unset, .unset, .unset, .unset, .unset]) rfl ?_
          show Steps p.tables e below (T13.setTop (mkF m 59 #[.val (.long q0), .second, .val (.int p1), .val (.int p2), .val (.int p3), .val (.int p4), .val (.int p5), .val (.int fr), .val (.int n), .val (.ref b13), .val (.int ((p4 >>> ((2 : Int32) &&& 31)) &&& (3 : Int32))), .val (.int ((fr + n) + (1 : Int32))), .unset, .unset, .unset, .unset, .unset, .unset, .unset] [])) _
          refine XS.goto X13.here hx rfl (pc0 := 59) (pc' := 83) rfl (hb hby at_59) (by decide) (by decide) ?_
          exact k
        exact J83 _
      · refine own_go (T := T13) (T' := T13) (f := (mkF m 47 #[.val (.long q0), .second, .val (.int p1), .val (.int p2), .val (.int p3), .val (.int p4), .val (.int p5), .val (.int fr), .val (.int n), .val (.ref b13), .val (.int ((p4 >>> ((2 : Int32) &&& 31)) &&& (3 : Int32))), .unset, .unset, .unset, .unset, .unset, .unset, .unset, .unset] [(.int (1 : Int32)), (.int ((p4 >>> ((2 : Int32) &&& 31)) &&& (3 : Int32)))])) (f' := (mkF m 62 #[.val (.long q0), .second, .val (.int p1), .val (.int p2), .val (.int p3), .val (.int p4), .val (.int p5), .val (.int fr), .val (.int n), .val (.ref b13), .val (.int ((p4 >>> ((2 : Int32) &&& 31)) &&& (3 : Int32))), .unset, .unset, .unset, .unset, .unset, .unset, .unset, .unset] [])) (fun t k => ?_) ?_
        · show Steps p.tables e below (T13.setTop (mkF m 47 #[.val (.long q0), .second, .val (.int p1), .val (.int p2), .val (.int p3), .val (.int p4), .val (.int p5), .val (.int fr), .val (.int n), .val (.ref b13), .val (.int ((p4 >>> ((2 : Int32) &&& 31)) &&& (3 : Int32))), .unset, .unset, .unset, .unset, .unset, .unset, .unset, .unset] [(.int (1 : Int32)), (.int ((p4 >>> ((2 : Int32) &&& 31)) &&& (3 : Int32)))])) _
          refine XS.icmpYes X13.here hx rfl (pc0 := 47) (pc' := 62) rfl (hb hby at_47) rfl (feq hc47).2 (by decide) (by decide) ?_
          exact k
        refine own_go (T := T13) (T' := T13) (f := (mkF m 62 #[.val (.long q0), .second, .val (.int p1), .val (.int p2), .val (.int p3), .val (.int p4), .val (.int p5), .val (.int fr), .val (.int n), .val (.ref b13), .val (.int ((p4 >>> ((2 : Int32) &&& 31)) &&& (3 : Int32))), .unset, .unset, .unset, .unset, .unset, .unset, .unset, .unset] [])) (f' := (mkF m 65 #[.val (.long q0), .second, .val (.int p1), .val (.int p2), .val (.int p3), .val (.int p4), .val (.int p5), .val (.int fr), .val (.int n), .val (.ref b13), .val (.int ((p4 >>> ((2 : Int32) &&& 31)) &&& (3 : Int32))), .unset, .unset, .unset, .unset, .unset, .unset, .unset, .unset] [(.int (2 : Int32)), (.int ((p4 >>> ((2 : Int32) &&& 31)) &&& (3 : Int32)))])) (fun t k => ?_) ?_
        · show Steps p.tables e below (T13.setTop (mkF m 62 #[.val (.long q0), .second, .val (.int p1), .val (.int p2), .val (.int p3), .val (.int p4), .val (.int p5), .val (.int fr), .val (.int n), .val (.ref b13), .val (.int ((p4 >>> ((2 : Int32) &&& 31)) &&& (3 : Int32))), .unset, .unset, .unset, .unset, .unset, .unset, .unset, .unset] [])) _
          refine XS.iload X13.here hx rfl (hb hby at_62) rfl ?_
          show Steps p.tables e below (T13.setTop (mkF m 64 #[.val (.long q0), .second, .val (.int p1), .val (.int p2), .val (.int p3), .val (.int p4), .val (.int p5), .val (.int fr), .val (.int n), .val (.ref b13), .val (.int ((p4 >>> ((2 : Int32) &&& 31)) &&& (3 : Int32))), .unset, .unset, .unset, .unset, .unset, .unset, .unset, .unset] [(.int ((p4 >>> ((2 : Int32) &&& 31)) &&& (3 : Int32)))])) _
          refine XS.iconst X13.here hx rfl (hb hby at_64) ?_
          exact k
        by_cases hc65 : ((p4 >>> ((2 : Int32) &&& 31)) &&& (3 : Int32)) = (2 : Int32)
        · refine own_go (T := T13) (T' := T13) (f := (mkF m 65 #[.val (.long q0), .second, .val (.int p1), .val (.int p2), .val (.int p3), .val (.int p4), .val (.int p5), .val (.int fr), .val (.int n), .val (.ref b13), .val (.int ((p4 >>> ((2 : Int32) &&& 31)) &&& (3 : Int32))), .unset, .unset, .unset, .unset, .unset, .unset, .unset, .unset] [(.int (2 : Int32)), (.int ((p4 >>> ((2 : Int32) &&& 31)) &&& (3 : Int32)))])) (f' := (mkF m 68 #[.val (.long q0), .second, .val (.int p1), .val (.int p2), .val (.int p3), .val (.int p4), .val (.int p5), .val (.int fr), .val (.int n), .val (.ref b13), .val (.int ((p4 >>> ((2 : Int32) &&& 31)) &&& (3 : Int32))), .unset, .unset, .unset, .unset, .unset, .unset, .unset, .unset] [])) (fun t k => ?_) ?_
          · show Steps p.tables e below (T13.setTop (mkF m 65 #[.val (.long q0), .second, .val (.int p1), .val (.int p2), .val (.int p3), .val (.int p4), .val (.int p5), .val (.int fr), .val (.int n), .val (.ref b13), .val (.int ((p4 >>> ((2 : Int32) &&& 31)) &&& (3 : Int32))), .unset, .unset, .unset, .unset, .unset, .unset, .unset, .unset] [(.int (2 : Int32)), (.int ((p4 >>> ((2 : Int32) &&& 31)) &&& (3 : Int32)))])) _
            refine XS.icmpNo X13.here hx rfl (hb hby at_65) rfl (teq hc65).2 ?_
            exact k
          refine own_go (T := T13) (T' := T13) (f := (mkF m 68 #[.val (.long q0), .second, .val (.int p1), .val (.int p2), .val (.int p3), .val (.int p4), .val (.int p5), .val (.int fr), .val (.int n), .val (.ref b13), .val (.int ((p4 >>> ((2 : Int32) &&& 31)) &&& (3 : Int32))), .unset, .unset, .unset, .unset, .unset, .unset, .unset, .unset] [])) (f' := (mkF m 83 #[.val (.long q0), .second, .val (.int p1), .val (.int p2), .val (.int p3), .val (.int p4), .val (.int p5), .val (.int fr), .val (.int n), .val (.ref b13), .val (.int ((p4 >>> ((2 : Int32) &&& 31)) &&& (3 : Int32))), .val (.int ((fr + n) - (1 : Int32))), .unset, .unset, .unset, .unset, .unset, .unset, .unset] [])) (fun t k => ?_) ?_
          · show Steps p.tables e below (T13.setTop (mkF m 68 #[.val (.long q0), .second, .val (.int p1), .val (.int p2), .val (.int p3), .val (.int p4), .val (.int p5), .val (.int fr), .val (.int n), .val (.ref b13), .val (.int ((p4 >>> ((2 : Int32) &&& 31)) &&& (3 : Int32))), .unset, .unset, .unset, .unset, .unset, .unset, .unset, .unset] [])) _
            refine XS.iload X13.here hx rfl (hb hby at_68) rfl ?_
            show Steps p.tables e below (T13.setTop (mkF m 70 #[.val (.long q0), .second, .val (.int p1), .val (.int p2), .val (.int p3), .val (.int p4), .val (.int p5), .val (.int fr), .val (.int n), .val (.ref b13), .val (.int ((p4 >>> ((2 : Int32) &&& 31)) &&& (3 : Int32))), .unset, .unset, .unset, .unset, .unset, .unset, .unset, .unset] [(.int fr)])) _
            refine XS.iload X13.here hx rfl (hb hby at_70) rfl ?_
            show Steps p.tables e below (T13.setTop (mkF m 72 #[.val (.long q0), .second, .val (.int p1), .val (.int p2), .val (.int p3), .val (.int p4), .val (.int p5), .val (.int fr), .val (.int n), .val (.ref b13), .val (.int ((p4 >>> ((2 : Int32) &&& 31)) &&& (3 : Int32))), .unset, .unset, .unset, .unset, .unset, .unset, .unset, .unset] [(.int n), (.int fr)])) _
            refine XS.iadd X13.here hx rfl (hb hby at_72) rfl ?_
            show Steps p.tables e below (T13.setTop (mkF m 73 #[.val (.long q0), .second, .val (.int p1), .val (.int p2), .val (.int p3), .val (.int p4), .val (.int p5), .val (.int fr), .val (.int n), .val (.ref b13), .val (.int ((p4 >>> ((2 : Int32) &&& 31)) &&& (3 : Int32))), .unset, .unset, .unset, .unset, .unset, .unset, .unset, .unset] [(.int (fr + n))])) _
            refine XS.iconst X13.here hx rfl (hb hby at_73) ?_
            show Steps p.tables e below (T13.setTop (mkF m 74 #[.val (.long q0), .second, .val (.int p1), .val (.int p2), .val (.int p3), .val (.int p4), .val (.int p5), .val (.int fr), .val (.int n), .val (.ref b13), .val (.int ((p4 >>> ((2 : Int32) &&& 31)) &&& (3 : Int32))), .unset, .unset, .unset, .unset, .unset, .unset, .unset, .unset] [(.int (1 : Int32)), (.int (fr + n))])) _
            refine XS.isub X13.here hx rfl (hb hby at_74) rfl ?_
            show Steps p.tables e below (T13.setTop (mkF m 75 #[.val (.long q0), .second, .val (.int p1), .val (.int p2), .val (.int p3), .val (.int p4), .val (.int p5), .val (.int fr), .val (.int n), .val (.ref b13), .val (.int ((p4 >>> ((2 : Int32) &&& 31)) &&& (3 : Int32))), .unset, .unset, .unset, .unset, .unset, .unset, .unset, .unset] [(.int ((fr + n) - (1 : Int32)))])) _
            refine XS.istore X13.here hx rfl (hb hby at_75) rfl (l' := #[.val (.long q0), .second, .val (.int p1), .val (.int p2), .val (.int p3), .val (.int p4), .val (.int p5), .val (.int fr), .val (.int n), .val (.ref b13), .val (.int ((p4 >>> ((2 : Int32) &&& 31)) &&& (3 : Int32))), .val (.int ((fr + n) - (1 : Int32))), .unset, .unset, .unset, .unset, .unset, .unset, .unset]) rfl ?_
            show Steps p.tables e below (T13.setTop (mkF m 77 #[.val (.long q0), .second, .val (.int p1), .val (.int p2), .val (.int p3), .val (.int p4), .val (.int p5), .val (.int fr), .val (.int n), .val (.ref b13), .val (.int ((p4 >>> ((2 : Int32) &&& 31)) &&& (3 : Int32))), .val (.int ((fr + n) - (1 : Int32))), .unset, .unset, .unset, .unset, .unset, .unset, .unset] [])) _
            refine XS.goto X13.here hx rfl (pc0 := 77) (pc' := 83) rfl (hb hby at_77) (by decide) (by decide) ?_
            exact k
          exact J83 _
        · refine own_go (T := T13) (T' := T13) (f := (mkF m 65 #[.val (.long q0), .second, .val (.int p1), .val (.int p2), .val (.int p3), .val (.int p4), .val (.int p5), .val (.int fr), .val (.int n), .val (.ref b13), .val (.int ((p4 >>> ((2 : Int32) &&& 31)) &&& (3 : Int32))), .unset, .unset, .unset, .unset, .unset, .unset, .unset, .unset] [(.int (2 : Int32)), (.int ((p4 >>> ((2 : Int32) &&& 31)) &&& (3 : Int32)))])) (f' := (mkF m 80 #[.val (.long q0), .second, .val (.int p1), .val (.int p2), .val (.int p3), .val (.int p4), .val (.int p5), .val (.int fr), .val (.int n), .val (.ref b13), .val (.int ((p4 >>> ((2 : Int32) &&& 31)) &&& (3 : Int32))), .unset, .unset, .unset, .unset, .unset, .unset, .unset, .unset] [])) (fun t k => ?_) ?_
          · show Steps p.tables e below (T13.setTop (mkF m 65 #[.val (.long q0), .second, .val (.int p1), .val (.int p2), .val (.int p3), .val (.int p4), .val (.int p5), .val (.int fr), .val (.int n), .val (.ref b13), .val (.int ((p4 >>> ((2 : Int32) &&& 31)) &&& (3 : Int32))), .unset, .unset, .unset, .unset, .unset, .unset, .unset, .unset] [(.int (2 : Int32)), (.int ((p4 >>> ((2 : Int32) &&& 31)) &&& (3 : Int32)))])) _
            refine XS.icmpYes X13.here hx rfl (pc0 := 65) (pc' := 80) rfl (hb hby at_65) rfl (feq hc65).2 (by decide) (by decide) ?_
            exact k
          refine own_go (T := T13) (T' := T13) (f := (mkF m 80 #[.val (.long q0), .second, .val (.int p1), .val (.int p2), .val (.int p3), .val (.int p4), .val (.int p5), .val (.int fr), .val (.int n), .val (.ref b13), .val (.int ((p4 >>> ((2 : Int32) &&& 31)) &&& (3 : Int32))), .unset, .unset, .unset, .unset, .unset, .unset, .unset, .unset] [])) (f' := (mkF m 83 #[.val (.long q0), .second, .val (.int p1), .val (.int p2), .val (.int p3), .val (.int p4), .val (.int p5), .val (.int fr), .val (.int n), .val (.ref b13), .val (.int ((p4 >>> ((2 : Int32) &&& 31)) &&& (3 : Int32))), .val (.int p2), .unset, .unset, .unset, .unset, .unset, .unset, .unset] [])) (fun t k => ?_) ?_
          · show Steps p.tables e below (T13.setTop (mkF m 80 #[.val (.long q0), .second, .val (.int p1), .val (.int p2), .val (.int p3), .val (.int p4), .val (.int p5), .val (.int fr), .val (.int n), .val (.ref b13), .val (.int ((p4 >>> ((2 : Int32) &&& 31)) &&& (3 : Int32))), .unset, .unset, .unset, .unset, .unset, .unset, .unset, .unset] [])) _
            refine XS.iloadN X13.here hx rfl (hb hby at_80) rfl ?_
            show Steps p.tables e below (T13.setTop (mkF m 81 #[.val (.long q0), .second, .val (.int p1), .val (.int p2), .val (.int p3), .val (.int p4), .val (.int p5), .val (.int fr), .val (.int n), .val (.ref b13), .val (.int ((p4 >>> ((2 : Int32) &&& 31)) &&& (3 : Int32))), .unset, .unset, .unset, .unset, .unset, .unset, .unset, .unset] [(.int p2)])) _
            refine XS.istore X13.here hx rfl (hb hby at_81) rfl (l' := #[.val (.long q0), .second, .val (.int p1), .val (.int p2), .val (.int p3), .val (.int p4), .val (.int p5), .val (.int fr), .val (.int n), .val (.ref b13), .val (.int ((p4 >>> ((2 : Int32) &&& 31)) &&& (3 : Int32))), .val (.int p2), .unset, .unset, .unset, .unset, .unset, .unset, .unset]) rfl ?_
            exact k
          exact J83 _
  intro tot
  refine own_go (T := T13) (T' := T13) (f := (mkF m 83 #[.val (.long q0), .second, .val (.int p1), .val (.int p2), .val (.int p3), .val (.int p4), .val (.int p5), .val (.int fr), .val (.int n), .val (.ref b13), .val (.int ((p4 >>> ((2 : Int32) &&& 31)) &&& (3 : Int32))), .val (.int tot), .unset, .unset, .unset, .unset, .unset, .unset, .unset] [])) (f' := (mkF m 93 #[.val (.long q0), .second, .val (.int p1), .val (.int p2), .val (.int p3), .val (.int p4), .val (.int p5), .val (.int fr), .val (.int n), .val (.ref b13), .val (.int ((p4 >>> ((2 : Int32) &&& 31)) &&& (3 : Int32))), .val (.int tot), .val (.int ((p4 >>> ((4 : Int32) &&& 31)) &&& (3 : Int32))), .unset, .unset, .unset, .unset, .unset, .unset] [(.int ((p4 >>> ((4 : Int32) &&& 31)) &&& (3 : Int32)))])) (fun t k => ?_) ?_
  · show Steps p.tables e below (T13.setTop (mkF m 83 #[.val (.long q0), .second, .val (.int p1), .val (.int p2), .val (.int p3), .val (.int p4), .val (.int p5), .val (.int fr), .val (.int n), .val (.ref b13), .val (.int ((p4 >>> ((2 : Int32) &&& 31)) &&& (3 : Int32))), .val (.int tot), .unset, .unset, .unset, .unset, .unset, .unset, .unset] [])) _
    refine XS.iload X13.here hx rfl (hb hby at_83) rfl ?_
    show Steps p.tables e below (T13.setTop (mkF m 85 #[.val (.long q0), .second, .val (.int p1), .val (.int p2), .val (.int p3), .val (.int p4), .val (.int p5), .val (.int fr), .val (.int n), .val (.ref b13), .val (.int ((p4 >>> ((2 : Int32) &&& 31)) &&& (3 : Int32))), .val (.int tot), .unset, .unset, .unset, .unset, .unset, .unset, .unset] [(.int p4)])) _
    refine XS.iconst X13.here hx rfl (hb hby at_85) ?_
    show Steps p.tables e below (T13.setTop (mkF m 86 #[.val (.long q0), .second, .val (.int p1), .val (.int p2), .val (.int p3), .val (.int p4), .val (.int p5), .val (.int fr), .val (.int n), .val (.ref b13), .val (.int ((p4 >>> ((2 : Int32) &&& 31)) &&& (3 : Int32))), .val (.int tot), .unset, .unset, .unset, .unset, .unset, .unset, .unset] [(.int (4 : Int32)), (.int p4)])) _
    refine XS.ishr X13.here hx rfl (hb hby at_86) rfl ?_
    show Steps p.tables e below (T13.setTop (mkF m 87 #[.val (.long q0), .second, .val (.int p1), .val (.int p2), .val (.int p3), .val (.int p4), .val (.int p5), .val (.int fr), .val (.int n), .val (.ref b13), .val (.int ((p4 >>> ((2 : Int32) &&& 31)) &&& (3 : Int32))), .val (.int tot), .unset, .unset, .unset, .unset, .unset, .unset, .unset] [(.int (p4 >>> ((4 : Int32) &&& 31)))])) _
    refine XS.iconst X13.here hx rfl (hb hby at_87) ?_
    show Steps p.tables e below (T13.setTop (mkF m 88 #[.val (.long q0), .second, .val (.int p1), .val (.int p2), .val (.int p3), .val (.int p4), .val (.int p5), .val (.int fr), .val (.int n), .val (.ref b13), .val (.int ((p4 >>> ((2 : Int32) &&& 31)) &&& (3 : Int32))), .val (.int tot), .unset, .unset, .unset, .unset, .unset, .unset, .unset] [(.int (3 : Int32)), (.int (p4 >>> ((4 : Int32) &&& 31)))])) _
    refine XS.iand X13.here hx rfl (hb hby at_88) rfl ?_
    show Steps p.tables e below (T13.setTop (mkF m 89 #[.val (.long q0), .second, .val (.int p1), .val (.int p2), .val (.int p3), .val (.int p4), .val (.int p5), .val (.int fr), .val (.int n), .val (.ref b13), .val (.int ((p4 >>> ((2 : Int32) &&& 31)) &&& (3 : Int32))), .val (.int tot), .unset, .unset, .unset, .unset, .unset, .unset, .unset] [(.int ((p4 >>> ((4 : Int32) &&& 31)) &&& (3 : Int32)))])) _
    refine XS.istore X13.here hx rfl (hb hby at_89) rfl (l' := #[.val (.long q0), .second, .val (.int p1), .val (.int p2), .val (.int p3), .val (.int p4), .val (.int p5), .val (.int fr), .val (.int n), .val (.ref b13), .val (.int ((p4 >>> ((2 : Int32) &&& 31)) &&& (3 : Int32))), .val (.int tot), .val (.int ((p4 >>> ((4 : Int32) &&& 31)) &&& (3 : Int32))), .unset, .unset, .unset, .unset, .unset, .unset]) rfl ?_
    show Steps p.tables e below (T13.setTop (mkF m 91 #[.val (.long q0), .second, .val (.int p1), .val (.int p2), .val (.int p3), .val (.int p4), .val (.int p5), .val (.int fr), .val (.int n), .val (.ref b13), .val (.int ((p4 >>> ((2 : Int32) &&& 31)) &&& (3 : Int32))), .val (.int tot), .val (.int ((p4 >>> ((4 : Int32) &&& 31)) &&& (3 : Int32))), .unset, .unset, .unset, .unset, .unset, .unset] [])) _
    refine XS.iload X13.here hx rfl (hb hby at_91) rfl ?_
    exact k
  suffices J137 : ∀ pl : Int32, Rch p e below (Gd s (Q0 Z q0 p1 p2 p3 p4 p5 h0 n0) room_1.cells room_1.slots) T13 (mkF m 137 #[.val (.long q0), .second, .val (.int p1), .val (.int p2), .val (.int p3), .val (.int p4), .val (.int p5), .val (.int fr), .val (.int n), .val (.ref b13), .val (.int ((p4 >>> ((2 : Int32) &&& 31)) &&& (3 : Int32))), .val (.int tot), .val (.int ((p4 >>> ((4 : Int32) &&& 31)) &&& (3 : Int32))), .val (.int pl), .unset, .unset, .unset, .unset, .unset] []) by
    by_cases hc93 : ((p4 >>> ((4 : Int32) &&& 31)) &&& (3 : Int32)) = (0 : Int32)
    · refine own_go (T := T13) (T' := T13) (f := (mkF m 93 #[.val (.long q0), .second, .val (.int p1), .val (.int p2), .val (.int p3), .val (.int p4), .val (.int p5), .val (.int fr), .val (.int n), .val (.ref b13), .val (.int ((p4 >>> ((2 : Int32) &&& 31)) &&& (3 : Int32))), .val (.int tot), .val (.int ((p4 >>> ((4 : Int32) &&& 31)) &&& (3 : Int32))), .unset, .unset, .unset, .unset, .unset, .unset] [(.int ((p4 >>> ((4 : Int32) &&& 31)) &&& (3 : Int32)))])) (f' := (mkF m 96 #[.val (.long q0), .second, .val (.int p1), .val (.int p2), .val (.int p3), .val (.int p4), .val (.int p5), .val (.int fr), .val (.int n), .val (.ref b13), .val (.int ((p4 >>> ((2 : Int32) &&& 31)) &&& (3 : Int32))), .val (.int tot), .val (.int ((p4 >>> ((4 : Int32) &&& 31)) &&& (3 : Int32))), .unset, .unset, .unset, .unset, .unset, .unset] [])) (fun t k => ?_) ?_
      · show Steps p.tables e below (T13.setTop (mkF m 93 #[.val (.long q0), .second, .val (.int p1), .val (.int p2), .val (.int p3), .val (.int p4), .val (.int p5), .val (.int fr), .val (.int n), .val (.ref b13), .val (.int ((p4 >>> ((2 : Int32) &&& 31)) &&& (3 : Int32))), .val (.int tot), .val (.int ((p4 >>> ((4 : Int32) &&& 31)) &&& (3 : Int32))), .unset, .unset, .unset, .unset, .unset, .unset] [(.int ((p4 >>> ((4 : Int32) &&& 31)) &&& (3 : Int32)))])) _
        refine XS.ifNo X13.here hx rfl (hb hby at_93) rfl ((if0 _ _).trans (teq hc93).2) ?_
        exact k
      refine own_go (T := T13) (T' := T13) (f := (mkF m 96 #[.val (.long q0), .second, .val (.int p1), .val (.int p2), .val (.int p3), .val (.int p4), .val (.int p5), .val (.int fr), .val (.int n), .val (.ref b13), .val (.int ((p4 >>> ((2 : Int32) &&& 31)) &&& (3 : Int32))), .val (.int tot), .val (.int ((p4 >>> ((4 : Int32) &&& 31)) &&& (3 : Int32))), .unset, .unset, .unset, .unset, .unset, .unset] [])) (f' := (mkF m 137 #[.val (.long q0), .second, .val (.int p1), .val (.int p2), .val (.int p3), .val (.int p4), .val (.int p5), .val (.int fr), .val (.int n), .val (.ref b13), .val (.int ((p4 >>> ((2 : Int32) &&& 31)) &&& (3 : Int32))), .val (.int tot), .val (.int ((p4 >>> ((4 : Int32) &&& 31)) &&& (3 : Int32))), .val (.int fr), .unset, .unset, .unset, .unset, .unset] [])) (fun t k => ?_) ?_
      · show Steps p.tables e below (T13.setTop (mkF m 96 #[.val (.long q0), .second, .val (.int p1), .val (.int p2), .val (.int p3), .val (.int p4), .val (.int p5), .val (.int fr), .val (.int n), .val (.ref b13), .val (.int ((p4 >>> ((2 : Int32) &&& 31)) &&& (3 : Int32))), .val (.int tot), .val (.int ((p4 >>> ((4 : Int32) &&& 31)) &&& (3 : Int32))), .unset, .unset, .unset, .unset, .unset, .unset] [])) _
        refine XS.iload X13.here hx rfl (hb hby at_96) rfl ?_
        show Steps p.tables e below (T13.setTop (mkF m 98 #[.val (.long q0), .second, .val (.int p1), .val (.int p2), .val (.int p3), .val (.int p4), .val (.int p5), .val (.int fr), .val (.int n), .val (.ref b13), .val (.int ((p4 >>> ((2 : Int32) &&& 31)) &&& (3 : Int32))), .val (.int tot), .val (.int ((p4 >>> ((4 : Int32) &&& 31)) &&& (3 : Int32))), .unset, .unset, .unset, .unset, .unset, .unset] [(.int fr)])) _
        refine XS.istore X13.here hx rfl (hb hby at_98) rfl (l' := #[.val (.long q0), .second, .val (.int p1), .val (.int p2), .val (.int p3), .val (.int p4), .val (.int p5), .val (.int fr), .val (.int n), .val (.ref b13), .val (.int ((p4 >>> ((2 : Int32) &&& 31)) &&& (3 : Int32))), .val (.int tot), .val (.int ((p4 >>> ((4 : Int32) &&& 31)) &&& (3 : Int32))), .val (.int fr), .unset, .unset, .unset, .unset, .unset]) rfl ?_
        show Steps p.tables e below (T13.setTop (mkF m 100 #[.val (.long q0), .second, .val (.int p1), .val (.int p2), .val (.int p3), .val (.int p4), .val (.int p5), .val (.int fr), .val (.int n), .val (.ref b13), .val (.int ((p4 >>> ((2 : Int32) &&& 31)) &&& (3 : Int32))), .val (.int tot), .val (.int ((p4 >>> ((4 : Int32) &&& 31)) &&& (3 : Int32))), .val (.int fr), .unset, .unset, .unset, .unset, .unset] [])) _
        refine XS.goto X13.here hx rfl (pc0 := 100) (pc' := 137) rfl (hb hby at_100) (by decide) (by decide) ?_
        exact k
      exact J137 _
    · refine own_go (T := T13) (T' := T13) (f := (mkF m 93 #[.val (.long q0), .second, .val (.int p1), .val (.int p2), .val (.int p3), .val (.int p4), .val (.int p5), .val (.int fr), .val (.int n), .val (.ref b13), .val (.int ((p4 >>> ((2 : Int32) &&& 31)) &&& (3 : Int32))), .val (.int tot), .val (.int ((p4 >>> ((4 : Int32) &&& 31)) &&& (3 : Int32))), .unset, .unset, .unset, .unset, .unset, .unset] [(.int ((p4 >>> ((4 : Int32) &&& 31)) &&& (3 : Int32)))])) (f' := (mkF m 103 #[.val (.long q0), .second, .val (.int p1), .val (.int p2), .val (.int p3), .val (.int p4), .val (.int p5), .val (.int fr), .val (.int n), .val (.ref b13), .val (.int ((p4 >>> ((2 : Int32) &&& 31)) &&& (3 : Int32))), .val (.int tot), .val (.int ((p4 >>> ((4 : Int32) &&& 31)) &&& (3 : Int32))), .unset, .unset, .unset, .unset, .unset, .unset] [])) (fun t k => ?_) ?_
      · show Steps p.tables e below (T13.setTop (mkF m 93 #[.val (.long q0), .second, .val (.int p1), .val (.int p2), .val (.int p3), .val (.int p4), .val (.int p5), .val (.int fr), .val (.int n), .val (.ref b13), .val (.int ((p4 >>> ((2 : Int32) &&& 31)) &&& (3 : Int32))), .val (.int tot), .val (.int ((p4 >>> ((4 : Int32) &&& 31)) &&& (3 : Int32))), .unset, .unset, .unset, .unset, .unset, .unset] [(.int ((p4 >>> ((4 : Int32) &&& 31)) &&& (3 : Int32)))])) _
        refine XS.ifYes X13.here hx rfl (pc0 := 93) (pc' := 103) rfl (hb hby at_93) rfl ((if0 _ _).trans (feq hc93).2) (by decide) (by decide) ?_
        exact k
      refine own_go (T := T13) (T' := T13) (f := (mkF m 103 #[.val (.long q0), .second, .val (.int p1), .val (.int p2), .val (.int p3), .val (.int p4), .val (.int p5), .val (.int fr), .val (.int n), .val (.ref b13), .val (.int ((p4 >>> ((2 : Int32) &&& 31)) &&& (3 : Int32))), .val (.int tot), .val (.int ((p4 >>> ((4 : Int32) &&& 31)) &&& (3 : Int32))), .unset, .unset, .unset, .unset, .unset, .unset] [])) (f' := (mkF m 106 #[.val (.long q0), .second, .val (.int p1), .val (.int p2), .val (.int p3), .val (.int p4), .val (.int p5), .val (.int fr), .val (.int n), .val (.ref b13), .val (.int ((p4 >>> ((2 : Int32) &&& 31)) &&& (3 : Int32))), .val (.int tot), .val (.int ((p4 >>> ((4 : Int32) &&& 31)) &&& (3 : Int32))), .unset, .unset, .unset, .unset, .unset, .unset] [(.int (1 : Int32)), (.int ((p4 >>> ((4 : Int32) &&& 31)) &&& (3 : Int32)))])) (fun t k => ?_) ?_
      · show Steps p.tables e below (T13.setTop (mkF m 103 #[.val (.long q0), .second, .val (.int p1), .val (.int p2), .val (.int p3), .val (.int p4), .val (.int p5), .val (.int fr), .val (.int n), .val (.ref b13), .val (.int ((p4 >>> ((2 : Int32) &&& 31)) &&& (3 : Int32))), .val (.int tot), .val (.int ((p4 >>> ((4 : Int32) &&& 31)) &&& (3 : Int32))), .unset, .unset, .unset, .unset, .unset, .unset] [])) _
        refine XS.iload X13.here hx rfl (hb hby at_103) rfl ?_
        show Steps p.tables e below (T13.setTop (mkF m 105 #[.val (.long q0), .second, .val (.int p1), .val (.int p2), .val (.int p3), .val (.int p4), .val (.int p5), .val (.int fr), .val (.int n), .val (.ref b13), .val (.int ((p4 >>> ((2 : Int32) &&& 31)) &&& (3 : Int32))), .val (.int tot), .val (.int ((p4 >>> ((4 : Int32) &&& 31)) &&& (3 : Int32))), .unset, .unset, .unset, .unset, .unset, .unset] [(.int ((p4 >>> ((4 : Int32) &&& 31)) &&& (3 : Int32)))])) _
        refine XS.iconst X13.here hx rfl (hb hby at_105) ?_
        exact k
      by_cases hc106 : ((p4 >>> ((4 : Int32) &&& 31)) &&& (3 : Int32)) = (1 : Int32)
      · refine own_go (T := T13) (T' := T13) (f := (mkF m 106 #[.val (.long q0), .second, .val (.int p1), .val (.int p2), .val (.int p3), .val (.int p4), .val (.int p5), .val (.int fr), .val (.int n), .val (.ref b13), .val (.int ((p4 >>> ((2 : Int32) &&& 31)) &&& (3 : Int32))), .val (.int tot), .val (.int ((p4 >>> ((4 : Int32) &&& 31)) &&& (3 : Int32))), .unset, .unset, .unset, .unset, .unset, .unset] [(.int (1 : Int32)), (.int ((p4 >>> ((4 : Int32) &&& 31)) &&& (3 : Int32)))])) (f' := (mkF m 109 #[.val (.long q0), .second, .val (.int p1), .val (.int p2), .val (.int p3), .val (.int p4), .val (.int p5), .val (.int fr), .val (.int n), .val (.ref b13), .val (.int ((p4 >>> ((2 : Int32) &&& 31)) &&& (3 : Int32))), .val (.int tot), .val (.int ((p4 >>> ((4 : Int32) &&& 31)) &&& (3 : Int32))), .unset, .unset, .unset, .unset, .unset, .unset] [])) (fun t k => ?_) ?_
        · show Steps p.tables e below (T13.setTop (mkF m 106 #[.val (.long q0), .second, .val (.int p1), .val (.int p2), .val (.int p3), .val (.int p4), .val (.int p5), .val (.int fr), .val (.int n), .val (.ref b13), .val (.int ((p4 >>> ((2 : Int32) &&& 31)) &&& (3 : Int32))), .val (.int tot), .val (.int ((p4 >>> ((4 : Int32) &&& 31)) &&& (3 : Int32))), .unset, .unset, .unset, .unset, .unset, .unset] [(.int (1 : Int32)), (.int ((p4 >>> ((4 : Int32) &&& 31)) &&& (3 : Int32)))])) _
          refine XS.icmpNo X13.here hx rfl (hb hby at_106) rfl (teq hc106).2 ?_
          exact k
        refine own_go (T := T13) (T' := T13) (f := (mkF m 109 #[.val (.long q0), .second, .val (.int p1), .val (.int p2), .val (.int p3), .val (.int p4), .val (.int p5), .val (.int fr), .val (.int n), .val (.ref b13), .val (.int ((p4 >>> ((2 : Int32) &&& 31)) &&& (3 : Int32))), .val (.int tot), .val (.int ((p4 >>> ((4 : Int32) &&& 31)) &&& (3 : Int32))), .unset, .unset, .unset, .unset, .unset, .unset] [])) (f' := (mkF m 137 #[.val (.long q0), .second, .val (.int p1), .val (.int p2), .val (.int p3), .val (.int p4), .val (.int p5), .val (.int fr), .val (.int n), .val (.ref b13), .val (.int ((p4 >>> ((2 : Int32) &&& 31)) &&& (3 : Int32))), .val (.int tot), .val (.int ((p4 >>> ((4 : Int32) &&& 31)) &&& (3 : Int32))), .val (.int (fr - (1 : Int32))), .unset, .unset, .unset, .unset, .unset] [])) (fun t k => ?_) ?_
        · show Steps p.tables e below (T13.setTop (mkF m 109 #[.val (.long q0), .second, .val (.int p1), .val (.int p2), .val (.int p3), .val (.int p4), .val (.int p5), .val (.int fr), .val (.int n), .val (.ref b13), .val (.int ((p4 >>> ((2 : Int32) &&& 31)) &&& (3 : Int32))), .val (.int tot), .val (.int ((p4 >>> ((4 : Int32) &&& 31)) &&& (3 : Int32))), .unset, .unset, .unset, .unset, .unset, .unset] [])) _
          refine XS.iload X13.here hx rfl (hb hby at_109) rfl ?_
          show Steps p.tables e below (T13.setTop (mkF m 111 #[.val (.long q0), .second, .val (.int p1), .val (.int p2), .val (.int p3), .val (.int p4), .val (.int p5), .val (.int fr), .val (.int n), .val (.ref b13), .val (.int ((p4 >>> ((2 : Int32) &&& 31)) &&& (3 : Int32))), .val (.int tot), .val (.int ((p4 >>> ((4 : Int32) &&& 31)) &&& (3 : Int32))), .unset, .unset, .unset, .unset, .unset, .unset] [(.int fr)])) _
          refine XS.iconst X13.here hx rfl (hb hby at_111) ?_
          show Steps p.tables e below (T13.setTop (mkF m 112 #[.val (.long q0), .second, .val (.int p1), .val (.int p2), .val (.int p3), .val (.int p4), .val (.int p5), .val (.int fr), .val (.int n), .val (.ref b13), .val (.int ((p4 >>> ((2 : Int32) &&& 31)) &&& (3 : Int32))), .val (.int tot), .val (.int ((p4 >>> ((4 : Int32) &&& 31)) &&& (3 : Int32))), .unset, .unset, .unset, .unset, .unset, .unset] [(.int (1 : Int32)), (.int fr)])) _
          refine XS.isub X13.here hx rfl (hb hby at_112) rfl ?_
          show Steps p.tables e below (T13.setTop (mkF m 113 #[.val (.long q0), .second, .val (.int p1), .val (.int p2), .val (.int p3), .val (.int p4), .val (.int p5), .val (.int fr), .val (.int n), .val (.ref b13), .val (.int ((p4 >>> ((2 : Int32) &&& 31)) &&& (3 : Int32))), .val (.int tot), .val (.int ((p4 >>> ((4 : Int32) &&& 31)) &&& (3 : Int32))), .unset, .unset, .unset, .unset, .unset, .unset] [(.int (fr - (1 : Int32)))])) _
          refine XS.istore X13.here hx rfl (hb hby at_113) rfl (l' := #[.val (.long q0), .second, .val (.int p1), .val (.int p2), .val (.int p3), .val (.int p4), .val (.int p5), .val (.int fr), .val (.int n), .val (.ref b13), .val (.int ((p4 >>> ((2 : Int32) &&& 31)) &&& (3 : Int32))), .val (.int tot), .val (.int ((p4 >>> ((4 : Int32) &&& 31)) &&& (3 : Int32))), .val (.int (fr - (1 : Int32))), .unset, .unset, .unset, .unset, .unset]) rfl ?_
          show Steps p.tables e below (T13.setTop (mkF m 115 #[.val (.long q0), .second, .val (.int p1), .val (.int p2), .val (.int p3), .val (.int p4), .val (.int p5), .val (.int fr), .val (.int n), .val (.ref b13), .val (.int ((p4 >>> ((2 : Int32) &&& 31)) &&& (3 : Int32))), .val (.int tot), .val (.int ((p4 >>> ((4 : Int32) &&& 31)) &&& (3 : Int32))), .val (.int (fr - (1 : Int32))), .unset, .unset, .unset, .unset, .unset] [])) _
          refine XS.goto X13.here hx rfl (pc0 := 115) (pc' := 137) rfl (hb hby at_115) (by decide) (by decide) ?_
          exact k
        exact J137 _
      · refine own_go (T := T13) (T' := T13) (f := (mkF m 106 #[.val (.long q0), .second, .val (.int p1), .val (.int p2), .val (.int p3), .val (.int p4), .val (.int p5), .val (.int fr), .val (.int n), .val (.ref b13), .val (.int ((p4 >>> ((2 : Int32) &&& 31)) &&& (3 : Int32))), .val (.int tot), .val (.int ((p4 >>> ((4 : Int32) &&& 31)) &&& (3 : Int32))), .unset, .unset, .unset, .unset, .unset, .unset] [(.int (1 : Int32)), (.int ((p4 >>> ((4 : Int32) &&& 31)) &&& (3 : Int32)))])) (f' := (mkF m 118 #[.val (.long q0), .second, .val (.int p1), .val (.int p2), .val (.int p3), .val (.int p4), .val (.int p5), .val (.int fr), .val (.int n), .val (.ref b13), .val (.int ((p4 >>> ((2 : Int32) &&& 31)) &&& (3 : Int32))), .val (.int tot), .val (.int ((p4 >>> ((4 : Int32) &&& 31)) &&& (3 : Int32))), .unset, .unset, .unset, .unset, .unset, .unset] [])) (fun t k => ?_) ?_
        · show Steps p.tables e below (T13.setTop (mkF m 106 #[.val (.long q0), .second, .val (.int p1), .val (.int p2), .val (.int p3), .val (.int p4), .val (.int p5), .val (.int fr), .val (.int n), .val (.ref b13), .val (.int ((p4 >>> ((2 : Int32) &&& 31)) &&& (3 : Int32))), .val (.int tot), .val (.int ((p4 >>> ((4 : Int32) &&& 31)) &&& (3 : Int32))), .unset, .unset, .unset, .unset, .unset, .unset] [(.int (1 : Int32)), (.int ((p4 >>> ((4 : Int32) &&& 31)) &&& (3 : Int32)))])) _
          refine XS.icmpYes X13.here hx rfl (pc0 := 106) (pc' := 118) rfl (hb hby at_106) rfl (feq hc106).2 (by decide) (by decide) ?_
          exact k
        refine own_go (T := T13) (T' := T13) (f := (mkF m 118 #[.val (.long q0), .second, .val (.int p1), .val (.int p2), .val (.int p3), .val (.int p4), .val (.int p5), .val (.int fr), .val (.int n), .val (.ref b13), .val (.int ((p4 >>> ((2 : Int32) &&& 31)) &&& (3 : Int32))), .val (.int tot), .val (.int ((p4 >>> ((4 : Int32) &&& 31)) &&& (3 : Int32))), .unset, .unset, .unset, .unset, .unset, .unset] [])) (f' := (mkF m 121 #[.val (.long q0), .second, .val (.int p1), .val (.int p2), .val (.int p3), .val (.int p4), .val (.int p5), .val (.int fr), .val (.int n), .val (.ref b13), .val (.int ((p4 >>> ((2 : Int32) &&& 31)) &&& (3 : Int32))), .val (.int tot), .val (.int ((p4 >>> ((4 : Int32) &&& 31)) &&& (3 : Int32))), .unset, .unset, .unset, .unset, .unset, .unset] [(.int (2 : Int32)), (.int ((p4 >>> ((4 : Int32) &&& 31)) &&& (3 : Int32)))])) (fun t k => ?_) ?_
        · show Steps p.tables e below (T13.setTop (mkF m 118 #[.val (.long q0), .second, .val (.int p1), .val (.int p2), .val (.int p3), .val (.int p4), .val (.int p5), .val (.int fr), .val (.int n), .val (.ref b13), .val (.int ((p4 >>> ((2 : Int32) &&& 31)) &&& (3 : Int32))), .val (.int tot), .val (.int ((p4 >>> ((4 : Int32) &&& 31)) &&& (3 : Int32))), .unset, .unset, .unset, .unset, .unset, .unset] [])) _
          refine XS.iload X13.here hx rfl (hb hby at_118) rfl ?_
          show Steps p.tables e below (T13.setTop (mkF m 120 #[.val (.long q0), .second, .val (.int p1), .val (.int p2), .val (.int p3), .val (.int p4), .val (.int p5), .val (.int fr), .val (.int n), .val (.ref b13), .val (.int ((p4 >>> ((2 : Int32) &&& 31)) &&& (3 : Int32))), .val (.int tot), .val (.int ((p4 >>> ((4 : Int32) &&& 31)) &&& (3 : Int32))), .unset, .unset, .unset, .unset, .unset, .unset] [(.int ((p4 >>> ((4 : Int32) &&& 31)) &&& (3 : Int32)))])) _
          refine XS.iconst X13.here hx rfl (hb hby at_120) ?_
          exact k
        by_cases hc121 : ((p4 >>> ((4 : Int32) &&& 31)) &&& (3 : Int32)) = (2 : Int32)
        · refine own_go (T := T13) (T' := T13) (f := (mkF m 121 #[.val (.long q0), .second, .val (.int p1), .val (.int p2), .val (.int p3), .val (.int p4), .val (.int p5), .val (.int fr), .val (.int n), .val (.ref b13), .val (.int ((p4 >>> ((2 : Int32) &&& 31)) &&& (3 : Int32))), .val (.int tot), .val (.int ((p4 >>> ((4 : Int32) &&& 31)) &&& (3 : Int32))), .unset, .unset, .unset, .unset, .unset, .unset] [(.int (2 : Int32)), (.int ((p4 >>> ((4 : Int32) &&& 31)) &&& (3 : Int32)))])) (f' := (mkF m 124 #[.val (.long q0), .second, .val (.int p1), .val (.int p2), .val (.int p3), .val (.int p4), .val (.int p5), .val (.int fr), .val (.int n), .val (.ref b13), .val (.int ((p4 >>> ((2 : Int32) &&& 31)) &&& (3 : Int32))), .val (.int tot), .val (.int ((p4 >>> ((4 : Int32) &&& 31)) &&& (3 : Int32))), .unset, .unset, .unset, .unset, .unset, .unset] [])) (fun t k => ?_) ?_
          · show Steps p.tables e below (T13.setTop (mkF m 121 #[.val (.long q0), .second, .val (.int p1), .val (.int p2), .val (.int p3), .val (.int p4), .val (.int p5), .val (.int fr), .val (.int n), .val (.ref b13), .val (.int ((p4 >>> ((2 : Int32) &&& 31)) &&& (3 : Int32))), .val (.int tot), .val (.int ((p4 >>> ((4 : Int32) &&& 31)) &&& (3 : Int32))), .unset, .unset, .unset, .unset, .unset, .unset] [(.int (2 : Int32)), (.int ((p4 >>> ((4 : Int32) &&& 31)) &&& (3 : Int32)))])) _
            refine XS.icmpNo X13.here hx rfl (hb hby at_121) rfl (teq hc121).2 ?_
            exact k
          refine own_go (T := T13) (T' := T13) (f := (mkF m 124 #[.val (.long q0), .second, .val (.int p1), .val (.int p2), .val (.int p3), .val (.int p4), .val (.int p5), .val (.int fr), .val (.int n), .val (.ref b13), .val (.int ((p4 >>> ((2 : Int32) &&& 31)) &&& (3 : Int32))), .val (.int tot), .val (.int ((p4 >>> ((4 : Int32) &&& 31)) &&& (3 : Int32))), .unset, .unset, .unset, .unset, .unset, .unset] [])) (f' := (mkF m 137 #[.val (.long q0), .second, .val (.int p1), .val (.int p2), .val (.int p3), .val (.int p4), .val (.int p5), .val (.int fr), .val (.int n), .val (.ref b13), .val (.int ((p4 >>> ((2 : Int32) &&& 31)) &&& (3 : Int32))), .val (.int tot), .val (.int ((p4 >>> ((4 : Int32) &&& 31)) &&& (3 : Int32))), .val (.int (fr + (1 : Int32))), .unset, .unset, .unset, .unset, .unset] [])) (fun t k => ?_) ?_
          · show Steps p.tables e below (T13.setTop (mkF m 124 #[.val (.long q0), .second, .val (.int p1), .val (.int p2), .val (.int p3), .val (.int p4), .val (.int p5), .val (.int fr), .val (.int n), .val (.ref b13), .val (.int ((p4 >>> ((2 : Int32) &&& 31)) &&& (3 : Int32))), .val (.int tot), .val (.int ((p4 >>> ((4 : Int32) &&& 31)) &&& (3 : Int32))), .unset, .unset, .unset, .unset, .unset, .unset] [])) _
            refine XS.iload X13.here hx rfl (hb hby at_124) rfl ?_
            show Steps p.tables e below (T13.setTop (mkF m 126 #[.val (.long q0), .second, .val (.int p1), .val (.int p2), .val (.int p3), .val (.int p4), .val (.int p5), .val (.int fr), .val (.int n), .val (.ref b13), .val (.int ((p4 >>> ((2 : Int32) &&& 31)) &&& (3 : Int32))), .val (.int tot), .val (.int ((p4 >>> ((4 : Int32) &&& 31)) &&& (3 : Int32))), .unset, .unset, .unset, .unset, .unset, .unset] [(.int fr)])) _
            refine XS.iconst X13.here hx rfl (hb hby at_126) ?_
            show Steps p.tables e below (T13.setTop (mkF m 127 #[.val (.long q0), .second, .val (.int p1), .val (.int p2), .val (.int p3), .val (.int p4), .val (.int p5), .val (.int fr), .val (.int n), .val (.ref b13), .val (.int ((p4 >>> ((2 : Int32) &&& 31)) &&& (3 : Int32))), .val (.int tot), .val (.int ((p4 >>> ((4 : Int32) &&& 31)) &&& (3 : Int32))), .unset, .unset, .unset, .unset, .unset, .unset] [(.int (1 : Int32)), (.int fr)])) _
            refine XS.iadd X13.here hx rfl (hb hby at_127) rfl ?_
            show Steps p.tables e below (T13.setTop (mkF m 128 #[.val (.long q0), .second, .val (.int p1), .val (.int p2), .val (.int p3), .val (.int p4), .val (.int p5), .val (.int fr), .val (.int n), .val (.ref b13), .val (.int ((p4 >>> ((2 : Int32) &&& 31)) &&& (3 : Int32))), .val (.int tot), .val (.int ((p4 >>> ((4 : Int32) &&& 31)) &&& (3 : Int32))), .unset, .unset, .unset, .unset, .unset, .unset] [(.int (fr + (1 : Int32)))])) _
            refine XS.istore X13.here hx rfl (hb hby at_128) rfl (l' := #[.val (.long q0), .second, .val (.int p1), .val (.int p2), .val (.int p3), .val (.int p4), .val (.int p5), .val (.int fr), .val (.int n), .val (.ref b13), .val (.int ((p4 >>> ((2 : Int32) &&& 31)) &&& (3 : Int32))), .val (.int tot), .val (.int ((p4 >>> ((4 : Int32) &&& 31)) &&& (3 : Int32))), .val (.int (fr + (1 : Int32))), .unset, .unset, .unset, .unset, .unset]) rfl ?_
            show Steps p.tables e below (T13.setTop (mkF m 130 #[.val (.long q0), .second, .val (.int p1), .val (.int p2), .val (.int p3), .val (.int p4), .val (.int p5), .val (.int fr), .val (.int n), .val (.ref b13), .val (.int ((p4 >>> ((2 : Int32) &&& 31)) &&& (3 : Int32))), .val (.int tot), .val (.int ((p4 >>> ((4 : Int32) &&& 31)) &&& (3 : Int32))), .val (.int (fr + (1 : Int32))), .unset, .unset, .unset, .unset, .unset] [])) _
            refine XS.goto X13.here hx rfl (pc0 := 130) (pc' := 137) rfl (hb hby at_130) (by decide) (by decide) ?_
            exact k
          exact J137 _
        · refine own_go (T := T13) (T' := T13) (f := (mkF m 121 #[.val (.long q0), .second, .val (.int p1), .val (.int p2), .val (.int p3), .val (.int p4), .val (.int p5), .val (.int fr), .val (.int n), .val (.ref b13), .val (.int ((p4 >>> ((2 : Int32) &&& 31)) &&& (3 : Int32))), .val (.int tot), .val (.int ((p4 >>> ((4 : Int32) &&& 31)) &&& (3 : Int32))), .unset, .unset, .unset, .unset, .unset, .unset] [(.int (2 : Int32)), (.int ((p4 >>> ((4 : Int32) &&& 31)) &&& (3 : Int32)))])) (f' := (mkF m 133 #[.val (.long q0), .second, .val (.int p1), .val (.int p2), .val (.int p3), .val (.int p4), .val (.int p5), .val (.int fr), .val (.int n), .val (.ref b13), .val (.int ((p4 >>> ((2 : Int32) &&& 31)) &&& (3 : Int32))), .val (.int tot), .val (.int ((p4 >>> ((4 : Int32) &&& 31)) &&& (3 : Int32))), .unset, .unset, .unset, .unset, .unset, .unset] [])) (fun t k => ?_) ?_
          · show Steps p.tables e below (T13.setTop (mkF m 121 #[.val (.long q0), .second, .val (.int p1), .val (.int p2), .val (.int p3), .val (.int p4), .val (.int p5), .val (.int fr), .val (.int n), .val (.ref b13), .val (.int ((p4 >>> ((2 : Int32) &&& 31)) &&& (3 : Int32))), .val (.int tot), .val (.int ((p4 >>> ((4 : Int32) &&& 31)) &&& (3 : Int32))), .unset, .unset, .unset, .unset, .unset, .unset] [(.int (2 : Int32)), (.int ((p4 >>> ((4 : Int32) &&& 31)) &&& (3 : Int32)))])) _
            refine XS.icmpYes X13.here hx rfl (pc0 := 121) (pc' := 133) rfl (hb hby at_121) rfl (feq hc121).2 (by decide) (by decide) ?_
            exact k
          refine own_go (T := T13) (T' := T13) (f := (mkF m 133 #[.val (.long q0), .second, .val (.int p1), .val (.int p2), .val (.int p3), .val (.int p4), .val (.int p5), .val (.int fr), .val (.int n), .val (.ref b13), .val (.int ((p4 >>> ((2 : Int32) &&& 31)) &&& (3 : Int32))), .val (.int tot), .val (.int ((p4 >>> ((4 : Int32) &&& 31)) &&& (3 : Int32))), .unset, .unset, .unset, .unset, .unset, .unset] [])) (f' := (mkF m 137 #[.val (.long q0), .second, .val (.int p1), .val (.int p2), .val (.int p3), .val (.int p4), .val (.int p5), .val (.int fr), .val (.int n), .val (.ref b13), .val (.int ((p4 >>> ((2 : Int32) &&& 31)) &&& (3 : Int32))), .val (.int tot), .val (.int ((p4 >>> ((4 : Int32) &&& 31)) &&& (3 : Int32))), .val (.int p3), .unset, .unset, .unset, .unset, .unset] [])) (fun t k => ?_) ?_
          · show Steps p.tables e below (T13.setTop (mkF m 133 #[.val (.long q0), .second, .val (.int p1), .val (.int p2), .val (.int p3), .val (.int p4), .val (.int p5), .val (.int fr), .val (.int n), .val (.ref b13), .val (.int ((p4 >>> ((2 : Int32) &&& 31)) &&& (3 : Int32))), .val (.int tot), .val (.int ((p4 >>> ((4 : Int32) &&& 31)) &&& (3 : Int32))), .unset, .unset, .unset, .unset, .unset, .unset] [])) _
            refine XS.iload X13.here hx rfl (hb hby at_133) rfl ?_
            show Steps p.tables e below (T13.setTop (mkF m 135 #[.val (.long q0), .second, .val (.int p1), .val (.int p2), .val (.int p3), .val (.int p4), .val (.int p5), .val (.int fr), .val (.int n), .val (.ref b13), .val (.int ((p4 >>> ((2 : Int32) &&& 31)) &&& (3 : Int32))), .val (.int tot), .val (.int ((p4 >>> ((4 : Int32) &&& 31)) &&& (3 : Int32))), .unset, .unset, .unset, .unset, .unset, .unset] [(.int p3)])) _
            refine XS.istore X13.here hx rfl (hb hby at_135) rfl (l' := #[.val (.long q0), .second, .val (.int p1), .val (.int p2), .val (.int p3), .val (.int p4), .val (.int p5), .val (.int fr), .val (.int n), .val (.ref b13), .val (.int ((p4 >>> ((2 : Int32) &&& 31)) &&& (3 : Int32))), .val (.int tot), .val (.int ((p4 >>> ((4 : Int32) &&& 31)) &&& (3 : Int32))), .val (.int p3), .unset, .unset, .unset, .unset, .unset]) rfl ?_
            exact k
          exact J137 _
  intro pl
  refine own_go (T := T13) (T' := T13) (f := (mkF m 137 #[.val (.long q0), .second, .val (.int p1), .val (.int p2), .val (.int p3), .val (.int p4), .val (.int p5), .val (.int fr), .val (.int n), .val (.ref b13), .val (.int ((p4 >>> ((2 : Int32) &&& 31)) &&& (3 : Int32))), .val (.int tot), .val (.int ((p4 >>> ((4 : Int32) &&& 31)) &&& (3 : Int32))), .val (.int pl), .unset, .unset, .unset, .unset, .unset] [])) (f' := (mkF m 144 #[.val (.long q0), .second, .val (.int p1), .val (.int p2), .val (.int p3), .val (.int p4), .val (.int p5), .val (.int fr), .val (.int n), .val (.ref b13), .val (.int ((p4 >>> ((2 : Int32) &&& 31)) &&& (3 : Int32))), .val (.int tot), .val (.int ((p4 >>> ((4 : Int32) &&& 31)) &&& (3 : Int32))), .val (.int pl), .unset, .unset, .unset, .unset, .unset] [(.int ((p4 >>> ((6 : Int32) &&& 31)) &&& (1 : Int32)))])) (fun t k => ?_) ?_
  · show Steps p.tables e below (T13.setTop (mkF m 137 #[.val (.long q0), .second, .val (.int p1), .val (.int p2), .val (.int p3), .val (.int p4), .val (.int p5), .val (.int fr), .val (.int n), .val (.ref b13), .val (.int ((p4 >>> ((2 : Int32) &&& 31)) &&& (3 : Int32))), .val (.int tot), .val (.int ((p4 >>> ((4 : Int32) &&& 31)) &&& (3 : Int32))), .val (.int pl), .unset, .unset, .unset, .unset, .unset] [])) _
    refine XS.iload X13.here hx rfl (hb hby at_137) rfl ?_
    show Steps p.tables e below (T13.setTop (mkF m 139 #[.val (.long q0), .second, .val (.int p1), .val (.int p2), .val (.int p3), .val (.int p4), .val (.int p5), .val (.int fr), .val (.int n), .val (.ref b13), .val (.int ((p4 >>> ((2 : Int32) &&& 31)) &&& (3 : Int32))), .val (.int tot), .val (.int ((p4 >>> ((4 : Int32) &&& 31)) &&& (3 : Int32))), .val (.int pl), .unset, .unset, .unset, .unset, .unset] [(.int p4)])) _
    refine XS.bipush X13.here hx rfl (hb hby at_139) ?_
    show Steps p.tables e below (T13.setTop (mkF m 141 #[.val (.long q0), .second, .val (.int p1), .val (.int p2), .val (.int p3), .val (.int p4), .val (.int p5), .val (.int fr), .val (.int n), .val (.ref b13), .val (.int ((p4 >>> ((2 : Int32) &&& 31)) &&& (3 : Int32))), .val (.int tot), .val (.int ((p4 >>> ((4 : Int32) &&& 31)) &&& (3 : Int32))), .val (.int pl), .unset, .unset, .unset, .unset, .unset] [(.int (6 : Int32)), (.int p4)])) _
    refine XS.ishr X13.here hx rfl (hb hby at_141) rfl ?_
    show Steps p.tables e below (T13.setTop (mkF m 142 #[.val (.long q0), .second, .val (.int p1), .val (.int p2), .val (.int p3), .val (.int p4), .val (.int p5), .val (.int fr), .val (.int n), .val (.ref b13), .val (.int ((p4 >>> ((2 : Int32) &&& 31)) &&& (3 : Int32))), .val (.int tot), .val (.int ((p4 >>> ((4 : Int32) &&& 31)) &&& (3 : Int32))), .val (.int pl), .unset, .unset, .unset, .unset, .unset] [(.int (p4 >>> ((6 : Int32) &&& 31)))])) _
    refine XS.iconst X13.here hx rfl (hb hby at_142) ?_
    show Steps p.tables e below (T13.setTop (mkF m 143 #[.val (.long q0), .second, .val (.int p1), .val (.int p2), .val (.int p3), .val (.int p4), .val (.int p5), .val (.int fr), .val (.int n), .val (.ref b13), .val (.int ((p4 >>> ((2 : Int32) &&& 31)) &&& (3 : Int32))), .val (.int tot), .val (.int ((p4 >>> ((4 : Int32) &&& 31)) &&& (3 : Int32))), .val (.int pl), .unset, .unset, .unset, .unset, .unset] [(.int (1 : Int32)), (.int (p4 >>> ((6 : Int32) &&& 31)))])) _
    refine XS.iand X13.here hx rfl (hb hby at_143) rfl ?_
    exact k
  suffices J152 : ∀ la : Int32, Rch p e below (Gd s (Q0 Z q0 p1 p2 p3 p4 p5 h0 n0) room_1.cells room_1.slots) T13 (mkF m 152 #[.val (.long q0), .second, .val (.int p1), .val (.int p2), .val (.int p3), .val (.int p4), .val (.int p5), .val (.int fr), .val (.int n), .val (.ref b13), .val (.int ((p4 >>> ((2 : Int32) &&& 31)) &&& (3 : Int32))), .val (.int tot), .val (.int ((p4 >>> ((4 : Int32) &&& 31)) &&& (3 : Int32))), .val (.int pl), .unset, .unset, .unset, .unset, .unset] [(.int la)]) by
    by_cases hc144 : ((p4 >>> ((6 : Int32) &&& 31)) &&& (1 : Int32)) = (0 : Int32)
    · refine own_go (T := T13) (T' := T13) (f := (mkF m 144 #[.val (.long q0), .second, .val (.int p1), .val (.int p2), .val (.int p3), .val (.int p4), .val (.int p5), .val (.int fr), .val (.int n), .val (.ref b13), .val (.int ((p4 >>> ((2 : Int32) &&& 31)) &&& (3 : Int32))), .val (.int tot), .val (.int ((p4 >>> ((4 : Int32) &&& 31)) &&& (3 : Int32))), .val (.int pl), .unset, .unset, .unset, .unset, .unset] [(.int ((p4 >>> ((6 : Int32) &&& 31)) &&& (1 : Int32)))])) (f' := (mkF m 151 #[.val (.long q0), .second, .val (.int p1), .val (.int p2), .val (.int p3), .val (.int p4), .val (.int p5), .val (.int fr), .val (.int n), .val (.ref b13), .val (.int ((p4 >>> ((2 : Int32) &&& 31)) &&& (3 : Int32))), .val (.int tot), .val (.int ((p4 >>> ((4 : Int32) &&& 31)) &&& (3 : Int32))), .val (.int pl), .unset, .unset, .unset, .unset, .unset] [])) (fun t k => ?_) ?_
      · show Steps p.tables e below (T13.setTop (mkF m 144 #[.val (.long q0), .second, .val (.int p1), .val (.int p2), .val (.int p3), .val (.int p4), .val (.int p5), .val (.int fr), .val (.int n), .val (.ref b13), .val (.int ((p4 >>> ((2 : Int32) &&& 31)) &&& (3 : Int32))), .val (.int tot), .val (.int ((p4 >>> ((4 : Int32) &&& 31)) &&& (3 : Int32))), .val (.int pl), .unset, .unset, .unset, .unset, .unset] [(.int ((p4 >>> ((6 : Int32) &&& 31)) &&& (1 : Int32)))])) _
        refine XS.ifYes X13.here hx rfl (pc0 := 144) (pc' := 151) rfl (hb hby at_144) rfl ((if0 _ _).trans (teq hc144).1) (by decide) (by decide) ?_
        exact k
      refine own_go (T := T13) (T' := T13) (f := (mkF m 151 #[.val (.long q0), .second, .val (.int p1), .val (.int p2), .val (.int p3), .val (.int p4), .val (.int p5), .val (.int fr), .val (.int n), .val (.ref b13), .val (.int ((p4 >>> ((2 : Int32) &&& 31)) &&& (3 : Int32))), .val (.int tot), .val (.int ((p4 >>> ((4 : Int32) &&& 31)) &&& (3 : Int32))), .val (.int pl), .unset, .unset, .unset, .unset, .unset] [])) (f' := (mkF m 152 #[.val (.long q0), .second, .val (.int p1), .val (.int p2), .val (.int p3), .val (.int p4), .val (.int p5), .val (.int fr), .val (.int n), .val (.ref b13), .val (.int ((p4 >>> ((2 : Int32) &&& 31)) &&& (3 : Int32))), .val (.int tot), .val (.int ((p4 >>> ((4 : Int32) &&& 31)) &&& (3 : Int32))), .val (.int pl), .unset, .unset, .unset, .unset, .unset] [(.int (0 : Int32))])) (fun t k => ?_) ?_
      · show Steps p.tables e below (T13.setTop (mkF m 151 #[.val (.long q0), .second, .val (.int p1), .val (.int p2), .val (.int p3), .val (.int p4), .val (.int p5), .val (.int fr), .val (.int n), .val (.ref b13), .val (.int ((p4 >>> ((2 : Int32) &&& 31)) &&& (3 : Int32))), .val (.int tot), .val (.int ((p4 >>> ((4 : Int32) &&& 31)) &&& (3 : Int32))), .val (.int pl), .unset, .unset, .unset, .unset, .unset] [])) _
        refine XS.iconst X13.here hx rfl (hb hby at_151) ?_
        exact k
      exact J152 _
    · refine own_go (T := T13) (T' := T13) (f := (mkF m 144 #[.val (.long q0), .second, .val (.int p1), .val (.int p2), .val (.int p3), .val (.int p4), .val (.int p5), .val (.int fr), .val (.int n), .val (.ref b13), .val (.int ((p4 >>> ((2 : Int32) &&& 31)) &&& (3 : Int32))), .val (.int tot), .val (.int ((p4 >>> ((4 : Int32) &&& 31)) &&& (3 : Int32))), .val (.int pl), .unset, .unset, .unset, .unset, .unset] [(.int ((p4 >>> ((6 : Int32) &&& 31)) &&& (1 : Int32)))])) (f' := (mkF m 147 #[.val (.long q0), .second, .val (.int p1), .val (.int p2), .val (.int p3), .val (.int p4), .val (.int p5), .val (.int fr), .val (.int n), .val (.ref b13), .val (.int ((p4 >>> ((2 : Int32) &&& 31)) &&& (3 : Int32))), .val (.int tot), .val (.int ((p4 >>> ((4 : Int32) &&& 31)) &&& (3 : Int32))), .val (.int pl), .unset, .unset, .unset, .unset, .unset] [])) (fun t k => ?_) ?_
      · show Steps p.tables e below (T13.setTop (mkF m 144 #[.val (.long q0), .second, .val (.int p1), .val (.int p2), .val (.int p3), .val (.int p4), .val (.int p5), .val (.int fr), .val (.int n), .val (.ref b13), .val (.int ((p4 >>> ((2 : Int32) &&& 31)) &&& (3 : Int32))), .val (.int tot), .val (.int ((p4 >>> ((4 : Int32) &&& 31)) &&& (3 : Int32))), .val (.int pl), .unset, .unset, .unset, .unset, .unset] [(.int ((p4 >>> ((6 : Int32) &&& 31)) &&& (1 : Int32)))])) _
        refine XS.ifNo X13.here hx rfl (hb hby at_144) rfl ((if0 _ _).trans (feq hc144).1) ?_
        exact k
      refine own_go (T := T13) (T' := T13) (f := (mkF m 147 #[.val (.long q0), .second, .val (.int p1), .val (.int p2), .val (.int p3), .val (.int p4), .val (.int p5), .val (.int fr), .val (.int n), .val (.ref b13), .val (.int ((p4 >>> ((2 : Int32) &&& 31)) &&& (3 : Int32))), .val (.int tot), .val (.int ((p4 >>> ((4 : Int32) &&& 31)) &&& (3 : Int32))), .val (.int pl), .unset, .unset, .unset, .unset, .unset] [])) (f' := (mkF m 152 #[.val (.long q0), .second, .val (.int p1), .val (.int p2), .val (.int p3), .val (.int p4), .val (.int p5), .val (.int fr), .val (.int n), .val (.ref b13), .val (.int ((p4 >>> ((2 : Int32) &&& 31)) &&& (3 : Int32))), .val (.int tot), .val (.int ((p4 >>> ((4 : Int32) &&& 31)) &&& (3 : Int32))), .val (.int pl), .unset, .unset, .unset, .unset, .unset] [(.int (1 : Int32))])) (fun t k => ?_) ?_
      · show Steps p.tables e below (T13.setTop (mkF m 147 #[.val (.long q0), .second, .val (.int p1), .val (.int p2), .val (.int p3), .val (.int p4), .val (.int p5), .val (.int fr), .val (.int n), .val (.ref b13), .val (.int ((p4 >>> ((2 : Int32) &&& 31)) &&& (3 : Int32))), .val (.int tot), .val (.int ((p4 >>> ((4 : Int32) &&& 31)) &&& (3 : Int32))), .val (.int pl), .unset, .unset, .unset, .unset, .unset] [])) _
        refine XS.iconst X13.here hx rfl (hb hby at_147) ?_
        show Steps p.tables e below (T13.setTop (mkF m 148 #[.val (.long q0), .second, .val (.int p1), .val (.int p2), .val (.int p3), .val (.int p4), .val (.int p5), .val (.int fr), .val (.int n), .val (.ref b13), .val (.int ((p4 >>> ((2 : Int32) &&& 31)) &&& (3 : Int32))), .val (.int tot), .val (.int ((p4 >>> ((4 : Int32) &&& 31)) &&& (3 : Int32))), .val (.int pl), .unset, .unset, .unset, .unset, .unset] [(.int (1 : Int32))])) _
        refine XS.goto X13.here hx rfl (pc0 := 148) (pc' := 152) rfl (hb hby at_148) (by decide) (by decide) ?_
        exact k
      exact J152 _
  intro la
  refine own_go (T := T13) (T' := T13) (f := (mkF m 152 #[.val (.long q0), .second, .val (.int p1), .val (.int p2), .val (.int p3), .val (.int p4), .val (.int p5), .val (.int fr), .val (.int n), .val (.ref b13), .val (.int ((p4 >>> ((2 : Int32) &&& 31)) &&& (3 : Int32))), .val (.int tot), .val (.int ((p4 >>> ((4 : Int32) &&& 31)) &&& (3 : Int32))), .val (.int pl), .unset, .unset, .unset, .unset, .unset] [(.int la)])) (f' := (mkF m 154 #[.val (.long q0), .second, .val (.int p1), .val (.int p2), .val (.int p3), .val (.int p4), .val (.int p5), .val (.int fr), .val (.int n), .val (.ref b13), .val (.int ((p4 >>> ((2 : Int32) &&& 31)) &&& (3 : Int32))), .val (.int tot), .val (.int ((p4 >>> ((4 : Int32) &&& 31)) &&& (3 : Int32))), .val (.int pl), .val (.int la), .unset, .unset, .unset, .unset] [])) (fun t k => ?_) ?_
  · show Steps p.tables e below (T13.setTop (mkF m 152 #[.val (.long q0), .second, .val (.int p1), .val (.int p2), .val (.int p3), .val (.int p4), .val (.int p5), .val (.int fr), .val (.int n), .val (.ref b13), .val (.int ((p4 >>> ((2 : Int32) &&& 31)) &&& (3 : Int32))), .val (.int tot), .val (.int ((p4 >>> ((4 : Int32) &&& 31)) &&& (3 : Int32))), .val (.int pl), .unset, .unset, .unset, .unset, .unset] [(.int la)])) _
    refine XS.istore X13.here hx rfl (hb hby at_152) rfl (l' := #[.val (.long q0), .second, .val (.int p1), .val (.int p2), .val (.int p3), .val (.int p4), .val (.int p5), .val (.int fr), .val (.int n), .val (.ref b13), .val (.int ((p4 >>> ((2 : Int32) &&& 31)) &&& (3 : Int32))), .val (.int tot), .val (.int ((p4 >>> ((4 : Int32) &&& 31)) &&& (3 : Int32))), .val (.int pl), .val (.int la), .unset, .unset, .unset, .unset]) rfl ?_
    exact k
  obtain ⟨T14, h14, X14, e14, E14, A14, D14, -, st14⟩ := newO X13 hx hZ hown (hw _ (List.mem_of_getElem? (i := 3) rfl)) (hw _ (List.mem_of_getElem? (i := 4) rfl)) (hw _ (List.mem_of_getElem? (i := 5) rfl)) e13 (g := (mkF m 154 #[.val (.long q0), .second, .val (.int p1), .val (.int p2), .val (.int p3), .val (.int p4), .val (.int p5), .val (.int fr), .val (.int n), .val (.ref b13), .val (.int ((p4 >>> ((2 : Int32) &&& 31)) &&& (3 : Int32))), .val (.int tot), .val (.int ((p4 >>> ((4 : Int32) &&& 31)) &&& (3 : Int32))), .val (.int pl), .val (.int la), .unset, .unset, .unset, .unset] [])) rfl (hb hby at_154) (by decide) (by decide)
  obtain ⟨b14, g14⟩ : ∃ z, z = h13.size := ⟨_, rfl⟩
  rw [← g14] at A14 D14 st14
  have F_point_b14 : Fld Z h14 b14 "com/example/auscult/auscult/store/SearchMatches" "point" "J" (.long (0 : Int64)) := D14 (Or.inr (hw _ (List.mem_of_getElem? (i := 13) rfl))) (ty := .long) (by decide)
  have F_total_b14 : Fld Z h14 b14 "com/example/auscult/auscult/store/SearchMatches" "total" "I" (.int (0 : Int32)) := D14 (Or.inr (hw _ (List.mem_of_getElem? (i := 15) rfl))) (ty := .int) (by decide)
  have F_matched_b14 : Fld Z h14 b14 "com/example/auscult/auscult/store/SearchMatches" "matched" "I" (.int (0 : Int32)) := D14 (Or.inr (hw _ (List.mem_of_getElem? (i := 17) rfl))) (ty := .int) (by decide)
  have F_from_b14 : Fld Z h14 b14 "com/example/auscult/auscult/store/SearchMatches" "from" "I" (.int (0 : Int32)) := D14 (Or.inr (hw _ (List.mem_of_getElem? (i := 19) rfl))) (ty := .int) (by decide)
  have F_versions_b14 : Fld Z h14 b14 "com/example/auscult/auscult/store/SearchMatches" "versions" "[J" .null := D14 (Or.inr (hw _ (List.mem_of_getElem? (i := 21) rfl))) (ty := (.array .long)) (by decide)
  have F_lasting_b14 : Fld Z h14 b14 "com/example/auscult/auscult/store/SearchMatches" "lasting" "Z" (.int (0 : Int32)) := D14 (Or.inr (hw _ (List.mem_of_getElem? (i := 23) rfl))) (ty := .boolean) (by decide)
  refine own_go st14 ?_
  show Rch p e below _ T14 (mkF m 157 #[.val (.long q0), .second, .val (.int p1), .val (.int p2), .val (.int p3), .val (.int p4), .val (.int p5), .val (.int fr), .val (.int n), .val (.ref b13), .val (.int ((p4 >>> ((2 : Int32) &&& 31)) &&& (3 : Int32))), .val (.int tot), .val (.int ((p4 >>> ((4 : Int32) &&& 31)) &&& (3 : Int32))), .val (.int pl), .val (.int la), .unset, .unset, .unset, .unset] [(.ref b14)])
  have z1 : n0 ≤ h14.size := Nat.le_trans (Nat.le_trans Z0 E13.1) E14.1
  have gb : n0 ≤ b14 := Nat.le_trans (Nat.le_trans Z0 E13.1) (Nat.le_of_eq g14.symm)
  have V0 := V13.ext E14
  have ne0 : b13 ≠ b14 := Nat.ne_of_lt (Nat.lt_of_lt_of_le V13.lt (Nat.le_of_eq g14.symm))
  refine own_go (T := T14) (T' := T14) (f := (mkF m 157 #[.val (.long q0), .second, .val (.int p1), .val (.int p2), .val (.int p3), .val (.int p4), .val (.int p5), .val (.int fr), .val (.int n), .val (.ref b13), .val (.int ((p4 >>> ((2 : Int32) &&& 31)) &&& (3 : Int32))), .val (.int tot), .val (.int ((p4 >>> ((4 : Int32) &&& 31)) &&& (3 : Int32))), .val (.int pl), .val (.int la), .unset, .unset, .unset, .unset] [(.ref b14)])) (f' := (mkF m 169 #[.val (.long q0), .second, .val (.int p1), .val (.int p2), .val (.int p3), .val (.int p4), .val (.int p5), .val (.int fr), .val (.int n), .val (.ref b13), .val (.int ((p4 >>> ((2 : Int32) &&& 31)) &&& (3 : Int32))), .val (.int tot), .val (.int ((p4 >>> ((4 : Int32) &&& 31)) &&& (3 : Int32))), .val (.int pl), .val (.int la), .unset, .unset, .unset, .unset] [(.int la), (.ref b13), (.int fr), (.int p5), (.int tot), (.long q0), (.ref b14), (.ref b14)])) (fun t k => ?_) ?_
  · show Steps p.tables e below (T14.setTop (mkF m 157 #[.val (.long q0), .second, .val (.int p1), .val (.int p2), .val (.int p3), .val (.int p4), .val (.int p5), .val (.int fr), .val (.int n), .val (.ref b13), .val (.int ((p4 >>> ((2 : Int32) &&& 31)) &&& (3 : Int32))), .val (.int tot), .val (.int ((p4 >>> ((4 : Int32) &&& 31)) &&& (3 : Int32))), .val (.int pl), .val (.int la), .unset, .unset, .unset, .unset] [(.ref b14)])) _
    refine XS.dup X14.here hx rfl (hb hby at_157) rfl rfl ?_
    show Steps p.tables e below (T14.setTop (mkF m 158 #[.val (.long q0), .second, .val (.int p1), .val (.int p2), .val (.int p3), .val (.int p4), .val (.int p5), .val (.int fr), .val (.int n), .val (.ref b13), .val (.int ((p4 >>> ((2 : Int32) &&& 31)) &&& (3 : Int32))), .val (.int tot), .val (.int ((p4 >>> ((4 : Int32) &&& 31)) &&& (3 : Int32))), .val (.int pl), .val (.int la), .unset, .unset, .unset, .unset] [(.ref b14), (.ref b14)])) _
    refine XS.lloadN X14.here hx rfl (hb hby at_158) rfl ?_
    show Steps p.tables e below (T14.setTop (mkF m 159 #[.val (.long q0), .second, .val (.int p1), .val (.int p2), .val (.int p3), .val (.int p4), .val (.int p5), .val (.int fr), .val (.int n), .val (.ref b13), .val (.int ((p4 >>> ((2 : Int32) &&& 31)) &&& (3 : Int32))), .val (.int tot), .val (.int ((p4 >>> ((4 : Int32) &&& 31)) &&& (3 : Int32))), .val (.int pl), .val (.int la), .unset, .unset, .unset, .unset] [(.long q0), (.ref b14), (.ref b14)])) _
    refine XS.iload X14.here hx rfl (hb hby at_159) rfl ?_
    show Steps p.tables e below (T14.setTop (mkF m 161 #[.val (.long q0), .second, .val (.int p1), .val (.int p2), .val (.int p3), .val (.int p4), .val (.int p5), .val (.int fr), .val (.int n), .val (.ref b13), .val (.int ((p4 >>> ((2 : Int32) &&& 31)) &&& (3 : Int32))), .val (.int tot), .val (.int ((p4 >>> ((4 : Int32) &&& 31)) &&& (3 : Int32))), .val (.int pl), .val (.int la), .unset, .unset, .unset, .unset] [(.int tot), (.long q0), (.ref b14), (.ref b14)])) _
    refine XS.iload X14.here hx rfl (hb hby at_161) rfl ?_
    show Steps p.tables e below (T14.setTop (mkF m 163 #[.val (.long q0), .second, .val (.int p1), .val (.int p2), .val (.int p3), .val (.int p4), .val (.int p5), .val (.int fr), .val (.int n), .val (.ref b13), .val (.int ((p4 >>> ((2 : Int32) &&& 31)) &&& (3 : Int32))), .val (.int tot), .val (.int ((p4 >>> ((4 : Int32) &&& 31)) &&& (3 : Int32))), .val (.int pl), .val (.int la), .unset, .unset, .unset, .unset] [(.int p5), (.int tot), (.long q0), (.ref b14), (.ref b14)])) _
    refine XS.iload X14.here hx rfl (hb hby at_163) rfl ?_
    show Steps p.tables e below (T14.setTop (mkF m 165 #[.val (.long q0), .second, .val (.int p1), .val (.int p2), .val (.int p3), .val (.int p4), .val (.int p5), .val (.int fr), .val (.int n), .val (.ref b13), .val (.int ((p4 >>> ((2 : Int32) &&& 31)) &&& (3 : Int32))), .val (.int tot), .val (.int ((p4 >>> ((4 : Int32) &&& 31)) &&& (3 : Int32))), .val (.int pl), .val (.int la), .unset, .unset, .unset, .unset] [(.int fr), (.int p5), (.int tot), (.long q0), (.ref b14), (.ref b14)])) _
    refine XS.aload X14.here hx rfl (hb hby at_165) rfl rfl ?_
    show Steps p.tables e below (T14.setTop (mkF m 167 #[.val (.long q0), .second, .val (.int p1), .val (.int p2), .val (.int p3), .val (.int p4), .val (.int p5), .val (.int fr), .val (.int n), .val (.ref b13), .val (.int ((p4 >>> ((2 : Int32) &&& 31)) &&& (3 : Int32))), .val (.int tot), .val (.int ((p4 >>> ((4 : Int32) &&& 31)) &&& (3 : Int32))), .val (.int pl), .val (.int la), .unset, .unset, .unset, .unset] [(.ref b13), (.int fr), (.int p5), (.int tot), (.long q0), (.ref b14), (.ref b14)])) _
    refine XS.iload X14.here hx rfl (hb hby at_167) rfl ?_
    exact k
  obtain ⟨_, _, ⟨T15, L15, k15, n15⟩, -, X15, ⟨Lc15, hQ15, l15, y15, z15⟩, st15⟩ := X14.specialBack hx (y := (⟨"com/example/auscult/auscult/store/SearchMatches", "<init>", "(JIII[JZ)V"⟩ : MethodName)) rfl hown (mvT hZ (hw _ (List.mem_of_getElem? (i := 6) rfl))) (mvT hZ (hw _ (List.mem_of_getElem? (i := 7) rfl))) (mvT hZ (hw _ (List.mem_of_getElem? (i := 8) rfl))) (by decide) (backOf (W := 1) (rm1 l Z a0 hw [] b14 q0 tot p5 fr b13 la h14 n0 z1 F_point_b14 F_total_b14 F_matched_b14 F_from_b14 F_versions_b14 F_lasting_b14 A14 gb) hZ (hw _ (List.mem_of_getElem? (i := 8) rfl)) (hw _ (List.mem_of_getElem? (i := 5) rfl)) (by decide) (by decide)) (g := (mkF m 169 #[.val (.long q0), .second, .val (.int p1), .val (.int p2), .val (.int p3), .val (.int p4), .val (.int p5), .val (.int fr), .val (.int n), .val (.ref b13), .val (.int ((p4 >>> ((2 : Int32) &&& 31)) &&& (3 : Int32))), .val (.int tot), .val (.int ((p4 >>> ((4 : Int32) &&& 31)) &&& (3 : Int32))), .val (.int pl), .val (.int la), .unset, .unset, .unset, .unset] [(.int la), (.ref b13), (.int fr), (.int p5), (.int tot), (.long q0), (.ref b14), (.ref b14)])) rfl (by rw [hml]; rfl) (Steps.refl _) (a := b14) (argsL := [(.long q0), (.int tot), (.int p5), (.int fr), (.ref b13), (.int la)]) (rest := [(.ref b14)]) (lenOf pd__28JIII_5bJZ_29V rfl) rfl (by show 2 * 0 + _ ≤ _; exact Nat.le_of_eq rfl) (hb hby at_169) (fun _ _ => ⟨rfl, e14, (by decide : 2 + 0 ≤ _), (by decide : 9 + 0 ≤ _)⟩)
  dsimp only [Pt.U, Pt.locs, Pt.cells, Pt.slots] at X15 l15 y15 z15 st15 hQ15
  subst l15 y15 z15
  obtain ⟨rfl, N15q, K15, Ex15, Ft15, Ff15, Fv15⟩ := hQ15
  have N15 := Fr.app N0 N15q
  refine own_go2 st15 ?_
  show Rch p e below _ T15 (mkF m 172 #[.val (.long q0), .second, .val (.int p1), .val (.int p2), .val (.int p3), .val (.int p4), .val (.int p5), .val (.int fr), .val (.int n), .val (.ref b13), .val (.int ((p4 >>> ((2 : Int32) &&& 31)) &&& (3 : Int32))), .val (.int tot), .val (.int ((p4 >>> ((4 : Int32) &&& 31)) &&& (3 : Int32))), .val (.int pl), .val (.int la), .unset, .unset, .unset, .unset] [(.ref b14)])
  have V1 := V0.keep K15 (ninS ne0 nin0)
  have z2 : n0 ≤ T15.heap.size := Nat.le_trans z1 K15.1
  refine own_go (T := T15) (T' := T15) (f := (mkF m 172 #[.val (.long q0), .second, .val (.int p1), .val (.int p2), .val (.int p3), .val (.int p4), .val (.int p5), .val (.int fr), .val (.int n), .val (.ref b13), .val (.int ((p4 >>> ((2 : Int32) &&& 31)) &&& (3 : Int32))), .val (.int tot), .val (.int ((p4 >>> ((4 : Int32) &&& 31)) &&& (3 : Int32))), .val (.int pl), .val (.int la), .unset, .unset, .unset, .unset] [(.ref b14)])) (f' := (mkF m 178 #[.val (.long q0), .second, .val (.int p1), .val (.int p2), .val (.int p3), .val (.int p4), .val (.int p5), .val (.int fr), .val (.int n), .val (.ref b13), .val (.int ((p4 >>> ((2 : Int32) &&& 31)) &&& (3 : Int32))), .val (.int tot), .val (.int ((p4 >>> ((4 : Int32) &&& 31)) &&& (3 : Int32))), .val (.int pl), .val (.int la), .val (.ref b14), .unset, .unset, .unset] [(.int fr), (.int pl)])) (fun t k => ?_) ?_
  · show Steps p.tables e below (T15.setTop (mkF m 172 #[.val (.long q0), .second, .val (.int p1), .val (.int p2), .val (.int p3), .val (.int p4), .val (.int p5), .val (.int fr), .val (.int n), .val (.ref b13), .val (.int ((p4 >>> ((2 : Int32) &&& 31)) &&& (3 : Int32))), .val (.int tot), .val (.int ((p4 >>> ((4 : Int32) &&& 31)) &&& (3 : Int32))), .val (.int pl), .val (.int la), .unset, .unset, .unset, .unset] [(.ref b14)])) _
    refine XS.astore X15.here hx rfl (hb hby at_172) rfl rfl (l' := #[.val (.long q0), .second, .val (.int p1), .val (.int p2), .val (.int p3), .val (.int p4), .val (.int p5), .val (.int fr), .val (.int n), .val (.ref b13), .val (.int ((p4 >>> ((2 : Int32) &&& 31)) &&& (3 : Int32))), .val (.int tot), .val (.int ((p4 >>> ((4 : Int32) &&& 31)) &&& (3 : Int32))), .val (.int pl), .val (.int la), .val (.ref b14), .unset, .unset, .unset]) rfl ?_
    show Steps p.tables e below (T15.setTop (mkF m 174 #[.val (.long q0), .second, .val (.int p1), .val (.int p2), .val (.int p3), .val (.int p4), .val (.int p5), .val (.int fr), .val (.int n), .val (.ref b13), .val (.int ((p4 >>> ((2 : Int32) &&& 31)) &&& (3 : Int32))), .val (.int tot), .val (.int ((p4 >>> ((4 : Int32) &&& 31)) &&& (3 : Int32))), .val (.int pl), .val (.int la), .val (.ref b14), .unset, .unset, .unset] [])) _
    refine XS.iload X15.here hx rfl (hb hby at_174) rfl ?_
    show Steps p.tables e below (T15.setTop (mkF m 176 #[.val (.long q0), .second, .val (.int p1), .val (.int p2), .val (.int p3), .val (.int p4), .val (.int p5), .val (.int fr), .val (.int n), .val (.ref b13), .val (.int ((p4 >>> ((2 : Int32) &&& 31)) &&& (3 : Int32))), .val (.int tot), .val (.int ((p4 >>> ((4 : Int32) &&& 31)) &&& (3 : Int32))), .val (.int pl), .val (.int la), .val (.ref b14), .unset, .unset, .unset] [(.int pl)])) _
    refine XS.iload X15.here hx rfl (hb hby at_176) rfl ?_
    exact k
  suffices J224 : ∀ ra rb r : Int32, own_ex fr tot n pl = r → Rch p e below (Gd s (Q0 Z q0 p1 p2 p3 p4 p5 h0 n0) room_1.cells room_1.slots) T15 (mkF m 224 #[.val (.long q0), .second, .val (.int p1), .val (.int p2), .val (.int p3), .val (.int p4), .val (.int p5), .val (.int fr), .val (.int n), .val (.ref b13), .val (.int ((p4 >>> ((2 : Int32) &&& 31)) &&& (3 : Int32))), .val (.int tot), .val (.int ((p4 >>> ((4 : Int32) &&& 31)) &&& (3 : Int32))), .val (.int pl), .val (.int la), .val (.ref b14), .val (.int ra), .val (.int rb), .unset] [(.int r)]) by
    by_cases hc178 : pl < fr
    · refine own_go (T := T15) (T' := T15) (f := (mkF m 178 #[.val (.long q0), .second, .val (.int p1), .val (.int p2), .val (.int p3), .val (.int p4), .val (.int p5), .val (.int fr), .val (.int n), .val (.ref b13), .val (.int ((p4 >>> ((2 : Int32) &&& 31)) &&& (3 : Int32))), .val (.int tot), .val (.int ((p4 >>> ((4 : Int32) &&& 31)) &&& (3 : Int32))), .val (.int pl), .val (.int la), .val (.ref b14), .unset, .unset, .unset] [(.int fr), (.int pl)])) (f' := (mkF m 185 #[.val (.long q0), .second, .val (.int p1), .val (.int p2), .val (.int p3), .val (.int p4), .val (.int p5), .val (.int fr), .val (.int n), .val (.ref b13), .val (.int ((p4 >>> ((2 : Int32) &&& 31)) &&& (3 : Int32))), .val (.int tot), .val (.int ((p4 >>> ((4 : Int32) &&& 31)) &&& (3 : Int32))), .val (.int pl), .val (.int la), .val (.ref b14), .unset, .unset, .unset] [])) (fun t k => ?_) ?_
      · show Steps p.tables e below (T15.setTop (mkF m 178 #[.val (.long q0), .second, .val (.int p1), .val (.int p2), .val (.int p3), .val (.int p4), .val (.int p5), .val (.int fr), .val (.int n), .val (.ref b13), .val (.int ((p4 >>> ((2 : Int32) &&& 31)) &&& (3 : Int32))), .val (.int tot), .val (.int ((p4 >>> ((4 : Int32) &&& 31)) &&& (3 : Int32))), .val (.int pl), .val (.int la), .val (.ref b14), .unset, .unset, .unset] [(.int fr), (.int pl)])) _
        refine XS.icmpYes X15.here hx rfl (pc0 := 178) (pc' := 185) rfl (hb hby at_178) rfl (tlt hc178).1 (by decide) (by decide) ?_
        exact k
      refine own_go (T := T15) (T' := T15) (f := (mkF m 185 #[.val (.long q0), .second, .val (.int p1), .val (.int p2), .val (.int p3), .val (.int p4), .val (.int p5), .val (.int fr), .val (.int n), .val (.ref b13), .val (.int ((p4 >>> ((2 : Int32) &&& 31)) &&& (3 : Int32))), .val (.int tot), .val (.int ((p4 >>> ((4 : Int32) &&& 31)) &&& (3 : Int32))), .val (.int pl), .val (.int la), .val (.ref b14), .unset, .unset, .unset] [])) (f' := (mkF m 199 #[.val (.long q0), .second, .val (.int p1), .val (.int p2), .val (.int p3), .val (.int p4), .val (.int p5), .val (.int fr), .val (.int n), .val (.ref b13), .val (.int ((p4 >>> ((2 : Int32) &&& 31)) &&& (3 : Int32))), .val (.int tot), .val (.int ((p4 >>> ((4 : Int32) &&& 31)) &&& (3 : Int32))), .val (.int pl), .val (.int la), .val (.ref b14), .val (.int (0 : Int32)), .unset, .unset] [(.int (lcmpW ((tot.toInt64) - (fr.toInt64)) (n.toInt64)))])) (fun t k => ?_) ?_
      · show Steps p.tables e below (T15.setTop (mkF m 185 #[.val (.long q0), .second, .val (.int p1), .val (.int p2), .val (.int p3), .val (.int p4), .val (.int p5), .val (.int fr), .val (.int n), .val (.ref b13), .val (.int ((p4 >>> ((2 : Int32) &&& 31)) &&& (3 : Int32))), .val (.int tot), .val (.int ((p4 >>> ((4 : Int32) &&& 31)) &&& (3 : Int32))), .val (.int pl), .val (.int la), .val (.ref b14), .unset, .unset, .unset] [])) _
        refine XS.iconst X15.here hx rfl (hb hby at_185) ?_
        show Steps p.tables e below (T15.setTop (mkF m 186 #[.val (.long q0), .second, .val (.int p1), .val (.int p2), .val (.int p3), .val (.int p4), .val (.int p5), .val (.int fr), .val (.int n), .val (.ref b13), .val (.int ((p4 >>> ((2 : Int32) &&& 31)) &&& (3 : Int32))), .val (.int tot), .val (.int ((p4 >>> ((4 : Int32) &&& 31)) &&& (3 : Int32))), .val (.int pl), .val (.int la), .val (.ref b14), .unset, .unset, .unset] [(.int (0 : Int32))])) _
        refine XS.istore X15.here hx rfl (hb hby at_186) rfl (l' := #[.val (.long q0), .second, .val (.int p1), .val (.int p2), .val (.int p3), .val (.int p4), .val (.int p5), .val (.int fr), .val (.int n), .val (.ref b13), .val (.int ((p4 >>> ((2 : Int32) &&& 31)) &&& (3 : Int32))), .val (.int tot), .val (.int ((p4 >>> ((4 : Int32) &&& 31)) &&& (3 : Int32))), .val (.int pl), .val (.int la), .val (.ref b14), .val (.int (0 : Int32)), .unset, .unset]) rfl ?_
        show Steps p.tables e below (T15.setTop (mkF m 188 #[.val (.long q0), .second, .val (.int p1), .val (.int p2), .val (.int p3), .val (.int p4), .val (.int p5), .val (.int fr), .val (.int n), .val (.ref b13), .val (.int ((p4 >>> ((2 : Int32) &&& 31)) &&& (3 : Int32))), .val (.int tot), .val (.int ((p4 >>> ((4 : Int32) &&& 31)) &&& (3 : Int32))), .val (.int pl), .val (.int la), .val (.ref b14), .val (.int (0 : Int32)), .unset, .unset] [])) _
        refine XS.iload X15.here hx rfl (hb hby at_188) rfl ?_
        show Steps p.tables e below (T15.setTop (mkF m 190 #[.val (.long q0), .second, .val (.int p1), .val (.int p2), .val (.int p3), .val (.int p4), .val (.int p5), .val (.int fr), .val (.int n), .val (.ref b13), .val (.int ((p4 >>> ((2 : Int32) &&& 31)) &&& (3 : Int32))), .val (.int tot), .val (.int ((p4 >>> ((4 : Int32) &&& 31)) &&& (3 : Int32))), .val (.int pl), .val (.int la), .val (.ref b14), .val (.int (0 : Int32)), .unset, .unset] [(.int tot)])) _
        refine XS.i2l X15.here hx rfl (hb hby at_190) rfl ?_
        show Steps p.tables e below (T15.setTop (mkF m 191 #[.val (.long q0), .second, .val (.int p1), .val (.int p2), .val (.int p3), .val (.int p4), .val (.int p5), .val (.int fr), .val (.int n), .val (.ref b13), .val (.int ((p4 >>> ((2 : Int32) &&& 31)) &&& (3 : Int32))), .val (.int tot), .val (.int ((p4 >>> ((4 : Int32) &&& 31)) &&& (3 : Int32))), .val (.int pl), .val (.int la), .val (.ref b14), .val (.int (0 : Int32)), .unset, .unset] [(.long (tot.toInt64))])) _
        refine XS.iload X15.here hx rfl (hb hby at_191) rfl ?_
        show Steps p.tables e below (T15.setTop (mkF m 193 #[.val (.long q0), .second, .val (.int p1), .val (.int p2), .val (.int p3), .val (.int p4), .val (.int p5), .val (.int fr), .val (.int n), .val (.ref b13), .val (.int ((p4 >>> ((2 : Int32) &&& 31)) &&& (3 : Int32))), .val (.int tot), .val (.int ((p4 >>> ((4 : Int32) &&& 31)) &&& (3 : Int32))), .val (.int pl), .val (.int la), .val (.ref b14), .val (.int (0 : Int32)), .unset, .unset] [(.int fr), (.long (tot.toInt64))])) _
        refine XS.i2l X15.here hx rfl (hb hby at_193) rfl ?_
        show Steps p.tables e below (T15.setTop (mkF m 194 #[.val (.long q0), .second, .val (.int p1), .val (.int p2), .val (.int p3), .val (.int p4), .val (.int p5), .val (.int fr), .val (.int n), .val (.ref b13), .val (.int ((p4 >>> ((2 : Int32) &&& 31)) &&& (3 : Int32))), .val (.int tot), .val (.int ((p4 >>> ((4 : Int32) &&& 31)) &&& (3 : Int32))), .val (.int pl), .val (.int la), .val (.ref b14), .val (.int (0 : Int32)), .unset, .unset] [(.long (fr.toInt64)), (.long (tot.toInt64))])) _
        refine XS.lsub X15.here hx rfl (hb hby at_194) rfl ?_
        show Steps p.tables e below (T15.setTop (mkF m 195 #[.val (.long q0), .second, .val (.int p1), .val (.int p2), .val (.int p3), .val (.int p4), .val (.int p5), .val (.int fr), .val (.int n), .val (.ref b13), .val (.int ((p4 >>> ((2 : Int32) &&& 31)) &&& (3 : Int32))), .val (.int tot), .val (.int ((p4 >>> ((4 : Int32) &&& 31)) &&& (3 : Int32))), .val (.int pl), .val (.int la), .val (.ref b14), .val (.int (0 : Int32)), .unset, .unset] [(.long ((tot.toInt64) - (fr.toInt64)))])) _
        refine XS.iload X15.here hx rfl (hb hby at_195) rfl ?_
        show Steps p.tables e below (T15.setTop (mkF m 197 #[.val (.long q0), .second, .val (.int p1), .val (.int p2), .val (.int p3), .val (.int p4), .val (.int p5), .val (.int fr), .val (.int n), .val (.ref b13), .val (.int ((p4 >>> ((2 : Int32) &&& 31)) &&& (3 : Int32))), .val (.int tot), .val (.int ((p4 >>> ((4 : Int32) &&& 31)) &&& (3 : Int32))), .val (.int pl), .val (.int la), .val (.ref b14), .val (.int (0 : Int32)), .unset, .unset] [(.int n), (.long ((tot.toInt64) - (fr.toInt64)))])) _
        refine XS.i2l X15.here hx rfl (hb hby at_197) rfl ?_
        show Steps p.tables e below (T15.setTop (mkF m 198 #[.val (.long q0), .second, .val (.int p1), .val (.int p2), .val (.int p3), .val (.int p4), .val (.int p5), .val (.int fr), .val (.int n), .val (.ref b13), .val (.int ((p4 >>> ((2 : Int32) &&& 31)) &&& (3 : Int32))), .val (.int tot), .val (.int ((p4 >>> ((4 : Int32) &&& 31)) &&& (3 : Int32))), .val (.int pl), .val (.int la), .val (.ref b14), .val (.int (0 : Int32)), .unset, .unset] [(.long (n.toInt64)), (.long ((tot.toInt64) - (fr.toInt64)))])) _
        refine XS.lcmp X15.here hx rfl (hb hby at_198) rfl ?_
        exact k
      by_cases hc199 : (lcmpW ((tot.toInt64) - (fr.toInt64)) (n.toInt64)) = (0 : Int32)
      · refine own_go (T := T15) (T' := T15) (f := (mkF m 199 #[.val (.long q0), .second, .val (.int p1), .val (.int p2), .val (.int p3), .val (.int p4), .val (.int p5), .val (.int fr), .val (.int n), .val (.ref b13), .val (.int ((p4 >>> ((2 : Int32) &&& 31)) &&& (3 : Int32))), .val (.int tot), .val (.int ((p4 >>> ((4 : Int32) &&& 31)) &&& (3 : Int32))), .val (.int pl), .val (.int la), .val (.ref b14), .val (.int (0 : Int32)), .unset, .unset] [(.int (lcmpW ((tot.toInt64) - (fr.toInt64)) (n.toInt64)))])) (f' := (mkF m 202 #[.val (.long q0), .second, .val (.int p1), .val (.int p2), .val (.int p3), .val (.int p4), .val (.int p5), .val (.int fr), .val (.int n), .val (.ref b13), .val (.int ((p4 >>> ((2 : Int32) &&& 31)) &&& (3 : Int32))), .val (.int tot), .val (.int ((p4 >>> ((4 : Int32) &&& 31)) &&& (3 : Int32))), .val (.int pl), .val (.int la), .val (.ref b14), .val (.int (0 : Int32)), .unset, .unset] [])) (fun t k => ?_) ?_
        · show Steps p.tables e below (T15.setTop (mkF m 199 #[.val (.long q0), .second, .val (.int p1), .val (.int p2), .val (.int p3), .val (.int p4), .val (.int p5), .val (.int fr), .val (.int n), .val (.ref b13), .val (.int ((p4 >>> ((2 : Int32) &&& 31)) &&& (3 : Int32))), .val (.int tot), .val (.int ((p4 >>> ((4 : Int32) &&& 31)) &&& (3 : Int32))), .val (.int pl), .val (.int la), .val (.ref b14), .val (.int (0 : Int32)), .unset, .unset] [(.int (lcmpW ((tot.toInt64) - (fr.toInt64)) (n.toInt64)))])) _
          refine XS.ifNo X15.here hx rfl (hb hby at_199) rfl ((if0 _ _).trans (teq hc199).2) ?_
          exact k
        refine own_go (T := T15) (T' := T15) (f := (mkF m 202 #[.val (.long q0), .second, .val (.int p1), .val (.int p2), .val (.int p3), .val (.int p4), .val (.int p5), .val (.int fr), .val (.int n), .val (.ref b13), .val (.int ((p4 >>> ((2 : Int32) &&& 31)) &&& (3 : Int32))), .val (.int tot), .val (.int ((p4 >>> ((4 : Int32) &&& 31)) &&& (3 : Int32))), .val (.int pl), .val (.int la), .val (.ref b14), .val (.int (0 : Int32)), .unset, .unset] [])) (f' := (mkF m 211 #[.val (.long q0), .second, .val (.int p1), .val (.int p2), .val (.int p3), .val (.int p4), .val (.int p5), .val (.int fr), .val (.int n), .val (.ref b13), .val (.int ((p4 >>> ((2 : Int32) &&& 31)) &&& (3 : Int32))), .val (.int tot), .val (.int ((p4 >>> ((4 : Int32) &&& 31)) &&& (3 : Int32))), .val (.int pl), .val (.int la), .val (.ref b14), .val (.int (0 : Int32)), .val (.int (1 : Int32)), .unset] [(.int (0 : Int32))])) (fun t k => ?_) ?_
        · show Steps p.tables e below (T15.setTop (mkF m 202 #[.val (.long q0), .second, .val (.int p1), .val (.int p2), .val (.int p3), .val (.int p4), .val (.int p5), .val (.int fr), .val (.int n), .val (.ref b13), .val (.int ((p4 >>> ((2 : Int32) &&& 31)) &&& (3 : Int32))), .val (.int tot), .val (.int ((p4 >>> ((4 : Int32) &&& 31)) &&& (3 : Int32))), .val (.int pl), .val (.int la), .val (.ref b14), .val (.int (0 : Int32)), .unset, .unset] [])) _
          refine XS.iconst X15.here hx rfl (hb hby at_202) ?_
          show Steps p.tables e below (T15.setTop (mkF m 203 #[.val (.long q0), .second, .val (.int p1), .val (.int p2), .val (.int p3), .val (.int p4), .val (.int p5), .val (.int fr), .val (.int n), .val (.ref b13), .val (.int ((p4 >>> ((2 : Int32) &&& 31)) &&& (3 : Int32))), .val (.int tot), .val (.int ((p4 >>> ((4 : Int32) &&& 31)) &&& (3 : Int32))), .val (.int pl), .val (.int la), .val (.ref b14), .val (.int (0 : Int32)), .unset, .unset] [(.int (1 : Int32))])) _
          refine XS.goto X15.here hx rfl (pc0 := 203) (pc' := 207) rfl (hb hby at_203) (by decide) (by decide) ?_
          show Steps p.tables e below (T15.setTop (mkF m 207 #[.val (.long q0), .second, .val (.int p1), .val (.int p2), .val (.int p3), .val (.int p4), .val (.int p5), .val (.int fr), .val (.int n), .val (.ref b13), .val (.int ((p4 >>> ((2 : Int32) &&& 31)) &&& (3 : Int32))), .val (.int tot), .val (.int ((p4 >>> ((4 : Int32) &&& 31)) &&& (3 : Int32))), .val (.int pl), .val (.int la), .val (.ref b14), .val (.int (0 : Int32)), .unset, .unset] [(.int (1 : Int32))])) _
          refine XS.istore X15.here hx rfl (hb hby at_207) rfl (l' := #[.val (.long q0), .second, .val (.int p1), .val (.int p2), .val (.int p3), .val (.int p4), .val (.int p5), .val (.int fr), .val (.int n), .val (.ref b13), .val (.int ((p4 >>> ((2 : Int32) &&& 31)) &&& (3 : Int32))), .val (.int tot), .val (.int ((p4 >>> ((4 : Int32) &&& 31)) &&& (3 : Int32))), .val (.int pl), .val (.int la), .val (.ref b14), .val (.int (0 : Int32)), .val (.int (1 : Int32)), .unset]) rfl ?_
          show Steps p.tables e below (T15.setTop (mkF m 209 #[.val (.long q0), .second, .val (.int p1), .val (.int p2), .val (.int p3), .val (.int p4), .val (.int p5), .val (.int fr), .val (.int n), .val (.ref b13), .val (.int ((p4 >>> ((2 : Int32) &&& 31)) &&& (3 : Int32))), .val (.int tot), .val (.int ((p4 >>> ((4 : Int32) &&& 31)) &&& (3 : Int32))), .val (.int pl), .val (.int la), .val (.ref b14), .val (.int (0 : Int32)), .val (.int (1 : Int32)), .unset] [])) _
          refine XS.iload X15.here hx rfl (hb hby at_209) rfl ?_
          exact k
        refine own_go (T := T15) (T' := T15) (f := (mkF m 211 #[.val (.long q0), .second, .val (.int p1), .val (.int p2), .val (.int p3), .val (.int p4), .val (.int p5), .val (.int fr), .val (.int n), .val (.ref b13), .val (.int ((p4 >>> ((2 : Int32) &&& 31)) &&& (3 : Int32))), .val (.int tot), .val (.int ((p4 >>> ((4 : Int32) &&& 31)) &&& (3 : Int32))), .val (.int pl), .val (.int la), .val (.ref b14), .val (.int (0 : Int32)), .val (.int (1 : Int32)), .unset] [(.int (0 : Int32))])) (f' := (mkF m 223 #[.val (.long q0), .second, .val (.int p1), .val (.int p2), .val (.int p3), .val (.int p4), .val (.int p5), .val (.int fr), .val (.int n), .val (.ref b13), .val (.int ((p4 >>> ((2 : Int32) &&& 31)) &&& (3 : Int32))), .val (.int tot), .val (.int ((p4 >>> ((4 : Int32) &&& 31)) &&& (3 : Int32))), .val (.int pl), .val (.int la), .val (.ref b14), .val (.int (0 : Int32)), .val (.int (1 : Int32)), .unset] [])) (fun t k => ?_) ?_
        · show Steps p.tables e below (T15.setTop (mkF m 211 #[.val (.long q0), .second, .val (.int p1), .val (.int p2), .val (.int p3), .val (.int p4), .val (.int p5), .val (.int fr), .val (.int n), .val (.ref b13), .val (.int ((p4 >>> ((2 : Int32) &&& 31)) &&& (3 : Int32))), .val (.int tot), .val (.int ((p4 >>> ((4 : Int32) &&& 31)) &&& (3 : Int32))), .val (.int pl), .val (.int la), .val (.ref b14), .val (.int (0 : Int32)), .val (.int (1 : Int32)), .unset] [(.int (0 : Int32))])) _
          refine XS.ifYes X15.here hx rfl (pc0 := 211) (pc' := 223) rfl (hb hby at_211) rfl ((if0 _ _).trans (teq (by decide)).1) (by decide) (by decide) ?_
          exact k
        refine own_go (T := T15) (T' := T15) (f := (mkF m 223 #[.val (.long q0), .second, .val (.int p1), .val (.int p2), .val (.int p3), .val (.int p4), .val (.int p5), .val (.int fr), .val (.int n), .val (.ref b13), .val (.int ((p4 >>> ((2 : Int32) &&& 31)) &&& (3 : Int32))), .val (.int tot), .val (.int ((p4 >>> ((4 : Int32) &&& 31)) &&& (3 : Int32))), .val (.int pl), .val (.int la), .val (.ref b14), .val (.int (0 : Int32)), .val (.int (1 : Int32)), .unset] [])) (f' := (mkF m 224 #[.val (.long q0), .second, .val (.int p1), .val (.int p2), .val (.int p3), .val (.int p4), .val (.int p5), .val (.int fr), .val (.int n), .val (.ref b13), .val (.int ((p4 >>> ((2 : Int32) &&& 31)) &&& (3 : Int32))), .val (.int tot), .val (.int ((p4 >>> ((4 : Int32) &&& 31)) &&& (3 : Int32))), .val (.int pl), .val (.int la), .val (.ref b14), .val (.int (0 : Int32)), .val (.int (1 : Int32)), .unset] [(.int (0 : Int32))])) (fun t k => ?_) ?_
        · show Steps p.tables e below (T15.setTop (mkF m 223 #[.val (.long q0), .second, .val (.int p1), .val (.int p2), .val (.int p3), .val (.int p4), .val (.int p5), .val (.int fr), .val (.int n), .val (.ref b13), .val (.int ((p4 >>> ((2 : Int32) &&& 31)) &&& (3 : Int32))), .val (.int tot), .val (.int ((p4 >>> ((4 : Int32) &&& 31)) &&& (3 : Int32))), .val (.int pl), .val (.int la), .val (.ref b14), .val (.int (0 : Int32)), .val (.int (1 : Int32)), .unset] [])) _
          refine XS.iconst X15.here hx rfl (hb hby at_223) ?_
          exact k
        exact J224 _ _ _ (by simp only [own_ex, hc178, hc199, if_true, if_false])
      · refine own_go (T := T15) (T' := T15) (f := (mkF m 199 #[.val (.long q0), .second, .val (.int p1), .val (.int p2), .val (.int p3), .val (.int p4), .val (.int p5), .val (.int fr), .val (.int n), .val (.ref b13), .val (.int ((p4 >>> ((2 : Int32) &&& 31)) &&& (3 : Int32))), .val (.int tot), .val (.int ((p4 >>> ((4 : Int32) &&& 31)) &&& (3 : Int32))), .val (.int pl), .val (.int la), .val (.ref b14), .val (.int (0 : Int32)), .unset, .unset] [(.int (lcmpW ((tot.toInt64) - (fr.toInt64)) (n.toInt64)))])) (f' := (mkF m 206 #[.val (.long q0), .second, .val (.int p1), .val (.int p2), .val (.int p3), .val (.int p4), .val (.int p5), .val (.int fr), .val (.int n), .val (.ref b13), .val (.int ((p4 >>> ((2 : Int32) &&& 31)) &&& (3 : Int32))), .val (.int tot), .val (.int ((p4 >>> ((4 : Int32) &&& 31)) &&& (3 : Int32))), .val (.int pl), .val (.int la), .val (.ref b14), .val (.int (0 : Int32)), .unset, .unset] [])) (fun t k => ?_) ?_
        · show Steps p.tables e below (T15.setTop (mkF m 199 #[.val (.long q0), .second, .val (.int p1), .val (.int p2), .val (.int p3), .val (.int p4), .val (.int p5), .val (.int fr), .val (.int n), .val (.ref b13), .val (.int ((p4 >>> ((2 : Int32) &&& 31)) &&& (3 : Int32))), .val (.int tot), .val (.int ((p4 >>> ((4 : Int32) &&& 31)) &&& (3 : Int32))), .val (.int pl), .val (.int la), .val (.ref b14), .val (.int (0 : Int32)), .unset, .unset] [(.int (lcmpW ((tot.toInt64) - (fr.toInt64)) (n.toInt64)))])) _
          refine XS.ifYes X15.here hx rfl (pc0 := 199) (pc' := 206) rfl (hb hby at_199) rfl ((if0 _ _).trans (feq hc199).2) (by decide) (by decide) ?_
          exact k
        refine own_go (T := T15) (T' := T15) (f := (mkF m 206 #[.val (.long q0), .second, .val (.int p1), .val (.int p2), .val (.int p3), .val (.int p4), .val (.int p5), .val (.int fr), .val (.int n), .val (.ref b13), .val (.int ((p4 >>> ((2 : Int32) &&& 31)) &&& (3 : Int32))), .val (.int tot), .val (.int ((p4 >>> ((4 : Int32) &&& 31)) &&& (3 : Int32))), .val (.int pl), .val (.int la), .val (.ref b14), .val (.int (0 : Int32)), .unset, .unset] [])) (f' := (mkF m 211 #[.val (.long q0), .second, .val (.int p1), .val (.int p2), .val (.int p3), .val (.int p4), .val (.int p5), .val (.int fr), .val (.int n), .val (.ref b13), .val (.int ((p4 >>> ((2 : Int32) &&& 31)) &&& (3 : Int32))), .val (.int tot), .val (.int ((p4 >>> ((4 : Int32) &&& 31)) &&& (3 : Int32))), .val (.int pl), .val (.int la), .val (.ref b14), .val (.int (0 : Int32)), .val (.int (0 : Int32)), .unset] [(.int (0 : Int32))])) (fun t k => ?_) ?_
        · show Steps p.tables e below (T15.setTop (mkF m 206 #[.val (.long q0), .second, .val (.int p1), .val (.int p2), .val (.int p3), .val (.int p4), .val (.int p5), .val (.int fr), .val (.int n), .val (.ref b13), .val (.int ((p4 >>> ((2 : Int32) &&& 31)) &&& (3 : Int32))), .val (.int tot), .val (.int ((p4 >>> ((4 : Int32) &&& 31)) &&& (3 : Int32))), .val (.int pl), .val (.int la), .val (.ref b14), .val (.int (0 : Int32)), .unset, .unset] [])) _
          refine XS.iconst X15.here hx rfl (hb hby at_206) ?_
          show Steps p.tables e below (T15.setTop (mkF m 207 #[.val (.long q0), .second, .val (.int p1), .val (.int p2), .val (.int p3), .val (.int p4), .val (.int p5), .val (.int fr), .val (.int n), .val (.ref b13), .val (.int ((p4 >>> ((2 : Int32) &&& 31)) &&& (3 : Int32))), .val (.int tot), .val (.int ((p4 >>> ((4 : Int32) &&& 31)) &&& (3 : Int32))), .val (.int pl), .val (.int la), .val (.ref b14), .val (.int (0 : Int32)), .unset, .unset] [(.int (0 : Int32))])) _
          refine XS.istore X15.here hx rfl (hb hby at_207) rfl (l' := #[.val (.long q0), .second, .val (.int p1), .val (.int p2), .val (.int p3), .val (.int p4), .val (.int p5), .val (.int fr), .val (.int n), .val (.ref b13), .val (.int ((p4 >>> ((2 : Int32) &&& 31)) &&& (3 : Int32))), .val (.int tot), .val (.int ((p4 >>> ((4 : Int32) &&& 31)) &&& (3 : Int32))), .val (.int pl), .val (.int la), .val (.ref b14), .val (.int (0 : Int32)), .val (.int (0 : Int32)), .unset]) rfl ?_
          show Steps p.tables e below (T15.setTop (mkF m 209 #[.val (.long q0), .second, .val (.int p1), .val (.int p2), .val (.int p3), .val (.int p4), .val (.int p5), .val (.int fr), .val (.int n), .val (.ref b13), .val (.int ((p4 >>> ((2 : Int32) &&& 31)) &&& (3 : Int32))), .val (.int tot), .val (.int ((p4 >>> ((4 : Int32) &&& 31)) &&& (3 : Int32))), .val (.int pl), .val (.int la), .val (.ref b14), .val (.int (0 : Int32)), .val (.int (0 : Int32)), .unset] [])) _
          refine XS.iload X15.here hx rfl (hb hby at_209) rfl ?_
          exact k
        refine own_go (T := T15) (T' := T15) (f := (mkF m 211 #[.val (.long q0), .second, .val (.int p1), .val (.int p2), .val (.int p3), .val (.int p4), .val (.int p5), .val (.int fr), .val (.int n), .val (.ref b13), .val (.int ((p4 >>> ((2 : Int32) &&& 31)) &&& (3 : Int32))), .val (.int tot), .val (.int ((p4 >>> ((4 : Int32) &&& 31)) &&& (3 : Int32))), .val (.int pl), .val (.int la), .val (.ref b14), .val (.int (0 : Int32)), .val (.int (0 : Int32)), .unset] [(.int (0 : Int32))])) (f' := (mkF m 223 #[.val (.long q0), .second, .val (.int p1), .val (.int p2), .val (.int p3), .val (.int p4), .val (.int p5), .val (.int fr), .val (.int n), .val (.ref b13), .val (.int ((p4 >>> ((2 : Int32) &&& 31)) &&& (3 : Int32))), .val (.int tot), .val (.int ((p4 >>> ((4 : Int32) &&& 31)) &&& (3 : Int32))), .val (.int pl), .val (.int la), .val (.ref b14), .val (.int (0 : Int32)), .val (.int (0 : Int32)), .unset] [])) (fun t k => ?_) ?_
        · show Steps p.tables e below (T15.setTop (mkF m 211 #[.val (.long q0), .second, .val (.int p1), .val (.int p2), .val (.int p3), .val (.int p4), .val (.int p5), .val (.int fr), .val (.int n), .val (.ref b13), .val (.int ((p4 >>> ((2 : Int32) &&& 31)) &&& (3 : Int32))), .val (.int tot), .val (.int ((p4 >>> ((4 : Int32) &&& 31)) &&& (3 : Int32))), .val (.int pl), .val (.int la), .val (.ref b14), .val (.int (0 : Int32)), .val (.int (0 : Int32)), .unset] [(.int (0 : Int32))])) _
          refine XS.ifYes X15.here hx rfl (pc0 := 211) (pc' := 223) rfl (hb hby at_211) rfl ((if0 _ _).trans (teq (by decide)).1) (by decide) (by decide) ?_
          exact k
        refine own_go (T := T15) (T' := T15) (f := (mkF m 223 #[.val (.long q0), .second, .val (.int p1), .val (.int p2), .val (.int p3), .val (.int p4), .val (.int p5), .val (.int fr), .val (.int n), .val (.ref b13), .val (.int ((p4 >>> ((2 : Int32) &&& 31)) &&& (3 : Int32))), .val (.int tot), .val (.int ((p4 >>> ((4 : Int32) &&& 31)) &&& (3 : Int32))), .val (.int pl), .val (.int la), .val (.ref b14), .val (.int (0 : Int32)), .val (.int (0 : Int32)), .unset] [])) (f' := (mkF m 224 #[.val (.long q0), .second, .val (.int p1), .val (.int p2), .val (.int p3), .val (.int p4), .val (.int p5), .val (.int fr), .val (.int n), .val (.ref b13), .val (.int ((p4 >>> ((2 : Int32) &&& 31)) &&& (3 : Int32))), .val (.int tot), .val (.int ((p4 >>> ((4 : Int32) &&& 31)) &&& (3 : Int32))), .val (.int pl), .val (.int la), .val (.ref b14), .val (.int (0 : Int32)), .val (.int (0 : Int32)), .unset] [(.int (0 : Int32))])) (fun t k => ?_) ?_
        · show Steps p.tables e below (T15.setTop (mkF m 223 #[.val (.long q0), .second, .val (.int p1), .val (.int p2), .val (.int p3), .val (.int p4), .val (.int p5), .val (.int fr), .val (.int n), .val (.ref b13), .val (.int ((p4 >>> ((2 : Int32) &&& 31)) &&& (3 : Int32))), .val (.int tot), .val (.int ((p4 >>> ((4 : Int32) &&& 31)) &&& (3 : Int32))), .val (.int pl), .val (.int la), .val (.ref b14), .val (.int (0 : Int32)), .val (.int (0 : Int32)), .unset] [])) _
          refine XS.iconst X15.here hx rfl (hb hby at_223) ?_
          exact k
        exact J224 _ _ _ (by simp only [own_ex, hc178, hc199, if_true, if_false])
    · refine own_go (T := T15) (T' := T15) (f := (mkF m 178 #[.val (.long q0), .second, .val (.int p1), .val (.int p2), .val (.int p3), .val (.int p4), .val (.int p5), .val (.int fr), .val (.int n), .val (.ref b13), .val (.int ((p4 >>> ((2 : Int32) &&& 31)) &&& (3 : Int32))), .val (.int tot), .val (.int ((p4 >>> ((4 : Int32) &&& 31)) &&& (3 : Int32))), .val (.int pl), .val (.int la), .val (.ref b14), .unset, .unset, .unset] [(.int fr), (.int pl)])) (f' := (mkF m 181 #[.val (.long q0), .second, .val (.int p1), .val (.int p2), .val (.int p3), .val (.int p4), .val (.int p5), .val (.int fr), .val (.int n), .val (.ref b13), .val (.int ((p4 >>> ((2 : Int32) &&& 31)) &&& (3 : Int32))), .val (.int tot), .val (.int ((p4 >>> ((4 : Int32) &&& 31)) &&& (3 : Int32))), .val (.int pl), .val (.int la), .val (.ref b14), .unset, .unset, .unset] [])) (fun t k => ?_) ?_
      · show Steps p.tables e below (T15.setTop (mkF m 178 #[.val (.long q0), .second, .val (.int p1), .val (.int p2), .val (.int p3), .val (.int p4), .val (.int p5), .val (.int fr), .val (.int n), .val (.ref b13), .val (.int ((p4 >>> ((2 : Int32) &&& 31)) &&& (3 : Int32))), .val (.int tot), .val (.int ((p4 >>> ((4 : Int32) &&& 31)) &&& (3 : Int32))), .val (.int pl), .val (.int la), .val (.ref b14), .unset, .unset, .unset] [(.int fr), (.int pl)])) _
        refine XS.icmpNo X15.here hx rfl (hb hby at_178) rfl (flt hc178).1 ?_
        exact k
      refine own_go (T := T15) (T' := T15) (f := (mkF m 181 #[.val (.long q0), .second, .val (.int p1), .val (.int p2), .val (.int p3), .val (.int p4), .val (.int p5), .val (.int fr), .val (.int n), .val (.ref b13), .val (.int ((p4 >>> ((2 : Int32) &&& 31)) &&& (3 : Int32))), .val (.int tot), .val (.int ((p4 >>> ((4 : Int32) &&& 31)) &&& (3 : Int32))), .val (.int pl), .val (.int la), .val (.ref b14), .unset, .unset, .unset] [])) (f' := (mkF m 199 #[.val (.long q0), .second, .val (.int p1), .val (.int p2), .val (.int p3), .val (.int p4), .val (.int p5), .val (.int fr), .val (.int n), .val (.ref b13), .val (.int ((p4 >>> ((2 : Int32) &&& 31)) &&& (3 : Int32))), .val (.int tot), .val (.int ((p4 >>> ((4 : Int32) &&& 31)) &&& (3 : Int32))), .val (.int pl), .val (.int la), .val (.ref b14), .val (.int (1 : Int32)), .unset, .unset] [(.int (lcmpW ((tot.toInt64) - (fr.toInt64)) (n.toInt64)))])) (fun t k => ?_) ?_
      · show Steps p.tables e below (T15.setTop (mkF m 181 #[.val (.long q0), .second, .val (.int p1), .val (.int p2), .val (.int p3), .val (.int p4), .val (.int p5), .val (.int fr), .val (.int n), .val (.ref b13), .val (.int ((p4 >>> ((2 : Int32) &&& 31)) &&& (3 : Int32))), .val (.int tot), .val (.int ((p4 >>> ((4 : Int32) &&& 31)) &&& (3 : Int32))), .val (.int pl), .val (.int la), .val (.ref b14), .unset, .unset, .unset] [])) _
        refine XS.iconst X15.here hx rfl (hb hby at_181) ?_
        show Steps p.tables e below (T15.setTop (mkF m 182 #[.val (.long q0), .second, .val (.int p1), .val (.int p2), .val (.int p3), .val (.int p4), .val (.int p5), .val (.int fr), .val (.int n), .val (.ref b13), .val (.int ((p4 >>> ((2 : Int32) &&& 31)) &&& (3 : Int32))), .val (.int tot), .val (.int ((p4 >>> ((4 : Int32) &&& 31)) &&& (3 : Int32))), .val (.int pl), .val (.int la), .val (.ref b14), .unset, .unset, .unset] [(.int (1 : Int32))])) _
        refine XS.goto X15.here hx rfl (pc0 := 182) (pc' := 186) rfl (hb hby at_182) (by decide) (by decide) ?_
        show Steps p.tables e below (T15.setTop (mkF m 186 #[.val (.long q0), .second, .val (.int p1), .val (.int p2), .val (.int p3), .val (.int p4), .val (.int p5), .val (.int fr), .val (.int n), .val (.ref b13), .val (.int ((p4 >>> ((2 : Int32) &&& 31)) &&& (3 : Int32))), .val (.int tot), .val (.int ((p4 >>> ((4 : Int32) &&& 31)) &&& (3 : Int32))), .val (.int pl), .val (.int la), .val (.ref b14), .unset, .unset, .unset] [(.int (1 : Int32))])) _
        refine XS.istore X15.here hx rfl (hb hby at_186) rfl (l' := #[.val (.long q0), .second, .val (.int p1), .val (.int p2), .val (.int p3), .val (.int p4), .val (.int p5), .val (.int fr), .val (.int n), .val (.ref b13), .val (.int ((p4 >>> ((2 : Int32) &&& 31)) &&& (3 : Int32))), .val (.int tot), .val (.int ((p4 >>> ((4 : Int32) &&& 31)) &&& (3 : Int32))), .val (.int pl), .val (.int la), .val (.ref b14), .val (.int (1 : Int32)), .unset, .unset]) rfl ?_
        show Steps p.tables e below (T15.setTop (mkF m 188 #[.val (.long q0), .second, .val (.int p1), .val (.int p2), .val (.int p3), .val (.int p4), .val (.int p5), .val (.int fr), .val (.int n), .val (.ref b13), .val (.int ((p4 >>> ((2 : Int32) &&& 31)) &&& (3 : Int32))), .val (.int tot), .val (.int ((p4 >>> ((4 : Int32) &&& 31)) &&& (3 : Int32))), .val (.int pl), .val (.int la), .val (.ref b14), .val (.int (1 : Int32)), .unset, .unset] [])) _
        refine XS.iload X15.here hx rfl (hb hby at_188) rfl ?_
        show Steps p.tables e below (T15.setTop (mkF m 190 #[.val (.long q0), .second, .val (.int p1), .val (.int p2), .val (.int p3), .val (.int p4), .val (.int p5), .val (.int fr), .val (.int n), .val (.ref b13), .val (.int ((p4 >>> ((2 : Int32) &&& 31)) &&& (3 : Int32))), .val (.int tot), .val (.int ((p4 >>> ((4 : Int32) &&& 31)) &&& (3 : Int32))), .val (.int pl), .val (.int la), .val (.ref b14), .val (.int (1 : Int32)), .unset, .unset] [(.int tot)])) _
        refine XS.i2l X15.here hx rfl (hb hby at_190) rfl ?_
        show Steps p.tables e below (T15.setTop (mkF m 191 #[.val (.long q0), .second, .val (.int p1), .val (.int p2), .val (.int p3), .val (.int p4), .val (.int p5), .val (.int fr), .val (.int n), .val (.ref b13), .val (.int ((p4 >>> ((2 : Int32) &&& 31)) &&& (3 : Int32))), .val (.int tot), .val (.int ((p4 >>> ((4 : Int32) &&& 31)) &&& (3 : Int32))), .val (.int pl), .val (.int la), .val (.ref b14), .val (.int (1 : Int32)), .unset, .unset] [(.long (tot.toInt64))])) _
        refine XS.iload X15.here hx rfl (hb hby at_191) rfl ?_
        show Steps p.tables e below (T15.setTop (mkF m 193 #[.val (.long q0), .second, .val (.int p1), .val (.int p2), .val (.int p3), .val (.int p4), .val (.int p5), .val (.int fr), .val (.int n), .val (.ref b13), .val (.int ((p4 >>> ((2 : Int32) &&& 31)) &&& (3 : Int32))), .val (.int tot), .val (.int ((p4 >>> ((4 : Int32) &&& 31)) &&& (3 : Int32))), .val (.int pl), .val (.int la), .val (.ref b14), .val (.int (1 : Int32)), .unset, .unset] [(.int fr), (.long (tot.toInt64))])) _
        refine XS.i2l X15.here hx rfl (hb hby at_193) rfl ?_
        show Steps p.tables e below (T15.setTop (mkF m 194 #[.val (.long q0), .second, .val (.int p1), .val (.int p2), .val (.int p3), .val (.int p4), .val (.int p5), .val (.int fr), .val (.int n), .val (.ref b13), .val (.int ((p4 >>> ((2 : Int32) &&& 31)) &&& (3 : Int32))), .val (.int tot), .val (.int ((p4 >>> ((4 : Int32) &&& 31)) &&& (3 : Int32))), .val (.int pl), .val (.int la), .val (.ref b14), .val (.int (1 : Int32)), .unset, .unset] [(.long (fr.toInt64)), (.long (tot.toInt64))])) _
        refine XS.lsub X15.here hx rfl (hb hby at_194) rfl ?_
        show Steps p.tables e below (T15.setTop (mkF m 195 #[.val (.long q0), .second, .val (.int p1), .val (.int p2), .val (.int p3), .val (.int p4), .val (.int p5), .val (.int fr), .val (.int n), .val (.ref b13), .val (.int ((p4 >>> ((2 : Int32) &&& 31)) &&& (3 : Int32))), .val (.int tot), .val (.int ((p4 >>> ((4 : Int32) &&& 31)) &&& (3 : Int32))), .val (.int pl), .val (.int la), .val (.ref b14), .val (.int (1 : Int32)), .unset, .unset] [(.long ((tot.toInt64) - (fr.toInt64)))])) _
        refine XS.iload X15.here hx rfl (hb hby at_195) rfl ?_
        show Steps p.tables e below (T15.setTop (mkF m 197 #[.val (.long q0), .second, .val (.int p1), .val (.int p2), .val (.int p3), .val (.int p4), .val (.int p5), .val (.int fr), .val (.int n), .val (.ref b13), .val (.int ((p4 >>> ((2 : Int32) &&& 31)) &&& (3 : Int32))), .val (.int tot), .val (.int ((p4 >>> ((4 : Int32) &&& 31)) &&& (3 : Int32))), .val (.int pl), .val (.int la), .val (.ref b14), .val (.int (1 : Int32)), .unset, .unset] [(.int n), (.long ((tot.toInt64) - (fr.toInt64)))])) _
        refine XS.i2l X15.here hx rfl (hb hby at_197) rfl ?_
        show Steps p.tables e below (T15.setTop (mkF m 198 #[.val (.long q0), .second, .val (.int p1), .val (.int p2), .val (.int p3), .val (.int p4), .val (.int p5), .val (.int fr), .val (.int n), .val (.ref b13), .val (.int ((p4 >>> ((2 : Int32) &&& 31)) &&& (3 : Int32))), .val (.int tot), .val (.int ((p4 >>> ((4 : Int32) &&& 31)) &&& (3 : Int32))), .val (.int pl), .val (.int la), .val (.ref b14), .val (.int (1 : Int32)), .unset, .unset] [(.long (n.toInt64)), (.long ((tot.toInt64) - (fr.toInt64)))])) _
        refine XS.lcmp X15.here hx rfl (hb hby at_198) rfl ?_
        exact k
      by_cases hc199 : (lcmpW ((tot.toInt64) - (fr.toInt64)) (n.toInt64)) = (0 : Int32)
      · refine own_go (T := T15) (T' := T15) (f := (mkF m 199 #[.val (.long q0), .second, .val (.int p1), .val (.int p2), .val (.int p3), .val (.int p4), .val (.int p5), .val (.int fr), .val (.int n), .val (.ref b13), .val (.int ((p4 >>> ((2 : Int32) &&& 31)) &&& (3 : Int32))), .val (.int tot), .val (.int ((p4 >>> ((4 : Int32) &&& 31)) &&& (3 : Int32))), .val (.int pl), .val (.int la), .val (.ref b14), .val (.int (1 : Int32)), .unset, .unset] [(.int (lcmpW ((tot.toInt64) - (fr.toInt64)) (n.toInt64)))])) (f' := (mkF m 202 #[.val (.long q0), .second, .val (.int p1), .val (.int p2), .val (.int p3), .val (.int p4), .val (.int p5), .val (.int fr), .val (.int n), .val (.ref b13), .val (.int ((p4 >>> ((2 : Int32) &&& 31)) &&& (3 : Int32))), .val (.int tot), .val (.int ((p4 >>> ((4 : Int32) &&& 31)) &&& (3 : Int32))), .val (.int pl), .val (.int la), .val (.ref b14), .val (.int (1 : Int32)), .unset, .unset] [])) (fun t k => ?_) ?_
        · show Steps p.tables e below (T15.setTop (mkF m 199 #[.val (.long q0), .second, .val (.int p1), .val (.int p2), .val (.int p3), .val (.int p4), .val (.int p5), .val (.int fr), .val (.int n), .val (.ref b13), .val (.int ((p4 >>> ((2 : Int32) &&& 31)) &&& (3 : Int32))), .val (.int tot), .val (.int ((p4 >>> ((4 : Int32) &&& 31)) &&& (3 : Int32))), .val (.int pl), .val (.int la), .val (.ref b14), .val (.int (1 : Int32)), .unset, .unset] [(.int (lcmpW ((tot.toInt64) - (fr.toInt64)) (n.toInt64)))])) _
          refine XS.ifNo X15.here hx rfl (hb hby at_199) rfl ((if0 _ _).trans (teq hc199).2) ?_
          exact k
        refine own_go (T := T15) (T' := T15) (f := (mkF m 202 #[.val (.long q0), .second, .val (.int p1), .val (.int p2), .val (.int p3), .val (.int p4), .val (.int p5), .val (.int fr), .val (.int n), .val (.ref b13), .val (.int ((p4 >>> ((2 : Int32) &&& 31)) &&& (3 : Int32))), .val (.int tot), .val (.int ((p4 >>> ((4 : Int32) &&& 31)) &&& (3 : Int32))), .val (.int pl), .val (.int la), .val (.ref b14), .val (.int (1 : Int32)), .unset, .unset] [])) (f' := (mkF m 211 #[.val (.long q0), .second, .val (.int p1), .val (.int p2), .val (.int p3), .val (.int p4), .val (.int p5), .val (.int fr), .val (.int n), .val (.ref b13), .val (.int ((p4 >>> ((2 : Int32) &&& 31)) &&& (3 : Int32))), .val (.int tot), .val (.int ((p4 >>> ((4 : Int32) &&& 31)) &&& (3 : Int32))), .val (.int pl), .val (.int la), .val (.ref b14), .val (.int (1 : Int32)), .val (.int (1 : Int32)), .unset] [(.int (1 : Int32))])) (fun t k => ?_) ?_
        · show Steps p.tables e below (T15.setTop (mkF m 202 #[.val (.long q0), .second, .val (.int p1), .val (.int p2), .val (.int p3), .val (.int p4), .val (.int p5), .val (.int fr), .val (.int n), .val (.ref b13), .val (.int ((p4 >>> ((2 : Int32) &&& 31)) &&& (3 : Int32))), .val (.int tot), .val (.int ((p4 >>> ((4 : Int32) &&& 31)) &&& (3 : Int32))), .val (.int pl), .val (.int la), .val (.ref b14), .val (.int (1 : Int32)), .unset, .unset] [])) _
          refine XS.iconst X15.here hx rfl (hb hby at_202) ?_
          show Steps p.tables e below (T15.setTop (mkF m 203 #[.val (.long q0), .second, .val (.int p1), .val (.int p2), .val (.int p3), .val (.int p4), .val (.int p5), .val (.int fr), .val (.int n), .val (.ref b13), .val (.int ((p4 >>> ((2 : Int32) &&& 31)) &&& (3 : Int32))), .val (.int tot), .val (.int ((p4 >>> ((4 : Int32) &&& 31)) &&& (3 : Int32))), .val (.int pl), .val (.int la), .val (.ref b14), .val (.int (1 : Int32)), .unset, .unset] [(.int (1 : Int32))])) _
          refine XS.goto X15.here hx rfl (pc0 := 203) (pc' := 207) rfl (hb hby at_203) (by decide) (by decide) ?_
          show Steps p.tables e below (T15.setTop (mkF m 207 #[.val (.long q0), .second, .val (.int p1), .val (.int p2), .val (.int p3), .val (.int p4), .val (.int p5), .val (.int fr), .val (.int n), .val (.ref b13), .val (.int ((p4 >>> ((2 : Int32) &&& 31)) &&& (3 : Int32))), .val (.int tot), .val (.int ((p4 >>> ((4 : Int32) &&& 31)) &&& (3 : Int32))), .val (.int pl), .val (.int la), .val (.ref b14), .val (.int (1 : Int32)), .unset, .unset] [(.int (1 : Int32))])) _
          refine XS.istore X15.here hx rfl (hb hby at_207) rfl (l' := #[.val (.long q0), .second, .val (.int p1), .val (.int p2), .val (.int p3), .val (.int p4), .val (.int p5), .val (.int fr), .val (.int n), .val (.ref b13), .val (.int ((p4 >>> ((2 : Int32) &&& 31)) &&& (3 : Int32))), .val (.int tot), .val (.int ((p4 >>> ((4 : Int32) &&& 31)) &&& (3 : Int32))), .val (.int pl), .val (.int la), .val (.ref b14), .val (.int (1 : Int32)), .val (.int (1 : Int32)), .unset]) rfl ?_
          show Steps p.tables e below (T15.setTop (mkF m 209 #[.val (.long q0), .second, .val (.int p1), .val (.int p2), .val (.int p3), .val (.int p4), .val (.int p5), .val (.int fr), .val (.int n), .val (.ref b13), .val (.int ((p4 >>> ((2 : Int32) &&& 31)) &&& (3 : Int32))), .val (.int tot), .val (.int ((p4 >>> ((4 : Int32) &&& 31)) &&& (3 : Int32))), .val (.int pl), .val (.int la), .val (.ref b14), .val (.int (1 : Int32)), .val (.int (1 : Int32)), .unset] [])) _
          refine XS.iload X15.here hx rfl (hb hby at_209) rfl ?_
          exact k
        refine own_go (T := T15) (T' := T15) (f := (mkF m 211 #[.val (.long q0), .second, .val (.int p1), .val (.int p2), .val (.int p3), .val (.int p4), .val (.int p5), .val (.int fr), .val (.int n), .val (.ref b13), .val (.int ((p4 >>> ((2 : Int32) &&& 31)) &&& (3 : Int32))), .val (.int tot), .val (.int ((p4 >>> ((4 : Int32) &&& 31)) &&& (3 : Int32))), .val (.int pl), .val (.int la), .val (.ref b14), .val (.int (1 : Int32)), .val (.int (1 : Int32)), .unset] [(.int (1 : Int32))])) (f' := (mkF m 214 #[.val (.long q0), .second, .val (.int p1), .val (.int p2), .val (.int p3), .val (.int p4), .val (.int p5), .val (.int fr), .val (.int n), .val (.ref b13), .val (.int ((p4 >>> ((2 : Int32) &&& 31)) &&& (3 : Int32))), .val (.int tot), .val (.int ((p4 >>> ((4 : Int32) &&& 31)) &&& (3 : Int32))), .val (.int pl), .val (.int la), .val (.ref b14), .val (.int (1 : Int32)), .val (.int (1 : Int32)), .unset] [])) (fun t k => ?_) ?_
        · show Steps p.tables e below (T15.setTop (mkF m 211 #[.val (.long q0), .second, .val (.int p1), .val (.int p2), .val (.int p3), .val (.int p4), .val (.int p5), .val (.int fr), .val (.int n), .val (.ref b13), .val (.int ((p4 >>> ((2 : Int32) &&& 31)) &&& (3 : Int32))), .val (.int tot), .val (.int ((p4 >>> ((4 : Int32) &&& 31)) &&& (3 : Int32))), .val (.int pl), .val (.int la), .val (.ref b14), .val (.int (1 : Int32)), .val (.int (1 : Int32)), .unset] [(.int (1 : Int32))])) _
          refine XS.ifNo X15.here hx rfl (hb hby at_211) rfl ((if0 _ _).trans (feq (by decide)).1) ?_
          exact k
        refine own_go (T := T15) (T' := T15) (f := (mkF m 214 #[.val (.long q0), .second, .val (.int p1), .val (.int p2), .val (.int p3), .val (.int p4), .val (.int p5), .val (.int fr), .val (.int n), .val (.ref b13), .val (.int ((p4 >>> ((2 : Int32) &&& 31)) &&& (3 : Int32))), .val (.int tot), .val (.int ((p4 >>> ((4 : Int32) &&& 31)) &&& (3 : Int32))), .val (.int pl), .val (.int la), .val (.ref b14), .val (.int (1 : Int32)), .val (.int (1 : Int32)), .unset] [])) (f' := (mkF m 216 #[.val (.long q0), .second, .val (.int p1), .val (.int p2), .val (.int p3), .val (.int p4), .val (.int p5), .val (.int fr), .val (.int n), .val (.ref b13), .val (.int ((p4 >>> ((2 : Int32) &&& 31)) &&& (3 : Int32))), .val (.int tot), .val (.int ((p4 >>> ((4 : Int32) &&& 31)) &&& (3 : Int32))), .val (.int pl), .val (.int la), .val (.ref b14), .val (.int (1 : Int32)), .val (.int (1 : Int32)), .unset] [(.int (1 : Int32))])) (fun t k => ?_) ?_
        · show Steps p.tables e below (T15.setTop (mkF m 214 #[.val (.long q0), .second, .val (.int p1), .val (.int p2), .val (.int p3), .val (.int p4), .val (.int p5), .val (.int fr), .val (.int n), .val (.ref b13), .val (.int ((p4 >>> ((2 : Int32) &&& 31)) &&& (3 : Int32))), .val (.int tot), .val (.int ((p4 >>> ((4 : Int32) &&& 31)) &&& (3 : Int32))), .val (.int pl), .val (.int la), .val (.ref b14), .val (.int (1 : Int32)), .val (.int (1 : Int32)), .unset] [])) _
          refine XS.iload X15.here hx rfl (hb hby at_214) rfl ?_
          exact k
        refine own_go (T := T15) (T' := T15) (f := (mkF m 216 #[.val (.long q0), .second, .val (.int p1), .val (.int p2), .val (.int p3), .val (.int p4), .val (.int p5), .val (.int fr), .val (.int n), .val (.ref b13), .val (.int ((p4 >>> ((2 : Int32) &&& 31)) &&& (3 : Int32))), .val (.int tot), .val (.int ((p4 >>> ((4 : Int32) &&& 31)) &&& (3 : Int32))), .val (.int pl), .val (.int la), .val (.ref b14), .val (.int (1 : Int32)), .val (.int (1 : Int32)), .unset] [(.int (1 : Int32))])) (f' := (mkF m 219 #[.val (.long q0), .second, .val (.int p1), .val (.int p2), .val (.int p3), .val (.int p4), .val (.int p5), .val (.int fr), .val (.int n), .val (.ref b13), .val (.int ((p4 >>> ((2 : Int32) &&& 31)) &&& (3 : Int32))), .val (.int tot), .val (.int ((p4 >>> ((4 : Int32) &&& 31)) &&& (3 : Int32))), .val (.int pl), .val (.int la), .val (.ref b14), .val (.int (1 : Int32)), .val (.int (1 : Int32)), .unset] [])) (fun t k => ?_) ?_
        · show Steps p.tables e below (T15.setTop (mkF m 216 #[.val (.long q0), .second, .val (.int p1), .val (.int p2), .val (.int p3), .val (.int p4), .val (.int p5), .val (.int fr), .val (.int n), .val (.ref b13), .val (.int ((p4 >>> ((2 : Int32) &&& 31)) &&& (3 : Int32))), .val (.int tot), .val (.int ((p4 >>> ((4 : Int32) &&& 31)) &&& (3 : Int32))), .val (.int pl), .val (.int la), .val (.ref b14), .val (.int (1 : Int32)), .val (.int (1 : Int32)), .unset] [(.int (1 : Int32))])) _
          refine XS.ifNo X15.here hx rfl (hb hby at_216) rfl ((if0 _ _).trans (feq (by decide)).1) ?_
          exact k
        refine own_go (T := T15) (T' := T15) (f := (mkF m 219 #[.val (.long q0), .second, .val (.int p1), .val (.int p2), .val (.int p3), .val (.int p4), .val (.int p5), .val (.int fr), .val (.int n), .val (.ref b13), .val (.int ((p4 >>> ((2 : Int32) &&& 31)) &&& (3 : Int32))), .val (.int tot), .val (.int ((p4 >>> ((4 : Int32) &&& 31)) &&& (3 : Int32))), .val (.int pl), .val (.int la), .val (.ref b14), .val (.int (1 : Int32)), .val (.int (1 : Int32)), .unset] [])) (f' := (mkF m 224 #[.val (.long q0), .second, .val (.int p1), .val (.int p2), .val (.int p3), .val (.int p4), .val (.int p5), .val (.int fr), .val (.int n), .val (.ref b13), .val (.int ((p4 >>> ((2 : Int32) &&& 31)) &&& (3 : Int32))), .val (.int tot), .val (.int ((p4 >>> ((4 : Int32) &&& 31)) &&& (3 : Int32))), .val (.int pl), .val (.int la), .val (.ref b14), .val (.int (1 : Int32)), .val (.int (1 : Int32)), .unset] [(.int (1 : Int32))])) (fun t k => ?_) ?_
        · show Steps p.tables e below (T15.setTop (mkF m 219 #[.val (.long q0), .second, .val (.int p1), .val (.int p2), .val (.int p3), .val (.int p4), .val (.int p5), .val (.int fr), .val (.int n), .val (.ref b13), .val (.int ((p4 >>> ((2 : Int32) &&& 31)) &&& (3 : Int32))), .val (.int tot), .val (.int ((p4 >>> ((4 : Int32) &&& 31)) &&& (3 : Int32))), .val (.int pl), .val (.int la), .val (.ref b14), .val (.int (1 : Int32)), .val (.int (1 : Int32)), .unset] [])) _
          refine XS.iconst X15.here hx rfl (hb hby at_219) ?_
          show Steps p.tables e below (T15.setTop (mkF m 220 #[.val (.long q0), .second, .val (.int p1), .val (.int p2), .val (.int p3), .val (.int p4), .val (.int p5), .val (.int fr), .val (.int n), .val (.ref b13), .val (.int ((p4 >>> ((2 : Int32) &&& 31)) &&& (3 : Int32))), .val (.int tot), .val (.int ((p4 >>> ((4 : Int32) &&& 31)) &&& (3 : Int32))), .val (.int pl), .val (.int la), .val (.ref b14), .val (.int (1 : Int32)), .val (.int (1 : Int32)), .unset] [(.int (1 : Int32))])) _
          refine XS.goto X15.here hx rfl (pc0 := 220) (pc' := 224) rfl (hb hby at_220) (by decide) (by decide) ?_
          exact k
        exact J224 _ _ _ (by simp only [own_ex, hc178, hc199, if_true, if_false])
      · refine own_go (T := T15) (T' := T15) (f := (mkF m 199 #[.val (.long q0), .second, .val (.int p1), .val (.int p2), .val (.int p3), .val (.int p4), .val (.int p5), .val (.int fr), .val (.int n), .val (.ref b13), .val (.int ((p4 >>> ((2 : Int32) &&& 31)) &&& (3 : Int32))), .val (.int tot), .val (.int ((p4 >>> ((4 : Int32) &&& 31)) &&& (3 : Int32))), .val (.int pl), .val (.int la), .val (.ref b14), .val (.int (1 : Int32)), .unset, .unset] [(.int (lcmpW ((tot.toInt64) - (fr.toInt64)) (n.toInt64)))])) (f' := (mkF m 206 #[.val (.long q0), .second, .val (.int p1), .val (.int p2), .val (.int p3), .val (.int p4), .val (.int p5), .val (.int fr), .val (.int n), .val (.ref b13), .val (.int ((p4 >>> ((2 : Int32) &&& 31)) &&& (3 : Int32))), .val (.int tot), .val (.int ((p4 >>> ((4 : Int32) &&& 31)) &&& (3 : Int32))), .val (.int pl), .val (.int la), .val (.ref b14), .val (.int (1 : Int32)), .unset, .unset] [])) (fun t k => ?_) ?_
        · show Steps p.tables e below (T15.setTop (mkF m 199 #[.val (.long q0), .second, .val (.int p1), .val (.int p2), .val (.int p3), .val (.int p4), .val (.int p5), .val (.int fr), .val (.int n), .val (.ref b13), .val (.int ((p4 >>> ((2 : Int32) &&& 31)) &&& (3 : Int32))), .val (.int tot), .val (.int ((p4 >>> ((4 : Int32) &&& 31)) &&& (3 : Int32))), .val (.int pl), .val (.int la), .val (.ref b14), .val (.int (1 : Int32)), .unset, .unset] [(.int (lcmpW ((tot.toInt64) - (fr.toInt64)) (n.toInt64)))])) _
          refine XS.ifYes X15.here hx rfl (pc0 := 199) (pc' := 206) rfl (hb hby at_199) rfl ((if0 _ _).trans (feq hc199).2) (by decide) (by decide) ?_
          exact k
        refine own_go (T := T15) (T' := T15) (f := (mkF m 206 #[.val (.long q0), .second, .val (.int p1), .val (.int p2), .val (.int p3), .val (.int p4), .val (.int p5), .val (.int fr), .val (.int n), .val (.ref b13), .val (.int ((p4 >>> ((2 : Int32) &&& 31)) &&& (3 : Int32))), .val (.int tot), .val (.int ((p4 >>> ((4 : Int32) &&& 31)) &&& (3 : Int32))), .val (.int pl), .val (.int la), .val (.ref b14), .val (.int (1 : Int32)), .unset, .unset] [])) (f' := (mkF m 211 #[.val (.long q0), .second, .val (.int p1), .val (.int p2), .val (.int p3), .val (.int p4), .val (.int p5), .val (.int fr), .val (.int n), .val (.ref b13), .val (.int ((p4 >>> ((2 : Int32) &&& 31)) &&& (3 : Int32))), .val (.int tot), .val (.int ((p4 >>> ((4 : Int32) &&& 31)) &&& (3 : Int32))), .val (.int pl), .val (.int la), .val (.ref b14), .val (.int (1 : Int32)), .val (.int (0 : Int32)), .unset] [(.int (1 : Int32))])) (fun t k => ?_) ?_
        · show Steps p.tables e below (T15.setTop (mkF m 206 #[.val (.long q0), .second, .val (.int p1), .val (.int p2), .val (.int p3), .val (.int p4), .val (.int p5), .val (.int fr), .val (.int n), .val (.ref b13), .val (.int ((p4 >>> ((2 : Int32) &&& 31)) &&& (3 : Int32))), .val (.int tot), .val (.int ((p4 >>> ((4 : Int32) &&& 31)) &&& (3 : Int32))), .val (.int pl), .val (.int la), .val (.ref b14), .val (.int (1 : Int32)), .unset, .unset] [])) _
          refine XS.iconst X15.here hx rfl (hb hby at_206) ?_
          show Steps p.tables e below (T15.setTop (mkF m 207 #[.val (.long q0), .second, .val (.int p1), .val (.int p2), .val (.int p3), .val (.int p4), .val (.int p5), .val (.int fr), .val (.int n), .val (.ref b13), .val (.int ((p4 >>> ((2 : Int32) &&& 31)) &&& (3 : Int32))), .val (.int tot), .val (.int ((p4 >>> ((4 : Int32) &&& 31)) &&& (3 : Int32))), .val (.int pl), .val (.int la), .val (.ref b14), .val (.int (1 : Int32)), .unset, .unset] [(.int (0 : Int32))])) _
          refine XS.istore X15.here hx rfl (hb hby at_207) rfl (l' := #[.val (.long q0), .second, .val (.int p1), .val (.int p2), .val (.int p3), .val (.int p4), .val (.int p5), .val (.int fr), .val (.int n), .val (.ref b13), .val (.int ((p4 >>> ((2 : Int32) &&& 31)) &&& (3 : Int32))), .val (.int tot), .val (.int ((p4 >>> ((4 : Int32) &&& 31)) &&& (3 : Int32))), .val (.int pl), .val (.int la), .val (.ref b14), .val (.int (1 : Int32)), .val (.int (0 : Int32)), .unset]) rfl ?_
          show Steps p.tables e below (T15.setTop (mkF m 209 #[.val (.long q0), .second, .val (.int p1), .val (.int p2), .val (.int p3), .val (.int p4), .val (.int p5), .val (.int fr), .val (.int n), .val (.ref b13), .val (.int ((p4 >>> ((2 : Int32) &&& 31)) &&& (3 : Int32))), .val (.int tot), .val (.int ((p4 >>> ((4 : Int32) &&& 31)) &&& (3 : Int32))), .val (.int pl), .val (.int la), .val (.ref b14), .val (.int (1 : Int32)), .val (.int (0 : Int32)), .unset] [])) _
          refine XS.iload X15.here hx rfl (hb hby at_209) rfl ?_
          exact k
        refine own_go (T := T15) (T' := T15) (f := (mkF m 211 #[.val (.long q0), .second, .val (.int p1), .val (.int p2), .val (.int p3), .val (.int p4), .val (.int p5), .val (.int fr), .val (.int n), .val (.ref b13), .val (.int ((p4 >>> ((2 : Int32) &&& 31)) &&& (3 : Int32))), .val (.int tot), .val (.int ((p4 >>> ((4 : Int32) &&& 31)) &&& (3 : Int32))), .val (.int pl), .val (.int la), .val (.ref b14), .val (.int (1 : Int32)), .val (.int (0 : Int32)), .unset] [(.int (1 : Int32))])) (f' := (mkF m 214 #[.val (.long q0), .second, .val (.int p1), .val (.int p2), .val (.int p3), .val (.int p4), .val (.int p5), .val (.int fr), .val (.int n), .val (.ref b13), .val (.int ((p4 >>> ((2 : Int32) &&& 31)) &&& (3 : Int32))), .val (.int tot), .val (.int ((p4 >>> ((4 : Int32) &&& 31)) &&& (3 : Int32))), .val (.int pl), .val (.int la), .val (.ref b14), .val (.int (1 : Int32)), .val (.int (0 : Int32)), .unset] [])) (fun t k => ?_) ?_
        · show Steps p.tables e below (T15.setTop (mkF m 211 #[.val (.long q0), .second, .val (.int p1), .val (.int p2), .val (.int p3), .val (.int p4), .val (.int p5), .val (.int fr), .val (.int n), .val (.ref b13), .val (.int ((p4 >>> ((2 : Int32) &&& 31)) &&& (3 : Int32))), .val (.int tot), .val (.int ((p4 >>> ((4 : Int32) &&& 31)) &&& (3 : Int32))), .val (.int pl), .val (.int la), .val (.ref b14), .val (.int (1 : Int32)), .val (.int (0 : Int32)), .unset] [(.int (1 : Int32))])) _
          refine XS.ifNo X15.here hx rfl (hb hby at_211) rfl ((if0 _ _).trans (feq (by decide)).1) ?_
          exact k
        refine own_go (T := T15) (T' := T15) (f := (mkF m 214 #[.val (.long q0), .second, .val (.int p1), .val (.int p2), .val (.int p3), .val (.int p4), .val (.int p5), .val (.int fr), .val (.int n), .val (.ref b13), .val (.int ((p4 >>> ((2 : Int32) &&& 31)) &&& (3 : Int32))), .val (.int tot), .val (.int ((p4 >>> ((4 : Int32) &&& 31)) &&& (3 : Int32))), .val (.int pl), .val (.int la), .val (.ref b14), .val (.int (1 : Int32)), .val (.int (0 : Int32)), .unset] [])) (f' := (mkF m 216 #[.val (.long q0), .second, .val (.int p1), .val (.int p2), .val (.int p3), .val (.int p4), .val (.int p5), .val (.int fr), .val (.int n), .val (.ref b13), .val (.int ((p4 >>> ((2 : Int32) &&& 31)) &&& (3 : Int32))), .val (.int tot), .val (.int ((p4 >>> ((4 : Int32) &&& 31)) &&& (3 : Int32))), .val (.int pl), .val (.int la), .val (.ref b14), .val (.int (1 : Int32)), .val (.int (0 : Int32)), .unset] [(.int (0 : Int32))])) (fun t k => ?_) ?_
        · show Steps p.tables e below (T15.setTop (mkF m 214 #[.val (.long q0), .second, .val (.int p1), .val (.int p2), .val (.int p3), .val (.int p4), .val (.int p5), .val (.int fr), .val (.int n), .val (.ref b13), .val (.int ((p4 >>> ((2 : Int32) &&& 31)) &&& (3 : Int32))), .val (.int tot), .val (.int ((p4 >>> ((4 : Int32) &&& 31)) &&& (3 : Int32))), .val (.int pl), .val (.int la), .val (.ref b14), .val (.int (1 : Int32)), .val (.int (0 : Int32)), .unset] [])) _
          refine XS.iload X15.here hx rfl (hb hby at_214) rfl ?_
          exact k
        refine own_go (T := T15) (T' := T15) (f := (mkF m 216 #[.val (.long q0), .second, .val (.int p1), .val (.int p2), .val (.int p3), .val (.int p4), .val (.int p5), .val (.int fr), .val (.int n), .val (.ref b13), .val (.int ((p4 >>> ((2 : Int32) &&& 31)) &&& (3 : Int32))), .val (.int tot), .val (.int ((p4 >>> ((4 : Int32) &&& 31)) &&& (3 : Int32))), .val (.int pl), .val (.int la), .val (.ref b14), .val (.int (1 : Int32)), .val (.int (0 : Int32)), .unset] [(.int (0 : Int32))])) (f' := (mkF m 223 #[.val (.long q0), .second, .val (.int p1), .val (.int p2), .val (.int p3), .val (.int p4), .val (.int p5), .val (.int fr), .val (.int n), .val (.ref b13), .val (.int ((p4 >>> ((2 : Int32) &&& 31)) &&& (3 : Int32))), .val (.int tot), .val (.int ((p4 >>> ((4 : Int32) &&& 31)) &&& (3 : Int32))), .val (.int pl), .val (.int la), .val (.ref b14), .val (.int (1 : Int32)), .val (.int (0 : Int32)), .unset] [])) (fun t k => ?_) ?_
        · show Steps p.tables e below (T15.setTop (mkF m 216 #[.val (.long q0), .second, .val (.int p1), .val (.int p2), .val (.int p3), .val (.int p4), .val (.int p5), .val (.int fr), .val (.int n), .val (.ref b13), .val (.int ((p4 >>> ((2 : Int32) &&& 31)) &&& (3 : Int32))), .val (.int tot), .val (.int ((p4 >>> ((4 : Int32) &&& 31)) &&& (3 : Int32))), .val (.int pl), .val (.int la), .val (.ref b14), .val (.int (1 : Int32)), .val (.int (0 : Int32)), .unset] [(.int (0 : Int32))])) _
          refine XS.ifYes X15.here hx rfl (pc0 := 216) (pc' := 223) rfl (hb hby at_216) rfl ((if0 _ _).trans (teq (by decide)).1) (by decide) (by decide) ?_
          exact k
        refine own_go (T := T15) (T' := T15) (f := (mkF m 223 #[.val (.long q0), .second, .val (.int p1), .val (.int p2), .val (.int p3), .val (.int p4), .val (.int p5), .val (.int fr), .val (.int n), .val (.ref b13), .val (.int ((p4 >>> ((2 : Int32) &&& 31)) &&& (3 : Int32))), .val (.int tot), .val (.int ((p4 >>> ((4 : Int32) &&& 31)) &&& (3 : Int32))), .val (.int pl), .val (.int la), .val (.ref b14), .val (.int (1 : Int32)), .val (.int (0 : Int32)), .unset] [])) (f' := (mkF m 224 #[.val (.long q0), .second, .val (.int p1), .val (.int p2), .val (.int p3), .val (.int p4), .val (.int p5), .val (.int fr), .val (.int n), .val (.ref b13), .val (.int ((p4 >>> ((2 : Int32) &&& 31)) &&& (3 : Int32))), .val (.int tot), .val (.int ((p4 >>> ((4 : Int32) &&& 31)) &&& (3 : Int32))), .val (.int pl), .val (.int la), .val (.ref b14), .val (.int (1 : Int32)), .val (.int (0 : Int32)), .unset] [(.int (0 : Int32))])) (fun t k => ?_) ?_
        · show Steps p.tables e below (T15.setTop (mkF m 223 #[.val (.long q0), .second, .val (.int p1), .val (.int p2), .val (.int p3), .val (.int p4), .val (.int p5), .val (.int fr), .val (.int n), .val (.ref b13), .val (.int ((p4 >>> ((2 : Int32) &&& 31)) &&& (3 : Int32))), .val (.int tot), .val (.int ((p4 >>> ((4 : Int32) &&& 31)) &&& (3 : Int32))), .val (.int pl), .val (.int la), .val (.ref b14), .val (.int (1 : Int32)), .val (.int (0 : Int32)), .unset] [])) _
          refine XS.iconst X15.here hx rfl (hb hby at_223) ?_
          exact k
        exact J224 _ _ _ (by simp only [own_ex, hc178, hc199, if_true, if_false])
  intro ra rb r hr
  refine own_go (T := T15) (T' := T15) (f := (mkF m 224 #[.val (.long q0), .second, .val (.int p1), .val (.int p2), .val (.int p3), .val (.int p4), .val (.int p5), .val (.int fr), .val (.int n), .val (.ref b13), .val (.int ((p4 >>> ((2 : Int32) &&& 31)) &&& (3 : Int32))), .val (.int tot), .val (.int ((p4 >>> ((4 : Int32) &&& 31)) &&& (3 : Int32))), .val (.int pl), .val (.int la), .val (.ref b14), .val (.int ra), .val (.int rb), .unset] [(.int r)])) (f' := (mkF m 230 #[.val (.long q0), .second, .val (.int p1), .val (.int p2), .val (.int p3), .val (.int p4), .val (.int p5), .val (.int fr), .val (.int n), .val (.ref b13), .val (.int ((p4 >>> ((2 : Int32) &&& 31)) &&& (3 : Int32))), .val (.int tot), .val (.int ((p4 >>> ((4 : Int32) &&& 31)) &&& (3 : Int32))), .val (.int pl), .val (.int la), .val (.ref b14), .val (.int ra), .val (.int rb), .val (.int r)] [(.int pl), (.ref b14)])) (fun t k => ?_) ?_
  · show Steps p.tables e below (T15.setTop (mkF m 224 #[.val (.long q0), .second, .val (.int p1), .val (.int p2), .val (.int p3), .val (.int p4), .val (.int p5), .val (.int fr), .val (.int n), .val (.ref b13), .val (.int ((p4 >>> ((2 : Int32) &&& 31)) &&& (3 : Int32))), .val (.int tot), .val (.int ((p4 >>> ((4 : Int32) &&& 31)) &&& (3 : Int32))), .val (.int pl), .val (.int la), .val (.ref b14), .val (.int ra), .val (.int rb), .unset] [(.int r)])) _
    refine XS.istore X15.here hx rfl (hb hby at_224) rfl (l' := #[.val (.long q0), .second, .val (.int p1), .val (.int p2), .val (.int p3), .val (.int p4), .val (.int p5), .val (.int fr), .val (.int n), .val (.ref b13), .val (.int ((p4 >>> ((2 : Int32) &&& 31)) &&& (3 : Int32))), .val (.int tot), .val (.int ((p4 >>> ((4 : Int32) &&& 31)) &&& (3 : Int32))), .val (.int pl), .val (.int la), .val (.ref b14), .val (.int ra), .val (.int rb), .val (.int r)]) rfl ?_
    show Steps p.tables e below (T15.setTop (mkF m 226 #[.val (.long q0), .second, .val (.int p1), .val (.int p2), .val (.int p3), .val (.int p4), .val (.int p5), .val (.int fr), .val (.int n), .val (.ref b13), .val (.int ((p4 >>> ((2 : Int32) &&& 31)) &&& (3 : Int32))), .val (.int tot), .val (.int ((p4 >>> ((4 : Int32) &&& 31)) &&& (3 : Int32))), .val (.int pl), .val (.int la), .val (.ref b14), .val (.int ra), .val (.int rb), .val (.int r)] [])) _
    refine XS.aload X15.here hx rfl (hb hby at_226) rfl rfl ?_
    show Steps p.tables e below (T15.setTop (mkF m 228 #[.val (.long q0), .second, .val (.int p1), .val (.int p2), .val (.int p3), .val (.int p4), .val (.int p5), .val (.int fr), .val (.int n), .val (.ref b13), .val (.int ((p4 >>> ((2 : Int32) &&& 31)) &&& (3 : Int32))), .val (.int tot), .val (.int ((p4 >>> ((4 : Int32) &&& 31)) &&& (3 : Int32))), .val (.int pl), .val (.int la), .val (.ref b14), .val (.int ra), .val (.int rb), .val (.int r)] [(.ref b14)])) _
    refine XS.iload X15.here hx rfl (hb hby at_228) rfl ?_
    exact k
  obtain ⟨cq16, kq16, q16a, q16b, q16c⟩ := isOf hZ rfl Ex15
  obtain ⟨_, _, ⟨T16, L16, k16, n16⟩, -, X16, ⟨Lc16, hQ16, l16, y16, z16⟩, st16⟩ := X15.virtualBack hx (y := (⟨"com/example/auscult/auscult/store/SearchMatches", "holdsFrom", "(I)Z"⟩ : MethodName)) (z := (⟨"com/example/auscult/auscult/store/SearchMatches", "holdsFrom", "(I)Z"⟩ : MethodName)) hown (mvT hZ (hw _ (List.mem_of_getElem? (i := 24) rfl))) (mvT hZ (hw _ (List.mem_of_getElem? (i := 25) rfl))) (notFace_of_selects (args := #[]) (mvT hZ (hw _ (List.mem_of_getElem? (i := 27) rfl)))) (mvT hZ (hw _ (List.mem_of_getElem? (i := 27) rfl))) (mvT hZ (hw _ (List.mem_of_getElem? (i := 26) rfl))) (by decide) (backOf (W := 0) (rm3 l Z a0 hw [] b14 pl fr tot n b13 k13 T15.heap n0 z2 Ff15 Ft15 Fv15 V1) hZ (hw _ (List.mem_of_getElem? (i := 28) rfl)) (hw _ (List.mem_of_getElem? (i := 5) rfl)) (by decide) (by decide)) q16a q16c (g := (mkF m 230 #[.val (.long q0), .second, .val (.int p1), .val (.int p2), .val (.int p3), .val (.int p4), .val (.int p5), .val (.int fr), .val (.int n), .val (.ref b13), .val (.int ((p4 >>> ((2 : Int32) &&& 31)) &&& (3 : Int32))), .val (.int tot), .val (.int ((p4 >>> ((4 : Int32) &&& 31)) &&& (3 : Int32))), .val (.int pl), .val (.int la), .val (.ref b14), .val (.int ra), .val (.int rb), .val (.int r)] [(.int pl), (.ref b14)])) rfl (by rw [hml]; rfl) (Steps.refl _) (argsL := [(.int pl)]) (rest := []) (lenOf pd__28I_29Z rfl) rfl (by show 2 * 0 + _ ≤ _; exact Nat.le_of_eq rfl) (hb hby at_230) (fun _ _ => ⟨rfl, rfl, (by decide : 2 + 0 ≤ _), (by decide : 9 + 0 ≤ _)⟩)
  dsimp only [Pt.U, Pt.locs, Pt.cells, Pt.slots] at X16 l16 y16 z16 st16 hQ16
  subst l16 y16 z16
  obtain ⟨rfl, N16q, e16⟩ := hQ16
  have N16 := Fr.app N15 N16q
  refine own_go2 st16 ?_
  show Rch p e below _ T16 (mkF m 233 #[.val (.long q0), .second, .val (.int p1), .val (.int p2), .val (.int p3), .val (.int p4), .val (.int p5), .val (.int fr), .val (.int n), .val (.ref b13), .val (.int ((p4 >>> ((2 : Int32) &&& 31)) &&& (3 : Int32))), .val (.int tot), .val (.int ((p4 >>> ((4 : Int32) &&& 31)) &&& (3 : Int32))), .val (.int pl), .val (.int la), .val (.ref b14), .val (.int ra), .val (.int rb), .val (.int r)] [(.int (own_hf fr tot n pl))])
  refine own_go (T := T16) (T' := T16) (f := (mkF m 233 #[.val (.long q0), .second, .val (.int p1), .val (.int p2), .val (.int p3), .val (.int p4), .val (.int p5), .val (.int fr), .val (.int n), .val (.ref b13), .val (.int ((p4 >>> ((2 : Int32) &&& 31)) &&& (3 : Int32))), .val (.int tot), .val (.int ((p4 >>> ((4 : Int32) &&& 31)) &&& (3 : Int32))), .val (.int pl), .val (.int la), .val (.ref b14), .val (.int ra), .val (.int rb), .val (.int r)] [(.int (own_hf fr tot n pl))])) (f' := (mkF m 235 #[.val (.long q0), .second, .val (.int p1), .val (.int p2), .val (.int p3), .val (.int p4), .val (.int p5), .val (.int fr), .val (.int n), .val (.ref b13), .val (.int ((p4 >>> ((2 : Int32) &&& 31)) &&& (3 : Int32))), .val (.int tot), .val (.int ((p4 >>> ((4 : Int32) &&& 31)) &&& (3 : Int32))), .val (.int pl), .val (.int la), .val (.ref b14), .val (.int ra), .val (.int rb), .val (.int r)] [(.int r), (.int (own_hf fr tot n pl))])) (fun t k => ?_) ?_
  · show Steps p.tables e below (T16.setTop (mkF m 233 #[.val (.long q0), .second, .val (.int p1), .val (.int p2), .val (.int p3), .val (.int p4), .val (.int p5), .val (.int fr), .val (.int n), .val (.ref b13), .val (.int ((p4 >>> ((2 : Int32) &&& 31)) &&& (3 : Int32))), .val (.int tot), .val (.int ((p4 >>> ((4 : Int32) &&& 31)) &&& (3 : Int32))), .val (.int pl), .val (.int la), .val (.ref b14), .val (.int ra), .val (.int rb), .val (.int r)] [(.int (own_hf fr tot n pl))])) _
    refine XS.iload X16.here hx rfl (hb hby at_233) rfl ?_
    exact k
  refine own_go (T := T16) (T' := T16) (f := (mkF m 235 #[.val (.long q0), .second, .val (.int p1), .val (.int p2), .val (.int p3), .val (.int p4), .val (.int p5), .val (.int fr), .val (.int n), .val (.ref b13), .val (.int ((p4 >>> ((2 : Int32) &&& 31)) &&& (3 : Int32))), .val (.int tot), .val (.int ((p4 >>> ((4 : Int32) &&& 31)) &&& (3 : Int32))), .val (.int pl), .val (.int la), .val (.ref b14), .val (.int ra), .val (.int rb), .val (.int r)] [(.int r), (.int (own_hf fr tot n pl))])) (f' := (mkF m 238 #[.val (.long q0), .second, .val (.int p1), .val (.int p2), .val (.int p3), .val (.int p4), .val (.int p5), .val (.int fr), .val (.int n), .val (.ref b13), .val (.int ((p4 >>> ((2 : Int32) &&& 31)) &&& (3 : Int32))), .val (.int tot), .val (.int ((p4 >>> ((4 : Int32) &&& 31)) &&& (3 : Int32))), .val (.int pl), .val (.int la), .val (.ref b14), .val (.int ra), .val (.int rb), .val (.int r)] [])) (fun t k => ?_) ?_
  · show Steps p.tables e below (T16.setTop (mkF m 235 #[.val (.long q0), .second, .val (.int p1), .val (.int p2), .val (.int p3), .val (.int p4), .val (.int p5), .val (.int fr), .val (.int n), .val (.ref b13), .val (.int ((p4 >>> ((2 : Int32) &&& 31)) &&& (3 : Int32))), .val (.int tot), .val (.int ((p4 >>> ((4 : Int32) &&& 31)) &&& (3 : Int32))), .val (.int pl), .val (.int la), .val (.ref b14), .val (.int ra), .val (.int rb), .val (.int r)] [(.int r), (.int (own_hf fr tot n pl))])) _
    refine XS.icmpNo X16.here hx rfl (hb hby at_235) rfl (teq ((own_law fr tot n pl hf0 hf1 hn0 hn3).trans hr)).2 ?_
    exact k
  refine own_go (T := T16) (T' := T16) (f := (mkF m 238 #[.val (.long q0), .second, .val (.int p1), .val (.int p2), .val (.int p3), .val (.int p4), .val (.int p5), .val (.int fr), .val (.int n), .val (.ref b13), .val (.int ((p4 >>> ((2 : Int32) &&& 31)) &&& (3 : Int32))), .val (.int tot), .val (.int ((p4 >>> ((4 : Int32) &&& 31)) &&& (3 : Int32))), .val (.int pl), .val (.int la), .val (.ref b14), .val (.int ra), .val (.int rb), .val (.int r)] [])) (f' := (mkF m 243 #[.val (.long q0), .second, .val (.int p1), .val (.int p2), .val (.int p3), .val (.int p4), .val (.int p5), .val (.int fr), .val (.int n), .val (.ref b13), .val (.int ((p4 >>> ((2 : Int32) &&& 31)) &&& (3 : Int32))), .val (.int tot), .val (.int ((p4 >>> ((4 : Int32) &&& 31)) &&& (3 : Int32))), .val (.int pl), .val (.int la), .val (.ref b14), .val (.int ra), .val (.int rb), .val (.int r)] [(.int (1 : Int32))])) (fun t k => ?_) ?_
  · show Steps p.tables e below (T16.setTop (mkF m 238 #[.val (.long q0), .second, .val (.int p1), .val (.int p2), .val (.int p3), .val (.int p4), .val (.int p5), .val (.int fr), .val (.int n), .val (.ref b13), .val (.int ((p4 >>> ((2 : Int32) &&& 31)) &&& (3 : Int32))), .val (.int tot), .val (.int ((p4 >>> ((4 : Int32) &&& 31)) &&& (3 : Int32))), .val (.int pl), .val (.int la), .val (.ref b14), .val (.int ra), .val (.int rb), .val (.int r)] [])) _
    refine XS.iconst X16.here hx rfl (hb hby at_238) ?_
    show Steps p.tables e below (T16.setTop (mkF m 239 #[.val (.long q0), .second, .val (.int p1), .val (.int p2), .val (.int p3), .val (.int p4), .val (.int p5), .val (.int fr), .val (.int n), .val (.ref b13), .val (.int ((p4 >>> ((2 : Int32) &&& 31)) &&& (3 : Int32))), .val (.int tot), .val (.int ((p4 >>> ((4 : Int32) &&& 31)) &&& (3 : Int32))), .val (.int pl), .val (.int la), .val (.ref b14), .val (.int ra), .val (.int rb), .val (.int r)] [(.int (1 : Int32))])) _
    refine XS.goto X16.here hx rfl (pc0 := 239) (pc' := 243) rfl (hb hby at_239) (by decide) (by decide) ?_
    exact k
  exact own_retN X16 hx hlk (t := .boolean) (w := (1 : Int32)) hret (by simp) (hb hby at_243) rfl (by decide) (by decide) (by rw [e16]; exact ⟨rfl, N16⟩)
set_option maxRecDepth 65536 in
set_option maxHeartbeats 40000000 in
theorem comes_1 {Post : Tables → Env → Array Value → State → Outcome → State → Prop} (hpost : ∀ tb e args s v u, (limb_1_1.after args s (.returned v) u = true ∧ limb_1_2.after args s (.returned v) u = true ∧ True) → FrameEnd s (.returned v) u (Jvm.fieldLocs frame_1_writes args s ++ Jvm.arrayLocs frame_1_arrays args s ++ Jvm.staticLocs frame_1_statics s) 16 128 → Post tb e args s (.returned v) u) :
    ArmFor flags0 classFile x code maxLocals ret World_1 tables_1 room_1 Calls_1 rest_1 Pre_1 Post := by
  intro l hfl _ _ p e ha hc hk s m args below hf hA hF happ hP
  obtain ⟨hcalls, hrest, hpre⟩ := hP
  obtain ⟨-, -, -, hnamed, -, -, -, hat⟩ := (Spec.applies_iff hf).mp happ
  obtain ⟨hg, hn⟩ := and_e (Cond.before_iff.mp (show (Jvm.Cond.and given_1 narrow_1).before args s = true from hpre))
  obtain ⟨gc, ga0⟩ := and_e hg
  obtain ⟨gv0, ga1⟩ := and_e ga0
  obtain ⟨gv1, ga2⟩ := and_e ga1
  obtain ⟨gv2, ga3⟩ := and_e ga2
  obtain ⟨gv3, ga4⟩ := and_e ga3
  obtain ⟨gv4, ga5⟩ := and_e ga4
  obtain ⟨w0, w1, w2, w3, w4, w5, rfl⟩ : ∃ w0 w1 w2 w3 w4 w5, args = #[w0, w1, w2, w3, w4, w5] := by
    have hs : args.size = 6 := by simpa [Cond.value, given_1] using gc
    obtain ⟨L⟩ := args
    match L, hs with
    | [w0, w1, w2, w3, w4, w5], _ => exact ⟨w0, w1, w2, w3, w4, w5, rfl⟩
  have hw := fun d (hd : d ∈ tables_1) => atoms_spec (ws := Jvm.Cond.code x code maxLocals ret :: tables_1) hat d (List.mem_cons_of_mem _ hd)
  have hfit : Fit s := fun {y c} hc i hi => by
    obtain ⟨ha, rfl⟩ := Array.getElem?_eq_some_iff.mp hc
    have q := List.all_eq_true.mp ((Array.all_eq_true_iff_forall_mem.mp hF) _ (Array.getElem_mem ha)) i (List.mem_range.mpr hi)
    simpa [Array.getElem?_eq_getElem hi] using q
  obtain ⟨i0, e0⟩ := isL_v gv0
  obtain rfl : w0 = (.long i0) := Option.some.inj e0
  obtain ⟨i1, e1⟩ := is_v gv1
  obtain rfl : w1 = (.int i1) := Option.some.inj e1
  obtain ⟨i2, e2⟩ := is_v gv2
  obtain rfl : w2 = (.int i2) := Option.some.inj e2
  obtain ⟨i3, e3⟩ := is_v gv3
  obtain rfl : w3 = (.int i3) := Option.some.inj e3
  obtain ⟨i4, e4⟩ := is_v gv4
  obtain rfl : w4 = (.int i4) := Option.some.inj e4
  obtain ⟨i5, e5⟩ := is_v ga5
  obtain rfl : w5 = (.int i5) := Option.some.inj e5
  obtain ⟨n, o, h1, h2, h3, _, L, rfl, ⟨rfl, N⟩, hq⟩ := rm0 l s _ hw tables_1 i0 i1 i2 i3 i4 i5  s.heap s.heap.size (Nat.le_refl _)  p e ha hc hk s m _ below hf ((Spec.applies_iff_loose hf).mp happ).1 ⟨rfl, State.Warmed39.refl s, rfl⟩ trivial
  refine ⟨n, _, h1, h2, h3, hpost _ _ _ _ _ _ ⟨Cond.after_iff.mpr rfl, Cond.after_iff.mpr (eq_i res_at (Term.int_eval (1)) rfl), trivial⟩ ⟨hq.1, hq.2.1, (hq.2.2.sift fun y hy => Or.inr (N y hy)).mono (by decide) (by decide)⟩⟩
theorem main_1_1 : Claimed_1_1 := comes_1 fun _ _ _ _ _ _ h hF => ⟨h.1, hF⟩
theorem main_1_2 : Claimed_1_2 := comes_1 fun _ _ _ _ _ _ h hF => ⟨h.2.1, hF⟩
end Jvm.Pilot.@@N@@
namespace Jvm.Pilot.@@N@@
open Jvm Jvm.ClassFile Sem Op Lib Jvm.Free Jvm.Stand Jvm.Pilot.@@N@@.Jvm.D
/-! MADE BY PROGRAM (witnessworld.py) out of the Statement's table words and the real class files: 11 classes; the members and pool entries that the words name. The judged class is class 1, her method 1. -/
namespace start1
open Jvm.ClassFile
def u (s : String) : CpInfo := .utf8 (stringToUtf16 s)
/-- a pool by its gaps: so many unusable entries, then the entry; so many at the end -/
def gap : Nat → List CpInfo → List CpInfo
  | 0, r => r
  | n + 1, r => .unusable :: gap n r
def poolList (es : List (Nat × CpInfo)) (last : Nat) : List CpInfo := es.foldr (fun e r => gap e.1 (e.2 :: r)) (gap last [])
def pool (es : List (Nat × CpInfo)) (last : Nat) : Array CpInfo := ⟨poolList es last⟩
def fileOf (pool : Array CpInfo) (this : Nat) (attrs : Array Attribute := #[]) (ms : Array MethodInfo := #[]) (fl : Nat := 33) (sup : Nat := 0) (ifs : Array Nat := #[]) (fds : Array FieldInfo := #[]) : ClassFile where
  minorVersion := 0
  majorVersion := 65
  constantPool := pool
  accessFlags := fl
  thisClass := this
  superClass := sup
  interfaces := ifs
  fields := fds
  methods := ms
  attributes := attrs
def plain (name : String) (sup : Option ClassId) : Class where
  name := name
  kind := .ordinary
  loader := none
  accessFlags := 33
  super := sup
  interfaces := #[]
  cf := none
  fields := #[]
  methods := #[]
  instanceTypes := #[]
  staticTypes := #[]
  resolved := #[]
  callSites := []
  init := .initialized
  statics := none
  mirror := none

def pool0 : Array CpInfo := pool [(5, u "<init>"), (0, u "()V"), (1, .class_ 10), (1, u "java/lang/Object")] 113

def k0c0 : Code := { maxStack := 0, maxLocals := 1, code := object_method_1_code, exceptionTable := #[], attributes := #[] }
def k0m0 : Method := { name := "<init>", desc := "()V", sig := { parameters := [], returnType := none }, accessFlags := 1, code := some k0c0 }
/-- java/lang/Object -/
def k0 : Class := { plain "java/lang/Object" none with
  accessFlags := 33
  interfaces := #[]
  cf := some (fileOf pool0 8 #[] #[{ accessFlags := 1, nameIndex := 5, descriptorIndex := 6, attributes := #[] }] 33 0 #[] #[])
  fields := #[]
  methods := #[k0m0]
  instanceTypes := #[]
  staticTypes := #[]
  resolved := Array.replicate 124 none
  statics := none }

def pool1 : Array CpInfo := pool [(2, .class_ 4), (1, u "java/lang/Object"), (0, u "<init>"), (0, u "()V"), (0, .integer 2147483647), (2, .integer 2147483644), (0, .class_ 12), (0, u "com/example/auscult/auscult/store/SearchMatches"), (0, .methodref 11 14), (0, .nameAndType 5 15), (0, u "(JIII[JZ)V"), (0, .methodref 11 17), (0, .nameAndType 18 19), (0, u "holdsFrom"), (0, u "(I)Z"), (0, .class_ 21), (0, u "com/example/auscult/auscult/store/SearchMatchesHoldsFromPinLaw"), (2, u "law"), (0, u "(JIIIII)Z")] 5

def k1m0 : Method := { name := "<init>", desc := "()V", sig := { parameters := [], returnType := none }, accessFlags := 1, code := none }
def k1c1 : Code := { maxStack := 9, maxLocals := 19, code := code, exceptionTable := #[], attributes := #[] }
def k1m1 : Method := { name := "law", desc := "(JIIIII)Z", sig := { parameters := [.long, .int, .int, .int, .int, .int], returnType := some .boolean }, accessFlags := 9, code := some k1c1 }
/-- com/example/auscult/auscult/store/SearchMatchesHoldsFromPinLaw -/
def k1 : Class := { plain "com/example/auscult/auscult/store/SearchMatchesHoldsFromPinLaw" (some 0) with
  accessFlags := 49
  interfaces := #[]
  cf := some (fileOf pool1 20 #[] #[{ accessFlags := 1, nameIndex := 5, descriptorIndex := 6, attributes := #[] }, { accessFlags := 9, nameIndex := 24, descriptorIndex := 25, attributes := #[] }] 49 2 #[] #[])
  fields := #[]
  methods := #[k1m0, k1m1]
  instanceTypes := #[]
  staticTypes := #[]
  resolved := Array.replicate 31 none
  statics := none }

def pool2 : Array CpInfo := pool [(2, .class_ 4), (1, u "com/example/auscult/auscult/store/SearchMatches"), (0, u "<init>"), (0, u "(JIII[JZ)V"), (0, .methodref 8 9), (0, .class_ 10), (0, .nameAndType 5 11), (0, u "java/lang/Object"), (0, u "()V"), (0, .fieldref 2 13), (0, .nameAndType 14 15), (0, u "point"), (0, u "J"), (0, .fieldref 2 17), (0, .nameAndType 18 19), (0, u "total"), (0, u "I"), (0, .fieldref 2 21), (0, .nameAndType 22 19), (0, u "matched"), (0, .fieldref 2 24), (0, .nameAndType 25 19), (0, u "from"), (0, .fieldref 2 27), (0, .nameAndType 28 29), (0, u "versions"), (0, u "[J"), (0, .fieldref 2 31), (0, .nameAndType 32 33), (0, u "lasting"), (0, u "Z"), (31, u "OVERHEAD"), (6, u "holdsFrom"), (0, u "(I)Z")] 21

def k2c0 : Code := { maxStack := 3, maxLocals := 8, code := prog_29_method_2_code, exceptionTable := #[], attributes := #[] }
def k2m0 : Method := { name := "<init>", desc := "(JIII[JZ)V", sig := { parameters := [.long, .int, .int, .int, (.array .long), .boolean], returnType := none }, accessFlags := 0, code := some k2c0 }
def k2c1 : Code := { maxStack := 2, maxLocals := 2, code := prog_29_method_8_code, exceptionTable := #[], attributes := #[] }
def k2m1 : Method := { name := "holdsFrom", desc := "(I)Z", sig := { parameters := [.int], returnType := some .boolean }, accessFlags := 1, code := some k2c1 }
/-- com/example/auscult/auscult/store/SearchMatches -/
def k2 : Class := { plain "com/example/auscult/auscult/store/SearchMatches" (some 0) with
  accessFlags := 49
  interfaces := #[]
  cf := some (fileOf pool2 2 #[] #[{ accessFlags := 0, nameIndex := 5, descriptorIndex := 6, attributes := #[] }, { accessFlags := 1, nameIndex := 72, descriptorIndex := 73, attributes := #[] }] 49 8 #[] #[{ accessFlags := 26, nameIndex := 65, descriptorIndex := 15, attributes := #[] }, { accessFlags := 18, nameIndex := 14, descriptorIndex := 15, attributes := #[] }, { accessFlags := 18, nameIndex := 18, descriptorIndex := 19, attributes := #[] }, { accessFlags := 18, nameIndex := 22, descriptorIndex := 19, attributes := #[] }, { accessFlags := 18, nameIndex := 25, descriptorIndex := 19, attributes := #[] }, { accessFlags := 18, nameIndex := 28, descriptorIndex := 29, attributes := #[] }, { accessFlags := 18, nameIndex := 32, descriptorIndex := 33, attributes := #[] }])
  fields := #[{ name := "OVERHEAD", type := .long, accessFlags := 26, slot := 0, constantValue := 0 }, { name := "point", type := .long, accessFlags := 18, slot := 0, constantValue := 0 }, { name := "total", type := .int, accessFlags := 18, slot := 1, constantValue := 0 }, { name := "matched", type := .int, accessFlags := 18, slot := 2, constantValue := 0 }, { name := "from", type := .int, accessFlags := 18, slot := 3, constantValue := 0 }, { name := "versions", type := (.array .long), accessFlags := 18, slot := 4, constantValue := 0 }, { name := "lasting", type := .boolean, accessFlags := 18, slot := 5, constantValue := 0 }]
  methods := #[k2m0, k2m1]
  instanceTypes := #[.long, .int, .int, .int, (.array .long), .boolean]
  staticTypes := #[.long]
  resolved := Array.replicate 95 none
  statics := none }

def pool3 : Array CpInfo := pool [(1, u "java/lang/Cloneable"), (0, .class_ 1), (0, u "java/lang/Object"), (0, .class_ 3)] 3

/-- java/lang/Cloneable -/
def k3 : Class := { plain "java/lang/Cloneable" (some 0) with
  accessFlags := 1537
  interfaces := #[]
  cf := some (fileOf pool3 2 #[] #[] 1537 4 #[] #[])
  fields := #[]
  methods := #[]
  instanceTypes := #[]
  staticTypes := #[]
  resolved := Array.replicate 8 none
  statics := none }

def pool4 : Array CpInfo := pool [(1, u "java/io/Serializable"), (0, .class_ 1), (0, u "java/lang/Object"), (0, .class_ 3)] 3

/-- java/io/Serializable -/
def k4 : Class := { plain "java/io/Serializable" (some 0) with
  accessFlags := 1537
  interfaces := #[]
  cf := some (fileOf pool4 2 #[] #[] 1537 4 #[] #[])
  fields := #[]
  methods := #[]
  instanceTypes := #[]
  staticTypes := #[]
  resolved := Array.replicate 8 none
  statics := none }

/-- the primitive byte -/
def k5 : Class := { plain "byte" none with kind := .primitive 'B', accessFlags := 0x411 }
/-- [B -/
def k6 : Class := { plain "[B" (some 0) with kind := .array 5 .byte, interfaces := #[3, 4], accessFlags := 1041 }

/-- the primitive int -/
def k7 : Class := { plain "int" none with kind := .primitive 'I', accessFlags := 0x411 }
/-- [I -/
def k8 : Class := { plain "[I" (some 0) with kind := .array 7 .int, interfaces := #[3, 4], accessFlags := 1041 }

/-- the primitive long -/
def k9 : Class := { plain "long" none with kind := .primitive 'J', accessFlags := 0x411 }
/-- [J -/
def k10 : Class := { plain "[J" (some 0) with kind := .array 9 .long, interfaces := #[3, 4], accessFlags := 1041 }

def heap : Heap := #[]
def classes : Array Class := #[k0, k1, k2, k3, k4, k5, k6, k7, k8, k9, k10]
def interned : List (Array UInt16 × Addr) := []
def slotsUsed : Nat := 0
def theMethod : MethodId := ⟨1, 1⟩
def args0 : Array Value := #[.long 5, .int 300, .int 7, .int 1, .int 2, .int 3]
def aboutOver (below : List Frame) : State where
  vm := { classes := classes, interned := interned.toArray }
  heap := heap
  slotsUsed := slotsUsed
  threads := #[{ frames := .invoking theMethod args0 :: below }]
def below0 : List Frame := [.native { method := ⟨0, 0⟩, args := #[] }]
def about1 : State := aboutOver below0
def p0 : Program := .bare "" "" ""
def e0 : Env := launch0.env 0 0 0
theorem w_frames : about1.frames = Frame.invoking theMethod args0 :: below0 := rfl
set_option maxRecDepth 65536 in
theorem w_args : argsFit about1.vm theMethod args0 = true := by decide +kernel
set_option maxRecDepth 65536 in
theorem w_heap : heapFits about1 = true := by decide +kernel
set_option maxRecDepth 65536 in
theorem w_runnable : about1.curStatus? = some .runnable := by decide +kernel
set_option maxRecDepth 65536 in
theorem w_alone : about1.alone = true := by decide +kernel
set_option maxRecDepth 65536 in
theorem w_named : about1.methodNamed? x = some theMethod := by decide +kernel
set_option maxRecDepth 65536 in
theorem w_hears : about1.hears theMethod below0 = true := by decide +kernel
set_option maxRecDepth 65536 in
theorem w_ripe : about1.ripe theMethod args0 below0 = true := by decide +kernel
theorem w_running : about1.status = .running := rfl
set_option maxRecDepth 65536 in
theorem w_room : about1.hasRoom e0.platform room_1 = true :=
  launch0.hasRoom_least _ room_1 (by decide +kernel) (by decide +kernel) (by decide +kernel) (by decide +kernel) (by decide +kernel) (by decide +kernel)
theorem allAtoms_all (ts : List Jvm.Cond) (a : Array Jvm.Value) (st : Jvm.State) : (allAtoms ts).before a st = ts.all (fun c => c.before a st) := by
  induction ts with
  | nil => rfl
  | cons c t ih =>
    show (Jvm.Cond.and c (allAtoms t)).before a st = _
    rw [Jvm.Cond.before_and, ih, List.all_cons]
def words1 : List Jvm.Cond := Jvm.Cond.code x code maxLocals ret :: tables_1
/-- a 'code' word, met by the world's own term for the bytes: nothing is compared byte by byte -/
theorem code_word {y : MethodName} {bytes : ByteArray} {mx : Nat} {rt : Option FieldType} {a : Array Value} {s : State} {m : MethodId} {meth : Method} {c : Code} (h1 : s.methodNamed? y = some m) (h2 : s.vm.method? m = some meth) (h3 : meth.code = some c) (h4 : c.code = bytes)
    (h5 : (c.maxLocals == mx && c.exceptionTable.isEmpty && decide (c.maxStack ≤ mostOperands) && decide (meth.sig.returnType = rt) && !meth.locks && decide (parseMethodDescriptor y.desc = some meth.sig)) = true) : (Jvm.Cond.code y bytes mx rt).before a s = true := by
  simp only [Bool.and_eq_true, beq_iff_eq, Bool.not_eq_true', decide_eq_true_eq] at h5
  obtain ⟨⟨⟨⟨⟨g1, g2⟩, g3⟩, g4⟩, g5⟩, g6⟩ := h5
  simp [Cond.before, Cond.holds, Cond.value, h1, h2, h3, h4, g1, g2, g3, g4, g5, g6]
def isCode : Jvm.Cond → Bool
  | .code _ _ _ _ => true
  | _ => false
theorem all_split {L : List Jvm.Cond} {P : Jvm.Cond → Bool} (h1 : L.all (fun c => isCode c || P c) = true) (h2 : ∀ c ∈ L.filter isCode, P c = true) : L.all P = true := by
  refine List.all_eq_true.mpr fun c hc => ?_
  have h := List.all_eq_true.mp h1 c hc
  rcases Bool.eq_false_or_eq_true (isCode c) with hi | hi
  · exact h2 c (List.mem_filter.mpr ⟨hc, hi⟩)
  · simpa [hi] using h
set_option maxRecDepth 65536 in
theorem w_c0 : (Jvm.Cond.code x code maxLocals ret).before args0 about1 = true := code_word (m := ⟨1, 1⟩) (meth := k1m1) (c := k1c1) (by decide +kernel) rfl rfl rfl (by decide +kernel)
set_option maxRecDepth 65536 in
theorem w_c1 : (Jvm.Cond.code ({ cls := "com/example/auscult/auscult/store/SearchMatches", name := "<init>", desc := "(JIII[JZ)V" } : Jvm.MethodName) prog_29_method_2_code (8 : Nat) (Option.none : Option Jvm.ClassFile.FieldType)).before args0 about1 = true := code_word (m := ⟨2, 0⟩) (meth := k2m0) (c := k2c0) (by decide +kernel) rfl rfl rfl (by decide +kernel)
set_option maxRecDepth 65536 in
theorem w_c2 : (Jvm.Cond.code ({ cls := "java/lang/Object", name := "<init>", desc := "()V" } : Jvm.MethodName) object_method_1_code (1 : Nat) (Option.none : Option Jvm.ClassFile.FieldType)).before args0 about1 = true := code_word (m := ⟨0, 0⟩) (meth := k0m0) (c := k0c0) (by decide +kernel) rfl rfl rfl (by decide +kernel)
set_option maxRecDepth 65536 in
theorem w_c3 : (Jvm.Cond.code ({ cls := "com/example/auscult/auscult/store/SearchMatches", name := "holdsFrom", desc := "(I)Z" } : Jvm.MethodName) prog_29_method_8_code (2 : Nat) (Option.some Jvm.ClassFile.FieldType.boolean)).before args0 about1 = true := code_word (m := ⟨2, 1⟩) (meth := k2m1) (c := k2c1) (by decide +kernel) rfl rfl rfl (by decide +kernel)
def codes1 : List Jvm.Cond := [Jvm.Cond.code x code maxLocals ret, Jvm.Cond.code ({ cls := "com/example/auscult/auscult/store/SearchMatches", name := "<init>", desc := "(JIII[JZ)V" } : Jvm.MethodName) prog_29_method_2_code (8 : Nat) (Option.none : Option Jvm.ClassFile.FieldType), Jvm.Cond.code ({ cls := "java/lang/Object", name := "<init>", desc := "()V" } : Jvm.MethodName) object_method_1_code (1 : Nat) (Option.none : Option Jvm.ClassFile.FieldType), Jvm.Cond.code ({ cls := "com/example/auscult/auscult/store/SearchMatches", name := "holdsFrom", desc := "(I)Z" } : Jvm.MethodName) prog_29_method_8_code (2 : Nat) (Option.some Jvm.ClassFile.FieldType.boolean)]
set_option maxRecDepth 65536 in
theorem codes_eq : words1.filter isCode = codes1 := rfl
theorem w_codes : ∀ c ∈ words1.filter isCode, c.before args0 about1 = true := by
  rw [codes_eq]
  intro c hc
  simp only [codes1, List.mem_cons, List.not_mem_nil, or_false] at hc
  rcases hc with rfl | rfl | rfl | rfl
  · exact w_c0
  · exact w_c1
  · exact w_c2
  · exact w_c3
set_option maxRecDepth 65536 in
theorem w_t1 : (words1.take 24).all (fun c => isCode c || c.before args0 about1) = true := by decide +kernel
set_option maxRecDepth 65536 in
theorem w_t2 : (words1.drop 24).all (fun c => isCode c || c.before args0 about1) = true := by decide +kernel
theorem w_tables : (allAtoms (Jvm.Cond.code x code maxLocals ret :: tables_1)).before args0 about1 = true := by
  rw [allAtoms_all]
  show words1.all (fun c => c.before args0 about1) = true
  refine all_split ?_ w_codes
  rw [← List.take_append_drop 24 words1, List.all_append, w_t1, w_t2]
  rfl
set_option maxRecDepth 65536 in
theorem w_case : (Jvm.Cond.and given_1 narrow_1).before args0 about1 = true := by decide +kernel
theorem w_applies : (headSpec (Jvm.Cond.code x code maxLocals ret :: tables_1) room_1).applies x e0.platform about1 = true :=
  (Spec.applies_iff w_frames).mpr ⟨w_running, w_runnable, w_alone, w_named, w_hears, w_ripe, w_room, w_tables⟩
theorem atStart : AtStart classFile x code maxLocals ret World_1 tables_1 room_1 Calls_1 rest_1 Pre_1 launch0 p0 e0 about1 theMethod args0 below0 :=
  ⟨lists_1, trivial, launch0.admits_env _ _ _, launch0.least_env, fairChoices_fair.cas, fairChoices_fair.clock, w_frames, w_args, w_heap, w_applies, trivial, trivial, w_case⟩
end start1
theorem witness_1 : WitnessClaimed_1 := ⟨start1.p0, start1.e0, start1.about1, start1.theMethod, start1.args0, start1.below0, start1.atStart⟩
end Jvm.Pilot.@@N@@
