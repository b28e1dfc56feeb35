import JvmDerived
import JvmDerived.Pilot.@@N@@Statement
import JvmDerived.Pilot.@@N@@Code
set_option linter.unusedVariables false
set_option linter.unusedSimpArgs false
namespace Jvm.Pilot.@@N@@
open Jvm Jvm.ClassFile Sem Op Lib Jvm.Free Jvm.Stand Jvm.LawKit Jvm.RoadKit Bundle Jvm.Pilot.@@N@@.Jvm.D
/-! 1. my way of walking: 'from here the run comes to an end that G allows' -/
def Rch (p : Program) (e : Env) (below : List Frame) (G : Outcome → State → Prop) (T : State) (f : JFrame) : Prop := ∃ s₂ o, Steps p.tables e below (T.setTop f) s₂ ∧ s₂.status = .running ∧ Ended s₂ below o ∧ G o s₂
def Gd (s : State) (Q : Option Value → Heap → List Loc → Prop) (k n : Nat) : Outcome → State → Prop := fun o U' => ∃ v L, o = .returned v ∧ Q v U'.heap L ∧ FrameEnd s o U' L k n
section Own
variable {p : Program} {l : Launch} {e : Env} {R : Room} {s : State} {m : MethodId} {args : Array Value} {below : List Frame} {meth : Method} {c : Code} {T T' : State} {f f' : JFrame} {locs : List Loc} {cells slots k n : Nat} {G : Outcome → State → Prop} {Q : Option Value → Heap → List Loc → Prop}
theorem own_go (st : ∀ t, Steps p.tables e below (T'.setTop f') t → Steps p.tables e below (T.setTop f) t) (r : Rch p e below G T' f') : Rch p e below G T f := by
  obtain ⟨s₂, o, h1, h2⟩ := r
  exact ⟨s₂, o, st _ h1, h2⟩
theorem own_go2 (st : Steps p.tables e below (T.setTop f) (T'.setTop f')) (r : Rch p e below G T' f') : Rch p e below G T f := own_go (fun t h => st.trans h) r
theorem own_fin (X : Stand p l e R s m args below meth c T locs cells slots) (hlk : meth.locks = false) {v : Option Value} (hv : meth.sig.returnType = none → v = none) (hc : cells ≤ k) (hs : slots ≤ n)
    (st : ∀ fs, (∀ (f : JFrame) (acts : List Action), f.method = m → f.locked = none → f.entered = [] → (doReturn e (T.setTop f) acts v).1 = T.setFrames fs) → Steps p.tables e below (T.setTop f) (T.setFrames fs)) (hQ : Q v T.heap locs) : Rch p e below (Gd s Q k n) T f := by
  obtain ⟨fs, hr, hrun, hended, hW, hsame⟩ := X.leave hv hlk
  exact ⟨_, _, st fs hr, hrun, hended, _, _, rfl, hQ, ⟨_, rfl⟩, hW, hsame.mono hc hs⟩
theorem own_retV (X : Stand p l e R s m args below meth c T locs cells slots) (hx : p.tables.exec = Jvm.exec) (hlk : meth.locks = false) (hret : meth.sig.returnType = none) {pc : Nat} {Ls : Array Slot} (hd : decode c.code pc = .ok (.return_, 1)) (hc : cells ≤ k) (hs : slots ≤ n) (hQ : Q none T.heap locs) : Rch p e below (Gd s Q k n) T (mkF m pc Ls []) :=
  own_fin X hlk (fun _ => rfl) hc hs (fun fs hr => X.returnOut hx hret hd hr) hQ
theorem own_retN (X : Stand p l e R s m args below meth c T locs cells slots) (hx : p.tables.exec = Jvm.exec) (hlk : meth.locks = false) {t : FieldType} (hret : meth.sig.returnType = some t) (ht : t = .boolean ∨ t = .byte ∨ t = .char ∨ t = .short) {pc : Nat} {Ls : Array Slot} {z w : Int32} {rest : List Value} (hd : decode c.code pc = .ok (.ireturn, 1)) (hz : nar t z = w) (hc : cells ≤ k) (hs : slots ≤ n) (hQ : Q (some (.int w)) T.heap locs) : Rch p e below (Gd s Q k n) T (mkF m pc Ls (.int z :: rest)) :=
  own_fin X hlk (fun h => by rw [hret] at h; cases h) hc hs (fun fs hr => retN X hx hret ht hd (by rw [hz]; exact hr)) hQ
theorem own_retI (X : Stand p l e R s m args below meth c T locs cells slots) (hx : p.tables.exec = Jvm.exec) (hlk : meth.locks = false) (hret : meth.sig.returnType = some .int) {pc : Nat} {Ls : Array Slot} {z : Int32} {rest : List Value} (hd : decode c.code pc = .ok (.ireturn, 1)) (hc : cells ≤ k) (hs : slots ≤ n) (hQ : Q (some (.int z)) T.heap locs) : Rch p e below (Gd s Q k n) T (mkF m pc Ls (.int z :: rest)) :=
  own_fin X hlk (fun h => by rw [hret] at h; cases h) hc hs (fun fs hr => retOut X hx hret rfl (Or.inl ⟨rfl, Or.inl rfl, z, rfl⟩) hd hr) hQ
theorem own_retJ (X : Stand p l e R s m args below meth c T locs cells slots) (hx : p.tables.exec = Jvm.exec) (hlk : meth.locks = false) (hret : meth.sig.returnType = some .long) {pc : Nat} {Ls : Array Slot} {z : Int64} {rest : List Value} (hd : decode c.code pc = .ok (.lreturn, 1)) (hc : cells ≤ k) (hs : slots ≤ n) (hQ : Q (some (.long z)) T.heap locs) : Rch p e below (Gd s Q k n) T (mkF m pc Ls (.long z :: rest)) :=
  own_fin X hlk (fun h => by rw [hret] at h; cases h) hc hs (fun fs hr => retOut X hx hret rfl (Or.inr (Or.inl ⟨rfl, rfl, z, rfl⟩)) hd hr) hQ
theorem own_retA (X : Stand p l e R s m args below meth c T locs cells slots) (hx : p.tables.exec = Jvm.exec) (hlk : meth.locks = false) {t : FieldType} (hret : meth.sig.returnType = some t) (ht : t.isReference = true) {w : Value} (hw : w.isRef = true) {pc : Nat} {Ls : Array Slot} {rest : List Value} (hd : decode c.code pc = .ok (.areturn, 1)) (hc : cells ≤ k) (hs : slots ≤ n) (hQ : Q (some w) T.heap locs) : Rch p e below (Gd s Q k n) T (mkF m pc Ls (w :: rest)) :=
  own_fin X hlk (fun h => by rw [hret] at h; cases h) hc hs (fun fs hr => retOut X hx hret (by rcases ref_cases hw with rfl | ⟨a, rfl⟩ <;> (cases t <;> first | rfl | cases ht)) (Or.inr (Or.inr (Or.inr (Or.inr ⟨rfl, ht, hw⟩)))) hd hr) hQ
end Own

/-! 2. numbers, and an array of 256 longs as a function -/
theorem own_nat (n : Int32) : n.toNatClampNeg = n.toInt.toNat := rfl
theorem own_l0 : (0 : Int32).toInt = 0 := by decide
theorem own_of {n : Nat} (h : n ≤ 256) : (Int32.ofNat n).toInt = n := Int32.toInt_ofNat_of_lt (by omega)
theorem own_n32 {n : Nat} (h : n ≤ 256) : (Int32.ofNat n).toNatClampNeg = n := by rw [own_nat, own_of h]; rfl
theorem own_one (i : Nat) : Int32.ofNat i + (1 : Int32) = Int32.ofNat (i + 1) := (Int32.ofNat_add i 1).symm
theorem own_back (x : Int32) (h : 0 ≤ x.toInt) : x = Int32.ofNat x.toInt.toNat := by
  have q := Int32.toInt_lt x
  apply Int32.toInt_inj.mp
  rw [Int32.toInt_ofNat_of_lt (by omega)]
  omega
theorem own_ilt {i a b : Nat} (h : i < a + b) (hn : a + b ≤ 4) : Int32.ofNat i < Int32.ofNat a + Int32.ofNat b := by
  rw [← Int32.ofNat_add, Int32.lt_iff_toInt_lt, own_of (by omega), own_of (by omega)]
  omega
theorem own_nlt {i a b : Nat} (h : i = a + b) (hn : a + b ≤ 4) : ¬ Int32.ofNat i < Int32.ofNat a + Int32.ofNat b := by
  rw [← Int32.ofNat_add, Int32.lt_iff_toInt_lt, own_of (by omega), own_of (by omega)]
  omega
theorem own_chk : ∀ a b : Fin 5, a.1 + b.1 ≤ 4 → ¬ ((((4 : Int32) ||| Int32.ofNat a.1) ||| Int32.ofNat b.1) < (0 : Int32)) ∧ ¬ (((4 : Int32) - Int32.ofNat a.1) < Int32.ofNat b.1) := by decide
theorem own_rem5 (x : Int32) (h : 0 ≤ x.toInt) : ∃ o : Nat, o ≤ 4 ∧ x % (5 : Int32) = Int32.ofNat o := by
  have q := c_irem x (5 : Int32) 5 (by decide)
  exact ⟨(x % (5 : Int32)).toInt.toNat, by omega, own_back _ (by omega)⟩
theorem own_rem (x : Int32) (o : Nat) (ho : o ≤ 4) (h : 0 ≤ x.toInt) : ((5 : Int32) - Int32.ofNat o) ≠ 0 ∧ ∃ b : Nat, o + b ≤ 4 ∧ x % ((5 : Int32) - Int32.ofNat o) = Int32.ofNat b := by
  have a1 := c_isub (5 : Int32) (Int32.ofNat o)
  rw [own_of (by omega), show (5 : Int32).toInt = 5 from by decide] at a1
  have b1 := Int32.toInt_lt ((5 : Int32) - Int32.ofNat o)
  have b2 := Int32.le_toInt ((5 : Int32) - Int32.ofNat o)
  have a2 : ((5 : Int32) - Int32.ofNat o).toInt = 5 - o := by omega
  have q := c_irem x ((5 : Int32) - Int32.ofNat o) (5 - o) a2
  have r1 : x.toInt % (5 - (o : Int)) < 5 - o := Int.emod_lt_of_pos _ (by omega)
  have r2 : 0 ≤ x.toInt % (5 - (o : Int)) := Int.emod_nonneg _ (by omega)
  have q1 := q.1 h
  refine ⟨fun e => ?_, (x % ((5 : Int32) - Int32.ofNat o)).toInt.toNat, by omega, own_back _ (by omega)⟩
  rw [e, own_l0] at a2
  omega
def own_ix (bs : Nat → Int32) (i : Nat) : Nat := (bs i &&& (255 : Int32)).toNatClampNeg
theorem own_ixr (x : Int32) : 0 ≤ (x &&& (255 : Int32)).toInt ∧ (x &&& (255 : Int32)).toInt < 256 := by
  have q := c_mask x 255 8 (by decide) (by decide)
  omega
theorem own_ixl (bs : Nat → Int32) (i : Nat) : own_ix bs i < 256 := by
  have q := own_ixr (bs i)
  unfold own_ix
  rw [own_nat]
  omega
theorem own_getb (bs : Nat → Int32) {i : Nat} (h : i < 4) (d : Value) : ([.int (bs 0), .int (bs 1), .int (bs 2), .int (bs 3)] : List Value).getD (Int32.ofNat i).toNatClampNeg d = .int (bs i) := by
  rw [own_n32 (by omega)]
  rcases i with _ | _ | _ | _ | i <;> first | rfl | omega
def Cnt (Z : State) (h : Heap) (a : Addr) (k : ClassId) (f : Nat → Int64) : Prop := ∃ c : Cell, Arr Z h a c .long ∧ c.cls = k ∧ c.slots.size = 256 ∧ ∀ j, j < 256 → c.slots[j]? = some (.long (f j))
section Cnts
variable {Z : State} {h h' : Heap} {a b : Addr} {k : ClassId} {f : Nat → Int64} {ws : List Addr} {sl : Nat} {v : Value}
theorem Cnt.lt (F : Cnt Z h a k f) : a < h.size := by obtain ⟨c, A, -⟩ := F; exact A.lt
theorem Cnt.ext (F : Cnt Z h a k f) (E : Ext h h') : Cnt Z h' a k f := by obtain ⟨c, A, r⟩ := F; exact ⟨c, A.ext E, r⟩
theorem Cnt.other (F : Cnt Z h b k f) (W : Wr h h' a sl v) (q : b ≠ a) : Cnt Z h' b k f := by obtain ⟨c, A, r⟩ := F; exact ⟨c, A.other W q, r⟩
theorem Cnt.keep (F : Cnt Z h a k f) (K : Keep h h' ws) (q : a ∉ ws) : Cnt Z h' a k f := by obtain ⟨c, A, r⟩ := F; exact ⟨c, ⟨K.2.1 a c A.1 q, A.2⟩, r⟩
theorem Cnt.of (F : Arv Z h a k .long (256 : Int32) [] (.long (0 : Int64))) : Cnt Z h a k (fun _ => 0) := by
  obtain ⟨c, A, r1, r2, -, H, -⟩ := F
  have e : c.slots.size = 256 := r2
  exact ⟨c, A, r1, e, fun j hj => H j (by rw [e]; exact hj)⟩
end Cnts
def own_upd (f : Nat → Int64) (j : Nat) : Nat → Int64 := fun i => if i = j then f j + (1 : Int64) else f i
def own_add (b : Nat → Nat) : Nat → Nat → (Nat → Int64) → (Nat → Int64)
  | 0, _, f => f
  | k + 1, i, f => own_add b k (i + 1) (own_upd f (b i))
theorem own_cset {Z : State} {h h' : Heap} {a : Addr} {k : ClassId} {f : Nat → Int64} {c : Cell} {j : Int32} (A : Arr Z h a c .long) (q1 : c.cls = k) (q2 : c.slots.size = 256) (q3 : ∀ i, i < 256 → c.slots[i]? = some (.long (f i))) (hj : j.toNatClampNeg < 256) (W : Wr h h' a j.toNatClampNeg (.long (f j.toNatClampNeg + (1 : Int64)))) : Cnt Z h' a k (own_upd f j.toNatClampNeg) := by
  refine ⟨_, A.same W, q1, by rw [sz_set]; exact q2, fun i hi => ?_⟩
  show (c.slots.setIfInBounds _ _)[i]? = _
  rw [Array.getElem?_setIfInBounds]
  unfold own_upd
  by_cases e : j.toNatClampNeg = i
  · subst e
    simp [q2, hj]
  · rw [if_neg e, if_neg (Ne.symm e)]
    exact q3 i hi
theorem own_in {j : Int32} {c : Cell} (q2 : c.slots.size = 256) (h0 : 0 ≤ j.toInt) (h1 : j.toInt < 256) : ¬ (j < 0 ∨ c.slots.size ≤ j.toNatClampNeg) := by
  rw [q2, own_nat, Int32.lt_iff_toInt_lt, own_l0]
  omega
def own_f4 (a b c d : Int32) : Nat → Int32 := fun i => match i with | 0 => a | 1 => b | 2 => c | _ => d
def own_hit (i o b : Int32) (h : Int64) : Int64 := if i < o then h else if i < (o + b) then h + (1 : Int64) else h
def own_hits (i v u o1 b1 o2 b2 : Int32) : Int64 := if u = v then own_hit i o2 b2 (own_hit i o1 b1 0) else 0
def own_exp (us : Nat → Int32) (v o1 b1 o2 b2 : Int32) : Int64 := ((own_hits 0 v (us 0) o1 b1 o2 b2 + own_hits 1 v (us 1) o1 b1 o2 b2) + own_hits 2 v (us 2) o1 b1 o2 b2) + own_hits 3 v (us 3) o1 b1 o2 b2
/-- one place, one range: does it count for v? -/
def own_A (us : Nat → Int32) (v : Int32) (i o b : Nat) : Int64 := if us i = v then (if o ≤ i ∧ i < o + b then 1 else 0) else 0
theorem own_hit_eq (i o b : Nat) (hi : i ≤ 3) (hb : o + b ≤ 4) (h : Int64) : own_hit (Int32.ofNat i) (Int32.ofNat o) (Int32.ofNat b) h = h + (if o ≤ i ∧ i < o + b then 1 else 0) := by
  unfold own_hit
  rw [← Int32.ofNat_add]
  simp only [Int32.lt_iff_toInt_lt, own_of (show i ≤ 256 by omega), own_of (show o ≤ 256 by omega), own_of (show o + b ≤ 256 by omega)]
  by_cases h1 : (i : Int) < o
  · rw [if_pos h1, if_neg (by omega), Int64.add_zero]
  · by_cases h2 : (i : Int) < ((o + b : Nat) : Int)
    · rw [if_neg h1, if_pos h2, if_pos (by omega)]
    · rw [if_neg h1, if_neg h2, if_neg (by omega), Int64.add_zero]
theorem own_hits_eq (us : Nat → Int32) (v : Int32) (i o1 b1 o2 b2 : Nat) (hi : i ≤ 3) (h1 : o1 + b1 ≤ 4) (h2 : o2 + b2 ≤ 4) : own_hits (Int32.ofNat i) v (us i) (Int32.ofNat o1) (Int32.ofNat b1) (Int32.ofNat o2) (Int32.ofNat b2) = own_A us v i o1 b1 + own_A us v i o2 b2 := by
  unfold own_hits own_A
  by_cases h : us i = v
  · rw [if_pos h, if_pos h, if_pos h, own_hit_eq i o2 b2 hi h2, own_hit_eq i o1 b1 hi h1, Int64.zero_add]
  · rw [if_neg h, if_neg h, if_neg h, Int64.add_zero]
theorem own_upd_at (f : Nat → Int64) (j i : Nat) : own_upd f j i = f i + (if j = i then 1 else 0) := by
  unfold own_upd
  by_cases h : i = j
  · subst h
    rw [if_pos rfl, if_pos rfl]
  · rw [if_neg h, if_neg (Ne.symm h), Int64.add_zero]
theorem own_add_eq (bs us : Nat → Int32) (v : Int32) (n : Nat) (hn : v.toNatClampNeg = n) (hu : ∀ i, i < 4 → (own_ix bs i = n ↔ us i = v)) (o b : Nat) (h : o + b ≤ 4) (f : Nat → Int64) : own_add (own_ix bs) b o f n = f n + (((own_A us v 0 o b + own_A us v 1 o b) + own_A us v 2 o b) + own_A us v 3 o b) := by
  have e : ∀ i, i < 4 → (if own_ix bs i = n then (1 : Int64) else 0) = (if us i = v then 1 else 0) := fun i hi => by simp only [hu i hi]
  have e0 := e 0 (by omega)
  have e1 := e 1 (by omega)
  have e2 := e 2 (by omega)
  have e3 := e 3 (by omega)
  unfold own_A
  generalize hc0 : (if us 0 = v then (1 : Int64) else 0) = c0 at e0
  generalize hc1 : (if us 1 = v then (1 : Int64) else 0) = c1 at e1
  generalize hc2 : (if us 2 = v then (1 : Int64) else 0) = c2 at e2
  generalize hc3 : (if us 3 = v then (1 : Int64) else 0) = c3 at e3
  have hb : b ≤ 4 := by omega
  have ho : o ≤ 4 := by omega
  rcases o with _ | _ | _ | _ | _ | o <;> rcases b with _ | _ | _ | _ | _ | b <;> first | omega | (simp [own_add, own_upd_at, e0, e1, e2, e3, hc0, hc1, hc2, hc3, Int64.add_assoc])
theorem own_main (bs us : Nat → Int32) (v : Int32) (hu : ∀ i, i < 4 → (own_ix bs i = v.toNatClampNeg ↔ us i = v)) (o1 b1 o2 b2 : Nat) (h1 : o1 + b1 ≤ 4) (h2 : o2 + b2 ≤ 4) : own_add (own_ix bs) b2 o2 (own_add (own_ix bs) b1 o1 (fun _ => 0)) v.toNatClampNeg = own_exp us v (Int32.ofNat o1) (Int32.ofNat b1) (Int32.ofNat o2) (Int32.ofNat b2) := by
  rw [own_add_eq bs us v _ rfl hu o2 b2 h2, own_add_eq bs us v _ rfl hu o1 b1 h1]
  unfold own_exp
  have q0 := own_hits_eq us v 0 o1 b1 o2 b2 (by omega) h1 h2
  have q1 := own_hits_eq us v 1 o1 b1 o2 b2 (by omega) h1 h2
  have q2 := own_hits_eq us v 2 o1 b1 o2 b2 (by omega) h1 h2
  have q3 := own_hits_eq us v 3 o1 b1 o2 b2 (by omega) h1 h2
  rw [show (0 : Int32) = Int32.ofNat 0 from rfl, show (1 : Int32) = Int32.ofNat 1 from rfl, show (2 : Int32) = Int32.ofNat 2 from rfl, show (3 : Int32) = Int32.ofNat 3 from rfl, q0, q1, q2, q3]
  generalize own_A us v 0 o1 b1 = x0
  generalize own_A us v 1 o1 b1 = x1
  generalize own_A us v 2 o1 b1 = x2
  generalize own_A us v 3 o1 b1 = x3
  generalize own_A us v 0 o2 b2 = y0
  generalize own_A us v 1 o2 b2 = y1
  generalize own_A us v 2 o2 b2 = y2
  generalize own_A us v 3 o2 b2 = y3
  rw [Int64.zero_add]
  ac_rfl
theorem own_byte (x : Int32) : (nar .byte (x.toInt8.toInt32) &&& (255 : Int32)) = (x &&& (255 : Int32)) := by
  show (x.toInt8.toInt32.toInt8.toInt32 &&& (255 : Int32)) = _
  apply Int32.toInt_inj.mp
  rw [c_mask _ 255 8 (by decide) (by decide), c_mask _ 255 8 (by decide) (by decide)]
  have a1 := c_i2b x
  have a2 := c_i2b x.toInt8.toInt32
  omega
theorem own_hu (bs us : Nat → Int32) (v : Int32) (hv : 0 ≤ v.toInt) (h : ∀ i, i < 4 → (bs i &&& (255 : Int32)) = us i) : ∀ i, i < 4 → (own_ix bs i = v.toNatClampNeg ↔ us i = v) := fun i hi => by
  have q := own_ixr (bs i)
  unfold own_ix
  rw [own_nat, own_nat, h i hi] at *
  rw [← Int32.toInt_inj]
  omega
theorem own_lc (x y : Int64) (h : x = y) : (lcmpW x y) = (0 : Int32) := by rw [lcW, lc_eq]; exact h
theorem d1_0 : decode prog_29_method_1_code 0 = .ok (.aload_n 0, 1) := by decide +kernel
theorem d1_1 : decode prog_29_method_1_code 1 = .ok (.invokespecial 1, 3) := by decide +kernel
theorem d1_4 : decode prog_29_method_1_code 4 = .ok (.aload_n 0, 1) := by decide +kernel
theorem d1_5 : decode prog_29_method_1_code 5 = .ok (.sipush 256, 3) := by decide +kernel
theorem d1_8 : decode prog_29_method_1_code 8 = .ok (.newarray .long, 2) := by decide +kernel
theorem d1_10 : decode prog_29_method_1_code 10 = .ok (.putfield 9, 3) := by decide +kernel
theorem d1_13 : decode prog_29_method_1_code 13 = .ok (.return_, 1) := by decide +kernel
theorem pn_1 : plainName "com/example/leafweight/leafweight/codec/ByteCounts" = true := by first | (simp [plainName, overriddenIn]; done) | decide +kernel
theorem ef_1 (m : MethodId) (x0 : Addr) : entryFrame m #[(.ref x0)] 1 = mkF m 0 #[.val (.ref x0)] [] := by first | (simp [entryFrame, mkF, argsToLocals, Value.category]; done) | rfl
def Q1 (Z : State) (u0 : Addr) (h0 : Heap) (n0 : Nat) (v : Option Value) (h : Heap) (L : List Loc) : Prop := ∃ (ca : Addr) (kc : ClassId), v = none ∧ Fr n0 L ∧ h0.size ≤ ca ∧ Keep h0 h [u0] ∧ Exa Z h u0 "com/example/leafweight/leafweight/codec/ByteCounts" ∧ Fld Z h u0 "com/example/leafweight/leafweight/codec/ByteCounts" "counts" "[J" (.ref ca) ∧ Cnt Z h ca kc (fun _ => 0)
set_option maxRecDepth 65536 in
set_option maxHeartbeats 40000000 in
theorem rm1 (l : Launch) (Z : State) (a0 : Array Value) (hw : ∀ d ∈ tables_1, d.before a0 Z = true) (ws : List Jvm.Cond) (u0 : Addr) (h0 : Heap) (n0 : Nat) (Z0 : n0 ≤ h0.size) (F : Fld Z h0 u0 "com/example/leafweight/leafweight/codec/ByteCounts" "counts" "[J" .null) (E : Exa Z h0 u0 "com/example/leafweight/leafweight/codec/ByteCounts") (g : n0 ≤ u0) :
    MetFree l (⟨"com/example/leafweight/leafweight/codec/ByteCounts", "<init>", "()V"⟩ : MethodName) (head1 (Jvm.Cond.code (⟨"com/example/leafweight/leafweight/codec/ByteCounts", "<init>", "()V"⟩ : MethodName) prog_29_method_1_code 1 none :: ws) ({ frames := 1, cells := 1, slots := 256, locals := 12 } : Room)) (fun a U => a = #[(.ref u0)] ∧ Z.Warmed39 U.vm ∧ U.heap = h0) (fun _ _ _ _ _ => True) (fun _ U o U' => ∃ v L, o = .returned v ∧ Q1 Z u0 h0 n0 v U'.heap L ∧ FrameEnd U o U' L ({ frames := 1, cells := 1, slots := 256, locals := 12 } : Room).cells ({ frames := 1, cells := 1, slots := 256, locals := 12 } : Room).slots) := by
  refine MetFree.of_bodySF (plainFor_of_name pn_1) hisR ?_
  intro p e s m args below meth c s₁ Bd hml0 hP hK
  obtain ⟨rfl, hZ, hh⟩ := hP
  have hx := Bd.exec
  have hby := Bd.bytes
  have hlk := Bd.notSynchronized
  have hret := Bd.returns
  have hml : c.maxLocals = 1 := hml0
  have hown : s.vm.findClass "com/example/leafweight/leafweight/codec/ByteCounts" = some m.cls := findClass_of_methodNamed Bd.named
  have hnm := (name_of_methodNamed Bd.named Bd.method).1
  have X0 : Stand p l e ({ frames := 1, cells := 1, slots := 256, locals := 12 } : Room) s m #[(.ref u0)] below meth c s₁ [] 0 0 := Stand.of_body Bd
  have e0 : s₁.heap = h0 := by rw [← hh, Bd.state]; rfl
  have N0 := Fr.nil n0
  suffices G0 : Rch p e below (Gd s (Q1 Z u0 h0 n0) ({ frames := 1, cells := 1, slots := 256, locals := 12 } : Room).cells ({ frames := 1, cells := 1, slots := 256, locals := 12 } : Room).slots) s₁ (mkF m 0 #[.val (.ref u0)] []) by
    obtain ⟨s₂, o, r1, r2, r3, r4⟩ := G0
    exact ⟨s₂, o, castTop (ef_1 m u0) r1, r2, r3, r4⟩
  refine own_go (T := s₁) (T' := s₁) (f := (mkF m 0 #[.val (.ref u0)] [])) (f' := (mkF m 1 #[.val (.ref u0)] [(.ref u0)])) (fun t k => ?_) ?_
  · show Steps p.tables e below (s₁.setTop (mkF m 0 #[.val (.ref u0)] [])) _
    refine XS.aloadN X0.here hx rfl (hb hby d1_0) rfl rfl ?_
    exact k
  obtain ⟨T1, X1, e1, st1⟩ := initO X0 hx hZ hown (hw _ (List.mem_of_getElem? (i := 8) rfl)) (hw _ (List.mem_of_getElem? (i := 9) rfl)) (hw _ (List.mem_of_getElem? (i := 10) rfl)) e0 (g := (mkF m 1 #[.val (.ref u0)] [(.ref u0)])) rfl (by rw [hml]; rfl) rfl (hb hby d1_1) (by decide) (W := 0) (by show 2 * 0 + _ ≤ _; exact Nat.le_of_eq rfl) (by decide)
  refine own_go st1 ?_
  show Rch p e below _ T1 (mkF m 4 #[.val (.ref u0)] [])
  refine own_go (T := T1) (T' := T1) (f := (mkF m 4 #[.val (.ref u0)] [])) (f' := (mkF m 8 #[.val (.ref u0)] [(.int (256 : Int32)), (.ref u0)])) (fun t k => ?_) ?_
  · show Steps p.tables e below (T1.setTop (mkF m 4 #[.val (.ref u0)] [])) _
    refine XS.aloadN X1.here hx rfl (hb hby d1_4) rfl rfl ?_
    show Steps p.tables e below (T1.setTop (mkF m 5 #[.val (.ref u0)] [(.ref u0)])) _
    refine XS.sipush X1.here hx rfl (hb hby d1_5) ?_
    exact k
  obtain ⟨T2, h2, k2, X2, e2, E2, A2, st2⟩ := newP X1 hx hZ (hw _ (List.mem_of_getElem? (i := 11) rfl)) e1 (g := (mkF m 8 #[.val (.ref u0)] [(.int (256 : Int32)), (.ref u0)])) rfl (hb hby d1_8) rfl (by decide) (cap := 256) (by decide) (by decide) (by decide) (by decide)
  obtain ⟨b2, g2⟩ : ∃ z, z = h0.size := ⟨_, rfl⟩
  rw [← g2] at A2 st2
  have V2 : Arv Z h2 b2 k2 .long (256 : Int32) [] (.long (0 : Int64)) := Arv.new A2 (by decide)
  refine own_go st2 ?_
  show Rch p e below _ T2 (mkF m 10 #[.val (.ref u0)] [(.ref b2), (.ref u0)])
  have F1 := F.ext E2
  have V0 := Cnt.of V2
  obtain ⟨T3, h3, X3, e3, W3, st3⟩ := putF X2 hx hZ hown (host := "") (Or.inl (hw _ (List.mem_of_getElem? (i := 12) rfl))) Via.refl e2 F1 (E.ext E2) (Or.inr ⟨(hw _ (List.mem_of_getElem? (i := 13) rfl)), rfl, hnm⟩) (hw _ (List.mem_of_getElem? (i := 3) rfl)) (ty := (.array .long)) (by decide) rfl rfl (g := (mkF m 10 #[.val (.ref u0)] [(.ref b2), (.ref u0)])) rfl rfl (hb hby d1_10)
  have N3 := Fr.snoc X3 N0 g
  refine own_go st3 ?_
  show Rch p e below _ T3 (mkF m 13 #[.val (.ref u0)] [])
  have ne0 : b2 ≠ u0 := Ne.symm (Nat.ne_of_lt (Nat.lt_of_lt_of_le F.lt (Nat.le_of_eq g2.symm)))
  exact own_retV X3 hx hlk hret (hb hby d1_13) (by decide) (by decide) (by rw [e3]; exact ⟨b2, k2, rfl, N3, (Nat.le_of_eq g2.symm), (((Keep.refl h0 [u0]).ext E2).wr W3 (Or.inl (List.mem_of_getElem? (i := 0) rfl))), ((E.ext E2).wr W3), (F1.same W3), (V0.other W3 ne0)⟩)
theorem d5_0 : decode jdk_41_method_13_code 0 = .ok (.iload_n 2, 1) := by decide +kernel
theorem d5_1 : decode jdk_41_method_13_code 1 = .ok (.iload_n 0, 1) := by decide +kernel
theorem d5_2 : decode jdk_41_method_13_code 2 = .ok (.ior, 1) := by decide +kernel
theorem d5_3 : decode jdk_41_method_13_code 3 = .ok (.iload_n 1, 1) := by decide +kernel
theorem d5_4 : decode jdk_41_method_13_code 4 = .ok (.ior, 1) := by decide +kernel
theorem d5_5 : decode jdk_41_method_13_code 5 = .ok (.ifCond .lt 10, 3) := by decide +kernel
theorem d5_8 : decode jdk_41_method_13_code 8 = .ok (.iload_n 1, 1) := by decide +kernel
theorem d5_9 : decode jdk_41_method_13_code 9 = .ok (.iload_n 2, 1) := by decide +kernel
theorem d5_10 : decode jdk_41_method_13_code 10 = .ok (.iload_n 0, 1) := by decide +kernel
theorem d5_11 : decode jdk_41_method_13_code 11 = .ok (.isub, 1) := by decide +kernel
theorem d5_12 : decode jdk_41_method_13_code 12 = .ok (.if_icmp .le 11, 3) := by decide +kernel
theorem d5_23 : decode jdk_41_method_13_code 23 = .ok (.iload_n 0, 1) := by decide +kernel
theorem d5_24 : decode jdk_41_method_13_code 24 = .ok (.ireturn, 1) := by decide +kernel
theorem pn_5 : plainName "jdk/internal/util/Preconditions" = true := by first | (simp [plainName, overriddenIn]; done) | decide +kernel
theorem ef_5 (m : MethodId) (x0 : Int32) (x1 : Int32) (x2 : Int32) : entryFrame m #[(.int x0), (.int x1), (.int x2), .null] 4 = mkF m 0 #[.val (.int x0), .val (.int x1), .val (.int x2), .val .null] [] := by first | (simp [entryFrame, mkF, argsToLocals, Value.category]; done) | rfl
def Q5 (Z : State) (p0 : Int32) (p1 : Int32) (p2 : Int32) (h0 : Heap) (n0 : Nat) (v : Option Value) (h : Heap) (L : List Loc) : Prop := v = some (.int p0) ∧ Fr n0 L ∧ h = h0
set_option maxRecDepth 65536 in
set_option maxHeartbeats 40000000 in
theorem rm5 (l : Launch) (Z : State) (a0 : Array Value) (hw : ∀ d ∈ tables_1, d.before a0 Z = true) (ws : List Jvm.Cond) (p0 : Int32) (p1 : Int32) (p2 : Int32) (h0 : Heap) (n0 : Nat) (Z0 : n0 ≤ h0.size) (hor : ¬ (((p2 ||| p0) ||| p1) < (0 : Int32))) (hle : ¬ ((p2 - p0) < p1)) :
    MetFree l (⟨"jdk/internal/util/Preconditions", "checkFromIndexSize", "(IIILjava/util/function/BiFunction;)I"⟩ : MethodName) (head1 (Jvm.Cond.code (⟨"jdk/internal/util/Preconditions", "checkFromIndexSize", "(IIILjava/util/function/BiFunction;)I"⟩ : MethodName) jdk_41_method_13_code 4 (some .int) :: ws) ({ frames := 0, cells := 0, slots := 0, locals := 0 } : Room)) (fun a U => a = #[(.int p0), (.int p1), (.int p2), .null] ∧ Z.Warmed39 U.vm ∧ U.heap = h0) (fun _ _ _ _ _ => True) (fun _ U o U' => ∃ v L, o = .returned v ∧ Q5 Z p0 p1 p2 h0 n0 v U'.heap L ∧ FrameEnd U o U' L ({ frames := 0, cells := 0, slots := 0, locals := 0 } : Room).cells ({ frames := 0, cells := 0, slots := 0, locals := 0 } : Room).slots) := by
  refine MetFree.of_bodySF (plainFor_of_name pn_5) hisR ?_
  intro p e s m args below meth c s₁ Bd hml0 hP hK
  obtain ⟨rfl, hZ, hh⟩ := hP
  have hx := Bd.exec
  have hby := Bd.bytes
  have hlk := Bd.notSynchronized
  have hret := Bd.returns
  have hml : c.maxLocals = 4 := hml0
  have hown : s.vm.findClass "jdk/internal/util/Preconditions" = some m.cls := findClass_of_methodNamed Bd.named
  have hnm := (name_of_methodNamed Bd.named Bd.method).1
  have X0 : Stand p l e ({ frames := 0, cells := 0, slots := 0, locals := 0 } : Room) s m #[(.int p0), (.int p1), (.int p2), .null] below meth c s₁ [] 0 0 := Stand.of_body Bd
  have e0 : s₁.heap = h0 := by rw [← hh, Bd.state]; rfl
  have N0 := Fr.nil n0
  suffices G0 : Rch p e below (Gd s (Q5 Z p0 p1 p2 h0 n0) ({ frames := 0, cells := 0, slots := 0, locals := 0 } : Room).cells ({ frames := 0, cells := 0, slots := 0, locals := 0 } : Room).slots) s₁ (mkF m 0 #[.val (.int p0), .val (.int p1), .val (.int p2), .val .null] []) by
    obtain ⟨s₂, o, r1, r2, r3, r4⟩ := G0
    exact ⟨s₂, o, castTop (ef_5 m p0 p1 p2) r1, r2, r3, r4⟩
  refine own_go (T := s₁) (T' := s₁) (f := (mkF m 0 #[.val (.int p0), .val (.int p1), .val (.int p2), .val .null] [])) (f' := (mkF m 5 #[.val (.int p0), .val (.int p1), .val (.int p2), .val .null] [(.int ((p2 ||| p0) ||| p1))])) (fun t k => ?_) ?_
  · show Steps p.tables e below (s₁.setTop (mkF m 0 #[.val (.int p0), .val (.int p1), .val (.int p2), .val .null] [])) _
    refine XS.iloadN X0.here hx rfl (hb hby d5_0) rfl ?_
    show Steps p.tables e below (s₁.setTop (mkF m 1 #[.val (.int p0), .val (.int p1), .val (.int p2), .val .null] [(.int p2)])) _
    refine XS.iloadN X0.here hx rfl (hb hby d5_1) rfl ?_
    show Steps p.tables e below (s₁.setTop (mkF m 2 #[.val (.int p0), .val (.int p1), .val (.int p2), .val .null] [(.int p0), (.int p2)])) _
    refine XS.ior X0.here hx rfl (hb hby d5_2) rfl ?_
    show Steps p.tables e below (s₁.setTop (mkF m 3 #[.val (.int p0), .val (.int p1), .val (.int p2), .val .null] [(.int (p2 ||| p0))])) _
    refine XS.iloadN X0.here hx rfl (hb hby d5_3) rfl ?_
    show Steps p.tables e below (s₁.setTop (mkF m 4 #[.val (.int p0), .val (.int p1), .val (.int p2), .val .null] [(.int p1), (.int (p2 ||| p0))])) _
    refine XS.ior X0.here hx rfl (hb hby d5_4) rfl ?_
    exact k
  refine own_go (T := s₁) (T' := s₁) (f := (mkF m 5 #[.val (.int p0), .val (.int p1), .val (.int p2), .val .null] [(.int ((p2 ||| p0) ||| p1))])) (f' := (mkF m 8 #[.val (.int p0), .val (.int p1), .val (.int p2), .val .null] [])) (fun t k => ?_) ?_
  · show Steps p.tables e below (s₁.setTop (mkF m 5 #[.val (.int p0), .val (.int p1), .val (.int p2), .val .null] [(.int ((p2 ||| p0) ||| p1))])) _
    refine XS.ifNo X0.here hx rfl (hb hby d5_5) rfl ((if0 _ _).trans (flt hor).1) ?_
    exact k
  refine own_go (T := s₁) (T' := s₁) (f := (mkF m 8 #[.val (.int p0), .val (.int p1), .val (.int p2), .val .null] [])) (f' := (mkF m 12 #[.val (.int p0), .val (.int p1), .val (.int p2), .val .null] [(.int (p2 - p0)), (.int p1)])) (fun t k => ?_) ?_
  · show Steps p.tables e below (s₁.setTop (mkF m 8 #[.val (.int p0), .val (.int p1), .val (.int p2), .val .null] [])) _
    refine XS.iloadN X0.here hx rfl (hb hby d5_8) rfl ?_
    show Steps p.tables e below (s₁.setTop (mkF m 9 #[.val (.int p0), .val (.int p1), .val (.int p2), .val .null] [(.int p1)])) _
    refine XS.iloadN X0.here hx rfl (hb hby d5_9) rfl ?_
    show Steps p.tables e below (s₁.setTop (mkF m 10 #[.val (.int p0), .val (.int p1), .val (.int p2), .val .null] [(.int p2), (.int p1)])) _
    refine XS.iloadN X0.here hx rfl (hb hby d5_10) rfl ?_
    show Steps p.tables e below (s₁.setTop (mkF m 11 #[.val (.int p0), .val (.int p1), .val (.int p2), .val .null] [(.int p0), (.int p2), (.int p1)])) _
    refine XS.isub X0.here hx rfl (hb hby d5_11) rfl ?_
    exact k
  refine own_go (T := s₁) (T' := s₁) (f := (mkF m 12 #[.val (.int p0), .val (.int p1), .val (.int p2), .val .null] [(.int (p2 - p0)), (.int p1)])) (f' := (mkF m 23 #[.val (.int p0), .val (.int p1), .val (.int p2), .val .null] [])) (fun t k => ?_) ?_
  · show Steps p.tables e below (s₁.setTop (mkF m 12 #[.val (.int p0), .val (.int p1), .val (.int p2), .val .null] [(.int (p2 - p0)), (.int p1)])) _
    refine XS.icmpYes X0.here hx rfl (pc0 := 12) (pc' := 23) rfl (hb hby d5_12) rfl (flt hle).2.2.2 (by decide) (by decide) ?_
    exact k
  refine own_go (T := s₁) (T' := s₁) (f := (mkF m 23 #[.val (.int p0), .val (.int p1), .val (.int p2), .val .null] [])) (f' := (mkF m 24 #[.val (.int p0), .val (.int p1), .val (.int p2), .val .null] [(.int p0)])) (fun t k => ?_) ?_
  · show Steps p.tables e below (s₁.setTop (mkF m 23 #[.val (.int p0), .val (.int p1), .val (.int p2), .val .null] [])) _
    refine XS.iloadN X0.here hx rfl (hb hby d5_23) rfl ?_
    exact k
  exact own_retI X0 hx hlk hret (hb hby d5_24) (by decide) (by decide) (by rw [e0]; exact ⟨rfl, N0, rfl⟩)
theorem d4_0 : decode jdk_31_method_19_code 0 = .ok (.iload_n 0, 1) := by decide +kernel
theorem d4_1 : decode jdk_31_method_19_code 1 = .ok (.iload_n 1, 1) := by decide +kernel
theorem d4_2 : decode jdk_31_method_19_code 2 = .ok (.iload_n 2, 1) := by decide +kernel
theorem d4_3 : decode jdk_31_method_19_code 3 = .ok (.aconst_null, 1) := by decide +kernel
theorem d4_4 : decode jdk_31_method_19_code 4 = .ok (.invokestatic 115, 3) := by decide +kernel
theorem pd__28IIILjava_2futil_2ffunction_2fBiFunction_3b_29I : parseMethodDescriptor "(IIILjava/util/function/BiFunction;)I" = some ⟨[.int, .int, .int, (.object "java/util/function/BiFunction")], some .int⟩ := by decide +kernel
theorem d4_7 : decode jdk_31_method_19_code 7 = .ok (.ireturn, 1) := by decide +kernel
theorem pn_4 : plainName "java/util/Objects" = true := by first | (simp [plainName, overriddenIn]; done) | decide +kernel
theorem ef_4 (m : MethodId) (x0 : Int32) (x1 : Int32) (x2 : Int32) : entryFrame m #[(.int x0), (.int x1), (.int x2)] 3 = mkF m 0 #[.val (.int x0), .val (.int x1), .val (.int x2)] [] := by first | (simp [entryFrame, mkF, argsToLocals, Value.category]; done) | rfl
def Q4 (Z : State) (p0 : Int32) (p1 : Int32) (p2 : Int32) (h0 : Heap) (n0 : Nat) (v : Option Value) (h : Heap) (L : List Loc) : Prop := v = some (.int p0) ∧ Fr n0 L ∧ h = h0
set_option maxRecDepth 65536 in
set_option maxHeartbeats 40000000 in
theorem rm4 (l : Launch) (Z : State) (a0 : Array Value) (hw : ∀ d ∈ tables_1, d.before a0 Z = true) (ws : List Jvm.Cond) (p0 : Int32) (p1 : Int32) (p2 : Int32) (h0 : Heap) (n0 : Nat) (Z0 : n0 ≤ h0.size) (hor : ¬ (((p2 ||| p0) ||| p1) < (0 : Int32))) (hle : ¬ ((p2 - p0) < p1)) :
    MetFree l (⟨"java/util/Objects", "checkFromIndexSize", "(III)I"⟩ : MethodName) (head1 (Jvm.Cond.code (⟨"java/util/Objects", "checkFromIndexSize", "(III)I"⟩ : MethodName) jdk_31_method_19_code 3 (some .int) :: ws) ({ frames := 1, cells := 0, slots := 0, locals := 20 } : Room)) (fun a U => a = #[(.int p0), (.int p1), (.int p2)] ∧ Z.Warmed39 U.vm ∧ U.heap = h0) (fun _ _ _ _ _ => True) (fun _ U o U' => ∃ v L, o = .returned v ∧ Q4 Z p0 p1 p2 h0 n0 v U'.heap L ∧ FrameEnd U o U' L ({ frames := 1, cells := 0, slots := 0, locals := 20 } : Room).cells ({ frames := 1, cells := 0, slots := 0, locals := 20 } : Room).slots) := by
  refine MetFree.of_bodySF (plainFor_of_name pn_4) hisR ?_
  intro p e s m args below meth c s₁ Bd hml0 hP hK
  obtain ⟨rfl, hZ, hh⟩ := hP
  have hx := Bd.exec
  have hby := Bd.bytes
  have hlk := Bd.notSynchronized
  have hret := Bd.returns
  have hml : c.maxLocals = 3 := hml0
  have hown : s.vm.findClass "java/util/Objects" = some m.cls := findClass_of_methodNamed Bd.named
  have hnm := (name_of_methodNamed Bd.named Bd.method).1
  have X0 : Stand p l e ({ frames := 1, cells := 0, slots := 0, locals := 20 } : Room) s m #[(.int p0), (.int p1), (.int p2)] below meth c s₁ [] 0 0 := Stand.of_body Bd
  have e0 : s₁.heap = h0 := by rw [← hh, Bd.state]; rfl
  have N0 := Fr.nil n0
  suffices G0 : Rch p e below (Gd s (Q4 Z p0 p1 p2 h0 n0) ({ frames := 1, cells := 0, slots := 0, locals := 20 } : Room).cells ({ frames := 1, cells := 0, slots := 0, locals := 20 } : Room).slots) s₁ (mkF m 0 #[.val (.int p0), .val (.int p1), .val (.int p2)] []) by
    obtain ⟨s₂, o, r1, r2, r3, r4⟩ := G0
    exact ⟨s₂, o, castTop (ef_4 m p0 p1 p2) r1, r2, r3, r4⟩
  refine own_go (T := s₁) (T' := s₁) (f := (mkF m 0 #[.val (.int p0), .val (.int p1), .val (.int p2)] [])) (f' := (mkF m 4 #[.val (.int p0), .val (.int p1), .val (.int p2)] [.null, (.int p2), (.int p1), (.int p0)])) (fun t k => ?_) ?_
  · show Steps p.tables e below (s₁.setTop (mkF m 0 #[.val (.int p0), .val (.int p1), .val (.int p2)] [])) _
    refine XS.iloadN X0.here hx rfl (hb hby d4_0) rfl ?_
    show Steps p.tables e below (s₁.setTop (mkF m 1 #[.val (.int p0), .val (.int p1), .val (.int p2)] [(.int p0)])) _
    refine XS.iloadN X0.here hx rfl (hb hby d4_1) rfl ?_
    show Steps p.tables e below (s₁.setTop (mkF m 2 #[.val (.int p0), .val (.int p1), .val (.int p2)] [(.int p1), (.int p0)])) _
    refine XS.iloadN X0.here hx rfl (hb hby d4_2) rfl ?_
    show Steps p.tables e below (s₁.setTop (mkF m 3 #[.val (.int p0), .val (.int p1), .val (.int p2)] [(.int p2), (.int p1), (.int p0)])) _
    refine XS.aconstNull X0.here hx rfl (hb hby d4_3) ?_
    exact k
  obtain ⟨_, _, ⟨T4, L4, k4, n4⟩, -, X4, ⟨Lc4, hQ4, l4, y4, z4⟩, st4⟩ := Jvm.LawKit.callS X0 hx (y := (⟨"jdk/internal/util/Preconditions", "checkFromIndexSize", "(IIILjava/util/function/BiFunction;)I"⟩ : MethodName)) hown (mvT hZ (hw _ (List.mem_of_getElem? (i := 23) rfl))) (mvT hZ (hw _ (List.mem_of_getElem? (i := 24) rfl))) (mvT hZ (hw _ (List.mem_of_getElem? (i := 25) rfl))) (mvT hZ (hw _ (List.mem_of_getElem? (i := 26) rfl))) (by decide) (backOf (W := 0) (rm5 l Z a0 hw [] p0 p1 p2 h0 n0 Z0 hor hle) hZ (hw _ (List.mem_of_getElem? (i := 26) rfl)) (hw _ (List.mem_of_getElem? (i := 25) rfl)) (by decide) (by decide)) (g := (mkF m 4 #[.val (.int p0), .val (.int p1), .val (.int p2)] [.null, (.int p2), (.int p1), (.int p0)])) rfl (by rw [hml]; rfl) (argsL := [(.int p0), (.int p1), (.int p2), .null]) (rest := []) (lenOf pd__28IIILjava_2futil_2ffunction_2fBiFunction_3b_29I rfl) rfl (by show 2 * 0 + _ ≤ _; exact Nat.le_of_eq rfl) (hb hby d4_4) (fun _ _ => ⟨rfl, e0, (by decide : 0 + 0 ≤ _), (by decide : 0 + 0 ≤ _)⟩)
  dsimp only [Pt.U, Pt.locs, Pt.cells, Pt.slots] at X4 l4 y4 z4 st4 hQ4
  subst l4 y4 z4
  obtain ⟨rfl, N4q, e4⟩ := hQ4
  have N4 := Fr.app N0 N4q
  refine own_go st4 ?_
  show Rch p e below _ T4 (mkF m 7 #[.val (.int p0), .val (.int p1), .val (.int p2)] [(.int p0)])
  exact own_retI X4 hx hlk hret (hb hby d4_7) (by decide) (by decide) (by rw [e4]; exact ⟨rfl, N4, rfl⟩)
theorem d3_0 : decode prog_29_method_2_code 0 = .ok (.iload_n 2, 1) := by decide +kernel
theorem d3_1 : decode prog_29_method_2_code 1 = .ok (.iload_n 3, 1) := by decide +kernel
theorem d3_2 : decode prog_29_method_2_code 2 = .ok (.aload_n 1, 1) := by decide +kernel
theorem d3_3 : decode prog_29_method_2_code 3 = .ok (.arraylength, 1) := by decide +kernel
theorem d3_4 : decode prog_29_method_2_code 4 = .ok (.invokestatic 13, 3) := by decide +kernel
theorem pd__28III_29I : parseMethodDescriptor "(III)I" = some ⟨[.int, .int, .int], some .int⟩ := by decide +kernel
theorem d3_7 : decode prog_29_method_2_code 7 = .ok (.pop, 1) := by decide +kernel
theorem d3_8 : decode prog_29_method_2_code 8 = .ok (.iload_n 2, 1) := by decide +kernel
theorem d3_9 : decode prog_29_method_2_code 9 = .ok (.iload_n 3, 1) := by decide +kernel
theorem d3_10 : decode prog_29_method_2_code 10 = .ok (.iadd, 1) := by decide +kernel
theorem d3_11 : decode prog_29_method_2_code 11 = .ok (.istore 4, 2) := by decide +kernel
theorem d3_13 : decode prog_29_method_2_code 13 = .ok (.iload_n 2, 1) := by decide +kernel
theorem d3_14 : decode prog_29_method_2_code 14 = .ok (.istore 5, 2) := by decide +kernel
theorem d3_16 : decode prog_29_method_2_code 16 = .ok (.iload 5, 2) := by decide +kernel
theorem d3_18 : decode prog_29_method_2_code 18 = .ok (.iload 4, 2) := by decide +kernel
theorem d3_20 : decode prog_29_method_2_code 20 = .ok (.if_icmp .ge 26, 3) := by decide +kernel
theorem d3_46 : decode prog_29_method_2_code 46 = .ok (.return_, 1) := by decide +kernel
theorem d3_23 : decode prog_29_method_2_code 23 = .ok (.aload_n 0, 1) := by decide +kernel
theorem d3_24 : decode prog_29_method_2_code 24 = .ok (.getfield 9, 3) := by decide +kernel
theorem d3_27 : decode prog_29_method_2_code 27 = .ok (.aload_n 1, 1) := by decide +kernel
theorem d3_28 : decode prog_29_method_2_code 28 = .ok (.iload 5, 2) := by decide +kernel
theorem d3_30 : decode prog_29_method_2_code 30 = .ok (.baload, 1) := by decide +kernel
theorem d3_31 : decode prog_29_method_2_code 31 = .ok (.sipush 255, 3) := by decide +kernel
theorem d3_34 : decode prog_29_method_2_code 34 = .ok (.iand, 1) := by decide +kernel
theorem d3_35 : decode prog_29_method_2_code 35 = .ok (.dup2, 1) := by decide +kernel
theorem d3_36 : decode prog_29_method_2_code 36 = .ok (.laload, 1) := by decide +kernel
theorem d3_37 : decode prog_29_method_2_code 37 = .ok (.lconst 1, 1) := by decide +kernel
theorem d3_38 : decode prog_29_method_2_code 38 = .ok (.ladd, 1) := by decide +kernel
theorem d3_39 : decode prog_29_method_2_code 39 = .ok (.lastore, 1) := by decide +kernel
theorem d3_40 : decode prog_29_method_2_code 40 = .ok (.iinc 5 1, 3) := by decide +kernel
theorem d3_43 : decode prog_29_method_2_code 43 = .ok (.goto (-27), 3) := by decide +kernel
theorem pn_3 : plainName "com/example/leafweight/leafweight/codec/ByteCounts" = true := by first | (simp [plainName, overriddenIn]; done) | decide +kernel
theorem ef_3 (m : MethodId) (x0 : Addr) (x1 : Addr) (x2 : Int32) (x3 : Int32) : entryFrame m #[(.ref x0), (.ref x1), (.int x2), (.int x3)] 6 = mkF m 0 #[.val (.ref x0), .val (.ref x1), .val (.int x2), .val (.int x3), .unset, .unset] [] := by first | (simp [entryFrame, mkF, argsToLocals, Value.category]; done) | rfl
def Q3 (Z : State) (u0 : Addr) (u1 : Addr) (oo : Nat) (ll : Nat) (ca : Addr) (kc : ClassId) (kb : ClassId) (bs : Nat → Int32) (f : Nat → Int64) (h0 : Heap) (n0 : Nat) (v : Option Value) (h : Heap) (L : List Loc) : Prop := v = none ∧ Fr n0 L ∧ Keep h0 h [ca] ∧ Cnt Z h ca kc (own_add (own_ix bs) ll oo f)
set_option maxRecDepth 65536 in
set_option maxHeartbeats 40000000 in
theorem rm3 (l : Launch) (Z : State) (a0 : Array Value) (hw : ∀ d ∈ tables_1, d.before a0 Z = true) (ws : List Jvm.Cond) (u0 : Addr) (u1 : Addr) (oo : Nat) (ll : Nat) (ca : Addr) (kc : ClassId) (kb : ClassId) (bs : Nat → Int32) (f : Nat → Int64) (h0 : Heap) (n0 : Nat) (Z0 : n0 ≤ h0.size) (hol : oo + ll ≤ 4) (F : Fld Z h0 u0 "com/example/leafweight/leafweight/codec/ByteCounts" "counts" "[J" (.ref ca)) (Vb : Arv Z h0 u1 kb .byte (4 : Int32) [.int (bs 0), .int (bs 1), .int (bs 2), .int (bs 3)] (.int (0 : Int32))) (Vc : Cnt Z h0 ca kc f) (g : n0 ≤ ca) (ne0 : u0 ≠ ca) (ne1 : u1 ≠ ca) :
    MetFree l (⟨"com/example/leafweight/leafweight/codec/ByteCounts", "add", "([BII)V"⟩ : MethodName) (head1 (Jvm.Cond.code (⟨"com/example/leafweight/leafweight/codec/ByteCounts", "add", "([BII)V"⟩ : MethodName) prog_29_method_2_code 6 none :: ws) ({ frames := 2, cells := 0, slots := 0, locals := 40 } : Room)) (fun a U => a = #[(.ref u0), (.ref u1), (.int (Int32.ofNat oo)), (.int (Int32.ofNat ll))] ∧ Z.Warmed39 U.vm ∧ U.heap = h0) (fun _ _ _ _ _ => True) (fun _ U o U' => ∃ v L, o = .returned v ∧ Q3 Z u0 u1 oo ll ca kc kb bs f h0 n0 v U'.heap L ∧ FrameEnd U o U' L ({ frames := 2, cells := 0, slots := 0, locals := 40 } : Room).cells ({ frames := 2, cells := 0, slots := 0, locals := 40 } : Room).slots) := by
  refine MetFree.of_bodySF (plainFor_of_name pn_3) hisR ?_
  intro p e s m args below meth c s₁ Bd hml0 hP hK
  obtain ⟨rfl, hZ, hh⟩ := hP
  have hx := Bd.exec
  have hby := Bd.bytes
  have hlk := Bd.notSynchronized
  have hret := Bd.returns
  have hml : c.maxLocals = 6 := hml0
  have hown : s.vm.findClass "com/example/leafweight/leafweight/codec/ByteCounts" = some m.cls := findClass_of_methodNamed Bd.named
  have hnm := (name_of_methodNamed Bd.named Bd.method).1
  have X0 : Stand p l e ({ frames := 2, cells := 0, slots := 0, locals := 40 } : Room) s m #[(.ref u0), (.ref u1), (.int (Int32.ofNat oo)), (.int (Int32.ofNat ll))] below meth c s₁ [] 0 0 := Stand.of_body Bd
  have e0 : s₁.heap = h0 := by rw [← hh, Bd.state]; rfl
  have N0 := Fr.nil n0
  suffices G0 : Rch p e below (Gd s (Q3 Z u0 u1 oo ll ca kc kb bs f h0 n0) ({ frames := 2, cells := 0, slots := 0, locals := 40 } : Room).cells ({ frames := 2, cells := 0, slots := 0, locals := 40 } : Room).slots) s₁ (mkF m 0 #[.val (.ref u0), .val (.ref u1), .val (.int (Int32.ofNat oo)), .val (.int (Int32.ofNat ll)), .unset, .unset] []) by
    obtain ⟨s₂, o, r1, r2, r3, r4⟩ := G0
    exact ⟨s₂, o, castTop (ef_3 m u0 u1 (Int32.ofNat oo) (Int32.ofNat ll)) r1, r2, r3, r4⟩
  have hchk := own_chk ⟨oo, by omega⟩ ⟨ll, by omega⟩ hol
  refine own_go (T := s₁) (T' := s₁) (f := (mkF m 0 #[.val (.ref u0), .val (.ref u1), .val (.int (Int32.ofNat oo)), .val (.int (Int32.ofNat ll)), .unset, .unset] [])) (f' := (mkF m 3 #[.val (.ref u0), .val (.ref u1), .val (.int (Int32.ofNat oo)), .val (.int (Int32.ofNat ll)), .unset, .unset] [(.ref u1), (.int (Int32.ofNat ll)), (.int (Int32.ofNat oo))])) (fun t k => ?_) ?_
  · show Steps p.tables e below (s₁.setTop (mkF m 0 #[.val (.ref u0), .val (.ref u1), .val (.int (Int32.ofNat oo)), .val (.int (Int32.ofNat ll)), .unset, .unset] [])) _
    refine XS.iloadN X0.here hx rfl (hb hby d3_0) rfl ?_
    show Steps p.tables e below (s₁.setTop (mkF m 1 #[.val (.ref u0), .val (.ref u1), .val (.int (Int32.ofNat oo)), .val (.int (Int32.ofNat ll)), .unset, .unset] [(.int (Int32.ofNat oo))])) _
    refine XS.iloadN X0.here hx rfl (hb hby d3_1) rfl ?_
    show Steps p.tables e below (s₁.setTop (mkF m 2 #[.val (.ref u0), .val (.ref u1), .val (.int (Int32.ofNat oo)), .val (.int (Int32.ofNat ll)), .unset, .unset] [(.int (Int32.ofNat ll)), (.int (Int32.ofNat oo))])) _
    refine XS.aloadN X0.here hx rfl (hb hby d3_2) rfl rfl ?_
    exact k
  obtain ⟨cl5, Ar5, q15, q25, q35, q45, q55⟩ := id Vb
  refine own_go (T := s₁) (T' := s₁) (f := (mkF m 3 #[.val (.ref u0), .val (.ref u1), .val (.int (Int32.ofNat oo)), .val (.int (Int32.ofNat ll)), .unset, .unset] [(.ref u1), (.int (Int32.ofNat ll)), (.int (Int32.ofNat oo))])) (f' := (mkF m 4 #[.val (.ref u0), .val (.ref u1), .val (.int (Int32.ofNat oo)), .val (.int (Int32.ofNat ll)), .unset, .unset] [(.int (4 : Int32)), (.int (Int32.ofNat ll)), (.int (Int32.ofNat oo))])) (fun t k => ?_) ?_
  · refine X0.arraylength hx (by rw [e0]; exact Ar5.1) (State.isArrayOf_alike hZ.alike Ar5.2.1) (g := (mkF m 3 #[.val (.ref u0), .val (.ref u1), .val (.int (Int32.ofNat oo)), .val (.int (Int32.ofNat ll)), .unset, .unset] [(.ref u1), (.int (Int32.ofNat ll)), (.int (Int32.ofNat oo))])) rfl rfl (hb hby d3_3) _ ?_
    rw [len_of q25 q35]
    exact k
  obtain ⟨_, _, ⟨T6, L6, k6, n6⟩, -, X6, ⟨Lc6, hQ6, l6, y6, z6⟩, st6⟩ := Jvm.LawKit.callS X0 hx (y := (⟨"java/util/Objects", "checkFromIndexSize", "(III)I"⟩ : MethodName)) hown (mvT hZ (hw _ (List.mem_of_getElem? (i := 19) rfl))) (mvT hZ (hw _ (List.mem_of_getElem? (i := 20) rfl))) (mvT hZ (hw _ (List.mem_of_getElem? (i := 21) rfl))) (mvT hZ (hw _ (List.mem_of_getElem? (i := 22) rfl))) (by decide) (backOf (W := 0) (rm4 l Z a0 hw [] (Int32.ofNat oo) (Int32.ofNat ll) (4 : Int32) h0 n0 Z0 hchk.1 hchk.2) hZ (hw _ (List.mem_of_getElem? (i := 22) rfl)) (hw _ (List.mem_of_getElem? (i := 21) rfl)) (by decide) (by decide)) (g := (mkF m 4 #[.val (.ref u0), .val (.ref u1), .val (.int (Int32.ofNat oo)), .val (.int (Int32.ofNat ll)), .unset, .unset] [(.int (4 : Int32)), (.int (Int32.ofNat ll)), (.int (Int32.ofNat oo))])) rfl (by rw [hml]; rfl) (argsL := [(.int (Int32.ofNat oo)), (.int (Int32.ofNat ll)), (.int (4 : Int32))]) (rest := []) (lenOf pd__28III_29I rfl) rfl (by show 2 * 0 + _ ≤ _; exact Nat.le_of_eq rfl) (hb hby d3_4) (fun _ _ => ⟨rfl, e0, (by decide : 0 + 0 ≤ _), (by decide : 0 + 0 ≤ _)⟩)
  dsimp only [Pt.U, Pt.locs, Pt.cells, Pt.slots] at X6 l6 y6 z6 st6 hQ6
  subst l6 y6 z6
  obtain ⟨rfl, N6q, e6⟩ := hQ6
  have N6 := Fr.app N0 N6q
  refine own_go st6 ?_
  show Rch p e below _ T6 (mkF m 7 #[.val (.ref u0), .val (.ref u1), .val (.int (Int32.ofNat oo)), .val (.int (Int32.ofNat ll)), .unset, .unset] [(.int (Int32.ofNat oo))])
  refine own_go (T := T6) (T' := T6) (f := (mkF m 7 #[.val (.ref u0), .val (.ref u1), .val (.int (Int32.ofNat oo)), .val (.int (Int32.ofNat ll)), .unset, .unset] [(.int (Int32.ofNat oo))])) (f' := (mkF m 16 #[.val (.ref u0), .val (.ref u1), .val (.int (Int32.ofNat oo)), .val (.int (Int32.ofNat ll)), .val (.int ((Int32.ofNat oo) + (Int32.ofNat ll))), .val (.int (Int32.ofNat oo))] [])) (fun t k => ?_) ?_
  · show Steps p.tables e below (T6.setTop (mkF m 7 #[.val (.ref u0), .val (.ref u1), .val (.int (Int32.ofNat oo)), .val (.int (Int32.ofNat ll)), .unset, .unset] [(.int (Int32.ofNat oo))])) _
    refine XS.pop X6.here hx rfl (hb hby d3_7) rfl rfl ?_
    show Steps p.tables e below (T6.setTop (mkF m 8 #[.val (.ref u0), .val (.ref u1), .val (.int (Int32.ofNat oo)), .val (.int (Int32.ofNat ll)), .unset, .unset] [])) _
    refine XS.iloadN X6.here hx rfl (hb hby d3_8) rfl ?_
    show Steps p.tables e below (T6.setTop (mkF m 9 #[.val (.ref u0), .val (.ref u1), .val (.int (Int32.ofNat oo)), .val (.int (Int32.ofNat ll)), .unset, .unset] [(.int (Int32.ofNat oo))])) _
    refine XS.iloadN X6.here hx rfl (hb hby d3_9) rfl ?_
    show Steps p.tables e below (T6.setTop (mkF m 10 #[.val (.ref u0), .val (.ref u1), .val (.int (Int32.ofNat oo)), .val (.int (Int32.ofNat ll)), .unset, .unset] [(.int (Int32.ofNat ll)), (.int (Int32.ofNat oo))])) _
    refine XS.iadd X6.here hx rfl (hb hby d3_10) rfl ?_
    show Steps p.tables e below (T6.setTop (mkF m 11 #[.val (.ref u0), .val (.ref u1), .val (.int (Int32.ofNat oo)), .val (.int (Int32.ofNat ll)), .unset, .unset] [(.int ((Int32.ofNat oo) + (Int32.ofNat ll)))])) _
    refine XS.istore X6.here hx rfl (hb hby d3_11) rfl (l' := #[.val (.ref u0), .val (.ref u1), .val (.int (Int32.ofNat oo)), .val (.int (Int32.ofNat ll)), .val (.int ((Int32.ofNat oo) + (Int32.ofNat ll))), .unset]) rfl ?_
    show Steps p.tables e below (T6.setTop (mkF m 13 #[.val (.ref u0), .val (.ref u1), .val (.int (Int32.ofNat oo)), .val (.int (Int32.ofNat ll)), .val (.int ((Int32.ofNat oo) + (Int32.ofNat ll))), .unset] [])) _
    refine XS.iloadN X6.here hx rfl (hb hby d3_13) rfl ?_
    show Steps p.tables e below (T6.setTop (mkF m 14 #[.val (.ref u0), .val (.ref u1), .val (.int (Int32.ofNat oo)), .val (.int (Int32.ofNat ll)), .val (.int ((Int32.ofNat oo) + (Int32.ofNat ll))), .unset] [(.int (Int32.ofNat oo))])) _
    refine XS.istore X6.here hx rfl (hb hby d3_14) rfl (l' := #[.val (.ref u0), .val (.ref u1), .val (.int (Int32.ofNat oo)), .val (.int (Int32.ofNat ll)), .val (.int ((Int32.ofNat oo) + (Int32.ofNat ll))), .val (.int (Int32.ofNat oo))]) rfl ?_
    exact k
  have loop : ∀ (k i : Nat) (T : State) (locs : List Loc) (h : Heap) (f' : Nat → Int64), i + k = oo + ll → Stand p l e ({ frames := 2, cells := 0, slots := 0, locals := 40 } : Room) s m #[(.ref u0), (.ref u1), (.int (Int32.ofNat oo)), (.int (Int32.ofNat ll))] below meth c T locs 0 0 → T.heap = h → Fr n0 locs → Keep h0 h [ca] → Cnt Z h ca kc f' → own_add (own_ix bs) k i f' = own_add (own_ix bs) ll oo f → Rch p e below (Gd s (Q3 Z u0 u1 oo ll ca kc kb bs f h0 n0) ({ frames := 2, cells := 0, slots := 0, locals := 40 } : Room).cells ({ frames := 2, cells := 0, slots := 0, locals := 40 } : Room).slots) T (mkF m 16 #[.val (.ref u0), .val (.ref u1), .val (.int (Int32.ofNat oo)), .val (.int (Int32.ofNat ll)), .val (.int ((Int32.ofNat oo) + (Int32.ofNat ll))), .val (.int (Int32.ofNat i))] []) := by
    intro k
    induction k with
    | zero =>
      intro i T locs h f' hk X eT N K Vc hf
      refine own_go (T := T) (T' := T) (f := (mkF m 16 #[.val (.ref u0), .val (.ref u1), .val (.int (Int32.ofNat oo)), .val (.int (Int32.ofNat ll)), .val (.int ((Int32.ofNat oo) + (Int32.ofNat ll))), .val (.int (Int32.ofNat i))] [])) (f' := (mkF m 20 #[.val (.ref u0), .val (.ref u1), .val (.int (Int32.ofNat oo)), .val (.int (Int32.ofNat ll)), .val (.int ((Int32.ofNat oo) + (Int32.ofNat ll))), .val (.int (Int32.ofNat i))] [(.int ((Int32.ofNat oo) + (Int32.ofNat ll))), (.int (Int32.ofNat i))])) (fun t k => ?_) ?_
      · show Steps p.tables e below (T.setTop (mkF m 16 #[.val (.ref u0), .val (.ref u1), .val (.int (Int32.ofNat oo)), .val (.int (Int32.ofNat ll)), .val (.int ((Int32.ofNat oo) + (Int32.ofNat ll))), .val (.int (Int32.ofNat i))] [])) _
        refine XS.iload X.here hx rfl (hb hby d3_16) rfl ?_
        show Steps p.tables e below (T.setTop (mkF m 18 #[.val (.ref u0), .val (.ref u1), .val (.int (Int32.ofNat oo)), .val (.int (Int32.ofNat ll)), .val (.int ((Int32.ofNat oo) + (Int32.ofNat ll))), .val (.int (Int32.ofNat i))] [(.int (Int32.ofNat i))])) _
        refine XS.iload X.here hx rfl (hb hby d3_18) rfl ?_
        exact k
      refine own_go (T := T) (T' := T) (f := (mkF m 20 #[.val (.ref u0), .val (.ref u1), .val (.int (Int32.ofNat oo)), .val (.int (Int32.ofNat ll)), .val (.int ((Int32.ofNat oo) + (Int32.ofNat ll))), .val (.int (Int32.ofNat i))] [(.int ((Int32.ofNat oo) + (Int32.ofNat ll))), (.int (Int32.ofNat i))])) (f' := (mkF m 46 #[.val (.ref u0), .val (.ref u1), .val (.int (Int32.ofNat oo)), .val (.int (Int32.ofNat ll)), .val (.int ((Int32.ofNat oo) + (Int32.ofNat ll))), .val (.int (Int32.ofNat i))] [])) (fun t k => ?_) ?_
      · show Steps p.tables e below (T.setTop (mkF m 20 #[.val (.ref u0), .val (.ref u1), .val (.int (Int32.ofNat oo)), .val (.int (Int32.ofNat ll)), .val (.int ((Int32.ofNat oo) + (Int32.ofNat ll))), .val (.int (Int32.ofNat i))] [(.int ((Int32.ofNat oo) + (Int32.ofNat ll))), (.int (Int32.ofNat i))])) _
        refine XS.icmpYes X.here hx rfl (pc0 := 20) (pc' := 46) rfl (hb hby d3_20) rfl (flt (own_nlt (by omega) hol)).2.1 (by decide) (by decide) ?_
        exact k
      exact own_retV X hx hlk hret (hb hby d3_46) (by decide) (by decide) (by rw [eT]; exact ⟨rfl, N, K, (by rw [← hf]; exact Vc)⟩)
    | succ k ih =>
      intro i T locs h f' hk X eT N K Vc hf
      refine own_go (T := T) (T' := T) (f := (mkF m 16 #[.val (.ref u0), .val (.ref u1), .val (.int (Int32.ofNat oo)), .val (.int (Int32.ofNat ll)), .val (.int ((Int32.ofNat oo) + (Int32.ofNat ll))), .val (.int (Int32.ofNat i))] [])) (f' := (mkF m 20 #[.val (.ref u0), .val (.ref u1), .val (.int (Int32.ofNat oo)), .val (.int (Int32.ofNat ll)), .val (.int ((Int32.ofNat oo) + (Int32.ofNat ll))), .val (.int (Int32.ofNat i))] [(.int ((Int32.ofNat oo) + (Int32.ofNat ll))), (.int (Int32.ofNat i))])) (fun t k => ?_) ?_
      · show Steps p.tables e below (T.setTop (mkF m 16 #[.val (.ref u0), .val (.ref u1), .val (.int (Int32.ofNat oo)), .val (.int (Int32.ofNat ll)), .val (.int ((Int32.ofNat oo) + (Int32.ofNat ll))), .val (.int (Int32.ofNat i))] [])) _
        refine XS.iload X.here hx rfl (hb hby d3_16) rfl ?_
        show Steps p.tables e below (T.setTop (mkF m 18 #[.val (.ref u0), .val (.ref u1), .val (.int (Int32.ofNat oo)), .val (.int (Int32.ofNat ll)), .val (.int ((Int32.ofNat oo) + (Int32.ofNat ll))), .val (.int (Int32.ofNat i))] [(.int (Int32.ofNat i))])) _
        refine XS.iload X.here hx rfl (hb hby d3_18) rfl ?_
        exact k
      refine own_go (T := T) (T' := T) (f := (mkF m 20 #[.val (.ref u0), .val (.ref u1), .val (.int (Int32.ofNat oo)), .val (.int (Int32.ofNat ll)), .val (.int ((Int32.ofNat oo) + (Int32.ofNat ll))), .val (.int (Int32.ofNat i))] [(.int ((Int32.ofNat oo) + (Int32.ofNat ll))), (.int (Int32.ofNat i))])) (f' := (mkF m 23 #[.val (.ref u0), .val (.ref u1), .val (.int (Int32.ofNat oo)), .val (.int (Int32.ofNat ll)), .val (.int ((Int32.ofNat oo) + (Int32.ofNat ll))), .val (.int (Int32.ofNat i))] [])) (fun t k => ?_) ?_
      · show Steps p.tables e below (T.setTop (mkF m 20 #[.val (.ref u0), .val (.ref u1), .val (.int (Int32.ofNat oo)), .val (.int (Int32.ofNat ll)), .val (.int ((Int32.ofNat oo) + (Int32.ofNat ll))), .val (.int (Int32.ofNat i))] [(.int ((Int32.ofNat oo) + (Int32.ofNat ll))), (.int (Int32.ofNat i))])) _
        refine XS.icmpNo X.here hx rfl (hb hby d3_20) rfl (tlt (own_ilt (by omega) hol)).2.1 ?_
        exact k
      refine own_go (T := T) (T' := T) (f := (mkF m 23 #[.val (.ref u0), .val (.ref u1), .val (.int (Int32.ofNat oo)), .val (.int (Int32.ofNat ll)), .val (.int ((Int32.ofNat oo) + (Int32.ofNat ll))), .val (.int (Int32.ofNat i))] [])) (f' := (mkF m 24 #[.val (.ref u0), .val (.ref u1), .val (.int (Int32.ofNat oo)), .val (.int (Int32.ofNat ll)), .val (.int ((Int32.ofNat oo) + (Int32.ofNat ll))), .val (.int (Int32.ofNat i))] [(.ref u0)])) (fun t k => ?_) ?_
      · show Steps p.tables e below (T.setTop (mkF m 23 #[.val (.ref u0), .val (.ref u1), .val (.int (Int32.ofNat oo)), .val (.int (Int32.ofNat ll)), .val (.int ((Int32.ofNat oo) + (Int32.ofNat ll))), .val (.int (Int32.ofNat i))] [])) _
        refine XS.aloadN X.here hx rfl (hb hby d3_23) rfl rfl ?_
        exact k
      obtain ⟨T7, X7, e7, st7⟩ := getF X hx hZ hown (host := "") (Or.inl (hw _ (List.mem_of_getElem? (i := 12) rfl))) Via.refl eT (F.keep K (ninS ne0 nin0)) (g := (mkF m 24 #[.val (.ref u0), .val (.ref u1), .val (.int (Int32.ofNat oo)), .val (.int (Int32.ofNat ll)), .val (.int ((Int32.ofNat oo) + (Int32.ofNat ll))), .val (.int (Int32.ofNat i))] [(.ref u0)])) rfl rfl (hb hby d3_24)
      refine own_go st7 ?_
      show Rch p e below _ T7 (mkF m 27 #[.val (.ref u0), .val (.ref u1), .val (.int (Int32.ofNat oo)), .val (.int (Int32.ofNat ll)), .val (.int ((Int32.ofNat oo) + (Int32.ofNat ll))), .val (.int (Int32.ofNat i))] [(.ref ca)])
      refine own_go (T := T7) (T' := T7) (f := (mkF m 27 #[.val (.ref u0), .val (.ref u1), .val (.int (Int32.ofNat oo)), .val (.int (Int32.ofNat ll)), .val (.int ((Int32.ofNat oo) + (Int32.ofNat ll))), .val (.int (Int32.ofNat i))] [(.ref ca)])) (f' := (mkF m 30 #[.val (.ref u0), .val (.ref u1), .val (.int (Int32.ofNat oo)), .val (.int (Int32.ofNat ll)), .val (.int ((Int32.ofNat oo) + (Int32.ofNat ll))), .val (.int (Int32.ofNat i))] [(.int (Int32.ofNat i)), (.ref u1), (.ref ca)])) (fun t k => ?_) ?_
      · show Steps p.tables e below (T7.setTop (mkF m 27 #[.val (.ref u0), .val (.ref u1), .val (.int (Int32.ofNat oo)), .val (.int (Int32.ofNat ll)), .val (.int ((Int32.ofNat oo) + (Int32.ofNat ll))), .val (.int (Int32.ofNat i))] [(.ref ca)])) _
        refine XS.aloadN X7.here hx rfl (hb hby d3_27) rfl rfl ?_
        show Steps p.tables e below (T7.setTop (mkF m 28 #[.val (.ref u0), .val (.ref u1), .val (.int (Int32.ofNat oo)), .val (.int (Int32.ofNat ll)), .val (.int ((Int32.ofNat oo) + (Int32.ofNat ll))), .val (.int (Int32.ofNat i))] [(.ref u1), (.ref ca)])) _
        refine XS.iload X7.here hx rfl (hb hby d3_28) rfl ?_
        exact k
      have Vb1 := Vb.keep K (ninS ne1 nin0)
      have hi : i < 4 := by omega
      obtain ⟨cl8, Ar8, q18, q28, q38, q48, q58⟩ := id Vb1
      have hin8 : ¬ ((Int32.ofNat i) < 0 ∨ cl8.slots.size ≤ ((Int32.ofNat i)).toNatClampNeg) := inb_of q28 ⟨by rw [Int32.lt_iff_toInt_lt, own_of (by omega), own_l0]; omega, by rw [Int32.lt_iff_toInt_lt, own_of (by omega), show (4 : Int32).toInt = 4 from by decide]; omega⟩
      refine own_go (f' := (mkF m 31 #[.val (.ref u0), .val (.ref u1), .val (.int (Int32.ofNat oo)), .val (.int (Int32.ofNat ll)), .val (.int ((Int32.ofNat oo) + (Int32.ofNat ll))), .val (.int (Int32.ofNat i))] [(.int (bs i)), (.ref ca)])) (X7.baloadBytes hx (j := (Int32.ofNat i)) (v := (.int (bs i))) (by rw [e7]; exact Ar8.1) (State.isArrayOf_alike hZ.alike Ar8.2.1) Ar8.2.2 hin8 (Has.at q48 hin8 (own_getb bs hi _)) (g := (mkF m 30 #[.val (.ref u0), .val (.ref u1), .val (.int (Int32.ofNat oo)), .val (.int (Int32.ofNat ll)), .val (.int ((Int32.ofNat oo) + (Int32.ofNat ll))), .val (.int (Int32.ofNat i))] [(.int (Int32.ofNat i)), (.ref u1), (.ref ca)])) rfl rfl (hb hby d3_30)) ?_
      show Rch p e below _ T7 (mkF m 31 #[.val (.ref u0), .val (.ref u1), .val (.int (Int32.ofNat oo)), .val (.int (Int32.ofNat ll)), .val (.int ((Int32.ofNat oo) + (Int32.ofNat ll))), .val (.int (Int32.ofNat i))] [(.int (bs i)), (.ref ca)])
      refine own_go (T := T7) (T' := T7) (f := (mkF m 31 #[.val (.ref u0), .val (.ref u1), .val (.int (Int32.ofNat oo)), .val (.int (Int32.ofNat ll)), .val (.int ((Int32.ofNat oo) + (Int32.ofNat ll))), .val (.int (Int32.ofNat i))] [(.int (bs i)), (.ref ca)])) (f' := (mkF m 36 #[.val (.ref u0), .val (.ref u1), .val (.int (Int32.ofNat oo)), .val (.int (Int32.ofNat ll)), .val (.int ((Int32.ofNat oo) + (Int32.ofNat ll))), .val (.int (Int32.ofNat i))] [(.int ((bs i) &&& (255 : Int32))), (.ref ca), (.int ((bs i) &&& (255 : Int32))), (.ref ca)])) (fun t k => ?_) ?_
      · show Steps p.tables e below (T7.setTop (mkF m 31 #[.val (.ref u0), .val (.ref u1), .val (.int (Int32.ofNat oo)), .val (.int (Int32.ofNat ll)), .val (.int ((Int32.ofNat oo) + (Int32.ofNat ll))), .val (.int (Int32.ofNat i))] [(.int (bs i)), (.ref ca)])) _
        refine XS.sipush X7.here hx rfl (hb hby d3_31) ?_
        show Steps p.tables e below (T7.setTop (mkF m 34 #[.val (.ref u0), .val (.ref u1), .val (.int (Int32.ofNat oo)), .val (.int (Int32.ofNat ll)), .val (.int ((Int32.ofNat oo) + (Int32.ofNat ll))), .val (.int (Int32.ofNat i))] [(.int (255 : Int32)), (.int (bs i)), (.ref ca)])) _
        refine XS.iand X7.here hx rfl (hb hby d3_34) rfl ?_
        show Steps p.tables e below (T7.setTop (mkF m 35 #[.val (.ref u0), .val (.ref u1), .val (.int (Int32.ofNat oo)), .val (.int (Int32.ofNat ll)), .val (.int ((Int32.ofNat oo) + (Int32.ofNat ll))), .val (.int (Int32.ofNat i))] [(.int ((bs i) &&& (255 : Int32))), (.ref ca)])) _
        refine XT.dup2 X7.here hx rfl (hb hby d3_35) rfl rfl rfl ?_
        exact k
      obtain ⟨cc, Ac, r1, r2, r3⟩ := Vc
      have hr := own_ixr (bs i)
      have hin := own_in r2 hr.1 hr.2
      refine own_go (f' := (mkF m 37 #[.val (.ref u0), .val (.ref u1), .val (.int (Int32.ofNat oo)), .val (.int (Int32.ofNat ll)), .val (.int ((Int32.ofNat oo) + (Int32.ofNat ll))), .val (.int (Int32.ofNat i))] [(.long (f' (own_ix bs i))), (.int ((bs i) &&& (255 : Int32))), (.ref ca)])) (X7.laload hx (j := ((bs i) &&& (255 : Int32))) (v := (.long (f' (own_ix bs i)))) (by rw [e7]; exact Ac.1) (State.isArrayOf_alike hZ.alike Ac.2.1) Ac.2.2 hin (r3 _ (own_ixl bs i)) (g := (mkF m 36 #[.val (.ref u0), .val (.ref u1), .val (.int (Int32.ofNat oo)), .val (.int (Int32.ofNat ll)), .val (.int ((Int32.ofNat oo) + (Int32.ofNat ll))), .val (.int (Int32.ofNat i))] [(.int ((bs i) &&& (255 : Int32))), (.ref ca), (.int ((bs i) &&& (255 : Int32))), (.ref ca)])) rfl rfl (hb hby d3_36)) ?_
      show Rch p e below _ T7 (mkF m 37 #[.val (.ref u0), .val (.ref u1), .val (.int (Int32.ofNat oo)), .val (.int (Int32.ofNat ll)), .val (.int ((Int32.ofNat oo) + (Int32.ofNat ll))), .val (.int (Int32.ofNat i))] [(.long (f' (own_ix bs i))), (.int ((bs i) &&& (255 : Int32))), (.ref ca)])
      refine own_go (T := T7) (T' := T7) (f := (mkF m 37 #[.val (.ref u0), .val (.ref u1), .val (.int (Int32.ofNat oo)), .val (.int (Int32.ofNat ll)), .val (.int ((Int32.ofNat oo) + (Int32.ofNat ll))), .val (.int (Int32.ofNat i))] [(.long (f' (own_ix bs i))), (.int ((bs i) &&& (255 : Int32))), (.ref ca)])) (f' := (mkF m 39 #[.val (.ref u0), .val (.ref u1), .val (.int (Int32.ofNat oo)), .val (.int (Int32.ofNat ll)), .val (.int ((Int32.ofNat oo) + (Int32.ofNat ll))), .val (.int (Int32.ofNat i))] [(.long ((f' (own_ix bs i)) + (1 : Int64))), (.int ((bs i) &&& (255 : Int32))), (.ref ca)])) (fun t k => ?_) ?_
      · show Steps p.tables e below (T7.setTop (mkF m 37 #[.val (.ref u0), .val (.ref u1), .val (.int (Int32.ofNat oo)), .val (.int (Int32.ofNat ll)), .val (.int ((Int32.ofNat oo) + (Int32.ofNat ll))), .val (.int (Int32.ofNat i))] [(.long (f' (own_ix bs i))), (.int ((bs i) &&& (255 : Int32))), (.ref ca)])) _
        refine XS.lconst X7.here hx rfl (hb hby d3_37) ?_
        show Steps p.tables e below (T7.setTop (mkF m 38 #[.val (.ref u0), .val (.ref u1), .val (.int (Int32.ofNat oo)), .val (.int (Int32.ofNat ll)), .val (.int ((Int32.ofNat oo) + (Int32.ofNat ll))), .val (.int (Int32.ofNat i))] [(.long (1 : Int64)), (.long (f' (own_ix bs i))), (.int ((bs i) &&& (255 : Int32))), (.ref ca)])) _
        refine XS.ladd X7.here hx rfl (hb hby d3_38) rfl ?_
        exact k
      obtain ⟨T9, h9, X9, e9, W9, st9⟩ := stJ X7 hx hZ e7 Ac (j := ((bs i) &&& (255 : Int32))) hin (g := (mkF m 39 #[.val (.ref u0), .val (.ref u1), .val (.int (Int32.ofNat oo)), .val (.int (Int32.ofNat ll)), .val (.int ((Int32.ofNat oo) + (Int32.ofNat ll))), .val (.int (Int32.ofNat i))] [(.long ((f' (own_ix bs i)) + (1 : Int64))), (.int ((bs i) &&& (255 : Int32))), (.ref ca)])) rfl rfl (hb hby d3_39)
      have N9 := Fr.snoc X9 N g
      refine own_go st9 ?_
      show Rch p e below _ T9 (mkF m 40 #[.val (.ref u0), .val (.ref u1), .val (.int (Int32.ofNat oo)), .val (.int (Int32.ofNat ll)), .val (.int ((Int32.ofNat oo) + (Int32.ofNat ll))), .val (.int (Int32.ofNat i))] [])
      have Vc' : Cnt Z h9 ca kc (own_upd f' (own_ix bs i)) := own_cset Ac r1 r2 r3 (own_ixl bs i) W9
      refine own_go (T := T9) (T' := T9) (f := (mkF m 40 #[.val (.ref u0), .val (.ref u1), .val (.int (Int32.ofNat oo)), .val (.int (Int32.ofNat ll)), .val (.int ((Int32.ofNat oo) + (Int32.ofNat ll))), .val (.int (Int32.ofNat i))] [])) (f' := (mkF m 16 #[.val (.ref u0), .val (.ref u1), .val (.int (Int32.ofNat oo)), .val (.int (Int32.ofNat ll)), .val (.int ((Int32.ofNat oo) + (Int32.ofNat ll))), .val (.int ((Int32.ofNat i) + (1 : Int32)))] [])) (fun t k => ?_) ?_
      · show Steps p.tables e below (T9.setTop (mkF m 40 #[.val (.ref u0), .val (.ref u1), .val (.int (Int32.ofNat oo)), .val (.int (Int32.ofNat ll)), .val (.int ((Int32.ofNat oo) + (Int32.ofNat ll))), .val (.int (Int32.ofNat i))] [])) _
        refine XS.iinc X9.here hx rfl (hb hby d3_40) rfl (l' := #[.val (.ref u0), .val (.ref u1), .val (.int (Int32.ofNat oo)), .val (.int (Int32.ofNat ll)), .val (.int ((Int32.ofNat oo) + (Int32.ofNat ll))), .val (.int ((Int32.ofNat i) + (1 : Int32)))]) rfl ?_
        show Steps p.tables e below (T9.setTop (mkF m 43 #[.val (.ref u0), .val (.ref u1), .val (.int (Int32.ofNat oo)), .val (.int (Int32.ofNat ll)), .val (.int ((Int32.ofNat oo) + (Int32.ofNat ll))), .val (.int ((Int32.ofNat i) + (1 : Int32)))] [])) _
        refine XS.goto X9.here hx rfl (pc0 := 43) (pc' := 16) rfl (hb hby d3_43) (by decide) (by decide) ?_
        exact k
      rw [own_one]
      exact ih (i + 1) _ _ _ _ (by omega) X9 e9 N9 (K.wr W9 (Or.inl (List.mem_of_getElem? (i := 0) rfl))) Vc' hf
  exact loop ll oo _ _ _ f rfl X6 e6 N6 (Keep.refl _ _) Vc rfl
theorem d6_0 : decode prog_29_method_3_code 0 = .ok (.aload_n 0, 1) := by decide +kernel
theorem d6_1 : decode prog_29_method_3_code 1 = .ok (.getfield 9, 3) := by decide +kernel
theorem d6_4 : decode prog_29_method_3_code 4 = .ok (.iload_n 1, 1) := by decide +kernel
theorem d6_5 : decode prog_29_method_3_code 5 = .ok (.laload, 1) := by decide +kernel
theorem d6_6 : decode prog_29_method_3_code 6 = .ok (.lreturn, 1) := by decide +kernel
theorem pn_6 : plainName "com/example/leafweight/leafweight/codec/ByteCounts" = true := by first | (simp [plainName, overriddenIn]; done) | decide +kernel
theorem ef_6 (m : MethodId) (x0 : Addr) (x1 : Int32) : entryFrame m #[(.ref x0), (.int x1)] 2 = mkF m 0 #[.val (.ref x0), .val (.int x1)] [] := by first | (simp [entryFrame, mkF, argsToLocals, Value.category]; done) | rfl
def Q6 (Z : State) (u0 : Addr) (p1 : Int32) (ca : Addr) (kc : ClassId) (f : Nat → Int64) (h0 : Heap) (n0 : Nat) (v : Option Value) (h : Heap) (L : List Loc) : Prop := v = some (.long (f p1.toNatClampNeg)) ∧ Fr n0 L ∧ h = h0
set_option maxRecDepth 65536 in
set_option maxHeartbeats 40000000 in
theorem rm6 (l : Launch) (Z : State) (a0 : Array Value) (hw : ∀ d ∈ tables_1, d.before a0 Z = true) (ws : List Jvm.Cond) (u0 : Addr) (p1 : Int32) (ca : Addr) (kc : ClassId) (f : Nat → Int64) (h0 : Heap) (n0 : Nat) (Z0 : n0 ≤ h0.size) (F : Fld Z h0 u0 "com/example/leafweight/leafweight/codec/ByteCounts" "counts" "[J" (.ref ca)) (Vc : Cnt Z h0 ca kc f) (hp0 : 0 ≤ p1.toInt) (hp1 : p1.toInt < 256) :
    MetFree l (⟨"com/example/leafweight/leafweight/codec/ByteCounts", "count", "(I)J"⟩ : MethodName) (head1 (Jvm.Cond.code (⟨"com/example/leafweight/leafweight/codec/ByteCounts", "count", "(I)J"⟩ : MethodName) prog_29_method_3_code 2 (some .long) :: ws) ({ frames := 0, cells := 0, slots := 0, locals := 0 } : Room)) (fun a U => a = #[(.ref u0), (.int p1)] ∧ Z.Warmed39 U.vm ∧ U.heap = h0) (fun _ _ _ _ _ => True) (fun _ U o U' => ∃ v L, o = .returned v ∧ Q6 Z u0 p1 ca kc f h0 n0 v U'.heap L ∧ FrameEnd U o U' L ({ frames := 0, cells := 0, slots := 0, locals := 0 } : Room).cells ({ frames := 0, cells := 0, slots := 0, locals := 0 } : Room).slots) := by
  refine MetFree.of_bodySF (plainFor_of_name pn_6) hisR ?_
  intro p e s m args below meth c s₁ Bd hml0 hP hK
  obtain ⟨rfl, hZ, hh⟩ := hP
  have hx := Bd.exec
  have hby := Bd.bytes
  have hlk := Bd.notSynchronized
  have hret := Bd.returns
  have hml : c.maxLocals = 2 := hml0
  have hown : s.vm.findClass "com/example/leafweight/leafweight/codec/ByteCounts" = some m.cls := findClass_of_methodNamed Bd.named
  have hnm := (name_of_methodNamed Bd.named Bd.method).1
  have X0 : Stand p l e ({ frames := 0, cells := 0, slots := 0, locals := 0 } : Room) s m #[(.ref u0), (.int p1)] below meth c s₁ [] 0 0 := Stand.of_body Bd
  have e0 : s₁.heap = h0 := by rw [← hh, Bd.state]; rfl
  have N0 := Fr.nil n0
  suffices G0 : Rch p e below (Gd s (Q6 Z u0 p1 ca kc f h0 n0) ({ frames := 0, cells := 0, slots := 0, locals := 0 } : Room).cells ({ frames := 0, cells := 0, slots := 0, locals := 0 } : Room).slots) s₁ (mkF m 0 #[.val (.ref u0), .val (.int p1)] []) by
    obtain ⟨s₂, o, r1, r2, r3, r4⟩ := G0
    exact ⟨s₂, o, castTop (ef_6 m u0 p1) r1, r2, r3, r4⟩
  refine own_go (T := s₁) (T' := s₁) (f := (mkF m 0 #[.val (.ref u0), .val (.int p1)] [])) (f' := (mkF m 1 #[.val (.ref u0), .val (.int p1)] [(.ref u0)])) (fun t k => ?_) ?_
  · show Steps p.tables e below (s₁.setTop (mkF m 0 #[.val (.ref u0), .val (.int p1)] [])) _
    refine XS.aloadN X0.here hx rfl (hb hby d6_0) rfl rfl ?_
    exact k
  obtain ⟨T10, X10, e10, st10⟩ := getF X0 hx hZ hown (host := "") (Or.inl (hw _ (List.mem_of_getElem? (i := 12) rfl))) Via.refl e0 F (g := (mkF m 1 #[.val (.ref u0), .val (.int p1)] [(.ref u0)])) rfl rfl (hb hby d6_1)
  refine own_go st10 ?_
  show Rch p e below _ T10 (mkF m 4 #[.val (.ref u0), .val (.int p1)] [(.ref ca)])
  refine own_go (T := T10) (T' := T10) (f := (mkF m 4 #[.val (.ref u0), .val (.int p1)] [(.ref ca)])) (f' := (mkF m 5 #[.val (.ref u0), .val (.int p1)] [(.int p1), (.ref ca)])) (fun t k => ?_) ?_
  · show Steps p.tables e below (T10.setTop (mkF m 4 #[.val (.ref u0), .val (.int p1)] [(.ref ca)])) _
    refine XS.iloadN X10.here hx rfl (hb hby d6_4) rfl ?_
    exact k
  obtain ⟨cc, Ac, r1, r2, r3⟩ := Vc
  refine own_go (f' := (mkF m 6 #[.val (.ref u0), .val (.int p1)] [(.long (f p1.toNatClampNeg))])) (X10.laload hx (j := p1) (v := (.long (f p1.toNatClampNeg))) (by rw [e10]; exact Ac.1) (State.isArrayOf_alike hZ.alike Ac.2.1) Ac.2.2 (own_in r2 hp0 hp1) (r3 _ (by rw [own_nat]; omega)) (g := (mkF m 5 #[.val (.ref u0), .val (.int p1)] [(.int p1), (.ref ca)])) rfl rfl (hb hby d6_5)) ?_
  show Rch p e below _ T10 (mkF m 6 #[.val (.ref u0), .val (.int p1)] [(.long (f p1.toNatClampNeg))])
  exact own_retJ X10 hx hlk hret (hb hby d6_6) (by decide) (by decide) (by rw [e10]; exact ⟨rfl, N0, rfl⟩)
theorem d8_0 : decode method_2_code 0 = .ok (.iload_n 2, 1) := by decide +kernel
theorem d8_1 : decode method_2_code 1 = .ok (.iload_n 1, 1) := by decide +kernel
theorem d8_2 : decode method_2_code 2 = .ok (.if_icmp .eq 5, 3) := by decide +kernel
theorem d8_5 : decode method_2_code 5 = .ok (.lconst 0, 1) := by decide +kernel
theorem d8_6 : decode method_2_code 6 = .ok (.lreturn, 1) := by decide +kernel
theorem d8_7 : decode method_2_code 7 = .ok (.lconst 0, 1) := by decide +kernel
theorem d8_8 : decode method_2_code 8 = .ok (.lstore 7, 2) := by decide +kernel
theorem d8_10 : decode method_2_code 10 = .ok (.iload_n 0, 1) := by decide +kernel
theorem d8_11 : decode method_2_code 11 = .ok (.iload_n 3, 1) := by decide +kernel
theorem d8_12 : decode method_2_code 12 = .ok (.if_icmp .lt 17, 3) := by decide +kernel
theorem d8_15 : decode method_2_code 15 = .ok (.iload_n 0, 1) := by decide +kernel
theorem d8_16 : decode method_2_code 16 = .ok (.iload_n 3, 1) := by decide +kernel
theorem d8_17 : decode method_2_code 17 = .ok (.iload 4, 2) := by decide +kernel
theorem d8_19 : decode method_2_code 19 = .ok (.iadd, 1) := by decide +kernel
theorem d8_20 : decode method_2_code 20 = .ok (.if_icmp .ge 9, 3) := by decide +kernel
theorem d8_23 : decode method_2_code 23 = .ok (.lload 7, 2) := by decide +kernel
theorem d8_25 : decode method_2_code 25 = .ok (.lconst 1, 1) := by decide +kernel
theorem d8_26 : decode method_2_code 26 = .ok (.ladd, 1) := by decide +kernel
theorem d8_27 : decode method_2_code 27 = .ok (.lstore 7, 2) := by decide +kernel
theorem d8_29 : decode method_2_code 29 = .ok (.iload_n 0, 1) := by decide +kernel
theorem d8_30 : decode method_2_code 30 = .ok (.iload 5, 2) := by decide +kernel
theorem d8_32 : decode method_2_code 32 = .ok (.if_icmp .lt 18, 3) := by decide +kernel
theorem d8_35 : decode method_2_code 35 = .ok (.iload_n 0, 1) := by decide +kernel
theorem d8_36 : decode method_2_code 36 = .ok (.iload 5, 2) := by decide +kernel
theorem d8_38 : decode method_2_code 38 = .ok (.iload 6, 2) := by decide +kernel
theorem d8_40 : decode method_2_code 40 = .ok (.iadd, 1) := by decide +kernel
theorem d8_41 : decode method_2_code 41 = .ok (.if_icmp .ge 9, 3) := by decide +kernel
theorem d8_44 : decode method_2_code 44 = .ok (.lload 7, 2) := by decide +kernel
theorem d8_46 : decode method_2_code 46 = .ok (.lconst 1, 1) := by decide +kernel
theorem d8_47 : decode method_2_code 47 = .ok (.ladd, 1) := by decide +kernel
theorem d8_48 : decode method_2_code 48 = .ok (.lstore 7, 2) := by decide +kernel
theorem d8_50 : decode method_2_code 50 = .ok (.lload 7, 2) := by decide +kernel
theorem d8_52 : decode method_2_code 52 = .ok (.lreturn, 1) := by decide +kernel
theorem pn_8 : plainName "com/example/leafweight/leafweight/codec/ByteCountsAddPinLaw" = true := by first | (simp [plainName, overriddenIn]; done) | decide +kernel
theorem ef_8 (m : MethodId) (x0 : Int32) (x1 : Int32) (x2 : Int32) (x3 : Int32) (x4 : Int32) (x5 : Int32) (x6 : Int32) : entryFrame m #[(.int x0), (.int x1), (.int x2), (.int x3), (.int x4), (.int x5), (.int x6)] 9 = mkF m 0 #[.val (.int x0), .val (.int x1), .val (.int x2), .val (.int x3), .val (.int x4), .val (.int x5), .val (.int x6), .unset, .unset] [] := by first | (simp [entryFrame, mkF, argsToLocals, Value.category]; done) | rfl
def Q8 (Z : State) (p0 : Int32) (p1 : Int32) (p2 : Int32) (p3 : Int32) (p4 : Int32) (p5 : Int32) (p6 : Int32) (h0 : Heap) (n0 : Nat) (v : Option Value) (h : Heap) (L : List Loc) : Prop := v = some (.long (own_hits p0 p1 p2 p3 p4 p5 p6)) ∧ Fr n0 L ∧ h = h0
set_option maxRecDepth 65536 in
set_option maxHeartbeats 40000000 in
theorem rm8 (l : Launch) (Z : State) (a0 : Array Value) (hw : ∀ d ∈ tables_1, d.before a0 Z = true) (ws : List Jvm.Cond) (p0 : Int32) (p1 : Int32) (p2 : Int32) (p3 : Int32) (p4 : Int32) (p5 : Int32) (p6 : Int32) (h0 : Heap) (n0 : Nat) (Z0 : n0 ≤ h0.size) :
    MetFree l (⟨"com/example/leafweight/leafweight/codec/ByteCountsAddPinLaw", "hits", "(IIIIIII)J"⟩ : MethodName) (head1 (Jvm.Cond.code (⟨"com/example/leafweight/leafweight/codec/ByteCountsAddPinLaw", "hits", "(IIIIIII)J"⟩ : MethodName) method_2_code 9 (some .long) :: ws) ({ frames := 0, cells := 0, slots := 0, locals := 0 } : Room)) (fun a U => a = #[(.int p0), (.int p1), (.int p2), (.int p3), (.int p4), (.int p5), (.int p6)] ∧ Z.Warmed39 U.vm ∧ U.heap = h0) (fun _ _ _ _ _ => True) (fun _ U o U' => ∃ v L, o = .returned v ∧ Q8 Z p0 p1 p2 p3 p4 p5 p6 h0 n0 v U'.heap L ∧ FrameEnd U o U' L ({ frames := 0, cells := 0, slots := 0, locals := 0 } : Room).cells ({ frames := 0, cells := 0, slots := 0, locals := 0 } : Room).slots) := by
  refine MetFree.of_bodySF (plainFor_of_name pn_8) hisR ?_
  intro p e s m args below meth c s₁ Bd hml0 hP hK
  obtain ⟨rfl, hZ, hh⟩ := hP
  have hx := Bd.exec
  have hby := Bd.bytes
  have hlk := Bd.notSynchronized
  have hret := Bd.returns
  have hml : c.maxLocals = 9 := hml0
  have hown : s.vm.findClass "com/example/leafweight/leafweight/codec/ByteCountsAddPinLaw" = some m.cls := findClass_of_methodNamed Bd.named
  have hnm := (name_of_methodNamed Bd.named Bd.method).1
  have X0 : Stand p l e ({ frames := 0, cells := 0, slots := 0, locals := 0 } : Room) s m #[(.int p0), (.int p1), (.int p2), (.int p3), (.int p4), (.int p5), (.int p6)] below meth c s₁ [] 0 0 := Stand.of_body Bd
  have e0 : s₁.heap = h0 := by rw [← hh, Bd.state]; rfl
  have N0 := Fr.nil n0
  suffices G0 : Rch p e below (Gd s (Q8 Z p0 p1 p2 p3 p4 p5 p6 h0 n0) ({ frames := 0, cells := 0, slots := 0, locals := 0 } : Room).cells ({ frames := 0, cells := 0, slots := 0, locals := 0 } : Room).slots) s₁ (mkF m 0 #[.val (.int p0), .val (.int p1), .val (.int p2), .val (.int p3), .val (.int p4), .val (.int p5), .val (.int p6), .unset, .unset] []) by
    obtain ⟨s₂, o, r1, r2, r3, r4⟩ := G0
    exact ⟨s₂, o, castTop (ef_8 m p0 p1 p2 p3 p4 p5 p6) r1, r2, r3, r4⟩
  refine own_go (T := s₁) (T' := s₁) (f := (mkF m 0 #[.val (.int p0), .val (.int p1), .val (.int p2), .val (.int p3), .val (.int p4), .val (.int p5), .val (.int p6), .unset, .unset] [])) (f' := (mkF m 2 #[.val (.int p0), .val (.int p1), .val (.int p2), .val (.int p3), .val (.int p4), .val (.int p5), .val (.int p6), .unset, .unset] [(.int p1), (.int p2)])) (fun t k => ?_) ?_
  · show Steps p.tables e below (s₁.setTop (mkF m 0 #[.val (.int p0), .val (.int p1), .val (.int p2), .val (.int p3), .val (.int p4), .val (.int p5), .val (.int p6), .unset, .unset] [])) _
    refine XS.iloadN X0.here hx rfl (hb hby d8_0) rfl ?_
    show Steps p.tables e below (s₁.setTop (mkF m 1 #[.val (.int p0), .val (.int p1), .val (.int p2), .val (.int p3), .val (.int p4), .val (.int p5), .val (.int p6), .unset, .unset] [(.int p2)])) _
    refine XS.iloadN X0.here hx rfl (hb hby d8_1) rfl ?_
    exact k
  by_cases hc2 : p2 = p1
  · refine own_go (T := s₁) (T' := s₁) (f := (mkF m 2 #[.val (.int p0), .val (.int p1), .val (.int p2), .val (.int p3), .val (.int p4), .val (.int p5), .val (.int p6), .unset, .unset] [(.int p1), (.int p2)])) (f' := (mkF m 7 #[.val (.int p0), .val (.int p1), .val (.int p2), .val (.int p3), .val (.int p4), .val (.int p5), .val (.int p6), .unset, .unset] [])) (fun t k => ?_) ?_
    · show Steps p.tables e below (s₁.setTop (mkF m 2 #[.val (.int p0), .val (.int p1), .val (.int p2), .val (.int p3), .val (.int p4), .val (.int p5), .val (.int p6), .unset, .unset] [(.int p1), (.int p2)])) _
      refine XS.icmpYes X0.here hx rfl (pc0 := 2) (pc' := 7) rfl (hb hby d8_2) rfl (teq hc2).1 (by decide) (by decide) ?_
      exact k
    refine own_go (T := s₁) (T' := s₁) (f := (mkF m 7 #[.val (.int p0), .val (.int p1), .val (.int p2), .val (.int p3), .val (.int p4), .val (.int p5), .val (.int p6), .unset, .unset] [])) (f' := (mkF m 12 #[.val (.int p0), .val (.int p1), .val (.int p2), .val (.int p3), .val (.int p4), .val (.int p5), .val (.int p6), .val (.long (0 : Int64)), .second] [(.int p3), (.int p0)])) (fun t k => ?_) ?_
    · show Steps p.tables e below (s₁.setTop (mkF m 7 #[.val (.int p0), .val (.int p1), .val (.int p2), .val (.int p3), .val (.int p4), .val (.int p5), .val (.int p6), .unset, .unset] [])) _
      refine XS.lconst X0.here hx rfl (hb hby d8_7) ?_
      show Steps p.tables e below (s₁.setTop (mkF m 8 #[.val (.int p0), .val (.int p1), .val (.int p2), .val (.int p3), .val (.int p4), .val (.int p5), .val (.int p6), .unset, .unset] [(.long (0 : Int64))])) _
      refine XS.lstore X0.here hx rfl (hb hby d8_8) rfl (l' := #[.val (.int p0), .val (.int p1), .val (.int p2), .val (.int p3), .val (.int p4), .val (.int p5), .val (.int p6), .val (.long (0 : Int64)), .second]) rfl ?_
      show Steps p.tables e below (s₁.setTop (mkF m 10 #[.val (.int p0), .val (.int p1), .val (.int p2), .val (.int p3), .val (.int p4), .val (.int p5), .val (.int p6), .val (.long (0 : Int64)), .second] [])) _
      refine XS.iloadN X0.here hx rfl (hb hby d8_10) rfl ?_
      show Steps p.tables e below (s₁.setTop (mkF m 11 #[.val (.int p0), .val (.int p1), .val (.int p2), .val (.int p3), .val (.int p4), .val (.int p5), .val (.int p6), .val (.long (0 : Int64)), .second] [(.int p0)])) _
      refine XS.iloadN X0.here hx rfl (hb hby d8_11) rfl ?_
      exact k
    suffices J29 : ∀ g1 : Int64, own_hit p0 p3 p4 (0 : Int64) = g1 → Rch p e below (Gd s (Q8 Z p0 p1 p2 p3 p4 p5 p6 h0 n0) ({ frames := 0, cells := 0, slots := 0, locals := 0 } : Room).cells ({ frames := 0, cells := 0, slots := 0, locals := 0 } : Room).slots) s₁ (mkF m 29 #[.val (.int p0), .val (.int p1), .val (.int p2), .val (.int p3), .val (.int p4), .val (.int p5), .val (.int p6), .val (.long g1), .second] []) by
      by_cases ha29 : p0 < p3
      · refine own_go (T := s₁) (T' := s₁) (f := (mkF m 12 #[.val (.int p0), .val (.int p1), .val (.int p2), .val (.int p3), .val (.int p4), .val (.int p5), .val (.int p6), .val (.long (0 : Int64)), .second] [(.int p3), (.int p0)])) (f' := (mkF m 29 #[.val (.int p0), .val (.int p1), .val (.int p2), .val (.int p3), .val (.int p4), .val (.int p5), .val (.int p6), .val (.long (0 : Int64)), .second] [])) (fun t k => ?_) ?_
        · show Steps p.tables e below (s₁.setTop (mkF m 12 #[.val (.int p0), .val (.int p1), .val (.int p2), .val (.int p3), .val (.int p4), .val (.int p5), .val (.int p6), .val (.long (0 : Int64)), .second] [(.int p3), (.int p0)])) _
          refine XS.icmpYes X0.here hx rfl (pc0 := 12) (pc' := 29) rfl (hb hby d8_12) rfl (tlt ha29).1 (by decide) (by decide) ?_
          exact k
        exact J29 _ (by simp only [own_hit, ha29, if_true])
      · refine own_go (T := s₁) (T' := s₁) (f := (mkF m 12 #[.val (.int p0), .val (.int p1), .val (.int p2), .val (.int p3), .val (.int p4), .val (.int p5), .val (.int p6), .val (.long (0 : Int64)), .second] [(.int p3), (.int p0)])) (f' := (mkF m 15 #[.val (.int p0), .val (.int p1), .val (.int p2), .val (.int p3), .val (.int p4), .val (.int p5), .val (.int p6), .val (.long (0 : Int64)), .second] [])) (fun t k => ?_) ?_
        · show Steps p.tables e below (s₁.setTop (mkF m 12 #[.val (.int p0), .val (.int p1), .val (.int p2), .val (.int p3), .val (.int p4), .val (.int p5), .val (.int p6), .val (.long (0 : Int64)), .second] [(.int p3), (.int p0)])) _
          refine XS.icmpNo X0.here hx rfl (hb hby d8_12) rfl (flt ha29).1 ?_
          exact k
        refine own_go (T := s₁) (T' := s₁) (f := (mkF m 15 #[.val (.int p0), .val (.int p1), .val (.int p2), .val (.int p3), .val (.int p4), .val (.int p5), .val (.int p6), .val (.long (0 : Int64)), .second] [])) (f' := (mkF m 20 #[.val (.int p0), .val (.int p1), .val (.int p2), .val (.int p3), .val (.int p4), .val (.int p5), .val (.int p6), .val (.long (0 : Int64)), .second] [(.int (p3 + p4)), (.int p0)])) (fun t k => ?_) ?_
        · show Steps p.tables e below (s₁.setTop (mkF m 15 #[.val (.int p0), .val (.int p1), .val (.int p2), .val (.int p3), .val (.int p4), .val (.int p5), .val (.int p6), .val (.long (0 : Int64)), .second] [])) _
          refine XS.iloadN X0.here hx rfl (hb hby d8_15) rfl ?_
          show Steps p.tables e below (s₁.setTop (mkF m 16 #[.val (.int p0), .val (.int p1), .val (.int p2), .val (.int p3), .val (.int p4), .val (.int p5), .val (.int p6), .val (.long (0 : Int64)), .second] [(.int p0)])) _
          refine XS.iloadN X0.here hx rfl (hb hby d8_16) rfl ?_
          show Steps p.tables e below (s₁.setTop (mkF m 17 #[.val (.int p0), .val (.int p1), .val (.int p2), .val (.int p3), .val (.int p4), .val (.int p5), .val (.int p6), .val (.long (0 : Int64)), .second] [(.int p3), (.int p0)])) _
          refine XS.iload X0.here hx rfl (hb hby d8_17) rfl ?_
          show Steps p.tables e below (s₁.setTop (mkF m 19 #[.val (.int p0), .val (.int p1), .val (.int p2), .val (.int p3), .val (.int p4), .val (.int p5), .val (.int p6), .val (.long (0 : Int64)), .second] [(.int p4), (.int p3), (.int p0)])) _
          refine XS.iadd X0.here hx rfl (hb hby d8_19) rfl ?_
          exact k
        by_cases hb29 : p0 < (p3 + p4)
        · refine own_go (T := s₁) (T' := s₁) (f := (mkF m 20 #[.val (.int p0), .val (.int p1), .val (.int p2), .val (.int p3), .val (.int p4), .val (.int p5), .val (.int p6), .val (.long (0 : Int64)), .second] [(.int (p3 + p4)), (.int p0)])) (f' := (mkF m 23 #[.val (.int p0), .val (.int p1), .val (.int p2), .val (.int p3), .val (.int p4), .val (.int p5), .val (.int p6), .val (.long (0 : Int64)), .second] [])) (fun t k => ?_) ?_
          · show Steps p.tables e below (s₁.setTop (mkF m 20 #[.val (.int p0), .val (.int p1), .val (.int p2), .val (.int p3), .val (.int p4), .val (.int p5), .val (.int p6), .val (.long (0 : Int64)), .second] [(.int (p3 + p4)), (.int p0)])) _
            refine XS.icmpNo X0.here hx rfl (hb hby d8_20) rfl (tlt hb29).2.1 ?_
            exact k
          refine own_go (T := s₁) (T' := s₁) (f := (mkF m 23 #[.val (.int p0), .val (.int p1), .val (.int p2), .val (.int p3), .val (.int p4), .val (.int p5), .val (.int p6), .val (.long (0 : Int64)), .second] [])) (f' := (mkF m 29 #[.val (.int p0), .val (.int p1), .val (.int p2), .val (.int p3), .val (.int p4), .val (.int p5), .val (.int p6), .val (.long ((0 : Int64) + (1 : Int64))), .second] [])) (fun t k => ?_) ?_
          · show Steps p.tables e below (s₁.setTop (mkF m 23 #[.val (.int p0), .val (.int p1), .val (.int p2), .val (.int p3), .val (.int p4), .val (.int p5), .val (.int p6), .val (.long (0 : Int64)), .second] [])) _
            refine XS.lload X0.here hx rfl (hb hby d8_23) rfl ?_
            show Steps p.tables e below (s₁.setTop (mkF m 25 #[.val (.int p0), .val (.int p1), .val (.int p2), .val (.int p3), .val (.int p4), .val (.int p5), .val (.int p6), .val (.long (0 : Int64)), .second] [(.long (0 : Int64))])) _
            refine XS.lconst X0.here hx rfl (hb hby d8_25) ?_
            show Steps p.tables e below (s₁.setTop (mkF m 26 #[.val (.int p0), .val (.int p1), .val (.int p2), .val (.int p3), .val (.int p4), .val (.int p5), .val (.int p6), .val (.long (0 : Int64)), .second] [(.long (1 : Int64)), (.long (0 : Int64))])) _
            refine XS.ladd X0.here hx rfl (hb hby d8_26) rfl ?_
            show Steps p.tables e below (s₁.setTop (mkF m 27 #[.val (.int p0), .val (.int p1), .val (.int p2), .val (.int p3), .val (.int p4), .val (.int p5), .val (.int p6), .val (.long (0 : Int64)), .second] [(.long ((0 : Int64) + (1 : Int64)))])) _
            refine XS.lstore X0.here hx rfl (hb hby d8_27) rfl (l' := #[.val (.int p0), .val (.int p1), .val (.int p2), .val (.int p3), .val (.int p4), .val (.int p5), .val (.int p6), .val (.long ((0 : Int64) + (1 : Int64))), .second]) rfl ?_
            exact k
          exact J29 _ (by simp only [own_hit, ha29, hb29, if_true, if_false])
        · refine own_go (T := s₁) (T' := s₁) (f := (mkF m 20 #[.val (.int p0), .val (.int p1), .val (.int p2), .val (.int p3), .val (.int p4), .val (.int p5), .val (.int p6), .val (.long (0 : Int64)), .second] [(.int (p3 + p4)), (.int p0)])) (f' := (mkF m 29 #[.val (.int p0), .val (.int p1), .val (.int p2), .val (.int p3), .val (.int p4), .val (.int p5), .val (.int p6), .val (.long (0 : Int64)), .second] [])) (fun t k => ?_) ?_
          · show Steps p.tables e below (s₁.setTop (mkF m 20 #[.val (.int p0), .val (.int p1), .val (.int p2), .val (.int p3), .val (.int p4), .val (.int p5), .val (.int p6), .val (.long (0 : Int64)), .second] [(.int (p3 + p4)), (.int p0)])) _
            refine XS.icmpYes X0.here hx rfl (pc0 := 20) (pc' := 29) rfl (hb hby d8_20) rfl (flt hb29).2.1 (by decide) (by decide) ?_
            exact k
          exact J29 _ (by simp only [own_hit, ha29, hb29, if_false])
    intro g1 hg1
    refine own_go (T := s₁) (T' := s₁) (f := (mkF m 29 #[.val (.int p0), .val (.int p1), .val (.int p2), .val (.int p3), .val (.int p4), .val (.int p5), .val (.int p6), .val (.long g1), .second] [])) (f' := (mkF m 32 #[.val (.int p0), .val (.int p1), .val (.int p2), .val (.int p3), .val (.int p4), .val (.int p5), .val (.int p6), .val (.long g1), .second] [(.int p5), (.int p0)])) (fun t k => ?_) ?_
    · show Steps p.tables e below (s₁.setTop (mkF m 29 #[.val (.int p0), .val (.int p1), .val (.int p2), .val (.int p3), .val (.int p4), .val (.int p5), .val (.int p6), .val (.long g1), .second] [])) _
      refine XS.iloadN X0.here hx rfl (hb hby d8_29) rfl ?_
      show Steps p.tables e below (s₁.setTop (mkF m 30 #[.val (.int p0), .val (.int p1), .val (.int p2), .val (.int p3), .val (.int p4), .val (.int p5), .val (.int p6), .val (.long g1), .second] [(.int p0)])) _
      refine XS.iload X0.here hx rfl (hb hby d8_30) rfl ?_
      exact k
    suffices J50 : ∀ g2 : Int64, own_hit p0 p5 p6 g1 = g2 → Rch p e below (Gd s (Q8 Z p0 p1 p2 p3 p4 p5 p6 h0 n0) ({ frames := 0, cells := 0, slots := 0, locals := 0 } : Room).cells ({ frames := 0, cells := 0, slots := 0, locals := 0 } : Room).slots) s₁ (mkF m 50 #[.val (.int p0), .val (.int p1), .val (.int p2), .val (.int p3), .val (.int p4), .val (.int p5), .val (.int p6), .val (.long g2), .second] []) by
      by_cases ha50 : p0 < p5
      · refine own_go (T := s₁) (T' := s₁) (f := (mkF m 32 #[.val (.int p0), .val (.int p1), .val (.int p2), .val (.int p3), .val (.int p4), .val (.int p5), .val (.int p6), .val (.long g1), .second] [(.int p5), (.int p0)])) (f' := (mkF m 50 #[.val (.int p0), .val (.int p1), .val (.int p2), .val (.int p3), .val (.int p4), .val (.int p5), .val (.int p6), .val (.long g1), .second] [])) (fun t k => ?_) ?_
        · show Steps p.tables e below (s₁.setTop (mkF m 32 #[.val (.int p0), .val (.int p1), .val (.int p2), .val (.int p3), .val (.int p4), .val (.int p5), .val (.int p6), .val (.long g1), .second] [(.int p5), (.int p0)])) _
          refine XS.icmpYes X0.here hx rfl (pc0 := 32) (pc' := 50) rfl (hb hby d8_32) rfl (tlt ha50).1 (by decide) (by decide) ?_
          exact k
        exact J50 _ (by simp only [own_hit, ha50, if_true])
      · refine own_go (T := s₁) (T' := s₁) (f := (mkF m 32 #[.val (.int p0), .val (.int p1), .val (.int p2), .val (.int p3), .val (.int p4), .val (.int p5), .val (.int p6), .val (.long g1), .second] [(.int p5), (.int p0)])) (f' := (mkF m 35 #[.val (.int p0), .val (.int p1), .val (.int p2), .val (.int p3), .val (.int p4), .val (.int p5), .val (.int p6), .val (.long g1), .second] [])) (fun t k => ?_) ?_
        · show Steps p.tables e below (s₁.setTop (mkF m 32 #[.val (.int p0), .val (.int p1), .val (.int p2), .val (.int p3), .val (.int p4), .val (.int p5), .val (.int p6), .val (.long g1), .second] [(.int p5), (.int p0)])) _
          refine XS.icmpNo X0.here hx rfl (hb hby d8_32) rfl (flt ha50).1 ?_
          exact k
        refine own_go (T := s₁) (T' := s₁) (f := (mkF m 35 #[.val (.int p0), .val (.int p1), .val (.int p2), .val (.int p3), .val (.int p4), .val (.int p5), .val (.int p6), .val (.long g1), .second] [])) (f' := (mkF m 41 #[.val (.int p0), .val (.int p1), .val (.int p2), .val (.int p3), .val (.int p4), .val (.int p5), .val (.int p6), .val (.long g1), .second] [(.int (p5 + p6)), (.int p0)])) (fun t k => ?_) ?_
        · show Steps p.tables e below (s₁.setTop (mkF m 35 #[.val (.int p0), .val (.int p1), .val (.int p2), .val (.int p3), .val (.int p4), .val (.int p5), .val (.int p6), .val (.long g1), .second] [])) _
          refine XS.iloadN X0.here hx rfl (hb hby d8_35) rfl ?_
          show Steps p.tables e below (s₁.setTop (mkF m 36 #[.val (.int p0), .val (.int p1), .val (.int p2), .val (.int p3), .val (.int p4), .val (.int p5), .val (.int p6), .val (.long g1), .second] [(.int p0)])) _
          refine XS.iload X0.here hx rfl (hb hby d8_36) rfl ?_
          show Steps p.tables e below (s₁.setTop (mkF m 38 #[.val (.int p0), .val (.int p1), .val (.int p2), .val (.int p3), .val (.int p4), .val (.int p5), .val (.int p6), .val (.long g1), .second] [(.int p5), (.int p0)])) _
          refine XS.iload X0.here hx rfl (hb hby d8_38) rfl ?_
          show Steps p.tables e below (s₁.setTop (mkF m 40 #[.val (.int p0), .val (.int p1), .val (.int p2), .val (.int p3), .val (.int p4), .val (.int p5), .val (.int p6), .val (.long g1), .second] [(.int p6), (.int p5), (.int p0)])) _
          refine XS.iadd X0.here hx rfl (hb hby d8_40) rfl ?_
          exact k
        by_cases hb50 : p0 < (p5 + p6)
        · refine own_go (T := s₁) (T' := s₁) (f := (mkF m 41 #[.val (.int p0), .val (.int p1), .val (.int p2), .val (.int p3), .val (.int p4), .val (.int p5), .val (.int p6), .val (.long g1), .second] [(.int (p5 + p6)), (.int p0)])) (f' := (mkF m 44 #[.val (.int p0), .val (.int p1), .val (.int p2), .val (.int p3), .val (.int p4), .val (.int p5), .val (.int p6), .val (.long g1), .second] [])) (fun t k => ?_) ?_
          · show Steps p.tables e below (s₁.setTop (mkF m 41 #[.val (.int p0), .val (.int p1), .val (.int p2), .val (.int p3), .val (.int p4), .val (.int p5), .val (.int p6), .val (.long g1), .second] [(.int (p5 + p6)), (.int p0)])) _
            refine XS.icmpNo X0.here hx rfl (hb hby d8_41) rfl (tlt hb50).2.1 ?_
            exact k
          refine own_go (T := s₁) (T' := s₁) (f := (mkF m 44 #[.val (.int p0), .val (.int p1), .val (.int p2), .val (.int p3), .val (.int p4), .val (.int p5), .val (.int p6), .val (.long g1), .second] [])) (f' := (mkF m 50 #[.val (.int p0), .val (.int p1), .val (.int p2), .val (.int p3), .val (.int p4), .val (.int p5), .val (.int p6), .val (.long (g1 + (1 : Int64))), .second] [])) (fun t k => ?_) ?_
          · show Steps p.tables e below (s₁.setTop (mkF m 44 #[.val (.int p0), .val (.int p1), .val (.int p2), .val (.int p3), .val (.int p4), .val (.int p5), .val (.int p6), .val (.long g1), .second] [])) _
            refine XS.lload X0.here hx rfl (hb hby d8_44) rfl ?_
            show Steps p.tables e below (s₁.setTop (mkF m 46 #[.val (.int p0), .val (.int p1), .val (.int p2), .val (.int p3), .val (.int p4), .val (.int p5), .val (.int p6), .val (.long g1), .second] [(.long g1)])) _
            refine XS.lconst X0.here hx rfl (hb hby d8_46) ?_
            show Steps p.tables e below (s₁.setTop (mkF m 47 #[.val (.int p0), .val (.int p1), .val (.int p2), .val (.int p3), .val (.int p4), .val (.int p5), .val (.int p6), .val (.long g1), .second] [(.long (1 : Int64)), (.long g1)])) _
            refine XS.ladd X0.here hx rfl (hb hby d8_47) rfl ?_
            show Steps p.tables e below (s₁.setTop (mkF m 48 #[.val (.int p0), .val (.int p1), .val (.int p2), .val (.int p3), .val (.int p4), .val (.int p5), .val (.int p6), .val (.long g1), .second] [(.long (g1 + (1 : Int64)))])) _
            refine XS.lstore X0.here hx rfl (hb hby d8_48) rfl (l' := #[.val (.int p0), .val (.int p1), .val (.int p2), .val (.int p3), .val (.int p4), .val (.int p5), .val (.int p6), .val (.long (g1 + (1 : Int64))), .second]) rfl ?_
            exact k
          exact J50 _ (by simp only [own_hit, ha50, hb50, if_true, if_false])
        · refine own_go (T := s₁) (T' := s₁) (f := (mkF m 41 #[.val (.int p0), .val (.int p1), .val (.int p2), .val (.int p3), .val (.int p4), .val (.int p5), .val (.int p6), .val (.long g1), .second] [(.int (p5 + p6)), (.int p0)])) (f' := (mkF m 50 #[.val (.int p0), .val (.int p1), .val (.int p2), .val (.int p3), .val (.int p4), .val (.int p5), .val (.int p6), .val (.long g1), .second] [])) (fun t k => ?_) ?_
          · show Steps p.tables e below (s₁.setTop (mkF m 41 #[.val (.int p0), .val (.int p1), .val (.int p2), .val (.int p3), .val (.int p4), .val (.int p5), .val (.int p6), .val (.long g1), .second] [(.int (p5 + p6)), (.int p0)])) _
            refine XS.icmpYes X0.here hx rfl (pc0 := 41) (pc' := 50) rfl (hb hby d8_41) rfl (flt hb50).2.1 (by decide) (by decide) ?_
            exact k
          exact J50 _ (by simp only [own_hit, ha50, hb50, if_false])
    intro g2 hg2
    refine own_go (T := s₁) (T' := s₁) (f := (mkF m 50 #[.val (.int p0), .val (.int p1), .val (.int p2), .val (.int p3), .val (.int p4), .val (.int p5), .val (.int p6), .val (.long g2), .second] [])) (f' := (mkF m 52 #[.val (.int p0), .val (.int p1), .val (.int p2), .val (.int p3), .val (.int p4), .val (.int p5), .val (.int p6), .val (.long g2), .second] [(.long g2)])) (fun t k => ?_) ?_
    · show Steps p.tables e below (s₁.setTop (mkF m 50 #[.val (.int p0), .val (.int p1), .val (.int p2), .val (.int p3), .val (.int p4), .val (.int p5), .val (.int p6), .val (.long g2), .second] [])) _
      refine XS.lload X0.here hx rfl (hb hby d8_50) rfl ?_
      exact k
    exact own_retJ X0 hx hlk hret (hb hby d8_52) (by decide) (by decide) (by rw [e0]; exact ⟨(by simp only [own_hits, hc2, if_true, hg1, hg2]), N0, rfl⟩)
  · refine own_go (T := s₁) (T' := s₁) (f := (mkF m 2 #[.val (.int p0), .val (.int p1), .val (.int p2), .val (.int p3), .val (.int p4), .val (.int p5), .val (.int p6), .unset, .unset] [(.int p1), (.int p2)])) (f' := (mkF m 5 #[.val (.int p0), .val (.int p1), .val (.int p2), .val (.int p3), .val (.int p4), .val (.int p5), .val (.int p6), .unset, .unset] [])) (fun t k => ?_) ?_
    · show Steps p.tables e below (s₁.setTop (mkF m 2 #[.val (.int p0), .val (.int p1), .val (.int p2), .val (.int p3), .val (.int p4), .val (.int p5), .val (.int p6), .unset, .unset] [(.int p1), (.int p2)])) _
      refine XS.icmpNo X0.here hx rfl (hb hby d8_2) rfl (feq hc2).1 ?_
      exact k
    refine own_go (T := s₁) (T' := s₁) (f := (mkF m 5 #[.val (.int p0), .val (.int p1), .val (.int p2), .val (.int p3), .val (.int p4), .val (.int p5), .val (.int p6), .unset, .unset] [])) (f' := (mkF m 6 #[.val (.int p0), .val (.int p1), .val (.int p2), .val (.int p3), .val (.int p4), .val (.int p5), .val (.int p6), .unset, .unset] [(.long (0 : Int64))])) (fun t k => ?_) ?_
    · show Steps p.tables e below (s₁.setTop (mkF m 5 #[.val (.int p0), .val (.int p1), .val (.int p2), .val (.int p3), .val (.int p4), .val (.int p5), .val (.int p6), .unset, .unset] [])) _
      refine XS.lconst X0.here hx rfl (hb hby d8_5) ?_
      exact k
    exact own_retJ X0 hx hlk hret (hb hby d8_6) (by decide) (by decide) (by rw [e0]; exact ⟨(by simp [own_hits, hc2]), N0, rfl⟩)
theorem d7_0 : decode method_3_code 0 = .ok (.iconst 0, 1) := by decide +kernel
theorem d7_1 : decode method_3_code 1 = .ok (.iload_n 1, 1) := by decide +kernel
theorem d7_2 : decode method_3_code 2 = .ok (.aload_n 0, 1) := by decide +kernel
theorem d7_3 : decode method_3_code 3 = .ok (.iconst 0, 1) := by decide +kernel
theorem d7_4 : decode method_3_code 4 = .ok (.iaload, 1) := by decide +kernel
theorem d7_5 : decode method_3_code 5 = .ok (.iload_n 2, 1) := by decide +kernel
theorem d7_6 : decode method_3_code 6 = .ok (.iload_n 3, 1) := by decide +kernel
theorem d7_7 : decode method_3_code 7 = .ok (.iload 4, 2) := by decide +kernel
theorem d7_9 : decode method_3_code 9 = .ok (.iload 5, 2) := by decide +kernel
theorem d7_11 : decode method_3_code 11 = .ok (.invokestatic 7, 3) := by decide +kernel
theorem pd__28IIIIIII_29J : parseMethodDescriptor "(IIIIIII)J" = some ⟨[.int, .int, .int, .int, .int, .int, .int], some .long⟩ := by decide +kernel
theorem d7_14 : decode method_3_code 14 = .ok (.iconst 1, 1) := by decide +kernel
theorem d7_15 : decode method_3_code 15 = .ok (.iload_n 1, 1) := by decide +kernel
theorem d7_16 : decode method_3_code 16 = .ok (.aload_n 0, 1) := by decide +kernel
theorem d7_17 : decode method_3_code 17 = .ok (.iconst 1, 1) := by decide +kernel
theorem d7_18 : decode method_3_code 18 = .ok (.iaload, 1) := by decide +kernel
theorem d7_19 : decode method_3_code 19 = .ok (.iload_n 2, 1) := by decide +kernel
theorem d7_20 : decode method_3_code 20 = .ok (.iload_n 3, 1) := by decide +kernel
theorem d7_21 : decode method_3_code 21 = .ok (.iload 4, 2) := by decide +kernel
theorem d7_23 : decode method_3_code 23 = .ok (.iload 5, 2) := by decide +kernel
theorem d7_25 : decode method_3_code 25 = .ok (.invokestatic 7, 3) := by decide +kernel
theorem d7_28 : decode method_3_code 28 = .ok (.ladd, 1) := by decide +kernel
theorem d7_29 : decode method_3_code 29 = .ok (.iconst 2, 1) := by decide +kernel
theorem d7_30 : decode method_3_code 30 = .ok (.iload_n 1, 1) := by decide +kernel
theorem d7_31 : decode method_3_code 31 = .ok (.aload_n 0, 1) := by decide +kernel
theorem d7_32 : decode method_3_code 32 = .ok (.iconst 2, 1) := by decide +kernel
theorem d7_33 : decode method_3_code 33 = .ok (.iaload, 1) := by decide +kernel
theorem d7_34 : decode method_3_code 34 = .ok (.iload_n 2, 1) := by decide +kernel
theorem d7_35 : decode method_3_code 35 = .ok (.iload_n 3, 1) := by decide +kernel
theorem d7_36 : decode method_3_code 36 = .ok (.iload 4, 2) := by decide +kernel
theorem d7_38 : decode method_3_code 38 = .ok (.iload 5, 2) := by decide +kernel
theorem d7_40 : decode method_3_code 40 = .ok (.invokestatic 7, 3) := by decide +kernel
theorem d7_43 : decode method_3_code 43 = .ok (.ladd, 1) := by decide +kernel
theorem d7_44 : decode method_3_code 44 = .ok (.iconst 3, 1) := by decide +kernel
theorem d7_45 : decode method_3_code 45 = .ok (.iload_n 1, 1) := by decide +kernel
theorem d7_46 : decode method_3_code 46 = .ok (.aload_n 0, 1) := by decide +kernel
theorem d7_47 : decode method_3_code 47 = .ok (.iconst 3, 1) := by decide +kernel
theorem d7_48 : decode method_3_code 48 = .ok (.iaload, 1) := by decide +kernel
theorem d7_49 : decode method_3_code 49 = .ok (.iload_n 2, 1) := by decide +kernel
theorem d7_50 : decode method_3_code 50 = .ok (.iload_n 3, 1) := by decide +kernel
theorem d7_51 : decode method_3_code 51 = .ok (.iload 4, 2) := by decide +kernel
theorem d7_53 : decode method_3_code 53 = .ok (.iload 5, 2) := by decide +kernel
theorem d7_55 : decode method_3_code 55 = .ok (.invokestatic 7, 3) := by decide +kernel
theorem d7_58 : decode method_3_code 58 = .ok (.ladd, 1) := by decide +kernel
theorem d7_59 : decode method_3_code 59 = .ok (.lreturn, 1) := by decide +kernel
theorem pn_7 : plainName "com/example/leafweight/leafweight/codec/ByteCountsAddPinLaw" = true := by first | (simp [plainName, overriddenIn]; done) | decide +kernel
theorem ef_7 (m : MethodId) (x0 : Addr) (x1 : Int32) (x2 : Int32) (x3 : Int32) (x4 : Int32) (x5 : Int32) : entryFrame m #[(.ref x0), (.int x1), (.int x2), (.int x3), (.int x4), (.int x5)] 6 = mkF m 0 #[.val (.ref x0), .val (.int x1), .val (.int x2), .val (.int x3), .val (.int x4), .val (.int x5)] [] := by first | (simp [entryFrame, mkF, argsToLocals, Value.category]; done) | rfl
def Q7 (Z : State) (u0 : Addr) (p1 : Int32) (p2 : Int32) (p3 : Int32) (p4 : Int32) (p5 : Int32) (ku : ClassId) (us : Nat → Int32) (h0 : Heap) (n0 : Nat) (v : Option Value) (h : Heap) (L : List Loc) : Prop := v = some (.long (own_exp us p1 p2 p3 p4 p5)) ∧ Fr n0 L ∧ h = h0
set_option maxRecDepth 65536 in
set_option maxHeartbeats 40000000 in
theorem rm7 (l : Launch) (Z : State) (a0 : Array Value) (hw : ∀ d ∈ tables_1, d.before a0 Z = true) (ws : List Jvm.Cond) (u0 : Addr) (p1 : Int32) (p2 : Int32) (p3 : Int32) (p4 : Int32) (p5 : Int32) (ku : ClassId) (us : Nat → Int32) (h0 : Heap) (n0 : Nat) (Z0 : n0 ≤ h0.size) (Vu : Arv Z h0 u0 ku .int (4 : Int32) [.int (us 0), .int (us 1), .int (us 2), .int (us 3)] (.int (0 : Int32))) :
    MetFree l (⟨"com/example/leafweight/leafweight/codec/ByteCountsAddPinLaw", "expected", "([IIIIII)J"⟩ : MethodName) (head1 (Jvm.Cond.code (⟨"com/example/leafweight/leafweight/codec/ByteCountsAddPinLaw", "expected", "([IIIIII)J"⟩ : MethodName) method_3_code 6 (some .long) :: ws) ({ frames := 1, cells := 0, slots := 0, locals := 24 } : Room)) (fun a U => a = #[(.ref u0), (.int p1), (.int p2), (.int p3), (.int p4), (.int p5)] ∧ Z.Warmed39 U.vm ∧ U.heap = h0) (fun _ _ _ _ _ => True) (fun _ U o U' => ∃ v L, o = .returned v ∧ Q7 Z u0 p1 p2 p3 p4 p5 ku us h0 n0 v U'.heap L ∧ FrameEnd U o U' L ({ frames := 1, cells := 0, slots := 0, locals := 24 } : Room).cells ({ frames := 1, cells := 0, slots := 0, locals := 24 } : Room).slots) := by
  refine MetFree.of_bodySF (plainFor_of_name pn_7) hisR ?_
  intro p e s m args below meth c s₁ Bd hml0 hP hK
  obtain ⟨rfl, hZ, hh⟩ := hP
  have hx := Bd.exec
  have hby := Bd.bytes
  have hlk := Bd.notSynchronized
  have hret := Bd.returns
  have hml : c.maxLocals = 6 := hml0
  have hown : s.vm.findClass "com/example/leafweight/leafweight/codec/ByteCountsAddPinLaw" = some m.cls := findClass_of_methodNamed Bd.named
  have hnm := (name_of_methodNamed Bd.named Bd.method).1
  have X0 : Stand p l e ({ frames := 1, cells := 0, slots := 0, locals := 24 } : Room) s m #[(.ref u0), (.int p1), (.int p2), (.int p3), (.int p4), (.int p5)] below meth c s₁ [] 0 0 := Stand.of_body Bd
  have e0 : s₁.heap = h0 := by rw [← hh, Bd.state]; rfl
  have N0 := Fr.nil n0
  suffices G0 : Rch p e below (Gd s (Q7 Z u0 p1 p2 p3 p4 p5 ku us h0 n0) ({ frames := 1, cells := 0, slots := 0, locals := 24 } : Room).cells ({ frames := 1, cells := 0, slots := 0, locals := 24 } : Room).slots) s₁ (mkF m 0 #[.val (.ref u0), .val (.int p1), .val (.int p2), .val (.int p3), .val (.int p4), .val (.int p5)] []) by
    obtain ⟨s₂, o, r1, r2, r3, r4⟩ := G0
    exact ⟨s₂, o, castTop (ef_7 m u0 p1 p2 p3 p4 p5) r1, r2, r3, r4⟩
  refine own_go (T := s₁) (T' := s₁) (f := (mkF m 0 #[.val (.ref u0), .val (.int p1), .val (.int p2), .val (.int p3), .val (.int p4), .val (.int p5)] [])) (f' := (mkF m 4 #[.val (.ref u0), .val (.int p1), .val (.int p2), .val (.int p3), .val (.int p4), .val (.int p5)] [(.int (0 : Int32)), (.ref u0), (.int p1), (.int (0 : Int32))])) (fun t k => ?_) ?_
  · show Steps p.tables e below (s₁.setTop (mkF m 0 #[.val (.ref u0), .val (.int p1), .val (.int p2), .val (.int p3), .val (.int p4), .val (.int p5)] [])) _
    refine XS.iconst X0.here hx rfl (hb hby d7_0) ?_
    show Steps p.tables e below (s₁.setTop (mkF m 1 #[.val (.ref u0), .val (.int p1), .val (.int p2), .val (.int p3), .val (.int p4), .val (.int p5)] [(.int (0 : Int32))])) _
    refine XS.iloadN X0.here hx rfl (hb hby d7_1) rfl ?_
    show Steps p.tables e below (s₁.setTop (mkF m 2 #[.val (.ref u0), .val (.int p1), .val (.int p2), .val (.int p3), .val (.int p4), .val (.int p5)] [(.int p1), (.int (0 : Int32))])) _
    refine XS.aloadN X0.here hx rfl (hb hby d7_2) rfl rfl ?_
    show Steps p.tables e below (s₁.setTop (mkF m 3 #[.val (.ref u0), .val (.int p1), .val (.int p2), .val (.int p3), .val (.int p4), .val (.int p5)] [(.ref u0), (.int p1), (.int (0 : Int32))])) _
    refine XS.iconst X0.here hx rfl (hb hby d7_3) ?_
    exact k
  obtain ⟨cl11, Ar11, q111, q211, q311, q411, q511⟩ := id Vu
  have hin11 : ¬ ((0 : Int32) < 0 ∨ cl11.slots.size ≤ ((0 : Int32)).toNatClampNeg) := inb_of q211 ⟨by decide, by decide⟩
  refine own_go (f' := (mkF m 5 #[.val (.ref u0), .val (.int p1), .val (.int p2), .val (.int p3), .val (.int p4), .val (.int p5)] [(.int (us 0)), (.int p1), (.int (0 : Int32))])) (X0.iaload hx (j := (0 : Int32)) (v := (.int (us 0))) (by rw [e0]; exact Ar11.1) (State.isArrayOf_alike hZ.alike Ar11.2.1) Ar11.2.2 hin11 (Has.at q411 hin11 rfl) (g := (mkF m 4 #[.val (.ref u0), .val (.int p1), .val (.int p2), .val (.int p3), .val (.int p4), .val (.int p5)] [(.int (0 : Int32)), (.ref u0), (.int p1), (.int (0 : Int32))])) rfl rfl (hb hby d7_4)) ?_
  show Rch p e below _ s₁ (mkF m 5 #[.val (.ref u0), .val (.int p1), .val (.int p2), .val (.int p3), .val (.int p4), .val (.int p5)] [(.int (us 0)), (.int p1), (.int (0 : Int32))])
  refine own_go (T := s₁) (T' := s₁) (f := (mkF m 5 #[.val (.ref u0), .val (.int p1), .val (.int p2), .val (.int p3), .val (.int p4), .val (.int p5)] [(.int (us 0)), (.int p1), (.int (0 : Int32))])) (f' := (mkF m 11 #[.val (.ref u0), .val (.int p1), .val (.int p2), .val (.int p3), .val (.int p4), .val (.int p5)] [(.int p5), (.int p4), (.int p3), (.int p2), (.int (us 0)), (.int p1), (.int (0 : Int32))])) (fun t k => ?_) ?_
  · show Steps p.tables e below (s₁.setTop (mkF m 5 #[.val (.ref u0), .val (.int p1), .val (.int p2), .val (.int p3), .val (.int p4), .val (.int p5)] [(.int (us 0)), (.int p1), (.int (0 : Int32))])) _
    refine XS.iloadN X0.here hx rfl (hb hby d7_5) rfl ?_
    show Steps p.tables e below (s₁.setTop (mkF m 6 #[.val (.ref u0), .val (.int p1), .val (.int p2), .val (.int p3), .val (.int p4), .val (.int p5)] [(.int p2), (.int (us 0)), (.int p1), (.int (0 : Int32))])) _
    refine XS.iloadN X0.here hx rfl (hb hby d7_6) rfl ?_
    show Steps p.tables e below (s₁.setTop (mkF m 7 #[.val (.ref u0), .val (.int p1), .val (.int p2), .val (.int p3), .val (.int p4), .val (.int p5)] [(.int p3), (.int p2), (.int (us 0)), (.int p1), (.int (0 : Int32))])) _
    refine XS.iload X0.here hx rfl (hb hby d7_7) rfl ?_
    show Steps p.tables e below (s₁.setTop (mkF m 9 #[.val (.ref u0), .val (.int p1), .val (.int p2), .val (.int p3), .val (.int p4), .val (.int p5)] [(.int p4), (.int p3), (.int p2), (.int (us 0)), (.int p1), (.int (0 : Int32))])) _
    refine XS.iload X0.here hx rfl (hb hby d7_9) rfl ?_
    exact k
  obtain ⟨_, _, ⟨T12, L12, k12, n12⟩, -, X12, ⟨Lc12, hQ12, l12, y12, z12⟩, st12⟩ := Jvm.LawKit.callS X0 hx (y := (⟨"com/example/leafweight/leafweight/codec/ByteCountsAddPinLaw", "hits", "(IIIIIII)J"⟩ : MethodName)) hown (mvT hZ (hw _ (List.mem_of_getElem? (i := 36) rfl))) (mvT hZ (hw _ (List.mem_of_getElem? (i := 37) rfl))) (mvT hZ (hw _ (List.mem_of_getElem? (i := 34) rfl))) (mvT hZ (hw _ (List.mem_of_getElem? (i := 38) rfl))) (by decide) (backOf (W := 0) (rm8 l Z a0 hw [] (0 : Int32) p1 (us 0) p2 p3 p4 p5 h0 n0 Z0) hZ (hw _ (List.mem_of_getElem? (i := 38) rfl)) (hw _ (List.mem_of_getElem? (i := 34) rfl)) (by decide) (by decide)) (g := (mkF m 11 #[.val (.ref u0), .val (.int p1), .val (.int p2), .val (.int p3), .val (.int p4), .val (.int p5)] [(.int p5), (.int p4), (.int p3), (.int p2), (.int (us 0)), (.int p1), (.int (0 : Int32))])) rfl (by rw [hml]; rfl) (argsL := [(.int (0 : Int32)), (.int p1), (.int (us 0)), (.int p2), (.int p3), (.int p4), (.int p5)]) (rest := []) (lenOf pd__28IIIIIII_29J rfl) rfl (by show 2 * 0 + _ ≤ _; exact Nat.le_of_eq rfl) (hb hby d7_11) (fun _ _ => ⟨rfl, e0, (by decide : 0 + 0 ≤ _), (by decide : 0 + 0 ≤ _)⟩)
  dsimp only [Pt.U, Pt.locs, Pt.cells, Pt.slots] at X12 l12 y12 z12 st12 hQ12
  subst l12 y12 z12
  obtain ⟨rfl, N12q, e12⟩ := hQ12
  have N12 := Fr.app N0 N12q
  refine own_go st12 ?_
  show Rch p e below _ T12 (mkF m 14 #[.val (.ref u0), .val (.int p1), .val (.int p2), .val (.int p3), .val (.int p4), .val (.int p5)] [(.long (own_hits (0 : Int32) p1 (us 0) p2 p3 p4 p5))])
  refine own_go (T := T12) (T' := T12) (f := (mkF m 14 #[.val (.ref u0), .val (.int p1), .val (.int p2), .val (.int p3), .val (.int p4), .val (.int p5)] [(.long (own_hits (0 : Int32) p1 (us 0) p2 p3 p4 p5))])) (f' := (mkF m 18 #[.val (.ref u0), .val (.int p1), .val (.int p2), .val (.int p3), .val (.int p4), .val (.int p5)] [(.int (1 : Int32)), (.ref u0), (.int p1), (.int (1 : Int32)), (.long (own_hits (0 : Int32) p1 (us 0) p2 p3 p4 p5))])) (fun t k => ?_) ?_
  · show Steps p.tables e below (T12.setTop (mkF m 14 #[.val (.ref u0), .val (.int p1), .val (.int p2), .val (.int p3), .val (.int p4), .val (.int p5)] [(.long (own_hits (0 : Int32) p1 (us 0) p2 p3 p4 p5))])) _
    refine XS.iconst X12.here hx rfl (hb hby d7_14) ?_
    show Steps p.tables e below (T12.setTop (mkF m 15 #[.val (.ref u0), .val (.int p1), .val (.int p2), .val (.int p3), .val (.int p4), .val (.int p5)] [(.int (1 : Int32)), (.long (own_hits (0 : Int32) p1 (us 0) p2 p3 p4 p5))])) _
    refine XS.iloadN X12.here hx rfl (hb hby d7_15) rfl ?_
    show Steps p.tables e below (T12.setTop (mkF m 16 #[.val (.ref u0), .val (.int p1), .val (.int p2), .val (.int p3), .val (.int p4), .val (.int p5)] [(.int p1), (.int (1 : Int32)), (.long (own_hits (0 : Int32) p1 (us 0) p2 p3 p4 p5))])) _
    refine XS.aloadN X12.here hx rfl (hb hby d7_16) rfl rfl ?_
    show Steps p.tables e below (T12.setTop (mkF m 17 #[.val (.ref u0), .val (.int p1), .val (.int p2), .val (.int p3), .val (.int p4), .val (.int p5)] [(.ref u0), (.int p1), (.int (1 : Int32)), (.long (own_hits (0 : Int32) p1 (us 0) p2 p3 p4 p5))])) _
    refine XS.iconst X12.here hx rfl (hb hby d7_17) ?_
    exact k
  obtain ⟨cl13, Ar13, q113, q213, q313, q413, q513⟩ := id Vu
  have hin13 : ¬ ((1 : Int32) < 0 ∨ cl13.slots.size ≤ ((1 : Int32)).toNatClampNeg) := inb_of q213 ⟨by decide, by decide⟩
  refine own_go (f' := (mkF m 19 #[.val (.ref u0), .val (.int p1), .val (.int p2), .val (.int p3), .val (.int p4), .val (.int p5)] [(.int (us 1)), (.int p1), (.int (1 : Int32)), (.long (own_hits (0 : Int32) p1 (us 0) p2 p3 p4 p5))])) (X12.iaload hx (j := (1 : Int32)) (v := (.int (us 1))) (by rw [e12]; exact Ar13.1) (State.isArrayOf_alike hZ.alike Ar13.2.1) Ar13.2.2 hin13 (Has.at q413 hin13 rfl) (g := (mkF m 18 #[.val (.ref u0), .val (.int p1), .val (.int p2), .val (.int p3), .val (.int p4), .val (.int p5)] [(.int (1 : Int32)), (.ref u0), (.int p1), (.int (1 : Int32)), (.long (own_hits (0 : Int32) p1 (us 0) p2 p3 p4 p5))])) rfl rfl (hb hby d7_18)) ?_
  show Rch p e below _ T12 (mkF m 19 #[.val (.ref u0), .val (.int p1), .val (.int p2), .val (.int p3), .val (.int p4), .val (.int p5)] [(.int (us 1)), (.int p1), (.int (1 : Int32)), (.long (own_hits (0 : Int32) p1 (us 0) p2 p3 p4 p5))])
  refine own_go (T := T12) (T' := T12) (f := (mkF m 19 #[.val (.ref u0), .val (.int p1), .val (.int p2), .val (.int p3), .val (.int p4), .val (.int p5)] [(.int (us 1)), (.int p1), (.int (1 : Int32)), (.long (own_hits (0 : Int32) p1 (us 0) p2 p3 p4 p5))])) (f' := (mkF m 25 #[.val (.ref u0), .val (.int p1), .val (.int p2), .val (.int p3), .val (.int p4), .val (.int p5)] [(.int p5), (.int p4), (.int p3), (.int p2), (.int (us 1)), (.int p1), (.int (1 : Int32)), (.long (own_hits (0 : Int32) p1 (us 0) p2 p3 p4 p5))])) (fun t k => ?_) ?_
  · show Steps p.tables e below (T12.setTop (mkF m 19 #[.val (.ref u0), .val (.int p1), .val (.int p2), .val (.int p3), .val (.int p4), .val (.int p5)] [(.int (us 1)), (.int p1), (.int (1 : Int32)), (.long (own_hits (0 : Int32) p1 (us 0) p2 p3 p4 p5))])) _
    refine XS.iloadN X12.here hx rfl (hb hby d7_19) rfl ?_
    show Steps p.tables e below (T12.setTop (mkF m 20 #[.val (.ref u0), .val (.int p1), .val (.int p2), .val (.int p3), .val (.int p4), .val (.int p5)] [(.int p2), (.int (us 1)), (.int p1), (.int (1 : Int32)), (.long (own_hits (0 : Int32) p1 (us 0) p2 p3 p4 p5))])) _
    refine XS.iloadN X12.here hx rfl (hb hby d7_20) rfl ?_
    show Steps p.tables e below (T12.setTop (mkF m 21 #[.val (.ref u0), .val (.int p1), .val (.int p2), .val (.int p3), .val (.int p4), .val (.int p5)] [(.int p3), (.int p2), (.int (us 1)), (.int p1), (.int (1 : Int32)), (.long (own_hits (0 : Int32) p1 (us 0) p2 p3 p4 p5))])) _
    refine XS.iload X12.here hx rfl (hb hby d7_21) rfl ?_
    show Steps p.tables e below (T12.setTop (mkF m 23 #[.val (.ref u0), .val (.int p1), .val (.int p2), .val (.int p3), .val (.int p4), .val (.int p5)] [(.int p4), (.int p3), (.int p2), (.int (us 1)), (.int p1), (.int (1 : Int32)), (.long (own_hits (0 : Int32) p1 (us 0) p2 p3 p4 p5))])) _
    refine XS.iload X12.here hx rfl (hb hby d7_23) rfl ?_
    exact k
  obtain ⟨_, _, ⟨T14, L14, k14, n14⟩, -, X14, ⟨Lc14, hQ14, l14, y14, z14⟩, st14⟩ := Jvm.LawKit.callS X12 hx (y := (⟨"com/example/leafweight/leafweight/codec/ByteCountsAddPinLaw", "hits", "(IIIIIII)J"⟩ : MethodName)) hown (mvT hZ (hw _ (List.mem_of_getElem? (i := 36) rfl))) (mvT hZ (hw _ (List.mem_of_getElem? (i := 37) rfl))) (mvT hZ (hw _ (List.mem_of_getElem? (i := 34) rfl))) (mvT hZ (hw _ (List.mem_of_getElem? (i := 38) rfl))) (by decide) (backOf (W := 2) (rm8 l Z a0 hw [] (1 : Int32) p1 (us 1) p2 p3 p4 p5 h0 n0 Z0) hZ (hw _ (List.mem_of_getElem? (i := 38) rfl)) (hw _ (List.mem_of_getElem? (i := 34) rfl)) (by decide) (by decide)) (g := (mkF m 25 #[.val (.ref u0), .val (.int p1), .val (.int p2), .val (.int p3), .val (.int p4), .val (.int p5)] [(.int p5), (.int p4), (.int p3), (.int p2), (.int (us 1)), (.int p1), (.int (1 : Int32)), (.long (own_hits (0 : Int32) p1 (us 0) p2 p3 p4 p5))])) rfl (by rw [hml]; rfl) (argsL := [(.int (1 : Int32)), (.int p1), (.int (us 1)), (.int p2), (.int p3), (.int p4), (.int p5)]) (rest := [(.long (own_hits (0 : Int32) p1 (us 0) p2 p3 p4 p5))]) (lenOf pd__28IIIIIII_29J rfl) rfl (by show 2 * 0 + _ ≤ _; exact Nat.le_of_eq rfl) (hb hby d7_25) (fun _ _ => ⟨rfl, e12, (by decide : 0 + 0 ≤ _), (by decide : 0 + 0 ≤ _)⟩)
  dsimp only [Pt.U, Pt.locs, Pt.cells, Pt.slots] at X14 l14 y14 z14 st14 hQ14
  subst l14 y14 z14
  obtain ⟨rfl, N14q, e14⟩ := hQ14
  have N14 := Fr.app N12 N14q
  refine own_go st14 ?_
  show Rch p e below _ T14 (mkF m 28 #[.val (.ref u0), .val (.int p1), .val (.int p2), .val (.int p3), .val (.int p4), .val (.int p5)] [(.long (own_hits (1 : Int32) p1 (us 1) p2 p3 p4 p5)), (.long (own_hits (0 : Int32) p1 (us 0) p2 p3 p4 p5))])
  refine own_go (T := T14) (T' := T14) (f := (mkF m 28 #[.val (.ref u0), .val (.int p1), .val (.int p2), .val (.int p3), .val (.int p4), .val (.int p5)] [(.long (own_hits (1 : Int32) p1 (us 1) p2 p3 p4 p5)), (.long (own_hits (0 : Int32) p1 (us 0) p2 p3 p4 p5))])) (f' := (mkF m 29 #[.val (.ref u0), .val (.int p1), .val (.int p2), .val (.int p3), .val (.int p4), .val (.int p5)] [(.long ((own_hits (0 : Int32) p1 (us 0) p2 p3 p4 p5) + (own_hits (1 : Int32) p1 (us 1) p2 p3 p4 p5)))])) (fun t k => ?_) ?_
  · show Steps p.tables e below (T14.setTop (mkF m 28 #[.val (.ref u0), .val (.int p1), .val (.int p2), .val (.int p3), .val (.int p4), .val (.int p5)] [(.long (own_hits (1 : Int32) p1 (us 1) p2 p3 p4 p5)), (.long (own_hits (0 : Int32) p1 (us 0) p2 p3 p4 p5))])) _
    refine XS.ladd X14.here hx rfl (hb hby d7_28) rfl ?_
    exact k
  refine own_go (T := T14) (T' := T14) (f := (mkF m 29 #[.val (.ref u0), .val (.int p1), .val (.int p2), .val (.int p3), .val (.int p4), .val (.int p5)] [(.long ((own_hits (0 : Int32) p1 (us 0) p2 p3 p4 p5) + (own_hits (1 : Int32) p1 (us 1) p2 p3 p4 p5)))])) (f' := (mkF m 33 #[.val (.ref u0), .val (.int p1), .val (.int p2), .val (.int p3), .val (.int p4), .val (.int p5)] [(.int (2 : Int32)), (.ref u0), (.int p1), (.int (2 : Int32)), (.long ((own_hits (0 : Int32) p1 (us 0) p2 p3 p4 p5) + (own_hits (1 : Int32) p1 (us 1) p2 p3 p4 p5)))])) (fun t k => ?_) ?_
  · show Steps p.tables e below (T14.setTop (mkF m 29 #[.val (.ref u0), .val (.int p1), .val (.int p2), .val (.int p3), .val (.int p4), .val (.int p5)] [(.long ((own_hits (0 : Int32) p1 (us 0) p2 p3 p4 p5) + (own_hits (1 : Int32) p1 (us 1) p2 p3 p4 p5)))])) _
    refine XS.iconst X14.here hx rfl (hb hby d7_29) ?_
    show Steps p.tables e below (T14.setTop (mkF m 30 #[.val (.ref u0), .val (.int p1), .val (.int p2), .val (.int p3), .val (.int p4), .val (.int p5)] [(.int (2 : Int32)), (.long ((own_hits (0 : Int32) p1 (us 0) p2 p3 p4 p5) + (own_hits (1 : Int32) p1 (us 1) p2 p3 p4 p5)))])) _
    refine XS.iloadN X14.here hx rfl (hb hby d7_30) rfl ?_
    show Steps p.tables e below (T14.setTop (mkF m 31 #[.val (.ref u0), .val (.int p1), .val (.int p2), .val (.int p3), .val (.int p4), .val (.int p5)] [(.int p1), (.int (2 : Int32)), (.long ((own_hits (0 : Int32) p1 (us 0) p2 p3 p4 p5) + (own_hits (1 : Int32) p1 (us 1) p2 p3 p4 p5)))])) _
    refine XS.aloadN X14.here hx rfl (hb hby d7_31) rfl rfl ?_
    show Steps p.tables e below (T14.setTop (mkF m 32 #[.val (.ref u0), .val (.int p1), .val (.int p2), .val (.int p3), .val (.int p4), .val (.int p5)] [(.ref u0), (.int p1), (.int (2 : Int32)), (.long ((own_hits (0 : Int32) p1 (us 0) p2 p3 p4 p5) + (own_hits (1 : Int32) p1 (us 1) p2 p3 p4 p5)))])) _
    refine XS.iconst X14.here hx rfl (hb hby d7_32) ?_
    exact k
  obtain ⟨cl15, Ar15, q115, q215, q315, q415, q515⟩ := id Vu
  have hin15 : ¬ ((2 : Int32) < 0 ∨ cl15.slots.size ≤ ((2 : Int32)).toNatClampNeg) := inb_of q215 ⟨by decide, by decide⟩
  refine own_go (f' := (mkF m 34 #[.val (.ref u0), .val (.int p1), .val (.int p2), .val (.int p3), .val (.int p4), .val (.int p5)] [(.int (us 2)), (.int p1), (.int (2 : Int32)), (.long ((own_hits (0 : Int32) p1 (us 0) p2 p3 p4 p5) + (own_hits (1 : Int32) p1 (us 1) p2 p3 p4 p5)))])) (X14.iaload hx (j := (2 : Int32)) (v := (.int (us 2))) (by rw [e14]; exact Ar15.1) (State.isArrayOf_alike hZ.alike Ar15.2.1) Ar15.2.2 hin15 (Has.at q415 hin15 rfl) (g := (mkF m 33 #[.val (.ref u0), .val (.int p1), .val (.int p2), .val (.int p3), .val (.int p4), .val (.int p5)] [(.int (2 : Int32)), (.ref u0), (.int p1), (.int (2 : Int32)), (.long ((own_hits (0 : Int32) p1 (us 0) p2 p3 p4 p5) + (own_hits (1 : Int32) p1 (us 1) p2 p3 p4 p5)))])) rfl rfl (hb hby d7_33)) ?_
  show Rch p e below _ T14 (mkF m 34 #[.val (.ref u0), .val (.int p1), .val (.int p2), .val (.int p3), .val (.int p4), .val (.int p5)] [(.int (us 2)), (.int p1), (.int (2 : Int32)), (.long ((own_hits (0 : Int32) p1 (us 0) p2 p3 p4 p5) + (own_hits (1 : Int32) p1 (us 1) p2 p3 p4 p5)))])
  refine own_go (T := T14) (T' := T14) (f := (mkF m 34 #[.val (.ref u0), .val (.int p1), .val (.int p2), .val (.int p3), .val (.int p4), .val (.int p5)] [(.int (us 2)), (.int p1), (.int (2 : Int32)), (.long ((own_hits (0 : Int32) p1 (us 0) p2 p3 p4 p5) + (own_hits (1 : Int32) p1 (us 1) p2 p3 p4 p5)))])) (f' := (mkF m 40 #[.val (.ref u0), .val (.int p1), .val (.int p2), .val (.int p3), .val (.int p4), .val (.int p5)] [(.int p5), (.int p4), (.int p3), (.int p2), (.int (us 2)), (.int p1), (.int (2 : Int32)), (.long ((own_hits (0 : Int32) p1 (us 0) p2 p3 p4 p5) + (own_hits (1 : Int32) p1 (us 1) p2 p3 p4 p5)))])) (fun t k => ?_) ?_
  · show Steps p.tables e below (T14.setTop (mkF m 34 #[.val (.ref u0), .val (.int p1), .val (.int p2), .val (.int p3), .val (.int p4), .val (.int p5)] [(.int (us 2)), (.int p1), (.int (2 : Int32)), (.long ((own_hits (0 : Int32) p1 (us 0) p2 p3 p4 p5) + (own_hits (1 : Int32) p1 (us 1) p2 p3 p4 p5)))])) _
    refine XS.iloadN X14.here hx rfl (hb hby d7_34) rfl ?_
    show Steps p.tables e below (T14.setTop (mkF m 35 #[.val (.ref u0), .val (.int p1), .val (.int p2), .val (.int p3), .val (.int p4), .val (.int p5)] [(.int p2), (.int (us 2)), (.int p1), (.int (2 : Int32)), (.long ((own_hits (0 : Int32) p1 (us 0) p2 p3 p4 p5) + (own_hits (1 : Int32) p1 (us 1) p2 p3 p4 p5)))])) _
    refine XS.iloadN X14.here hx rfl (hb hby d7_35) rfl ?_
    show Steps p.tables e below (T14.setTop (mkF m 36 #[.val (.ref u0), .val (.int p1), .val (.int p2), .val (.int p3), .val (.int p4), .val (.int p5)] [(.int p3), (.int p2), (.int (us 2)), (.int p1), (.int (2 : Int32)), (.long ((own_hits (0 : Int32) p1 (us 0) p2 p3 p4 p5) + (own_hits (1 : Int32) p1 (us 1) p2 p3 p4 p5)))])) _
    refine XS.iload X14.here hx rfl (hb hby d7_36) rfl ?_
    show Steps p.tables e below (T14.setTop (mkF m 38 #[.val (.ref u0), .val (.int p1), .val (.int p2), .val (.int p3), .val (.int p4), .val (.int p5)] [(.int p4), (.int p3), (.int p2), (.int (us 2)), (.int p1), (.int (2 : Int32)), (.long ((own_hits (0 : Int32) p1 (us 0) p2 p3 p4 p5) + (own_hits (1 : Int32) p1 (us 1) p2 p3 p4 p5)))])) _
    refine XS.iload X14.here hx rfl (hb hby d7_38) rfl ?_
    exact k
  obtain ⟨_, _, ⟨T16, L16, k16, n16⟩, -, X16, ⟨Lc16, hQ16, l16, y16, z16⟩, st16⟩ := Jvm.LawKit.callS X14 hx (y := (⟨"com/example/leafweight/leafweight/codec/ByteCountsAddPinLaw", "hits", "(IIIIIII)J"⟩ : MethodName)) hown (mvT hZ (hw _ (List.mem_of_getElem? (i := 36) rfl))) (mvT hZ (hw _ (List.mem_of_getElem? (i := 37) rfl))) (mvT hZ (hw _ (List.mem_of_getElem? (i := 34) rfl))) (mvT hZ (hw _ (List.mem_of_getElem? (i := 38) rfl))) (by decide) (backOf (W := 2) (rm8 l Z a0 hw [] (2 : Int32) p1 (us 2) p2 p3 p4 p5 h0 n0 Z0) hZ (hw _ (List.mem_of_getElem? (i := 38) rfl)) (hw _ (List.mem_of_getElem? (i := 34) rfl)) (by decide) (by decide)) (g := (mkF m 40 #[.val (.ref u0), .val (.int p1), .val (.int p2), .val (.int p3), .val (.int p4), .val (.int p5)] [(.int p5), (.int p4), (.int p3), (.int p2), (.int (us 2)), (.int p1), (.int (2 : Int32)), (.long ((own_hits (0 : Int32) p1 (us 0) p2 p3 p4 p5) + (own_hits (1 : Int32) p1 (us 1) p2 p3 p4 p5)))])) rfl (by rw [hml]; rfl) (argsL := [(.int (2 : Int32)), (.int p1), (.int (us 2)), (.int p2), (.int p3), (.int p4), (.int p5)]) (rest := [(.long ((own_hits (0 : Int32) p1 (us 0) p2 p3 p4 p5) + (own_hits (1 : Int32) p1 (us 1) p2 p3 p4 p5)))]) (lenOf pd__28IIIIIII_29J rfl) rfl (by show 2 * 0 + _ ≤ _; exact Nat.le_of_eq rfl) (hb hby d7_40) (fun _ _ => ⟨rfl, e14, (by decide : 0 + 0 ≤ _), (by decide : 0 + 0 ≤ _)⟩)
  dsimp only [Pt.U, Pt.locs, Pt.cells, Pt.slots] at X16 l16 y16 z16 st16 hQ16
  subst l16 y16 z16
  obtain ⟨rfl, N16q, e16⟩ := hQ16
  have N16 := Fr.app N14 N16q
  refine own_go st16 ?_
  show Rch p e below _ T16 (mkF m 43 #[.val (.ref u0), .val (.int p1), .val (.int p2), .val (.int p3), .val (.int p4), .val (.int p5)] [(.long (own_hits (2 : Int32) p1 (us 2) p2 p3 p4 p5)), (.long ((own_hits (0 : Int32) p1 (us 0) p2 p3 p4 p5) + (own_hits (1 : Int32) p1 (us 1) p2 p3 p4 p5)))])
  refine own_go (T := T16) (T' := T16) (f := (mkF m 43 #[.val (.ref u0), .val (.int p1), .val (.int p2), .val (.int p3), .val (.int p4), .val (.int p5)] [(.long (own_hits (2 : Int32) p1 (us 2) p2 p3 p4 p5)), (.long ((own_hits (0 : Int32) p1 (us 0) p2 p3 p4 p5) + (own_hits (1 : Int32) p1 (us 1) p2 p3 p4 p5)))])) (f' := (mkF m 44 #[.val (.ref u0), .val (.int p1), .val (.int p2), .val (.int p3), .val (.int p4), .val (.int p5)] [(.long (((own_hits (0 : Int32) p1 (us 0) p2 p3 p4 p5) + (own_hits (1 : Int32) p1 (us 1) p2 p3 p4 p5)) + (own_hits (2 : Int32) p1 (us 2) p2 p3 p4 p5)))])) (fun t k => ?_) ?_
  · show Steps p.tables e below (T16.setTop (mkF m 43 #[.val (.ref u0), .val (.int p1), .val (.int p2), .val (.int p3), .val (.int p4), .val (.int p5)] [(.long (own_hits (2 : Int32) p1 (us 2) p2 p3 p4 p5)), (.long ((own_hits (0 : Int32) p1 (us 0) p2 p3 p4 p5) + (own_hits (1 : Int32) p1 (us 1) p2 p3 p4 p5)))])) _
    refine XS.ladd X16.here hx rfl (hb hby d7_43) rfl ?_
    exact k
  refine own_go (T := T16) (T' := T16) (f := (mkF m 44 #[.val (.ref u0), .val (.int p1), .val (.int p2), .val (.int p3), .val (.int p4), .val (.int p5)] [(.long (((own_hits (0 : Int32) p1 (us 0) p2 p3 p4 p5) + (own_hits (1 : Int32) p1 (us 1) p2 p3 p4 p5)) + (own_hits (2 : Int32) p1 (us 2) p2 p3 p4 p5)))])) (f' := (mkF m 48 #[.val (.ref u0), .val (.int p1), .val (.int p2), .val (.int p3), .val (.int p4), .val (.int p5)] [(.int (3 : Int32)), (.ref u0), (.int p1), (.int (3 : Int32)), (.long (((own_hits (0 : Int32) p1 (us 0) p2 p3 p4 p5) + (own_hits (1 : Int32) p1 (us 1) p2 p3 p4 p5)) + (own_hits (2 : Int32) p1 (us 2) p2 p3 p4 p5)))])) (fun t k => ?_) ?_
  · show Steps p.tables e below (T16.setTop (mkF m 44 #[.val (.ref u0), .val (.int p1), .val (.int p2), .val (.int p3), .val (.int p4), .val (.int p5)] [(.long (((own_hits (0 : Int32) p1 (us 0) p2 p3 p4 p5) + (own_hits (1 : Int32) p1 (us 1) p2 p3 p4 p5)) + (own_hits (2 : Int32) p1 (us 2) p2 p3 p4 p5)))])) _
    refine XS.iconst X16.here hx rfl (hb hby d7_44) ?_
    show Steps p.tables e below (T16.setTop (mkF m 45 #[.val (.ref u0), .val (.int p1), .val (.int p2), .val (.int p3), .val (.int p4), .val (.int p5)] [(.int (3 : Int32)), (.long (((own_hits (0 : Int32) p1 (us 0) p2 p3 p4 p5) + (own_hits (1 : Int32) p1 (us 1) p2 p3 p4 p5)) + (own_hits (2 : Int32) p1 (us 2) p2 p3 p4 p5)))])) _
    refine XS.iloadN X16.here hx rfl (hb hby d7_45) rfl ?_
    show Steps p.tables e below (T16.setTop (mkF m 46 #[.val (.ref u0), .val (.int p1), .val (.int p2), .val (.int p3), .val (.int p4), .val (.int p5)] [(.int p1), (.int (3 : Int32)), (.long (((own_hits (0 : Int32) p1 (us 0) p2 p3 p4 p5) + (own_hits (1 : Int32) p1 (us 1) p2 p3 p4 p5)) + (own_hits (2 : Int32) p1 (us 2) p2 p3 p4 p5)))])) _
    refine XS.aloadN X16.here hx rfl (hb hby d7_46) rfl rfl ?_
    show Steps p.tables e below (T16.setTop (mkF m 47 #[.val (.ref u0), .val (.int p1), .val (.int p2), .val (.int p3), .val (.int p4), .val (.int p5)] [(.ref u0), (.int p1), (.int (3 : Int32)), (.long (((own_hits (0 : Int32) p1 (us 0) p2 p3 p4 p5) + (own_hits (1 : Int32) p1 (us 1) p2 p3 p4 p5)) + (own_hits (2 : Int32) p1 (us 2) p2 p3 p4 p5)))])) _
    refine XS.iconst X16.here hx rfl (hb hby d7_47) ?_
    exact k
  obtain ⟨cl17, Ar17, q117, q217, q317, q417, q517⟩ := id Vu
  have hin17 : ¬ ((3 : Int32) < 0 ∨ cl17.slots.size ≤ ((3 : Int32)).toNatClampNeg) := inb_of q217 ⟨by decide, by decide⟩
  refine own_go (f' := (mkF m 49 #[.val (.ref u0), .val (.int p1), .val (.int p2), .val (.int p3), .val (.int p4), .val (.int p5)] [(.int (us 3)), (.int p1), (.int (3 : Int32)), (.long (((own_hits (0 : Int32) p1 (us 0) p2 p3 p4 p5) + (own_hits (1 : Int32) p1 (us 1) p2 p3 p4 p5)) + (own_hits (2 : Int32) p1 (us 2) p2 p3 p4 p5)))])) (X16.iaload hx (j := (3 : Int32)) (v := (.int (us 3))) (by rw [e16]; exact Ar17.1) (State.isArrayOf_alike hZ.alike Ar17.2.1) Ar17.2.2 hin17 (Has.at q417 hin17 rfl) (g := (mkF m 48 #[.val (.ref u0), .val (.int p1), .val (.int p2), .val (.int p3), .val (.int p4), .val (.int p5)] [(.int (3 : Int32)), (.ref u0), (.int p1), (.int (3 : Int32)), (.long (((own_hits (0 : Int32) p1 (us 0) p2 p3 p4 p5) + (own_hits (1 : Int32) p1 (us 1) p2 p3 p4 p5)) + (own_hits (2 : Int32) p1 (us 2) p2 p3 p4 p5)))])) rfl rfl (hb hby d7_48)) ?_
  show Rch p e below _ T16 (mkF m 49 #[.val (.ref u0), .val (.int p1), .val (.int p2), .val (.int p3), .val (.int p4), .val (.int p5)] [(.int (us 3)), (.int p1), (.int (3 : Int32)), (.long (((own_hits (0 : Int32) p1 (us 0) p2 p3 p4 p5) + (own_hits (1 : Int32) p1 (us 1) p2 p3 p4 p5)) + (own_hits (2 : Int32) p1 (us 2) p2 p3 p4 p5)))])
  refine own_go (T := T16) (T' := T16) (f := (mkF m 49 #[.val (.ref u0), .val (.int p1), .val (.int p2), .val (.int p3), .val (.int p4), .val (.int p5)] [(.int (us 3)), (.int p1), (.int (3 : Int32)), (.long (((own_hits (0 : Int32) p1 (us 0) p2 p3 p4 p5) + (own_hits (1 : Int32) p1 (us 1) p2 p3 p4 p5)) + (own_hits (2 : Int32) p1 (us 2) p2 p3 p4 p5)))])) (f' := (mkF m 55 #[.val (.ref u0), .val (.int p1), .val (.int p2), .val (.int p3), .val (.int p4), .val (.int p5)] [(.int p5), (.int p4), (.int p3), (.int p2), (.int (us 3)), (.int p1), (.int (3 : Int32)), (.long (((own_hits (0 : Int32) p1 (us 0) p2 p3 p4 p5) + (own_hits (1 : Int32) p1 (us 1) p2 p3 p4 p5)) + (own_hits (2 : Int32) p1 (us 2) p2 p3 p4 p5)))])) (fun t k => ?_) ?_
  · show Steps p.tables e below (T16.setTop (mkF m 49 #[.val (.ref u0), .val (.int p1), .val (.int p2), .val (.int p3), .val (.int p4), .val (.int p5)] [(.int (us 3)), (.int p1), (.int (3 : Int32)), (.long (((own_hits (0 : Int32) p1 (us 0) p2 p3 p4 p5) + (own_hits (1 : Int32) p1 (us 1) p2 p3 p4 p5)) + (own_hits (2 : Int32) p1 (us 2) p2 p3 p4 p5)))])) _
    refine XS.iloadN X16.here hx rfl (hb hby d7_49) rfl ?_
    show Steps p.tables e below (T16.setTop (mkF m 50 #[.val (.ref u0), .val (.int p1), .val (.int p2), .val (.int p3), .val (.int p4), .val (.int p5)] [(.int p2), (.int (us 3)), (.int p1), (.int (3 : Int32)), (.long (((own_hits (0 : Int32) p1 (us 0) p2 p3 p4 p5) + (own_hits (1 : Int32) p1 (us 1) p2 p3 p4 p5)) + (own_hits (2 : Int32) p1 (us 2) p2 p3 p4 p5)))])) _
    refine XS.iloadN X16.here hx rfl (hb hby d7_50) rfl ?_
    show Steps p.tables e below (T16.setTop (mkF m 51 #[.val (.ref u0), .val (.int p1), .val (.int p2), .val (.int p3), .val (.int p4), .val (.int p5)] [(.int p3), (.int p2), (.int (us 3)), (.int p1), (.int (3 : Int32)), (.long (((own_hits (0 : Int32) p1 (us 0) p2 p3 p4 p5) + (own_hits (1 : Int32) p1 (us 1) p2 p3 p4 p5)) + (own_hits (2 : Int32) p1 (us 2) p2 p3 p4 p5)))])) _
    refine XS.iload X16.here hx rfl (hb hby d7_51) rfl ?_
    show Steps p.tables e below (T16.setTop (mkF m 53 #[.val (.ref u0), .val (.int p1), .val (.int p2), .val (.int p3), .val (.int p4), .val (.int p5)] [(.int p4), (.int p3), (.int p2), (.int (us 3)), (.int p1), (.int (3 : Int32)), (.long (((own_hits (0 : Int32) p1 (us 0) p2 p3 p4 p5) + (own_hits (1 : Int32) p1 (us 1) p2 p3 p4 p5)) + (own_hits (2 : Int32) p1 (us 2) p2 p3 p4 p5)))])) _
    refine XS.iload X16.here hx rfl (hb hby d7_53) rfl ?_
    exact k
  obtain ⟨_, _, ⟨T18, L18, k18, n18⟩, -, X18, ⟨Lc18, hQ18, l18, y18, z18⟩, st18⟩ := Jvm.LawKit.callS X16 hx (y := (⟨"com/example/leafweight/leafweight/codec/ByteCountsAddPinLaw", "hits", "(IIIIIII)J"⟩ : MethodName)) hown (mvT hZ (hw _ (List.mem_of_getElem? (i := 36) rfl))) (mvT hZ (hw _ (List.mem_of_getElem? (i := 37) rfl))) (mvT hZ (hw _ (List.mem_of_getElem? (i := 34) rfl))) (mvT hZ (hw _ (List.mem_of_getElem? (i := 38) rfl))) (by decide) (backOf (W := 2) (rm8 l Z a0 hw [] (3 : Int32) p1 (us 3) p2 p3 p4 p5 h0 n0 Z0) hZ (hw _ (List.mem_of_getElem? (i := 38) rfl)) (hw _ (List.mem_of_getElem? (i := 34) rfl)) (by decide) (by decide)) (g := (mkF m 55 #[.val (.ref u0), .val (.int p1), .val (.int p2), .val (.int p3), .val (.int p4), .val (.int p5)] [(.int p5), (.int p4), (.int p3), (.int p2), (.int (us 3)), (.int p1), (.int (3 : Int32)), (.long (((own_hits (0 : Int32) p1 (us 0) p2 p3 p4 p5) + (own_hits (1 : Int32) p1 (us 1) p2 p3 p4 p5)) + (own_hits (2 : Int32) p1 (us 2) p2 p3 p4 p5)))])) rfl (by rw [hml]; rfl) (argsL := [(.int (3 : Int32)), (.int p1), (.int (us 3)), (.int p2), (.int p3), (.int p4), (.int p5)]) (rest := [(.long (((own_hits (0 : Int32) p1 (us 0) p2 p3 p4 p5) + (own_hits (1 : Int32) p1 (us 1) p2 p3 p4 p5)) + (own_hits (2 : Int32) p1 (us 2) p2 p3 p4 p5)))]) (lenOf pd__28IIIIIII_29J rfl) rfl (by show 2 * 0 + _ ≤ _; exact Nat.le_of_eq rfl) (hb hby d7_55) (fun _ _ => ⟨rfl, e16, (by decide : 0 + 0 ≤ _), (by decide : 0 + 0 ≤ _)⟩)
  dsimp only [Pt.U, Pt.locs, Pt.cells, Pt.slots] at X18 l18 y18 z18 st18 hQ18
  subst l18 y18 z18
  obtain ⟨rfl, N18q, e18⟩ := hQ18
  have N18 := Fr.app N16 N18q
  refine own_go st18 ?_
  show Rch p e below _ T18 (mkF m 58 #[.val (.ref u0), .val (.int p1), .val (.int p2), .val (.int p3), .val (.int p4), .val (.int p5)] [(.long (own_hits (3 : Int32) p1 (us 3) p2 p3 p4 p5)), (.long (((own_hits (0 : Int32) p1 (us 0) p2 p3 p4 p5) + (own_hits (1 : Int32) p1 (us 1) p2 p3 p4 p5)) + (own_hits (2 : Int32) p1 (us 2) p2 p3 p4 p5)))])
  refine own_go (T := T18) (T' := T18) (f := (mkF m 58 #[.val (.ref u0), .val (.int p1), .val (.int p2), .val (.int p3), .val (.int p4), .val (.int p5)] [(.long (own_hits (3 : Int32) p1 (us 3) p2 p3 p4 p5)), (.long (((own_hits (0 : Int32) p1 (us 0) p2 p3 p4 p5) + (own_hits (1 : Int32) p1 (us 1) p2 p3 p4 p5)) + (own_hits (2 : Int32) p1 (us 2) p2 p3 p4 p5)))])) (f' := (mkF m 59 #[.val (.ref u0), .val (.int p1), .val (.int p2), .val (.int p3), .val (.int p4), .val (.int p5)] [(.long ((((own_hits (0 : Int32) p1 (us 0) p2 p3 p4 p5) + (own_hits (1 : Int32) p1 (us 1) p2 p3 p4 p5)) + (own_hits (2 : Int32) p1 (us 2) p2 p3 p4 p5)) + (own_hits (3 : Int32) p1 (us 3) p2 p3 p4 p5)))])) (fun t k => ?_) ?_
  · show Steps p.tables e below (T18.setTop (mkF m 58 #[.val (.ref u0), .val (.int p1), .val (.int p2), .val (.int p3), .val (.int p4), .val (.int p5)] [(.long (own_hits (3 : Int32) p1 (us 3) p2 p3 p4 p5)), (.long (((own_hits (0 : Int32) p1 (us 0) p2 p3 p4 p5) + (own_hits (1 : Int32) p1 (us 1) p2 p3 p4 p5)) + (own_hits (2 : Int32) p1 (us 2) p2 p3 p4 p5)))])) _
    refine XS.ladd X18.here hx rfl (hb hby d7_58) rfl ?_
    exact k
  exact own_retJ X18 hx hlk hret (hb hby d7_59) (by decide) (by decide) (by rw [e18]; exact ⟨rfl, N18, rfl⟩)
theorem pd__28_29V : parseMethodDescriptor "()V" = some ⟨[], none⟩ := by decide +kernel
theorem pd__28_5bBII_29V : parseMethodDescriptor "([BII)V" = some ⟨[(.array .byte), .int, .int], none⟩ := by decide +kernel
theorem pd__28I_29J : parseMethodDescriptor "(I)J" = some ⟨[.int], some .long⟩ := by decide +kernel
theorem pd__28_5bIIIIII_29J : parseMethodDescriptor "([IIIIII)J" = some ⟨[(.array .int), .int, .int, .int, .int, .int], some .long⟩ := by decide +kernel
theorem pn_0 : plainName "com/example/leafweight/leafweight/codec/ByteCountsAddPinLaw" = true := by first | (simp [plainName, overriddenIn]; done) | decide +kernel
theorem ef_0 (m : MethodId) (x0 : Int32) (x1 : Int32) (x2 : Int32) : entryFrame m #[(.int x0), (.int x1), (.int x2)] maxLocals = mkF m 0 #[.val (.int x0), .val (.int x1), .val (.int x2), .unset, .unset, .unset, .unset, .unset, .unset, .unset, .unset] [] := by first | (simp [entryFrame, mkF, argsToLocals, Value.category, maxLocals]; done) | rfl
def Q0 (Z : State) (p0 : Int32) (p1 : Int32) (p2 : Int32) (h0 : Heap) (n0 : Nat) (v : Option Value) (h : Heap) (L : List Loc) : Prop := v = some (.int 1) ∧ Fr n0 L
set_option maxRecDepth 65536 in
set_option maxHeartbeats 40000000 in
theorem rm0 (l : Launch) (Z : State) (a0 : Array Value) (hw : ∀ d ∈ tables_1, d.before a0 Z = true) (ws : List Jvm.Cond) (p0 : Int32) (p1 : Int32) (p2 : Int32) (h0 : Heap) (n0 : Nat) (Z0 : n0 ≤ h0.size) :
    MetFree l x (head1 (Jvm.Cond.code x code maxLocals ret :: ws) room_1) (fun a U => a = #[(.int p0), (.int p1), (.int p2)] ∧ Z.Warmed39 U.vm ∧ U.heap = h0) (fun _ _ _ _ _ => True) (fun _ U o U' => ∃ v L, o = .returned v ∧ Q0 Z p0 p1 p2 h0 n0 v U'.heap L ∧ FrameEnd U o U' L room_1.cells room_1.slots) := by
  refine MetFree.of_bodySF (plainFor_of_name pn_0) hisR ?_
  intro p e s m args below meth c s₁ Bd hml0 hP hK
  obtain ⟨rfl, hZ, hh⟩ := hP
  have hx := Bd.exec
  have hby := Bd.bytes
  have hlk := Bd.notSynchronized
  have hret := Bd.returns
  have hml : c.maxLocals = 11 := hml0
  have hown : s.vm.findClass "com/example/leafweight/leafweight/codec/ByteCountsAddPinLaw" = some m.cls := findClass_of_methodNamed Bd.named
  have hnm := (name_of_methodNamed Bd.named Bd.method).1
  have X0 : Stand p l e room_1 s m #[(.int p0), (.int p1), (.int p2)] below meth c s₁ [] 0 0 := Stand.of_body Bd
  have e0 : s₁.heap = h0 := by rw [← hh, Bd.state]; rfl
  have N0 := Fr.nil n0
  suffices G0 : Rch p e below (Gd s (Q0 Z p0 p1 p2 h0 n0) room_1.cells room_1.slots) s₁ (mkF m 0 #[.val (.int p0), .val (.int p1), .val (.int p2), .unset, .unset, .unset, .unset, .unset, .unset, .unset, .unset] []) by
    obtain ⟨s₂, o, r1, r2, r3, r4⟩ := G0
    exact ⟨s₂, o, castTop (ef_0 m p0 p1 p2) r1, r2, r3, r4⟩
  refine own_go (T := s₁) (T' := s₁) (f := (mkF m 0 #[.val (.int p0), .val (.int p1), .val (.int p2), .unset, .unset, .unset, .unset, .unset, .unset, .unset, .unset] [])) (f' := (mkF m 1 #[.val (.int p0), .val (.int p1), .val (.int p2), .unset, .unset, .unset, .unset, .unset, .unset, .unset, .unset] [(.int (4 : Int32))])) (fun t k => ?_) ?_
  · show Steps p.tables e below (s₁.setTop (mkF m 0 #[.val (.int p0), .val (.int p1), .val (.int p2), .unset, .unset, .unset, .unset, .unset, .unset, .unset, .unset] [])) _
    refine XS.iconst X0.here hx rfl (hb hby at_0) ?_
    exact k
  obtain ⟨T19, h19, k19, X19, e19, E19, A19, st19⟩ := newP X0 hx hZ (hw _ (List.mem_of_getElem? (i := 0) rfl)) e0 (g := (mkF m 1 #[.val (.int p0), .val (.int p1), .val (.int p2), .unset, .unset, .unset, .unset, .unset, .unset, .unset, .unset] [(.int (4 : Int32))])) rfl (hb hby at_1) rfl (by decide) (cap := 4) (by decide) (by decide) (by decide) (by decide)
  obtain ⟨b19, g19⟩ : ∃ z, z = h0.size := ⟨_, rfl⟩
  rw [← g19] at A19 st19
  have V19 : Arv Z h19 b19 k19 .byte (4 : Int32) [] (.int (0 : Int32)) := Arv.new A19 (by decide)
  refine own_go st19 ?_
  show Rch p e below _ T19 (mkF m 3 #[.val (.int p0), .val (.int p1), .val (.int p2), .unset, .unset, .unset, .unset, .unset, .unset, .unset, .unset] [(.ref b19)])
  have gbb : n0 ≤ b19 := Nat.le_trans Z0 (Nat.le_of_eq g19.symm)
  have Vb0 : Arv Z h19 b19 k19 .byte (4 : Int32) [(.int (0 : Int32)), (.int (0 : Int32)), (.int (0 : Int32)), (.int (0 : Int32))] (.int (0 : Int32)) := V19.pad (pad_rep [] (.int (0 : Int32)) 4)
  refine own_go (T := T19) (T' := T19) (f := (mkF m 3 #[.val (.int p0), .val (.int p1), .val (.int p2), .unset, .unset, .unset, .unset, .unset, .unset, .unset, .unset] [(.ref b19)])) (f' := (mkF m 8 #[.val (.int p0), .val (.int p1), .val (.int p2), .val (.ref b19), .unset, .unset, .unset, .unset, .unset, .unset, .unset] [(.int (p0.toInt8.toInt32)), (.int (0 : Int32)), (.ref b19)])) (fun t k => ?_) ?_
  · show Steps p.tables e below (T19.setTop (mkF m 3 #[.val (.int p0), .val (.int p1), .val (.int p2), .unset, .unset, .unset, .unset, .unset, .unset, .unset, .unset] [(.ref b19)])) _
    refine XS.astoreN X19.here hx rfl (hb hby at_3) rfl rfl (l' := #[.val (.int p0), .val (.int p1), .val (.int p2), .val (.ref b19), .unset, .unset, .unset, .unset, .unset, .unset, .unset]) rfl ?_
    show Steps p.tables e below (T19.setTop (mkF m 4 #[.val (.int p0), .val (.int p1), .val (.int p2), .val (.ref b19), .unset, .unset, .unset, .unset, .unset, .unset, .unset] [])) _
    refine XS.aloadN X19.here hx rfl (hb hby at_4) rfl rfl ?_
    show Steps p.tables e below (T19.setTop (mkF m 5 #[.val (.int p0), .val (.int p1), .val (.int p2), .val (.ref b19), .unset, .unset, .unset, .unset, .unset, .unset, .unset] [(.ref b19)])) _
    refine XS.iconst X19.here hx rfl (hb hby at_5) ?_
    show Steps p.tables e below (T19.setTop (mkF m 6 #[.val (.int p0), .val (.int p1), .val (.int p2), .val (.ref b19), .unset, .unset, .unset, .unset, .unset, .unset, .unset] [(.int (0 : Int32)), (.ref b19)])) _
    refine XS.iloadN X19.here hx rfl (hb hby at_6) rfl ?_
    show Steps p.tables e below (T19.setTop (mkF m 7 #[.val (.int p0), .val (.int p1), .val (.int p2), .val (.ref b19), .unset, .unset, .unset, .unset, .unset, .unset, .unset] [(.int p0), (.int (0 : Int32)), (.ref b19)])) _
    refine XS.i2b X19.here hx rfl (hb hby at_7) rfl ?_
    exact k
  obtain ⟨cl20, Ar20, q120, q220, q320, q420, q520⟩ := id Vb0
  have hin20 : ¬ ((0 : Int32) < 0 ∨ cl20.slots.size ≤ ((0 : Int32)).toNatClampNeg) := inb_of q220 ⟨by decide, by decide⟩
  obtain ⟨T20, h20, X20, e20, W20, st20⟩ := stB X19 hx hZ e19 Ar20 (j := (0 : Int32)) hin20 (g := (mkF m 8 #[.val (.int p0), .val (.int p1), .val (.int p2), .val (.ref b19), .unset, .unset, .unset, .unset, .unset, .unset, .unset] [(.int (p0.toInt8.toInt32)), (.int (0 : Int32)), (.ref b19)])) rfl rfl (hb hby at_8)
  have V20 := Arv.set Ar20 q120 q220 q320 q420 q520 (fits_nar_byte _) W20 0 rfl (Nat.le_of_ble_eq_true rfl)
  have N20 := Fr.snoc X20 N0 gbb
  refine own_go st20 ?_
  show Rch p e below _ T20 (mkF m 9 #[.val (.int p0), .val (.int p1), .val (.int p2), .val (.ref b19), .unset, .unset, .unset, .unset, .unset, .unset, .unset] [])
  refine own_go (T := T20) (T' := T20) (f := (mkF m 9 #[.val (.int p0), .val (.int p1), .val (.int p2), .val (.ref b19), .unset, .unset, .unset, .unset, .unset, .unset, .unset] [])) (f' := (mkF m 16 #[.val (.int p0), .val (.int p1), .val (.int p2), .val (.ref b19), .unset, .unset, .unset, .unset, .unset, .unset, .unset] [(.int (((p0.toUInt32 >>> ((8 : Int32) &&& 31).toUInt32).toInt32).toInt8.toInt32)), (.int (1 : Int32)), (.ref b19)])) (fun t k => ?_) ?_
  · show Steps p.tables e below (T20.setTop (mkF m 9 #[.val (.int p0), .val (.int p1), .val (.int p2), .val (.ref b19), .unset, .unset, .unset, .unset, .unset, .unset, .unset] [])) _
    refine XS.aloadN X20.here hx rfl (hb hby at_9) rfl rfl ?_
    show Steps p.tables e below (T20.setTop (mkF m 10 #[.val (.int p0), .val (.int p1), .val (.int p2), .val (.ref b19), .unset, .unset, .unset, .unset, .unset, .unset, .unset] [(.ref b19)])) _
    refine XS.iconst X20.here hx rfl (hb hby at_10) ?_
    show Steps p.tables e below (T20.setTop (mkF m 11 #[.val (.int p0), .val (.int p1), .val (.int p2), .val (.ref b19), .unset, .unset, .unset, .unset, .unset, .unset, .unset] [(.int (1 : Int32)), (.ref b19)])) _
    refine XS.iloadN X20.here hx rfl (hb hby at_11) rfl ?_
    show Steps p.tables e below (T20.setTop (mkF m 12 #[.val (.int p0), .val (.int p1), .val (.int p2), .val (.ref b19), .unset, .unset, .unset, .unset, .unset, .unset, .unset] [(.int p0), (.int (1 : Int32)), (.ref b19)])) _
    refine XS.bipush X20.here hx rfl (hb hby at_12) ?_
    show Steps p.tables e below (T20.setTop (mkF m 14 #[.val (.int p0), .val (.int p1), .val (.int p2), .val (.ref b19), .unset, .unset, .unset, .unset, .unset, .unset, .unset] [(.int (8 : Int32)), (.int p0), (.int (1 : Int32)), (.ref b19)])) _
    refine XS.iushr X20.here hx rfl (hb hby at_14) rfl ?_
    show Steps p.tables e below (T20.setTop (mkF m 15 #[.val (.int p0), .val (.int p1), .val (.int p2), .val (.ref b19), .unset, .unset, .unset, .unset, .unset, .unset, .unset] [(.int ((p0.toUInt32 >>> ((8 : Int32) &&& 31).toUInt32).toInt32)), (.int (1 : Int32)), (.ref b19)])) _
    refine XS.i2b X20.here hx rfl (hb hby at_15) rfl ?_
    exact k
  obtain ⟨cl21, Ar21, q121, q221, q321, q421, q521⟩ := id V20
  have hin21 : ¬ ((1 : Int32) < 0 ∨ cl21.slots.size ≤ ((1 : Int32)).toNatClampNeg) := inb_of q221 ⟨by decide, by decide⟩
  obtain ⟨T21, h21, X21, e21, W21, st21⟩ := stB X20 hx hZ e20 Ar21 (j := (1 : Int32)) hin21 (g := (mkF m 16 #[.val (.int p0), .val (.int p1), .val (.int p2), .val (.ref b19), .unset, .unset, .unset, .unset, .unset, .unset, .unset] [(.int (((p0.toUInt32 >>> ((8 : Int32) &&& 31).toUInt32).toInt32).toInt8.toInt32)), (.int (1 : Int32)), (.ref b19)])) rfl rfl (hb hby at_16)
  have V21 := Arv.set Ar21 q121 q221 q321 q421 q521 (fits_nar_byte _) W21 1 rfl (Nat.le_of_ble_eq_true rfl)
  have N21 := Fr.snoc X21 N20 gbb
  refine own_go st21 ?_
  show Rch p e below _ T21 (mkF m 17 #[.val (.int p0), .val (.int p1), .val (.int p2), .val (.ref b19), .unset, .unset, .unset, .unset, .unset, .unset, .unset] [])
  refine own_go (T := T21) (T' := T21) (f := (mkF m 17 #[.val (.int p0), .val (.int p1), .val (.int p2), .val (.ref b19), .unset, .unset, .unset, .unset, .unset, .unset, .unset] [])) (f' := (mkF m 24 #[.val (.int p0), .val (.int p1), .val (.int p2), .val (.ref b19), .unset, .unset, .unset, .unset, .unset, .unset, .unset] [(.int (((p0.toUInt32 >>> ((16 : Int32) &&& 31).toUInt32).toInt32).toInt8.toInt32)), (.int (2 : Int32)), (.ref b19)])) (fun t k => ?_) ?_
  · show Steps p.tables e below (T21.setTop (mkF m 17 #[.val (.int p0), .val (.int p1), .val (.int p2), .val (.ref b19), .unset, .unset, .unset, .unset, .unset, .unset, .unset] [])) _
    refine XS.aloadN X21.here hx rfl (hb hby at_17) rfl rfl ?_
    show Steps p.tables e below (T21.setTop (mkF m 18 #[.val (.int p0), .val (.int p1), .val (.int p2), .val (.ref b19), .unset, .unset, .unset, .unset, .unset, .unset, .unset] [(.ref b19)])) _
    refine XS.iconst X21.here hx rfl (hb hby at_18) ?_
    show Steps p.tables e below (T21.setTop (mkF m 19 #[.val (.int p0), .val (.int p1), .val (.int p2), .val (.ref b19), .unset, .unset, .unset, .unset, .unset, .unset, .unset] [(.int (2 : Int32)), (.ref b19)])) _
    refine XS.iloadN X21.here hx rfl (hb hby at_19) rfl ?_
    show Steps p.tables e below (T21.setTop (mkF m 20 #[.val (.int p0), .val (.int p1), .val (.int p2), .val (.ref b19), .unset, .unset, .unset, .unset, .unset, .unset, .unset] [(.int p0), (.int (2 : Int32)), (.ref b19)])) _
    refine XS.bipush X21.here hx rfl (hb hby at_20) ?_
    show Steps p.tables e below (T21.setTop (mkF m 22 #[.val (.int p0), .val (.int p1), .val (.int p2), .val (.ref b19), .unset, .unset, .unset, .unset, .unset, .unset, .unset] [(.int (16 : Int32)), (.int p0), (.int (2 : Int32)), (.ref b19)])) _
    refine XS.iushr X21.here hx rfl (hb hby at_22) rfl ?_
    show Steps p.tables e below (T21.setTop (mkF m 23 #[.val (.int p0), .val (.int p1), .val (.int p2), .val (.ref b19), .unset, .unset, .unset, .unset, .unset, .unset, .unset] [(.int ((p0.toUInt32 >>> ((16 : Int32) &&& 31).toUInt32).toInt32)), (.int (2 : Int32)), (.ref b19)])) _
    refine XS.i2b X21.here hx rfl (hb hby at_23) rfl ?_
    exact k
  obtain ⟨cl22, Ar22, q122, q222, q322, q422, q522⟩ := id V21
  have hin22 : ¬ ((2 : Int32) < 0 ∨ cl22.slots.size ≤ ((2 : Int32)).toNatClampNeg) := inb_of q222 ⟨by decide, by decide⟩
  obtain ⟨T22, h22, X22, e22, W22, st22⟩ := stB X21 hx hZ e21 Ar22 (j := (2 : Int32)) hin22 (g := (mkF m 24 #[.val (.int p0), .val (.int p1), .val (.int p2), .val (.ref b19), .unset, .unset, .unset, .unset, .unset, .unset, .unset] [(.int (((p0.toUInt32 >>> ((16 : Int32) &&& 31).toUInt32).toInt32).toInt8.toInt32)), (.int (2 : Int32)), (.ref b19)])) rfl rfl (hb hby at_24)
  have V22 := Arv.set Ar22 q122 q222 q322 q422 q522 (fits_nar_byte _) W22 2 rfl (Nat.le_of_ble_eq_true rfl)
  have N22 := Fr.snoc X22 N21 gbb
  refine own_go st22 ?_
  show Rch p e below _ T22 (mkF m 25 #[.val (.int p0), .val (.int p1), .val (.int p2), .val (.ref b19), .unset, .unset, .unset, .unset, .unset, .unset, .unset] [])
  refine own_go (T := T22) (T' := T22) (f := (mkF m 25 #[.val (.int p0), .val (.int p1), .val (.int p2), .val (.ref b19), .unset, .unset, .unset, .unset, .unset, .unset, .unset] [])) (f' := (mkF m 32 #[.val (.int p0), .val (.int p1), .val (.int p2), .val (.ref b19), .unset, .unset, .unset, .unset, .unset, .unset, .unset] [(.int (((p0.toUInt32 >>> ((24 : Int32) &&& 31).toUInt32).toInt32).toInt8.toInt32)), (.int (3 : Int32)), (.ref b19)])) (fun t k => ?_) ?_
  · show Steps p.tables e below (T22.setTop (mkF m 25 #[.val (.int p0), .val (.int p1), .val (.int p2), .val (.ref b19), .unset, .unset, .unset, .unset, .unset, .unset, .unset] [])) _
    refine XS.aloadN X22.here hx rfl (hb hby at_25) rfl rfl ?_
    show Steps p.tables e below (T22.setTop (mkF m 26 #[.val (.int p0), .val (.int p1), .val (.int p2), .val (.ref b19), .unset, .unset, .unset, .unset, .unset, .unset, .unset] [(.ref b19)])) _
    refine XS.iconst X22.here hx rfl (hb hby at_26) ?_
    show Steps p.tables e below (T22.setTop (mkF m 27 #[.val (.int p0), .val (.int p1), .val (.int p2), .val (.ref b19), .unset, .unset, .unset, .unset, .unset, .unset, .unset] [(.int (3 : Int32)), (.ref b19)])) _
    refine XS.iloadN X22.here hx rfl (hb hby at_27) rfl ?_
    show Steps p.tables e below (T22.setTop (mkF m 28 #[.val (.int p0), .val (.int p1), .val (.int p2), .val (.ref b19), .unset, .unset, .unset, .unset, .unset, .unset, .unset] [(.int p0), (.int (3 : Int32)), (.ref b19)])) _
    refine XS.bipush X22.here hx rfl (hb hby at_28) ?_
    show Steps p.tables e below (T22.setTop (mkF m 30 #[.val (.int p0), .val (.int p1), .val (.int p2), .val (.ref b19), .unset, .unset, .unset, .unset, .unset, .unset, .unset] [(.int (24 : Int32)), (.int p0), (.int (3 : Int32)), (.ref b19)])) _
    refine XS.iushr X22.here hx rfl (hb hby at_30) rfl ?_
    show Steps p.tables e below (T22.setTop (mkF m 31 #[.val (.int p0), .val (.int p1), .val (.int p2), .val (.ref b19), .unset, .unset, .unset, .unset, .unset, .unset, .unset] [(.int ((p0.toUInt32 >>> ((24 : Int32) &&& 31).toUInt32).toInt32)), (.int (3 : Int32)), (.ref b19)])) _
    refine XS.i2b X22.here hx rfl (hb hby at_31) rfl ?_
    exact k
  obtain ⟨cl23, Ar23, q123, q223, q323, q423, q523⟩ := id V22
  have hin23 : ¬ ((3 : Int32) < 0 ∨ cl23.slots.size ≤ ((3 : Int32)).toNatClampNeg) := inb_of q223 ⟨by decide, by decide⟩
  obtain ⟨T23, h23, X23, e23, W23, st23⟩ := stB X22 hx hZ e22 Ar23 (j := (3 : Int32)) hin23 (g := (mkF m 32 #[.val (.int p0), .val (.int p1), .val (.int p2), .val (.ref b19), .unset, .unset, .unset, .unset, .unset, .unset, .unset] [(.int (((p0.toUInt32 >>> ((24 : Int32) &&& 31).toUInt32).toInt32).toInt8.toInt32)), (.int (3 : Int32)), (.ref b19)])) rfl rfl (hb hby at_32)
  have V23 := Arv.set Ar23 q123 q223 q323 q423 q523 (fits_nar_byte _) W23 3 rfl (Nat.le_of_ble_eq_true rfl)
  have N23 := Fr.snoc X23 N22 gbb
  refine own_go st23 ?_
  show Rch p e below _ T23 (mkF m 33 #[.val (.int p0), .val (.int p1), .val (.int p2), .val (.ref b19), .unset, .unset, .unset, .unset, .unset, .unset, .unset] [])
  obtain ⟨bs, hbs⟩ : ∃ bs, bs = own_f4 (nar .byte (p0.toInt8.toInt32)) (nar .byte (((p0.toUInt32 >>> ((8 : Int32) &&& 31).toUInt32).toInt32).toInt8.toInt32)) (nar .byte (((p0.toUInt32 >>> ((16 : Int32) &&& 31).toUInt32).toInt32).toInt8.toInt32)) (nar .byte (((p0.toUInt32 >>> ((24 : Int32) &&& 31).toUInt32).toInt32).toInt8.toInt32)) := ⟨_, rfl⟩
  have Vb1 : Arv Z h23 b19 k19 .byte (4 : Int32) [.int (bs 0), .int (bs 1), .int (bs 2), .int (bs 3)] (.int (0 : Int32)) := by rw [hbs]; exact V23
  refine own_go (T := T23) (T' := T23) (f := (mkF m 33 #[.val (.int p0), .val (.int p1), .val (.int p2), .val (.ref b19), .unset, .unset, .unset, .unset, .unset, .unset, .unset] [])) (f' := (mkF m 34 #[.val (.int p0), .val (.int p1), .val (.int p2), .val (.ref b19), .unset, .unset, .unset, .unset, .unset, .unset, .unset] [(.int (4 : Int32))])) (fun t k => ?_) ?_
  · show Steps p.tables e below (T23.setTop (mkF m 33 #[.val (.int p0), .val (.int p1), .val (.int p2), .val (.ref b19), .unset, .unset, .unset, .unset, .unset, .unset, .unset] [])) _
    refine XS.iconst X23.here hx rfl (hb hby at_33) ?_
    exact k
  obtain ⟨T24, h24, k24, X24, e24, E24, A24, st24⟩ := newP X23 hx hZ (hw _ (List.mem_of_getElem? (i := 1) rfl)) e23 (g := (mkF m 34 #[.val (.int p0), .val (.int p1), .val (.int p2), .val (.ref b19), .unset, .unset, .unset, .unset, .unset, .unset, .unset] [(.int (4 : Int32))])) rfl (hb hby at_34) rfl (by decide) (cap := 4) (by decide) (by decide) (by decide) (by decide)
  obtain ⟨b24, g24⟩ : ∃ z, z = h23.size := ⟨_, rfl⟩
  rw [← g24] at A24 st24
  have V24 : Arv Z h24 b24 k24 .int (4 : Int32) [] (.int (0 : Int32)) := Arv.new A24 (by decide)
  refine own_go st24 ?_
  show Rch p e below _ T24 (mkF m 36 #[.val (.int p0), .val (.int p1), .val (.int p2), .val (.ref b19), .unset, .unset, .unset, .unset, .unset, .unset, .unset] [(.ref b24)])
  have sb : n0 ≤ h23.size := Nat.le_of_lt (Nat.lt_of_le_of_lt gbb Vb1.lt)
  have gbu : n0 ≤ b24 := Nat.le_trans sb (Nat.le_of_eq g24.symm)
  have Vu0 : Arv Z h24 b24 k24 .int (4 : Int32) [(.int (0 : Int32)), (.int (0 : Int32)), (.int (0 : Int32)), (.int (0 : Int32))] (.int (0 : Int32)) := V24.pad (pad_rep [] (.int (0 : Int32)) 4)
  have neb : b19 ≠ b24 := Nat.ne_of_lt (Nat.lt_of_lt_of_le Vb1.lt (Nat.le_of_eq g24.symm))
  refine own_go (T := T24) (T' := T24) (f := (mkF m 36 #[.val (.int p0), .val (.int p1), .val (.int p2), .val (.ref b19), .unset, .unset, .unset, .unset, .unset, .unset, .unset] [(.ref b24)])) (f' := (mkF m 46 #[.val (.int p0), .val (.int p1), .val (.int p2), .val (.ref b19), .val (.ref b24), .unset, .unset, .unset, .unset, .unset, .unset] [(.int (p0 &&& (255 : Int32))), (.int (0 : Int32)), (.ref b24)])) (fun t k => ?_) ?_
  · show Steps p.tables e below (T24.setTop (mkF m 36 #[.val (.int p0), .val (.int p1), .val (.int p2), .val (.ref b19), .unset, .unset, .unset, .unset, .unset, .unset, .unset] [(.ref b24)])) _
    refine XS.astore X24.here hx rfl (hb hby at_36) rfl rfl (l' := #[.val (.int p0), .val (.int p1), .val (.int p2), .val (.ref b19), .val (.ref b24), .unset, .unset, .unset, .unset, .unset, .unset]) rfl ?_
    show Steps p.tables e below (T24.setTop (mkF m 38 #[.val (.int p0), .val (.int p1), .val (.int p2), .val (.ref b19), .val (.ref b24), .unset, .unset, .unset, .unset, .unset, .unset] [])) _
    refine XS.aload X24.here hx rfl (hb hby at_38) rfl rfl ?_
    show Steps p.tables e below (T24.setTop (mkF m 40 #[.val (.int p0), .val (.int p1), .val (.int p2), .val (.ref b19), .val (.ref b24), .unset, .unset, .unset, .unset, .unset, .unset] [(.ref b24)])) _
    refine XS.iconst X24.here hx rfl (hb hby at_40) ?_
    show Steps p.tables e below (T24.setTop (mkF m 41 #[.val (.int p0), .val (.int p1), .val (.int p2), .val (.ref b19), .val (.ref b24), .unset, .unset, .unset, .unset, .unset, .unset] [(.int (0 : Int32)), (.ref b24)])) _
    refine XS.iloadN X24.here hx rfl (hb hby at_41) rfl ?_
    show Steps p.tables e below (T24.setTop (mkF m 42 #[.val (.int p0), .val (.int p1), .val (.int p2), .val (.ref b19), .val (.ref b24), .unset, .unset, .unset, .unset, .unset, .unset] [(.int p0), (.int (0 : Int32)), (.ref b24)])) _
    refine XS.sipush X24.here hx rfl (hb hby at_42) ?_
    show Steps p.tables e below (T24.setTop (mkF m 45 #[.val (.int p0), .val (.int p1), .val (.int p2), .val (.ref b19), .val (.ref b24), .unset, .unset, .unset, .unset, .unset, .unset] [(.int (255 : Int32)), (.int p0), (.int (0 : Int32)), (.ref b24)])) _
    refine XS.iand X24.here hx rfl (hb hby at_45) rfl ?_
    exact k
  obtain ⟨cl25, Ar25, q125, q225, q325, q425, q525⟩ := id Vu0
  have hin25 : ¬ ((0 : Int32) < 0 ∨ cl25.slots.size ≤ ((0 : Int32)).toNatClampNeg) := inb_of q225 ⟨by decide, by decide⟩
  obtain ⟨T25, h25, X25, e25, W25, st25⟩ := stI X24 hx hZ e24 Ar25 (j := (0 : Int32)) hin25 (g := (mkF m 46 #[.val (.int p0), .val (.int p1), .val (.int p2), .val (.ref b19), .val (.ref b24), .unset, .unset, .unset, .unset, .unset, .unset] [(.int (p0 &&& (255 : Int32))), (.int (0 : Int32)), (.ref b24)])) rfl rfl (hb hby at_46)
  have V25 := Arv.set Ar25 q125 q225 q325 q425 q525 rfl W25 0 rfl (Nat.le_of_ble_eq_true rfl)
  have N25 := Fr.snoc X25 N23 gbu
  refine own_go st25 ?_
  show Rch p e below _ T25 (mkF m 47 #[.val (.int p0), .val (.int p1), .val (.int p2), .val (.ref b19), .val (.ref b24), .unset, .unset, .unset, .unset, .unset, .unset] [])
  refine own_go (T := T25) (T' := T25) (f := (mkF m 47 #[.val (.int p0), .val (.int p1), .val (.int p2), .val (.ref b19), .val (.ref b24), .unset, .unset, .unset, .unset, .unset, .unset] [])) (f' := (mkF m 58 #[.val (.int p0), .val (.int p1), .val (.int p2), .val (.ref b19), .val (.ref b24), .unset, .unset, .unset, .unset, .unset, .unset] [(.int (((p0.toUInt32 >>> ((8 : Int32) &&& 31).toUInt32).toInt32) &&& (255 : Int32))), (.int (1 : Int32)), (.ref b24)])) (fun t k => ?_) ?_
  · show Steps p.tables e below (T25.setTop (mkF m 47 #[.val (.int p0), .val (.int p1), .val (.int p2), .val (.ref b19), .val (.ref b24), .unset, .unset, .unset, .unset, .unset, .unset] [])) _
    refine XS.aload X25.here hx rfl (hb hby at_47) rfl rfl ?_
    show Steps p.tables e below (T25.setTop (mkF m 49 #[.val (.int p0), .val (.int p1), .val (.int p2), .val (.ref b19), .val (.ref b24), .unset, .unset, .unset, .unset, .unset, .unset] [(.ref b24)])) _
    refine XS.iconst X25.here hx rfl (hb hby at_49) ?_
    show Steps p.tables e below (T25.setTop (mkF m 50 #[.val (.int p0), .val (.int p1), .val (.int p2), .val (.ref b19), .val (.ref b24), .unset, .unset, .unset, .unset, .unset, .unset] [(.int (1 : Int32)), (.ref b24)])) _
    refine XS.iloadN X25.here hx rfl (hb hby at_50) rfl ?_
    show Steps p.tables e below (T25.setTop (mkF m 51 #[.val (.int p0), .val (.int p1), .val (.int p2), .val (.ref b19), .val (.ref b24), .unset, .unset, .unset, .unset, .unset, .unset] [(.int p0), (.int (1 : Int32)), (.ref b24)])) _
    refine XS.bipush X25.here hx rfl (hb hby at_51) ?_
    show Steps p.tables e below (T25.setTop (mkF m 53 #[.val (.int p0), .val (.int p1), .val (.int p2), .val (.ref b19), .val (.ref b24), .unset, .unset, .unset, .unset, .unset, .unset] [(.int (8 : Int32)), (.int p0), (.int (1 : Int32)), (.ref b24)])) _
    refine XS.iushr X25.here hx rfl (hb hby at_53) rfl ?_
    show Steps p.tables e below (T25.setTop (mkF m 54 #[.val (.int p0), .val (.int p1), .val (.int p2), .val (.ref b19), .val (.ref b24), .unset, .unset, .unset, .unset, .unset, .unset] [(.int ((p0.toUInt32 >>> ((8 : Int32) &&& 31).toUInt32).toInt32)), (.int (1 : Int32)), (.ref b24)])) _
    refine XS.sipush X25.here hx rfl (hb hby at_54) ?_
    show Steps p.tables e below (T25.setTop (mkF m 57 #[.val (.int p0), .val (.int p1), .val (.int p2), .val (.ref b19), .val (.ref b24), .unset, .unset, .unset, .unset, .unset, .unset] [(.int (255 : Int32)), (.int ((p0.toUInt32 >>> ((8 : Int32) &&& 31).toUInt32).toInt32)), (.int (1 : Int32)), (.ref b24)])) _
    refine XS.iand X25.here hx rfl (hb hby at_57) rfl ?_
    exact k
  obtain ⟨cl26, Ar26, q126, q226, q326, q426, q526⟩ := id V25
  have hin26 : ¬ ((1 : Int32) < 0 ∨ cl26.slots.size ≤ ((1 : Int32)).toNatClampNeg) := inb_of q226 ⟨by decide, by decide⟩
  obtain ⟨T26, h26, X26, e26, W26, st26⟩ := stI X25 hx hZ e25 Ar26 (j := (1 : Int32)) hin26 (g := (mkF m 58 #[.val (.int p0), .val (.int p1), .val (.int p2), .val (.ref b19), .val (.ref b24), .unset, .unset, .unset, .unset, .unset, .unset] [(.int (((p0.toUInt32 >>> ((8 : Int32) &&& 31).toUInt32).toInt32) &&& (255 : Int32))), (.int (1 : Int32)), (.ref b24)])) rfl rfl (hb hby at_58)
  have V26 := Arv.set Ar26 q126 q226 q326 q426 q526 rfl W26 1 rfl (Nat.le_of_ble_eq_true rfl)
  have N26 := Fr.snoc X26 N25 gbu
  refine own_go st26 ?_
  show Rch p e below _ T26 (mkF m 59 #[.val (.int p0), .val (.int p1), .val (.int p2), .val (.ref b19), .val (.ref b24), .unset, .unset, .unset, .unset, .unset, .unset] [])
  refine own_go (T := T26) (T' := T26) (f := (mkF m 59 #[.val (.int p0), .val (.int p1), .val (.int p2), .val (.ref b19), .val (.ref b24), .unset, .unset, .unset, .unset, .unset, .unset] [])) (f' := (mkF m 70 #[.val (.int p0), .val (.int p1), .val (.int p2), .val (.ref b19), .val (.ref b24), .unset, .unset, .unset, .unset, .unset, .unset] [(.int (((p0.toUInt32 >>> ((16 : Int32) &&& 31).toUInt32).toInt32) &&& (255 : Int32))), (.int (2 : Int32)), (.ref b24)])) (fun t k => ?_) ?_
  · show Steps p.tables e below (T26.setTop (mkF m 59 #[.val (.int p0), .val (.int p1), .val (.int p2), .val (.ref b19), .val (.ref b24), .unset, .unset, .unset, .unset, .unset, .unset] [])) _
    refine XS.aload X26.here hx rfl (hb hby at_59) rfl rfl ?_
    show Steps p.tables e below (T26.setTop (mkF m 61 #[.val (.int p0), .val (.int p1), .val (.int p2), .val (.ref b19), .val (.ref b24), .unset, .unset, .unset, .unset, .unset, .unset] [(.ref b24)])) _
    refine XS.iconst X26.here hx rfl (hb hby at_61) ?_
    show Steps p.tables e below (T26.setTop (mkF m 62 #[.val (.int p0), .val (.int p1), .val (.int p2), .val (.ref b19), .val (.ref b24), .unset, .unset, .unset, .unset, .unset, .unset] [(.int (2 : Int32)), (.ref b24)])) _
    refine XS.iloadN X26.here hx rfl (hb hby at_62) rfl ?_
    show Steps p.tables e below (T26.setTop (mkF m 63 #[.val (.int p0), .val (.int p1), .val (.int p2), .val (.ref b19), .val (.ref b24), .unset, .unset, .unset, .unset, .unset, .unset] [(.int p0), (.int (2 : Int32)), (.ref b24)])) _
    refine XS.bipush X26.here hx rfl (hb hby at_63) ?_
    show Steps p.tables e below (T26.setTop (mkF m 65 #[.val (.int p0), .val (.int p1), .val (.int p2), .val (.ref b19), .val (.ref b24), .unset, .unset, .unset, .unset, .unset, .unset] [(.int (16 : Int32)), (.int p0), (.int (2 : Int32)), (.ref b24)])) _
    refine XS.iushr X26.here hx rfl (hb hby at_65) rfl ?_
    show Steps p.tables e below (T26.setTop (mkF m 66 #[.val (.int p0), .val (.int p1), .val (.int p2), .val (.ref b19), .val (.ref b24), .unset, .unset, .unset, .unset, .unset, .unset] [(.int ((p0.toUInt32 >>> ((16 : Int32) &&& 31).toUInt32).toInt32)), (.int (2 : Int32)), (.ref b24)])) _
    refine XS.sipush X26.here hx rfl (hb hby at_66) ?_
    show Steps p.tables e below (T26.setTop (mkF m 69 #[.val (.int p0), .val (.int p1), .val (.int p2), .val (.ref b19), .val (.ref b24), .unset, .unset, .unset, .unset, .unset, .unset] [(.int (255 : Int32)), (.int ((p0.toUInt32 >>> ((16 : Int32) &&& 31).toUInt32).toInt32)), (.int (2 : Int32)), (.ref b24)])) _
    refine XS.iand X26.here hx rfl (hb hby at_69) rfl ?_
    exact k
  obtain ⟨cl27, Ar27, q127, q227, q327, q427, q527⟩ := id V26
  have hin27 : ¬ ((2 : Int32) < 0 ∨ cl27.slots.size ≤ ((2 : Int32)).toNatClampNeg) := inb_of q227 ⟨by decide, by decide⟩
  obtain ⟨T27, h27, X27, e27, W27, st27⟩ := stI X26 hx hZ e26 Ar27 (j := (2 : Int32)) hin27 (g := (mkF m 70 #[.val (.int p0), .val (.int p1), .val (.int p2), .val (.ref b19), .val (.ref b24), .unset, .unset, .unset, .unset, .unset, .unset] [(.int (((p0.toUInt32 >>> ((16 : Int32) &&& 31).toUInt32).toInt32) &&& (255 : Int32))), (.int (2 : Int32)), (.ref b24)])) rfl rfl (hb hby at_70)
  have V27 := Arv.set Ar27 q127 q227 q327 q427 q527 rfl W27 2 rfl (Nat.le_of_ble_eq_true rfl)
  have N27 := Fr.snoc X27 N26 gbu
  refine own_go st27 ?_
  show Rch p e below _ T27 (mkF m 71 #[.val (.int p0), .val (.int p1), .val (.int p2), .val (.ref b19), .val (.ref b24), .unset, .unset, .unset, .unset, .unset, .unset] [])
  refine own_go (T := T27) (T' := T27) (f := (mkF m 71 #[.val (.int p0), .val (.int p1), .val (.int p2), .val (.ref b19), .val (.ref b24), .unset, .unset, .unset, .unset, .unset, .unset] [])) (f' := (mkF m 82 #[.val (.int p0), .val (.int p1), .val (.int p2), .val (.ref b19), .val (.ref b24), .unset, .unset, .unset, .unset, .unset, .unset] [(.int (((p0.toUInt32 >>> ((24 : Int32) &&& 31).toUInt32).toInt32) &&& (255 : Int32))), (.int (3 : Int32)), (.ref b24)])) (fun t k => ?_) ?_
  · show Steps p.tables e below (T27.setTop (mkF m 71 #[.val (.int p0), .val (.int p1), .val (.int p2), .val (.ref b19), .val (.ref b24), .unset, .unset, .unset, .unset, .unset, .unset] [])) _
    refine XS.aload X27.here hx rfl (hb hby at_71) rfl rfl ?_
    show Steps p.tables e below (T27.setTop (mkF m 73 #[.val (.int p0), .val (.int p1), .val (.int p2), .val (.ref b19), .val (.ref b24), .unset, .unset, .unset, .unset, .unset, .unset] [(.ref b24)])) _
    refine XS.iconst X27.here hx rfl (hb hby at_73) ?_
    show Steps p.tables e below (T27.setTop (mkF m 74 #[.val (.int p0), .val (.int p1), .val (.int p2), .val (.ref b19), .val (.ref b24), .unset, .unset, .unset, .unset, .unset, .unset] [(.int (3 : Int32)), (.ref b24)])) _
    refine XS.iloadN X27.here hx rfl (hb hby at_74) rfl ?_
    show Steps p.tables e below (T27.setTop (mkF m 75 #[.val (.int p0), .val (.int p1), .val (.int p2), .val (.ref b19), .val (.ref b24), .unset, .unset, .unset, .unset, .unset, .unset] [(.int p0), (.int (3 : Int32)), (.ref b24)])) _
    refine XS.bipush X27.here hx rfl (hb hby at_75) ?_
    show Steps p.tables e below (T27.setTop (mkF m 77 #[.val (.int p0), .val (.int p1), .val (.int p2), .val (.ref b19), .val (.ref b24), .unset, .unset, .unset, .unset, .unset, .unset] [(.int (24 : Int32)), (.int p0), (.int (3 : Int32)), (.ref b24)])) _
    refine XS.iushr X27.here hx rfl (hb hby at_77) rfl ?_
    show Steps p.tables e below (T27.setTop (mkF m 78 #[.val (.int p0), .val (.int p1), .val (.int p2), .val (.ref b19), .val (.ref b24), .unset, .unset, .unset, .unset, .unset, .unset] [(.int ((p0.toUInt32 >>> ((24 : Int32) &&& 31).toUInt32).toInt32)), (.int (3 : Int32)), (.ref b24)])) _
    refine XS.sipush X27.here hx rfl (hb hby at_78) ?_
    show Steps p.tables e below (T27.setTop (mkF m 81 #[.val (.int p0), .val (.int p1), .val (.int p2), .val (.ref b19), .val (.ref b24), .unset, .unset, .unset, .unset, .unset, .unset] [(.int (255 : Int32)), (.int ((p0.toUInt32 >>> ((24 : Int32) &&& 31).toUInt32).toInt32)), (.int (3 : Int32)), (.ref b24)])) _
    refine XS.iand X27.here hx rfl (hb hby at_81) rfl ?_
    exact k
  obtain ⟨cl28, Ar28, q128, q228, q328, q428, q528⟩ := id V27
  have hin28 : ¬ ((3 : Int32) < 0 ∨ cl28.slots.size ≤ ((3 : Int32)).toNatClampNeg) := inb_of q228 ⟨by decide, by decide⟩
  obtain ⟨T28, h28, X28, e28, W28, st28⟩ := stI X27 hx hZ e27 Ar28 (j := (3 : Int32)) hin28 (g := (mkF m 82 #[.val (.int p0), .val (.int p1), .val (.int p2), .val (.ref b19), .val (.ref b24), .unset, .unset, .unset, .unset, .unset, .unset] [(.int (((p0.toUInt32 >>> ((24 : Int32) &&& 31).toUInt32).toInt32) &&& (255 : Int32))), (.int (3 : Int32)), (.ref b24)])) rfl rfl (hb hby at_82)
  have V28 := Arv.set Ar28 q128 q228 q328 q428 q528 rfl W28 3 rfl (Nat.le_of_ble_eq_true rfl)
  have N28 := Fr.snoc X28 N27 gbu
  refine own_go st28 ?_
  show Rch p e below _ T28 (mkF m 83 #[.val (.int p0), .val (.int p1), .val (.int p2), .val (.ref b19), .val (.ref b24), .unset, .unset, .unset, .unset, .unset, .unset] [])
  obtain ⟨us, hus⟩ : ∃ us, us = own_f4 (p0 &&& (255 : Int32)) (((p0.toUInt32 >>> ((8 : Int32) &&& 31).toUInt32).toInt32) &&& (255 : Int32)) (((p0.toUInt32 >>> ((16 : Int32) &&& 31).toUInt32).toInt32) &&& (255 : Int32)) (((p0.toUInt32 >>> ((24 : Int32) &&& 31).toUInt32).toInt32) &&& (255 : Int32)) := ⟨_, rfl⟩
  have Vu1 : Arv Z h28 b24 k24 .int (4 : Int32) [.int (us 0), .int (us 1), .int (us 2), .int (us 3)] (.int (0 : Int32)) := by rw [hus]; exact V28
  have Vb2 := (((((Vb1.ext E24).other W25 neb).other W26 neb).other W27 neb).other W28 neb)
  have hbu : ∀ i, i < 4 → (bs i &&& (255 : Int32)) = us i := fun i hi => by
    rw [hbs, hus]
    rcases i with _ | _ | _ | _ | i
    · exact own_byte _
    · exact own_byte _
    · exact own_byte _
    · exact own_byte _
    · omega
  have hur : ∀ i, i < 4 → 0 ≤ (us i).toInt ∧ (us i).toInt < 256 := fun i hi => by rw [← hbu i hi]; exact own_ixr _
  have su : n0 ≤ h28.size := Nat.le_of_lt (Nat.lt_of_le_of_lt gbu Vu1.lt)
  refine own_go (T := T28) (T' := T28) (f := (mkF m 83 #[.val (.int p0), .val (.int p1), .val (.int p2), .val (.ref b19), .val (.ref b24), .unset, .unset, .unset, .unset, .unset, .unset] [])) (f' := (mkF m 88 #[.val (.int p0), .val (.int p1), .val (.int p2), .val (.ref b19), .val (.ref b24), .unset, .unset, .unset, .unset, .unset, .unset] [(.int (5 : Int32)), (.int (p1 &&& (7 : Int32)))])) (fun t k => ?_) ?_
  · show Steps p.tables e below (T28.setTop (mkF m 83 #[.val (.int p0), .val (.int p1), .val (.int p2), .val (.ref b19), .val (.ref b24), .unset, .unset, .unset, .unset, .unset, .unset] [])) _
    refine XS.iloadN X28.here hx rfl (hb hby at_83) rfl ?_
    show Steps p.tables e below (T28.setTop (mkF m 84 #[.val (.int p0), .val (.int p1), .val (.int p2), .val (.ref b19), .val (.ref b24), .unset, .unset, .unset, .unset, .unset, .unset] [(.int p1)])) _
    refine XS.bipush X28.here hx rfl (hb hby at_84) ?_
    show Steps p.tables e below (T28.setTop (mkF m 86 #[.val (.int p0), .val (.int p1), .val (.int p2), .val (.ref b19), .val (.ref b24), .unset, .unset, .unset, .unset, .unset, .unset] [(.int (7 : Int32)), (.int p1)])) _
    refine XS.iand X28.here hx rfl (hb hby at_86) rfl ?_
    show Steps p.tables e below (T28.setTop (mkF m 87 #[.val (.int p0), .val (.int p1), .val (.int p2), .val (.ref b19), .val (.ref b24), .unset, .unset, .unset, .unset, .unset, .unset] [(.int (p1 &&& (7 : Int32)))])) _
    refine XS.iconst X28.here hx rfl (hb hby at_87) ?_
    exact k
  refine own_go (T := T28) (T' := T28) (f := (mkF m 88 #[.val (.int p0), .val (.int p1), .val (.int p2), .val (.ref b19), .val (.ref b24), .unset, .unset, .unset, .unset, .unset, .unset] [(.int (5 : Int32)), (.int (p1 &&& (7 : Int32)))])) (f' := (mkF m 89 #[.val (.int p0), .val (.int p1), .val (.int p2), .val (.ref b19), .val (.ref b24), .unset, .unset, .unset, .unset, .unset, .unset] [(.int ((p1 &&& (7 : Int32)) % (5 : Int32)))])) (fun t k => ?_) ?_
  · show Steps p.tables e below (T28.setTop (mkF m 88 #[.val (.int p0), .val (.int p1), .val (.int p2), .val (.ref b19), .val (.ref b24), .unset, .unset, .unset, .unset, .unset, .unset] [(.int (5 : Int32)), (.int (p1 &&& (7 : Int32)))])) _
    refine iremM X28 hx rfl (hb hby at_88) rfl (by decide) ?_
    exact k
  obtain ⟨oa, hoa, eoa⟩ := own_rem5 (p1 &&& (7 : Int32)) (by have q := c_mask p1 7 3 (by decide) (by decide); omega)
  rw [eoa]
  show Rch p e below _ T28 (mkF m 89 #[.val (.int p0), .val (.int p1), .val (.int p2), .val (.ref b19), .val (.ref b24), .unset, .unset, .unset, .unset, .unset, .unset] [(.int (Int32.ofNat oa))])
  refine own_go (T := T28) (T' := T28) (f := (mkF m 89 #[.val (.int p0), .val (.int p1), .val (.int p2), .val (.ref b19), .val (.ref b24), .unset, .unset, .unset, .unset, .unset, .unset] [(.int (Int32.ofNat oa))])) (f' := (mkF m 101 #[.val (.int p0), .val (.int p1), .val (.int p2), .val (.ref b19), .val (.ref b24), .val (.int (Int32.ofNat oa)), .unset, .unset, .unset, .unset, .unset] [(.int ((5 : Int32) - (Int32.ofNat oa))), (.int (((p1.toUInt32 >>> ((3 : Int32) &&& 31).toUInt32).toInt32) &&& (7 : Int32)))])) (fun t k => ?_) ?_
  · show Steps p.tables e below (T28.setTop (mkF m 89 #[.val (.int p0), .val (.int p1), .val (.int p2), .val (.ref b19), .val (.ref b24), .unset, .unset, .unset, .unset, .unset, .unset] [(.int (Int32.ofNat oa))])) _
    refine XS.istore X28.here hx rfl (hb hby at_89) rfl (l' := #[.val (.int p0), .val (.int p1), .val (.int p2), .val (.ref b19), .val (.ref b24), .val (.int (Int32.ofNat oa)), .unset, .unset, .unset, .unset, .unset]) rfl ?_
    show Steps p.tables e below (T28.setTop (mkF m 91 #[.val (.int p0), .val (.int p1), .val (.int p2), .val (.ref b19), .val (.ref b24), .val (.int (Int32.ofNat oa)), .unset, .unset, .unset, .unset, .unset] [])) _
    refine XS.iloadN X28.here hx rfl (hb hby at_91) rfl ?_
    show Steps p.tables e below (T28.setTop (mkF m 92 #[.val (.int p0), .val (.int p1), .val (.int p2), .val (.ref b19), .val (.ref b24), .val (.int (Int32.ofNat oa)), .unset, .unset, .unset, .unset, .unset] [(.int p1)])) _
    refine XS.iconst X28.here hx rfl (hb hby at_92) ?_
    show Steps p.tables e below (T28.setTop (mkF m 93 #[.val (.int p0), .val (.int p1), .val (.int p2), .val (.ref b19), .val (.ref b24), .val (.int (Int32.ofNat oa)), .unset, .unset, .unset, .unset, .unset] [(.int (3 : Int32)), (.int p1)])) _
    refine XS.iushr X28.here hx rfl (hb hby at_93) rfl ?_
    show Steps p.tables e below (T28.setTop (mkF m 94 #[.val (.int p0), .val (.int p1), .val (.int p2), .val (.ref b19), .val (.ref b24), .val (.int (Int32.ofNat oa)), .unset, .unset, .unset, .unset, .unset] [(.int ((p1.toUInt32 >>> ((3 : Int32) &&& 31).toUInt32).toInt32))])) _
    refine XS.bipush X28.here hx rfl (hb hby at_94) ?_
    show Steps p.tables e below (T28.setTop (mkF m 96 #[.val (.int p0), .val (.int p1), .val (.int p2), .val (.ref b19), .val (.ref b24), .val (.int (Int32.ofNat oa)), .unset, .unset, .unset, .unset, .unset] [(.int (7 : Int32)), (.int ((p1.toUInt32 >>> ((3 : Int32) &&& 31).toUInt32).toInt32))])) _
    refine XS.iand X28.here hx rfl (hb hby at_96) rfl ?_
    show Steps p.tables e below (T28.setTop (mkF m 97 #[.val (.int p0), .val (.int p1), .val (.int p2), .val (.ref b19), .val (.ref b24), .val (.int (Int32.ofNat oa)), .unset, .unset, .unset, .unset, .unset] [(.int (((p1.toUInt32 >>> ((3 : Int32) &&& 31).toUInt32).toInt32) &&& (7 : Int32)))])) _
    refine XS.iconst X28.here hx rfl (hb hby at_97) ?_
    show Steps p.tables e below (T28.setTop (mkF m 98 #[.val (.int p0), .val (.int p1), .val (.int p2), .val (.ref b19), .val (.ref b24), .val (.int (Int32.ofNat oa)), .unset, .unset, .unset, .unset, .unset] [(.int (5 : Int32)), (.int (((p1.toUInt32 >>> ((3 : Int32) &&& 31).toUInt32).toInt32) &&& (7 : Int32)))])) _
    refine XS.iload X28.here hx rfl (hb hby at_98) rfl ?_
    show Steps p.tables e below (T28.setTop (mkF m 100 #[.val (.int p0), .val (.int p1), .val (.int p2), .val (.ref b19), .val (.ref b24), .val (.int (Int32.ofNat oa)), .unset, .unset, .unset, .unset, .unset] [(.int (Int32.ofNat oa)), (.int (5 : Int32)), (.int (((p1.toUInt32 >>> ((3 : Int32) &&& 31).toUInt32).toInt32) &&& (7 : Int32)))])) _
    refine XS.isub X28.here hx rfl (hb hby at_100) rfl ?_
    exact k
  obtain ⟨zla, la, hla, ela⟩ := own_rem (((p1.toUInt32 >>> ((3 : Int32) &&& 31).toUInt32).toInt32) &&& (7 : Int32)) oa hoa (by have q := c_mask ((p1.toUInt32 >>> ((3 : Int32) &&& 31).toUInt32).toInt32) 7 3 (by decide) (by decide); omega)
  refine own_go (T := T28) (T' := T28) (f := (mkF m 101 #[.val (.int p0), .val (.int p1), .val (.int p2), .val (.ref b19), .val (.ref b24), .val (.int (Int32.ofNat oa)), .unset, .unset, .unset, .unset, .unset] [(.int ((5 : Int32) - (Int32.ofNat oa))), (.int (((p1.toUInt32 >>> ((3 : Int32) &&& 31).toUInt32).toInt32) &&& (7 : Int32)))])) (f' := (mkF m 102 #[.val (.int p0), .val (.int p1), .val (.int p2), .val (.ref b19), .val (.ref b24), .val (.int (Int32.ofNat oa)), .unset, .unset, .unset, .unset, .unset] [(.int ((((p1.toUInt32 >>> ((3 : Int32) &&& 31).toUInt32).toInt32) &&& (7 : Int32)) % ((5 : Int32) - (Int32.ofNat oa))))])) (fun t k => ?_) ?_
  · show Steps p.tables e below (T28.setTop (mkF m 101 #[.val (.int p0), .val (.int p1), .val (.int p2), .val (.ref b19), .val (.ref b24), .val (.int (Int32.ofNat oa)), .unset, .unset, .unset, .unset, .unset] [(.int ((5 : Int32) - (Int32.ofNat oa))), (.int (((p1.toUInt32 >>> ((3 : Int32) &&& 31).toUInt32).toInt32) &&& (7 : Int32)))])) _
    refine iremM X28 hx rfl (hb hby at_101) rfl zla ?_
    exact k
  rw [ela]
  show Rch p e below _ T28 (mkF m 102 #[.val (.int p0), .val (.int p1), .val (.int p2), .val (.ref b19), .val (.ref b24), .val (.int (Int32.ofNat oa)), .unset, .unset, .unset, .unset, .unset] [(.int (Int32.ofNat la))])
  refine own_go (T := T28) (T' := T28) (f := (mkF m 102 #[.val (.int p0), .val (.int p1), .val (.int p2), .val (.ref b19), .val (.ref b24), .val (.int (Int32.ofNat oa)), .unset, .unset, .unset, .unset, .unset] [(.int (Int32.ofNat la))])) (f' := (mkF m 112 #[.val (.int p0), .val (.int p1), .val (.int p2), .val (.ref b19), .val (.ref b24), .val (.int (Int32.ofNat oa)), .val (.int (Int32.ofNat la)), .unset, .unset, .unset, .unset] [(.int (5 : Int32)), (.int (((p1.toUInt32 >>> ((6 : Int32) &&& 31).toUInt32).toInt32) &&& (7 : Int32)))])) (fun t k => ?_) ?_
  · show Steps p.tables e below (T28.setTop (mkF m 102 #[.val (.int p0), .val (.int p1), .val (.int p2), .val (.ref b19), .val (.ref b24), .val (.int (Int32.ofNat oa)), .unset, .unset, .unset, .unset, .unset] [(.int (Int32.ofNat la))])) _
    refine XS.istore X28.here hx rfl (hb hby at_102) rfl (l' := #[.val (.int p0), .val (.int p1), .val (.int p2), .val (.ref b19), .val (.ref b24), .val (.int (Int32.ofNat oa)), .val (.int (Int32.ofNat la)), .unset, .unset, .unset, .unset]) rfl ?_
    show Steps p.tables e below (T28.setTop (mkF m 104 #[.val (.int p0), .val (.int p1), .val (.int p2), .val (.ref b19), .val (.ref b24), .val (.int (Int32.ofNat oa)), .val (.int (Int32.ofNat la)), .unset, .unset, .unset, .unset] [])) _
    refine XS.iloadN X28.here hx rfl (hb hby at_104) rfl ?_
    show Steps p.tables e below (T28.setTop (mkF m 105 #[.val (.int p0), .val (.int p1), .val (.int p2), .val (.ref b19), .val (.ref b24), .val (.int (Int32.ofNat oa)), .val (.int (Int32.ofNat la)), .unset, .unset, .unset, .unset] [(.int p1)])) _
    refine XS.bipush X28.here hx rfl (hb hby at_105) ?_
    show Steps p.tables e below (T28.setTop (mkF m 107 #[.val (.int p0), .val (.int p1), .val (.int p2), .val (.ref b19), .val (.ref b24), .val (.int (Int32.ofNat oa)), .val (.int (Int32.ofNat la)), .unset, .unset, .unset, .unset] [(.int (6 : Int32)), (.int p1)])) _
    refine XS.iushr X28.here hx rfl (hb hby at_107) rfl ?_
    show Steps p.tables e below (T28.setTop (mkF m 108 #[.val (.int p0), .val (.int p1), .val (.int p2), .val (.ref b19), .val (.ref b24), .val (.int (Int32.ofNat oa)), .val (.int (Int32.ofNat la)), .unset, .unset, .unset, .unset] [(.int ((p1.toUInt32 >>> ((6 : Int32) &&& 31).toUInt32).toInt32))])) _
    refine XS.bipush X28.here hx rfl (hb hby at_108) ?_
    show Steps p.tables e below (T28.setTop (mkF m 110 #[.val (.int p0), .val (.int p1), .val (.int p2), .val (.ref b19), .val (.ref b24), .val (.int (Int32.ofNat oa)), .val (.int (Int32.ofNat la)), .unset, .unset, .unset, .unset] [(.int (7 : Int32)), (.int ((p1.toUInt32 >>> ((6 : Int32) &&& 31).toUInt32).toInt32))])) _
    refine XS.iand X28.here hx rfl (hb hby at_110) rfl ?_
    show Steps p.tables e below (T28.setTop (mkF m 111 #[.val (.int p0), .val (.int p1), .val (.int p2), .val (.ref b19), .val (.ref b24), .val (.int (Int32.ofNat oa)), .val (.int (Int32.ofNat la)), .unset, .unset, .unset, .unset] [(.int (((p1.toUInt32 >>> ((6 : Int32) &&& 31).toUInt32).toInt32) &&& (7 : Int32)))])) _
    refine XS.iconst X28.here hx rfl (hb hby at_111) ?_
    exact k
  refine own_go (T := T28) (T' := T28) (f := (mkF m 112 #[.val (.int p0), .val (.int p1), .val (.int p2), .val (.ref b19), .val (.ref b24), .val (.int (Int32.ofNat oa)), .val (.int (Int32.ofNat la)), .unset, .unset, .unset, .unset] [(.int (5 : Int32)), (.int (((p1.toUInt32 >>> ((6 : Int32) &&& 31).toUInt32).toInt32) &&& (7 : Int32)))])) (f' := (mkF m 113 #[.val (.int p0), .val (.int p1), .val (.int p2), .val (.ref b19), .val (.ref b24), .val (.int (Int32.ofNat oa)), .val (.int (Int32.ofNat la)), .unset, .unset, .unset, .unset] [(.int ((((p1.toUInt32 >>> ((6 : Int32) &&& 31).toUInt32).toInt32) &&& (7 : Int32)) % (5 : Int32)))])) (fun t k => ?_) ?_
  · show Steps p.tables e below (T28.setTop (mkF m 112 #[.val (.int p0), .val (.int p1), .val (.int p2), .val (.ref b19), .val (.ref b24), .val (.int (Int32.ofNat oa)), .val (.int (Int32.ofNat la)), .unset, .unset, .unset, .unset] [(.int (5 : Int32)), (.int (((p1.toUInt32 >>> ((6 : Int32) &&& 31).toUInt32).toInt32) &&& (7 : Int32)))])) _
    refine iremM X28 hx rfl (hb hby at_112) rfl (by decide) ?_
    exact k
  obtain ⟨ob, hob, eob⟩ := own_rem5 (((p1.toUInt32 >>> ((6 : Int32) &&& 31).toUInt32).toInt32) &&& (7 : Int32)) (by have q := c_mask ((p1.toUInt32 >>> ((6 : Int32) &&& 31).toUInt32).toInt32) 7 3 (by decide) (by decide); omega)
  rw [eob]
  show Rch p e below _ T28 (mkF m 113 #[.val (.int p0), .val (.int p1), .val (.int p2), .val (.ref b19), .val (.ref b24), .val (.int (Int32.ofNat oa)), .val (.int (Int32.ofNat la)), .unset, .unset, .unset, .unset] [(.int (Int32.ofNat ob))])
  refine own_go (T := T28) (T' := T28) (f := (mkF m 113 #[.val (.int p0), .val (.int p1), .val (.int p2), .val (.ref b19), .val (.ref b24), .val (.int (Int32.ofNat oa)), .val (.int (Int32.ofNat la)), .unset, .unset, .unset, .unset] [(.int (Int32.ofNat ob))])) (f' := (mkF m 126 #[.val (.int p0), .val (.int p1), .val (.int p2), .val (.ref b19), .val (.ref b24), .val (.int (Int32.ofNat oa)), .val (.int (Int32.ofNat la)), .val (.int (Int32.ofNat ob)), .unset, .unset, .unset] [(.int ((5 : Int32) - (Int32.ofNat ob))), (.int (((p1.toUInt32 >>> ((9 : Int32) &&& 31).toUInt32).toInt32) &&& (7 : Int32)))])) (fun t k => ?_) ?_
  · show Steps p.tables e below (T28.setTop (mkF m 113 #[.val (.int p0), .val (.int p1), .val (.int p2), .val (.ref b19), .val (.ref b24), .val (.int (Int32.ofNat oa)), .val (.int (Int32.ofNat la)), .unset, .unset, .unset, .unset] [(.int (Int32.ofNat ob))])) _
    refine XS.istore X28.here hx rfl (hb hby at_113) rfl (l' := #[.val (.int p0), .val (.int p1), .val (.int p2), .val (.ref b19), .val (.ref b24), .val (.int (Int32.ofNat oa)), .val (.int (Int32.ofNat la)), .val (.int (Int32.ofNat ob)), .unset, .unset, .unset]) rfl ?_
    show Steps p.tables e below (T28.setTop (mkF m 115 #[.val (.int p0), .val (.int p1), .val (.int p2), .val (.ref b19), .val (.ref b24), .val (.int (Int32.ofNat oa)), .val (.int (Int32.ofNat la)), .val (.int (Int32.ofNat ob)), .unset, .unset, .unset] [])) _
    refine XS.iloadN X28.here hx rfl (hb hby at_115) rfl ?_
    show Steps p.tables e below (T28.setTop (mkF m 116 #[.val (.int p0), .val (.int p1), .val (.int p2), .val (.ref b19), .val (.ref b24), .val (.int (Int32.ofNat oa)), .val (.int (Int32.ofNat la)), .val (.int (Int32.ofNat ob)), .unset, .unset, .unset] [(.int p1)])) _
    refine XS.bipush X28.here hx rfl (hb hby at_116) ?_
    show Steps p.tables e below (T28.setTop (mkF m 118 #[.val (.int p0), .val (.int p1), .val (.int p2), .val (.ref b19), .val (.ref b24), .val (.int (Int32.ofNat oa)), .val (.int (Int32.ofNat la)), .val (.int (Int32.ofNat ob)), .unset, .unset, .unset] [(.int (9 : Int32)), (.int p1)])) _
    refine XS.iushr X28.here hx rfl (hb hby at_118) rfl ?_
    show Steps p.tables e below (T28.setTop (mkF m 119 #[.val (.int p0), .val (.int p1), .val (.int p2), .val (.ref b19), .val (.ref b24), .val (.int (Int32.ofNat oa)), .val (.int (Int32.ofNat la)), .val (.int (Int32.ofNat ob)), .unset, .unset, .unset] [(.int ((p1.toUInt32 >>> ((9 : Int32) &&& 31).toUInt32).toInt32))])) _
    refine XS.bipush X28.here hx rfl (hb hby at_119) ?_
    show Steps p.tables e below (T28.setTop (mkF m 121 #[.val (.int p0), .val (.int p1), .val (.int p2), .val (.ref b19), .val (.ref b24), .val (.int (Int32.ofNat oa)), .val (.int (Int32.ofNat la)), .val (.int (Int32.ofNat ob)), .unset, .unset, .unset] [(.int (7 : Int32)), (.int ((p1.toUInt32 >>> ((9 : Int32) &&& 31).toUInt32).toInt32))])) _
    refine XS.iand X28.here hx rfl (hb hby at_121) rfl ?_
    show Steps p.tables e below (T28.setTop (mkF m 122 #[.val (.int p0), .val (.int p1), .val (.int p2), .val (.ref b19), .val (.ref b24), .val (.int (Int32.ofNat oa)), .val (.int (Int32.ofNat la)), .val (.int (Int32.ofNat ob)), .unset, .unset, .unset] [(.int (((p1.toUInt32 >>> ((9 : Int32) &&& 31).toUInt32).toInt32) &&& (7 : Int32)))])) _
    refine XS.iconst X28.here hx rfl (hb hby at_122) ?_
    show Steps p.tables e below (T28.setTop (mkF m 123 #[.val (.int p0), .val (.int p1), .val (.int p2), .val (.ref b19), .val (.ref b24), .val (.int (Int32.ofNat oa)), .val (.int (Int32.ofNat la)), .val (.int (Int32.ofNat ob)), .unset, .unset, .unset] [(.int (5 : Int32)), (.int (((p1.toUInt32 >>> ((9 : Int32) &&& 31).toUInt32).toInt32) &&& (7 : Int32)))])) _
    refine XS.iload X28.here hx rfl (hb hby at_123) rfl ?_
    show Steps p.tables e below (T28.setTop (mkF m 125 #[.val (.int p0), .val (.int p1), .val (.int p2), .val (.ref b19), .val (.ref b24), .val (.int (Int32.ofNat oa)), .val (.int (Int32.ofNat la)), .val (.int (Int32.ofNat ob)), .unset, .unset, .unset] [(.int (Int32.ofNat ob)), (.int (5 : Int32)), (.int (((p1.toUInt32 >>> ((9 : Int32) &&& 31).toUInt32).toInt32) &&& (7 : Int32)))])) _
    refine XS.isub X28.here hx rfl (hb hby at_125) rfl ?_
    exact k
  obtain ⟨zlb, lb, hlb, elb⟩ := own_rem (((p1.toUInt32 >>> ((9 : Int32) &&& 31).toUInt32).toInt32) &&& (7 : Int32)) ob hob (by have q := c_mask ((p1.toUInt32 >>> ((9 : Int32) &&& 31).toUInt32).toInt32) 7 3 (by decide) (by decide); omega)
  refine own_go (T := T28) (T' := T28) (f := (mkF m 126 #[.val (.int p0), .val (.int p1), .val (.int p2), .val (.ref b19), .val (.ref b24), .val (.int (Int32.ofNat oa)), .val (.int (Int32.ofNat la)), .val (.int (Int32.ofNat ob)), .unset, .unset, .unset] [(.int ((5 : Int32) - (Int32.ofNat ob))), (.int (((p1.toUInt32 >>> ((9 : Int32) &&& 31).toUInt32).toInt32) &&& (7 : Int32)))])) (f' := (mkF m 127 #[.val (.int p0), .val (.int p1), .val (.int p2), .val (.ref b19), .val (.ref b24), .val (.int (Int32.ofNat oa)), .val (.int (Int32.ofNat la)), .val (.int (Int32.ofNat ob)), .unset, .unset, .unset] [(.int ((((p1.toUInt32 >>> ((9 : Int32) &&& 31).toUInt32).toInt32) &&& (7 : Int32)) % ((5 : Int32) - (Int32.ofNat ob))))])) (fun t k => ?_) ?_
  · show Steps p.tables e below (T28.setTop (mkF m 126 #[.val (.int p0), .val (.int p1), .val (.int p2), .val (.ref b19), .val (.ref b24), .val (.int (Int32.ofNat oa)), .val (.int (Int32.ofNat la)), .val (.int (Int32.ofNat ob)), .unset, .unset, .unset] [(.int ((5 : Int32) - (Int32.ofNat ob))), (.int (((p1.toUInt32 >>> ((9 : Int32) &&& 31).toUInt32).toInt32) &&& (7 : Int32)))])) _
    refine iremM X28 hx rfl (hb hby at_126) rfl zlb ?_
    exact k
  rw [elb]
  show Rch p e below _ T28 (mkF m 127 #[.val (.int p0), .val (.int p1), .val (.int p2), .val (.ref b19), .val (.ref b24), .val (.int (Int32.ofNat oa)), .val (.int (Int32.ofNat la)), .val (.int (Int32.ofNat ob)), .unset, .unset, .unset] [(.int (Int32.ofNat lb))])
  refine own_go (T := T28) (T' := T28) (f := (mkF m 127 #[.val (.int p0), .val (.int p1), .val (.int p2), .val (.ref b19), .val (.ref b24), .val (.int (Int32.ofNat oa)), .val (.int (Int32.ofNat la)), .val (.int (Int32.ofNat ob)), .unset, .unset, .unset] [(.int (Int32.ofNat lb))])) (f' := (mkF m 136 #[.val (.int p0), .val (.int p1), .val (.int p2), .val (.ref b19), .val (.ref b24), .val (.int (Int32.ofNat oa)), .val (.int (Int32.ofNat la)), .val (.int (Int32.ofNat ob)), .val (.int (Int32.ofNat lb)), .val (.int (p2 &&& (255 : Int32))), .unset] [])) (fun t k => ?_) ?_
  · show Steps p.tables e below (T28.setTop (mkF m 127 #[.val (.int p0), .val (.int p1), .val (.int p2), .val (.ref b19), .val (.ref b24), .val (.int (Int32.ofNat oa)), .val (.int (Int32.ofNat la)), .val (.int (Int32.ofNat ob)), .unset, .unset, .unset] [(.int (Int32.ofNat lb))])) _
    refine XS.istore X28.here hx rfl (hb hby at_127) rfl (l' := #[.val (.int p0), .val (.int p1), .val (.int p2), .val (.ref b19), .val (.ref b24), .val (.int (Int32.ofNat oa)), .val (.int (Int32.ofNat la)), .val (.int (Int32.ofNat ob)), .val (.int (Int32.ofNat lb)), .unset, .unset]) rfl ?_
    show Steps p.tables e below (T28.setTop (mkF m 129 #[.val (.int p0), .val (.int p1), .val (.int p2), .val (.ref b19), .val (.ref b24), .val (.int (Int32.ofNat oa)), .val (.int (Int32.ofNat la)), .val (.int (Int32.ofNat ob)), .val (.int (Int32.ofNat lb)), .unset, .unset] [])) _
    refine XS.iloadN X28.here hx rfl (hb hby at_129) rfl ?_
    show Steps p.tables e below (T28.setTop (mkF m 130 #[.val (.int p0), .val (.int p1), .val (.int p2), .val (.ref b19), .val (.ref b24), .val (.int (Int32.ofNat oa)), .val (.int (Int32.ofNat la)), .val (.int (Int32.ofNat ob)), .val (.int (Int32.ofNat lb)), .unset, .unset] [(.int p2)])) _
    refine XS.sipush X28.here hx rfl (hb hby at_130) ?_
    show Steps p.tables e below (T28.setTop (mkF m 133 #[.val (.int p0), .val (.int p1), .val (.int p2), .val (.ref b19), .val (.ref b24), .val (.int (Int32.ofNat oa)), .val (.int (Int32.ofNat la)), .val (.int (Int32.ofNat ob)), .val (.int (Int32.ofNat lb)), .unset, .unset] [(.int (255 : Int32)), (.int p2)])) _
    refine XS.iand X28.here hx rfl (hb hby at_133) rfl ?_
    show Steps p.tables e below (T28.setTop (mkF m 134 #[.val (.int p0), .val (.int p1), .val (.int p2), .val (.ref b19), .val (.ref b24), .val (.int (Int32.ofNat oa)), .val (.int (Int32.ofNat la)), .val (.int (Int32.ofNat ob)), .val (.int (Int32.ofNat lb)), .unset, .unset] [(.int (p2 &&& (255 : Int32)))])) _
    refine XS.istore X28.here hx rfl (hb hby at_134) rfl (l' := #[.val (.int p0), .val (.int p1), .val (.int p2), .val (.ref b19), .val (.ref b24), .val (.int (Int32.ofNat oa)), .val (.int (Int32.ofNat la)), .val (.int (Int32.ofNat ob)), .val (.int (Int32.ofNat lb)), .val (.int (p2 &&& (255 : Int32))), .unset]) rfl ?_
    exact k
  obtain ⟨vv, hvv⟩ : ∃ z, z = p2 &&& (255 : Int32) := ⟨_, rfl⟩
  rw [← hvv]
  have hvr : 0 ≤ vv.toInt ∧ vv.toInt < 256 := by rw [hvv]; exact own_ixr _
  show Rch p e below _ T28 (mkF m 136 #[.val (.int p0), .val (.int p1), .val (.int p2), .val (.ref b19), .val (.ref b24), .val (.int (Int32.ofNat oa)), .val (.int (Int32.ofNat la)), .val (.int (Int32.ofNat ob)), .val (.int (Int32.ofNat lb)), .val (.int vv), .unset] [])
  obtain ⟨T29, h29, X29, e29, E29, A29, D29, -, st29⟩ := newO X28 hx hZ hown (hw _ (List.mem_of_getElem? (i := 2) rfl)) (hw _ (List.mem_of_getElem? (i := 3) rfl)) (hw _ (List.mem_of_getElem? (i := 4) rfl)) e28 (g := (mkF m 136 #[.val (.int p0), .val (.int p1), .val (.int p2), .val (.ref b19), .val (.ref b24), .val (.int (Int32.ofNat oa)), .val (.int (Int32.ofNat la)), .val (.int (Int32.ofNat ob)), .val (.int (Int32.ofNat lb)), .val (.int vv), .unset] [])) rfl (hb hby at_136) (by decide) (by decide)
  obtain ⟨b29, g29⟩ : ∃ z, z = h28.size := ⟨_, rfl⟩
  rw [← g29] at A29 D29 st29
  have F_counts_b29 : Fld Z h29 b29 "com/example/leafweight/leafweight/codec/ByteCounts" "counts" "[J" .null := D29 (Or.inr (hw _ (List.mem_of_getElem? (i := 13) rfl))) (ty := (.array .long)) (by decide)
  refine own_go st29 ?_
  show Rch p e below _ T29 (mkF m 139 #[.val (.int p0), .val (.int p1), .val (.int p2), .val (.ref b19), .val (.ref b24), .val (.int (Int32.ofNat oa)), .val (.int (Int32.ofNat la)), .val (.int (Int32.ofNat ob)), .val (.int (Int32.ofNat lb)), .val (.int vv), .unset] [(.ref b29)])
  have gob : n0 ≤ b29 := Nat.le_trans su (Nat.le_of_eq g29.symm)
  have z1 : n0 ≤ h29.size := Nat.le_trans su E29.1
  refine own_go (T := T29) (T' := T29) (f := (mkF m 139 #[.val (.int p0), .val (.int p1), .val (.int p2), .val (.ref b19), .val (.ref b24), .val (.int (Int32.ofNat oa)), .val (.int (Int32.ofNat la)), .val (.int (Int32.ofNat ob)), .val (.int (Int32.ofNat lb)), .val (.int vv), .unset] [(.ref b29)])) (f' := (mkF m 140 #[.val (.int p0), .val (.int p1), .val (.int p2), .val (.ref b19), .val (.ref b24), .val (.int (Int32.ofNat oa)), .val (.int (Int32.ofNat la)), .val (.int (Int32.ofNat ob)), .val (.int (Int32.ofNat lb)), .val (.int vv), .unset] [(.ref b29), (.ref b29)])) (fun t k => ?_) ?_
  · show Steps p.tables e below (T29.setTop (mkF m 139 #[.val (.int p0), .val (.int p1), .val (.int p2), .val (.ref b19), .val (.ref b24), .val (.int (Int32.ofNat oa)), .val (.int (Int32.ofNat la)), .val (.int (Int32.ofNat ob)), .val (.int (Int32.ofNat lb)), .val (.int vv), .unset] [(.ref b29)])) _
    refine XS.dup X29.here hx rfl (hb hby at_139) rfl rfl ?_
    exact k
  obtain ⟨_, _, ⟨T30, L30, k30, n30⟩, -, X30, ⟨Lc30, hQ30, l30, y30, z30⟩, st30⟩ := X29.specialBack hx (y := (⟨"com/example/leafweight/leafweight/codec/ByteCounts", "<init>", "()V"⟩ : MethodName)) rfl hown (mvT hZ (hw _ (List.mem_of_getElem? (i := 5) rfl))) (mvT hZ (hw _ (List.mem_of_getElem? (i := 6) rfl))) (mvT hZ (hw _ (List.mem_of_getElem? (i := 7) rfl))) (by decide) (backOf (W := 1) (rm1 l Z a0 hw [] b29 h29 n0 z1 F_counts_b29 A29 gob) hZ (hw _ (List.mem_of_getElem? (i := 7) rfl)) (hw _ (List.mem_of_getElem? (i := 4) rfl)) (by decide) (by decide)) (g := (mkF m 140 #[.val (.int p0), .val (.int p1), .val (.int p2), .val (.ref b19), .val (.ref b24), .val (.int (Int32.ofNat oa)), .val (.int (Int32.ofNat la)), .val (.int (Int32.ofNat ob)), .val (.int (Int32.ofNat lb)), .val (.int vv), .unset] [(.ref b29), (.ref b29)])) rfl (by rw [hml]; rfl) (Steps.refl _) (a := b29) (argsL := []) (rest := [(.ref b29)]) (lenOf pd__28_29V rfl) rfl (by show 2 * 0 + _ ≤ _; exact Nat.le_of_eq rfl) (hb hby at_140) (fun _ _ => ⟨rfl, e29, (by decide : 3 + 1 ≤ _), (by decide : 9 + 256 ≤ _)⟩)
  dsimp only [Pt.U, Pt.locs, Pt.cells, Pt.slots] at X30 l30 y30 z30 st30 hQ30
  subst l30 y30 z30
  obtain ⟨ca, kc, rfl, N30q, sc, K30, Ex30, Fc30, Vc30⟩ := hQ30
  have N30 := Fr.app N28 N30q
  refine own_go2 st30 ?_
  show Rch p e below _ T30 (mkF m 143 #[.val (.int p0), .val (.int p1), .val (.int p2), .val (.ref b19), .val (.ref b24), .val (.int (Int32.ofNat oa)), .val (.int (Int32.ofNat la)), .val (.int (Int32.ofNat ob)), .val (.int (Int32.ofNat lb)), .val (.int vv), .unset] [(.ref b29)])
  have gca : n0 ≤ ca := Nat.le_trans z1 sc
  have z2 : n0 ≤ T30.heap.size := Nat.le_trans z1 K30.1
  have lb1 : b19 < h28.size := Vb2.lt
  have lu1 : b24 < h28.size := Vu1.lt
  have lob : b29 < h29.size := A29.lt
  have le1 : h28.size ≤ h29.size := E29.1
  have nb0 : b19 ≠ b29 := by omega
  have nu0 : b24 ≠ b29 := by omega
  have nbc : b19 ≠ ca := by omega
  have nuc : b24 ≠ ca := by omega
  have noc : b29 ≠ ca := by omega
  have Vb3 := (Vb2.ext E29).keep K30 (ninS nb0 nin0)
  have Vu3 := (Vu1.ext E29).keep K30 (ninS nu0 nin0)
  refine own_go (T := T30) (T' := T30) (f := (mkF m 143 #[.val (.int p0), .val (.int p1), .val (.int p2), .val (.ref b19), .val (.ref b24), .val (.int (Int32.ofNat oa)), .val (.int (Int32.ofNat la)), .val (.int (Int32.ofNat ob)), .val (.int (Int32.ofNat lb)), .val (.int vv), .unset] [(.ref b29)])) (f' := (mkF m 152 #[.val (.int p0), .val (.int p1), .val (.int p2), .val (.ref b19), .val (.ref b24), .val (.int (Int32.ofNat oa)), .val (.int (Int32.ofNat la)), .val (.int (Int32.ofNat ob)), .val (.int (Int32.ofNat lb)), .val (.int vv), .val (.ref b29)] [(.int (Int32.ofNat la)), (.int (Int32.ofNat oa)), (.ref b19), (.ref b29)])) (fun t k => ?_) ?_
  · show Steps p.tables e below (T30.setTop (mkF m 143 #[.val (.int p0), .val (.int p1), .val (.int p2), .val (.ref b19), .val (.ref b24), .val (.int (Int32.ofNat oa)), .val (.int (Int32.ofNat la)), .val (.int (Int32.ofNat ob)), .val (.int (Int32.ofNat lb)), .val (.int vv), .unset] [(.ref b29)])) _
    refine XS.astore X30.here hx rfl (hb hby at_143) rfl rfl (l' := #[.val (.int p0), .val (.int p1), .val (.int p2), .val (.ref b19), .val (.ref b24), .val (.int (Int32.ofNat oa)), .val (.int (Int32.ofNat la)), .val (.int (Int32.ofNat ob)), .val (.int (Int32.ofNat lb)), .val (.int vv), .val (.ref b29)]) rfl ?_
    show Steps p.tables e below (T30.setTop (mkF m 145 #[.val (.int p0), .val (.int p1), .val (.int p2), .val (.ref b19), .val (.ref b24), .val (.int (Int32.ofNat oa)), .val (.int (Int32.ofNat la)), .val (.int (Int32.ofNat ob)), .val (.int (Int32.ofNat lb)), .val (.int vv), .val (.ref b29)] [])) _
    refine XS.aload X30.here hx rfl (hb hby at_145) rfl rfl ?_
    show Steps p.tables e below (T30.setTop (mkF m 147 #[.val (.int p0), .val (.int p1), .val (.int p2), .val (.ref b19), .val (.ref b24), .val (.int (Int32.ofNat oa)), .val (.int (Int32.ofNat la)), .val (.int (Int32.ofNat ob)), .val (.int (Int32.ofNat lb)), .val (.int vv), .val (.ref b29)] [(.ref b29)])) _
    refine XS.aloadN X30.here hx rfl (hb hby at_147) rfl rfl ?_
    show Steps p.tables e below (T30.setTop (mkF m 148 #[.val (.int p0), .val (.int p1), .val (.int p2), .val (.ref b19), .val (.ref b24), .val (.int (Int32.ofNat oa)), .val (.int (Int32.ofNat la)), .val (.int (Int32.ofNat ob)), .val (.int (Int32.ofNat lb)), .val (.int vv), .val (.ref b29)] [(.ref b19), (.ref b29)])) _
    refine XS.iload X30.here hx rfl (hb hby at_148) rfl ?_
    show Steps p.tables e below (T30.setTop (mkF m 150 #[.val (.int p0), .val (.int p1), .val (.int p2), .val (.ref b19), .val (.ref b24), .val (.int (Int32.ofNat oa)), .val (.int (Int32.ofNat la)), .val (.int (Int32.ofNat ob)), .val (.int (Int32.ofNat lb)), .val (.int vv), .val (.ref b29)] [(.int (Int32.ofNat oa)), (.ref b19), (.ref b29)])) _
    refine XS.iload X30.here hx rfl (hb hby at_150) rfl ?_
    exact k
  obtain ⟨cq31, kq31, q31a, q31b, q31c⟩ := isOf hZ rfl Ex30
  obtain ⟨_, _, ⟨T31, L31, k31, n31⟩, -, X31, ⟨Lc31, hQ31, l31, y31, z31⟩, st31⟩ := X30.virtualBack hx (y := (⟨"com/example/leafweight/leafweight/codec/ByteCounts", "add", "([BII)V"⟩ : MethodName)) (z := (⟨"com/example/leafweight/leafweight/codec/ByteCounts", "add", "([BII)V"⟩ : MethodName)) hown (mvT hZ (hw _ (List.mem_of_getElem? (i := 14) rfl))) (mvT hZ (hw _ (List.mem_of_getElem? (i := 15) rfl))) (notFace_of_selects (args := #[]) (mvT hZ (hw _ (List.mem_of_getElem? (i := 17) rfl)))) (mvT hZ (hw _ (List.mem_of_getElem? (i := 17) rfl))) (mvT hZ (hw _ (List.mem_of_getElem? (i := 16) rfl))) (by decide) (backOf (W := 0) (rm3 l Z a0 hw [] b29 b19 oa la ca kc k19 bs (fun _ => 0) T30.heap n0 z2 hla Fc30 Vb3 Vc30 gca noc nbc) hZ (hw _ (List.mem_of_getElem? (i := 18) rfl)) (hw _ (List.mem_of_getElem? (i := 4) rfl)) (by decide) (by decide)) q31a q31c (g := (mkF m 152 #[.val (.int p0), .val (.int p1), .val (.int p2), .val (.ref b19), .val (.ref b24), .val (.int (Int32.ofNat oa)), .val (.int (Int32.ofNat la)), .val (.int (Int32.ofNat ob)), .val (.int (Int32.ofNat lb)), .val (.int vv), .val (.ref b29)] [(.int (Int32.ofNat la)), (.int (Int32.ofNat oa)), (.ref b19), (.ref b29)])) rfl (by rw [hml]; rfl) (Steps.refl _) (argsL := [(.ref b19), (.int (Int32.ofNat oa)), (.int (Int32.ofNat la))]) (rest := []) (lenOf pd__28_5bBII_29V rfl) rfl (by show 2 * 0 + _ ≤ _; exact Nat.le_of_eq rfl) (hb hby at_152) (fun _ _ => ⟨rfl, rfl, (by decide : 4 + 0 ≤ _), (by decide : 265 + 0 ≤ _)⟩)
  dsimp only [Pt.U, Pt.locs, Pt.cells, Pt.slots] at X31 l31 y31 z31 st31 hQ31
  subst l31 y31 z31
  obtain ⟨rfl, N31q, K31, Vc31⟩ := hQ31
  have N31 := Fr.app N30 N31q
  refine own_go2 st31 ?_
  show Rch p e below _ T31 (mkF m 155 #[.val (.int p0), .val (.int p1), .val (.int p2), .val (.ref b19), .val (.ref b24), .val (.int (Int32.ofNat oa)), .val (.int (Int32.ofNat la)), .val (.int (Int32.ofNat ob)), .val (.int (Int32.ofNat lb)), .val (.int vv), .val (.ref b29)] [])
  have Vb4 := Vb3.keep K31 (ninS nbc nin0)
  have Vu4 := Vu3.keep K31 (ninS nuc nin0)
  have Fc4 := Fc30.keep K31 (ninS noc nin0)
  have Ex4 := Ex30.keep K31
  have z3 : n0 ≤ T31.heap.size := Nat.le_trans z2 K31.1
  refine own_go (T := T31) (T' := T31) (f := (mkF m 155 #[.val (.int p0), .val (.int p1), .val (.int p2), .val (.ref b19), .val (.ref b24), .val (.int (Int32.ofNat oa)), .val (.int (Int32.ofNat la)), .val (.int (Int32.ofNat ob)), .val (.int (Int32.ofNat lb)), .val (.int vv), .val (.ref b29)] [])) (f' := (mkF m 162 #[.val (.int p0), .val (.int p1), .val (.int p2), .val (.ref b19), .val (.ref b24), .val (.int (Int32.ofNat oa)), .val (.int (Int32.ofNat la)), .val (.int (Int32.ofNat ob)), .val (.int (Int32.ofNat lb)), .val (.int vv), .val (.ref b29)] [(.int (Int32.ofNat lb)), (.int (Int32.ofNat ob)), (.ref b19), (.ref b29)])) (fun t k => ?_) ?_
  · show Steps p.tables e below (T31.setTop (mkF m 155 #[.val (.int p0), .val (.int p1), .val (.int p2), .val (.ref b19), .val (.ref b24), .val (.int (Int32.ofNat oa)), .val (.int (Int32.ofNat la)), .val (.int (Int32.ofNat ob)), .val (.int (Int32.ofNat lb)), .val (.int vv), .val (.ref b29)] [])) _
    refine XS.aload X31.here hx rfl (hb hby at_155) rfl rfl ?_
    show Steps p.tables e below (T31.setTop (mkF m 157 #[.val (.int p0), .val (.int p1), .val (.int p2), .val (.ref b19), .val (.ref b24), .val (.int (Int32.ofNat oa)), .val (.int (Int32.ofNat la)), .val (.int (Int32.ofNat ob)), .val (.int (Int32.ofNat lb)), .val (.int vv), .val (.ref b29)] [(.ref b29)])) _
    refine XS.aloadN X31.here hx rfl (hb hby at_157) rfl rfl ?_
    show Steps p.tables e below (T31.setTop (mkF m 158 #[.val (.int p0), .val (.int p1), .val (.int p2), .val (.ref b19), .val (.ref b24), .val (.int (Int32.ofNat oa)), .val (.int (Int32.ofNat la)), .val (.int (Int32.ofNat ob)), .val (.int (Int32.ofNat lb)), .val (.int vv), .val (.ref b29)] [(.ref b19), (.ref b29)])) _
    refine XS.iload X31.here hx rfl (hb hby at_158) rfl ?_
    show Steps p.tables e below (T31.setTop (mkF m 160 #[.val (.int p0), .val (.int p1), .val (.int p2), .val (.ref b19), .val (.ref b24), .val (.int (Int32.ofNat oa)), .val (.int (Int32.ofNat la)), .val (.int (Int32.ofNat ob)), .val (.int (Int32.ofNat lb)), .val (.int vv), .val (.ref b29)] [(.int (Int32.ofNat ob)), (.ref b19), (.ref b29)])) _
    refine XS.iload X31.here hx rfl (hb hby at_160) rfl ?_
    exact k
  obtain ⟨cq32, kq32, q32a, q32b, q32c⟩ := isOf hZ rfl Ex4
  obtain ⟨_, _, ⟨T32, L32, k32, n32⟩, -, X32, ⟨Lc32, hQ32, l32, y32, z32⟩, st32⟩ := X31.virtualBack hx (y := (⟨"com/example/leafweight/leafweight/codec/ByteCounts", "add", "([BII)V"⟩ : MethodName)) (z := (⟨"com/example/leafweight/leafweight/codec/ByteCounts", "add", "([BII)V"⟩ : MethodName)) hown (mvT hZ (hw _ (List.mem_of_getElem? (i := 14) rfl))) (mvT hZ (hw _ (List.mem_of_getElem? (i := 15) rfl))) (notFace_of_selects (args := #[]) (mvT hZ (hw _ (List.mem_of_getElem? (i := 17) rfl)))) (mvT hZ (hw _ (List.mem_of_getElem? (i := 17) rfl))) (mvT hZ (hw _ (List.mem_of_getElem? (i := 16) rfl))) (by decide) (backOf (W := 0) (rm3 l Z a0 hw [] b29 b19 ob lb ca kc k19 bs (own_add (own_ix bs) la oa (fun _ => 0)) T31.heap n0 z3 hlb Fc4 Vb4 Vc31 gca noc nbc) hZ (hw _ (List.mem_of_getElem? (i := 18) rfl)) (hw _ (List.mem_of_getElem? (i := 4) rfl)) (by decide) (by decide)) q32a q32c (g := (mkF m 162 #[.val (.int p0), .val (.int p1), .val (.int p2), .val (.ref b19), .val (.ref b24), .val (.int (Int32.ofNat oa)), .val (.int (Int32.ofNat la)), .val (.int (Int32.ofNat ob)), .val (.int (Int32.ofNat lb)), .val (.int vv), .val (.ref b29)] [(.int (Int32.ofNat lb)), (.int (Int32.ofNat ob)), (.ref b19), (.ref b29)])) rfl (by rw [hml]; rfl) (Steps.refl _) (argsL := [(.ref b19), (.int (Int32.ofNat ob)), (.int (Int32.ofNat lb))]) (rest := []) (lenOf pd__28_5bBII_29V rfl) rfl (by show 2 * 0 + _ ≤ _; exact Nat.le_of_eq rfl) (hb hby at_162) (fun _ _ => ⟨rfl, rfl, (by decide : 4 + 0 ≤ _), (by decide : 265 + 0 ≤ _)⟩)
  dsimp only [Pt.U, Pt.locs, Pt.cells, Pt.slots] at X32 l32 y32 z32 st32 hQ32
  subst l32 y32 z32
  obtain ⟨rfl, N32q, K32, Vc32⟩ := hQ32
  have N32 := Fr.app N31 N32q
  refine own_go2 st32 ?_
  show Rch p e below _ T32 (mkF m 165 #[.val (.int p0), .val (.int p1), .val (.int p2), .val (.ref b19), .val (.ref b24), .val (.int (Int32.ofNat oa)), .val (.int (Int32.ofNat la)), .val (.int (Int32.ofNat ob)), .val (.int (Int32.ofNat lb)), .val (.int vv), .val (.ref b29)] [])
  have Vu5 := Vu4.keep K32 (ninS nuc nin0)
  have Fc5 := Fc4.keep K32 (ninS noc nin0)
  have Ex5 := Ex4.keep K32
  have z4 : n0 ≤ T32.heap.size := Nat.le_trans z3 K32.1
  obtain ⟨h9, eh9⟩ : ∃ z, T32.heap = z := ⟨_, rfl⟩
  rw [eh9] at Vu5 Fc5 Ex5 z4 Vc32
  obtain ⟨ff, hff⟩ : ∃ z, z = own_add (own_ix bs) lb ob (own_add (own_ix bs) la oa (fun _ => 0)) := ⟨_, rfl⟩
  rw [← hff] at Vc32
  have hmain : ∀ v : Int32, 0 ≤ v.toInt → ff v.toNatClampNeg = own_exp us v (Int32.ofNat oa) (Int32.ofNat la) (Int32.ofNat ob) (Int32.ofNat lb) := fun v hv => by rw [hff]; exact own_main bs us v (own_hu bs us v hv hbu) oa la ob lb hla hlb
  refine own_go (T := T32) (T' := T32) (f := (mkF m 165 #[.val (.int p0), .val (.int p1), .val (.int p2), .val (.ref b19), .val (.ref b24), .val (.int (Int32.ofNat oa)), .val (.int (Int32.ofNat la)), .val (.int (Int32.ofNat ob)), .val (.int (Int32.ofNat lb)), .val (.int vv), .val (.ref b29)] [])) (f' := (mkF m 170 #[.val (.int p0), .val (.int p1), .val (.int p2), .val (.ref b19), .val (.ref b24), .val (.int (Int32.ofNat oa)), .val (.int (Int32.ofNat la)), .val (.int (Int32.ofNat ob)), .val (.int (Int32.ofNat lb)), .val (.int vv), .val (.ref b29)] [(.int (0 : Int32)), (.ref b24), (.ref b29)])) (fun t k => ?_) ?_
  · show Steps p.tables e below (T32.setTop (mkF m 165 #[.val (.int p0), .val (.int p1), .val (.int p2), .val (.ref b19), .val (.ref b24), .val (.int (Int32.ofNat oa)), .val (.int (Int32.ofNat la)), .val (.int (Int32.ofNat ob)), .val (.int (Int32.ofNat lb)), .val (.int vv), .val (.ref b29)] [])) _
    refine XS.aload X32.here hx rfl (hb hby at_165) rfl rfl ?_
    show Steps p.tables e below (T32.setTop (mkF m 167 #[.val (.int p0), .val (.int p1), .val (.int p2), .val (.ref b19), .val (.ref b24), .val (.int (Int32.ofNat oa)), .val (.int (Int32.ofNat la)), .val (.int (Int32.ofNat ob)), .val (.int (Int32.ofNat lb)), .val (.int vv), .val (.ref b29)] [(.ref b29)])) _
    refine XS.aload X32.here hx rfl (hb hby at_167) rfl rfl ?_
    show Steps p.tables e below (T32.setTop (mkF m 169 #[.val (.int p0), .val (.int p1), .val (.int p2), .val (.ref b19), .val (.ref b24), .val (.int (Int32.ofNat oa)), .val (.int (Int32.ofNat la)), .val (.int (Int32.ofNat ob)), .val (.int (Int32.ofNat lb)), .val (.int vv), .val (.ref b29)] [(.ref b24), (.ref b29)])) _
    refine XS.iconst X32.here hx rfl (hb hby at_169) ?_
    exact k
  obtain ⟨cl33, Ar33, q133, q233, q333, q433, q533⟩ := id Vu5
  have hin33 : ¬ ((0 : Int32) < 0 ∨ cl33.slots.size ≤ ((0 : Int32)).toNatClampNeg) := inb_of q233 ⟨by decide, by decide⟩
  refine own_go (f' := (mkF m 171 #[.val (.int p0), .val (.int p1), .val (.int p2), .val (.ref b19), .val (.ref b24), .val (.int (Int32.ofNat oa)), .val (.int (Int32.ofNat la)), .val (.int (Int32.ofNat ob)), .val (.int (Int32.ofNat lb)), .val (.int vv), .val (.ref b29)] [(.int (us 0)), (.ref b29)])) (X32.iaload hx (j := (0 : Int32)) (v := (.int (us 0))) (by rw [eh9]; exact Ar33.1) (State.isArrayOf_alike hZ.alike Ar33.2.1) Ar33.2.2 hin33 (Has.at q433 hin33 rfl) (g := (mkF m 170 #[.val (.int p0), .val (.int p1), .val (.int p2), .val (.ref b19), .val (.ref b24), .val (.int (Int32.ofNat oa)), .val (.int (Int32.ofNat la)), .val (.int (Int32.ofNat ob)), .val (.int (Int32.ofNat lb)), .val (.int vv), .val (.ref b29)] [(.int (0 : Int32)), (.ref b24), (.ref b29)])) rfl rfl (hb hby at_170)) ?_
  show Rch p e below _ T32 (mkF m 171 #[.val (.int p0), .val (.int p1), .val (.int p2), .val (.ref b19), .val (.ref b24), .val (.int (Int32.ofNat oa)), .val (.int (Int32.ofNat la)), .val (.int (Int32.ofNat ob)), .val (.int (Int32.ofNat lb)), .val (.int vv), .val (.ref b29)] [(.int (us 0)), (.ref b29)])
  obtain ⟨cq34, kq34, q34a, q34b, q34c⟩ := isOf hZ eh9 Ex5
  obtain ⟨_, _, ⟨T34, L34, k34, n34⟩, -, X34, ⟨Lc34, hQ34, l34, y34, z34⟩, st34⟩ := X32.virtualBack hx (y := (⟨"com/example/leafweight/leafweight/codec/ByteCounts", "count", "(I)J"⟩ : MethodName)) (z := (⟨"com/example/leafweight/leafweight/codec/ByteCounts", "count", "(I)J"⟩ : MethodName)) hown (mvT hZ (hw _ (List.mem_of_getElem? (i := 27) rfl))) (mvT hZ (hw _ (List.mem_of_getElem? (i := 28) rfl))) (notFace_of_selects (args := #[]) (mvT hZ (hw _ (List.mem_of_getElem? (i := 30) rfl)))) (mvT hZ (hw _ (List.mem_of_getElem? (i := 30) rfl))) (mvT hZ (hw _ (List.mem_of_getElem? (i := 29) rfl))) (by decide) (backOf (W := 0) (rm6 l Z a0 hw [] b29 (us 0) ca kc ff h9 n0 z4 Fc5 Vc32 (hur 0 (by omega)).1 (hur 0 (by omega)).2) hZ (hw _ (List.mem_of_getElem? (i := 31) rfl)) (hw _ (List.mem_of_getElem? (i := 4) rfl)) (by decide) (by decide)) q34a q34c (g := (mkF m 171 #[.val (.int p0), .val (.int p1), .val (.int p2), .val (.ref b19), .val (.ref b24), .val (.int (Int32.ofNat oa)), .val (.int (Int32.ofNat la)), .val (.int (Int32.ofNat ob)), .val (.int (Int32.ofNat lb)), .val (.int vv), .val (.ref b29)] [(.int (us 0)), (.ref b29)])) rfl (by rw [hml]; rfl) (Steps.refl _) (argsL := [(.int (us 0))]) (rest := []) (lenOf pd__28I_29J rfl) rfl (by show 2 * 0 + _ ≤ _; exact Nat.le_of_eq rfl) (hb hby at_171) (fun _ _ => ⟨rfl, eh9, (by decide : 4 + 0 ≤ _), (by decide : 265 + 0 ≤ _)⟩)
  dsimp only [Pt.U, Pt.locs, Pt.cells, Pt.slots] at X34 l34 y34 z34 st34 hQ34
  subst l34 y34 z34
  obtain ⟨rfl, N34q, e34⟩ := hQ34
  have N34 := Fr.app N32 N34q
  refine own_go2 st34 ?_
  show Rch p e below _ T34 (mkF m 174 #[.val (.int p0), .val (.int p1), .val (.int p2), .val (.ref b19), .val (.ref b24), .val (.int (Int32.ofNat oa)), .val (.int (Int32.ofNat la)), .val (.int (Int32.ofNat ob)), .val (.int (Int32.ofNat lb)), .val (.int vv), .val (.ref b29)] [(.long (ff (us 0).toNatClampNeg))])
  refine own_go (T := T34) (T' := T34) (f := (mkF m 174 #[.val (.int p0), .val (.int p1), .val (.int p2), .val (.ref b19), .val (.ref b24), .val (.int (Int32.ofNat oa)), .val (.int (Int32.ofNat la)), .val (.int (Int32.ofNat ob)), .val (.int (Int32.ofNat lb)), .val (.int vv), .val (.ref b29)] [(.long (ff (us 0).toNatClampNeg))])) (f' := (mkF m 179 #[.val (.int p0), .val (.int p1), .val (.int p2), .val (.ref b19), .val (.ref b24), .val (.int (Int32.ofNat oa)), .val (.int (Int32.ofNat la)), .val (.int (Int32.ofNat ob)), .val (.int (Int32.ofNat lb)), .val (.int vv), .val (.ref b29)] [(.int (0 : Int32)), (.ref b24), (.ref b24), (.long (ff (us 0).toNatClampNeg))])) (fun t k => ?_) ?_
  · show Steps p.tables e below (T34.setTop (mkF m 174 #[.val (.int p0), .val (.int p1), .val (.int p2), .val (.ref b19), .val (.ref b24), .val (.int (Int32.ofNat oa)), .val (.int (Int32.ofNat la)), .val (.int (Int32.ofNat ob)), .val (.int (Int32.ofNat lb)), .val (.int vv), .val (.ref b29)] [(.long (ff (us 0).toNatClampNeg))])) _
    refine XS.aload X34.here hx rfl (hb hby at_174) rfl rfl ?_
    show Steps p.tables e below (T34.setTop (mkF m 176 #[.val (.int p0), .val (.int p1), .val (.int p2), .val (.ref b19), .val (.ref b24), .val (.int (Int32.ofNat oa)), .val (.int (Int32.ofNat la)), .val (.int (Int32.ofNat ob)), .val (.int (Int32.ofNat lb)), .val (.int vv), .val (.ref b29)] [(.ref b24), (.long (ff (us 0).toNatClampNeg))])) _
    refine XS.aload X34.here hx rfl (hb hby at_176) rfl rfl ?_
    show Steps p.tables e below (T34.setTop (mkF m 178 #[.val (.int p0), .val (.int p1), .val (.int p2), .val (.ref b19), .val (.ref b24), .val (.int (Int32.ofNat oa)), .val (.int (Int32.ofNat la)), .val (.int (Int32.ofNat ob)), .val (.int (Int32.ofNat lb)), .val (.int vv), .val (.ref b29)] [(.ref b24), (.ref b24), (.long (ff (us 0).toNatClampNeg))])) _
    refine XS.iconst X34.here hx rfl (hb hby at_178) ?_
    exact k
  obtain ⟨cl35, Ar35, q135, q235, q335, q435, q535⟩ := id Vu5
  have hin35 : ¬ ((0 : Int32) < 0 ∨ cl35.slots.size ≤ ((0 : Int32)).toNatClampNeg) := inb_of q235 ⟨by decide, by decide⟩
  refine own_go (f' := (mkF m 180 #[.val (.int p0), .val (.int p1), .val (.int p2), .val (.ref b19), .val (.ref b24), .val (.int (Int32.ofNat oa)), .val (.int (Int32.ofNat la)), .val (.int (Int32.ofNat ob)), .val (.int (Int32.ofNat lb)), .val (.int vv), .val (.ref b29)] [(.int (us 0)), (.ref b24), (.long (ff (us 0).toNatClampNeg))])) (X34.iaload hx (j := (0 : Int32)) (v := (.int (us 0))) (by rw [e34]; exact Ar35.1) (State.isArrayOf_alike hZ.alike Ar35.2.1) Ar35.2.2 hin35 (Has.at q435 hin35 rfl) (g := (mkF m 179 #[.val (.int p0), .val (.int p1), .val (.int p2), .val (.ref b19), .val (.ref b24), .val (.int (Int32.ofNat oa)), .val (.int (Int32.ofNat la)), .val (.int (Int32.ofNat ob)), .val (.int (Int32.ofNat lb)), .val (.int vv), .val (.ref b29)] [(.int (0 : Int32)), (.ref b24), (.ref b24), (.long (ff (us 0).toNatClampNeg))])) rfl rfl (hb hby at_179)) ?_
  show Rch p e below _ T34 (mkF m 180 #[.val (.int p0), .val (.int p1), .val (.int p2), .val (.ref b19), .val (.ref b24), .val (.int (Int32.ofNat oa)), .val (.int (Int32.ofNat la)), .val (.int (Int32.ofNat ob)), .val (.int (Int32.ofNat lb)), .val (.int vv), .val (.ref b29)] [(.int (us 0)), (.ref b24), (.long (ff (us 0).toNatClampNeg))])
  refine own_go (T := T34) (T' := T34) (f := (mkF m 180 #[.val (.int p0), .val (.int p1), .val (.int p2), .val (.ref b19), .val (.ref b24), .val (.int (Int32.ofNat oa)), .val (.int (Int32.ofNat la)), .val (.int (Int32.ofNat ob)), .val (.int (Int32.ofNat lb)), .val (.int vv), .val (.ref b29)] [(.int (us 0)), (.ref b24), (.long (ff (us 0).toNatClampNeg))])) (f' := (mkF m 188 #[.val (.int p0), .val (.int p1), .val (.int p2), .val (.ref b19), .val (.ref b24), .val (.int (Int32.ofNat oa)), .val (.int (Int32.ofNat la)), .val (.int (Int32.ofNat ob)), .val (.int (Int32.ofNat lb)), .val (.int vv), .val (.ref b29)] [(.int (Int32.ofNat lb)), (.int (Int32.ofNat ob)), (.int (Int32.ofNat la)), (.int (Int32.ofNat oa)), (.int (us 0)), (.ref b24), (.long (ff (us 0).toNatClampNeg))])) (fun t k => ?_) ?_
  · show Steps p.tables e below (T34.setTop (mkF m 180 #[.val (.int p0), .val (.int p1), .val (.int p2), .val (.ref b19), .val (.ref b24), .val (.int (Int32.ofNat oa)), .val (.int (Int32.ofNat la)), .val (.int (Int32.ofNat ob)), .val (.int (Int32.ofNat lb)), .val (.int vv), .val (.ref b29)] [(.int (us 0)), (.ref b24), (.long (ff (us 0).toNatClampNeg))])) _
    refine XS.iload X34.here hx rfl (hb hby at_180) rfl ?_
    show Steps p.tables e below (T34.setTop (mkF m 182 #[.val (.int p0), .val (.int p1), .val (.int p2), .val (.ref b19), .val (.ref b24), .val (.int (Int32.ofNat oa)), .val (.int (Int32.ofNat la)), .val (.int (Int32.ofNat ob)), .val (.int (Int32.ofNat lb)), .val (.int vv), .val (.ref b29)] [(.int (Int32.ofNat oa)), (.int (us 0)), (.ref b24), (.long (ff (us 0).toNatClampNeg))])) _
    refine XS.iload X34.here hx rfl (hb hby at_182) rfl ?_
    show Steps p.tables e below (T34.setTop (mkF m 184 #[.val (.int p0), .val (.int p1), .val (.int p2), .val (.ref b19), .val (.ref b24), .val (.int (Int32.ofNat oa)), .val (.int (Int32.ofNat la)), .val (.int (Int32.ofNat ob)), .val (.int (Int32.ofNat lb)), .val (.int vv), .val (.ref b29)] [(.int (Int32.ofNat la)), (.int (Int32.ofNat oa)), (.int (us 0)), (.ref b24), (.long (ff (us 0).toNatClampNeg))])) _
    refine XS.iload X34.here hx rfl (hb hby at_184) rfl ?_
    show Steps p.tables e below (T34.setTop (mkF m 186 #[.val (.int p0), .val (.int p1), .val (.int p2), .val (.ref b19), .val (.ref b24), .val (.int (Int32.ofNat oa)), .val (.int (Int32.ofNat la)), .val (.int (Int32.ofNat ob)), .val (.int (Int32.ofNat lb)), .val (.int vv), .val (.ref b29)] [(.int (Int32.ofNat ob)), (.int (Int32.ofNat la)), (.int (Int32.ofNat oa)), (.int (us 0)), (.ref b24), (.long (ff (us 0).toNatClampNeg))])) _
    refine XS.iload X34.here hx rfl (hb hby at_186) rfl ?_
    exact k
  obtain ⟨_, _, ⟨T36, L36, k36, n36⟩, -, X36, ⟨Lc36, hQ36, l36, y36, z36⟩, st36⟩ := Jvm.LawKit.callS X34 hx (y := (⟨"com/example/leafweight/leafweight/codec/ByteCountsAddPinLaw", "expected", "([IIIIII)J"⟩ : MethodName)) hown (mvT hZ (hw _ (List.mem_of_getElem? (i := 32) rfl))) (mvT hZ (hw _ (List.mem_of_getElem? (i := 33) rfl))) (mvT hZ (hw _ (List.mem_of_getElem? (i := 34) rfl))) (mvT hZ (hw _ (List.mem_of_getElem? (i := 35) rfl))) (by decide) (backOf (W := 2) (rm7 l Z a0 hw [] b24 (us 0) (Int32.ofNat oa) (Int32.ofNat la) (Int32.ofNat ob) (Int32.ofNat lb) k24 us h9 n0 z4 Vu5) hZ (hw _ (List.mem_of_getElem? (i := 35) rfl)) (hw _ (List.mem_of_getElem? (i := 34) rfl)) (by decide) (by decide)) (g := (mkF m 188 #[.val (.int p0), .val (.int p1), .val (.int p2), .val (.ref b19), .val (.ref b24), .val (.int (Int32.ofNat oa)), .val (.int (Int32.ofNat la)), .val (.int (Int32.ofNat ob)), .val (.int (Int32.ofNat lb)), .val (.int vv), .val (.ref b29)] [(.int (Int32.ofNat lb)), (.int (Int32.ofNat ob)), (.int (Int32.ofNat la)), (.int (Int32.ofNat oa)), (.int (us 0)), (.ref b24), (.long (ff (us 0).toNatClampNeg))])) rfl (by rw [hml]; rfl) (argsL := [(.ref b24), (.int (us 0)), (.int (Int32.ofNat oa)), (.int (Int32.ofNat la)), (.int (Int32.ofNat ob)), (.int (Int32.ofNat lb))]) (rest := [(.long (ff (us 0).toNatClampNeg))]) (lenOf pd__28_5bIIIIII_29J rfl) rfl (by show 2 * 0 + _ ≤ _; exact Nat.le_of_eq rfl) (hb hby at_188) (fun _ _ => ⟨rfl, e34, (by decide : 4 + 0 ≤ _), (by decide : 265 + 0 ≤ _)⟩)
  dsimp only [Pt.U, Pt.locs, Pt.cells, Pt.slots] at X36 l36 y36 z36 st36 hQ36
  subst l36 y36 z36
  obtain ⟨rfl, N36q, e36⟩ := hQ36
  have N36 := Fr.app N34 N36q
  refine own_go st36 ?_
  show Rch p e below _ T36 (mkF m 191 #[.val (.int p0), .val (.int p1), .val (.int p2), .val (.ref b19), .val (.ref b24), .val (.int (Int32.ofNat oa)), .val (.int (Int32.ofNat la)), .val (.int (Int32.ofNat ob)), .val (.int (Int32.ofNat lb)), .val (.int vv), .val (.ref b29)] [(.long (own_exp us (us 0) (Int32.ofNat oa) (Int32.ofNat la) (Int32.ofNat ob) (Int32.ofNat lb))), (.long (ff (us 0).toNatClampNeg))])
  refine own_go (T := T36) (T' := T36) (f := (mkF m 191 #[.val (.int p0), .val (.int p1), .val (.int p2), .val (.ref b19), .val (.ref b24), .val (.int (Int32.ofNat oa)), .val (.int (Int32.ofNat la)), .val (.int (Int32.ofNat ob)), .val (.int (Int32.ofNat lb)), .val (.int vv), .val (.ref b29)] [(.long (own_exp us (us 0) (Int32.ofNat oa) (Int32.ofNat la) (Int32.ofNat ob) (Int32.ofNat lb))), (.long (ff (us 0).toNatClampNeg))])) (f' := (mkF m 192 #[.val (.int p0), .val (.int p1), .val (.int p2), .val (.ref b19), .val (.ref b24), .val (.int (Int32.ofNat oa)), .val (.int (Int32.ofNat la)), .val (.int (Int32.ofNat ob)), .val (.int (Int32.ofNat lb)), .val (.int vv), .val (.ref b29)] [(.int (lcmpW (ff (us 0).toNatClampNeg) (own_exp us (us 0) (Int32.ofNat oa) (Int32.ofNat la) (Int32.ofNat ob) (Int32.ofNat lb))))])) (fun t k => ?_) ?_
  · show Steps p.tables e below (T36.setTop (mkF m 191 #[.val (.int p0), .val (.int p1), .val (.int p2), .val (.ref b19), .val (.ref b24), .val (.int (Int32.ofNat oa)), .val (.int (Int32.ofNat la)), .val (.int (Int32.ofNat ob)), .val (.int (Int32.ofNat lb)), .val (.int vv), .val (.ref b29)] [(.long (own_exp us (us 0) (Int32.ofNat oa) (Int32.ofNat la) (Int32.ofNat ob) (Int32.ofNat lb))), (.long (ff (us 0).toNatClampNeg))])) _
    refine XS.lcmp X36.here hx rfl (hb hby at_191) rfl ?_
    exact k
  refine own_go (T := T36) (T' := T36) (f := (mkF m 192 #[.val (.int p0), .val (.int p1), .val (.int p2), .val (.ref b19), .val (.ref b24), .val (.int (Int32.ofNat oa)), .val (.int (Int32.ofNat la)), .val (.int (Int32.ofNat ob)), .val (.int (Int32.ofNat lb)), .val (.int vv), .val (.ref b29)] [(.int (lcmpW (ff (us 0).toNatClampNeg) (own_exp us (us 0) (Int32.ofNat oa) (Int32.ofNat la) (Int32.ofNat ob) (Int32.ofNat lb))))])) (f' := (mkF m 195 #[.val (.int p0), .val (.int p1), .val (.int p2), .val (.ref b19), .val (.ref b24), .val (.int (Int32.ofNat oa)), .val (.int (Int32.ofNat la)), .val (.int (Int32.ofNat ob)), .val (.int (Int32.ofNat lb)), .val (.int vv), .val (.ref b29)] [])) (fun t k => ?_) ?_
  · show Steps p.tables e below (T36.setTop (mkF m 192 #[.val (.int p0), .val (.int p1), .val (.int p2), .val (.ref b19), .val (.ref b24), .val (.int (Int32.ofNat oa)), .val (.int (Int32.ofNat la)), .val (.int (Int32.ofNat ob)), .val (.int (Int32.ofNat lb)), .val (.int vv), .val (.ref b29)] [(.int (lcmpW (ff (us 0).toNatClampNeg) (own_exp us (us 0) (Int32.ofNat oa) (Int32.ofNat la) (Int32.ofNat ob) (Int32.ofNat lb))))])) _
    refine XS.ifNo X36.here hx rfl (hb hby at_192) rfl ((if0 _ _).trans (teq (own_lc _ _ (hmain _ (hur 0 (by omega)).1))).2) ?_
    exact k
  refine own_go (T := T36) (T' := T36) (f := (mkF m 195 #[.val (.int p0), .val (.int p1), .val (.int p2), .val (.ref b19), .val (.ref b24), .val (.int (Int32.ofNat oa)), .val (.int (Int32.ofNat la)), .val (.int (Int32.ofNat ob)), .val (.int (Int32.ofNat lb)), .val (.int vv), .val (.ref b29)] [])) (f' := (mkF m 200 #[.val (.int p0), .val (.int p1), .val (.int p2), .val (.ref b19), .val (.ref b24), .val (.int (Int32.ofNat oa)), .val (.int (Int32.ofNat la)), .val (.int (Int32.ofNat ob)), .val (.int (Int32.ofNat lb)), .val (.int vv), .val (.ref b29)] [(.int (1 : Int32)), (.ref b24), (.ref b29)])) (fun t k => ?_) ?_
  · show Steps p.tables e below (T36.setTop (mkF m 195 #[.val (.int p0), .val (.int p1), .val (.int p2), .val (.ref b19), .val (.ref b24), .val (.int (Int32.ofNat oa)), .val (.int (Int32.ofNat la)), .val (.int (Int32.ofNat ob)), .val (.int (Int32.ofNat lb)), .val (.int vv), .val (.ref b29)] [])) _
    refine XS.aload X36.here hx rfl (hb hby at_195) rfl rfl ?_
    show Steps p.tables e below (T36.setTop (mkF m 197 #[.val (.int p0), .val (.int p1), .val (.int p2), .val (.ref b19), .val (.ref b24), .val (.int (Int32.ofNat oa)), .val (.int (Int32.ofNat la)), .val (.int (Int32.ofNat ob)), .val (.int (Int32.ofNat lb)), .val (.int vv), .val (.ref b29)] [(.ref b29)])) _
    refine XS.aload X36.here hx rfl (hb hby at_197) rfl rfl ?_
    show Steps p.tables e below (T36.setTop (mkF m 199 #[.val (.int p0), .val (.int p1), .val (.int p2), .val (.ref b19), .val (.ref b24), .val (.int (Int32.ofNat oa)), .val (.int (Int32.ofNat la)), .val (.int (Int32.ofNat ob)), .val (.int (Int32.ofNat lb)), .val (.int vv), .val (.ref b29)] [(.ref b24), (.ref b29)])) _
    refine XS.iconst X36.here hx rfl (hb hby at_199) ?_
    exact k
  obtain ⟨cl37, Ar37, q137, q237, q337, q437, q537⟩ := id Vu5
  have hin37 : ¬ ((1 : Int32) < 0 ∨ cl37.slots.size ≤ ((1 : Int32)).toNatClampNeg) := inb_of q237 ⟨by decide, by decide⟩
  refine own_go (f' := (mkF m 201 #[.val (.int p0), .val (.int p1), .val (.int p2), .val (.ref b19), .val (.ref b24), .val (.int (Int32.ofNat oa)), .val (.int (Int32.ofNat la)), .val (.int (Int32.ofNat ob)), .val (.int (Int32.ofNat lb)), .val (.int vv), .val (.ref b29)] [(.int (us 1)), (.ref b29)])) (X36.iaload hx (j := (1 : Int32)) (v := (.int (us 1))) (by rw [e36]; exact Ar37.1) (State.isArrayOf_alike hZ.alike Ar37.2.1) Ar37.2.2 hin37 (Has.at q437 hin37 rfl) (g := (mkF m 200 #[.val (.int p0), .val (.int p1), .val (.int p2), .val (.ref b19), .val (.ref b24), .val (.int (Int32.ofNat oa)), .val (.int (Int32.ofNat la)), .val (.int (Int32.ofNat ob)), .val (.int (Int32.ofNat lb)), .val (.int vv), .val (.ref b29)] [(.int (1 : Int32)), (.ref b24), (.ref b29)])) rfl rfl (hb hby at_200)) ?_
  show Rch p e below _ T36 (mkF m 201 #[.val (.int p0), .val (.int p1), .val (.int p2), .val (.ref b19), .val (.ref b24), .val (.int (Int32.ofNat oa)), .val (.int (Int32.ofNat la)), .val (.int (Int32.ofNat ob)), .val (.int (Int32.ofNat lb)), .val (.int vv), .val (.ref b29)] [(.int (us 1)), (.ref b29)])
  obtain ⟨cq38, kq38, q38a, q38b, q38c⟩ := isOf hZ e36 Ex5
  obtain ⟨_, _, ⟨T38, L38, k38, n38⟩, -, X38, ⟨Lc38, hQ38, l38, y38, z38⟩, st38⟩ := X36.virtualBack hx (y := (⟨"com/example/leafweight/leafweight/codec/ByteCounts", "count", "(I)J"⟩ : MethodName)) (z := (⟨"com/example/leafweight/leafweight/codec/ByteCounts", "count", "(I)J"⟩ : MethodName)) hown (mvT hZ (hw _ (List.mem_of_getElem? (i := 27) rfl))) (mvT hZ (hw _ (List.mem_of_getElem? (i := 28) rfl))) (notFace_of_selects (args := #[]) (mvT hZ (hw _ (List.mem_of_getElem? (i := 30) rfl)))) (mvT hZ (hw _ (List.mem_of_getElem? (i := 30) rfl))) (mvT hZ (hw _ (List.mem_of_getElem? (i := 29) rfl))) (by decide) (backOf (W := 0) (rm6 l Z a0 hw [] b29 (us 1) ca kc ff h9 n0 z4 Fc5 Vc32 (hur 1 (by omega)).1 (hur 1 (by omega)).2) hZ (hw _ (List.mem_of_getElem? (i := 31) rfl)) (hw _ (List.mem_of_getElem? (i := 4) rfl)) (by decide) (by decide)) q38a q38c (g := (mkF m 201 #[.val (.int p0), .val (.int p1), .val (.int p2), .val (.ref b19), .val (.ref b24), .val (.int (Int32.ofNat oa)), .val (.int (Int32.ofNat la)), .val (.int (Int32.ofNat ob)), .val (.int (Int32.ofNat lb)), .val (.int vv), .val (.ref b29)] [(.int (us 1)), (.ref b29)])) rfl (by rw [hml]; rfl) (Steps.refl _) (argsL := [(.int (us 1))]) (rest := []) (lenOf pd__28I_29J rfl) rfl (by show 2 * 0 + _ ≤ _; exact Nat.le_of_eq rfl) (hb hby at_201) (fun _ _ => ⟨rfl, e36, (by decide : 4 + 0 ≤ _), (by decide : 265 + 0 ≤ _)⟩)
  dsimp only [Pt.U, Pt.locs, Pt.cells, Pt.slots] at X38 l38 y38 z38 st38 hQ38
  subst l38 y38 z38
  obtain ⟨rfl, N38q, e38⟩ := hQ38
  have N38 := Fr.app N36 N38q
  refine own_go2 st38 ?_
  show Rch p e below _ T38 (mkF m 204 #[.val (.int p0), .val (.int p1), .val (.int p2), .val (.ref b19), .val (.ref b24), .val (.int (Int32.ofNat oa)), .val (.int (Int32.ofNat la)), .val (.int (Int32.ofNat ob)), .val (.int (Int32.ofNat lb)), .val (.int vv), .val (.ref b29)] [(.long (ff (us 1).toNatClampNeg))])
  refine own_go (T := T38) (T' := T38) (f := (mkF m 204 #[.val (.int p0), .val (.int p1), .val (.int p2), .val (.ref b19), .val (.ref b24), .val (.int (Int32.ofNat oa)), .val (.int (Int32.ofNat la)), .val (.int (Int32.ofNat ob)), .val (.int (Int32.ofNat lb)), .val (.int vv), .val (.ref b29)] [(.long (ff (us 1).toNatClampNeg))])) (f' := (mkF m 209 #[.val (.int p0), .val (.int p1), .val (.int p2), .val (.ref b19), .val (.ref b24), .val (.int (Int32.ofNat oa)), .val (.int (Int32.ofNat la)), .val (.int (Int32.ofNat ob)), .val (.int (Int32.ofNat lb)), .val (.int vv), .val (.ref b29)] [(.int (1 : Int32)), (.ref b24), (.ref b24), (.long (ff (us 1).toNatClampNeg))])) (fun t k => ?_) ?_
  · show Steps p.tables e below (T38.setTop (mkF m 204 #[.val (.int p0), .val (.int p1), .val (.int p2), .val (.ref b19), .val (.ref b24), .val (.int (Int32.ofNat oa)), .val (.int (Int32.ofNat la)), .val (.int (Int32.ofNat ob)), .val (.int (Int32.ofNat lb)), .val (.int vv), .val (.ref b29)] [(.long (ff (us 1).toNatClampNeg))])) _
    refine XS.aload X38.here hx rfl (hb hby at_204) rfl rfl ?_
    show Steps p.tables e below (T38.setTop (mkF m 206 #[.val (.int p0), .val (.int p1), .val (.int p2), .val (.ref b19), .val (.ref b24), .val (.int (Int32.ofNat oa)), .val (.int (Int32.ofNat la)), .val (.int (Int32.ofNat ob)), .val (.int (Int32.ofNat lb)), .val (.int vv), .val (.ref b29)] [(.ref b24), (.long (ff (us 1).toNatClampNeg))])) _
    refine XS.aload X38.here hx rfl (hb hby at_206) rfl rfl ?_
    show Steps p.tables e below (T38.setTop (mkF m 208 #[.val (.int p0), .val (.int p1), .val (.int p2), .val (.ref b19), .val (.ref b24), .val (.int (Int32.ofNat oa)), .val (.int (Int32.ofNat la)), .val (.int (Int32.ofNat ob)), .val (.int (Int32.ofNat lb)), .val (.int vv), .val (.ref b29)] [(.ref b24), (.ref b24), (.long (ff (us 1).toNatClampNeg))])) _
    refine XS.iconst X38.here hx rfl (hb hby at_208) ?_
    exact k
  obtain ⟨cl39, Ar39, q139, q239, q339, q439, q539⟩ := id Vu5
  have hin39 : ¬ ((1 : Int32) < 0 ∨ cl39.slots.size ≤ ((1 : Int32)).toNatClampNeg) := inb_of q239 ⟨by decide, by decide⟩
  refine own_go (f' := (mkF m 210 #[.val (.int p0), .val (.int p1), .val (.int p2), .val (.ref b19), .val (.ref b24), .val (.int (Int32.ofNat oa)), .val (.int (Int32.ofNat la)), .val (.int (Int32.ofNat ob)), .val (.int (Int32.ofNat lb)), .val (.int vv), .val (.ref b29)] [(.int (us 1)), (.ref b24), (.long (ff (us 1).toNatClampNeg))])) (X38.iaload hx (j := (1 : Int32)) (v := (.int (us 1))) (by rw [e38]; exact Ar39.1) (State.isArrayOf_alike hZ.alike Ar39.2.1) Ar39.2.2 hin39 (Has.at q439 hin39 rfl) (g := (mkF m 209 #[.val (.int p0), .val (.int p1), .val (.int p2), .val (.ref b19), .val (.ref b24), .val (.int (Int32.ofNat oa)), .val (.int (Int32.ofNat la)), .val (.int (Int32.ofNat ob)), .val (.int (Int32.ofNat lb)), .val (.int vv), .val (.ref b29)] [(.int (1 : Int32)), (.ref b24), (.ref b24), (.long (ff (us 1).toNatClampNeg))])) rfl rfl (hb hby at_209)) ?_
  show Rch p e below _ T38 (mkF m 210 #[.val (.int p0), .val (.int p1), .val (.int p2), .val (.ref b19), .val (.ref b24), .val (.int (Int32.ofNat oa)), .val (.int (Int32.ofNat la)), .val (.int (Int32.ofNat ob)), .val (.int (Int32.ofNat lb)), .val (.int vv), .val (.ref b29)] [(.int (us 1)), (.ref b24), (.long (ff (us 1).toNatClampNeg))])
  refine own_go (T := T38) (T' := T38) (f := (mkF m 210 #[.val (.int p0), .val (.int p1), .val (.int p2), .val (.ref b19), .val (.ref b24), .val (.int (Int32.ofNat oa)), .val (.int (Int32.ofNat la)), .val (.int (Int32.ofNat ob)), .val (.int (Int32.ofNat lb)), .val (.int vv), .val (.ref b29)] [(.int (us 1)), (.ref b24), (.long (ff (us 1).toNatClampNeg))])) (f' := (mkF m 218 #[.val (.int p0), .val (.int p1), .val (.int p2), .val (.ref b19), .val (.ref b24), .val (.int (Int32.ofNat oa)), .val (.int (Int32.ofNat la)), .val (.int (Int32.ofNat ob)), .val (.int (Int32.ofNat lb)), .val (.int vv), .val (.ref b29)] [(.int (Int32.ofNat lb)), (.int (Int32.ofNat ob)), (.int (Int32.ofNat la)), (.int (Int32.ofNat oa)), (.int (us 1)), (.ref b24), (.long (ff (us 1).toNatClampNeg))])) (fun t k => ?_) ?_
  · show Steps p.tables e below (T38.setTop (mkF m 210 #[.val (.int p0), .val (.int p1), .val (.int p2), .val (.ref b19), .val (.ref b24), .val (.int (Int32.ofNat oa)), .val (.int (Int32.ofNat la)), .val (.int (Int32.ofNat ob)), .val (.int (Int32.ofNat lb)), .val (.int vv), .val (.ref b29)] [(.int (us 1)), (.ref b24), (.long (ff (us 1).toNatClampNeg))])) _
    refine XS.iload X38.here hx rfl (hb hby at_210) rfl ?_
    show Steps p.tables e below (T38.setTop (mkF m 212 #[.val (.int p0), .val (.int p1), .val (.int p2), .val (.ref b19), .val (.ref b24), .val (.int (Int32.ofNat oa)), .val (.int (Int32.ofNat la)), .val (.int (Int32.ofNat ob)), .val (.int (Int32.ofNat lb)), .val (.int vv), .val (.ref b29)] [(.int (Int32.ofNat oa)), (.int (us 1)), (.ref b24), (.long (ff (us 1).toNatClampNeg))])) _
    refine XS.iload X38.here hx rfl (hb hby at_212) rfl ?_
    show Steps p.tables e below (T38.setTop (mkF m 214 #[.val (.int p0), .val (.int p1), .val (.int p2), .val (.ref b19), .val (.ref b24), .val (.int (Int32.ofNat oa)), .val (.int (Int32.ofNat la)), .val (.int (Int32.ofNat ob)), .val (.int (Int32.ofNat lb)), .val (.int vv), .val (.ref b29)] [(.int (Int32.ofNat la)), (.int (Int32.ofNat oa)), (.int (us 1)), (.ref b24), (.long (ff (us 1).toNatClampNeg))])) _
    refine XS.iload X38.here hx rfl (hb hby at_214) rfl ?_
    show Steps p.tables e below (T38.setTop (mkF m 216 #[.val (.int p0), .val (.int p1), .val (.int p2), .val (.ref b19), .val (.ref b24), .val (.int (Int32.ofNat oa)), .val (.int (Int32.ofNat la)), .val (.int (Int32.ofNat ob)), .val (.int (Int32.ofNat lb)), .val (.int vv), .val (.ref b29)] [(.int (Int32.ofNat ob)), (.int (Int32.ofNat la)), (.int (Int32.ofNat oa)), (.int (us 1)), (.ref b24), (.long (ff (us 1).toNatClampNeg))])) _
    refine XS.iload X38.here hx rfl (hb hby at_216) rfl ?_
    exact k
  obtain ⟨_, _, ⟨T40, L40, k40, n40⟩, -, X40, ⟨Lc40, hQ40, l40, y40, z40⟩, st40⟩ := Jvm.LawKit.callS X38 hx (y := (⟨"com/example/leafweight/leafweight/codec/ByteCountsAddPinLaw", "expected", "([IIIIII)J"⟩ : MethodName)) hown (mvT hZ (hw _ (List.mem_of_getElem? (i := 32) rfl))) (mvT hZ (hw _ (List.mem_of_getElem? (i := 33) rfl))) (mvT hZ (hw _ (List.mem_of_getElem? (i := 34) rfl))) (mvT hZ (hw _ (List.mem_of_getElem? (i := 35) rfl))) (by decide) (backOf (W := 2) (rm7 l Z a0 hw [] b24 (us 1) (Int32.ofNat oa) (Int32.ofNat la) (Int32.ofNat ob) (Int32.ofNat lb) k24 us h9 n0 z4 Vu5) hZ (hw _ (List.mem_of_getElem? (i := 35) rfl)) (hw _ (List.mem_of_getElem? (i := 34) rfl)) (by decide) (by decide)) (g := (mkF m 218 #[.val (.int p0), .val (.int p1), .val (.int p2), .val (.ref b19), .val (.ref b24), .val (.int (Int32.ofNat oa)), .val (.int (Int32.ofNat la)), .val (.int (Int32.ofNat ob)), .val (.int (Int32.ofNat lb)), .val (.int vv), .val (.ref b29)] [(.int (Int32.ofNat lb)), (.int (Int32.ofNat ob)), (.int (Int32.ofNat la)), (.int (Int32.ofNat oa)), (.int (us 1)), (.ref b24), (.long (ff (us 1).toNatClampNeg))])) rfl (by rw [hml]; rfl) (argsL := [(.ref b24), (.int (us 1)), (.int (Int32.ofNat oa)), (.int (Int32.ofNat la)), (.int (Int32.ofNat ob)), (.int (Int32.ofNat lb))]) (rest := [(.long (ff (us 1).toNatClampNeg))]) (lenOf pd__28_5bIIIIII_29J rfl) rfl (by show 2 * 0 + _ ≤ _; exact Nat.le_of_eq rfl) (hb hby at_218) (fun _ _ => ⟨rfl, e38, (by decide : 4 + 0 ≤ _), (by decide : 265 + 0 ≤ _)⟩)
  dsimp only [Pt.U, Pt.locs, Pt.cells, Pt.slots] at X40 l40 y40 z40 st40 hQ40
  subst l40 y40 z40
  obtain ⟨rfl, N40q, e40⟩ := hQ40
  have N40 := Fr.app N38 N40q
  refine own_go st40 ?_
  show Rch p e below _ T40 (mkF m 221 #[.val (.int p0), .val (.int p1), .val (.int p2), .val (.ref b19), .val (.ref b24), .val (.int (Int32.ofNat oa)), .val (.int (Int32.ofNat la)), .val (.int (Int32.ofNat ob)), .val (.int (Int32.ofNat lb)), .val (.int vv), .val (.ref b29)] [(.long (own_exp us (us 1) (Int32.ofNat oa) (Int32.ofNat la) (Int32.ofNat ob) (Int32.ofNat lb))), (.long (ff (us 1).toNatClampNeg))])
  refine own_go (T := T40) (T' := T40) (f := (mkF m 221 #[.val (.int p0), .val (.int p1), .val (.int p2), .val (.ref b19), .val (.ref b24), .val (.int (Int32.ofNat oa)), .val (.int (Int32.ofNat la)), .val (.int (Int32.ofNat ob)), .val (.int (Int32.ofNat lb)), .val (.int vv), .val (.ref b29)] [(.long (own_exp us (us 1) (Int32.ofNat oa) (Int32.ofNat la) (Int32.ofNat ob) (Int32.ofNat lb))), (.long (ff (us 1).toNatClampNeg))])) (f' := (mkF m 222 #[.val (.int p0), .val (.int p1), .val (.int p2), .val (.ref b19), .val (.ref b24), .val (.int (Int32.ofNat oa)), .val (.int (Int32.ofNat la)), .val (.int (Int32.ofNat ob)), .val (.int (Int32.ofNat lb)), .val (.int vv), .val (.ref b29)] [(.int (lcmpW (ff (us 1).toNatClampNeg) (own_exp us (us 1) (Int32.ofNat oa) (Int32.ofNat la) (Int32.ofNat ob) (Int32.ofNat lb))))])) (fun t k => ?_) ?_
  · show Steps p.tables e below (T40.setTop (mkF m 221 #[.val (.int p0), .val (.int p1), .val (.int p2), .val (.ref b19), .val (.ref b24), .val (.int (Int32.ofNat oa)), .val (.int (Int32.ofNat la)), .val (.int (Int32.ofNat ob)), .val (.int (Int32.ofNat lb)), .val (.int vv), .val (.ref b29)] [(.long (own_exp us (us 1) (Int32.ofNat oa) (Int32.ofNat la) (Int32.ofNat ob) (Int32.ofNat lb))), (.long (ff (us 1).toNatClampNeg))])) _
    refine XS.lcmp X40.here hx rfl (hb hby at_221) rfl ?_
    exact k
  refine own_go (T := T40) (T' := T40) (f := (mkF m 222 #[.val (.int p0), .val (.int p1), .val (.int p2), .val (.ref b19), .val (.ref b24), .val (.int (Int32.ofNat oa)), .val (.int (Int32.ofNat la)), .val (.int (Int32.ofNat ob)), .val (.int (Int32.ofNat lb)), .val (.int vv), .val (.ref b29)] [(.int (lcmpW (ff (us 1).toNatClampNeg) (own_exp us (us 1) (Int32.ofNat oa) (Int32.ofNat la) (Int32.ofNat ob) (Int32.ofNat lb))))])) (f' := (mkF m 225 #[.val (.int p0), .val (.int p1), .val (.int p2), .val (.ref b19), .val (.ref b24), .val (.int (Int32.ofNat oa)), .val (.int (Int32.ofNat la)), .val (.int (Int32.ofNat ob)), .val (.int (Int32.ofNat lb)), .val (.int vv), .val (.ref b29)] [])) (fun t k => ?_) ?_
  · show Steps p.tables e below (T40.setTop (mkF m 222 #[.val (.int p0), .val (.int p1), .val (.int p2), .val (.ref b19), .val (.ref b24), .val (.int (Int32.ofNat oa)), .val (.int (Int32.ofNat la)), .val (.int (Int32.ofNat ob)), .val (.int (Int32.ofNat lb)), .val (.int vv), .val (.ref b29)] [(.int (lcmpW (ff (us 1).toNatClampNeg) (own_exp us (us 1) (Int32.ofNat oa) (Int32.ofNat la) (Int32.ofNat ob) (Int32.ofNat lb))))])) _
    refine XS.ifNo X40.here hx rfl (hb hby at_222) rfl ((if0 _ _).trans (teq (own_lc _ _ (hmain _ (hur 1 (by omega)).1))).2) ?_
    exact k
  refine own_go (T := T40) (T' := T40) (f := (mkF m 225 #[.val (.int p0), .val (.int p1), .val (.int p2), .val (.ref b19), .val (.ref b24), .val (.int (Int32.ofNat oa)), .val (.int (Int32.ofNat la)), .val (.int (Int32.ofNat ob)), .val (.int (Int32.ofNat lb)), .val (.int vv), .val (.ref b29)] [])) (f' := (mkF m 230 #[.val (.int p0), .val (.int p1), .val (.int p2), .val (.ref b19), .val (.ref b24), .val (.int (Int32.ofNat oa)), .val (.int (Int32.ofNat la)), .val (.int (Int32.ofNat ob)), .val (.int (Int32.ofNat lb)), .val (.int vv), .val (.ref b29)] [(.int (2 : Int32)), (.ref b24), (.ref b29)])) (fun t k => ?_) ?_
  · show Steps p.tables e below (T40.setTop (mkF m 225 #[.val (.int p0), .val (.int p1), .val (.int p2), .val (.ref b19), .val (.ref b24), .val (.int (Int32.ofNat oa)), .val (.int (Int32.ofNat la)), .val (.int (Int32.ofNat ob)), .val (.int (Int32.ofNat lb)), .val (.int vv), .val (.ref b29)] [])) _
    refine XS.aload X40.here hx rfl (hb hby at_225) rfl rfl ?_
    show Steps p.tables e below (T40.setTop (mkF m 227 #[.val (.int p0), .val (.int p1), .val (.int p2), .val (.ref b19), .val (.ref b24), .val (.int (Int32.ofNat oa)), .val (.int (Int32.ofNat la)), .val (.int (Int32.ofNat ob)), .val (.int (Int32.ofNat lb)), .val (.int vv), .val (.ref b29)] [(.ref b29)])) _
    refine XS.aload X40.here hx rfl (hb hby at_227) rfl rfl ?_
    show Steps p.tables e below (T40.setTop (mkF m 229 #[.val (.int p0), .val (.int p1), .val (.int p2), .val (.ref b19), .val (.ref b24), .val (.int (Int32.ofNat oa)), .val (.int (Int32.ofNat la)), .val (.int (Int32.ofNat ob)), .val (.int (Int32.ofNat lb)), .val (.int vv), .val (.ref b29)] [(.ref b24), (.ref b29)])) _
    refine XS.iconst X40.here hx rfl (hb hby at_229) ?_
    exact k
  obtain ⟨cl41, Ar41, q141, q241, q341, q441, q541⟩ := id Vu5
  have hin41 : ¬ ((2 : Int32) < 0 ∨ cl41.slots.size ≤ ((2 : Int32)).toNatClampNeg) := inb_of q241 ⟨by decide, by decide⟩
  refine own_go (f' := (mkF m 231 #[.val (.int p0), .val (.int p1), .val (.int p2), .val (.ref b19), .val (.ref b24), .val (.int (Int32.ofNat oa)), .val (.int (Int32.ofNat la)), .val (.int (Int32.ofNat ob)), .val (.int (Int32.ofNat lb)), .val (.int vv), .val (.ref b29)] [(.int (us 2)), (.ref b29)])) (X40.iaload hx (j := (2 : Int32)) (v := (.int (us 2))) (by rw [e40]; exact Ar41.1) (State.isArrayOf_alike hZ.alike Ar41.2.1) Ar41.2.2 hin41 (Has.at q441 hin41 rfl) (g := (mkF m 230 #[.val (.int p0), .val (.int p1), .val (.int p2), .val (.ref b19), .val (.ref b24), .val (.int (Int32.ofNat oa)), .val (.int (Int32.ofNat la)), .val (.int (Int32.ofNat ob)), .val (.int (Int32.ofNat lb)), .val (.int vv), .val (.ref b29)] [(.int (2 : Int32)), (.ref b24), (.ref b29)])) rfl rfl (hb hby at_230)) ?_
  show Rch p e below _ T40 (mkF m 231 #[.val (.int p0), .val (.int p1), .val (.int p2), .val (.ref b19), .val (.ref b24), .val (.int (Int32.ofNat oa)), .val (.int (Int32.ofNat la)), .val (.int (Int32.ofNat ob)), .val (.int (Int32.ofNat lb)), .val (.int vv), .val (.ref b29)] [(.int (us 2)), (.ref b29)])
  obtain ⟨cq42, kq42, q42a, q42b, q42c⟩ := isOf hZ e40 Ex5
  obtain ⟨_, _, ⟨T42, L42, k42, n42⟩, -, X42, ⟨Lc42, hQ42, l42, y42, z42⟩, st42⟩ := X40.virtualBack hx (y := (⟨"com/example/leafweight/leafweight/codec/ByteCounts", "count", "(I)J"⟩ : MethodName)) (z := (⟨"com/example/leafweight/leafweight/codec/ByteCounts", "count", "(I)J"⟩ : MethodName)) hown (mvT hZ (hw _ (List.mem_of_getElem? (i := 27) rfl))) (mvT hZ (hw _ (List.mem_of_getElem? (i := 28) rfl))) (notFace_of_selects (args := #[]) (mvT hZ (hw _ (List.mem_of_getElem? (i := 30) rfl)))) (mvT hZ (hw _ (List.mem_of_getElem? (i := 30) rfl))) (mvT hZ (hw _ (List.mem_of_getElem? (i := 29) rfl))) (by decide) (backOf (W := 0) (rm6 l Z a0 hw [] b29 (us 2) ca kc ff h9 n0 z4 Fc5 Vc32 (hur 2 (by omega)).1 (hur 2 (by omega)).2) hZ (hw _ (List.mem_of_getElem? (i := 31) rfl)) (hw _ (List.mem_of_getElem? (i := 4) rfl)) (by decide) (by decide)) q42a q42c (g := (mkF m 231 #[.val (.int p0), .val (.int p1), .val (.int p2), .val (.ref b19), .val (.ref b24), .val (.int (Int32.ofNat oa)), .val (.int (Int32.ofNat la)), .val (.int (Int32.ofNat ob)), .val (.int (Int32.ofNat lb)), .val (.int vv), .val (.ref b29)] [(.int (us 2)), (.ref b29)])) rfl (by rw [hml]; rfl) (Steps.refl _) (argsL := [(.int (us 2))]) (rest := []) (lenOf pd__28I_29J rfl) rfl (by show 2 * 0 + _ ≤ _; exact Nat.le_of_eq rfl) (hb hby at_231) (fun _ _ => ⟨rfl, e40, (by decide : 4 + 0 ≤ _), (by decide : 265 + 0 ≤ _)⟩)
  dsimp only [Pt.U, Pt.locs, Pt.cells, Pt.slots] at X42 l42 y42 z42 st42 hQ42
  subst l42 y42 z42
  obtain ⟨rfl, N42q, e42⟩ := hQ42
  have N42 := Fr.app N40 N42q
  refine own_go2 st42 ?_
  show Rch p e below _ T42 (mkF m 234 #[.val (.int p0), .val (.int p1), .val (.int p2), .val (.ref b19), .val (.ref b24), .val (.int (Int32.ofNat oa)), .val (.int (Int32.ofNat la)), .val (.int (Int32.ofNat ob)), .val (.int (Int32.ofNat lb)), .val (.int vv), .val (.ref b29)] [(.long (ff (us 2).toNatClampNeg))])
  refine own_go (T := T42) (T' := T42) (f := (mkF m 234 #[.val (.int p0), .val (.int p1), .val (.int p2), .val (.ref b19), .val (.ref b24), .val (.int (Int32.ofNat oa)), .val (.int (Int32.ofNat la)), .val (.int (Int32.ofNat ob)), .val (.int (Int32.ofNat lb)), .val (.int vv), .val (.ref b29)] [(.long (ff (us 2).toNatClampNeg))])) (f' := (mkF m 239 #[.val (.int p0), .val (.int p1), .val (.int p2), .val (.ref b19), .val (.ref b24), .val (.int (Int32.ofNat oa)), .val (.int (Int32.ofNat la)), .val (.int (Int32.ofNat ob)), .val (.int (Int32.ofNat lb)), .val (.int vv), .val (.ref b29)] [(.int (2 : Int32)), (.ref b24), (.ref b24), (.long (ff (us 2).toNatClampNeg))])) (fun t k => ?_) ?_
  · show Steps p.tables e below (T42.setTop (mkF m 234 #[.val (.int p0), .val (.int p1), .val (.int p2), .val (.ref b19), .val (.ref b24), .val (.int (Int32.ofNat oa)), .val (.int (Int32.ofNat la)), .val (.int (Int32.ofNat ob)), .val (.int (Int32.ofNat lb)), .val (.int vv), .val (.ref b29)] [(.long (ff (us 2).toNatClampNeg))])) _
    refine XS.aload X42.here hx rfl (hb hby at_234) rfl rfl ?_
    show Steps p.tables e below (T42.setTop (mkF m 236 #[.val (.int p0), .val (.int p1), .val (.int p2), .val (.ref b19), .val (.ref b24), .val (.int (Int32.ofNat oa)), .val (.int (Int32.ofNat la)), .val (.int (Int32.ofNat ob)), .val (.int (Int32.ofNat lb)), .val (.int vv), .val (.ref b29)] [(.ref b24), (.long (ff (us 2).toNatClampNeg))])) _
    refine XS.aload X42.here hx rfl (hb hby at_236) rfl rfl ?_
    show Steps p.tables e below (T42.setTop (mkF m 238 #[.val (.int p0), .val (.int p1), .val (.int p2), .val (.ref b19), .val (.ref b24), .val (.int (Int32.ofNat oa)), .val (.int (Int32.ofNat la)), .val (.int (Int32.ofNat ob)), .val (.int (Int32.ofNat lb)), .val (.int vv), .val (.ref b29)] [(.ref b24), (.ref b24), (.long (ff (us 2).toNatClampNeg))])) _
    refine XS.iconst X42.here hx rfl (hb hby at_238) ?_
    exact k
  obtain ⟨cl43, Ar43, q143, q243, q343, q443, q543⟩ := id Vu5
  have hin43 : ¬ ((2 : Int32) < 0 ∨ cl43.slots.size ≤ ((2 : Int32)).toNatClampNeg) := inb_of q243 ⟨by decide, by decide⟩
  refine own_go (f' := (mkF m 240 #[.val (.int p0), .val (.int p1), .val (.int p2), .val (.ref b19), .val (.ref b24), .val (.int (Int32.ofNat oa)), .val (.int (Int32.ofNat la)), .val (.int (Int32.ofNat ob)), .val (.int (Int32.ofNat lb)), .val (.int vv), .val (.ref b29)] [(.int (us 2)), (.ref b24), (.long (ff (us 2).toNatClampNeg))])) (X42.iaload hx (j := (2 : Int32)) (v := (.int (us 2))) (by rw [e42]; exact Ar43.1) (State.isArrayOf_alike hZ.alike Ar43.2.1) Ar43.2.2 hin43 (Has.at q443 hin43 rfl) (g := (mkF m 239 #[.val (.int p0), .val (.int p1), .val (.int p2), .val (.ref b19), .val (.ref b24), .val (.int (Int32.ofNat oa)), .val (.int (Int32.ofNat la)), .val (.int (Int32.ofNat ob)), .val (.int (Int32.ofNat lb)), .val (.int vv), .val (.ref b29)] [(.int (2 : Int32)), (.ref b24), (.ref b24), (.long (ff (us 2).toNatClampNeg))])) rfl rfl (hb hby at_239)) ?_
  show Rch p e below _ T42 (mkF m 240 #[.val (.int p0), .val (.int p1), .val (.int p2), .val (.ref b19), .val (.ref b24), .val (.int (Int32.ofNat oa)), .val (.int (Int32.ofNat la)), .val (.int (Int32.ofNat ob)), .val (.int (Int32.ofNat lb)), .val (.int vv), .val (.ref b29)] [(.int (us 2)), (.ref b24), (.long (ff (us 2).toNatClampNeg))])
  refine own_go (T := T42) (T' := T42) (f := (mkF m 240 #[.val (.int p0), .val (.int p1), .val (.int p2), .val (.ref b19), .val (.ref b24), .val (.int (Int32.ofNat oa)), .val (.int (Int32.ofNat la)), .val (.int (Int32.ofNat ob)), .val (.int (Int32.ofNat lb)), .val (.int vv), .val (.ref b29)] [(.int (us 2)), (.ref b24), (.long (ff (us 2).toNatClampNeg))])) (f' := (mkF m 248 #[.val (.int p0), .val (.int p1), .val (.int p2), .val (.ref b19), .val (.ref b24), .val (.int (Int32.ofNat oa)), .val (.int (Int32.ofNat la)), .val (.int (Int32.ofNat ob)), .val (.int (Int32.ofNat lb)), .val (.int vv), .val (.ref b29)] [(.int (Int32.ofNat lb)), (.int (Int32.ofNat ob)), (.int (Int32.ofNat la)), (.int (Int32.ofNat oa)), (.int (us 2)), (.ref b24), (.long (ff (us 2).toNatClampNeg))])) (fun t k => ?_) ?_
  · show Steps p.tables e below (T42.setTop (mkF m 240 #[.val (.int p0), .val (.int p1), .val (.int p2), .val (.ref b19), .val (.ref b24), .val (.int (Int32.ofNat oa)), .val (.int (Int32.ofNat la)), .val (.int (Int32.ofNat ob)), .val (.int (Int32.ofNat lb)), .val (.int vv), .val (.ref b29)] [(.int (us 2)), (.ref b24), (.long (ff (us 2).toNatClampNeg))])) _
    refine XS.iload X42.here hx rfl (hb hby at_240) rfl ?_
    show Steps p.tables e below (T42.setTop (mkF m 242 #[.val (.int p0), .val (.int p1), .val (.int p2), .val (.ref b19), .val (.ref b24), .val (.int (Int32.ofNat oa)), .val (.int (Int32.ofNat la)), .val (.int (Int32.ofNat ob)), .val (.int (Int32.ofNat lb)), .val (.int vv), .val (.ref b29)] [(.int (Int32.ofNat oa)), (.int (us 2)), (.ref b24), (.long (ff (us 2).toNatClampNeg))])) _
    refine XS.iload X42.here hx rfl (hb hby at_242) rfl ?_
    show Steps p.tables e below (T42.setTop (mkF m 244 #[.val (.int p0), .val (.int p1), .val (.int p2), .val (.ref b19), .val (.ref b24), .val (.int (Int32.ofNat oa)), .val (.int (Int32.ofNat la)), .val (.int (Int32.ofNat ob)), .val (.int (Int32.ofNat lb)), .val (.int vv), .val (.ref b29)] [(.int (Int32.ofNat la)), (.int (Int32.ofNat oa)), (.int (us 2)), (.ref b24), (.long (ff (us 2).toNatClampNeg))])) _
    refine XS.iload X42.here hx rfl (hb hby at_244) rfl ?_
    show Steps p.tables e below (T42.setTop (mkF m 246 #[.val (.int p0), .val (.int p1), .val (.int p2), .val (.ref b19), .val (.ref b24), .val (.int (Int32.ofNat oa)), .val (.int (Int32.ofNat la)), .val (.int (Int32.ofNat ob)), .val (.int (Int32.ofNat lb)), .val (.int vv), .val (.ref b29)] [(.int (Int32.ofNat ob)), (.int (Int32.ofNat la)), (.int (Int32.ofNat oa)), (.int (us 2)), (.ref b24), (.long (ff (us 2).toNatClampNeg))])) _
    refine XS.iload X42.here hx rfl (hb hby at_246) rfl ?_
    exact k
  obtain ⟨_, _, ⟨T44, L44, k44, n44⟩, -, X44, ⟨Lc44, hQ44, l44, y44, z44⟩, st44⟩ := Jvm.LawKit.callS X42 hx (y := (⟨"com/example/leafweight/leafweight/codec/ByteCountsAddPinLaw", "expected", "([IIIIII)J"⟩ : MethodName)) hown (mvT hZ (hw _ (List.mem_of_getElem? (i := 32) rfl))) (mvT hZ (hw _ (List.mem_of_getElem? (i := 33) rfl))) (mvT hZ (hw _ (List.mem_of_getElem? (i := 34) rfl))) (mvT hZ (hw _ (List.mem_of_getElem? (i := 35) rfl))) (by decide) (backOf (W := 2) (rm7 l Z a0 hw [] b24 (us 2) (Int32.ofNat oa) (Int32.ofNat la) (Int32.ofNat ob) (Int32.ofNat lb) k24 us h9 n0 z4 Vu5) hZ (hw _ (List.mem_of_getElem? (i := 35) rfl)) (hw _ (List.mem_of_getElem? (i := 34) rfl)) (by decide) (by decide)) (g := (mkF m 248 #[.val (.int p0), .val (.int p1), .val (.int p2), .val (.ref b19), .val (.ref b24), .val (.int (Int32.ofNat oa)), .val (.int (Int32.ofNat la)), .val (.int (Int32.ofNat ob)), .val (.int (Int32.ofNat lb)), .val (.int vv), .val (.ref b29)] [(.int (Int32.ofNat lb)), (.int (Int32.ofNat ob)), (.int (Int32.ofNat la)), (.int (Int32.ofNat oa)), (.int (us 2)), (.ref b24), (.long (ff (us 2).toNatClampNeg))])) rfl (by rw [hml]; rfl) (argsL := [(.ref b24), (.int (us 2)), (.int (Int32.ofNat oa)), (.int (Int32.ofNat la)), (.int (Int32.ofNat ob)), (.int (Int32.ofNat lb))]) (rest := [(.long (ff (us 2).toNatClampNeg))]) (lenOf pd__28_5bIIIIII_29J rfl) rfl (by show 2 * 0 + _ ≤ _; exact Nat.le_of_eq rfl) (hb hby at_248) (fun _ _ => ⟨rfl, e42, (by decide : 4 + 0 ≤ _), (by decide : 265 + 0 ≤ _)⟩)
  dsimp only [Pt.U, Pt.locs, Pt.cells, Pt.slots] at X44 l44 y44 z44 st44 hQ44
  subst l44 y44 z44
  obtain ⟨rfl, N44q, e44⟩ := hQ44
  have N44 := Fr.app N42 N44q
  refine own_go st44 ?_
  show Rch p e below _ T44 (mkF m 251 #[.val (.int p0), .val (.int p1), .val (.int p2), .val (.ref b19), .val (.ref b24), .val (.int (Int32.ofNat oa)), .val (.int (Int32.ofNat la)), .val (.int (Int32.ofNat ob)), .val (.int (Int32.ofNat lb)), .val (.int vv), .val (.ref b29)] [(.long (own_exp us (us 2) (Int32.ofNat oa) (Int32.ofNat la) (Int32.ofNat ob) (Int32.ofNat lb))), (.long (ff (us 2).toNatClampNeg))])
  refine own_go (T := T44) (T' := T44) (f := (mkF m 251 #[.val (.int p0), .val (.int p1), .val (.int p2), .val (.ref b19), .val (.ref b24), .val (.int (Int32.ofNat oa)), .val (.int (Int32.ofNat la)), .val (.int (Int32.ofNat ob)), .val (.int (Int32.ofNat lb)), .val (.int vv), .val (.ref b29)] [(.long (own_exp us (us 2) (Int32.ofNat oa) (Int32.ofNat la) (Int32.ofNat ob) (Int32.ofNat lb))), (.long (ff (us 2).toNatClampNeg))])) (f' := (mkF m 252 #[.val (.int p0), .val (.int p1), .val (.int p2), .val (.ref b19), .val (.ref b24), .val (.int (Int32.ofNat oa)), .val (.int (Int32.ofNat la)), .val (.int (Int32.ofNat ob)), .val (.int (Int32.ofNat lb)), .val (.int vv), .val (.ref b29)] [(.int (lcmpW (ff (us 2).toNatClampNeg) (own_exp us (us 2) (Int32.ofNat oa) (Int32.ofNat la) (Int32.ofNat ob) (Int32.ofNat lb))))])) (fun t k => ?_) ?_
  · show Steps p.tables e below (T44.setTop (mkF m 251 #[.val (.int p0), .val (.int p1), .val (.int p2), .val (.ref b19), .val (.ref b24), .val (.int (Int32.ofNat oa)), .val (.int (Int32.ofNat la)), .val (.int (Int32.ofNat ob)), .val (.int (Int32.ofNat lb)), .val (.int vv), .val (.ref b29)] [(.long (own_exp us (us 2) (Int32.ofNat oa) (Int32.ofNat la) (Int32.ofNat ob) (Int32.ofNat lb))), (.long (ff (us 2).toNatClampNeg))])) _
    refine XS.lcmp X44.here hx rfl (hb hby at_251) rfl ?_
    exact k
  refine own_go (T := T44) (T' := T44) (f := (mkF m 252 #[.val (.int p0), .val (.int p1), .val (.int p2), .val (.ref b19), .val (.ref b24), .val (.int (Int32.ofNat oa)), .val (.int (Int32.ofNat la)), .val (.int (Int32.ofNat ob)), .val (.int (Int32.ofNat lb)), .val (.int vv), .val (.ref b29)] [(.int (lcmpW (ff (us 2).toNatClampNeg) (own_exp us (us 2) (Int32.ofNat oa) (Int32.ofNat la) (Int32.ofNat ob) (Int32.ofNat lb))))])) (f' := (mkF m 255 #[.val (.int p0), .val (.int p1), .val (.int p2), .val (.ref b19), .val (.ref b24), .val (.int (Int32.ofNat oa)), .val (.int (Int32.ofNat la)), .val (.int (Int32.ofNat ob)), .val (.int (Int32.ofNat lb)), .val (.int vv), .val (.ref b29)] [])) (fun t k => ?_) ?_
  · show Steps p.tables e below (T44.setTop (mkF m 252 #[.val (.int p0), .val (.int p1), .val (.int p2), .val (.ref b19), .val (.ref b24), .val (.int (Int32.ofNat oa)), .val (.int (Int32.ofNat la)), .val (.int (Int32.ofNat ob)), .val (.int (Int32.ofNat lb)), .val (.int vv), .val (.ref b29)] [(.int (lcmpW (ff (us 2).toNatClampNeg) (own_exp us (us 2) (Int32.ofNat oa) (Int32.ofNat la) (Int32.ofNat ob) (Int32.ofNat lb))))])) _
    refine XS.ifNo X44.here hx rfl (hb hby at_252) rfl ((if0 _ _).trans (teq (own_lc _ _ (hmain _ (hur 2 (by omega)).1))).2) ?_
    exact k
  refine own_go (T := T44) (T' := T44) (f := (mkF m 255 #[.val (.int p0), .val (.int p1), .val (.int p2), .val (.ref b19), .val (.ref b24), .val (.int (Int32.ofNat oa)), .val (.int (Int32.ofNat la)), .val (.int (Int32.ofNat ob)), .val (.int (Int32.ofNat lb)), .val (.int vv), .val (.ref b29)] [])) (f' := (mkF m 260 #[.val (.int p0), .val (.int p1), .val (.int p2), .val (.ref b19), .val (.ref b24), .val (.int (Int32.ofNat oa)), .val (.int (Int32.ofNat la)), .val (.int (Int32.ofNat ob)), .val (.int (Int32.ofNat lb)), .val (.int vv), .val (.ref b29)] [(.int (3 : Int32)), (.ref b24), (.ref b29)])) (fun t k => ?_) ?_
  · show Steps p.tables e below (T44.setTop (mkF m 255 #[.val (.int p0), .val (.int p1), .val (.int p2), .val (.ref b19), .val (.ref b24), .val (.int (Int32.ofNat oa)), .val (.int (Int32.ofNat la)), .val (.int (Int32.ofNat ob)), .val (.int (Int32.ofNat lb)), .val (.int vv), .val (.ref b29)] [])) _
    refine XS.aload X44.here hx rfl (hb hby at_255) rfl rfl ?_
    show Steps p.tables e below (T44.setTop (mkF m 257 #[.val (.int p0), .val (.int p1), .val (.int p2), .val (.ref b19), .val (.ref b24), .val (.int (Int32.ofNat oa)), .val (.int (Int32.ofNat la)), .val (.int (Int32.ofNat ob)), .val (.int (Int32.ofNat lb)), .val (.int vv), .val (.ref b29)] [(.ref b29)])) _
    refine XS.aload X44.here hx rfl (hb hby at_257) rfl rfl ?_
    show Steps p.tables e below (T44.setTop (mkF m 259 #[.val (.int p0), .val (.int p1), .val (.int p2), .val (.ref b19), .val (.ref b24), .val (.int (Int32.ofNat oa)), .val (.int (Int32.ofNat la)), .val (.int (Int32.ofNat ob)), .val (.int (Int32.ofNat lb)), .val (.int vv), .val (.ref b29)] [(.ref b24), (.ref b29)])) _
    refine XS.iconst X44.here hx rfl (hb hby at_259) ?_
    exact k
  obtain ⟨cl45, Ar45, q145, q245, q345, q445, q545⟩ := id Vu5
  have hin45 : ¬ ((3 : Int32) < 0 ∨ cl45.slots.size ≤ ((3 : Int32)).toNatClampNeg) := inb_of q245 ⟨by decide, by decide⟩
  refine own_go (f' := (mkF m 261 #[.val (.int p0), .val (.int p1), .val (.int p2), .val (.ref b19), .val (.ref b24), .val (.int (Int32.ofNat oa)), .val (.int (Int32.ofNat la)), .val (.int (Int32.ofNat ob)), .val (.int (Int32.ofNat lb)), .val (.int vv), .val (.ref b29)] [(.int (us 3)), (.ref b29)])) (X44.iaload hx (j := (3 : Int32)) (v := (.int (us 3))) (by rw [e44]; exact Ar45.1) (State.isArrayOf_alike hZ.alike Ar45.2.1) Ar45.2.2 hin45 (Has.at q445 hin45 rfl) (g := (mkF m 260 #[.val (.int p0), .val (.int p1), .val (.int p2), .val (.ref b19), .val (.ref b24), .val (.int (Int32.ofNat oa)), .val (.int (Int32.ofNat la)), .val (.int (Int32.ofNat ob)), .val (.int (Int32.ofNat lb)), .val (.int vv), .val (.ref b29)] [(.int (3 : Int32)), (.ref b24), (.ref b29)])) rfl rfl (hb hby at_260)) ?_
  show Rch p e below _ T44 (mkF m 261 #[.val (.int p0), .val (.int p1), .val (.int p2), .val (.ref b19), .val (.ref b24), .val (.int (Int32.ofNat oa)), .val (.int (Int32.ofNat la)), .val (.int (Int32.ofNat ob)), .val (.int (Int32.ofNat lb)), .val (.int vv), .val (.ref b29)] [(.int (us 3)), (.ref b29)])
  obtain ⟨cq46, kq46, q46a, q46b, q46c⟩ := isOf hZ e44 Ex5
  obtain ⟨_, _, ⟨T46, L46, k46, n46⟩, -, X46, ⟨Lc46, hQ46, l46, y46, z46⟩, st46⟩ := X44.virtualBack hx (y := (⟨"com/example/leafweight/leafweight/codec/ByteCounts", "count", "(I)J"⟩ : MethodName)) (z := (⟨"com/example/leafweight/leafweight/codec/ByteCounts", "count", "(I)J"⟩ : MethodName)) hown (mvT hZ (hw _ (List.mem_of_getElem? (i := 27) rfl))) (mvT hZ (hw _ (List.mem_of_getElem? (i := 28) rfl))) (notFace_of_selects (args := #[]) (mvT hZ (hw _ (List.mem_of_getElem? (i := 30) rfl)))) (mvT hZ (hw _ (List.mem_of_getElem? (i := 30) rfl))) (mvT hZ (hw _ (List.mem_of_getElem? (i := 29) rfl))) (by decide) (backOf (W := 0) (rm6 l Z a0 hw [] b29 (us 3) ca kc ff h9 n0 z4 Fc5 Vc32 (hur 3 (by omega)).1 (hur 3 (by omega)).2) hZ (hw _ (List.mem_of_getElem? (i := 31) rfl)) (hw _ (List.mem_of_getElem? (i := 4) rfl)) (by decide) (by decide)) q46a q46c (g := (mkF m 261 #[.val (.int p0), .val (.int p1), .val (.int p2), .val (.ref b19), .val (.ref b24), .val (.int (Int32.ofNat oa)), .val (.int (Int32.ofNat la)), .val (.int (Int32.ofNat ob)), .val (.int (Int32.ofNat lb)), .val (.int vv), .val (.ref b29)] [(.int (us 3)), (.ref b29)])) rfl (by rw [hml]; rfl) (Steps.refl _) (argsL := [(.int (us 3))]) (rest := []) (lenOf pd__28I_29J rfl) rfl (by show 2 * 0 + _ ≤ _; exact Nat.le_of_eq rfl) (hb hby at_261) (fun _ _ => ⟨rfl, e44, (by decide : 4 + 0 ≤ _), (by decide : 265 + 0 ≤ _)⟩)
  dsimp only [Pt.U, Pt.locs, Pt.cells, Pt.slots] at X46 l46 y46 z46 st46 hQ46
  subst l46 y46 z46
  obtain ⟨rfl, N46q, e46⟩ := hQ46
  have N46 := Fr.app N44 N46q
  refine own_go2 st46 ?_
  show Rch p e below _ T46 (mkF m 264 #[.val (.int p0), .val (.int p1), .val (.int p2), .val (.ref b19), .val (.ref b24), .val (.int (Int32.ofNat oa)), .val (.int (Int32.ofNat la)), .val (.int (Int32.ofNat ob)), .val (.int (Int32.ofNat lb)), .val (.int vv), .val (.ref b29)] [(.long (ff (us 3).toNatClampNeg))])
  refine own_go (T := T46) (T' := T46) (f := (mkF m 264 #[.val (.int p0), .val (.int p1), .val (.int p2), .val (.ref b19), .val (.ref b24), .val (.int (Int32.ofNat oa)), .val (.int (Int32.ofNat la)), .val (.int (Int32.ofNat ob)), .val (.int (Int32.ofNat lb)), .val (.int vv), .val (.ref b29)] [(.long (ff (us 3).toNatClampNeg))])) (f' := (mkF m 269 #[.val (.int p0), .val (.int p1), .val (.int p2), .val (.ref b19), .val (.ref b24), .val (.int (Int32.ofNat oa)), .val (.int (Int32.ofNat la)), .val (.int (Int32.ofNat ob)), .val (.int (Int32.ofNat lb)), .val (.int vv), .val (.ref b29)] [(.int (3 : Int32)), (.ref b24), (.ref b24), (.long (ff (us 3).toNatClampNeg))])) (fun t k => ?_) ?_
  · show Steps p.tables e below (T46.setTop (mkF m 264 #[.val (.int p0), .val (.int p1), .val (.int p2), .val (.ref b19), .val (.ref b24), .val (.int (Int32.ofNat oa)), .val (.int (Int32.ofNat la)), .val (.int (Int32.ofNat ob)), .val (.int (Int32.ofNat lb)), .val (.int vv), .val (.ref b29)] [(.long (ff (us 3).toNatClampNeg))])) _
    refine XS.aload X46.here hx rfl (hb hby at_264) rfl rfl ?_
    show Steps p.tables e below (T46.setTop (mkF m 266 #[.val (.int p0), .val (.int p1), .val (.int p2), .val (.ref b19), .val (.ref b24), .val (.int (Int32.ofNat oa)), .val (.int (Int32.ofNat la)), .val (.int (Int32.ofNat ob)), .val (.int (Int32.ofNat lb)), .val (.int vv), .val (.ref b29)] [(.ref b24), (.long (ff (us 3).toNatClampNeg))])) _
    refine XS.aload X46.here hx rfl (hb hby at_266) rfl rfl ?_
    show Steps p.tables e below (T46.setTop (mkF m 268 #[.val (.int p0), .val (.int p1), .val (.int p2), .val (.ref b19), .val (.ref b24), .val (.int (Int32.ofNat oa)), .val (.int (Int32.ofNat la)), .val (.int (Int32.ofNat ob)), .val (.int (Int32.ofNat lb)), .val (.int vv), .val (.ref b29)] [(.ref b24), (.ref b24), (.long (ff (us 3).toNatClampNeg))])) _
    refine XS.iconst X46.here hx rfl (hb hby at_268) ?_
    exact k
  obtain ⟨cl47, Ar47, q147, q247, q347, q447, q547⟩ := id Vu5
  have hin47 : ¬ ((3 : Int32) < 0 ∨ cl47.slots.size ≤ ((3 : Int32)).toNatClampNeg) := inb_of q247 ⟨by decide, by decide⟩
  refine own_go (f' := (mkF m 270 #[.val (.int p0), .val (.int p1), .val (.int p2), .val (.ref b19), .val (.ref b24), .val (.int (Int32.ofNat oa)), .val (.int (Int32.ofNat la)), .val (.int (Int32.ofNat ob)), .val (.int (Int32.ofNat lb)), .val (.int vv), .val (.ref b29)] [(.int (us 3)), (.ref b24), (.long (ff (us 3).toNatClampNeg))])) (X46.iaload hx (j := (3 : Int32)) (v := (.int (us 3))) (by rw [e46]; exact Ar47.1) (State.isArrayOf_alike hZ.alike Ar47.2.1) Ar47.2.2 hin47 (Has.at q447 hin47 rfl) (g := (mkF m 269 #[.val (.int p0), .val (.int p1), .val (.int p2), .val (.ref b19), .val (.ref b24), .val (.int (Int32.ofNat oa)), .val (.int (Int32.ofNat la)), .val (.int (Int32.ofNat ob)), .val (.int (Int32.ofNat lb)), .val (.int vv), .val (.ref b29)] [(.int (3 : Int32)), (.ref b24), (.ref b24), (.long (ff (us 3).toNatClampNeg))])) rfl rfl (hb hby at_269)) ?_
  show Rch p e below _ T46 (mkF m 270 #[.val (.int p0), .val (.int p1), .val (.int p2), .val (.ref b19), .val (.ref b24), .val (.int (Int32.ofNat oa)), .val (.int (Int32.ofNat la)), .val (.int (Int32.ofNat ob)), .val (.int (Int32.ofNat lb)), .val (.int vv), .val (.ref b29)] [(.int (us 3)), (.ref b24), (.long (ff (us 3).toNatClampNeg))])
  refine own_go (T := T46) (T' := T46) (f := (mkF m 270 #[.val (.int p0), .val (.int p1), .val (.int p2), .val (.ref b19), .val (.ref b24), .val (.int (Int32.ofNat oa)), .val (.int (Int32.ofNat la)), .val (.int (Int32.ofNat ob)), .val (.int (Int32.ofNat lb)), .val (.int vv), .val (.ref b29)] [(.int (us 3)), (.ref b24), (.long (ff (us 3).toNatClampNeg))])) (f' := (mkF m 278 #[.val (.int p0), .val (.int p1), .val (.int p2), .val (.ref b19), .val (.ref b24), .val (.int (Int32.ofNat oa)), .val (.int (Int32.ofNat la)), .val (.int (Int32.ofNat ob)), .val (.int (Int32.ofNat lb)), .val (.int vv), .val (.ref b29)] [(.int (Int32.ofNat lb)), (.int (Int32.ofNat ob)), (.int (Int32.ofNat la)), (.int (Int32.ofNat oa)), (.int (us 3)), (.ref b24), (.long (ff (us 3).toNatClampNeg))])) (fun t k => ?_) ?_
  · show Steps p.tables e below (T46.setTop (mkF m 270 #[.val (.int p0), .val (.int p1), .val (.int p2), .val (.ref b19), .val (.ref b24), .val (.int (Int32.ofNat oa)), .val (.int (Int32.ofNat la)), .val (.int (Int32.ofNat ob)), .val (.int (Int32.ofNat lb)), .val (.int vv), .val (.ref b29)] [(.int (us 3)), (.ref b24), (.long (ff (us 3).toNatClampNeg))])) _
    refine XS.iload X46.here hx rfl (hb hby at_270) rfl ?_
    show Steps p.tables e below (T46.setTop (mkF m 272 #[.val (.int p0), .val (.int p1), .val (.int p2), .val (.ref b19), .val (.ref b24), .val (.int (Int32.ofNat oa)), .val (.int (Int32.ofNat la)), .val (.int (Int32.ofNat ob)), .val (.int (Int32.ofNat lb)), .val (.int vv), .val (.ref b29)] [(.int (Int32.ofNat oa)), (.int (us 3)), (.ref b24), (.long (ff (us 3).toNatClampNeg))])) _
    refine XS.iload X46.here hx rfl (hb hby at_272) rfl ?_
    show Steps p.tables e below (T46.setTop (mkF m 274 #[.val (.int p0), .val (.int p1), .val (.int p2), .val (.ref b19), .val (.ref b24), .val (.int (Int32.ofNat oa)), .val (.int (Int32.ofNat la)), .val (.int (Int32.ofNat ob)), .val (.int (Int32.ofNat lb)), .val (.int vv), .val (.ref b29)] [(.int (Int32.ofNat la)), (.int (Int32.ofNat oa)), (.int (us 3)), (.ref b24), (.long (ff (us 3).toNatClampNeg))])) _
    refine XS.iload X46.here hx rfl (hb hby at_274) rfl ?_
    show Steps p.tables e below (T46.setTop (mkF m 276 #[.val (.int p0), .val (.int p1), .val (.int p2), .val (.ref b19), .val (.ref b24), .val (.int (Int32.ofNat oa)), .val (.int (Int32.ofNat la)), .val (.int (Int32.ofNat ob)), .val (.int (Int32.ofNat lb)), .val (.int vv), .val (.ref b29)] [(.int (Int32.ofNat ob)), (.int (Int32.ofNat la)), (.int (Int32.ofNat oa)), (.int (us 3)), (.ref b24), (.long (ff (us 3).toNatClampNeg))])) _
    refine XS.iload X46.here hx rfl (hb hby at_276) rfl ?_
    exact k
  obtain ⟨_, _, ⟨T48, L48, k48, n48⟩, -, X48, ⟨Lc48, hQ48, l48, y48, z48⟩, st48⟩ := Jvm.LawKit.callS X46 hx (y := (⟨"com/example/leafweight/leafweight/codec/ByteCountsAddPinLaw", "expected", "([IIIIII)J"⟩ : MethodName)) hown (mvT hZ (hw _ (List.mem_of_getElem? (i := 32) rfl))) (mvT hZ (hw _ (List.mem_of_getElem? (i := 33) rfl))) (mvT hZ (hw _ (List.mem_of_getElem? (i := 34) rfl))) (mvT hZ (hw _ (List.mem_of_getElem? (i := 35) rfl))) (by decide) (backOf (W := 2) (rm7 l Z a0 hw [] b24 (us 3) (Int32.ofNat oa) (Int32.ofNat la) (Int32.ofNat ob) (Int32.ofNat lb) k24 us h9 n0 z4 Vu5) hZ (hw _ (List.mem_of_getElem? (i := 35) rfl)) (hw _ (List.mem_of_getElem? (i := 34) rfl)) (by decide) (by decide)) (g := (mkF m 278 #[.val (.int p0), .val (.int p1), .val (.int p2), .val (.ref b19), .val (.ref b24), .val (.int (Int32.ofNat oa)), .val (.int (Int32.ofNat la)), .val (.int (Int32.ofNat ob)), .val (.int (Int32.ofNat lb)), .val (.int vv), .val (.ref b29)] [(.int (Int32.ofNat lb)), (.int (Int32.ofNat ob)), (.int (Int32.ofNat la)), (.int (Int32.ofNat oa)), (.int (us 3)), (.ref b24), (.long (ff (us 3).toNatClampNeg))])) rfl (by rw [hml]; rfl) (argsL := [(.ref b24), (.int (us 3)), (.int (Int32.ofNat oa)), (.int (Int32.ofNat la)), (.int (Int32.ofNat ob)), (.int (Int32.ofNat lb))]) (rest := [(.long (ff (us 3).toNatClampNeg))]) (lenOf pd__28_5bIIIIII_29J rfl) rfl (by show 2 * 0 + _ ≤ _; exact Nat.le_of_eq rfl) (hb hby at_278) (fun _ _ => ⟨rfl, e46, (by decide : 4 + 0 ≤ _), (by decide : 265 + 0 ≤ _)⟩)
  dsimp only [Pt.U, Pt.locs, Pt.cells, Pt.slots] at X48 l48 y48 z48 st48 hQ48
  subst l48 y48 z48
  obtain ⟨rfl, N48q, e48⟩ := hQ48
  have N48 := Fr.app N46 N48q
  refine own_go st48 ?_
  show Rch p e below _ T48 (mkF m 281 #[.val (.int p0), .val (.int p1), .val (.int p2), .val (.ref b19), .val (.ref b24), .val (.int (Int32.ofNat oa)), .val (.int (Int32.ofNat la)), .val (.int (Int32.ofNat ob)), .val (.int (Int32.ofNat lb)), .val (.int vv), .val (.ref b29)] [(.long (own_exp us (us 3) (Int32.ofNat oa) (Int32.ofNat la) (Int32.ofNat ob) (Int32.ofNat lb))), (.long (ff (us 3).toNatClampNeg))])
  refine own_go (T := T48) (T' := T48) (f := (mkF m 281 #[.val (.int p0), .val (.int p1), .val (.int p2), .val (.ref b19), .val (.ref b24), .val (.int (Int32.ofNat oa)), .val (.int (Int32.ofNat la)), .val (.int (Int32.ofNat ob)), .val (.int (Int32.ofNat lb)), .val (.int vv), .val (.ref b29)] [(.long (own_exp us (us 3) (Int32.ofNat oa) (Int32.ofNat la) (Int32.ofNat ob) (Int32.ofNat lb))), (.long (ff (us 3).toNatClampNeg))])) (f' := (mkF m 282 #[.val (.int p0), .val (.int p1), .val (.int p2), .val (.ref b19), .val (.ref b24), .val (.int (Int32.ofNat oa)), .val (.int (Int32.ofNat la)), .val (.int (Int32.ofNat ob)), .val (.int (Int32.ofNat lb)), .val (.int vv), .val (.ref b29)] [(.int (lcmpW (ff (us 3).toNatClampNeg) (own_exp us (us 3) (Int32.ofNat oa) (Int32.ofNat la) (Int32.ofNat ob) (Int32.ofNat lb))))])) (fun t k => ?_) ?_
  · show Steps p.tables e below (T48.setTop (mkF m 281 #[.val (.int p0), .val (.int p1), .val (.int p2), .val (.ref b19), .val (.ref b24), .val (.int (Int32.ofNat oa)), .val (.int (Int32.ofNat la)), .val (.int (Int32.ofNat ob)), .val (.int (Int32.ofNat lb)), .val (.int vv), .val (.ref b29)] [(.long (own_exp us (us 3) (Int32.ofNat oa) (Int32.ofNat la) (Int32.ofNat ob) (Int32.ofNat lb))), (.long (ff (us 3).toNatClampNeg))])) _
    refine XS.lcmp X48.here hx rfl (hb hby at_281) rfl ?_
    exact k
  refine own_go (T := T48) (T' := T48) (f := (mkF m 282 #[.val (.int p0), .val (.int p1), .val (.int p2), .val (.ref b19), .val (.ref b24), .val (.int (Int32.ofNat oa)), .val (.int (Int32.ofNat la)), .val (.int (Int32.ofNat ob)), .val (.int (Int32.ofNat lb)), .val (.int vv), .val (.ref b29)] [(.int (lcmpW (ff (us 3).toNatClampNeg) (own_exp us (us 3) (Int32.ofNat oa) (Int32.ofNat la) (Int32.ofNat ob) (Int32.ofNat lb))))])) (f' := (mkF m 285 #[.val (.int p0), .val (.int p1), .val (.int p2), .val (.ref b19), .val (.ref b24), .val (.int (Int32.ofNat oa)), .val (.int (Int32.ofNat la)), .val (.int (Int32.ofNat ob)), .val (.int (Int32.ofNat lb)), .val (.int vv), .val (.ref b29)] [])) (fun t k => ?_) ?_
  · show Steps p.tables e below (T48.setTop (mkF m 282 #[.val (.int p0), .val (.int p1), .val (.int p2), .val (.ref b19), .val (.ref b24), .val (.int (Int32.ofNat oa)), .val (.int (Int32.ofNat la)), .val (.int (Int32.ofNat ob)), .val (.int (Int32.ofNat lb)), .val (.int vv), .val (.ref b29)] [(.int (lcmpW (ff (us 3).toNatClampNeg) (own_exp us (us 3) (Int32.ofNat oa) (Int32.ofNat la) (Int32.ofNat ob) (Int32.ofNat lb))))])) _
    refine XS.ifNo X48.here hx rfl (hb hby at_282) rfl ((if0 _ _).trans (teq (own_lc _ _ (hmain _ (hur 3 (by omega)).1))).2) ?_
    exact k
  refine own_go (T := T48) (T' := T48) (f := (mkF m 285 #[.val (.int p0), .val (.int p1), .val (.int p2), .val (.ref b19), .val (.ref b24), .val (.int (Int32.ofNat oa)), .val (.int (Int32.ofNat la)), .val (.int (Int32.ofNat ob)), .val (.int (Int32.ofNat lb)), .val (.int vv), .val (.ref b29)] [])) (f' := (mkF m 289 #[.val (.int p0), .val (.int p1), .val (.int p2), .val (.ref b19), .val (.ref b24), .val (.int (Int32.ofNat oa)), .val (.int (Int32.ofNat la)), .val (.int (Int32.ofNat ob)), .val (.int (Int32.ofNat lb)), .val (.int vv), .val (.ref b29)] [(.int vv), (.ref b29)])) (fun t k => ?_) ?_
  · show Steps p.tables e below (T48.setTop (mkF m 285 #[.val (.int p0), .val (.int p1), .val (.int p2), .val (.ref b19), .val (.ref b24), .val (.int (Int32.ofNat oa)), .val (.int (Int32.ofNat la)), .val (.int (Int32.ofNat ob)), .val (.int (Int32.ofNat lb)), .val (.int vv), .val (.ref b29)] [])) _
    refine XS.aload X48.here hx rfl (hb hby at_285) rfl rfl ?_
    show Steps p.tables e below (T48.setTop (mkF m 287 #[.val (.int p0), .val (.int p1), .val (.int p2), .val (.ref b19), .val (.ref b24), .val (.int (Int32.ofNat oa)), .val (.int (Int32.ofNat la)), .val (.int (Int32.ofNat ob)), .val (.int (Int32.ofNat lb)), .val (.int vv), .val (.ref b29)] [(.ref b29)])) _
    refine XS.iload X48.here hx rfl (hb hby at_287) rfl ?_
    exact k
  obtain ⟨cq49, kq49, q49a, q49b, q49c⟩ := isOf hZ e48 Ex5
  obtain ⟨_, _, ⟨T49, L49, k49, n49⟩, -, X49, ⟨Lc49, hQ49, l49, y49, z49⟩, st49⟩ := X48.virtualBack hx (y := (⟨"com/example/leafweight/leafweight/codec/ByteCounts", "count", "(I)J"⟩ : MethodName)) (z := (⟨"com/example/leafweight/leafweight/codec/ByteCounts", "count", "(I)J"⟩ : MethodName)) hown (mvT hZ (hw _ (List.mem_of_getElem? (i := 27) rfl))) (mvT hZ (hw _ (List.mem_of_getElem? (i := 28) rfl))) (notFace_of_selects (args := #[]) (mvT hZ (hw _ (List.mem_of_getElem? (i := 30) rfl)))) (mvT hZ (hw _ (List.mem_of_getElem? (i := 30) rfl))) (mvT hZ (hw _ (List.mem_of_getElem? (i := 29) rfl))) (by decide) (backOf (W := 0) (rm6 l Z a0 hw [] b29 vv ca kc ff h9 n0 z4 Fc5 Vc32 hvr.1 hvr.2) hZ (hw _ (List.mem_of_getElem? (i := 31) rfl)) (hw _ (List.mem_of_getElem? (i := 4) rfl)) (by decide) (by decide)) q49a q49c (g := (mkF m 289 #[.val (.int p0), .val (.int p1), .val (.int p2), .val (.ref b19), .val (.ref b24), .val (.int (Int32.ofNat oa)), .val (.int (Int32.ofNat la)), .val (.int (Int32.ofNat ob)), .val (.int (Int32.ofNat lb)), .val (.int vv), .val (.ref b29)] [(.int vv), (.ref b29)])) rfl (by rw [hml]; rfl) (Steps.refl _) (argsL := [(.int vv)]) (rest := []) (lenOf pd__28I_29J rfl) rfl (by show 2 * 0 + _ ≤ _; exact Nat.le_of_eq rfl) (hb hby at_289) (fun _ _ => ⟨rfl, e48, (by decide : 4 + 0 ≤ _), (by decide : 265 + 0 ≤ _)⟩)
  dsimp only [Pt.U, Pt.locs, Pt.cells, Pt.slots] at X49 l49 y49 z49 st49 hQ49
  subst l49 y49 z49
  obtain ⟨rfl, N49q, e49⟩ := hQ49
  have N49 := Fr.app N48 N49q
  refine own_go2 st49 ?_
  show Rch p e below _ T49 (mkF m 292 #[.val (.int p0), .val (.int p1), .val (.int p2), .val (.ref b19), .val (.ref b24), .val (.int (Int32.ofNat oa)), .val (.int (Int32.ofNat la)), .val (.int (Int32.ofNat ob)), .val (.int (Int32.ofNat lb)), .val (.int vv), .val (.ref b29)] [(.long (ff vv.toNatClampNeg))])
  refine own_go (T := T49) (T' := T49) (f := (mkF m 292 #[.val (.int p0), .val (.int p1), .val (.int p2), .val (.ref b19), .val (.ref b24), .val (.int (Int32.ofNat oa)), .val (.int (Int32.ofNat la)), .val (.int (Int32.ofNat ob)), .val (.int (Int32.ofNat lb)), .val (.int vv), .val (.ref b29)] [(.long (ff vv.toNatClampNeg))])) (f' := (mkF m 304 #[.val (.int p0), .val (.int p1), .val (.int p2), .val (.ref b19), .val (.ref b24), .val (.int (Int32.ofNat oa)), .val (.int (Int32.ofNat la)), .val (.int (Int32.ofNat ob)), .val (.int (Int32.ofNat lb)), .val (.int vv), .val (.ref b29)] [(.int (Int32.ofNat lb)), (.int (Int32.ofNat ob)), (.int (Int32.ofNat la)), (.int (Int32.ofNat oa)), (.int vv), (.ref b24), (.long (ff vv.toNatClampNeg))])) (fun t k => ?_) ?_
  · show Steps p.tables e below (T49.setTop (mkF m 292 #[.val (.int p0), .val (.int p1), .val (.int p2), .val (.ref b19), .val (.ref b24), .val (.int (Int32.ofNat oa)), .val (.int (Int32.ofNat la)), .val (.int (Int32.ofNat ob)), .val (.int (Int32.ofNat lb)), .val (.int vv), .val (.ref b29)] [(.long (ff vv.toNatClampNeg))])) _
    refine XS.aload X49.here hx rfl (hb hby at_292) rfl rfl ?_
    show Steps p.tables e below (T49.setTop (mkF m 294 #[.val (.int p0), .val (.int p1), .val (.int p2), .val (.ref b19), .val (.ref b24), .val (.int (Int32.ofNat oa)), .val (.int (Int32.ofNat la)), .val (.int (Int32.ofNat ob)), .val (.int (Int32.ofNat lb)), .val (.int vv), .val (.ref b29)] [(.ref b24), (.long (ff vv.toNatClampNeg))])) _
    refine XS.iload X49.here hx rfl (hb hby at_294) rfl ?_
    show Steps p.tables e below (T49.setTop (mkF m 296 #[.val (.int p0), .val (.int p1), .val (.int p2), .val (.ref b19), .val (.ref b24), .val (.int (Int32.ofNat oa)), .val (.int (Int32.ofNat la)), .val (.int (Int32.ofNat ob)), .val (.int (Int32.ofNat lb)), .val (.int vv), .val (.ref b29)] [(.int vv), (.ref b24), (.long (ff vv.toNatClampNeg))])) _
    refine XS.iload X49.here hx rfl (hb hby at_296) rfl ?_
    show Steps p.tables e below (T49.setTop (mkF m 298 #[.val (.int p0), .val (.int p1), .val (.int p2), .val (.ref b19), .val (.ref b24), .val (.int (Int32.ofNat oa)), .val (.int (Int32.ofNat la)), .val (.int (Int32.ofNat ob)), .val (.int (Int32.ofNat lb)), .val (.int vv), .val (.ref b29)] [(.int (Int32.ofNat oa)), (.int vv), (.ref b24), (.long (ff vv.toNatClampNeg))])) _
    refine XS.iload X49.here hx rfl (hb hby at_298) rfl ?_
    show Steps p.tables e below (T49.setTop (mkF m 300 #[.val (.int p0), .val (.int p1), .val (.int p2), .val (.ref b19), .val (.ref b24), .val (.int (Int32.ofNat oa)), .val (.int (Int32.ofNat la)), .val (.int (Int32.ofNat ob)), .val (.int (Int32.ofNat lb)), .val (.int vv), .val (.ref b29)] [(.int (Int32.ofNat la)), (.int (Int32.ofNat oa)), (.int vv), (.ref b24), (.long (ff vv.toNatClampNeg))])) _
    refine XS.iload X49.here hx rfl (hb hby at_300) rfl ?_
    show Steps p.tables e below (T49.setTop (mkF m 302 #[.val (.int p0), .val (.int p1), .val (.int p2), .val (.ref b19), .val (.ref b24), .val (.int (Int32.ofNat oa)), .val (.int (Int32.ofNat la)), .val (.int (Int32.ofNat ob)), .val (.int (Int32.ofNat lb)), .val (.int vv), .val (.ref b29)] [(.int (Int32.ofNat ob)), (.int (Int32.ofNat la)), (.int (Int32.ofNat oa)), (.int vv), (.ref b24), (.long (ff vv.toNatClampNeg))])) _
    refine XS.iload X49.here hx rfl (hb hby at_302) rfl ?_
    exact k
  obtain ⟨_, _, ⟨T50, L50, k50, n50⟩, -, X50, ⟨Lc50, hQ50, l50, y50, z50⟩, st50⟩ := Jvm.LawKit.callS X49 hx (y := (⟨"com/example/leafweight/leafweight/codec/ByteCountsAddPinLaw", "expected", "([IIIIII)J"⟩ : MethodName)) hown (mvT hZ (hw _ (List.mem_of_getElem? (i := 32) rfl))) (mvT hZ (hw _ (List.mem_of_getElem? (i := 33) rfl))) (mvT hZ (hw _ (List.mem_of_getElem? (i := 34) rfl))) (mvT hZ (hw _ (List.mem_of_getElem? (i := 35) rfl))) (by decide) (backOf (W := 2) (rm7 l Z a0 hw [] b24 vv (Int32.ofNat oa) (Int32.ofNat la) (Int32.ofNat ob) (Int32.ofNat lb) k24 us h9 n0 z4 Vu5) hZ (hw _ (List.mem_of_getElem? (i := 35) rfl)) (hw _ (List.mem_of_getElem? (i := 34) rfl)) (by decide) (by decide)) (g := (mkF m 304 #[.val (.int p0), .val (.int p1), .val (.int p2), .val (.ref b19), .val (.ref b24), .val (.int (Int32.ofNat oa)), .val (.int (Int32.ofNat la)), .val (.int (Int32.ofNat ob)), .val (.int (Int32.ofNat lb)), .val (.int vv), .val (.ref b29)] [(.int (Int32.ofNat lb)), (.int (Int32.ofNat ob)), (.int (Int32.ofNat la)), (.int (Int32.ofNat oa)), (.int vv), (.ref b24), (.long (ff vv.toNatClampNeg))])) rfl (by rw [hml]; rfl) (argsL := [(.ref b24), (.int vv), (.int (Int32.ofNat oa)), (.int (Int32.ofNat la)), (.int (Int32.ofNat ob)), (.int (Int32.ofNat lb))]) (rest := [(.long (ff vv.toNatClampNeg))]) (lenOf pd__28_5bIIIIII_29J rfl) rfl (by show 2 * 0 + _ ≤ _; exact Nat.le_of_eq rfl) (hb hby at_304) (fun _ _ => ⟨rfl, e49, (by decide : 4 + 0 ≤ _), (by decide : 265 + 0 ≤ _)⟩)
  dsimp only [Pt.U, Pt.locs, Pt.cells, Pt.slots] at X50 l50 y50 z50 st50 hQ50
  subst l50 y50 z50
  obtain ⟨rfl, N50q, e50⟩ := hQ50
  have N50 := Fr.app N49 N50q
  refine own_go st50 ?_
  show Rch p e below _ T50 (mkF m 307 #[.val (.int p0), .val (.int p1), .val (.int p2), .val (.ref b19), .val (.ref b24), .val (.int (Int32.ofNat oa)), .val (.int (Int32.ofNat la)), .val (.int (Int32.ofNat ob)), .val (.int (Int32.ofNat lb)), .val (.int vv), .val (.ref b29)] [(.long (own_exp us vv (Int32.ofNat oa) (Int32.ofNat la) (Int32.ofNat ob) (Int32.ofNat lb))), (.long (ff vv.toNatClampNeg))])
  refine own_go (T := T50) (T' := T50) (f := (mkF m 307 #[.val (.int p0), .val (.int p1), .val (.int p2), .val (.ref b19), .val (.ref b24), .val (.int (Int32.ofNat oa)), .val (.int (Int32.ofNat la)), .val (.int (Int32.ofNat ob)), .val (.int (Int32.ofNat lb)), .val (.int vv), .val (.ref b29)] [(.long (own_exp us vv (Int32.ofNat oa) (Int32.ofNat la) (Int32.ofNat ob) (Int32.ofNat lb))), (.long (ff vv.toNatClampNeg))])) (f' := (mkF m 308 #[.val (.int p0), .val (.int p1), .val (.int p2), .val (.ref b19), .val (.ref b24), .val (.int (Int32.ofNat oa)), .val (.int (Int32.ofNat la)), .val (.int (Int32.ofNat ob)), .val (.int (Int32.ofNat lb)), .val (.int vv), .val (.ref b29)] [(.int (lcmpW (ff vv.toNatClampNeg) (own_exp us vv (Int32.ofNat oa) (Int32.ofNat la) (Int32.ofNat ob) (Int32.ofNat lb))))])) (fun t k => ?_) ?_
  · show Steps p.tables e below (T50.setTop (mkF m 307 #[.val (.int p0), .val (.int p1), .val (.int p2), .val (.ref b19), .val (.ref b24), .val (.int (Int32.ofNat oa)), .val (.int (Int32.ofNat la)), .val (.int (Int32.ofNat ob)), .val (.int (Int32.ofNat lb)), .val (.int vv), .val (.ref b29)] [(.long (own_exp us vv (Int32.ofNat oa) (Int32.ofNat la) (Int32.ofNat ob) (Int32.ofNat lb))), (.long (ff vv.toNatClampNeg))])) _
    refine XS.lcmp X50.here hx rfl (hb hby at_307) rfl ?_
    exact k
  refine own_go (T := T50) (T' := T50) (f := (mkF m 308 #[.val (.int p0), .val (.int p1), .val (.int p2), .val (.ref b19), .val (.ref b24), .val (.int (Int32.ofNat oa)), .val (.int (Int32.ofNat la)), .val (.int (Int32.ofNat ob)), .val (.int (Int32.ofNat lb)), .val (.int vv), .val (.ref b29)] [(.int (lcmpW (ff vv.toNatClampNeg) (own_exp us vv (Int32.ofNat oa) (Int32.ofNat la) (Int32.ofNat ob) (Int32.ofNat lb))))])) (f' := (mkF m 311 #[.val (.int p0), .val (.int p1), .val (.int p2), .val (.ref b19), .val (.ref b24), .val (.int (Int32.ofNat oa)), .val (.int (Int32.ofNat la)), .val (.int (Int32.ofNat ob)), .val (.int (Int32.ofNat lb)), .val (.int vv), .val (.ref b29)] [])) (fun t k => ?_) ?_
  · show Steps p.tables e below (T50.setTop (mkF m 308 #[.val (.int p0), .val (.int p1), .val (.int p2), .val (.ref b19), .val (.ref b24), .val (.int (Int32.ofNat oa)), .val (.int (Int32.ofNat la)), .val (.int (Int32.ofNat ob)), .val (.int (Int32.ofNat lb)), .val (.int vv), .val (.ref b29)] [(.int (lcmpW (ff vv.toNatClampNeg) (own_exp us vv (Int32.ofNat oa) (Int32.ofNat la) (Int32.ofNat ob) (Int32.ofNat lb))))])) _
    refine XS.ifNo X50.here hx rfl (hb hby at_308) rfl ((if0 _ _).trans (teq (own_lc _ _ (hmain _ hvr.1))).2) ?_
    exact k
  refine own_go (T := T50) (T' := T50) (f := (mkF m 311 #[.val (.int p0), .val (.int p1), .val (.int p2), .val (.ref b19), .val (.ref b24), .val (.int (Int32.ofNat oa)), .val (.int (Int32.ofNat la)), .val (.int (Int32.ofNat ob)), .val (.int (Int32.ofNat lb)), .val (.int vv), .val (.ref b29)] [])) (f' := (mkF m 316 #[.val (.int p0), .val (.int p1), .val (.int p2), .val (.ref b19), .val (.ref b24), .val (.int (Int32.ofNat oa)), .val (.int (Int32.ofNat la)), .val (.int (Int32.ofNat ob)), .val (.int (Int32.ofNat lb)), .val (.int vv), .val (.ref b29)] [(.int (1 : Int32))])) (fun t k => ?_) ?_
  · show Steps p.tables e below (T50.setTop (mkF m 311 #[.val (.int p0), .val (.int p1), .val (.int p2), .val (.ref b19), .val (.ref b24), .val (.int (Int32.ofNat oa)), .val (.int (Int32.ofNat la)), .val (.int (Int32.ofNat ob)), .val (.int (Int32.ofNat lb)), .val (.int vv), .val (.ref b29)] [])) _
    refine XS.iconst X50.here hx rfl (hb hby at_311) ?_
    show Steps p.tables e below (T50.setTop (mkF m 312 #[.val (.int p0), .val (.int p1), .val (.int p2), .val (.ref b19), .val (.ref b24), .val (.int (Int32.ofNat oa)), .val (.int (Int32.ofNat la)), .val (.int (Int32.ofNat ob)), .val (.int (Int32.ofNat lb)), .val (.int vv), .val (.ref b29)] [(.int (1 : Int32))])) _
    refine XS.goto X50.here hx rfl (pc0 := 312) (pc' := 316) rfl (hb hby at_312) (by decide) (by decide) ?_
    exact k
  exact own_retN X50 hx hlk (t := .boolean) (w := (1 : Int32)) hret (by simp) (hb hby at_316) rfl (by decide) (by decide) (by rw [e50]; exact ⟨rfl, N50⟩)
set_option maxRecDepth 65536 in
set_option maxHeartbeats 40000000 in
theorem comes_1 {Post : Tables → Env → Array Value → State → Outcome → State → Prop} (hpost : ∀ tb e args s v u, (limb_1_1.after args s (.returned v) u = true ∧ limb_1_2.after args s (.returned v) u = true ∧ True) → FrameEnd s (.returned v) u (Jvm.fieldLocs frame_1_writes args s ++ Jvm.arrayLocs frame_1_arrays args s ++ Jvm.staticLocs frame_1_statics s) 16 640 → Post tb e args s (.returned v) u) :
    ArmFor flags0 classFile x code maxLocals ret World_1 tables_1 room_1 Calls_1 rest_1 Pre_1 Post := by
  intro l hfl _ _ p e ha hc hk s m args below hf hA hF happ hP
  obtain ⟨hcalls, hrest, hpre⟩ := hP
  obtain ⟨-, -, -, hnamed, -, -, -, hat⟩ := (Spec.applies_iff hf).mp happ
  obtain ⟨hg, hn⟩ := and_e (Cond.before_iff.mp (show (Jvm.Cond.and given_1 narrow_1).before args s = true from hpre))
  obtain ⟨gc, ga0⟩ := and_e hg
  obtain ⟨gv0, ga1⟩ := and_e ga0
  obtain ⟨gv1, ga2⟩ := and_e ga1
  obtain ⟨w0, w1, w2, rfl⟩ : ∃ w0 w1 w2, args = #[w0, w1, w2] := by
    have hs : args.size = 3 := by simpa [Cond.value, given_1] using gc
    obtain ⟨L⟩ := args
    match L, hs with
    | [w0, w1, w2], _ => exact ⟨w0, w1, w2, rfl⟩
  have hw := fun d (hd : d ∈ tables_1) => atoms_spec (ws := Jvm.Cond.code x code maxLocals ret :: tables_1) hat d (List.mem_cons_of_mem _ hd)
  have hfit : Fit s := fun {y c} hc i hi => by
    obtain ⟨ha, rfl⟩ := Array.getElem?_eq_some_iff.mp hc
    have q := List.all_eq_true.mp ((Array.all_eq_true_iff_forall_mem.mp hF) _ (Array.getElem_mem ha)) i (List.mem_range.mpr hi)
    simpa [Array.getElem?_eq_getElem hi] using q
  obtain ⟨i0, e0⟩ := is_v gv0
  obtain rfl : w0 = (.int i0) := Option.some.inj e0
  obtain ⟨i1, e1⟩ := is_v gv1
  obtain rfl : w1 = (.int i1) := Option.some.inj e1
  obtain ⟨i2, e2⟩ := is_v ga2
  obtain rfl : w2 = (.int i2) := Option.some.inj e2
  obtain ⟨n, o, h1, h2, h3, _, L, rfl, ⟨rfl, N⟩, hq⟩ := rm0 l s _ hw tables_1 i0 i1 i2  s.heap s.heap.size (Nat.le_refl _)  p e ha hc hk s m _ below hf ((Spec.applies_iff_loose hf).mp happ).1 ⟨rfl, State.Warmed39.refl s, rfl⟩ trivial
  refine ⟨n, _, h1, h2, h3, hpost _ _ _ _ _ _ ⟨Cond.after_iff.mpr rfl, Cond.after_iff.mpr (eq_i res_at (Term.int_eval (1)) rfl), trivial⟩ ⟨hq.1, hq.2.1, (hq.2.2.sift fun y hy => Or.inr (N y hy)).mono (by decide) (by decide)⟩⟩
theorem main_1_1 : Claimed_1_1 := comes_1 fun _ _ _ _ _ _ h hF => ⟨h.1, hF⟩
theorem main_1_2 : Claimed_1_2 := comes_1 fun _ _ _ _ _ _ h hF => ⟨h.2.1, hF⟩
end Jvm.Pilot.@@N@@
namespace Jvm.Pilot.@@N@@
open Jvm Jvm.ClassFile Sem Op Lib Jvm.Free Jvm.Stand Jvm.Pilot.@@N@@.Jvm.D
/-! MADE BY PROGRAM (witnessworld.py) out of the Statement's table words and the real class files: 13 classes; the members and pool entries that the words name. The judged class is class 1, her method 3. -/
namespace start1
open Jvm.ClassFile
def u (s : String) : CpInfo := .utf8 (stringToUtf16 s)
/-- a pool by its gaps: so many unusable entries, then the entry; so many at the end -/
def gap : Nat → List CpInfo → List CpInfo
  | 0, r => r
  | n + 1, r => .unusable :: gap n r
def poolList (es : List (Nat × CpInfo)) (last : Nat) : List CpInfo := es.foldr (fun e r => gap e.1 (e.2 :: r)) (gap last [])
def pool (es : List (Nat × CpInfo)) (last : Nat) : Array CpInfo := ⟨poolList es last⟩
def fileOf (pool : Array CpInfo) (this : Nat) (attrs : Array Attribute := #[]) (ms : Array MethodInfo := #[]) (fl : Nat := 33) (sup : Nat := 0) (ifs : Array Nat := #[]) (fds : Array FieldInfo := #[]) : ClassFile where
  minorVersion := 0
  majorVersion := 65
  constantPool := pool
  accessFlags := fl
  thisClass := this
  superClass := sup
  interfaces := ifs
  fields := fds
  methods := ms
  attributes := attrs
def plain (name : String) (sup : Option ClassId) : Class where
  name := name
  kind := .ordinary
  loader := none
  accessFlags := 33
  super := sup
  interfaces := #[]
  cf := none
  fields := #[]
  methods := #[]
  instanceTypes := #[]
  staticTypes := #[]
  resolved := #[]
  callSites := []
  init := .initialized
  statics := none
  mirror := none

def pool0 : Array CpInfo := pool [(5, u "<init>"), (0, u "()V"), (1, .class_ 10), (1, u "java/lang/Object")] 113

def k0c0 : Code := { maxStack := 0, maxLocals := 1, code := object_method_1_code, exceptionTable := #[], attributes := #[] }
def k0m0 : Method := { name := "<init>", desc := "()V", sig := { parameters := [], returnType := none }, accessFlags := 1, code := some k0c0 }
/-- java/lang/Object -/
def k0 : Class := { plain "java/lang/Object" none with
  accessFlags := 33
  interfaces := #[]
  cf := some (fileOf pool0 8 #[] #[{ accessFlags := 1, nameIndex := 5, descriptorIndex := 6, attributes := #[] }] 33 0 #[] #[])
  fields := #[]
  methods := #[k0m0]
  instanceTypes := #[]
  staticTypes := #[]
  resolved := Array.replicate 124 none
  statics := none }

def pool1 : Array CpInfo := pool [(2, .class_ 4), (0, .nameAndType 5 6), (0, u "java/lang/Object"), (0, u "<init>"), (0, u "()V"), (0, .methodref 8 9), (0, .class_ 10), (0, .nameAndType 11 12), (0, u "com/example/leafweight/leafweight/codec/ByteCountsAddPinLaw"), (0, u "hits"), (0, u "(IIIIIII)J"), (0, .class_ 14), (0, u "com/example/leafweight/leafweight/codec/ByteCounts"), (0, .methodref 13 3), (0, .methodref 13 17), (0, .nameAndType 18 19), (0, u "add"), (0, u "([BII)V"), (0, .methodref 13 21), (0, .nameAndType 22 23), (0, u "count"), (0, u "(I)J"), (0, .methodref 8 25), (0, .nameAndType 26 27), (0, u "expected"), (0, u "([IIIIII)J"), (3, u "law"), (0, u "(III)Z")] 6

def k1m0 : Method := { name := "<init>", desc := "()V", sig := { parameters := [], returnType := none }, accessFlags := 1, code := none }
def k1c1 : Code := { maxStack := 4, maxLocals := 9, code := method_2_code, exceptionTable := #[], attributes := #[] }
def k1m1 : Method := { name := "hits", desc := "(IIIIIII)J", sig := { parameters := [.int, .int, .int, .int, .int, .int, .int], returnType := some .long }, accessFlags := 10, code := some k1c1 }
def k1c2 : Code := { maxStack := 9, maxLocals := 6, code := method_3_code, exceptionTable := #[], attributes := #[] }
def k1m2 : Method := { name := "expected", desc := "([IIIIII)J", sig := { parameters := [(.array .int), .int, .int, .int, .int, .int], returnType := some .long }, accessFlags := 10, code := some k1c2 }
def k1c3 : Code := { maxStack := 8, maxLocals := 11, code := code, exceptionTable := #[], attributes := #[] }
def k1m3 : Method := { name := "law", desc := "(III)Z", sig := { parameters := [.int, .int, .int], returnType := some .boolean }, accessFlags := 9, code := some k1c3 }
/-- com/example/leafweight/leafweight/codec/ByteCountsAddPinLaw -/
def k1 : Class := { plain "com/example/leafweight/leafweight/codec/ByteCountsAddPinLaw" (some 0) with
  accessFlags := 49
  interfaces := #[]
  cf := some (fileOf pool1 8 #[] #[{ accessFlags := 1, nameIndex := 5, descriptorIndex := 6, attributes := #[] }, { accessFlags := 10, nameIndex := 11, descriptorIndex := 12, attributes := #[] }, { accessFlags := 10, nameIndex := 26, descriptorIndex := 27, attributes := #[] }, { accessFlags := 9, nameIndex := 31, descriptorIndex := 32, attributes := #[] }] 49 2 #[] #[])
  fields := #[]
  methods := #[k1m0, k1m1, k1m2, k1m3]
  instanceTypes := #[]
  staticTypes := #[]
  resolved := Array.replicate 39 none
  statics := none }

def pool2 : Array CpInfo := pool [(1, .methodref 2 3), (0, .class_ 4), (0, .nameAndType 5 6), (0, u "java/lang/Object"), (0, u "<init>"), (0, u "()V"), (0, .class_ 8), (0, u "com/example/leafweight/leafweight/codec/ByteCounts"), (0, .fieldref 7 10), (0, .nameAndType 11 12), (0, u "counts"), (0, u "[J"), (0, .methodref 14 15), (0, .class_ 16), (0, .nameAndType 17 18), (0, u "java/util/Objects"), (0, u "checkFromIndexSize"), (0, u "(III)I"), (5, u "VALUES"), (0, u "I"), (4, u "add"), (0, u "([BII)V"), (1, u "count"), (0, u "(I)J")] 6

def k2c0 : Code := { maxStack := 2, maxLocals := 1, code := prog_29_method_1_code, exceptionTable := #[], attributes := #[] }
def k2m0 : Method := { name := "<init>", desc := "()V", sig := { parameters := [], returnType := none }, accessFlags := 1, code := some k2c0 }
def k2c1 : Code := { maxStack := 6, maxLocals := 6, code := prog_29_method_2_code, exceptionTable := #[], attributes := #[] }
def k2m1 : Method := { name := "add", desc := "([BII)V", sig := { parameters := [(.array .byte), .int, .int], returnType := none }, accessFlags := 1, code := some k2c1 }
def k2c2 : Code := { maxStack := 2, maxLocals := 2, code := prog_29_method_3_code, exceptionTable := #[], attributes := #[] }
def k2m2 : Method := { name := "count", desc := "(I)J", sig := { parameters := [.int], returnType := some .long }, accessFlags := 1, code := some k2c2 }
/-- com/example/leafweight/leafweight/codec/ByteCounts -/
def k2 : Class := { plain "com/example/leafweight/leafweight/codec/ByteCounts" (some 0) with
  accessFlags := 49
  interfaces := #[]
  cf := some (fileOf pool2 7 #[] #[{ accessFlags := 1, nameIndex := 5, descriptorIndex := 6, attributes := #[] }, { accessFlags := 1, nameIndex := 30, descriptorIndex := 31, attributes := #[] }, { accessFlags := 1, nameIndex := 33, descriptorIndex := 34, attributes := #[] }] 49 2 #[] #[{ accessFlags := 25, nameIndex := 24, descriptorIndex := 25, attributes := #[] }, { accessFlags := 18, nameIndex := 11, descriptorIndex := 12, attributes := #[] }])
  fields := #[{ name := "VALUES", type := .int, accessFlags := 25, slot := 0, constantValue := 0 }, { name := "counts", type := (.array .long), accessFlags := 18, slot := 0, constantValue := 0 }]
  methods := #[k2m0, k2m1, k2m2]
  instanceTypes := #[(.array .long)]
  staticTypes := #[.int]
  resolved := Array.replicate 41 none
  statics := none }

def pool3 : Array CpInfo := pool [(2, .class_ 4), (1, u "java/lang/Object"), (0, u "<init>"), (0, u "()V"), (35, .class_ 44), (1, u "java/util/Objects"), (61, .class_ 108), (1, u "jdk/internal/util/Preconditions"), (5, u "(IIILjava/util/function/BiFunction;)I"), (0, .methodref 106 116), (0, .nameAndType 117 114), (0, u "checkFromIndexSize"), (57, u "(III)I")] 8

def k3m0 : Method := { name := "<init>", desc := "()V", sig := { parameters := [], returnType := none }, accessFlags := 2, code := none }
def k3c1 : Code := { maxStack := 4, maxLocals := 3, code := jdk_31_method_19_code, exceptionTable := #[], attributes := #[] }
def k3m1 : Method := { name := "checkFromIndexSize", desc := "(III)I", sig := { parameters := [.int, .int, .int], returnType := some .int }, accessFlags := 9, code := some k3c1 }
/-- java/util/Objects -/
def k3 : Class := { plain "java/util/Objects" (some 0) with
  accessFlags := 49
  interfaces := #[]
  cf := some (fileOf pool3 42 #[] #[{ accessFlags := 2, nameIndex := 5, descriptorIndex := 6, attributes := #[] }, { accessFlags := 9, nameIndex := 117, descriptorIndex := 175, attributes := #[] }] 49 2 #[] #[])
  fields := #[]
  methods := #[k3m0, k3m1]
  instanceTypes := #[]
  staticTypes := #[]
  resolved := Array.replicate 184 none
  statics := none }

def pool4 : Array CpInfo := pool [(2, .class_ 4), (1, u "java/lang/Object"), (0, u "<init>"), (0, u "()V"), (17, .class_ 26), (1, u "jdk/internal/util/Preconditions"), (22, u "checkFromIndexSize"), (5, .class_ 56), (0, u "jdk/internal/util/Preconditions$4"), (57, .class_ 115), (0, u "jdk/internal/util/Preconditions$1"), (7, u "SIOOBE_FORMATTER"), (0, u "Ljava/util/function/BiFunction;"), (0, .class_ 126), (0, u "jdk/internal/util/Preconditions$2"), (3, u "AIOOBE_FORMATTER"), (0, .class_ 132), (0, u "jdk/internal/util/Preconditions$3"), (3, u "IOOBE_FORMATTER"), (46, u "(IIILjava/util/function/BiFunction;)I")] 10

def k4m0 : Method := { name := "<init>", desc := "()V", sig := { parameters := [], returnType := none }, accessFlags := 1, code := none }
def k4c1 : Code := { maxStack := 4, maxLocals := 4, code := jdk_41_method_13_code, exceptionTable := #[], attributes := #[] }
def k4m1 : Method := { name := "checkFromIndexSize", desc := "(IIILjava/util/function/BiFunction;)I", sig := { parameters := [.int, .int, .int, (.object "java/util/function/BiFunction")], returnType := some .int }, accessFlags := 9, code := some k4c1 }
/-- jdk/internal/util/Preconditions -/
def k4 : Class := { plain "jdk/internal/util/Preconditions" (some 0) with
  accessFlags := 33
  interfaces := #[]
  cf := some (fileOf pool4 24 #[.nestMembers #[55, 131, 125, 114]] #[{ accessFlags := 1, nameIndex := 5, descriptorIndex := 6, attributes := #[] }, { accessFlags := 9, nameIndex := 49, descriptorIndex := 183, attributes := #[] }] 33 2 #[] #[{ accessFlags := 25, nameIndex := 123, descriptorIndex := 124, attributes := #[] }, { accessFlags := 25, nameIndex := 130, descriptorIndex := 124, attributes := #[] }, { accessFlags := 25, nameIndex := 136, descriptorIndex := 124, attributes := #[] }])
  fields := #[{ name := "SIOOBE_FORMATTER", type := (.object "java/util/function/BiFunction"), accessFlags := 25, slot := 0, constantValue := 0 }, { name := "AIOOBE_FORMATTER", type := (.object "java/util/function/BiFunction"), accessFlags := 25, slot := 1, constantValue := 0 }, { name := "IOOBE_FORMATTER", type := (.object "java/util/function/BiFunction"), accessFlags := 25, slot := 2, constantValue := 0 }]
  methods := #[k4m0, k4m1]
  instanceTypes := #[]
  staticTypes := #[(.object "java/util/function/BiFunction"), (.object "java/util/function/BiFunction"), (.object "java/util/function/BiFunction")]
  resolved := Array.replicate 194 none
  statics := none }

def pool5 : Array CpInfo := pool [(1, u "java/lang/Cloneable"), (0, .class_ 1), (0, u "java/lang/Object"), (0, .class_ 3)] 3

/-- java/lang/Cloneable -/
def k5 : Class := { plain "java/lang/Cloneable" (some 0) with
  accessFlags := 1537
  interfaces := #[]
  cf := some (fileOf pool5 2 #[] #[] 1537 4 #[] #[])
  fields := #[]
  methods := #[]
  instanceTypes := #[]
  staticTypes := #[]
  resolved := Array.replicate 8 none
  statics := none }

def pool6 : Array CpInfo := pool [(1, u "java/io/Serializable"), (0, .class_ 1), (0, u "java/lang/Object"), (0, .class_ 3)] 3

/-- java/io/Serializable -/
def k6 : Class := { plain "java/io/Serializable" (some 0) with
  accessFlags := 1537
  interfaces := #[]
  cf := some (fileOf pool6 2 #[] #[] 1537 4 #[] #[])
  fields := #[]
  methods := #[]
  instanceTypes := #[]
  staticTypes := #[]
  resolved := Array.replicate 8 none
  statics := none }

/-- the primitive byte -/
def k7 : Class := { plain "byte" none with kind := .primitive 'B', accessFlags := 0x411 }
/-- [B -/
def k8 : Class := { plain "[B" (some 0) with kind := .array 7 .byte, interfaces := #[5, 6], accessFlags := 1041 }

/-- the primitive int -/
def k9 : Class := { plain "int" none with kind := .primitive 'I', accessFlags := 0x411 }
/-- [I -/
def k10 : Class := { plain "[I" (some 0) with kind := .array 9 .int, interfaces := #[5, 6], accessFlags := 1041 }

/-- the primitive long -/
def k11 : Class := { plain "long" none with kind := .primitive 'J', accessFlags := 0x411 }
/-- [J -/
def k12 : Class := { plain "[J" (some 0) with kind := .array 11 .long, interfaces := #[5, 6], accessFlags := 1041 }

def heap : Heap := #[]
def classes : Array Class := #[k0, k1, k2, k3, k4, k5, k6, k7, k8, k9, k10, k11, k12]
def interned : List (Array UInt16 × Addr) := []
def slotsUsed : Nat := 0
def theMethod : MethodId := ⟨1, 3⟩
def args0 : Array Value := #[.int 5, .int 300, .int 7]
def aboutOver (below : List Frame) : State where
  vm := { classes := classes, interned := interned.toArray }
  heap := heap
  slotsUsed := slotsUsed
  threads := #[{ frames := .invoking theMethod args0 :: below }]
def below0 : List Frame := [.native { method := ⟨0, 0⟩, args := #[] }]
def about1 : State := aboutOver below0
def p0 : Program := .bare "" "" ""
def e0 : Env := launch0.env 0 0 0
theorem w_frames : about1.frames = Frame.invoking theMethod args0 :: below0 := rfl
set_option maxRecDepth 65536 in
theorem w_args : argsFit about1.vm theMethod args0 = true := by decide +kernel
set_option maxRecDepth 65536 in
theorem w_heap : heapFits about1 = true := by decide +kernel
set_option maxRecDepth 65536 in
theorem w_runnable : about1.curStatus? = some .runnable := by decide +kernel
set_option maxRecDepth 65536 in
theorem w_alone : about1.alone = true := by decide +kernel
set_option maxRecDepth 65536 in
theorem w_named : about1.methodNamed? x = some theMethod := by decide +kernel
set_option maxRecDepth 65536 in
theorem w_hears : about1.hears theMethod below0 = true := by decide +kernel
set_option maxRecDepth 65536 in
theorem w_ripe : about1.ripe theMethod args0 below0 = true := by decide +kernel
theorem w_running : about1.status = .running := rfl
set_option maxRecDepth 65536 in
theorem w_room : about1.hasRoom e0.platform room_1 = true :=
  launch0.hasRoom_least _ room_1 (by decide +kernel) (by decide +kernel) (by decide +kernel) (by decide +kernel) (by decide +kernel) (by decide +kernel)
theorem allAtoms_all (ts : List Jvm.Cond) (a : Array Jvm.Value) (st : Jvm.State) : (allAtoms ts).before a st = ts.all (fun c => c.before a st) := by
  induction ts with
  | nil => rfl
  | cons c t ih =>
    show (Jvm.Cond.and c (allAtoms t)).before a st = _
    rw [Jvm.Cond.before_and, ih, List.all_cons]
def words1 : List Jvm.Cond := Jvm.Cond.code x code maxLocals ret :: tables_1
/-- a 'code' word, met by the world's own term for the bytes: nothing is compared byte by byte -/
theorem code_word {y : MethodName} {bytes : ByteArray} {mx : Nat} {rt : Option FieldType} {a : Array Value} {s : State} {m : MethodId} {meth : Method} {c : Code} (h1 : s.methodNamed? y = some m) (h2 : s.vm.method? m = some meth) (h3 : meth.code = some c) (h4 : c.code = bytes)
    (h5 : (c.maxLocals == mx && c.exceptionTable.isEmpty && decide (c.maxStack ≤ mostOperands) && decide (meth.sig.returnType = rt) && !meth.locks && decide (parseMethodDescriptor y.desc = some meth.sig)) = true) : (Jvm.Cond.code y bytes mx rt).before a s = true := by
  simp only [Bool.and_eq_true, beq_iff_eq, Bool.not_eq_true', decide_eq_true_eq] at h5
  obtain ⟨⟨⟨⟨⟨g1, g2⟩, g3⟩, g4⟩, g5⟩, g6⟩ := h5
  simp [Cond.before, Cond.holds, Cond.value, h1, h2, h3, h4, g1, g2, g3, g4, g5, g6]
def isCode : Jvm.Cond → Bool
  | .code _ _ _ _ => true
  | _ => false
theorem all_split {L : List Jvm.Cond} {P : Jvm.Cond → Bool} (h1 : L.all (fun c => isCode c || P c) = true) (h2 : ∀ c ∈ L.filter isCode, P c = true) : L.all P = true := by
  refine List.all_eq_true.mpr fun c hc => ?_
  have h := List.all_eq_true.mp h1 c hc
  rcases Bool.eq_false_or_eq_true (isCode c) with hi | hi
  · exact h2 c (List.mem_filter.mpr ⟨hc, hi⟩)
  · simpa [hi] using h
set_option maxRecDepth 65536 in
theorem w_c0 : (Jvm.Cond.code x code maxLocals ret).before args0 about1 = true := code_word (m := ⟨1, 3⟩) (meth := k1m3) (c := k1c3) (by decide +kernel) rfl rfl rfl (by decide +kernel)
set_option maxRecDepth 65536 in
theorem w_c1 : (Jvm.Cond.code ({ cls := "com/example/leafweight/leafweight/codec/ByteCounts", name := "<init>", desc := "()V" } : Jvm.MethodName) prog_29_method_1_code (1 : Nat) (Option.none : Option Jvm.ClassFile.FieldType)).before args0 about1 = true := code_word (m := ⟨2, 0⟩) (meth := k2m0) (c := k2c0) (by decide +kernel) rfl rfl rfl (by decide +kernel)
set_option maxRecDepth 65536 in
theorem w_c2 : (Jvm.Cond.code ({ cls := "java/lang/Object", name := "<init>", desc := "()V" } : Jvm.MethodName) object_method_1_code (1 : Nat) (Option.none : Option Jvm.ClassFile.FieldType)).before args0 about1 = true := code_word (m := ⟨0, 0⟩) (meth := k0m0) (c := k0c0) (by decide +kernel) rfl rfl rfl (by decide +kernel)
set_option maxRecDepth 65536 in
theorem w_c3 : (Jvm.Cond.code ({ cls := "com/example/leafweight/leafweight/codec/ByteCounts", name := "add", desc := "([BII)V" } : Jvm.MethodName) prog_29_method_2_code (6 : Nat) (Option.none : Option Jvm.ClassFile.FieldType)).before args0 about1 = true := code_word (m := ⟨2, 1⟩) (meth := k2m1) (c := k2c1) (by decide +kernel) rfl rfl rfl (by decide +kernel)
set_option maxRecDepth 65536 in
theorem w_c4 : (Jvm.Cond.code ({ cls := "java/util/Objects", name := "checkFromIndexSize", desc := "(III)I" } : Jvm.MethodName) jdk_31_method_19_code (3 : Nat) (Option.some Jvm.ClassFile.FieldType.int)).before args0 about1 = true := code_word (m := ⟨3, 1⟩) (meth := k3m1) (c := k3c1) (by decide +kernel) rfl rfl rfl (by decide +kernel)
set_option maxRecDepth 65536 in
theorem w_c5 : (Jvm.Cond.code ({ cls := "jdk/internal/util/Preconditions", name := "checkFromIndexSize", desc := "(IIILjava/util/function/BiFunction;)I" } : Jvm.MethodName) jdk_41_method_13_code (4 : Nat) (Option.some Jvm.ClassFile.FieldType.int)).before args0 about1 = true := code_word (m := ⟨4, 1⟩) (meth := k4m1) (c := k4c1) (by decide +kernel) rfl rfl rfl (by decide +kernel)
set_option maxRecDepth 65536 in
theorem w_c6 : (Jvm.Cond.code ({ cls := "com/example/leafweight/leafweight/codec/ByteCounts", name := "count", desc := "(I)J" } : Jvm.MethodName) prog_29_method_3_code (2 : Nat) (Option.some Jvm.ClassFile.FieldType.long)).before args0 about1 = true := code_word (m := ⟨2, 2⟩) (meth := k2m2) (c := k2c2) (by decide +kernel) rfl rfl rfl (by decide +kernel)
set_option maxRecDepth 65536 in
theorem w_c7 : (Jvm.Cond.code ({ cls := "com/example/leafweight/leafweight/codec/ByteCountsAddPinLaw", name := "expected", desc := "([IIIIII)J" } : Jvm.MethodName) method_3_code (6 : Nat) (Option.some Jvm.ClassFile.FieldType.long)).before args0 about1 = true := code_word (m := ⟨1, 2⟩) (meth := k1m2) (c := k1c2) (by decide +kernel) rfl rfl rfl (by decide +kernel)
set_option maxRecDepth 65536 in
theorem w_c8 : (Jvm.Cond.code ({ cls := "com/example/leafweight/leafweight/codec/ByteCountsAddPinLaw", name := "hits", desc := "(IIIIIII)J" } : Jvm.MethodName) method_2_code (9 : Nat) (Option.some Jvm.ClassFile.FieldType.long)).before args0 about1 = true := code_word (m := ⟨1, 1⟩) (meth := k1m1) (c := k1c1) (by decide +kernel) rfl rfl rfl (by decide +kernel)
def codes1 : List Jvm.Cond := [Jvm.Cond.code x code maxLocals ret, Jvm.Cond.code ({ cls := "com/example/leafweight/leafweight/codec/ByteCounts", name := "<init>", desc := "()V" } : Jvm.MethodName) prog_29_method_1_code (1 : Nat) (Option.none : Option Jvm.ClassFile.FieldType), Jvm.Cond.code ({ cls := "java/lang/Object", name := "<init>", desc := "()V" } : Jvm.MethodName) object_method_1_code (1 : Nat) (Option.none : Option Jvm.ClassFile.FieldType), Jvm.Cond.code ({ cls := "com/example/leafweight/leafweight/codec/ByteCounts", name := "add", desc := "([BII)V" } : Jvm.MethodName) prog_29_method_2_code (6 : Nat) (Option.none : Option Jvm.ClassFile.FieldType), Jvm.Cond.code ({ cls := "java/util/Objects", name := "checkFromIndexSize", desc := "(III)I" } : Jvm.MethodName) jdk_31_method_19_code (3 : Nat) (Option.some Jvm.ClassFile.FieldType.int), Jvm.Cond.code ({ cls := "jdk/internal/util/Preconditions", name := "checkFromIndexSize", desc := "(IIILjava/util/function/BiFunction;)I" } : Jvm.MethodName) jdk_41_method_13_code (4 : Nat) (Option.some Jvm.ClassFile.FieldType.int), Jvm.Cond.code ({ cls := "com/example/leafweight/leafweight/codec/ByteCounts", name := "count", desc := "(I)J" } : Jvm.MethodName) prog_29_method_3_code (2 : Nat) (Option.some Jvm.ClassFile.FieldType.long), Jvm.Cond.code ({ cls := "com/example/leafweight/leafweight/codec/ByteCountsAddPinLaw", name := "expected", desc := "([IIIIII)J" } : Jvm.MethodName) method_3_code (6 : Nat) (Option.some Jvm.ClassFile.FieldType.long), Jvm.Cond.code ({ cls := "com/example/leafweight/leafweight/codec/ByteCountsAddPinLaw", name := "hits", desc := "(IIIIIII)J" } : Jvm.MethodName) method_2_code (9 : Nat) (Option.some Jvm.ClassFile.FieldType.long)]
set_option maxRecDepth 65536 in
theorem codes_eq : words1.filter isCode = codes1 := rfl
theorem w_codes : ∀ c ∈ words1.filter isCode, c.before args0 about1 = true := by
  rw [codes_eq]
  intro c hc
  simp only [codes1, List.mem_cons, List.not_mem_nil, or_false] at hc
  rcases hc with rfl | rfl | rfl | rfl | rfl | rfl | rfl | rfl | rfl
  · exact w_c0
  · exact w_c1
  · exact w_c2
  · exact w_c3
  · exact w_c4
  · exact w_c5
  · exact w_c6
  · exact w_c7
  · exact w_c8
set_option maxRecDepth 65536 in
theorem w_t1 : (words1.take 24).all (fun c => isCode c || c.before args0 about1) = true := by decide +kernel
set_option maxRecDepth 65536 in
theorem w_t2 : (words1.drop 24).all (fun c => isCode c || c.before args0 about1) = true := by decide +kernel
theorem w_tables : (allAtoms (Jvm.Cond.code x code maxLocals ret :: tables_1)).before args0 about1 = true := by
  rw [allAtoms_all]
  show words1.all (fun c => c.before args0 about1) = true
  refine all_split ?_ w_codes
  rw [← List.take_append_drop 24 words1, List.all_append, w_t1, w_t2]
  rfl
set_option maxRecDepth 65536 in
theorem w_case : (Jvm.Cond.and given_1 narrow_1).before args0 about1 = true := by decide +kernel
theorem w_applies : (headSpec (Jvm.Cond.code x code maxLocals ret :: tables_1) room_1).applies x e0.platform about1 = true :=
  (Spec.applies_iff w_frames).mpr ⟨w_running, w_runnable, w_alone, w_named, w_hears, w_ripe, w_room, w_tables⟩
theorem atStart : AtStart classFile x code maxLocals ret World_1 tables_1 room_1 Calls_1 rest_1 Pre_1 launch0 p0 e0 about1 theMethod args0 below0 :=
  ⟨lists_1, trivial, launch0.admits_env _ _ _, launch0.least_env, fairChoices_fair.cas, fairChoices_fair.clock, w_frames, w_args, w_heap, w_applies, trivial, trivial, w_case⟩
end start1
theorem witness_1 : WitnessClaimed_1 := ⟨start1.p0, start1.e0, start1.about1, start1.theMethod, start1.args0, start1.below0, start1.atStart⟩
end Jvm.Pilot.@@N@@
