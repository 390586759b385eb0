import JvmDerived
import JvmDerived.Pilot.@@N@@Statement
import JvmDerived.Pilot.@@N@@Code
set_option linter.unusedVariables false
set_option linter.unusedSimpArgs false
namespace Jvm.RoadKit
open Sem ClassFile Op Lib Jvm.Stand Jvm.Free Jvm.LawKit
section New
variable {p : Program} {l : Launch} {e : Env} {R : Room} {s : State} {m : MethodId} {args : Array Value} {below : List Frame} {meth : Method} {c : Code} {T : State} {locs : List Loc} {cells slots : Nat}
theorem retI (X : Stand p l e R s m args below meth c T locs cells slots) (hx : p.tables.exec = Jvm.exec) {pc : Nat} {Ls : Array Slot} {z : Int32} {rest : List Value} (hret : meth.sig.returnType = some .int) (hd : decode c.code pc = .ok (.ireturn, 1)) {fs : List Frame}
    (hl : ∀ (f : JFrame) (acts : List Action), f.method = m → f.locked = none → f.entered = [] → (doReturn e (T.setTop f) acts (some (.int z))).1 = T.setFrames fs) : Steps p.tables e below (T.setTop (mkF m pc Ls (.int z :: rest))) (T.setFrames fs) := by
  have hm' : T.vm.method? m = some meth := X.method'
  have hn : narrow .int (.int z) = .int z := rfl
  show Steps p.tables e below (T.setTop { method := m, pc := pc, locals := Ls, stack := _ :: rest, locked := none }) _
  jvm_step X.here [X.here.top, hx, hd, hm', hret, hn]
  first | (intro acts; rw [hl _ acts rfl rfl rfl]) | rw [hl _ _ rfl rfl rfl]
  exact Steps.refl _
end New
end Jvm.RoadKit
namespace Jvm.Pilot.@@N@@
open Jvm Jvm.ClassFile Sem Op Lib Jvm.Free Jvm.Stand Jvm.LawKit Jvm.RoadKit Bundle Jvm.Pilot.@@N@@.Jvm.D
abbrev OM (l : Launch) (Z : State) (y : MethodName) (cd : ByteArray) (mL : Nat) (rt : Option FieldType) (ws : List Jvm.Cond) (rm : Room) (as' : Array Value) (h0 : Heap) (Q : Option Value → Heap → List Loc → Prop) : Prop :=
  MetFree l y (head1 (Jvm.Cond.code y cd mL rt :: ws) rm) (fun a U => a = as' ∧ Z.Warmed39 U.vm ∧ U.heap = h0) (fun _ _ _ _ _ => True) (fun _ U o U' => ∃ v L, o = .returned v ∧ Q v U'.heap L ∧ FrameEnd U o U' L rm.cells rm.slots)
/-- what a body that writes nothing leaves: its value, the heap as it was -/
def OP (r : Option Value) (n0 : Nat) (h0 : Heap) (v : Option Value) (h : Heap) (L : List Loc) : Prop := v = r ∧ Fr n0 L ∧ h = h0
theorem own_fld {s : State} {args : Array Value} {t : Term} {x : Addr} {C n d : String} {k : Int32} (ht : t.eval args s none [] s = some (.ref x)) (h : (Jvm.Cond.eq (.field t C n d) (.int k)).value args s none s [] = some true) : Fld s s.heap x C n d (.int k) := by
  obtain ⟨u, v, h1, h2, h3, h4⟩ := cmp_v (Or.inl h)
  have e2 : v = .int k := (Option.some.inj h2).symm
  subst e2
  obtain ⟨z, rfl⟩ := h4
  have e3 := gotT (Jvm.Cond.eq_ints h1 h2) h
  subst e3
  exact Fld.start (by rw [← fld_at ht]; exact h1)
/-- what a body leaves that speaks of its result alone -/
def OF (r : Option Value) (n0 : Nat) (v : Option Value) (h : Heap) (L : List Loc) : Prop := v = r ∧ Fr n0 L
abbrev osel (c : Bool) (a b : Int32) : Int32 := if c then a else b
def imax (a b : Int32) : Int32 := if a < b then b else a
theorem own_imax (a b : Int32) : imax (imax 0 a) b = imax 0 (imax a b) := by
  simp only [imax, Int32.lt_iff_toInt_lt]
  repeat' split
  all_goals (first | rfl | (exfalso; omega) | (apply Int32.toInt_inj.mp; omega))
theorem own_sta_keep {Z : State} {h h' : Heap} {C n d : String} {u : Value} {b : Addr} {k : ClassId} {ty : FieldType} {z : Int32} {vs : List Value} {dv : Value} (F : Sta Z h C n d u) (Kp : Keep h h' [b]) (A : Arv Z h b k ty z vs dv) : Sta Z h' C n d u := by
  obtain ⟨cf, i, kc, f, st, cell, h1, h2, h3, h4, h5, h6, h7⟩ := F
  obtain ⟨c, Ar, -⟩ := A
  have ne : st ≠ b := fun e => by
    subst e
    cases h5.symm.trans Ar.1
    rw [Ar.plain] at h6
    cases h6
  exact ⟨cf, i, kc, f, st, cell, h1, h2, h3, h4, Kp.2.1 st cell h5 (ninS ne nin0), h6, h7⟩
theorem own_arv {s : State} {args : Array Value} {t : Term} {x : Addr} {ty : FieldType} {dv : Value} (hf : Fit s) (ht : t.eval args s none [] s = some (.ref x)) (h1 : (Jvm.Cond.arrayOf t ty).value args s none s [] = some true) (h2 : (Jvm.Cond.eq (.length t) (.int 0)).value args s none s [] = some true) : ∃ k : ClassId, Arv s s.heap x k ty (0 : Int32) [] dv := by
  obtain ⟨c, A⟩ := Arr.start ht h1
  obtain ⟨u, v, e1, e2, k1, k2⟩ := cmp_v (Or.inl h2)
  have q2 : v = .int 0 := (Option.some.inj e2).symm
  subst q2
  obtain ⟨z, rfl⟩ := k2
  have q3 := gotT (Jvm.Cond.eq_ints e1 e2) h2
  subst q3
  have ha : s.arrayAt? x = some c := A.fin (Vm.Alike.refl _)
  have hl : c.slots.size < 2 ^ 31 ∧ c.slots.size.toInt32 = 0 := by
    simp only [Term.eval, ht, Option.bind_eq_bind, Option.bind_some, ha] at e1
    split at e1
    · rename_i q; exact ⟨q, by simpa using e1⟩
    · cases e1
  exact ⟨c.cls, Arv.start hf A hl.1 hl.2 (by decide) rfl trivial⟩
/-- the cache of small Integers: each place from 0 to 255 holds one -/
def Cch (Z : State) (h : Heap) (a : Addr) : Prop := ∃ c : Cell, Arr Z h a c (.object "java/lang/Integer") ∧ ∀ j : Int32, ¬ j < 0 → j < 256 → ¬ (j < 0 ∨ c.slots.size ≤ j.toNatClampNeg) ∧ ∃ y : Addr, c.slots[j.toNatClampNeg]? = some (.ref y) ∧ Exa Z h y "java/lang/Integer"
theorem Cch.lt {Z : State} {h : Heap} {a : Addr} (F : Cch Z h a) : a < h.size := by obtain ⟨c, A, -⟩ := F; exact A.lt
theorem Cch.ext {Z : State} {h h' : Heap} {a : Addr} (F : Cch Z h a) (E : Ext h h') : Cch Z h' a := by
  obtain ⟨c, A, H⟩ := F
  exact ⟨c, A.ext E, fun j h1 h2 => by obtain ⟨q, y, q1, q2⟩ := H j h1 h2; exact ⟨q, y, q1, q2.ext E⟩⟩
theorem Cch.other {Z : State} {h h' : Heap} {a b : Addr} {sl : Nat} {v : Value} (F : Cch Z h a) (W : Wr h h' b sl v) (ne : a ≠ b) : Cch Z h' a := by
  obtain ⟨c, A, H⟩ := F
  exact ⟨c, A.other W ne, fun j h1 h2 => by obtain ⟨q, y, q1, q2⟩ := H j h1 h2; exact ⟨q, y, q1, q2.wr W⟩⟩
def Kon (Z : State) (h : Heap) (w : Nat → Addr) (κ : Nat → ClassId) : Prop :=
  (Sta Z h "java/lang/Integer$IntegerCache" "high" "I" (.int (127 : Int32))) ∧
  (Sta Z h "java/lang/Integer$IntegerCache" "cache" "[Ljava/lang/Integer;" (.ref (w 0))) ∧
  (Cch Z h (w 0))
theorem Kon.ext {Z : State} {h h' : Heap} {w : Nat → Addr} {κ : Nat → ClassId} (K : Kon Z h w κ) (E : Ext h h') : Kon Z h' w κ := ⟨K.1.ext E, K.2.1.ext E, K.2.2.ext E⟩
theorem Kon.wr {Z : State} {h h' : Heap} {w : Nat → Addr} {κ : Nat → ClassId} (K : Kon Z h w κ) {a : Addr} {sl : Nat} {v : Value} (W : Wr h h' a sl v) (q : ∀ i, i < 1 → w i ≠ a) : Kon Z h' w κ := ⟨K.1.wr W, K.2.1.wr W, K.2.2.other W (q 0 (by decide))⟩
theorem Kon.lt {Z : State} {h : Heap} {w : Nat → Addr} {κ : Nat → ClassId} (K : Kon Z h w κ) : ∀ i, i < 1 → w i < h.size := fun i hi => by
  have q : i = 0 := by omega
  subst q
  exact K.2.2.lt
/-- a class that can be made is no interface: no class of that chain is one of its kind -/
theorem own_root {Z : State} {a0 : Array Value} {O K : String} {n : Nat} (w : (Jvm.Cond.noSuperclass O).before a0 Z = true) (wk : (Jvm.Cond.instantiable K n).before a0 Z = true) (hn : O ≠ K) : NS Z O K := by
  obtain ⟨c, k, h1, h2, h3, -, -⟩ := Cond.noSuperclass_spec w
  obtain ⟨t, kt, g1, -⟩ := Cond.instantiable_spec wk
  have ne := ids_ne h1 g1 hn
  refine ⟨c, t, h1, g1, fun fuel => ?_⟩
  cases fuel with
  | zero => rfl
  | succ f => simp [Vm.isSubclassAux, ne, h2, h3]
theorem own_no {Z : State} {a0 : Array Value} {C S K : String} {n : Nat} (w : (Jvm.Cond.superclass C S).before a0 Z = true) (wk : (Jvm.Cond.instantiable K n).before a0 Z = true) (ns : NS Z C K) (hn : C ≠ K) : ∃ c t, Z.vm.findClass C = some c ∧ Z.vm.findClass K = some t ∧ Z.vm.assignable c t = false := by
  obtain ⟨c, t, h0, g0, n3⟩ := ns
  obtain ⟨p, k, kp, h1, h2, h3, h4, h5, -, h7⟩ := Cond.superclass_spec h0 w
  obtain ⟨t', kt, g1, g2, g3, g4, -, -⟩ := Cond.instantiable_spec wk
  cases g0.symm.trans g1
  have hi : kt.isInterface = false := (Bool.or_eq_false_iff.mp g4).1
  have ne := ids_ne h0 g0 hn
  refine ⟨c, t, h0, g0, ?_⟩
  show Z.vm.assignableAux (255 + 1) c t = false
  simp [Vm.assignableAux, ne, h2, g2, h5, g3, hi, Vm.isSubclass, n3]
/-- what a cached Integer's making leaves -/
def QC (Z : State) (h0 : Heap) (n0 : Nat) (v : Option Value) (h : Heap) (L : List Loc) : Prop := ∃ y : Addr, v = some (.ref y) ∧ Fr n0 L ∧ h = h0 ∧ Exa Z h0 y "java/lang/Integer"
theorem own_idx {t : Int32} (hlo : ¬ (t < (-128 : Int32))) (hhi : ¬ ((127 : Int32) < t)) : ¬ (t + (128 : Int32)) < 0 ∧ (t + (128 : Int32)) < 256 := by
  rw [Int32.lt_iff_toInt_lt] at hlo hhi
  have l1 : (-128 : Int32).toInt = -128 := rfl
  have l2 : (127 : Int32).toInt = 127 := rfl
  have l3 : (128 : Int32).toInt = 128 := rfl
  have l4 : (256 : Int32).toInt = 256 := rfl
  have l5 : (0 : Int32).toInt = 0 := rfl
  have a := c_iadd t 128
  have b := rng32 (t + 128)
  constructor
  · rw [Int32.lt_iff_toInt_lt]; omega
  · rw [Int32.lt_iff_toInt_lt]; omega
theorem own_cch {s : State} {args : Array Value} {t : Term} {x : Addr} (ht : ∀ idx, t.eval args s none idx s = some (.ref x)) (h1 : (Jvm.Cond.arrayOf t (.object "java/lang/Integer")).value args s none s [] = some true) (h2 : (Jvm.Cond.eq (.length t) (.int 256)).value args s none s [] = some true)
    (h3 : (Jvm.Cond.all t (Jvm.Cond.and (Jvm.Cond.exactly (.elem t (.index 0)) "java/lang/Integer") (Jvm.Cond.eq (.field (.elem t (.index 0)) "java/lang/Integer" "value" "I") (.sub (.index 0) (.int 128))))).value args s none s [] = some true) : Cch s s.heap x := by
  obtain ⟨c, A⟩ := Arr.start (ht []) h1
  obtain ⟨u, v, e1, e2, k1, k2⟩ := cmp_v (Or.inl h2)
  have q2 : v = .int 256 := (Option.some.inj e2).symm
  subst q2
  obtain ⟨z, rfl⟩ := k2
  have q3 := gotT (Jvm.Cond.eq_ints e1 e2) h2
  subst q3
  have ha : s.arrayAt? x = some c := A.fin (Vm.Alike.refl _)
  have hl : c.slots.size < 2 ^ 31 ∧ c.slots.size.toInt32 = 256 := by
    simp only [Term.eval, ht [], Option.bind_eq_bind, Option.bind_some, ha] at e1
    split at e1
    · rename_i q; exact ⟨q, by simpa using e1⟩
    · cases e1
  have hs : c.slots.size = 256 := by
    have q := congrArg Int32.toInt hl.2
    rw [len_toInt hl.1] at q
    have : (256 : Int32).toInt = 256 := rfl
    omega
  refine ⟨c, A, fun j j1 j2 => ?_⟩
  have jn := nat_of j1
  have j2' := Int32.lt_iff_toInt_lt.mp j2
  have l256 : (256 : Int32).toInt = 256 := rfl
  have jl : j.toNatClampNeg < c.slots.size := by omega
  have hin : ¬ (j < 0 ∨ c.slots.size ≤ j.toNatClampNeg) := fun q => q.elim j1 (by omega)
  have q := Cond.all_elim (ht []) ha h3 j.toNatClampNeg jl
  obtain ⟨q1, -⟩ := and_e q
  obtain ⟨y, ey⟩ := exa_v q1
  have E := exa_at ey q1
  refine ⟨hin, y, ?_, E⟩
  have r := (elem_in ey (ht _) (idx_at j1) A.1).2
  exact r
theorem own_bit (k : Int32) (c : Int32) (i : Nat) (h : k &&& c = 0) (hc : c.toBitVec.getLsbD i = true) : k.toBitVec.getLsbD i = false := by
  have q := congrArg (fun z : Int32 => z.toBitVec.getLsbD i) h
  simpa [hc] using q
theorem own_bits (k : Int32) : (k &&& 31 = 0) ↔ (k &&& 1 = 0 ∧ k &&& 2 = 0 ∧ k &&& 4 = 0 ∧ k &&& 8 = 0 ∧ k &&& 16 = 0) := by
  constructor
  · intro h
    have key : ∀ c : Int32, (31 : Int32) &&& c = c → k &&& c = 0 := fun c hc => by
      rw [← hc, ← Int32.and_assoc, h, Int32.zero_and]
    exact ⟨key 1 (by decide), key 2 (by decide), key 4 (by decide), key 8 (by decide), key 16 (by decide)⟩
  · rintro ⟨h0, h1, h2, h3, h4⟩
    have b0 := own_bit k 1 0 h0 (by decide)
    have b1 := own_bit k 2 1 h1 (by decide)
    have b2 := own_bit k 4 2 h2 (by decide)
    have b3 := own_bit k 8 3 h3 (by decide)
    have b4 := own_bit k 16 4 h4 (by decide)
    apply Int32.toBitVec_inj.1
    apply BitVec.eq_of_getLsbD_eq
    intro i hi
    have big : ∀ j : Nat, j < 32 → 5 ≤ j → (31 : Int32).toBitVec.getLsbD j = false := by decide
    rw [Int32.toBitVec_and, BitVec.getLsbD_and]
    have z : (0 : Int32).toBitVec.getLsbD i = false := by simp
    rw [z]
    have q : i = 0 ∨ i = 1 ∨ i = 2 ∨ i = 3 ∨ i = 4 ∨ 5 ≤ i := by omega
    rcases q with rfl | rfl | rfl | rfl | rfl | q
    · rw [b0]; rfl
    · rw [b1]; rfl
    · rw [b2]; rfl
    · rw [b3]; rfl
    · rw [b4]; rfl
    · rw [big i hi q, Bool.and_false]
theorem own_odd (k t : Int32) : ¬ t = t + ((k >>> ((8 : Int32) &&& 31)) ||| (1 : Int32)) := by
  intro h
  generalize hd : ((k >>> ((8 : Int32) &&& 31)) ||| (1 : Int32)) = d at h
  have a := c_iadd t d
  have b := rng32 d
  rw [← h] at a
  have d0 : d = 0 := Int32.toInt_inj.mp (by have : (0 : Int32).toInt = 0 := rfl; omega)
  rw [d0] at hd
  have q := congrArg (fun z : Int32 => z.toBitVec.getLsbD 0) hd
  simp at q
/-- a field of the second object is the first's just where its bit is off -/
theorem own_sel (k t c : Int32) : t = osel (decide (c = (0 : Int32))) t (t + ((k >>> ((8 : Int32) &&& 31)) ||| (1 : Int32))) ↔ c = 0 := by
  by_cases q : c = 0
  · simp [osel, q]
  · simp only [osel, q, decide_false, Bool.false_eq_true, if_false, iff_false]; exact own_odd k t
theorem own_all {u0 u1 u2 u3 u4 u5 dd v0 v1 v2 v3 v4 sm : Int32} (hdd : ((u5 >>> ((8 : Int32) &&& 31)) ||| (1 : Int32)) = dd) (hv0 : (osel (decide ((u5 &&& (1 : Int32)) = (0 : Int32))) u0 (u0 + dd)) = v0) (hv1 : (osel (decide ((u5 &&& (2 : Int32)) = (0 : Int32))) u1 (u1 + dd)) = v1) (hv2 : (osel (decide ((u5 &&& (4 : Int32)) = (0 : Int32))) u2 (u2 + dd)) = v2) (hv3 : (osel (decide ((u5 &&& (8 : Int32)) = (0 : Int32))) u3 (u3 + dd)) = v3) (hv4 : (osel (decide ((u5 &&& (16 : Int32)) = (0 : Int32))) u4 (u4 + dd)) = v4) (hsm : (osel (decide ((u5 &&& (31 : Int32)) = (0 : Int32))) (1 : Int32) (0 : Int32)) = sm) (e0 : u0 = v0) (e1 : u1 = v1) (e2 : u2 = v2) (e3 : u3 = v3) (e4 : u4 = v4) : (1 : Int32) = sm := by
  subst hdd
  rw [← hv0] at e0
  rw [← hv1] at e1
  rw [← hv2] at e2
  rw [← hv3] at e3
  rw [← hv4] at e4
  rw [← hsm, show (osel (decide ((u5 &&& (31 : Int32)) = (0 : Int32))) (1 : Int32) (0 : Int32)) = 1 from if_pos (decide_eq_true ((own_bits u5).mpr ⟨(own_sel u5 _ _).mp e0, (own_sel u5 _ _).mp e1, (own_sel u5 _ _).mp e2, (own_sel u5 _ _).mp e3, (own_sel u5 _ _).mp e4⟩))]
theorem own_not0 {u0 u5 dd v0 sm : Int32} (hdd : ((u5 >>> ((8 : Int32) &&& 31)) ||| (1 : Int32)) = dd) (hv0 : (osel (decide ((u5 &&& (1 : Int32)) = (0 : Int32))) u0 (u0 + dd)) = v0) (hsm : (osel (decide ((u5 &&& (31 : Int32)) = (0 : Int32))) (1 : Int32) (0 : Int32)) = sm) (ne : ¬ (u0 = v0)) : (0 : Int32) = sm := by
  subst hdd
  rw [← hv0] at ne
  rw [← hsm, show (osel (decide ((u5 &&& (31 : Int32)) = (0 : Int32))) (1 : Int32) (0 : Int32)) = 0 from if_neg (fun hh => ne ((own_sel u5 _ _).mpr ((own_bits u5).mp (of_decide_eq_true hh)).1))]
theorem own_not1 {u1 u5 dd v1 sm : Int32} (hdd : ((u5 >>> ((8 : Int32) &&& 31)) ||| (1 : Int32)) = dd) (hv1 : (osel (decide ((u5 &&& (2 : Int32)) = (0 : Int32))) u1 (u1 + dd)) = v1) (hsm : (osel (decide ((u5 &&& (31 : Int32)) = (0 : Int32))) (1 : Int32) (0 : Int32)) = sm) (ne : ¬ (u1 = v1)) : (0 : Int32) = sm := by
  subst hdd
  rw [← hv1] at ne
  rw [← hsm, show (osel (decide ((u5 &&& (31 : Int32)) = (0 : Int32))) (1 : Int32) (0 : Int32)) = 0 from if_neg (fun hh => ne ((own_sel u5 _ _).mpr ((own_bits u5).mp (of_decide_eq_true hh)).2.1))]
theorem own_not2 {u2 u5 dd v2 sm : Int32} (hdd : ((u5 >>> ((8 : Int32) &&& 31)) ||| (1 : Int32)) = dd) (hv2 : (osel (decide ((u5 &&& (4 : Int32)) = (0 : Int32))) u2 (u2 + dd)) = v2) (hsm : (osel (decide ((u5 &&& (31 : Int32)) = (0 : Int32))) (1 : Int32) (0 : Int32)) = sm) (ne : ¬ (u2 = v2)) : (0 : Int32) = sm := by
  subst hdd
  rw [← hv2] at ne
  rw [← hsm, show (osel (decide ((u5 &&& (31 : Int32)) = (0 : Int32))) (1 : Int32) (0 : Int32)) = 0 from if_neg (fun hh => ne ((own_sel u5 _ _).mpr ((own_bits u5).mp (of_decide_eq_true hh)).2.2.1))]
theorem own_not3 {u3 u5 dd v3 sm : Int32} (hdd : ((u5 >>> ((8 : Int32) &&& 31)) ||| (1 : Int32)) = dd) (hv3 : (osel (decide ((u5 &&& (8 : Int32)) = (0 : Int32))) u3 (u3 + dd)) = v3) (hsm : (osel (decide ((u5 &&& (31 : Int32)) = (0 : Int32))) (1 : Int32) (0 : Int32)) = sm) (ne : ¬ (u3 = v3)) : (0 : Int32) = sm := by
  subst hdd
  rw [← hv3] at ne
  rw [← hsm, show (osel (decide ((u5 &&& (31 : Int32)) = (0 : Int32))) (1 : Int32) (0 : Int32)) = 0 from if_neg (fun hh => ne ((own_sel u5 _ _).mpr ((own_bits u5).mp (of_decide_eq_true hh)).2.2.2.1))]
theorem own_not4 {u4 u5 dd v4 sm : Int32} (hdd : ((u5 >>> ((8 : Int32) &&& 31)) ||| (1 : Int32)) = dd) (hv4 : (osel (decide ((u5 &&& (16 : Int32)) = (0 : Int32))) u4 (u4 + dd)) = v4) (hsm : (osel (decide ((u5 &&& (31 : Int32)) = (0 : Int32))) (1 : Int32) (0 : Int32)) = sm) (ne : ¬ (u4 = v4)) : (0 : Int32) = sm := by
  subst hdd
  rw [← hv4] at ne
  rw [← hsm, show (osel (decide ((u5 &&& (31 : Int32)) = (0 : Int32))) (1 : Int32) (0 : Int32)) = 0 from if_neg (fun hh => ne ((own_sel u5 _ _).mpr ((own_bits u5).mp (of_decide_eq_true hh)).2.2.2.2))]
theorem d_jdk_33_method_22_code_0 : decode jdk_33_method_22_code 0 = .ok (.iload_n 0, 1) := by decide +kernel
theorem d_jdk_33_method_22_code_1 : decode jdk_33_method_22_code 1 = .ok (.bipush (-128), 2) := by decide +kernel
theorem d_jdk_33_method_22_code_3 : decode jdk_33_method_22_code 3 = .ok (.if_icmp .lt 20, 3) := by decide +kernel
theorem d_jdk_33_method_22_code_6 : decode jdk_33_method_22_code 6 = .ok (.iload_n 0, 1) := by decide +kernel
theorem d_jdk_33_method_22_code_7 : decode jdk_33_method_22_code 7 = .ok (.getstatic 191, 3) := by decide +kernel
theorem d_jdk_33_method_22_code_10 : decode jdk_33_method_22_code 10 = .ok (.if_icmp .gt 13, 3) := by decide +kernel
theorem d_jdk_33_method_22_code_13 : decode jdk_33_method_22_code 13 = .ok (.getstatic 195, 3) := by decide +kernel
theorem d_jdk_33_method_22_code_16 : decode jdk_33_method_22_code 16 = .ok (.iload_n 0, 1) := by decide +kernel
theorem d_jdk_33_method_22_code_17 : decode jdk_33_method_22_code 17 = .ok (.sipush 128, 3) := by decide +kernel
theorem d_jdk_33_method_22_code_20 : decode jdk_33_method_22_code 20 = .ok (.iadd, 1) := by decide +kernel
theorem d_jdk_33_method_22_code_21 : decode jdk_33_method_22_code 21 = .ok (.aaload, 1) := by decide +kernel
theorem d_jdk_33_method_22_code_22 : decode jdk_33_method_22_code 22 = .ok (.areturn, 1) := by decide +kernel
theorem pn_java_lang_Integer : plainName "java/lang/Integer" = true := by first | (simp [plainName, overriddenIn]; done) | decide +kernel
set_option maxRecDepth 65536 in
set_option maxHeartbeats 40000000 in
theorem rm_cached (l : Launch) (Z : State) (a0 : Array Value) (hw : ∀ d ∈ tables_1, d.before a0 Z = true) (w : Nat → Addr) (κ : Nat → ClassId) (h0 : Heap) (n0 : Nat) (Z0 : n0 ≤ h0.size) (K : Kon Z h0 w κ) (t : Int32) (hlo : ¬ (t < (-128 : Int32))) (hhi : ¬ ((127 : Int32) < t)) :
    OM l Z (⟨"java/lang/Integer", "valueOf", "(I)Ljava/lang/Integer;"⟩ : MethodName) jdk_33_method_22_code 1 (some (.object "java/lang/Integer")) [] ({ frames := 0, cells := 0, slots := 0, locals := 0 } : Room) #[(.int t)] h0 (QC Z h0 n0) := by
  refine MetFree.of_bodySF (plainFor_of_name pn_java_lang_Integer) hisR ?_
  intro p e s m args below meth c s₁ Bd hml0 hP hK
  obtain ⟨rfl, hZ, hh⟩ := hP
  have hx := Bd.exec
  have hby := Bd.bytes
  have hml : c.maxLocals = 1 := hml0
  have hown : s.vm.findClass "java/lang/Integer" = some m.cls := findClass_of_methodNamed Bd.named
  have X0 : Stand p l e ({ frames := 0, cells := 0, slots := 0, locals := 0 } : Room) s m #[(.int t)] below meth c s₁ [] 0 0 := Stand.of_body Bd
  have e0 : s₁.heap = h0 := by rw [← hh, Bd.state]; rfl
  have N0 := Fr.nil n0
  have pre0 : ∀ q, Steps p.tables e below (s₁.setTop (mkF m 0 #[.val (.int t)] [])) q → Steps p.tables e below (s₁.setTop (entryFrame m #[(.int t)] 1)) q := fun q k => castTop (by first | rfl | simp [entryFrame, mkF, argsToLocals, Value.category]) k
  obtain ⟨T1, X1, e1, st1⟩ := getS2 X0 hx hZ hown (host := "") (Or.inl (hw _ (List.mem_of_getElem? (i := 30) rfl))) Via.refl e0 K.1 (g := (mkF m 7 #[.val (.int t)] [(.int t)])) rfl (hb hby d_jdk_33_method_22_code_7)
  obtain ⟨T2, X2, e2, st2⟩ := getS2 X1 hx hZ hown (host := "") (Or.inl (hw _ (List.mem_of_getElem? (i := 32) rfl))) Via.refl e1 K.2.1 (g := (mkF m 13 #[.val (.int t)] [])) rfl (hb hby d_jdk_33_method_22_code_13)
  obtain ⟨cl, Ar, H⟩ := K.2.2
  obtain ⟨j1, j2⟩ := own_idx hlo hhi
  obtain ⟨hin, yI, hat, EI⟩ := H (t + (128 : Int32)) j1 j2
  obtain ⟨fs, hr, hrun, hended, hW, hsame⟩ := X2.leave (v := (some (.ref yI))) (fun h => by rw [Bd.returns] at h; cases h)
  refine ⟨_, _, pre0 _ ?_, hrun, hended, _, _, rfl, ?_, ⟨_, rfl⟩, hW, hsame.mono (by decide) (by decide)⟩
  · show Steps p.tables e below (s₁.setTop (mkF m 0 #[.val (.int t)] [])) _
    refine XS.iloadN X0.here hx rfl (hb hby d_jdk_33_method_22_code_0) rfl ?_
    show Steps p.tables e below (s₁.setTop (mkF m 1 #[.val (.int t)] [(.int t)])) _
    refine XS.bipush X0.here hx rfl (hb hby d_jdk_33_method_22_code_1) ?_
    show Steps p.tables e below (s₁.setTop (mkF m 3 #[.val (.int t)] [(.int (-128 : Int32)), (.int t)])) _
    refine XS.icmpNo X0.here hx rfl (hb hby d_jdk_33_method_22_code_3) rfl (flt hlo).1 ?_
    show Steps p.tables e below (s₁.setTop (mkF m 6 #[.val (.int t)] [])) _
    refine XS.iloadN X0.here hx rfl (hb hby d_jdk_33_method_22_code_6) rfl ?_
    show Steps p.tables e below (s₁.setTop (mkF m 7 #[.val (.int t)] [(.int t)])) _
    refine st1 _ ?_
    show Steps p.tables e below (T1.setTop (mkF m 10 #[.val (.int t)] [(.int (127 : Int32)), (.int t)])) _
    refine XS.icmpNo X1.here hx rfl (hb hby d_jdk_33_method_22_code_10) rfl (flt hhi).2.2.1 ?_
    show Steps p.tables e below (T1.setTop (mkF m 13 #[.val (.int t)] [])) _
    refine st2 _ ?_
    show Steps p.tables e below (T2.setTop (mkF m 16 #[.val (.int t)] [(.ref (w 0))])) _
    refine XS.iloadN X2.here hx rfl (hb hby d_jdk_33_method_22_code_16) rfl ?_
    show Steps p.tables e below (T2.setTop (mkF m 17 #[.val (.int t)] [(.int t), (.ref (w 0))])) _
    refine XS.sipush X2.here hx rfl (hb hby d_jdk_33_method_22_code_17) ?_
    show Steps p.tables e below (T2.setTop (mkF m 20 #[.val (.int t)] [(.int (128 : Int32)), (.int t), (.ref (w 0))])) _
    refine XS.iadd X2.here hx rfl (hb hby d_jdk_33_method_22_code_20) rfl ?_
    show Steps p.tables e below (T2.setTop (mkF m 21 #[.val (.int t)] [(.int (t + (128 : Int32))), (.ref (w 0))])) _
    refine X2.aaload hx (j := (t + (128 : Int32))) (v := (.ref yI)) (by rw [e2]; exact Ar.1) (State.isArrayOf_alike hZ.alike Ar.2.1) rfl Ar.2.2 hin hat (g := (mkF m 21 #[.val (.int t)] [(.int (t + (128 : Int32))), (.ref (w 0))])) rfl rfl (hb hby d_jdk_33_method_22_code_21) _ ?_
    show Steps p.tables e below (T2.setTop (mkF m 22 #[.val (.int t)] [(.ref yI)])) _
    jvm_step X2.here [X2.here.top, hx, (hb hby d_jdk_33_method_22_code_22), X2.method', Bd.returns, Value.isRef, FieldType.isReference]
    first | (intro acts; rw [hr _ acts rfl rfl rfl]) | rw [hr _ _ rfl rfl rfl]
    exact Steps.refl _
  · exact ⟨yI, rfl, N0, e2, EI⟩
theorem d_prog_31_method_1_code_0 : decode prog_31_method_1_code 0 = .ok (.aload_n 0, 1) := by decide +kernel
theorem d_prog_31_method_1_code_1 : decode prog_31_method_1_code 1 = .ok (.invokespecial 1, 3) := by decide +kernel
theorem d_prog_31_method_1_code_4 : decode prog_31_method_1_code 4 = .ok (.aload_n 0, 1) := by decide +kernel
theorem d_prog_31_method_1_code_5 : decode prog_31_method_1_code 5 = .ok (.iload_n 1, 1) := by decide +kernel
theorem d_prog_31_method_1_code_6 : decode prog_31_method_1_code 6 = .ok (.putfield 7, 3) := by decide +kernel
theorem d_prog_31_method_1_code_9 : decode prog_31_method_1_code 9 = .ok (.aload_n 0, 1) := by decide +kernel
theorem d_prog_31_method_1_code_10 : decode prog_31_method_1_code 10 = .ok (.iload_n 2, 1) := by decide +kernel
theorem d_prog_31_method_1_code_11 : decode prog_31_method_1_code 11 = .ok (.putfield 13, 3) := by decide +kernel
theorem d_prog_31_method_1_code_14 : decode prog_31_method_1_code 14 = .ok (.aload_n 0, 1) := by decide +kernel
theorem d_prog_31_method_1_code_15 : decode prog_31_method_1_code 15 = .ok (.iload_n 3, 1) := by decide +kernel
theorem d_prog_31_method_1_code_16 : decode prog_31_method_1_code 16 = .ok (.putfield 16, 3) := by decide +kernel
theorem d_prog_31_method_1_code_19 : decode prog_31_method_1_code 19 = .ok (.aload_n 0, 1) := by decide +kernel
theorem d_prog_31_method_1_code_20 : decode prog_31_method_1_code 20 = .ok (.iload 4, 2) := by decide +kernel
theorem d_prog_31_method_1_code_22 : decode prog_31_method_1_code 22 = .ok (.putfield 19, 3) := by decide +kernel
theorem d_prog_31_method_1_code_25 : decode prog_31_method_1_code 25 = .ok (.aload_n 0, 1) := by decide +kernel
theorem d_prog_31_method_1_code_26 : decode prog_31_method_1_code 26 = .ok (.iload 5, 2) := by decide +kernel
theorem d_prog_31_method_1_code_28 : decode prog_31_method_1_code 28 = .ok (.putfield 22, 3) := by decide +kernel
theorem d_prog_31_method_1_code_31 : decode prog_31_method_1_code 31 = .ok (.return_, 1) := by decide +kernel
def Q_rm__init__1 (Z : State) (w : Nat → Addr) (κ : Nat → ClassId) (n0 : Nat) (u0 u1 u2 u3 u4 u5 dd v0 v1 v2 v3 v4 sm : Int32) (b1 : Addr) (v : Option Value) (h : Heap) (L : List Loc) : Prop := (v = none) ∧ (Fr n0 L) ∧ (n0 ≤ h.size) ∧ (Kon Z h w κ) ∧ (Exa Z h b1 "com/example/bot_workflow_runner/botworkflowrunner/model/Progress") ∧ (Fld Z h b1 "com/example/bot_workflow_runner/botworkflowrunner/model/Progress" "total" "I" (.int u0)) ∧ (Fld Z h b1 "com/example/bot_workflow_runner/botworkflowrunner/model/Progress" "completed" "I" (.int u1)) ∧ (Fld Z h b1 "com/example/bot_workflow_runner/botworkflowrunner/model/Progress" "running" "I" (.int u2)) ∧ (Fld Z h b1 "com/example/bot_workflow_runner/botworkflowrunner/model/Progress" "failed" "I" (.int u3)) ∧ (Fld Z h b1 "com/example/bot_workflow_runner/botworkflowrunner/model/Progress" "skipped" "I" (.int u4))
theorem pn_com_example_bot_workflow_runner_botworkflowrunner_model_Progress : plainName "com/example/bot_workflow_runner/botworkflowrunner/model/Progress" = true := by first | (simp [plainName, overriddenIn]; done) | decide +kernel
theorem ef_prog_31_method_1_code_RIIIII (m : MethodId) (x0 : Addr) (x1 : Int32) (x2 : Int32) (x3 : Int32) (x4 : Int32) (x5 : Int32) : entryFrame m #[(.ref x0), (.int x1), (.int x2), (.int x3), (.int x4), (.int x5)] 6 = mkF m 0 #[.val (.ref x0), .val (.int x1), .val (.int x2), .val (.int x3), .val (.int x4), .val (.int x5)] [] := by first | (simp [entryFrame, mkF, argsToLocals, Value.category]; done) | rfl
set_option maxRecDepth 65536 in
set_option maxHeartbeats 40000000 in
theorem rm__init__1 (l : Launch) (Z : State) (a0 : Array Value) (hw : ∀ d ∈ tables_1, d.before a0 Z = true) (w : Nat → Addr) (κ : Nat → ClassId) (h0 : Heap) (n0 : Nat) (Z0 : n0 ≤ h0.size) (K : Kon Z h0 w κ) (u0 u1 u2 u3 u4 u5 dd v0 v1 v2 v3 v4 sm : Int32) (b1 : Addr) (fE_b1 : Exa Z h0 b1 "com/example/bot_workflow_runner/botworkflowrunner/model/Progress") (fF_b1_com_example_bot_workflow_runner_botworkflowrunner_model_Progress_total : Fld Z h0 b1 "com/example/bot_workflow_runner/botworkflowrunner/model/Progress" "total" "I" (.int (0 : Int32))) (fF_b1_com_example_bot_workflow_runner_botworkflowrunner_model_Progress_completed : Fld Z h0 b1 "com/example/bot_workflow_runner/botworkflowrunner/model/Progress" "completed" "I" (.int (0 : Int32))) (fF_b1_com_example_bot_workflow_runner_botworkflowrunner_model_Progress_running : Fld Z h0 b1 "com/example/bot_workflow_runner/botworkflowrunner/model/Progress" "running" "I" (.int (0 : Int32))) (fF_b1_com_example_bot_workflow_runner_botworkflowrunner_model_Progress_failed : Fld Z h0 b1 "com/example/bot_workflow_runner/botworkflowrunner/model/Progress" "failed" "I" (.int (0 : Int32))) (fF_b1_com_example_bot_workflow_runner_botworkflowrunner_model_Progress_skipped : Fld Z h0 b1 "com/example/bot_workflow_runner/botworkflowrunner/model/Progress" "skipped" "I" (.int (0 : Int32))) (fG_b1 : n0 ≤ b1) (fKN_b1 : ∀ i, i < 1 → w i ≠ b1) :
    OM l Z (⟨"com/example/bot_workflow_runner/botworkflowrunner/model/Progress", "<init>", "(IIIII)V"⟩ : MethodName) prog_31_method_1_code 6 none [] ({ frames := 1, cells := 0, slots := 0, locals := 12 } : Room) #[(.ref b1), (.int u0), (.int u1), (.int u2), (.int u3), (.int u4)] h0 (Q_rm__init__1 Z w κ n0 u0 u1 u2 u3 u4 u5 dd v0 v1 v2 v3 v4 sm b1) := by
  refine MetFree.of_bodySF (plainFor_of_name pn_com_example_bot_workflow_runner_botworkflowrunner_model_Progress) hisR ?_
  intro p e s m args below meth c s₁ Bd hml0 hP hK
  obtain ⟨rfl, hZ, hh⟩ := hP
  have hx := Bd.exec
  have hby := Bd.bytes
  have hml : c.maxLocals = 6 := hml0
  have hown : s.vm.findClass "com/example/bot_workflow_runner/botworkflowrunner/model/Progress" = some m.cls := findClass_of_methodNamed Bd.named
  have hnm := (name_of_methodNamed Bd.named Bd.method).1
  have X0 : Stand p l e ({ frames := 1, cells := 0, slots := 0, locals := 12 } : Room) s m #[(.ref b1), (.int u0), (.int u1), (.int u2), (.int u3), (.int u4)] below meth c s₁ [] 0 0 := Stand.of_body Bd
  have e0 : s₁.heap = h0 := by rw [← hh, Bd.state]; rfl
  have N0 := Fr.nil n0
  have pre0 : ∀ t, Steps p.tables e below (s₁.setTop (mkF m 0 #[.val (.ref b1), .val (.int u0), .val (.int u1), .val (.int u2), .val (.int u3), .val (.int u4)] [])) t → Steps p.tables e below (s₁.setTop (entryFrame m #[(.ref b1), (.int u0), (.int u1), (.int u2), (.int u3), (.int u4)] 6)) t := fun t k => castTop (ef_prog_31_method_1_code_RIIIII m b1 u0 u1 u2 u3 u4) k
  obtain ⟨T1, X1, e1, st1⟩ := initO X0 hx hZ hown (hw _ (List.mem_of_getElem? (i := 6) rfl)) (hw _ (List.mem_of_getElem? (i := 7) rfl)) (hw _ (List.mem_of_getElem? (i := 8) rfl)) e0 (g := (mkF m 1 #[.val (.ref b1), .val (.int u0), .val (.int u1), .val (.int u2), .val (.int u3), .val (.int u4)] [(.ref b1)])) rfl (by rw [hml]; rfl) rfl (hb hby d_prog_31_method_1_code_1) (by decide) (W := 0) (by show 2 * 0 + _ ≤ _; exact Nat.le_of_eq rfl) (by decide)
  obtain ⟨T2, h2, X2, e2, W2, st2⟩ := putF X1 hx hZ hown (host := "") (Or.inl (hw _ (List.mem_of_getElem? (i := 9) rfl))) Via.refl e1 fF_b1_com_example_bot_workflow_runner_botworkflowrunner_model_Progress_total fE_b1 (Or.inr ⟨(hw _ (List.mem_of_getElem? (i := 10) rfl)), rfl, hnm⟩) (hw _ (List.mem_of_getElem? (i := 1) rfl)) (ty := .int) (by decide) rfl rfl (g := (mkF m 6 #[.val (.ref b1), .val (.int u0), .val (.int u1), .val (.int u2), .val (.int u3), .val (.int u4)] [(.int u0), (.ref b1)])) rfl rfl (hb hby d_prog_31_method_1_code_6)
  have f2_fE_b1 : Exa Z h2 b1 "com/example/bot_workflow_runner/botworkflowrunner/model/Progress" := fE_b1.wr W2
  have f2_fF_b1_com_example_bot_workflow_runner_botworkflowrunner_model_Progress_total : Fld Z h2 b1 "com/example/bot_workflow_runner/botworkflowrunner/model/Progress" "total" "I" (.int u0) := fF_b1_com_example_bot_workflow_runner_botworkflowrunner_model_Progress_total.same W2
  have f2_fF_b1_com_example_bot_workflow_runner_botworkflowrunner_model_Progress_completed : Fld Z h2 b1 "com/example/bot_workflow_runner/botworkflowrunner/model/Progress" "completed" "I" (.int (0 : Int32)) := fF_b1_com_example_bot_workflow_runner_botworkflowrunner_model_Progress_completed.other W2 (Or.inr (slot_ne (Or.inr (hw _ (List.mem_of_getElem? (i := 12) rfl))) (Or.inr (hw _ (List.mem_of_getElem? (i := 10) rfl))) (by decide) (t := .int) (t' := .int) (by decide) (by decide)))
  have f2_fF_b1_com_example_bot_workflow_runner_botworkflowrunner_model_Progress_running : Fld Z h2 b1 "com/example/bot_workflow_runner/botworkflowrunner/model/Progress" "running" "I" (.int (0 : Int32)) := fF_b1_com_example_bot_workflow_runner_botworkflowrunner_model_Progress_running.other W2 (Or.inr (slot_ne (Or.inr (hw _ (List.mem_of_getElem? (i := 14) rfl))) (Or.inr (hw _ (List.mem_of_getElem? (i := 10) rfl))) (by decide) (t := .int) (t' := .int) (by decide) (by decide)))
  have f2_fF_b1_com_example_bot_workflow_runner_botworkflowrunner_model_Progress_failed : Fld Z h2 b1 "com/example/bot_workflow_runner/botworkflowrunner/model/Progress" "failed" "I" (.int (0 : Int32)) := fF_b1_com_example_bot_workflow_runner_botworkflowrunner_model_Progress_failed.other W2 (Or.inr (slot_ne (Or.inr (hw _ (List.mem_of_getElem? (i := 16) rfl))) (Or.inr (hw _ (List.mem_of_getElem? (i := 10) rfl))) (by decide) (t := .int) (t' := .int) (by decide) (by decide)))
  have f2_fF_b1_com_example_bot_workflow_runner_botworkflowrunner_model_Progress_skipped : Fld Z h2 b1 "com/example/bot_workflow_runner/botworkflowrunner/model/Progress" "skipped" "I" (.int (0 : Int32)) := fF_b1_com_example_bot_workflow_runner_botworkflowrunner_model_Progress_skipped.other W2 (Or.inr (slot_ne (Or.inr (hw _ (List.mem_of_getElem? (i := 18) rfl))) (Or.inr (hw _ (List.mem_of_getElem? (i := 10) rfl))) (by decide) (t := .int) (t' := .int) (by decide) (by decide)))
  have K2 := K.wr W2 fKN_b1
  have Z2 : n0 ≤ h2.size := Nat.le_trans Z0 (Nat.le_of_eq W2.size.symm)
  have N2 := Fr.snoc X2 N0 fG_b1
  obtain ⟨T3, h3, X3, e3, W3, st3⟩ := putF X2 hx hZ hown (host := "") (Or.inl (hw _ (List.mem_of_getElem? (i := 11) rfl))) Via.refl e2 f2_fF_b1_com_example_bot_workflow_runner_botworkflowrunner_model_Progress_completed f2_fE_b1 (Or.inr ⟨(hw _ (List.mem_of_getElem? (i := 12) rfl)), rfl, hnm⟩) (hw _ (List.mem_of_getElem? (i := 1) rfl)) (ty := .int) (by decide) rfl rfl (g := (mkF m 11 #[.val (.ref b1), .val (.int u0), .val (.int u1), .val (.int u2), .val (.int u3), .val (.int u4)] [(.int u1), (.ref b1)])) rfl rfl (hb hby d_prog_31_method_1_code_11)
  have f3_fE_b1 : Exa Z h3 b1 "com/example/bot_workflow_runner/botworkflowrunner/model/Progress" := f2_fE_b1.wr W3
  have f3_fF_b1_com_example_bot_workflow_runner_botworkflowrunner_model_Progress_total : Fld Z h3 b1 "com/example/bot_workflow_runner/botworkflowrunner/model/Progress" "total" "I" (.int u0) := f2_fF_b1_com_example_bot_workflow_runner_botworkflowrunner_model_Progress_total.other W3 (Or.inr (slot_ne (Or.inr (hw _ (List.mem_of_getElem? (i := 10) rfl))) (Or.inr (hw _ (List.mem_of_getElem? (i := 12) rfl))) (by decide) (t := .int) (t' := .int) (by decide) (by decide)))
  have f3_fF_b1_com_example_bot_workflow_runner_botworkflowrunner_model_Progress_completed : Fld Z h3 b1 "com/example/bot_workflow_runner/botworkflowrunner/model/Progress" "completed" "I" (.int u1) := f2_fF_b1_com_example_bot_workflow_runner_botworkflowrunner_model_Progress_completed.same W3
  have f3_fF_b1_com_example_bot_workflow_runner_botworkflowrunner_model_Progress_running : Fld Z h3 b1 "com/example/bot_workflow_runner/botworkflowrunner/model/Progress" "running" "I" (.int (0 : Int32)) := f2_fF_b1_com_example_bot_workflow_runner_botworkflowrunner_model_Progress_running.other W3 (Or.inr (slot_ne (Or.inr (hw _ (List.mem_of_getElem? (i := 14) rfl))) (Or.inr (hw _ (List.mem_of_getElem? (i := 12) rfl))) (by decide) (t := .int) (t' := .int) (by decide) (by decide)))
  have f3_fF_b1_com_example_bot_workflow_runner_botworkflowrunner_model_Progress_failed : Fld Z h3 b1 "com/example/bot_workflow_runner/botworkflowrunner/model/Progress" "failed" "I" (.int (0 : Int32)) := f2_fF_b1_com_example_bot_workflow_runner_botworkflowrunner_model_Progress_failed.other W3 (Or.inr (slot_ne (Or.inr (hw _ (List.mem_of_getElem? (i := 16) rfl))) (Or.inr (hw _ (List.mem_of_getElem? (i := 12) rfl))) (by decide) (t := .int) (t' := .int) (by decide) (by decide)))
  have f3_fF_b1_com_example_bot_workflow_runner_botworkflowrunner_model_Progress_skipped : Fld Z h3 b1 "com/example/bot_workflow_runner/botworkflowrunner/model/Progress" "skipped" "I" (.int (0 : Int32)) := f2_fF_b1_com_example_bot_workflow_runner_botworkflowrunner_model_Progress_skipped.other W3 (Or.inr (slot_ne (Or.inr (hw _ (List.mem_of_getElem? (i := 18) rfl))) (Or.inr (hw _ (List.mem_of_getElem? (i := 12) rfl))) (by decide) (t := .int) (t' := .int) (by decide) (by decide)))
  have K3 := K2.wr W3 fKN_b1
  have Z3 : n0 ≤ h3.size := Nat.le_trans Z2 (Nat.le_of_eq W3.size.symm)
  have N3 := Fr.snoc X3 N2 fG_b1
  obtain ⟨T4, h4, X4, e4, W4, st4⟩ := putF X3 hx hZ hown (host := "") (Or.inl (hw _ (List.mem_of_getElem? (i := 13) rfl))) Via.refl e3 f3_fF_b1_com_example_bot_workflow_runner_botworkflowrunner_model_Progress_running f3_fE_b1 (Or.inr ⟨(hw _ (List.mem_of_getElem? (i := 14) rfl)), rfl, hnm⟩) (hw _ (List.mem_of_getElem? (i := 1) rfl)) (ty := .int) (by decide) rfl rfl (g := (mkF m 16 #[.val (.ref b1), .val (.int u0), .val (.int u1), .val (.int u2), .val (.int u3), .val (.int u4)] [(.int u2), (.ref b1)])) rfl rfl (hb hby d_prog_31_method_1_code_16)
  have f4_fE_b1 : Exa Z h4 b1 "com/example/bot_workflow_runner/botworkflowrunner/model/Progress" := f3_fE_b1.wr W4
  have f4_fF_b1_com_example_bot_workflow_runner_botworkflowrunner_model_Progress_total : Fld Z h4 b1 "com/example/bot_workflow_runner/botworkflowrunner/model/Progress" "total" "I" (.int u0) := f3_fF_b1_com_example_bot_workflow_runner_botworkflowrunner_model_Progress_total.other W4 (Or.inr (slot_ne (Or.inr (hw _ (List.mem_of_getElem? (i := 10) rfl))) (Or.inr (hw _ (List.mem_of_getElem? (i := 14) rfl))) (by decide) (t := .int) (t' := .int) (by decide) (by decide)))
  have f4_fF_b1_com_example_bot_workflow_runner_botworkflowrunner_model_Progress_completed : Fld Z h4 b1 "com/example/bot_workflow_runner/botworkflowrunner/model/Progress" "completed" "I" (.int u1) := f3_fF_b1_com_example_bot_workflow_runner_botworkflowrunner_model_Progress_completed.other W4 (Or.inr (slot_ne (Or.inr (hw _ (List.mem_of_getElem? (i := 12) rfl))) (Or.inr (hw _ (List.mem_of_getElem? (i := 14) rfl))) (by decide) (t := .int) (t' := .int) (by decide) (by decide)))
  have f4_fF_b1_com_example_bot_workflow_runner_botworkflowrunner_model_Progress_running : Fld Z h4 b1 "com/example/bot_workflow_runner/botworkflowrunner/model/Progress" "running" "I" (.int u2) := f3_fF_b1_com_example_bot_workflow_runner_botworkflowrunner_model_Progress_running.same W4
  have f4_fF_b1_com_example_bot_workflow_runner_botworkflowrunner_model_Progress_failed : Fld Z h4 b1 "com/example/bot_workflow_runner/botworkflowrunner/model/Progress" "failed" "I" (.int (0 : Int32)) := f3_fF_b1_com_example_bot_workflow_runner_botworkflowrunner_model_Progress_failed.other W4 (Or.inr (slot_ne (Or.inr (hw _ (List.mem_of_getElem? (i := 16) rfl))) (Or.inr (hw _ (List.mem_of_getElem? (i := 14) rfl))) (by decide) (t := .int) (t' := .int) (by decide) (by decide)))
  have f4_fF_b1_com_example_bot_workflow_runner_botworkflowrunner_model_Progress_skipped : Fld Z h4 b1 "com/example/bot_workflow_runner/botworkflowrunner/model/Progress" "skipped" "I" (.int (0 : Int32)) := f3_fF_b1_com_example_bot_workflow_runner_botworkflowrunner_model_Progress_skipped.other W4 (Or.inr (slot_ne (Or.inr (hw _ (List.mem_of_getElem? (i := 18) rfl))) (Or.inr (hw _ (List.mem_of_getElem? (i := 14) rfl))) (by decide) (t := .int) (t' := .int) (by decide) (by decide)))
  have K4 := K3.wr W4 fKN_b1
  have Z4 : n0 ≤ h4.size := Nat.le_trans Z3 (Nat.le_of_eq W4.size.symm)
  have N4 := Fr.snoc X4 N3 fG_b1
  obtain ⟨T5, h5, X5, e5, W5, st5⟩ := putF X4 hx hZ hown (host := "") (Or.inl (hw _ (List.mem_of_getElem? (i := 15) rfl))) Via.refl e4 f4_fF_b1_com_example_bot_workflow_runner_botworkflowrunner_model_Progress_failed f4_fE_b1 (Or.inr ⟨(hw _ (List.mem_of_getElem? (i := 16) rfl)), rfl, hnm⟩) (hw _ (List.mem_of_getElem? (i := 1) rfl)) (ty := .int) (by decide) rfl rfl (g := (mkF m 22 #[.val (.ref b1), .val (.int u0), .val (.int u1), .val (.int u2), .val (.int u3), .val (.int u4)] [(.int u3), (.ref b1)])) rfl rfl (hb hby d_prog_31_method_1_code_22)
  have f5_fE_b1 : Exa Z h5 b1 "com/example/bot_workflow_runner/botworkflowrunner/model/Progress" := f4_fE_b1.wr W5
  have f5_fF_b1_com_example_bot_workflow_runner_botworkflowrunner_model_Progress_total : Fld Z h5 b1 "com/example/bot_workflow_runner/botworkflowrunner/model/Progress" "total" "I" (.int u0) := f4_fF_b1_com_example_bot_workflow_runner_botworkflowrunner_model_Progress_total.other W5 (Or.inr (slot_ne (Or.inr (hw _ (List.mem_of_getElem? (i := 10) rfl))) (Or.inr (hw _ (List.mem_of_getElem? (i := 16) rfl))) (by decide) (t := .int) (t' := .int) (by decide) (by decide)))
  have f5_fF_b1_com_example_bot_workflow_runner_botworkflowrunner_model_Progress_completed : Fld Z h5 b1 "com/example/bot_workflow_runner/botworkflowrunner/model/Progress" "completed" "I" (.int u1) := f4_fF_b1_com_example_bot_workflow_runner_botworkflowrunner_model_Progress_completed.other W5 (Or.inr (slot_ne (Or.inr (hw _ (List.mem_of_getElem? (i := 12) rfl))) (Or.inr (hw _ (List.mem_of_getElem? (i := 16) rfl))) (by decide) (t := .int) (t' := .int) (by decide) (by decide)))
  have f5_fF_b1_com_example_bot_workflow_runner_botworkflowrunner_model_Progress_running : Fld Z h5 b1 "com/example/bot_workflow_runner/botworkflowrunner/model/Progress" "running" "I" (.int u2) := f4_fF_b1_com_example_bot_workflow_runner_botworkflowrunner_model_Progress_running.other W5 (Or.inr (slot_ne (Or.inr (hw _ (List.mem_of_getElem? (i := 14) rfl))) (Or.inr (hw _ (List.mem_of_getElem? (i := 16) rfl))) (by decide) (t := .int) (t' := .int) (by decide) (by decide)))
  have f5_fF_b1_com_example_bot_workflow_runner_botworkflowrunner_model_Progress_failed : Fld Z h5 b1 "com/example/bot_workflow_runner/botworkflowrunner/model/Progress" "failed" "I" (.int u3) := f4_fF_b1_com_example_bot_workflow_runner_botworkflowrunner_model_Progress_failed.same W5
  have f5_fF_b1_com_example_bot_workflow_runner_botworkflowrunner_model_Progress_skipped : Fld Z h5 b1 "com/example/bot_workflow_runner/botworkflowrunner/model/Progress" "skipped" "I" (.int (0 : Int32)) := f4_fF_b1_com_example_bot_workflow_runner_botworkflowrunner_model_Progress_skipped.other W5 (Or.inr (slot_ne (Or.inr (hw _ (List.mem_of_getElem? (i := 18) rfl))) (Or.inr (hw _ (List.mem_of_getElem? (i := 16) rfl))) (by decide) (t := .int) (t' := .int) (by decide) (by decide)))
  have K5 := K4.wr W5 fKN_b1
  have Z5 : n0 ≤ h5.size := Nat.le_trans Z4 (Nat.le_of_eq W5.size.symm)
  have N5 := Fr.snoc X5 N4 fG_b1
  obtain ⟨T6, h6, X6, e6, W6, st6⟩ := putF X5 hx hZ hown (host := "") (Or.inl (hw _ (List.mem_of_getElem? (i := 17) rfl))) Via.refl e5 f5_fF_b1_com_example_bot_workflow_runner_botworkflowrunner_model_Progress_skipped f5_fE_b1 (Or.inr ⟨(hw _ (List.mem_of_getElem? (i := 18) rfl)), rfl, hnm⟩) (hw _ (List.mem_of_getElem? (i := 1) rfl)) (ty := .int) (by decide) rfl rfl (g := (mkF m 28 #[.val (.ref b1), .val (.int u0), .val (.int u1), .val (.int u2), .val (.int u3), .val (.int u4)] [(.int u4), (.ref b1)])) rfl rfl (hb hby d_prog_31_method_1_code_28)
  have f6_fE_b1 : Exa Z h6 b1 "com/example/bot_workflow_runner/botworkflowrunner/model/Progress" := f5_fE_b1.wr W6
  have f6_fF_b1_com_example_bot_workflow_runner_botworkflowrunner_model_Progress_total : Fld Z h6 b1 "com/example/bot_workflow_runner/botworkflowrunner/model/Progress" "total" "I" (.int u0) := f5_fF_b1_com_example_bot_workflow_runner_botworkflowrunner_model_Progress_total.other W6 (Or.inr (slot_ne (Or.inr (hw _ (List.mem_of_getElem? (i := 10) rfl))) (Or.inr (hw _ (List.mem_of_getElem? (i := 18) rfl))) (by decide) (t := .int) (t' := .int) (by decide) (by decide)))
  have f6_fF_b1_com_example_bot_workflow_runner_botworkflowrunner_model_Progress_completed : Fld Z h6 b1 "com/example/bot_workflow_runner/botworkflowrunner/model/Progress" "completed" "I" (.int u1) := f5_fF_b1_com_example_bot_workflow_runner_botworkflowrunner_model_Progress_completed.other W6 (Or.inr (slot_ne (Or.inr (hw _ (List.mem_of_getElem? (i := 12) rfl))) (Or.inr (hw _ (List.mem_of_getElem? (i := 18) rfl))) (by decide) (t := .int) (t' := .int) (by decide) (by decide)))
  have f6_fF_b1_com_example_bot_workflow_runner_botworkflowrunner_model_Progress_running : Fld Z h6 b1 "com/example/bot_workflow_runner/botworkflowrunner/model/Progress" "running" "I" (.int u2) := f5_fF_b1_com_example_bot_workflow_runner_botworkflowrunner_model_Progress_running.other W6 (Or.inr (slot_ne (Or.inr (hw _ (List.mem_of_getElem? (i := 14) rfl))) (Or.inr (hw _ (List.mem_of_getElem? (i := 18) rfl))) (by decide) (t := .int) (t' := .int) (by decide) (by decide)))
  have f6_fF_b1_com_example_bot_workflow_runner_botworkflowrunner_model_Progress_failed : Fld Z h6 b1 "com/example/bot_workflow_runner/botworkflowrunner/model/Progress" "failed" "I" (.int u3) := f5_fF_b1_com_example_bot_workflow_runner_botworkflowrunner_model_Progress_failed.other W6 (Or.inr (slot_ne (Or.inr (hw _ (List.mem_of_getElem? (i := 16) rfl))) (Or.inr (hw _ (List.mem_of_getElem? (i := 18) rfl))) (by decide) (t := .int) (t' := .int) (by decide) (by decide)))
  have f6_fF_b1_com_example_bot_workflow_runner_botworkflowrunner_model_Progress_skipped : Fld Z h6 b1 "com/example/bot_workflow_runner/botworkflowrunner/model/Progress" "skipped" "I" (.int u4) := f5_fF_b1_com_example_bot_workflow_runner_botworkflowrunner_model_Progress_skipped.same W6
  have K6 := K5.wr W6 fKN_b1
  have Z6 : n0 ≤ h6.size := Nat.le_trans Z5 (Nat.le_of_eq W6.size.symm)
  have N6 := Fr.snoc X6 N5 fG_b1
  obtain ⟨fs, hr, hrun, hended, hW, hsame⟩ := X6.leave (v := none) (fun _ => rfl)
  refine ⟨_, _, pre0 _ ?_, hrun, hended, _, _, rfl, ?_, ⟨_, rfl⟩, hW, hsame.mono (by decide) (by decide)⟩
  · show Steps p.tables e below (s₁.setTop (mkF m 0 #[.val (.ref b1), .val (.int u0), .val (.int u1), .val (.int u2), .val (.int u3), .val (.int u4)] [])) _
    refine XS.aloadN X0.here hx rfl (hb hby d_prog_31_method_1_code_0) rfl rfl ?_
    refine st1 _ ?_
    refine XS.aloadN X1.here hx rfl (hb hby d_prog_31_method_1_code_4) rfl rfl ?_
    show Steps p.tables e below (T1.setTop (mkF m 5 #[.val (.ref b1), .val (.int u0), .val (.int u1), .val (.int u2), .val (.int u3), .val (.int u4)] [(.ref b1)])) _
    refine XS.iloadN X1.here hx rfl (hb hby d_prog_31_method_1_code_5) rfl ?_
    refine st2 _ ?_
    refine XS.aloadN X2.here hx rfl (hb hby d_prog_31_method_1_code_9) rfl rfl ?_
    show Steps p.tables e below (T2.setTop (mkF m 10 #[.val (.ref b1), .val (.int u0), .val (.int u1), .val (.int u2), .val (.int u3), .val (.int u4)] [(.ref b1)])) _
    refine XS.iloadN X2.here hx rfl (hb hby d_prog_31_method_1_code_10) rfl ?_
    refine st3 _ ?_
    refine XS.aloadN X3.here hx rfl (hb hby d_prog_31_method_1_code_14) rfl rfl ?_
    show Steps p.tables e below (T3.setTop (mkF m 15 #[.val (.ref b1), .val (.int u0), .val (.int u1), .val (.int u2), .val (.int u3), .val (.int u4)] [(.ref b1)])) _
    refine XS.iloadN X3.here hx rfl (hb hby d_prog_31_method_1_code_15) rfl ?_
    refine st4 _ ?_
    refine XS.aloadN X4.here hx rfl (hb hby d_prog_31_method_1_code_19) rfl rfl ?_
    show Steps p.tables e below (T4.setTop (mkF m 20 #[.val (.ref b1), .val (.int u0), .val (.int u1), .val (.int u2), .val (.int u3), .val (.int u4)] [(.ref b1)])) _
    refine XS.iload X4.here hx rfl (hb hby d_prog_31_method_1_code_20) rfl ?_
    refine st5 _ ?_
    refine XS.aloadN X5.here hx rfl (hb hby d_prog_31_method_1_code_25) rfl rfl ?_
    show Steps p.tables e below (T5.setTop (mkF m 26 #[.val (.ref b1), .val (.int u0), .val (.int u1), .val (.int u2), .val (.int u3), .val (.int u4)] [(.ref b1)])) _
    refine XS.iload X5.here hx rfl (hb hby d_prog_31_method_1_code_26) rfl ?_
    refine st6 _ ?_
    show Steps p.tables e below (T6.setTop (mkF m 31 #[.val (.ref b1), .val (.int u0), .val (.int u1), .val (.int u2), .val (.int u3), .val (.int u4)] [])) _
    exact X6.returnOut hx Bd.returns (hb hby d_prog_31_method_1_code_31) hr
  · show Q_rm__init__1 Z w κ n0 u0 u1 u2 u3 u4 u5 dd v0 v1 v2 v3 v4 sm b1 _ T6.heap _
    rw [e6]
    exact ⟨rfl, N6, Z6, K6, f6_fE_b1, f6_fF_b1_com_example_bot_workflow_runner_botworkflowrunner_model_Progress_total, f6_fF_b1_com_example_bot_workflow_runner_botworkflowrunner_model_Progress_completed, f6_fF_b1_com_example_bot_workflow_runner_botworkflowrunner_model_Progress_running, f6_fF_b1_com_example_bot_workflow_runner_botworkflowrunner_model_Progress_failed, f6_fF_b1_com_example_bot_workflow_runner_botworkflowrunner_model_Progress_skipped⟩
theorem pd_28IIIII29V : parseMethodDescriptor "(IIIII)V" = some ⟨[.int, .int, .int, .int, .int], none⟩ := by decide +kernel
def Q_rm__init__2 (Z : State) (w : Nat → Addr) (κ : Nat → ClassId) (n0 : Nat) (u0 u1 u2 u3 u4 u5 dd v0 v1 v2 v3 v4 sm : Int32) (b1 : Addr) (b2 : Addr) (v : Option Value) (h : Heap) (L : List Loc) : Prop := (v = none) ∧ (Fr n0 L) ∧ (n0 ≤ h.size) ∧ (Kon Z h w κ) ∧ (Exa Z h b1 "com/example/bot_workflow_runner/botworkflowrunner/model/Progress") ∧ (Fld Z h b1 "com/example/bot_workflow_runner/botworkflowrunner/model/Progress" "total" "I" (.int u0)) ∧ (Fld Z h b1 "com/example/bot_workflow_runner/botworkflowrunner/model/Progress" "completed" "I" (.int u1)) ∧ (Fld Z h b1 "com/example/bot_workflow_runner/botworkflowrunner/model/Progress" "running" "I" (.int u2)) ∧ (Fld Z h b1 "com/example/bot_workflow_runner/botworkflowrunner/model/Progress" "failed" "I" (.int u3)) ∧ (Fld Z h b1 "com/example/bot_workflow_runner/botworkflowrunner/model/Progress" "skipped" "I" (.int u4)) ∧ (Exa Z h b2 "com/example/bot_workflow_runner/botworkflowrunner/model/Progress") ∧ (Fld Z h b2 "com/example/bot_workflow_runner/botworkflowrunner/model/Progress" "total" "I" (.int v0)) ∧ (Fld Z h b2 "com/example/bot_workflow_runner/botworkflowrunner/model/Progress" "completed" "I" (.int v1)) ∧ (Fld Z h b2 "com/example/bot_workflow_runner/botworkflowrunner/model/Progress" "running" "I" (.int v2)) ∧ (Fld Z h b2 "com/example/bot_workflow_runner/botworkflowrunner/model/Progress" "failed" "I" (.int v3)) ∧ (Fld Z h b2 "com/example/bot_workflow_runner/botworkflowrunner/model/Progress" "skipped" "I" (.int v4))
set_option maxRecDepth 65536 in
set_option maxHeartbeats 40000000 in
theorem rm__init__2 (l : Launch) (Z : State) (a0 : Array Value) (hw : ∀ d ∈ tables_1, d.before a0 Z = true) (w : Nat → Addr) (κ : Nat → ClassId) (h0 : Heap) (n0 : Nat) (Z0 : n0 ≤ h0.size) (K : Kon Z h0 w κ) (u0 u1 u2 u3 u4 u5 dd v0 v1 v2 v3 v4 sm : Int32) (b1 : Addr) (b2 : Addr) (fE_b1 : Exa Z h0 b1 "com/example/bot_workflow_runner/botworkflowrunner/model/Progress") (fF_b1_com_example_bot_workflow_runner_botworkflowrunner_model_Progress_total : Fld Z h0 b1 "com/example/bot_workflow_runner/botworkflowrunner/model/Progress" "total" "I" (.int u0)) (fF_b1_com_example_bot_workflow_runner_botworkflowrunner_model_Progress_completed : Fld Z h0 b1 "com/example/bot_workflow_runner/botworkflowrunner/model/Progress" "completed" "I" (.int u1)) (fF_b1_com_example_bot_workflow_runner_botworkflowrunner_model_Progress_running : Fld Z h0 b1 "com/example/bot_workflow_runner/botworkflowrunner/model/Progress" "running" "I" (.int u2)) (fF_b1_com_example_bot_workflow_runner_botworkflowrunner_model_Progress_failed : Fld Z h0 b1 "com/example/bot_workflow_runner/botworkflowrunner/model/Progress" "failed" "I" (.int u3)) (fF_b1_com_example_bot_workflow_runner_botworkflowrunner_model_Progress_skipped : Fld Z h0 b1 "com/example/bot_workflow_runner/botworkflowrunner/model/Progress" "skipped" "I" (.int u4)) (fE_b2 : Exa Z h0 b2 "com/example/bot_workflow_runner/botworkflowrunner/model/Progress") (fF_b2_com_example_bot_workflow_runner_botworkflowrunner_model_Progress_total : Fld Z h0 b2 "com/example/bot_workflow_runner/botworkflowrunner/model/Progress" "total" "I" (.int (0 : Int32))) (fF_b2_com_example_bot_workflow_runner_botworkflowrunner_model_Progress_completed : Fld Z h0 b2 "com/example/bot_workflow_runner/botworkflowrunner/model/Progress" "completed" "I" (.int (0 : Int32))) (fF_b2_com_example_bot_workflow_runner_botworkflowrunner_model_Progress_running : Fld Z h0 b2 "com/example/bot_workflow_runner/botworkflowrunner/model/Progress" "running" "I" (.int (0 : Int32))) (fF_b2_com_example_bot_workflow_runner_botworkflowrunner_model_Progress_failed : Fld Z h0 b2 "com/example/bot_workflow_runner/botworkflowrunner/model/Progress" "failed" "I" (.int (0 : Int32))) (fF_b2_com_example_bot_workflow_runner_botworkflowrunner_model_Progress_skipped : Fld Z h0 b2 "com/example/bot_workflow_runner/botworkflowrunner/model/Progress" "skipped" "I" (.int (0 : Int32))) (fG_b1 : n0 ≤ b1) (fKN_b1 : ∀ i, i < 1 → w i ≠ b1) (fG_b2 : n0 ≤ b2) (fN_b1_b2 : b1 ≠ b2) (fKN_b2 : ∀ i, i < 1 → w i ≠ b2) :
    OM l Z (⟨"com/example/bot_workflow_runner/botworkflowrunner/model/Progress", "<init>", "(IIIII)V"⟩ : MethodName) prog_31_method_1_code 6 none [] ({ frames := 1, cells := 0, slots := 0, locals := 12 } : Room) #[(.ref b2), (.int v0), (.int v1), (.int v2), (.int v3), (.int v4)] h0 (Q_rm__init__2 Z w κ n0 u0 u1 u2 u3 u4 u5 dd v0 v1 v2 v3 v4 sm b1 b2) := by
  refine MetFree.of_bodySF (plainFor_of_name pn_com_example_bot_workflow_runner_botworkflowrunner_model_Progress) hisR ?_
  intro p e s m args below meth c s₁ Bd hml0 hP hK
  obtain ⟨rfl, hZ, hh⟩ := hP
  have hx := Bd.exec
  have hby := Bd.bytes
  have hml : c.maxLocals = 6 := hml0
  have hown : s.vm.findClass "com/example/bot_workflow_runner/botworkflowrunner/model/Progress" = some m.cls := findClass_of_methodNamed Bd.named
  have hnm := (name_of_methodNamed Bd.named Bd.method).1
  have X0 : Stand p l e ({ frames := 1, cells := 0, slots := 0, locals := 12 } : Room) s m #[(.ref b2), (.int v0), (.int v1), (.int v2), (.int v3), (.int v4)] below meth c s₁ [] 0 0 := Stand.of_body Bd
  have e0 : s₁.heap = h0 := by rw [← hh, Bd.state]; rfl
  have N0 := Fr.nil n0
  have pre0 : ∀ t, Steps p.tables e below (s₁.setTop (mkF m 0 #[.val (.ref b2), .val (.int v0), .val (.int v1), .val (.int v2), .val (.int v3), .val (.int v4)] [])) t → Steps p.tables e below (s₁.setTop (entryFrame m #[(.ref b2), (.int v0), (.int v1), (.int v2), (.int v3), (.int v4)] 6)) t := fun t k => castTop (ef_prog_31_method_1_code_RIIIII m b2 v0 v1 v2 v3 v4) k
  obtain ⟨T1, X1, e1, st1⟩ := initO X0 hx hZ hown (hw _ (List.mem_of_getElem? (i := 6) rfl)) (hw _ (List.mem_of_getElem? (i := 7) rfl)) (hw _ (List.mem_of_getElem? (i := 8) rfl)) e0 (g := (mkF m 1 #[.val (.ref b2), .val (.int v0), .val (.int v1), .val (.int v2), .val (.int v3), .val (.int v4)] [(.ref b2)])) rfl (by rw [hml]; rfl) rfl (hb hby d_prog_31_method_1_code_1) (by decide) (W := 0) (by show 2 * 0 + _ ≤ _; exact Nat.le_of_eq rfl) (by decide)
  obtain ⟨T2, h2, X2, e2, W2, st2⟩ := putF X1 hx hZ hown (host := "") (Or.inl (hw _ (List.mem_of_getElem? (i := 9) rfl))) Via.refl e1 fF_b2_com_example_bot_workflow_runner_botworkflowrunner_model_Progress_total fE_b2 (Or.inr ⟨(hw _ (List.mem_of_getElem? (i := 10) rfl)), rfl, hnm⟩) (hw _ (List.mem_of_getElem? (i := 1) rfl)) (ty := .int) (by decide) rfl rfl (g := (mkF m 6 #[.val (.ref b2), .val (.int v0), .val (.int v1), .val (.int v2), .val (.int v3), .val (.int v4)] [(.int v0), (.ref b2)])) rfl rfl (hb hby d_prog_31_method_1_code_6)
  have f2_fE_b1 : Exa Z h2 b1 "com/example/bot_workflow_runner/botworkflowrunner/model/Progress" := fE_b1.wr W2
  have f2_fF_b1_com_example_bot_workflow_runner_botworkflowrunner_model_Progress_total : Fld Z h2 b1 "com/example/bot_workflow_runner/botworkflowrunner/model/Progress" "total" "I" (.int u0) := fF_b1_com_example_bot_workflow_runner_botworkflowrunner_model_Progress_total.other W2 (Or.inl fN_b1_b2)
  have f2_fF_b1_com_example_bot_workflow_runner_botworkflowrunner_model_Progress_completed : Fld Z h2 b1 "com/example/bot_workflow_runner/botworkflowrunner/model/Progress" "completed" "I" (.int u1) := fF_b1_com_example_bot_workflow_runner_botworkflowrunner_model_Progress_completed.other W2 (Or.inl fN_b1_b2)
  have f2_fF_b1_com_example_bot_workflow_runner_botworkflowrunner_model_Progress_running : Fld Z h2 b1 "com/example/bot_workflow_runner/botworkflowrunner/model/Progress" "running" "I" (.int u2) := fF_b1_com_example_bot_workflow_runner_botworkflowrunner_model_Progress_running.other W2 (Or.inl fN_b1_b2)
  have f2_fF_b1_com_example_bot_workflow_runner_botworkflowrunner_model_Progress_failed : Fld Z h2 b1 "com/example/bot_workflow_runner/botworkflowrunner/model/Progress" "failed" "I" (.int u3) := fF_b1_com_example_bot_workflow_runner_botworkflowrunner_model_Progress_failed.other W2 (Or.inl fN_b1_b2)
  have f2_fF_b1_com_example_bot_workflow_runner_botworkflowrunner_model_Progress_skipped : Fld Z h2 b1 "com/example/bot_workflow_runner/botworkflowrunner/model/Progress" "skipped" "I" (.int u4) := fF_b1_com_example_bot_workflow_runner_botworkflowrunner_model_Progress_skipped.other W2 (Or.inl fN_b1_b2)
  have f2_fE_b2 : Exa Z h2 b2 "com/example/bot_workflow_runner/botworkflowrunner/model/Progress" := fE_b2.wr W2
  have f2_fF_b2_com_example_bot_workflow_runner_botworkflowrunner_model_Progress_total : Fld Z h2 b2 "com/example/bot_workflow_runner/botworkflowrunner/model/Progress" "total" "I" (.int v0) := fF_b2_com_example_bot_workflow_runner_botworkflowrunner_model_Progress_total.same W2
  have f2_fF_b2_com_example_bot_workflow_runner_botworkflowrunner_model_Progress_completed : Fld Z h2 b2 "com/example/bot_workflow_runner/botworkflowrunner/model/Progress" "completed" "I" (.int (0 : Int32)) := fF_b2_com_example_bot_workflow_runner_botworkflowrunner_model_Progress_completed.other W2 (Or.inr (slot_ne (Or.inr (hw _ (List.mem_of_getElem? (i := 12) rfl))) (Or.inr (hw _ (List.mem_of_getElem? (i := 10) rfl))) (by decide) (t := .int) (t' := .int) (by decide) (by decide)))
  have f2_fF_b2_com_example_bot_workflow_runner_botworkflowrunner_model_Progress_running : Fld Z h2 b2 "com/example/bot_workflow_runner/botworkflowrunner/model/Progress" "running" "I" (.int (0 : Int32)) := fF_b2_com_example_bot_workflow_runner_botworkflowrunner_model_Progress_running.other W2 (Or.inr (slot_ne (Or.inr (hw _ (List.mem_of_getElem? (i := 14) rfl))) (Or.inr (hw _ (List.mem_of_getElem? (i := 10) rfl))) (by decide) (t := .int) (t' := .int) (by decide) (by decide)))
  have f2_fF_b2_com_example_bot_workflow_runner_botworkflowrunner_model_Progress_failed : Fld Z h2 b2 "com/example/bot_workflow_runner/botworkflowrunner/model/Progress" "failed" "I" (.int (0 : Int32)) := fF_b2_com_example_bot_workflow_runner_botworkflowrunner_model_Progress_failed.other W2 (Or.inr (slot_ne (Or.inr (hw _ (List.mem_of_getElem? (i := 16) rfl))) (Or.inr (hw _ (List.mem_of_getElem? (i := 10) rfl))) (by decide) (t := .int) (t' := .int) (by decide) (by decide)))
  have f2_fF_b2_com_example_bot_workflow_runner_botworkflowrunner_model_Progress_skipped : Fld Z h2 b2 "com/example/bot_workflow_runner/botworkflowrunner/model/Progress" "skipped" "I" (.int (0 : Int32)) := fF_b2_com_example_bot_workflow_runner_botworkflowrunner_model_Progress_skipped.other W2 (Or.inr (slot_ne (Or.inr (hw _ (List.mem_of_getElem? (i := 18) rfl))) (Or.inr (hw _ (List.mem_of_getElem? (i := 10) rfl))) (by decide) (t := .int) (t' := .int) (by decide) (by decide)))
  have K2 := K.wr W2 fKN_b2
  have Z2 : n0 ≤ h2.size := Nat.le_trans Z0 (Nat.le_of_eq W2.size.symm)
  have N2 := Fr.snoc X2 N0 fG_b2
  obtain ⟨T3, h3, X3, e3, W3, st3⟩ := putF X2 hx hZ hown (host := "") (Or.inl (hw _ (List.mem_of_getElem? (i := 11) rfl))) Via.refl e2 f2_fF_b2_com_example_bot_workflow_runner_botworkflowrunner_model_Progress_completed f2_fE_b2 (Or.inr ⟨(hw _ (List.mem_of_getElem? (i := 12) rfl)), rfl, hnm⟩) (hw _ (List.mem_of_getElem? (i := 1) rfl)) (ty := .int) (by decide) rfl rfl (g := (mkF m 11 #[.val (.ref b2), .val (.int v0), .val (.int v1), .val (.int v2), .val (.int v3), .val (.int v4)] [(.int v1), (.ref b2)])) rfl rfl (hb hby d_prog_31_method_1_code_11)
  have f3_fE_b1 : Exa Z h3 b1 "com/example/bot_workflow_runner/botworkflowrunner/model/Progress" := f2_fE_b1.wr W3
  have f3_fF_b1_com_example_bot_workflow_runner_botworkflowrunner_model_Progress_total : Fld Z h3 b1 "com/example/bot_workflow_runner/botworkflowrunner/model/Progress" "total" "I" (.int u0) := f2_fF_b1_com_example_bot_workflow_runner_botworkflowrunner_model_Progress_total.other W3 (Or.inl fN_b1_b2)
  have f3_fF_b1_com_example_bot_workflow_runner_botworkflowrunner_model_Progress_completed : Fld Z h3 b1 "com/example/bot_workflow_runner/botworkflowrunner/model/Progress" "completed" "I" (.int u1) := f2_fF_b1_com_example_bot_workflow_runner_botworkflowrunner_model_Progress_completed.other W3 (Or.inl fN_b1_b2)
  have f3_fF_b1_com_example_bot_workflow_runner_botworkflowrunner_model_Progress_running : Fld Z h3 b1 "com/example/bot_workflow_runner/botworkflowrunner/model/Progress" "running" "I" (.int u2) := f2_fF_b1_com_example_bot_workflow_runner_botworkflowrunner_model_Progress_running.other W3 (Or.inl fN_b1_b2)
  have f3_fF_b1_com_example_bot_workflow_runner_botworkflowrunner_model_Progress_failed : Fld Z h3 b1 "com/example/bot_workflow_runner/botworkflowrunner/model/Progress" "failed" "I" (.int u3) := f2_fF_b1_com_example_bot_workflow_runner_botworkflowrunner_model_Progress_failed.other W3 (Or.inl fN_b1_b2)
  have f3_fF_b1_com_example_bot_workflow_runner_botworkflowrunner_model_Progress_skipped : Fld Z h3 b1 "com/example/bot_workflow_runner/botworkflowrunner/model/Progress" "skipped" "I" (.int u4) := f2_fF_b1_com_example_bot_workflow_runner_botworkflowrunner_model_Progress_skipped.other W3 (Or.inl fN_b1_b2)
  have f3_fE_b2 : Exa Z h3 b2 "com/example/bot_workflow_runner/botworkflowrunner/model/Progress" := f2_fE_b2.wr W3
  have f3_fF_b2_com_example_bot_workflow_runner_botworkflowrunner_model_Progress_total : Fld Z h3 b2 "com/example/bot_workflow_runner/botworkflowrunner/model/Progress" "total" "I" (.int v0) := f2_fF_b2_com_example_bot_workflow_runner_botworkflowrunner_model_Progress_total.other W3 (Or.inr (slot_ne (Or.inr (hw _ (List.mem_of_getElem? (i := 10) rfl))) (Or.inr (hw _ (List.mem_of_getElem? (i := 12) rfl))) (by decide) (t := .int) (t' := .int) (by decide) (by decide)))
  have f3_fF_b2_com_example_bot_workflow_runner_botworkflowrunner_model_Progress_completed : Fld Z h3 b2 "com/example/bot_workflow_runner/botworkflowrunner/model/Progress" "completed" "I" (.int v1) := f2_fF_b2_com_example_bot_workflow_runner_botworkflowrunner_model_Progress_completed.same W3
  have f3_fF_b2_com_example_bot_workflow_runner_botworkflowrunner_model_Progress_running : Fld Z h3 b2 "com/example/bot_workflow_runner/botworkflowrunner/model/Progress" "running" "I" (.int (0 : Int32)) := f2_fF_b2_com_example_bot_workflow_runner_botworkflowrunner_model_Progress_running.other W3 (Or.inr (slot_ne (Or.inr (hw _ (List.mem_of_getElem? (i := 14) rfl))) (Or.inr (hw _ (List.mem_of_getElem? (i := 12) rfl))) (by decide) (t := .int) (t' := .int) (by decide) (by decide)))
  have f3_fF_b2_com_example_bot_workflow_runner_botworkflowrunner_model_Progress_failed : Fld Z h3 b2 "com/example/bot_workflow_runner/botworkflowrunner/model/Progress" "failed" "I" (.int (0 : Int32)) := f2_fF_b2_com_example_bot_workflow_runner_botworkflowrunner_model_Progress_failed.other W3 (Or.inr (slot_ne (Or.inr (hw _ (List.mem_of_getElem? (i := 16) rfl))) (Or.inr (hw _ (List.mem_of_getElem? (i := 12) rfl))) (by decide) (t := .int) (t' := .int) (by decide) (by decide)))
  have f3_fF_b2_com_example_bot_workflow_runner_botworkflowrunner_model_Progress_skipped : Fld Z h3 b2 "com/example/bot_workflow_runner/botworkflowrunner/model/Progress" "skipped" "I" (.int (0 : Int32)) := f2_fF_b2_com_example_bot_workflow_runner_botworkflowrunner_model_Progress_skipped.other W3 (Or.inr (slot_ne (Or.inr (hw _ (List.mem_of_getElem? (i := 18) rfl))) (Or.inr (hw _ (List.mem_of_getElem? (i := 12) rfl))) (by decide) (t := .int) (t' := .int) (by decide) (by decide)))
  have K3 := K2.wr W3 fKN_b2
  have Z3 : n0 ≤ h3.size := Nat.le_trans Z2 (Nat.le_of_eq W3.size.symm)
  have N3 := Fr.snoc X3 N2 fG_b2
  obtain ⟨T4, h4, X4, e4, W4, st4⟩ := putF X3 hx hZ hown (host := "") (Or.inl (hw _ (List.mem_of_getElem? (i := 13) rfl))) Via.refl e3 f3_fF_b2_com_example_bot_workflow_runner_botworkflowrunner_model_Progress_running f3_fE_b2 (Or.inr ⟨(hw _ (List.mem_of_getElem? (i := 14) rfl)), rfl, hnm⟩) (hw _ (List.mem_of_getElem? (i := 1) rfl)) (ty := .int) (by decide) rfl rfl (g := (mkF m 16 #[.val (.ref b2), .val (.int v0), .val (.int v1), .val (.int v2), .val (.int v3), .val (.int v4)] [(.int v2), (.ref b2)])) rfl rfl (hb hby d_prog_31_method_1_code_16)
  have f4_fE_b1 : Exa Z h4 b1 "com/example/bot_workflow_runner/botworkflowrunner/model/Progress" := f3_fE_b1.wr W4
  have f4_fF_b1_com_example_bot_workflow_runner_botworkflowrunner_model_Progress_total : Fld Z h4 b1 "com/example/bot_workflow_runner/botworkflowrunner/model/Progress" "total" "I" (.int u0) := f3_fF_b1_com_example_bot_workflow_runner_botworkflowrunner_model_Progress_total.other W4 (Or.inl fN_b1_b2)
  have f4_fF_b1_com_example_bot_workflow_runner_botworkflowrunner_model_Progress_completed : Fld Z h4 b1 "com/example/bot_workflow_runner/botworkflowrunner/model/Progress" "completed" "I" (.int u1) := f3_fF_b1_com_example_bot_workflow_runner_botworkflowrunner_model_Progress_completed.other W4 (Or.inl fN_b1_b2)
  have f4_fF_b1_com_example_bot_workflow_runner_botworkflowrunner_model_Progress_running : Fld Z h4 b1 "com/example/bot_workflow_runner/botworkflowrunner/model/Progress" "running" "I" (.int u2) := f3_fF_b1_com_example_bot_workflow_runner_botworkflowrunner_model_Progress_running.other W4 (Or.inl fN_b1_b2)
  have f4_fF_b1_com_example_bot_workflow_runner_botworkflowrunner_model_Progress_failed : Fld Z h4 b1 "com/example/bot_workflow_runner/botworkflowrunner/model/Progress" "failed" "I" (.int u3) := f3_fF_b1_com_example_bot_workflow_runner_botworkflowrunner_model_Progress_failed.other W4 (Or.inl fN_b1_b2)
  have f4_fF_b1_com_example_bot_workflow_runner_botworkflowrunner_model_Progress_skipped : Fld Z h4 b1 "com/example/bot_workflow_runner/botworkflowrunner/model/Progress" "skipped" "I" (.int u4) := f3_fF_b1_com_example_bot_workflow_runner_botworkflowrunner_model_Progress_skipped.other W4 (Or.inl fN_b1_b2)
  have f4_fE_b2 : Exa Z h4 b2 "com/example/bot_workflow_runner/botworkflowrunner/model/Progress" := f3_fE_b2.wr W4
  have f4_fF_b2_com_example_bot_workflow_runner_botworkflowrunner_model_Progress_total : Fld Z h4 b2 "com/example/bot_workflow_runner/botworkflowrunner/model/Progress" "total" "I" (.int v0) := f3_fF_b2_com_example_bot_workflow_runner_botworkflowrunner_model_Progress_total.other W4 (Or.inr (slot_ne (Or.inr (hw _ (List.mem_of_getElem? (i := 10) rfl))) (Or.inr (hw _ (List.mem_of_getElem? (i := 14) rfl))) (by decide) (t := .int) (t' := .int) (by decide) (by decide)))
  have f4_fF_b2_com_example_bot_workflow_runner_botworkflowrunner_model_Progress_completed : Fld Z h4 b2 "com/example/bot_workflow_runner/botworkflowrunner/model/Progress" "completed" "I" (.int v1) := f3_fF_b2_com_example_bot_workflow_runner_botworkflowrunner_model_Progress_completed.other W4 (Or.inr (slot_ne (Or.inr (hw _ (List.mem_of_getElem? (i := 12) rfl))) (Or.inr (hw _ (List.mem_of_getElem? (i := 14) rfl))) (by decide) (t := .int) (t' := .int) (by decide) (by decide)))
  have f4_fF_b2_com_example_bot_workflow_runner_botworkflowrunner_model_Progress_running : Fld Z h4 b2 "com/example/bot_workflow_runner/botworkflowrunner/model/Progress" "running" "I" (.int v2) := f3_fF_b2_com_example_bot_workflow_runner_botworkflowrunner_model_Progress_running.same W4
  have f4_fF_b2_com_example_bot_workflow_runner_botworkflowrunner_model_Progress_failed : Fld Z h4 b2 "com/example/bot_workflow_runner/botworkflowrunner/model/Progress" "failed" "I" (.int (0 : Int32)) := f3_fF_b2_com_example_bot_workflow_runner_botworkflowrunner_model_Progress_failed.other W4 (Or.inr (slot_ne (Or.inr (hw _ (List.mem_of_getElem? (i := 16) rfl))) (Or.inr (hw _ (List.mem_of_getElem? (i := 14) rfl))) (by decide) (t := .int) (t' := .int) (by decide) (by decide)))
  have f4_fF_b2_com_example_bot_workflow_runner_botworkflowrunner_model_Progress_skipped : Fld Z h4 b2 "com/example/bot_workflow_runner/botworkflowrunner/model/Progress" "skipped" "I" (.int (0 : Int32)) := f3_fF_b2_com_example_bot_workflow_runner_botworkflowrunner_model_Progress_skipped.other W4 (Or.inr (slot_ne (Or.inr (hw _ (List.mem_of_getElem? (i := 18) rfl))) (Or.inr (hw _ (List.mem_of_getElem? (i := 14) rfl))) (by decide) (t := .int) (t' := .int) (by decide) (by decide)))
  have K4 := K3.wr W4 fKN_b2
  have Z4 : n0 ≤ h4.size := Nat.le_trans Z3 (Nat.le_of_eq W4.size.symm)
  have N4 := Fr.snoc X4 N3 fG_b2
  obtain ⟨T5, h5, X5, e5, W5, st5⟩ := putF X4 hx hZ hown (host := "") (Or.inl (hw _ (List.mem_of_getElem? (i := 15) rfl))) Via.refl e4 f4_fF_b2_com_example_bot_workflow_runner_botworkflowrunner_model_Progress_failed f4_fE_b2 (Or.inr ⟨(hw _ (List.mem_of_getElem? (i := 16) rfl)), rfl, hnm⟩) (hw _ (List.mem_of_getElem? (i := 1) rfl)) (ty := .int) (by decide) rfl rfl (g := (mkF m 22 #[.val (.ref b2), .val (.int v0), .val (.int v1), .val (.int v2), .val (.int v3), .val (.int v4)] [(.int v3), (.ref b2)])) rfl rfl (hb hby d_prog_31_method_1_code_22)
  have f5_fE_b1 : Exa Z h5 b1 "com/example/bot_workflow_runner/botworkflowrunner/model/Progress" := f4_fE_b1.wr W5
  have f5_fF_b1_com_example_bot_workflow_runner_botworkflowrunner_model_Progress_total : Fld Z h5 b1 "com/example/bot_workflow_runner/botworkflowrunner/model/Progress" "total" "I" (.int u0) := f4_fF_b1_com_example_bot_workflow_runner_botworkflowrunner_model_Progress_total.other W5 (Or.inl fN_b1_b2)
  have f5_fF_b1_com_example_bot_workflow_runner_botworkflowrunner_model_Progress_completed : Fld Z h5 b1 "com/example/bot_workflow_runner/botworkflowrunner/model/Progress" "completed" "I" (.int u1) := f4_fF_b1_com_example_bot_workflow_runner_botworkflowrunner_model_Progress_completed.other W5 (Or.inl fN_b1_b2)
  have f5_fF_b1_com_example_bot_workflow_runner_botworkflowrunner_model_Progress_running : Fld Z h5 b1 "com/example/bot_workflow_runner/botworkflowrunner/model/Progress" "running" "I" (.int u2) := f4_fF_b1_com_example_bot_workflow_runner_botworkflowrunner_model_Progress_running.other W5 (Or.inl fN_b1_b2)
  have f5_fF_b1_com_example_bot_workflow_runner_botworkflowrunner_model_Progress_failed : Fld Z h5 b1 "com/example/bot_workflow_runner/botworkflowrunner/model/Progress" "failed" "I" (.int u3) := f4_fF_b1_com_example_bot_workflow_runner_botworkflowrunner_model_Progress_failed.other W5 (Or.inl fN_b1_b2)
  have f5_fF_b1_com_example_bot_workflow_runner_botworkflowrunner_model_Progress_skipped : Fld Z h5 b1 "com/example/bot_workflow_runner/botworkflowrunner/model/Progress" "skipped" "I" (.int u4) := f4_fF_b1_com_example_bot_workflow_runner_botworkflowrunner_model_Progress_skipped.other W5 (Or.inl fN_b1_b2)
  have f5_fE_b2 : Exa Z h5 b2 "com/example/bot_workflow_runner/botworkflowrunner/model/Progress" := f4_fE_b2.wr W5
  have f5_fF_b2_com_example_bot_workflow_runner_botworkflowrunner_model_Progress_total : Fld Z h5 b2 "com/example/bot_workflow_runner/botworkflowrunner/model/Progress" "total" "I" (.int v0) := f4_fF_b2_com_example_bot_workflow_runner_botworkflowrunner_model_Progress_total.other W5 (Or.inr (slot_ne (Or.inr (hw _ (List.mem_of_getElem? (i := 10) rfl))) (Or.inr (hw _ (List.mem_of_getElem? (i := 16) rfl))) (by decide) (t := .int) (t' := .int) (by decide) (by decide)))
  have f5_fF_b2_com_example_bot_workflow_runner_botworkflowrunner_model_Progress_completed : Fld Z h5 b2 "com/example/bot_workflow_runner/botworkflowrunner/model/Progress" "completed" "I" (.int v1) := f4_fF_b2_com_example_bot_workflow_runner_botworkflowrunner_model_Progress_completed.other W5 (Or.inr (slot_ne (Or.inr (hw _ (List.mem_of_getElem? (i := 12) rfl))) (Or.inr (hw _ (List.mem_of_getElem? (i := 16) rfl))) (by decide) (t := .int) (t' := .int) (by decide) (by decide)))
  have f5_fF_b2_com_example_bot_workflow_runner_botworkflowrunner_model_Progress_running : Fld Z h5 b2 "com/example/bot_workflow_runner/botworkflowrunner/model/Progress" "running" "I" (.int v2) := f4_fF_b2_com_example_bot_workflow_runner_botworkflowrunner_model_Progress_running.other W5 (Or.inr (slot_ne (Or.inr (hw _ (List.mem_of_getElem? (i := 14) rfl))) (Or.inr (hw _ (List.mem_of_getElem? (i := 16) rfl))) (by decide) (t := .int) (t' := .int) (by decide) (by decide)))
  have f5_fF_b2_com_example_bot_workflow_runner_botworkflowrunner_model_Progress_failed : Fld Z h5 b2 "com/example/bot_workflow_runner/botworkflowrunner/model/Progress" "failed" "I" (.int v3) := f4_fF_b2_com_example_bot_workflow_runner_botworkflowrunner_model_Progress_failed.same W5
  have f5_fF_b2_com_example_bot_workflow_runner_botworkflowrunner_model_Progress_skipped : Fld Z h5 b2 "com/example/bot_workflow_runner/botworkflowrunner/model/Progress" "skipped" "I" (.int (0 : Int32)) := f4_fF_b2_com_example_bot_workflow_runner_botworkflowrunner_model_Progress_skipped.other W5 (Or.inr (slot_ne (Or.inr (hw _ (List.mem_of_getElem? (i := 18) rfl))) (Or.inr (hw _ (List.mem_of_getElem? (i := 16) rfl))) (by decide) (t := .int) (t' := .int) (by decide) (by decide)))
  have K5 := K4.wr W5 fKN_b2
  have Z5 : n0 ≤ h5.size := Nat.le_trans Z4 (Nat.le_of_eq W5.size.symm)
  have N5 := Fr.snoc X5 N4 fG_b2
  obtain ⟨T6, h6, X6, e6, W6, st6⟩ := putF X5 hx hZ hown (host := "") (Or.inl (hw _ (List.mem_of_getElem? (i := 17) rfl))) Via.refl e5 f5_fF_b2_com_example_bot_workflow_runner_botworkflowrunner_model_Progress_skipped f5_fE_b2 (Or.inr ⟨(hw _ (List.mem_of_getElem? (i := 18) rfl)), rfl, hnm⟩) (hw _ (List.mem_of_getElem? (i := 1) rfl)) (ty := .int) (by decide) rfl rfl (g := (mkF m 28 #[.val (.ref b2), .val (.int v0), .val (.int v1), .val (.int v2), .val (.int v3), .val (.int v4)] [(.int v4), (.ref b2)])) rfl rfl (hb hby d_prog_31_method_1_code_28)
  have f6_fE_b1 : Exa Z h6 b1 "com/example/bot_workflow_runner/botworkflowrunner/model/Progress" := f5_fE_b1.wr W6
  have f6_fF_b1_com_example_bot_workflow_runner_botworkflowrunner_model_Progress_total : Fld Z h6 b1 "com/example/bot_workflow_runner/botworkflowrunner/model/Progress" "total" "I" (.int u0) := f5_fF_b1_com_example_bot_workflow_runner_botworkflowrunner_model_Progress_total.other W6 (Or.inl fN_b1_b2)
  have f6_fF_b1_com_example_bot_workflow_runner_botworkflowrunner_model_Progress_completed : Fld Z h6 b1 "com/example/bot_workflow_runner/botworkflowrunner/model/Progress" "completed" "I" (.int u1) := f5_fF_b1_com_example_bot_workflow_runner_botworkflowrunner_model_Progress_completed.other W6 (Or.inl fN_b1_b2)
  have f6_fF_b1_com_example_bot_workflow_runner_botworkflowrunner_model_Progress_running : Fld Z h6 b1 "com/example/bot_workflow_runner/botworkflowrunner/model/Progress" "running" "I" (.int u2) := f5_fF_b1_com_example_bot_workflow_runner_botworkflowrunner_model_Progress_running.other W6 (Or.inl fN_b1_b2)
  have f6_fF_b1_com_example_bot_workflow_runner_botworkflowrunner_model_Progress_failed : Fld Z h6 b1 "com/example/bot_workflow_runner/botworkflowrunner/model/Progress" "failed" "I" (.int u3) := f5_fF_b1_com_example_bot_workflow_runner_botworkflowrunner_model_Progress_failed.other W6 (Or.inl fN_b1_b2)
  have f6_fF_b1_com_example_bot_workflow_runner_botworkflowrunner_model_Progress_skipped : Fld Z h6 b1 "com/example/bot_workflow_runner/botworkflowrunner/model/Progress" "skipped" "I" (.int u4) := f5_fF_b1_com_example_bot_workflow_runner_botworkflowrunner_model_Progress_skipped.other W6 (Or.inl fN_b1_b2)
  have f6_fE_b2 : Exa Z h6 b2 "com/example/bot_workflow_runner/botworkflowrunner/model/Progress" := f5_fE_b2.wr W6
  have f6_fF_b2_com_example_bot_workflow_runner_botworkflowrunner_model_Progress_total : Fld Z h6 b2 "com/example/bot_workflow_runner/botworkflowrunner/model/Progress" "total" "I" (.int v0) := f5_fF_b2_com_example_bot_workflow_runner_botworkflowrunner_model_Progress_total.other W6 (Or.inr (slot_ne (Or.inr (hw _ (List.mem_of_getElem? (i := 10) rfl))) (Or.inr (hw _ (List.mem_of_getElem? (i := 18) rfl))) (by decide) (t := .int) (t' := .int) (by decide) (by decide)))
  have f6_fF_b2_com_example_bot_workflow_runner_botworkflowrunner_model_Progress_completed : Fld Z h6 b2 "com/example/bot_workflow_runner/botworkflowrunner/model/Progress" "completed" "I" (.int v1) := f5_fF_b2_com_example_bot_workflow_runner_botworkflowrunner_model_Progress_completed.other W6 (Or.inr (slot_ne (Or.inr (hw _ (List.mem_of_getElem? (i := 12) rfl))) (Or.inr (hw _ (List.mem_of_getElem? (i := 18) rfl))) (by decide) (t := .int) (t' := .int) (by decide) (by decide)))
  have f6_fF_b2_com_example_bot_workflow_runner_botworkflowrunner_model_Progress_running : Fld Z h6 b2 "com/example/bot_workflow_runner/botworkflowrunner/model/Progress" "running" "I" (.int v2) := f5_fF_b2_com_example_bot_workflow_runner_botworkflowrunner_model_Progress_running.other W6 (Or.inr (slot_ne (Or.inr (hw _ (List.mem_of_getElem? (i := 14) rfl))) (Or.inr (hw _ (List.mem_of_getElem? (i := 18) rfl))) (by decide) (t := .int) (t' := .int) (by decide) (by decide)))
  have f6_fF_b2_com_example_bot_workflow_runner_botworkflowrunner_model_Progress_failed : Fld Z h6 b2 "com/example/bot_workflow_runner/botworkflowrunner/model/Progress" "failed" "I" (.int v3) := f5_fF_b2_com_example_bot_workflow_runner_botworkflowrunner_model_Progress_failed.other W6 (Or.inr (slot_ne (Or.inr (hw _ (List.mem_of_getElem? (i := 16) rfl))) (Or.inr (hw _ (List.mem_of_getElem? (i := 18) rfl))) (by decide) (t := .int) (t' := .int) (by decide) (by decide)))
  have f6_fF_b2_com_example_bot_workflow_runner_botworkflowrunner_model_Progress_skipped : Fld Z h6 b2 "com/example/bot_workflow_runner/botworkflowrunner/model/Progress" "skipped" "I" (.int v4) := f5_fF_b2_com_example_bot_workflow_runner_botworkflowrunner_model_Progress_skipped.same W6
  have K6 := K5.wr W6 fKN_b2
  have Z6 : n0 ≤ h6.size := Nat.le_trans Z5 (Nat.le_of_eq W6.size.symm)
  have N6 := Fr.snoc X6 N5 fG_b2
  obtain ⟨fs, hr, hrun, hended, hW, hsame⟩ := X6.leave (v := none) (fun _ => rfl)
  refine ⟨_, _, pre0 _ ?_, hrun, hended, _, _, rfl, ?_, ⟨_, rfl⟩, hW, hsame.mono (by decide) (by decide)⟩
  · show Steps p.tables e below (s₁.setTop (mkF m 0 #[.val (.ref b2), .val (.int v0), .val (.int v1), .val (.int v2), .val (.int v3), .val (.int v4)] [])) _
    refine XS.aloadN X0.here hx rfl (hb hby d_prog_31_method_1_code_0) rfl rfl ?_
    refine st1 _ ?_
    refine XS.aloadN X1.here hx rfl (hb hby d_prog_31_method_1_code_4) rfl rfl ?_
    show Steps p.tables e below (T1.setTop (mkF m 5 #[.val (.ref b2), .val (.int v0), .val (.int v1), .val (.int v2), .val (.int v3), .val (.int v4)] [(.ref b2)])) _
    refine XS.iloadN X1.here hx rfl (hb hby d_prog_31_method_1_code_5) rfl ?_
    refine st2 _ ?_
    refine XS.aloadN X2.here hx rfl (hb hby d_prog_31_method_1_code_9) rfl rfl ?_
    show Steps p.tables e below (T2.setTop (mkF m 10 #[.val (.ref b2), .val (.int v0), .val (.int v1), .val (.int v2), .val (.int v3), .val (.int v4)] [(.ref b2)])) _
    refine XS.iloadN X2.here hx rfl (hb hby d_prog_31_method_1_code_10) rfl ?_
    refine st3 _ ?_
    refine XS.aloadN X3.here hx rfl (hb hby d_prog_31_method_1_code_14) rfl rfl ?_
    show Steps p.tables e below (T3.setTop (mkF m 15 #[.val (.ref b2), .val (.int v0), .val (.int v1), .val (.int v2), .val (.int v3), .val (.int v4)] [(.ref b2)])) _
    refine XS.iloadN X3.here hx rfl (hb hby d_prog_31_method_1_code_15) rfl ?_
    refine st4 _ ?_
    refine XS.aloadN X4.here hx rfl (hb hby d_prog_31_method_1_code_19) rfl rfl ?_
    show Steps p.tables e below (T4.setTop (mkF m 20 #[.val (.ref b2), .val (.int v0), .val (.int v1), .val (.int v2), .val (.int v3), .val (.int v4)] [(.ref b2)])) _
    refine XS.iload X4.here hx rfl (hb hby d_prog_31_method_1_code_20) rfl ?_
    refine st5 _ ?_
    refine XS.aloadN X5.here hx rfl (hb hby d_prog_31_method_1_code_25) rfl rfl ?_
    show Steps p.tables e below (T5.setTop (mkF m 26 #[.val (.ref b2), .val (.int v0), .val (.int v1), .val (.int v2), .val (.int v3), .val (.int v4)] [(.ref b2)])) _
    refine XS.iload X5.here hx rfl (hb hby d_prog_31_method_1_code_26) rfl ?_
    refine st6 _ ?_
    show Steps p.tables e below (T6.setTop (mkF m 31 #[.val (.ref b2), .val (.int v0), .val (.int v1), .val (.int v2), .val (.int v3), .val (.int v4)] [])) _
    exact X6.returnOut hx Bd.returns (hb hby d_prog_31_method_1_code_31) hr
  · show Q_rm__init__2 Z w κ n0 u0 u1 u2 u3 u4 u5 dd v0 v1 v2 v3 v4 sm b1 b2 _ T6.heap _
    rw [e6]
    exact ⟨rfl, N6, Z6, K6, f6_fE_b1, f6_fF_b1_com_example_bot_workflow_runner_botworkflowrunner_model_Progress_total, f6_fF_b1_com_example_bot_workflow_runner_botworkflowrunner_model_Progress_completed, f6_fF_b1_com_example_bot_workflow_runner_botworkflowrunner_model_Progress_running, f6_fF_b1_com_example_bot_workflow_runner_botworkflowrunner_model_Progress_failed, f6_fF_b1_com_example_bot_workflow_runner_botworkflowrunner_model_Progress_skipped, f6_fE_b2, f6_fF_b2_com_example_bot_workflow_runner_botworkflowrunner_model_Progress_total, f6_fF_b2_com_example_bot_workflow_runner_botworkflowrunner_model_Progress_completed, f6_fF_b2_com_example_bot_workflow_runner_botworkflowrunner_model_Progress_running, f6_fF_b2_com_example_bot_workflow_runner_botworkflowrunner_model_Progress_failed, f6_fF_b2_com_example_bot_workflow_runner_botworkflowrunner_model_Progress_skipped⟩
theorem d_prog_31_method_10_code_0 : decode prog_31_method_10_code 0 = .ok (.aload_n 1, 1) := by decide +kernel
theorem d_prog_31_method_10_code_1 : decode prog_31_method_10_code 1 = .ok (.instanceof 8, 3) := by decide +kernel
theorem d_prog_31_method_10_code_4 : decode prog_31_method_10_code 4 = .ok (.ifCond .ne 5, 3) := by decide +kernel
theorem d_prog_31_method_10_code_7 : decode prog_31_method_10_code 7 = .ok (.iconst 0, 1) := by decide +kernel
theorem d_prog_31_method_10_code_8 : decode prog_31_method_10_code 8 = .ok (.ireturn, 1) := by decide +kernel
theorem ef_prog_31_method_10_code_Rn (m : MethodId) (x0 : Addr) : entryFrame m #[(.ref x0), .null] 3 = mkF m 0 #[.val (.ref x0), .val .null, .unset] [] := by first | (simp [entryFrame, mkF, argsToLocals, Value.category]; done) | rfl
set_option maxRecDepth 65536 in
set_option maxHeartbeats 40000000 in
theorem rm_equals_3 (l : Launch) (Z : State) (a0 : Array Value) (hw : ∀ d ∈ tables_1, d.before a0 Z = true) (w : Nat → Addr) (κ : Nat → ClassId) (h0 : Heap) (n0 : Nat) (Z0 : n0 ≤ h0.size) (K : Kon Z h0 w κ) (u0 u1 u2 u3 u4 u5 dd v0 v1 v2 v3 v4 sm : Int32) (b1 : Addr) (b2 : Addr) :
    OM l Z (⟨"com/example/bot_workflow_runner/botworkflowrunner/model/Progress", "equals", "(Ljava/lang/Object;)Z"⟩ : MethodName) prog_31_method_10_code 3 (some .boolean) [] ({ frames := 0, cells := 0, slots := 0, locals := 0 } : Room) #[(.ref b1), .null] h0 (OP (some (.int (0 : Int32))) n0 h0) := by
  refine MetFree.of_bodySF (plainFor_of_name pn_com_example_bot_workflow_runner_botworkflowrunner_model_Progress) hisR ?_
  intro p e s m args below meth c s₁ Bd hml0 hP hK
  obtain ⟨rfl, hZ, hh⟩ := hP
  have hx := Bd.exec
  have hby := Bd.bytes
  have hml : c.maxLocals = 3 := hml0
  have hown : s.vm.findClass "com/example/bot_workflow_runner/botworkflowrunner/model/Progress" = some m.cls := findClass_of_methodNamed Bd.named
  have hnm := (name_of_methodNamed Bd.named Bd.method).1
  have X0 : Stand p l e ({ frames := 0, cells := 0, slots := 0, locals := 0 } : Room) s m #[(.ref b1), .null] below meth c s₁ [] 0 0 := Stand.of_body Bd
  have e0 : s₁.heap = h0 := by rw [← hh, Bd.state]; rfl
  have N0 := Fr.nil n0
  have pre0 : ∀ t, Steps p.tables e below (s₁.setTop (mkF m 0 #[.val (.ref b1), .val .null, .unset] [])) t → Steps p.tables e below (s₁.setTop (entryFrame m #[(.ref b1), .null] 3)) t := fun t k => castTop (ef_prog_31_method_10_code_Rn m b1) k
  obtain ⟨fs, hr, hrun, hended, hW, hsame⟩ := X0.leave (v := (some (.int (0 : Int32)))) (fun h => by rw [Bd.returns] at h; cases h)
  refine ⟨_, _, pre0 _ ?_, hrun, hended, _, _, rfl, ?_, ⟨_, rfl⟩, hW, hsame.mono (by decide) (by decide)⟩
  · show Steps p.tables e below (s₁.setTop (mkF m 0 #[.val (.ref b1), .val .null, .unset] [])) _
    refine XS.aloadN X0.here hx rfl (hb hby d_prog_31_method_10_code_0) rfl rfl ?_
    refine X0.instanceofNull hx (g := (mkF m 1 #[.val (.ref b1), .val .null, .unset] [.null])) rfl rfl (hb hby d_prog_31_method_10_code_1) _ ?_
    refine XS.ifNo X0.here hx rfl (hb hby d_prog_31_method_10_code_4) rfl ((if0 _ _).trans (teq (by decide : (0 : Int32) = (0 : Int32))).2) ?_
    show Steps p.tables e below (s₁.setTop (mkF m 7 #[.val (.ref b1), .val .null, .unset] [])) _
    refine XS.iconst X0.here hx rfl (hb hby d_prog_31_method_10_code_7) ?_
    show Steps p.tables e below (s₁.setTop (mkF m 8 #[.val (.ref b1), .val .null, .unset] [(.int (0 : Int32))])) _
    exact retN X0 hx (t := .boolean) Bd.returns (by simp) (hb hby d_prog_31_method_10_code_8) hr
  · exact ⟨rfl, N0, e0⟩
theorem pd_28Ljava2flang2fObject3b29Z : parseMethodDescriptor "(Ljava/lang/Object;)Z" = some ⟨[(.object "java/lang/Object")], some .boolean⟩ := by decide +kernel
theorem d_prog_31_method_10_code_9 : decode prog_31_method_10_code 9 = .ok (.aload_n 1, 1) := by decide +kernel
theorem d_prog_31_method_10_code_10 : decode prog_31_method_10_code 10 = .ok (.checkcast 8, 3) := by decide +kernel
theorem d_prog_31_method_10_code_13 : decode prog_31_method_10_code 13 = .ok (.astore_n 2, 1) := by decide +kernel
theorem d_prog_31_method_10_code_14 : decode prog_31_method_10_code 14 = .ok (.aload_n 0, 1) := by decide +kernel
theorem d_prog_31_method_10_code_15 : decode prog_31_method_10_code 15 = .ok (.getfield 7, 3) := by decide +kernel
theorem d_prog_31_method_10_code_18 : decode prog_31_method_10_code 18 = .ok (.aload_n 2, 1) := by decide +kernel
theorem d_prog_31_method_10_code_19 : decode prog_31_method_10_code 19 = .ok (.getfield 7, 3) := by decide +kernel
theorem d_prog_31_method_10_code_22 : decode prog_31_method_10_code 22 = .ok (.if_icmp .ne 51, 3) := by decide +kernel
theorem d_prog_31_method_10_code_25 : decode prog_31_method_10_code 25 = .ok (.aload_n 0, 1) := by decide +kernel
theorem d_prog_31_method_10_code_26 : decode prog_31_method_10_code 26 = .ok (.getfield 13, 3) := by decide +kernel
theorem d_prog_31_method_10_code_29 : decode prog_31_method_10_code 29 = .ok (.aload_n 2, 1) := by decide +kernel
theorem d_prog_31_method_10_code_30 : decode prog_31_method_10_code 30 = .ok (.getfield 13, 3) := by decide +kernel
theorem d_prog_31_method_10_code_33 : decode prog_31_method_10_code 33 = .ok (.if_icmp .ne 40, 3) := by decide +kernel
theorem d_prog_31_method_10_code_36 : decode prog_31_method_10_code 36 = .ok (.aload_n 0, 1) := by decide +kernel
theorem d_prog_31_method_10_code_37 : decode prog_31_method_10_code 37 = .ok (.getfield 16, 3) := by decide +kernel
theorem d_prog_31_method_10_code_40 : decode prog_31_method_10_code 40 = .ok (.aload_n 2, 1) := by decide +kernel
theorem d_prog_31_method_10_code_41 : decode prog_31_method_10_code 41 = .ok (.getfield 16, 3) := by decide +kernel
theorem d_prog_31_method_10_code_44 : decode prog_31_method_10_code 44 = .ok (.if_icmp .ne 29, 3) := by decide +kernel
theorem d_prog_31_method_10_code_47 : decode prog_31_method_10_code 47 = .ok (.aload_n 0, 1) := by decide +kernel
theorem d_prog_31_method_10_code_48 : decode prog_31_method_10_code 48 = .ok (.getfield 19, 3) := by decide +kernel
theorem d_prog_31_method_10_code_51 : decode prog_31_method_10_code 51 = .ok (.aload_n 2, 1) := by decide +kernel
theorem d_prog_31_method_10_code_52 : decode prog_31_method_10_code 52 = .ok (.getfield 19, 3) := by decide +kernel
theorem d_prog_31_method_10_code_55 : decode prog_31_method_10_code 55 = .ok (.if_icmp .ne 18, 3) := by decide +kernel
theorem d_prog_31_method_10_code_58 : decode prog_31_method_10_code 58 = .ok (.aload_n 0, 1) := by decide +kernel
theorem d_prog_31_method_10_code_59 : decode prog_31_method_10_code 59 = .ok (.getfield 22, 3) := by decide +kernel
theorem d_prog_31_method_10_code_62 : decode prog_31_method_10_code 62 = .ok (.aload_n 2, 1) := by decide +kernel
theorem d_prog_31_method_10_code_63 : decode prog_31_method_10_code 63 = .ok (.getfield 22, 3) := by decide +kernel
theorem d_prog_31_method_10_code_66 : decode prog_31_method_10_code 66 = .ok (.if_icmp .ne 7, 3) := by decide +kernel
theorem d_prog_31_method_10_code_69 : decode prog_31_method_10_code 69 = .ok (.iconst 1, 1) := by decide +kernel
theorem d_prog_31_method_10_code_70 : decode prog_31_method_10_code 70 = .ok (.goto 4, 3) := by decide +kernel
theorem d_prog_31_method_10_code_74 : decode prog_31_method_10_code 74 = .ok (.ireturn, 1) := by decide +kernel
theorem ef_prog_31_method_10_code_RR (m : MethodId) (x0 : Addr) (x1 : Addr) : entryFrame m #[(.ref x0), (.ref x1)] 3 = mkF m 0 #[.val (.ref x0), .val (.ref x1), .unset] [] := by first | (simp [entryFrame, mkF, argsToLocals, Value.category]; done) | rfl
set_option maxRecDepth 65536 in
set_option maxHeartbeats 40000000 in
theorem rm_equals_4 (l : Launch) (Z : State) (a0 : Array Value) (hw : ∀ d ∈ tables_1, d.before a0 Z = true) (w : Nat → Addr) (κ : Nat → ClassId) (h0 : Heap) (n0 : Nat) (Z0 : n0 ≤ h0.size) (K : Kon Z h0 w κ) (u0 u1 u2 u3 u4 u5 dd v0 v1 v2 v3 v4 sm : Int32) (b1 : Addr) (b2 : Addr) (fE_b1 : Exa Z h0 b1 "com/example/bot_workflow_runner/botworkflowrunner/model/Progress") (fF_b1_com_example_bot_workflow_runner_botworkflowrunner_model_Progress_total : Fld Z h0 b1 "com/example/bot_workflow_runner/botworkflowrunner/model/Progress" "total" "I" (.int u0)) (fF_b1_com_example_bot_workflow_runner_botworkflowrunner_model_Progress_completed : Fld Z h0 b1 "com/example/bot_workflow_runner/botworkflowrunner/model/Progress" "completed" "I" (.int u1)) (fF_b1_com_example_bot_workflow_runner_botworkflowrunner_model_Progress_running : Fld Z h0 b1 "com/example/bot_workflow_runner/botworkflowrunner/model/Progress" "running" "I" (.int u2)) (fF_b1_com_example_bot_workflow_runner_botworkflowrunner_model_Progress_failed : Fld Z h0 b1 "com/example/bot_workflow_runner/botworkflowrunner/model/Progress" "failed" "I" (.int u3)) (fF_b1_com_example_bot_workflow_runner_botworkflowrunner_model_Progress_skipped : Fld Z h0 b1 "com/example/bot_workflow_runner/botworkflowrunner/model/Progress" "skipped" "I" (.int u4)) :
    OM l Z (⟨"com/example/bot_workflow_runner/botworkflowrunner/model/Progress", "equals", "(Ljava/lang/Object;)Z"⟩ : MethodName) prog_31_method_10_code 3 (some .boolean) [] ({ frames := 0, cells := 0, slots := 0, locals := 0 } : Room) #[(.ref b1), (.ref b1)] h0 (OP (some (.int (1 : Int32))) n0 h0) := by
  refine MetFree.of_bodySF (plainFor_of_name pn_com_example_bot_workflow_runner_botworkflowrunner_model_Progress) hisR ?_
  intro p e s m args below meth c s₁ Bd hml0 hP hK
  obtain ⟨rfl, hZ, hh⟩ := hP
  have hx := Bd.exec
  have hby := Bd.bytes
  have hml : c.maxLocals = 3 := hml0
  have hown : s.vm.findClass "com/example/bot_workflow_runner/botworkflowrunner/model/Progress" = some m.cls := findClass_of_methodNamed Bd.named
  have hnm := (name_of_methodNamed Bd.named Bd.method).1
  have X0 : Stand p l e ({ frames := 0, cells := 0, slots := 0, locals := 0 } : Room) s m #[(.ref b1), (.ref b1)] below meth c s₁ [] 0 0 := Stand.of_body Bd
  have e0 : s₁.heap = h0 := by rw [← hh, Bd.state]; rfl
  have N0 := Fr.nil n0
  have pre0 : ∀ t, Steps p.tables e below (s₁.setTop (mkF m 0 #[.val (.ref b1), .val (.ref b1), .unset] [])) t → Steps p.tables e below (s₁.setTop (entryFrame m #[(.ref b1), (.ref b1)] 3)) t := fun t k => castTop (ef_prog_31_method_10_code_RR m b1 b1) k
  obtain ⟨T1, X1, e1, st1⟩ := instY X0 hx hZ hown (hw _ (List.mem_of_getElem? (i := 24) rfl)) e0 (Ins.self fE_b1) (g := (mkF m 1 #[.val (.ref b1), .val (.ref b1), .unset] [(.ref b1)])) rfl rfl (hb hby d_prog_31_method_10_code_1)
  obtain ⟨T2, X2, e2, st2⟩ := castY X1 hx hZ hown (hw _ (List.mem_of_getElem? (i := 24) rfl)) e1 (Ins.self fE_b1) (g := (mkF m 10 #[.val (.ref b1), .val (.ref b1), .unset] [(.ref b1)])) rfl rfl (hb hby d_prog_31_method_10_code_10)
  obtain ⟨T3, X3, e3, st3⟩ := getF X2 hx hZ hown (host := "") (Or.inl (hw _ (List.mem_of_getElem? (i := 9) rfl))) Via.refl e2 fF_b1_com_example_bot_workflow_runner_botworkflowrunner_model_Progress_total (g := (mkF m 15 #[.val (.ref b1), .val (.ref b1), .val (.ref b1)] [(.ref b1)])) rfl rfl (hb hby d_prog_31_method_10_code_15)
  obtain ⟨T4, X4, e4, st4⟩ := getF X3 hx hZ hown (host := "") (Or.inl (hw _ (List.mem_of_getElem? (i := 9) rfl))) Via.refl e3 fF_b1_com_example_bot_workflow_runner_botworkflowrunner_model_Progress_total (g := (mkF m 19 #[.val (.ref b1), .val (.ref b1), .val (.ref b1)] [(.ref b1), (.int u0)])) rfl rfl (hb hby d_prog_31_method_10_code_19)
  obtain ⟨T5, X5, e5, st5⟩ := getF X4 hx hZ hown (host := "") (Or.inl (hw _ (List.mem_of_getElem? (i := 11) rfl))) Via.refl e4 fF_b1_com_example_bot_workflow_runner_botworkflowrunner_model_Progress_completed (g := (mkF m 26 #[.val (.ref b1), .val (.ref b1), .val (.ref b1)] [(.ref b1)])) rfl rfl (hb hby d_prog_31_method_10_code_26)
  obtain ⟨T6, X6, e6, st6⟩ := getF X5 hx hZ hown (host := "") (Or.inl (hw _ (List.mem_of_getElem? (i := 11) rfl))) Via.refl e5 fF_b1_com_example_bot_workflow_runner_botworkflowrunner_model_Progress_completed (g := (mkF m 30 #[.val (.ref b1), .val (.ref b1), .val (.ref b1)] [(.ref b1), (.int u1)])) rfl rfl (hb hby d_prog_31_method_10_code_30)
  obtain ⟨T7, X7, e7, st7⟩ := getF X6 hx hZ hown (host := "") (Or.inl (hw _ (List.mem_of_getElem? (i := 13) rfl))) Via.refl e6 fF_b1_com_example_bot_workflow_runner_botworkflowrunner_model_Progress_running (g := (mkF m 37 #[.val (.ref b1), .val (.ref b1), .val (.ref b1)] [(.ref b1)])) rfl rfl (hb hby d_prog_31_method_10_code_37)
  obtain ⟨T8, X8, e8, st8⟩ := getF X7 hx hZ hown (host := "") (Or.inl (hw _ (List.mem_of_getElem? (i := 13) rfl))) Via.refl e7 fF_b1_com_example_bot_workflow_runner_botworkflowrunner_model_Progress_running (g := (mkF m 41 #[.val (.ref b1), .val (.ref b1), .val (.ref b1)] [(.ref b1), (.int u2)])) rfl rfl (hb hby d_prog_31_method_10_code_41)
  obtain ⟨T9, X9, e9, st9⟩ := getF X8 hx hZ hown (host := "") (Or.inl (hw _ (List.mem_of_getElem? (i := 15) rfl))) Via.refl e8 fF_b1_com_example_bot_workflow_runner_botworkflowrunner_model_Progress_failed (g := (mkF m 48 #[.val (.ref b1), .val (.ref b1), .val (.ref b1)] [(.ref b1)])) rfl rfl (hb hby d_prog_31_method_10_code_48)
  obtain ⟨T10, X10, e10, st10⟩ := getF X9 hx hZ hown (host := "") (Or.inl (hw _ (List.mem_of_getElem? (i := 15) rfl))) Via.refl e9 fF_b1_com_example_bot_workflow_runner_botworkflowrunner_model_Progress_failed (g := (mkF m 52 #[.val (.ref b1), .val (.ref b1), .val (.ref b1)] [(.ref b1), (.int u3)])) rfl rfl (hb hby d_prog_31_method_10_code_52)
  obtain ⟨T11, X11, e11, st11⟩ := getF X10 hx hZ hown (host := "") (Or.inl (hw _ (List.mem_of_getElem? (i := 17) rfl))) Via.refl e10 fF_b1_com_example_bot_workflow_runner_botworkflowrunner_model_Progress_skipped (g := (mkF m 59 #[.val (.ref b1), .val (.ref b1), .val (.ref b1)] [(.ref b1)])) rfl rfl (hb hby d_prog_31_method_10_code_59)
  obtain ⟨T12, X12, e12, st12⟩ := getF X11 hx hZ hown (host := "") (Or.inl (hw _ (List.mem_of_getElem? (i := 17) rfl))) Via.refl e11 fF_b1_com_example_bot_workflow_runner_botworkflowrunner_model_Progress_skipped (g := (mkF m 63 #[.val (.ref b1), .val (.ref b1), .val (.ref b1)] [(.ref b1), (.int u4)])) rfl rfl (hb hby d_prog_31_method_10_code_63)
  obtain ⟨fs, hr, hrun, hended, hW, hsame⟩ := X12.leave (v := (some (.int (1 : Int32)))) (fun h => by rw [Bd.returns] at h; cases h)
  refine ⟨_, _, pre0 _ ?_, hrun, hended, _, _, rfl, ?_, ⟨_, rfl⟩, hW, hsame.mono (by decide) (by decide)⟩
  · show Steps p.tables e below (s₁.setTop (mkF m 0 #[.val (.ref b1), .val (.ref b1), .unset] [])) _
    refine XS.aloadN X0.here hx rfl (hb hby d_prog_31_method_10_code_0) rfl rfl ?_
    refine st1 _ ?_
    refine XS.ifYes X1.here hx rfl (pc0 := 4) (pc' := 9) rfl (hb hby d_prog_31_method_10_code_4) rfl ((if0 _ _).trans (feq (by decide : ¬ ((1 : Int32) = (0 : Int32)))).2) (by decide) (by decide) ?_
    show Steps p.tables e below (T1.setTop (mkF m 9 #[.val (.ref b1), .val (.ref b1), .unset] [])) _
    refine XS.aloadN X1.here hx rfl (hb hby d_prog_31_method_10_code_9) rfl rfl ?_
    refine st2 _ ?_
    refine XS.astoreN X2.here hx rfl (hb hby d_prog_31_method_10_code_13) rfl rfl (l' := #[.val (.ref b1), .val (.ref b1), .val (.ref b1)]) rfl ?_
    show Steps p.tables e below (T2.setTop (mkF m 14 #[.val (.ref b1), .val (.ref b1), .val (.ref b1)] [])) _
    refine XS.aloadN X2.here hx rfl (hb hby d_prog_31_method_10_code_14) rfl rfl ?_
    refine st3 _ ?_
    refine XS.aloadN X3.here hx rfl (hb hby d_prog_31_method_10_code_18) rfl rfl ?_
    show Steps p.tables e below (T3.setTop (mkF m 19 #[.val (.ref b1), .val (.ref b1), .val (.ref b1)] [(.ref b1), (.int u0)])) _
    refine st4 _ ?_
    refine XS.icmpNo X4.here hx rfl (hb hby d_prog_31_method_10_code_22) rfl (teq (rfl : u0 = u0)).2 ?_
    refine XS.aloadN X4.here hx rfl (hb hby d_prog_31_method_10_code_25) rfl rfl ?_
    show Steps p.tables e below (T4.setTop (mkF m 26 #[.val (.ref b1), .val (.ref b1), .val (.ref b1)] [(.ref b1)])) _
    refine st5 _ ?_
    refine XS.aloadN X5.here hx rfl (hb hby d_prog_31_method_10_code_29) rfl rfl ?_
    refine st6 _ ?_
    show Steps p.tables e below (T6.setTop (mkF m 33 #[.val (.ref b1), .val (.ref b1), .val (.ref b1)] [(.int u1), (.int u1)])) _
    refine XS.icmpNo X6.here hx rfl (hb hby d_prog_31_method_10_code_33) rfl (teq (rfl : u1 = u1)).2 ?_
    refine XS.aloadN X6.here hx rfl (hb hby d_prog_31_method_10_code_36) rfl rfl ?_
    refine st7 _ ?_
    show Steps p.tables e below (T7.setTop (mkF m 40 #[.val (.ref b1), .val (.ref b1), .val (.ref b1)] [(.int u2)])) _
    refine XS.aloadN X7.here hx rfl (hb hby d_prog_31_method_10_code_40) rfl rfl ?_
    refine st8 _ ?_
    refine XS.icmpNo X8.here hx rfl (hb hby d_prog_31_method_10_code_44) rfl (teq (rfl : u2 = u2)).2 ?_
    show Steps p.tables e below (T8.setTop (mkF m 47 #[.val (.ref b1), .val (.ref b1), .val (.ref b1)] [])) _
    refine XS.aloadN X8.here hx rfl (hb hby d_prog_31_method_10_code_47) rfl rfl ?_
    refine st9 _ ?_
    refine XS.aloadN X9.here hx rfl (hb hby d_prog_31_method_10_code_51) rfl rfl ?_
    show Steps p.tables e below (T9.setTop (mkF m 52 #[.val (.ref b1), .val (.ref b1), .val (.ref b1)] [(.ref b1), (.int u3)])) _
    refine st10 _ ?_
    refine XS.icmpNo X10.here hx rfl (hb hby d_prog_31_method_10_code_55) rfl (teq (rfl : u3 = u3)).2 ?_
    refine XS.aloadN X10.here hx rfl (hb hby d_prog_31_method_10_code_58) rfl rfl ?_
    show Steps p.tables e below (T10.setTop (mkF m 59 #[.val (.ref b1), .val (.ref b1), .val (.ref b1)] [(.ref b1)])) _
    refine st11 _ ?_
    refine XS.aloadN X11.here hx rfl (hb hby d_prog_31_method_10_code_62) rfl rfl ?_
    refine st12 _ ?_
    show Steps p.tables e below (T12.setTop (mkF m 66 #[.val (.ref b1), .val (.ref b1), .val (.ref b1)] [(.int u4), (.int u4)])) _
    refine XS.icmpNo X12.here hx rfl (hb hby d_prog_31_method_10_code_66) rfl (teq (rfl : u4 = u4)).2 ?_
    refine XS.iconst X12.here hx rfl (hb hby d_prog_31_method_10_code_69) ?_
    refine XS.goto X12.here hx rfl (pc0 := 70) (pc' := 74) rfl (hb hby d_prog_31_method_10_code_70) (by decide) (by decide) ?_
    show Steps p.tables e below (T12.setTop (mkF m 74 #[.val (.ref b1), .val (.ref b1), .val (.ref b1)] [(.int (1 : Int32))])) _
    exact retN X12 hx (t := .boolean) Bd.returns (by simp) (hb hby d_prog_31_method_10_code_74) hr
  · exact ⟨rfl, N0, e12⟩
theorem pn_com_example_bot_workflow_runner_botworkflowrunner_model_ProgressEqualsPinLaw : plainName "com/example/bot_workflow_runner/botworkflowrunner/model/ProgressEqualsPinLaw" = true := by first | (simp [plainName, overriddenIn]; done) | decide +kernel
theorem ef_code_IIIIII (m : MethodId) (x0 : Int32) (x1 : Int32) (x2 : Int32) (x3 : Int32) (x4 : Int32) (x5 : Int32) : entryFrame m #[(.int x0), (.int x1), (.int x2), (.int x3), (.int x4), (.int x5)] maxLocals = mkF m 0 #[.val (.int x0), .val (.int x1), .val (.int x2), .val (.int x3), .val (.int x4), .val (.int x5), .unset, .unset, .unset, .unset, .unset, .unset, .unset, .unset, .unset, .unset] [] := by first | (simp [entryFrame, mkF, argsToLocals, Value.category, maxLocals]; done) | rfl
set_option maxRecDepth 65536 in
set_option maxHeartbeats 40000000 in
theorem rm0_5 (l : Launch) (Z : State) (a0 : Array Value) (hw : ∀ d ∈ tables_1, d.before a0 Z = true) (w : Nat → Addr) (κ : Nat → ClassId) (h0 : Heap) (n0 : Nat) (Z0 : n0 ≤ h0.size) (K : Kon Z h0 w κ) (u0 u1 u2 u3 u4 u5 dd v0 v1 v2 v3 v4 sm : Int32) (hdd : ((u5 >>> ((8 : Int32) &&& 31)) ||| (1 : Int32)) = dd) (hf1 : ((u5 >>> ((5 : Int32) &&& 31)) &&& (3 : Int32)) = (1 : Int32)) (hsm : (osel (decide ((u5 &&& (31 : Int32)) = (0 : Int32))) (1 : Int32) (0 : Int32)) = sm) (hv0 : (osel (decide ((u5 &&& (1 : Int32)) = (0 : Int32))) u0 (u0 + dd)) = v0) (hv1 : (osel (decide ((u5 &&& (2 : Int32)) = (0 : Int32))) u1 (u1 + dd)) = v1) (hv2 : (osel (decide ((u5 &&& (4 : Int32)) = (0 : Int32))) u2 (u2 + dd)) = v2) (hv3 : (osel (decide ((u5 &&& (8 : Int32)) = (0 : Int32))) u3 (u3 + dd)) = v3) (hv4 : (osel (decide ((u5 &&& (16 : Int32)) = (0 : Int32))) u4 (u4 + dd)) = v4) :
    OM l Z x code maxLocals ret tables_1 room_1 #[(.int u0), (.int u1), (.int u2), (.int u3), (.int u4), (.int u5)] h0 (OF (some (.int (1 : Int32))) n0) := by
  refine MetFree.of_bodySF (plainFor_of_name pn_com_example_bot_workflow_runner_botworkflowrunner_model_ProgressEqualsPinLaw) hisR ?_
  intro p e s m args below meth c s₁ Bd hml0 hP hK
  obtain ⟨rfl, hZ, hh⟩ := hP
  have hx := Bd.exec
  have hby := Bd.bytes
  have hml : c.maxLocals = 16 := hml0
  have hown : s.vm.findClass "com/example/bot_workflow_runner/botworkflowrunner/model/ProgressEqualsPinLaw" = some m.cls := findClass_of_methodNamed Bd.named
  have hnm := (name_of_methodNamed Bd.named Bd.method).1
  have X0 : Stand p l e room_1 s m #[(.int u0), (.int u1), (.int u2), (.int u3), (.int u4), (.int u5)] below meth c s₁ [] 0 0 := Stand.of_body Bd
  have e0 : s₁.heap = h0 := by rw [← hh, Bd.state]; rfl
  have N0 := Fr.nil n0
  have pre0 : ∀ t, Steps p.tables e below (s₁.setTop (mkF m 0 #[.val (.int u0), .val (.int u1), .val (.int u2), .val (.int u3), .val (.int u4), .val (.int u5), .unset, .unset, .unset, .unset, .unset, .unset, .unset, .unset, .unset, .unset] [])) t → Steps p.tables e below (s₁.setTop (entryFrame m #[(.int u0), (.int u1), (.int u2), (.int u3), (.int u4), (.int u5)] maxLocals)) t := fun t k => castTop (ef_code_IIIIII m u0 u1 u2 u3 u4 u5) k
  obtain ⟨T1, h1, X1, e1, E1, A1, D1, -, st1⟩ := newO X0 hx hZ hown (hw _ (List.mem_of_getElem? (i := 0) rfl)) (hw _ (List.mem_of_getElem? (i := 1) rfl)) (hw _ (List.mem_of_getElem? (i := 2) rfl)) e0 (g := (mkF m 9 #[.val (.int u0), .val (.int u1), .val (.int u2), .val (.int u3), .val (.int u4), .val (.int u5), .val (.int dd), .unset, .unset, .unset, .unset, .unset, .unset, .unset, .unset, .unset] [])) rfl (hb hby at_9) (by decide) (by decide)
  obtain ⟨b1, g1⟩ : ∃ z, z = h0.size := ⟨_, rfl⟩
  rw [← g1] at A1 D1 st1
  have hG1 : n0 ≤ b1 := Nat.le_trans Z0 (Nat.le_of_eq g1.symm)
  have hKN1 : ∀ i, i < 1 → w i ≠ b1 := fun i hi => by rw [g1]; exact Nat.ne_of_lt (K.lt i hi)
  have K1 := K.ext E1
  have Z1 : n0 ≤ h1.size := Nat.le_trans Z0 E1.1
  have f1_total : Fld Z h1 b1 "com/example/bot_workflow_runner/botworkflowrunner/model/Progress" "total" "I" (.int (0 : Int32)) := D1 (Or.inr (hw _ (List.mem_of_getElem? (i := 10) rfl))) (ty := .int) (by decide)
  have f1_completed : Fld Z h1 b1 "com/example/bot_workflow_runner/botworkflowrunner/model/Progress" "completed" "I" (.int (0 : Int32)) := D1 (Or.inr (hw _ (List.mem_of_getElem? (i := 12) rfl))) (ty := .int) (by decide)
  have f1_running : Fld Z h1 b1 "com/example/bot_workflow_runner/botworkflowrunner/model/Progress" "running" "I" (.int (0 : Int32)) := D1 (Or.inr (hw _ (List.mem_of_getElem? (i := 14) rfl))) (ty := .int) (by decide)
  have f1_failed : Fld Z h1 b1 "com/example/bot_workflow_runner/botworkflowrunner/model/Progress" "failed" "I" (.int (0 : Int32)) := D1 (Or.inr (hw _ (List.mem_of_getElem? (i := 16) rfl))) (ty := .int) (by decide)
  have f1_skipped : Fld Z h1 b1 "com/example/bot_workflow_runner/botworkflowrunner/model/Progress" "skipped" "I" (.int (0 : Int32)) := D1 (Or.inr (hw _ (List.mem_of_getElem? (i := 18) rfl))) (ty := .int) (by decide)
  obtain ⟨_, _, ⟨T2, L2, kk2, n2⟩, -, X2, ⟨Lc2, hQ2, l2, y2, z2⟩, st2⟩ := Jvm.Stand.specialBack X1 hx (y := (⟨"com/example/bot_workflow_runner/botworkflowrunner/model/Progress", "<init>", "(IIIII)V"⟩ : MethodName)) rfl hown (mvT hZ (hw _ (List.mem_of_getElem? (i := 3) rfl))) (mvT hZ (hw _ (List.mem_of_getElem? (i := 4) rfl))) (mvT hZ (hw _ (List.mem_of_getElem? (i := 5) rfl))) (by decide) (backOf (W := 1) (rm__init__1 l Z a0 hw w κ h1 n0 Z1 K1 u0 u1 u2 u3 u4 u5 dd v0 v1 v2 v3 v4 sm b1 A1 f1_total f1_completed f1_running f1_failed f1_skipped hG1 hKN1) hZ (hw _ (List.mem_of_getElem? (i := 5) rfl)) (hw _ (List.mem_of_getElem? (i := 2) rfl)) (by decide) (by decide)) (g := (mkF m 19 #[.val (.int u0), .val (.int u1), .val (.int u2), .val (.int u3), .val (.int u4), .val (.int u5), .val (.int dd), .unset, .unset, .unset, .unset, .unset, .unset, .unset, .unset, .unset] [(.int u4), (.int u3), (.int u2), (.int u1), (.int u0), (.ref b1), (.ref b1)])) rfl (by rw [hml]; rfl) (Steps.refl _) (a := b1) (argsL := [(.int u0), (.int u1), (.int u2), (.int u3), (.int u4)]) (rest := [(.ref b1)]) (lenOf pd_28IIIII29V rfl) rfl (by show 2 * 0 + _ ≤ _; exact Nat.le_of_eq rfl) (hb hby at_19) (fun _ _ => ⟨rfl, e1, (by decide : 1 + 0 ≤ _), (by decide : 5 + 0 ≤ _)⟩)
  dsimp only [Pt.U, Pt.locs, Pt.cells, Pt.slots] at X2 l2 y2 z2 st2 hQ2
  subst l2 y2 z2
  obtain ⟨rfl, N2q, Z2, K2, f2_0, f2_1, f2_2, f2_3, f2_4, f2_5⟩ := hQ2
  have N2 := Fr.app N0 N2q
  obtain ⟨T8, h8, X8, e8, E8, A8, D8, -, st8⟩ := newO X2 hx hZ hown (hw _ (List.mem_of_getElem? (i := 0) rfl)) (hw _ (List.mem_of_getElem? (i := 1) rfl)) (hw _ (List.mem_of_getElem? (i := 2) rfl)) rfl (g := (mkF m 113 #[.val (.int u0), .val (.int u1), .val (.int u2), .val (.int u3), .val (.int u4), .val (.int u5), .val (.int dd), .val (.ref b1), .val (.int v0), .val (.int v1), .val (.int v2), .val (.int v3), .val (.int v4), .unset, .unset, .unset] [])) rfl (hb hby at_113) (by decide) (by decide)
  obtain ⟨b2, g8⟩ : ∃ z, z = T2.heap.size := ⟨_, rfl⟩
  rw [← g8] at A8 D8 st8
  have hG8 : n0 ≤ b2 := Nat.le_trans Z2 (Nat.le_of_eq g8.symm)
  have hN8_0 : b1 ≠ b2 := by rw [g8]; exact Nat.ne_of_lt f2_0.lt
  have hKN8 : ∀ i, i < 1 → w i ≠ b2 := fun i hi => by rw [g8]; exact Nat.ne_of_lt (K2.lt i hi)
  have f8_fE_b1 := f2_0.ext E8
  have f8_fF_b1_com_example_bot_workflow_runner_botworkflowrunner_model_Progress_total := f2_1.ext E8
  have f8_fF_b1_com_example_bot_workflow_runner_botworkflowrunner_model_Progress_completed := f2_2.ext E8
  have f8_fF_b1_com_example_bot_workflow_runner_botworkflowrunner_model_Progress_running := f2_3.ext E8
  have f8_fF_b1_com_example_bot_workflow_runner_botworkflowrunner_model_Progress_failed := f2_4.ext E8
  have f8_fF_b1_com_example_bot_workflow_runner_botworkflowrunner_model_Progress_skipped := f2_5.ext E8
  have K8 := K2.ext E8
  have Z8 : n0 ≤ h8.size := Nat.le_trans Z2 E8.1
  have f8_total : Fld Z h8 b2 "com/example/bot_workflow_runner/botworkflowrunner/model/Progress" "total" "I" (.int (0 : Int32)) := D8 (Or.inr (hw _ (List.mem_of_getElem? (i := 10) rfl))) (ty := .int) (by decide)
  have f8_completed : Fld Z h8 b2 "com/example/bot_workflow_runner/botworkflowrunner/model/Progress" "completed" "I" (.int (0 : Int32)) := D8 (Or.inr (hw _ (List.mem_of_getElem? (i := 12) rfl))) (ty := .int) (by decide)
  have f8_running : Fld Z h8 b2 "com/example/bot_workflow_runner/botworkflowrunner/model/Progress" "running" "I" (.int (0 : Int32)) := D8 (Or.inr (hw _ (List.mem_of_getElem? (i := 14) rfl))) (ty := .int) (by decide)
  have f8_failed : Fld Z h8 b2 "com/example/bot_workflow_runner/botworkflowrunner/model/Progress" "failed" "I" (.int (0 : Int32)) := D8 (Or.inr (hw _ (List.mem_of_getElem? (i := 16) rfl))) (ty := .int) (by decide)
  have f8_skipped : Fld Z h8 b2 "com/example/bot_workflow_runner/botworkflowrunner/model/Progress" "skipped" "I" (.int (0 : Int32)) := D8 (Or.inr (hw _ (List.mem_of_getElem? (i := 18) rfl))) (ty := .int) (by decide)
  obtain ⟨_, _, ⟨T9, L9, kk9, n9⟩, -, X9, ⟨Lc9, hQ9, l9, y9, z9⟩, st9⟩ := Jvm.Stand.specialBack X8 hx (y := (⟨"com/example/bot_workflow_runner/botworkflowrunner/model/Progress", "<init>", "(IIIII)V"⟩ : MethodName)) rfl hown (mvT hZ (hw _ (List.mem_of_getElem? (i := 3) rfl))) (mvT hZ (hw _ (List.mem_of_getElem? (i := 4) rfl))) (mvT hZ (hw _ (List.mem_of_getElem? (i := 5) rfl))) (by decide) (backOf (W := 1) (rm__init__2 l Z a0 hw w κ h8 n0 Z8 K8 u0 u1 u2 u3 u4 u5 dd v0 v1 v2 v3 v4 sm b1 b2 f8_fE_b1 f8_fF_b1_com_example_bot_workflow_runner_botworkflowrunner_model_Progress_total f8_fF_b1_com_example_bot_workflow_runner_botworkflowrunner_model_Progress_completed f8_fF_b1_com_example_bot_workflow_runner_botworkflowrunner_model_Progress_running f8_fF_b1_com_example_bot_workflow_runner_botworkflowrunner_model_Progress_failed f8_fF_b1_com_example_bot_workflow_runner_botworkflowrunner_model_Progress_skipped A8 f8_total f8_completed f8_running f8_failed f8_skipped hG1 hKN1 hG8 hN8_0 hKN8) hZ (hw _ (List.mem_of_getElem? (i := 5) rfl)) (hw _ (List.mem_of_getElem? (i := 2) rfl)) (by decide) (by decide)) (g := (mkF m 127 #[.val (.int u0), .val (.int u1), .val (.int u2), .val (.int u3), .val (.int u4), .val (.int u5), .val (.int dd), .val (.ref b1), .val (.int v0), .val (.int v1), .val (.int v2), .val (.int v3), .val (.int v4), .unset, .unset, .unset] [(.int v4), (.int v3), (.int v2), (.int v1), (.int v0), (.ref b2), (.ref b2)])) rfl (by rw [hml]; rfl) (Steps.refl _) (a := b2) (argsL := [(.int v0), (.int v1), (.int v2), (.int v3), (.int v4)]) (rest := [(.ref b2)]) (lenOf pd_28IIIII29V rfl) rfl (by show 2 * 0 + _ ≤ _; exact Nat.le_of_eq rfl) (hb hby at_127) (fun _ _ => ⟨rfl, e8, (by decide : 2 + 0 ≤ _), (by decide : 10 + 0 ≤ _)⟩)
  dsimp only [Pt.U, Pt.locs, Pt.cells, Pt.slots] at X9 l9 y9 z9 st9 hQ9
  subst l9 y9 z9
  obtain ⟨rfl, N9q, Z9, K9, f9_0, f9_1, f9_2, f9_3, f9_4, f9_5, f9_6, f9_7, f9_8, f9_9, f9_10, f9_11⟩ := hQ9
  have N9 := Fr.app N2 N9q
  obtain ⟨cq11, kq11, qa11, qb11, qc11⟩ := isOf hZ rfl f9_0
  obtain ⟨_, _, ⟨T11, L11, kk11, n11⟩, -, X11, ⟨Lc11, hQ11, l11, y11, z11⟩, st11⟩ := X9.virtualBack hx (y := (⟨"com/example/bot_workflow_runner/botworkflowrunner/model/Progress", "equals", "(Ljava/lang/Object;)Z"⟩ : MethodName)) (z := (⟨"com/example/bot_workflow_runner/botworkflowrunner/model/Progress", "equals", "(Ljava/lang/Object;)Z"⟩ : MethodName)) hown (mvT hZ (hw _ (List.mem_of_getElem? (i := 19) rfl))) (mvT hZ (hw _ (List.mem_of_getElem? (i := 20) rfl))) (notFace_of_selects (args := #[]) (mvT hZ (hw _ (List.mem_of_getElem? (i := 22) rfl)))) (mvT hZ (hw _ (List.mem_of_getElem? (i := 22) rfl))) (mvT hZ (hw _ (List.mem_of_getElem? (i := 21) rfl))) (by decide) (backOf (W := 0) (rm_equals_3 l Z a0 hw w κ T9.heap n0 Z9 K9 u0 u1 u2 u3 u4 u5 dd v0 v1 v2 v3 v4 sm b1 b2) hZ (hw _ (List.mem_of_getElem? (i := 23) rfl)) (hw _ (List.mem_of_getElem? (i := 2) rfl)) (by decide) (by decide)) qa11 qc11 (g := (mkF m 164 #[.val (.int u0), .val (.int u1), .val (.int u2), .val (.int u3), .val (.int u4), .val (.int u5), .val (.int dd), .val (.ref b1), .val (.int v0), .val (.int v1), .val (.int v2), .val (.int v3), .val (.int v4), .val (.ref b2), .val (.int sm), .val (.int ((u5 >>> ((5 : Int32) &&& 31)) &&& (3 : Int32)))] [.null, (.ref b1)])) rfl (by rw [hml]; rfl) (Steps.refl _) (argsL := [.null]) (rest := []) (lenOf pd_28Ljava2flang2fObject3b29Z rfl) rfl (by show 2 * 0 + _ ≤ _; exact Nat.le_of_eq rfl) (hb hby at_164) (fun _ _ => ⟨rfl, rfl, (by decide : 2 + 0 ≤ _), (by decide : 10 + 0 ≤ _)⟩)
  dsimp only [Pt.U, Pt.locs, Pt.cells, Pt.slots] at X11 l11 y11 z11 st11 hQ11
  subst l11 y11 z11
  obtain ⟨rfl, N11q, e11⟩ := hQ11
  have N11 := Fr.app N9 N11q
  obtain ⟨cq12, kq12, qa12, qb12, qc12⟩ := isOf hZ e11 f9_0
  obtain ⟨_, _, ⟨T12, L12, kk12, n12⟩, -, X12, ⟨Lc12, hQ12, l12, y12, z12⟩, st12⟩ := X11.virtualBack hx (y := (⟨"com/example/bot_workflow_runner/botworkflowrunner/model/Progress", "equals", "(Ljava/lang/Object;)Z"⟩ : MethodName)) (z := (⟨"com/example/bot_workflow_runner/botworkflowrunner/model/Progress", "equals", "(Ljava/lang/Object;)Z"⟩ : MethodName)) hown (mvT hZ (hw _ (List.mem_of_getElem? (i := 19) rfl))) (mvT hZ (hw _ (List.mem_of_getElem? (i := 20) rfl))) (notFace_of_selects (args := #[]) (mvT hZ (hw _ (List.mem_of_getElem? (i := 22) rfl)))) (mvT hZ (hw _ (List.mem_of_getElem? (i := 22) rfl))) (mvT hZ (hw _ (List.mem_of_getElem? (i := 21) rfl))) (by decide) (backOf (W := 0) (rm_equals_4 l Z a0 hw w κ T9.heap n0 Z9 K9 u0 u1 u2 u3 u4 u5 dd v0 v1 v2 v3 v4 sm b1 b2 f9_0 f9_1 f9_2 f9_3 f9_4 f9_5) hZ (hw _ (List.mem_of_getElem? (i := 23) rfl)) (hw _ (List.mem_of_getElem? (i := 2) rfl)) (by decide) (by decide)) qa12 qc12 (g := (mkF m 174 #[.val (.int u0), .val (.int u1), .val (.int u2), .val (.int u3), .val (.int u4), .val (.int u5), .val (.int dd), .val (.ref b1), .val (.int v0), .val (.int v1), .val (.int v2), .val (.int v3), .val (.int v4), .val (.ref b2), .val (.int sm), .val (.int ((u5 >>> ((5 : Int32) &&& 31)) &&& (3 : Int32)))] [(.ref b1), (.ref b1)])) rfl (by rw [hml]; rfl) (Steps.refl _) (argsL := [(.ref b1)]) (rest := []) (lenOf pd_28Ljava2flang2fObject3b29Z rfl) rfl (by show 2 * 0 + _ ≤ _; exact Nat.le_of_eq rfl) (hb hby at_174) (fun _ _ => ⟨rfl, e11, (by decide : 2 + 0 ≤ _), (by decide : 10 + 0 ≤ _)⟩)
  dsimp only [Pt.U, Pt.locs, Pt.cells, Pt.slots] at X12 l12 y12 z12 st12 hQ12
  subst l12 y12 z12
  obtain ⟨rfl, N12q, e12⟩ := hQ12
  have N12 := Fr.app N11 N12q
  obtain ⟨fs, hr, hrun, hended, hW, hsame⟩ := X12.leave (v := (some (.int (1 : Int32)))) (fun h => by rw [Bd.returns] at h; cases h)
  refine ⟨_, _, pre0 _ ?_, hrun, hended, _, _, rfl, ?_, ⟨_, rfl⟩, hW, hsame.mono (by decide) (by decide)⟩
  · show Steps p.tables e below (s₁.setTop (mkF m 0 #[.val (.int u0), .val (.int u1), .val (.int u2), .val (.int u3), .val (.int u4), .val (.int u5), .unset, .unset, .unset, .unset, .unset, .unset, .unset, .unset, .unset, .unset] [])) _
    refine XS.iload X0.here hx rfl (hb hby at_0) rfl ?_
    refine XS.bipush X0.here hx rfl (hb hby at_2) ?_
    refine XS.ishr X0.here hx rfl (hb hby at_4) rfl ?_
    show Steps p.tables e below (s₁.setTop (mkF m 5 #[.val (.int u0), .val (.int u1), .val (.int u2), .val (.int u3), .val (.int u4), .val (.int u5), .unset, .unset, .unset, .unset, .unset, .unset, .unset, .unset, .unset, .unset] [(.int (u5 >>> ((8 : Int32) &&& 31)))])) _
    refine XS.iconst X0.here hx rfl (hb hby at_5) ?_
    refine XS.ior X0.here hx rfl (hb hby at_6) rfl ?_
    show Steps p.tables e below (s₁.setTop (mkF m 7 #[.val (.int u0), .val (.int u1), .val (.int u2), .val (.int u3), .val (.int u4), .val (.int u5), .unset, .unset, .unset, .unset, .unset, .unset, .unset, .unset, .unset, .unset] [(.int ((u5 >>> ((8 : Int32) &&& 31)) ||| (1 : Int32)))])) _
    rw [hdd]
    show Steps p.tables e below (s₁.setTop (mkF m 7 #[.val (.int u0), .val (.int u1), .val (.int u2), .val (.int u3), .val (.int u4), .val (.int u5), .unset, .unset, .unset, .unset, .unset, .unset, .unset, .unset, .unset, .unset] [(.int dd)])) _
    refine XS.istore X0.here hx rfl (hb hby at_7) rfl (l' := #[.val (.int u0), .val (.int u1), .val (.int u2), .val (.int u3), .val (.int u4), .val (.int u5), .val (.int dd), .unset, .unset, .unset, .unset, .unset, .unset, .unset, .unset, .unset]) rfl ?_
    refine st1 _ ?_
    refine XS.dup X1.here hx rfl (hb hby at_12) rfl rfl ?_
    show Steps p.tables e below (T1.setTop (mkF m 13 #[.val (.int u0), .val (.int u1), .val (.int u2), .val (.int u3), .val (.int u4), .val (.int u5), .val (.int dd), .unset, .unset, .unset, .unset, .unset, .unset, .unset, .unset, .unset] [(.ref b1), (.ref b1)])) _
    refine XS.iloadN X1.here hx rfl (hb hby at_13) rfl ?_
    refine XS.iloadN X1.here hx rfl (hb hby at_14) rfl ?_
    refine XS.iloadN X1.here hx rfl (hb hby at_15) rfl ?_
    show Steps p.tables e below (T1.setTop (mkF m 16 #[.val (.int u0), .val (.int u1), .val (.int u2), .val (.int u3), .val (.int u4), .val (.int u5), .val (.int dd), .unset, .unset, .unset, .unset, .unset, .unset, .unset, .unset, .unset] [(.int u2), (.int u1), (.int u0), (.ref b1), (.ref b1)])) _
    refine XS.iloadN X1.here hx rfl (hb hby at_16) rfl ?_
    refine XS.iload X1.here hx rfl (hb hby at_17) rfl ?_
    refine st2.trans ?_
    show Steps p.tables e below (T2.setTop (mkF m 22 #[.val (.int u0), .val (.int u1), .val (.int u2), .val (.int u3), .val (.int u4), .val (.int u5), .val (.int dd), .unset, .unset, .unset, .unset, .unset, .unset, .unset, .unset, .unset] [(.ref b1)])) _
    refine XS.astore X2.here hx rfl (hb hby at_22) rfl rfl (l' := #[.val (.int u0), .val (.int u1), .val (.int u2), .val (.int u3), .val (.int u4), .val (.int u5), .val (.int dd), .val (.ref b1), .unset, .unset, .unset, .unset, .unset, .unset, .unset, .unset]) rfl ?_
    refine XS.iload X2.here hx rfl (hb hby at_24) rfl ?_
    refine XS.iconst X2.here hx rfl (hb hby at_26) ?_
    show Steps p.tables e below (T2.setTop (mkF m 27 #[.val (.int u0), .val (.int u1), .val (.int u2), .val (.int u3), .val (.int u4), .val (.int u5), .val (.int dd), .val (.ref b1), .unset, .unset, .unset, .unset, .unset, .unset, .unset, .unset] [(.int (1 : Int32)), (.int u5)])) _
    refine XS.iand X2.here hx rfl (hb hby at_27) rfl ?_
    show Steps p.tables e below (T2.setTop (mkF m 28 #[.val (.int u0), .val (.int u1), .val (.int u2), .val (.int u3), .val (.int u4), .val (.int u5), .val (.int dd), .val (.ref b1), .unset, .unset, .unset, .unset, .unset, .unset, .unset, .unset] [(.int (u5 &&& (1 : Int32)))])) _
    suffices hshd3 : Steps p.tables e below (T2.setTop (mkF m 39 #[.val (.int u0), .val (.int u1), .val (.int u2), .val (.int u3), .val (.int u4), .val (.int u5), .val (.int dd), .val (.ref b1), .unset, .unset, .unset, .unset, .unset, .unset, .unset, .unset] [(.int (osel (decide ((u5 &&& (1 : Int32)) = (0 : Int32))) u0 (u0 + dd)))])) (T12.setFrames fs) by
      by_cases hd3 : (u5 &&& (1 : Int32)) = (0 : Int32)
      · rw [show (osel (decide ((u5 &&& (1 : Int32)) = (0 : Int32))) u0 (u0 + dd)) = u0 from if_pos (decide_eq_true hd3)] at hshd3
        refine XS.ifYes X2.here hx rfl (pc0 := 28) (pc' := 38) rfl (hb hby at_28) rfl ((if0 _ _).trans (teq hd3).1) (by decide) (by decide) ?_
        show Steps p.tables e below (T2.setTop (mkF m 38 #[.val (.int u0), .val (.int u1), .val (.int u2), .val (.int u3), .val (.int u4), .val (.int u5), .val (.int dd), .val (.ref b1), .unset, .unset, .unset, .unset, .unset, .unset, .unset, .unset] [])) _
        refine XS.iloadN X2.here hx rfl (hb hby at_38) rfl ?_
        exact hshd3
      · rw [show (osel (decide ((u5 &&& (1 : Int32)) = (0 : Int32))) u0 (u0 + dd)) = (u0 + dd) from if_neg (fun hh => absurd (of_decide_eq_true hh) hd3)] at hshd3
        refine XS.ifNo X2.here hx rfl (hb hby at_28) rfl ((if0 _ _).trans (feq hd3).1) ?_
        show Steps p.tables e below (T2.setTop (mkF m 31 #[.val (.int u0), .val (.int u1), .val (.int u2), .val (.int u3), .val (.int u4), .val (.int u5), .val (.int dd), .val (.ref b1), .unset, .unset, .unset, .unset, .unset, .unset, .unset, .unset] [])) _
        refine XS.iloadN X2.here hx rfl (hb hby at_31) rfl ?_
        show Steps p.tables e below (T2.setTop (mkF m 32 #[.val (.int u0), .val (.int u1), .val (.int u2), .val (.int u3), .val (.int u4), .val (.int u5), .val (.int dd), .val (.ref b1), .unset, .unset, .unset, .unset, .unset, .unset, .unset, .unset] [(.int u0)])) _
        refine XS.iload X2.here hx rfl (hb hby at_32) rfl ?_
        show Steps p.tables e below (T2.setTop (mkF m 34 #[.val (.int u0), .val (.int u1), .val (.int u2), .val (.int u3), .val (.int u4), .val (.int u5), .val (.int dd), .val (.ref b1), .unset, .unset, .unset, .unset, .unset, .unset, .unset, .unset] [(.int dd), (.int u0)])) _
        refine XS.iadd X2.here hx rfl (hb hby at_34) rfl ?_
        show Steps p.tables e below (T2.setTop (mkF m 35 #[.val (.int u0), .val (.int u1), .val (.int u2), .val (.int u3), .val (.int u4), .val (.int u5), .val (.int dd), .val (.ref b1), .unset, .unset, .unset, .unset, .unset, .unset, .unset, .unset] [(.int (u0 + dd))])) _
        refine XS.goto X2.here hx rfl (pc0 := 35) (pc' := 39) rfl (hb hby at_35) (by decide) (by decide) ?_
        exact hshd3
    show Steps p.tables e below (T2.setTop (mkF m 39 #[.val (.int u0), .val (.int u1), .val (.int u2), .val (.int u3), .val (.int u4), .val (.int u5), .val (.int dd), .val (.ref b1), .unset, .unset, .unset, .unset, .unset, .unset, .unset, .unset] [(.int (osel (decide ((u5 &&& (1 : Int32)) = (0 : Int32))) u0 (u0 + dd)))])) _
    rw [hv0]
    show Steps p.tables e below (T2.setTop (mkF m 39 #[.val (.int u0), .val (.int u1), .val (.int u2), .val (.int u3), .val (.int u4), .val (.int u5), .val (.int dd), .val (.ref b1), .unset, .unset, .unset, .unset, .unset, .unset, .unset, .unset] [(.int v0)])) _
    refine XS.istore X2.here hx rfl (hb hby at_39) rfl (l' := #[.val (.int u0), .val (.int u1), .val (.int u2), .val (.int u3), .val (.int u4), .val (.int u5), .val (.int dd), .val (.ref b1), .val (.int v0), .unset, .unset, .unset, .unset, .unset, .unset, .unset]) rfl ?_
    refine XS.iload X2.here hx rfl (hb hby at_41) rfl ?_
    refine XS.iconst X2.here hx rfl (hb hby at_43) ?_
    show Steps p.tables e below (T2.setTop (mkF m 44 #[.val (.int u0), .val (.int u1), .val (.int u2), .val (.int u3), .val (.int u4), .val (.int u5), .val (.int dd), .val (.ref b1), .val (.int v0), .unset, .unset, .unset, .unset, .unset, .unset, .unset] [(.int (2 : Int32)), (.int u5)])) _
    refine XS.iand X2.here hx rfl (hb hby at_44) rfl ?_
    show Steps p.tables e below (T2.setTop (mkF m 45 #[.val (.int u0), .val (.int u1), .val (.int u2), .val (.int u3), .val (.int u4), .val (.int u5), .val (.int dd), .val (.ref b1), .val (.int v0), .unset, .unset, .unset, .unset, .unset, .unset, .unset] [(.int (u5 &&& (2 : Int32)))])) _
    suffices hshd4 : Steps p.tables e below (T2.setTop (mkF m 56 #[.val (.int u0), .val (.int u1), .val (.int u2), .val (.int u3), .val (.int u4), .val (.int u5), .val (.int dd), .val (.ref b1), .val (.int v0), .unset, .unset, .unset, .unset, .unset, .unset, .unset] [(.int (osel (decide ((u5 &&& (2 : Int32)) = (0 : Int32))) u1 (u1 + dd)))])) (T12.setFrames fs) by
      by_cases hd4 : (u5 &&& (2 : Int32)) = (0 : Int32)
      · rw [show (osel (decide ((u5 &&& (2 : Int32)) = (0 : Int32))) u1 (u1 + dd)) = u1 from if_pos (decide_eq_true hd4)] at hshd4
        refine XS.ifYes X2.here hx rfl (pc0 := 45) (pc' := 55) rfl (hb hby at_45) rfl ((if0 _ _).trans (teq hd4).1) (by decide) (by decide) ?_
        show Steps p.tables e below (T2.setTop (mkF m 55 #[.val (.int u0), .val (.int u1), .val (.int u2), .val (.int u3), .val (.int u4), .val (.int u5), .val (.int dd), .val (.ref b1), .val (.int v0), .unset, .unset, .unset, .unset, .unset, .unset, .unset] [])) _
        refine XS.iloadN X2.here hx rfl (hb hby at_55) rfl ?_
        exact hshd4
      · rw [show (osel (decide ((u5 &&& (2 : Int32)) = (0 : Int32))) u1 (u1 + dd)) = (u1 + dd) from if_neg (fun hh => absurd (of_decide_eq_true hh) hd4)] at hshd4
        refine XS.ifNo X2.here hx rfl (hb hby at_45) rfl ((if0 _ _).trans (feq hd4).1) ?_
        show Steps p.tables e below (T2.setTop (mkF m 48 #[.val (.int u0), .val (.int u1), .val (.int u2), .val (.int u3), .val (.int u4), .val (.int u5), .val (.int dd), .val (.ref b1), .val (.int v0), .unset, .unset, .unset, .unset, .unset, .unset, .unset] [])) _
        refine XS.iloadN X2.here hx rfl (hb hby at_48) rfl ?_
        show Steps p.tables e below (T2.setTop (mkF m 49 #[.val (.int u0), .val (.int u1), .val (.int u2), .val (.int u3), .val (.int u4), .val (.int u5), .val (.int dd), .val (.ref b1), .val (.int v0), .unset, .unset, .unset, .unset, .unset, .unset, .unset] [(.int u1)])) _
        refine XS.iload X2.here hx rfl (hb hby at_49) rfl ?_
        show Steps p.tables e below (T2.setTop (mkF m 51 #[.val (.int u0), .val (.int u1), .val (.int u2), .val (.int u3), .val (.int u4), .val (.int u5), .val (.int dd), .val (.ref b1), .val (.int v0), .unset, .unset, .unset, .unset, .unset, .unset, .unset] [(.int dd), (.int u1)])) _
        refine XS.iadd X2.here hx rfl (hb hby at_51) rfl ?_
        show Steps p.tables e below (T2.setTop (mkF m 52 #[.val (.int u0), .val (.int u1), .val (.int u2), .val (.int u3), .val (.int u4), .val (.int u5), .val (.int dd), .val (.ref b1), .val (.int v0), .unset, .unset, .unset, .unset, .unset, .unset, .unset] [(.int (u1 + dd))])) _
        refine XS.goto X2.here hx rfl (pc0 := 52) (pc' := 56) rfl (hb hby at_52) (by decide) (by decide) ?_
        exact hshd4
    show Steps p.tables e below (T2.setTop (mkF m 56 #[.val (.int u0), .val (.int u1), .val (.int u2), .val (.int u3), .val (.int u4), .val (.int u5), .val (.int dd), .val (.ref b1), .val (.int v0), .unset, .unset, .unset, .unset, .unset, .unset, .unset] [(.int (osel (decide ((u5 &&& (2 : Int32)) = (0 : Int32))) u1 (u1 + dd)))])) _
    rw [hv1]
    show Steps p.tables e below (T2.setTop (mkF m 56 #[.val (.int u0), .val (.int u1), .val (.int u2), .val (.int u3), .val (.int u4), .val (.int u5), .val (.int dd), .val (.ref b1), .val (.int v0), .unset, .unset, .unset, .unset, .unset, .unset, .unset] [(.int v1)])) _
    refine XS.istore X2.here hx rfl (hb hby at_56) rfl (l' := #[.val (.int u0), .val (.int u1), .val (.int u2), .val (.int u3), .val (.int u4), .val (.int u5), .val (.int dd), .val (.ref b1), .val (.int v0), .val (.int v1), .unset, .unset, .unset, .unset, .unset, .unset]) rfl ?_
    refine XS.iload X2.here hx rfl (hb hby at_58) rfl ?_
    refine XS.iconst X2.here hx rfl (hb hby at_60) ?_
    show Steps p.tables e below (T2.setTop (mkF m 61 #[.val (.int u0), .val (.int u1), .val (.int u2), .val (.int u3), .val (.int u4), .val (.int u5), .val (.int dd), .val (.ref b1), .val (.int v0), .val (.int v1), .unset, .unset, .unset, .unset, .unset, .unset] [(.int (4 : Int32)), (.int u5)])) _
    refine XS.iand X2.here hx rfl (hb hby at_61) rfl ?_
    show Steps p.tables e below (T2.setTop (mkF m 62 #[.val (.int u0), .val (.int u1), .val (.int u2), .val (.int u3), .val (.int u4), .val (.int u5), .val (.int dd), .val (.ref b1), .val (.int v0), .val (.int v1), .unset, .unset, .unset, .unset, .unset, .unset] [(.int (u5 &&& (4 : Int32)))])) _
    suffices hshd5 : Steps p.tables e below (T2.setTop (mkF m 73 #[.val (.int u0), .val (.int u1), .val (.int u2), .val (.int u3), .val (.int u4), .val (.int u5), .val (.int dd), .val (.ref b1), .val (.int v0), .val (.int v1), .unset, .unset, .unset, .unset, .unset, .unset] [(.int (osel (decide ((u5 &&& (4 : Int32)) = (0 : Int32))) u2 (u2 + dd)))])) (T12.setFrames fs) by
      by_cases hd5 : (u5 &&& (4 : Int32)) = (0 : Int32)
      · rw [show (osel (decide ((u5 &&& (4 : Int32)) = (0 : Int32))) u2 (u2 + dd)) = u2 from if_pos (decide_eq_true hd5)] at hshd5
        refine XS.ifYes X2.here hx rfl (pc0 := 62) (pc' := 72) rfl (hb hby at_62) rfl ((if0 _ _).trans (teq hd5).1) (by decide) (by decide) ?_
        show Steps p.tables e below (T2.setTop (mkF m 72 #[.val (.int u0), .val (.int u1), .val (.int u2), .val (.int u3), .val (.int u4), .val (.int u5), .val (.int dd), .val (.ref b1), .val (.int v0), .val (.int v1), .unset, .unset, .unset, .unset, .unset, .unset] [])) _
        refine XS.iloadN X2.here hx rfl (hb hby at_72) rfl ?_
        exact hshd5
      · rw [show (osel (decide ((u5 &&& (4 : Int32)) = (0 : Int32))) u2 (u2 + dd)) = (u2 + dd) from if_neg (fun hh => absurd (of_decide_eq_true hh) hd5)] at hshd5
        refine XS.ifNo X2.here hx rfl (hb hby at_62) rfl ((if0 _ _).trans (feq hd5).1) ?_
        show Steps p.tables e below (T2.setTop (mkF m 65 #[.val (.int u0), .val (.int u1), .val (.int u2), .val (.int u3), .val (.int u4), .val (.int u5), .val (.int dd), .val (.ref b1), .val (.int v0), .val (.int v1), .unset, .unset, .unset, .unset, .unset, .unset] [])) _
        refine XS.iloadN X2.here hx rfl (hb hby at_65) rfl ?_
        show Steps p.tables e below (T2.setTop (mkF m 66 #[.val (.int u0), .val (.int u1), .val (.int u2), .val (.int u3), .val (.int u4), .val (.int u5), .val (.int dd), .val (.ref b1), .val (.int v0), .val (.int v1), .unset, .unset, .unset, .unset, .unset, .unset] [(.int u2)])) _
        refine XS.iload X2.here hx rfl (hb hby at_66) rfl ?_
        show Steps p.tables e below (T2.setTop (mkF m 68 #[.val (.int u0), .val (.int u1), .val (.int u2), .val (.int u3), .val (.int u4), .val (.int u5), .val (.int dd), .val (.ref b1), .val (.int v0), .val (.int v1), .unset, .unset, .unset, .unset, .unset, .unset] [(.int dd), (.int u2)])) _
        refine XS.iadd X2.here hx rfl (hb hby at_68) rfl ?_
        show Steps p.tables e below (T2.setTop (mkF m 69 #[.val (.int u0), .val (.int u1), .val (.int u2), .val (.int u3), .val (.int u4), .val (.int u5), .val (.int dd), .val (.ref b1), .val (.int v0), .val (.int v1), .unset, .unset, .unset, .unset, .unset, .unset] [(.int (u2 + dd))])) _
        refine XS.goto X2.here hx rfl (pc0 := 69) (pc' := 73) rfl (hb hby at_69) (by decide) (by decide) ?_
        exact hshd5
    show Steps p.tables e below (T2.setTop (mkF m 73 #[.val (.int u0), .val (.int u1), .val (.int u2), .val (.int u3), .val (.int u4), .val (.int u5), .val (.int dd), .val (.ref b1), .val (.int v0), .val (.int v1), .unset, .unset, .unset, .unset, .unset, .unset] [(.int (osel (decide ((u5 &&& (4 : Int32)) = (0 : Int32))) u2 (u2 + dd)))])) _
    rw [hv2]
    show Steps p.tables e below (T2.setTop (mkF m 73 #[.val (.int u0), .val (.int u1), .val (.int u2), .val (.int u3), .val (.int u4), .val (.int u5), .val (.int dd), .val (.ref b1), .val (.int v0), .val (.int v1), .unset, .unset, .unset, .unset, .unset, .unset] [(.int v2)])) _
    refine XS.istore X2.here hx rfl (hb hby at_73) rfl (l' := #[.val (.int u0), .val (.int u1), .val (.int u2), .val (.int u3), .val (.int u4), .val (.int u5), .val (.int dd), .val (.ref b1), .val (.int v0), .val (.int v1), .val (.int v2), .unset, .unset, .unset, .unset, .unset]) rfl ?_
    refine XS.iload X2.here hx rfl (hb hby at_75) rfl ?_
    refine XS.bipush X2.here hx rfl (hb hby at_77) ?_
    show Steps p.tables e below (T2.setTop (mkF m 79 #[.val (.int u0), .val (.int u1), .val (.int u2), .val (.int u3), .val (.int u4), .val (.int u5), .val (.int dd), .val (.ref b1), .val (.int v0), .val (.int v1), .val (.int v2), .unset, .unset, .unset, .unset, .unset] [(.int (8 : Int32)), (.int u5)])) _
    refine XS.iand X2.here hx rfl (hb hby at_79) rfl ?_
    show Steps p.tables e below (T2.setTop (mkF m 80 #[.val (.int u0), .val (.int u1), .val (.int u2), .val (.int u3), .val (.int u4), .val (.int u5), .val (.int dd), .val (.ref b1), .val (.int v0), .val (.int v1), .val (.int v2), .unset, .unset, .unset, .unset, .unset] [(.int (u5 &&& (8 : Int32)))])) _
    suffices hshd6 : Steps p.tables e below (T2.setTop (mkF m 91 #[.val (.int u0), .val (.int u1), .val (.int u2), .val (.int u3), .val (.int u4), .val (.int u5), .val (.int dd), .val (.ref b1), .val (.int v0), .val (.int v1), .val (.int v2), .unset, .unset, .unset, .unset, .unset] [(.int (osel (decide ((u5 &&& (8 : Int32)) = (0 : Int32))) u3 (u3 + dd)))])) (T12.setFrames fs) by
      by_cases hd6 : (u5 &&& (8 : Int32)) = (0 : Int32)
      · rw [show (osel (decide ((u5 &&& (8 : Int32)) = (0 : Int32))) u3 (u3 + dd)) = u3 from if_pos (decide_eq_true hd6)] at hshd6
        refine XS.ifYes X2.here hx rfl (pc0 := 80) (pc' := 90) rfl (hb hby at_80) rfl ((if0 _ _).trans (teq hd6).1) (by decide) (by decide) ?_
        show Steps p.tables e below (T2.setTop (mkF m 90 #[.val (.int u0), .val (.int u1), .val (.int u2), .val (.int u3), .val (.int u4), .val (.int u5), .val (.int dd), .val (.ref b1), .val (.int v0), .val (.int v1), .val (.int v2), .unset, .unset, .unset, .unset, .unset] [])) _
        refine XS.iloadN X2.here hx rfl (hb hby at_90) rfl ?_
        exact hshd6
      · rw [show (osel (decide ((u5 &&& (8 : Int32)) = (0 : Int32))) u3 (u3 + dd)) = (u3 + dd) from if_neg (fun hh => absurd (of_decide_eq_true hh) hd6)] at hshd6
        refine XS.ifNo X2.here hx rfl (hb hby at_80) rfl ((if0 _ _).trans (feq hd6).1) ?_
        show Steps p.tables e below (T2.setTop (mkF m 83 #[.val (.int u0), .val (.int u1), .val (.int u2), .val (.int u3), .val (.int u4), .val (.int u5), .val (.int dd), .val (.ref b1), .val (.int v0), .val (.int v1), .val (.int v2), .unset, .unset, .unset, .unset, .unset] [])) _
        refine XS.iloadN X2.here hx rfl (hb hby at_83) rfl ?_
        show Steps p.tables e below (T2.setTop (mkF m 84 #[.val (.int u0), .val (.int u1), .val (.int u2), .val (.int u3), .val (.int u4), .val (.int u5), .val (.int dd), .val (.ref b1), .val (.int v0), .val (.int v1), .val (.int v2), .unset, .unset, .unset, .unset, .unset] [(.int u3)])) _
        refine XS.iload X2.here hx rfl (hb hby at_84) rfl ?_
        show Steps p.tables e below (T2.setTop (mkF m 86 #[.val (.int u0), .val (.int u1), .val (.int u2), .val (.int u3), .val (.int u4), .val (.int u5), .val (.int dd), .val (.ref b1), .val (.int v0), .val (.int v1), .val (.int v2), .unset, .unset, .unset, .unset, .unset] [(.int dd), (.int u3)])) _
        refine XS.iadd X2.here hx rfl (hb hby at_86) rfl ?_
        show Steps p.tables e below (T2.setTop (mkF m 87 #[.val (.int u0), .val (.int u1), .val (.int u2), .val (.int u3), .val (.int u4), .val (.int u5), .val (.int dd), .val (.ref b1), .val (.int v0), .val (.int v1), .val (.int v2), .unset, .unset, .unset, .unset, .unset] [(.int (u3 + dd))])) _
        refine XS.goto X2.here hx rfl (pc0 := 87) (pc' := 91) rfl (hb hby at_87) (by decide) (by decide) ?_
        exact hshd6
    show Steps p.tables e below (T2.setTop (mkF m 91 #[.val (.int u0), .val (.int u1), .val (.int u2), .val (.int u3), .val (.int u4), .val (.int u5), .val (.int dd), .val (.ref b1), .val (.int v0), .val (.int v1), .val (.int v2), .unset, .unset, .unset, .unset, .unset] [(.int (osel (decide ((u5 &&& (8 : Int32)) = (0 : Int32))) u3 (u3 + dd)))])) _
    rw [hv3]
    show Steps p.tables e below (T2.setTop (mkF m 91 #[.val (.int u0), .val (.int u1), .val (.int u2), .val (.int u3), .val (.int u4), .val (.int u5), .val (.int dd), .val (.ref b1), .val (.int v0), .val (.int v1), .val (.int v2), .unset, .unset, .unset, .unset, .unset] [(.int v3)])) _
    refine XS.istore X2.here hx rfl (hb hby at_91) rfl (l' := #[.val (.int u0), .val (.int u1), .val (.int u2), .val (.int u3), .val (.int u4), .val (.int u5), .val (.int dd), .val (.ref b1), .val (.int v0), .val (.int v1), .val (.int v2), .val (.int v3), .unset, .unset, .unset, .unset]) rfl ?_
    refine XS.iload X2.here hx rfl (hb hby at_93) rfl ?_
    refine XS.bipush X2.here hx rfl (hb hby at_95) ?_
    show Steps p.tables e below (T2.setTop (mkF m 97 #[.val (.int u0), .val (.int u1), .val (.int u2), .val (.int u3), .val (.int u4), .val (.int u5), .val (.int dd), .val (.ref b1), .val (.int v0), .val (.int v1), .val (.int v2), .val (.int v3), .unset, .unset, .unset, .unset] [(.int (16 : Int32)), (.int u5)])) _
    refine XS.iand X2.here hx rfl (hb hby at_97) rfl ?_
    show Steps p.tables e below (T2.setTop (mkF m 98 #[.val (.int u0), .val (.int u1), .val (.int u2), .val (.int u3), .val (.int u4), .val (.int u5), .val (.int dd), .val (.ref b1), .val (.int v0), .val (.int v1), .val (.int v2), .val (.int v3), .unset, .unset, .unset, .unset] [(.int (u5 &&& (16 : Int32)))])) _
    suffices hshd7 : Steps p.tables e below (T2.setTop (mkF m 111 #[.val (.int u0), .val (.int u1), .val (.int u2), .val (.int u3), .val (.int u4), .val (.int u5), .val (.int dd), .val (.ref b1), .val (.int v0), .val (.int v1), .val (.int v2), .val (.int v3), .unset, .unset, .unset, .unset] [(.int (osel (decide ((u5 &&& (16 : Int32)) = (0 : Int32))) u4 (u4 + dd)))])) (T12.setFrames fs) by
      by_cases hd7 : (u5 &&& (16 : Int32)) = (0 : Int32)
      · rw [show (osel (decide ((u5 &&& (16 : Int32)) = (0 : Int32))) u4 (u4 + dd)) = u4 from if_pos (decide_eq_true hd7)] at hshd7
        refine XS.ifYes X2.here hx rfl (pc0 := 98) (pc' := 109) rfl (hb hby at_98) rfl ((if0 _ _).trans (teq hd7).1) (by decide) (by decide) ?_
        show Steps p.tables e below (T2.setTop (mkF m 109 #[.val (.int u0), .val (.int u1), .val (.int u2), .val (.int u3), .val (.int u4), .val (.int u5), .val (.int dd), .val (.ref b1), .val (.int v0), .val (.int v1), .val (.int v2), .val (.int v3), .unset, .unset, .unset, .unset] [])) _
        refine XS.iload X2.here hx rfl (hb hby at_109) rfl ?_
        exact hshd7
      · rw [show (osel (decide ((u5 &&& (16 : Int32)) = (0 : Int32))) u4 (u4 + dd)) = (u4 + dd) from if_neg (fun hh => absurd (of_decide_eq_true hh) hd7)] at hshd7
        refine XS.ifNo X2.here hx rfl (hb hby at_98) rfl ((if0 _ _).trans (feq hd7).1) ?_
        show Steps p.tables e below (T2.setTop (mkF m 101 #[.val (.int u0), .val (.int u1), .val (.int u2), .val (.int u3), .val (.int u4), .val (.int u5), .val (.int dd), .val (.ref b1), .val (.int v0), .val (.int v1), .val (.int v2), .val (.int v3), .unset, .unset, .unset, .unset] [])) _
        refine XS.iload X2.here hx rfl (hb hby at_101) rfl ?_
        show Steps p.tables e below (T2.setTop (mkF m 103 #[.val (.int u0), .val (.int u1), .val (.int u2), .val (.int u3), .val (.int u4), .val (.int u5), .val (.int dd), .val (.ref b1), .val (.int v0), .val (.int v1), .val (.int v2), .val (.int v3), .unset, .unset, .unset, .unset] [(.int u4)])) _
        refine XS.iload X2.here hx rfl (hb hby at_103) rfl ?_
        show Steps p.tables e below (T2.setTop (mkF m 105 #[.val (.int u0), .val (.int u1), .val (.int u2), .val (.int u3), .val (.int u4), .val (.int u5), .val (.int dd), .val (.ref b1), .val (.int v0), .val (.int v1), .val (.int v2), .val (.int v3), .unset, .unset, .unset, .unset] [(.int dd), (.int u4)])) _
        refine XS.iadd X2.here hx rfl (hb hby at_105) rfl ?_
        show Steps p.tables e below (T2.setTop (mkF m 106 #[.val (.int u0), .val (.int u1), .val (.int u2), .val (.int u3), .val (.int u4), .val (.int u5), .val (.int dd), .val (.ref b1), .val (.int v0), .val (.int v1), .val (.int v2), .val (.int v3), .unset, .unset, .unset, .unset] [(.int (u4 + dd))])) _
        refine XS.goto X2.here hx rfl (pc0 := 106) (pc' := 111) rfl (hb hby at_106) (by decide) (by decide) ?_
        exact hshd7
    show Steps p.tables e below (T2.setTop (mkF m 111 #[.val (.int u0), .val (.int u1), .val (.int u2), .val (.int u3), .val (.int u4), .val (.int u5), .val (.int dd), .val (.ref b1), .val (.int v0), .val (.int v1), .val (.int v2), .val (.int v3), .unset, .unset, .unset, .unset] [(.int (osel (decide ((u5 &&& (16 : Int32)) = (0 : Int32))) u4 (u4 + dd)))])) _
    rw [hv4]
    show Steps p.tables e below (T2.setTop (mkF m 111 #[.val (.int u0), .val (.int u1), .val (.int u2), .val (.int u3), .val (.int u4), .val (.int u5), .val (.int dd), .val (.ref b1), .val (.int v0), .val (.int v1), .val (.int v2), .val (.int v3), .unset, .unset, .unset, .unset] [(.int v4)])) _
    refine XS.istore X2.here hx rfl (hb hby at_111) rfl (l' := #[.val (.int u0), .val (.int u1), .val (.int u2), .val (.int u3), .val (.int u4), .val (.int u5), .val (.int dd), .val (.ref b1), .val (.int v0), .val (.int v1), .val (.int v2), .val (.int v3), .val (.int v4), .unset, .unset, .unset]) rfl ?_
    refine st8 _ ?_
    refine XS.dup X8.here hx rfl (hb hby at_116) rfl rfl ?_
    show Steps p.tables e below (T8.setTop (mkF m 117 #[.val (.int u0), .val (.int u1), .val (.int u2), .val (.int u3), .val (.int u4), .val (.int u5), .val (.int dd), .val (.ref b1), .val (.int v0), .val (.int v1), .val (.int v2), .val (.int v3), .val (.int v4), .unset, .unset, .unset] [(.ref b2), (.ref b2)])) _
    refine XS.iload X8.here hx rfl (hb hby at_117) rfl ?_
    refine XS.iload X8.here hx rfl (hb hby at_119) rfl ?_
    refine XS.iload X8.here hx rfl (hb hby at_121) rfl ?_
    show Steps p.tables e below (T8.setTop (mkF m 123 #[.val (.int u0), .val (.int u1), .val (.int u2), .val (.int u3), .val (.int u4), .val (.int u5), .val (.int dd), .val (.ref b1), .val (.int v0), .val (.int v1), .val (.int v2), .val (.int v3), .val (.int v4), .unset, .unset, .unset] [(.int v2), (.int v1), (.int v0), (.ref b2), (.ref b2)])) _
    refine XS.iload X8.here hx rfl (hb hby at_123) rfl ?_
    refine XS.iload X8.here hx rfl (hb hby at_125) rfl ?_
    refine st9.trans ?_
    show Steps p.tables e below (T9.setTop (mkF m 130 #[.val (.int u0), .val (.int u1), .val (.int u2), .val (.int u3), .val (.int u4), .val (.int u5), .val (.int dd), .val (.ref b1), .val (.int v0), .val (.int v1), .val (.int v2), .val (.int v3), .val (.int v4), .unset, .unset, .unset] [(.ref b2)])) _
    refine XS.astore X9.here hx rfl (hb hby at_130) rfl rfl (l' := #[.val (.int u0), .val (.int u1), .val (.int u2), .val (.int u3), .val (.int u4), .val (.int u5), .val (.int dd), .val (.ref b1), .val (.int v0), .val (.int v1), .val (.int v2), .val (.int v3), .val (.int v4), .val (.ref b2), .unset, .unset]) rfl ?_
    refine XS.iload X9.here hx rfl (hb hby at_132) rfl ?_
    refine XS.bipush X9.here hx rfl (hb hby at_134) ?_
    show Steps p.tables e below (T9.setTop (mkF m 136 #[.val (.int u0), .val (.int u1), .val (.int u2), .val (.int u3), .val (.int u4), .val (.int u5), .val (.int dd), .val (.ref b1), .val (.int v0), .val (.int v1), .val (.int v2), .val (.int v3), .val (.int v4), .val (.ref b2), .unset, .unset] [(.int (31 : Int32)), (.int u5)])) _
    refine XS.iand X9.here hx rfl (hb hby at_136) rfl ?_
    show Steps p.tables e below (T9.setTop (mkF m 137 #[.val (.int u0), .val (.int u1), .val (.int u2), .val (.int u3), .val (.int u4), .val (.int u5), .val (.int dd), .val (.ref b1), .val (.int v0), .val (.int v1), .val (.int v2), .val (.int v3), .val (.int v4), .val (.ref b2), .unset, .unset] [(.int (u5 &&& (31 : Int32)))])) _
    suffices hshd10 : Steps p.tables e below (T9.setTop (mkF m 145 #[.val (.int u0), .val (.int u1), .val (.int u2), .val (.int u3), .val (.int u4), .val (.int u5), .val (.int dd), .val (.ref b1), .val (.int v0), .val (.int v1), .val (.int v2), .val (.int v3), .val (.int v4), .val (.ref b2), .unset, .unset] [(.int (osel (decide ((u5 &&& (31 : Int32)) = (0 : Int32))) (1 : Int32) (0 : Int32)))])) (T12.setFrames fs) by
      by_cases hd10 : (u5 &&& (31 : Int32)) = (0 : Int32)
      · rw [show (osel (decide ((u5 &&& (31 : Int32)) = (0 : Int32))) (1 : Int32) (0 : Int32)) = (1 : Int32) from if_pos (decide_eq_true hd10)] at hshd10
        refine XS.ifNo X9.here hx rfl (hb hby at_137) rfl ((if0 _ _).trans (teq hd10).2) ?_
        show Steps p.tables e below (T9.setTop (mkF m 140 #[.val (.int u0), .val (.int u1), .val (.int u2), .val (.int u3), .val (.int u4), .val (.int u5), .val (.int dd), .val (.ref b1), .val (.int v0), .val (.int v1), .val (.int v2), .val (.int v3), .val (.int v4), .val (.ref b2), .unset, .unset] [])) _
        refine XS.iconst X9.here hx rfl (hb hby at_140) ?_
        show Steps p.tables e below (T9.setTop (mkF m 141 #[.val (.int u0), .val (.int u1), .val (.int u2), .val (.int u3), .val (.int u4), .val (.int u5), .val (.int dd), .val (.ref b1), .val (.int v0), .val (.int v1), .val (.int v2), .val (.int v3), .val (.int v4), .val (.ref b2), .unset, .unset] [(.int (1 : Int32))])) _
        refine XS.goto X9.here hx rfl (pc0 := 141) (pc' := 145) rfl (hb hby at_141) (by decide) (by decide) ?_
        exact hshd10
      · rw [show (osel (decide ((u5 &&& (31 : Int32)) = (0 : Int32))) (1 : Int32) (0 : Int32)) = (0 : Int32) from if_neg (fun hh => absurd (of_decide_eq_true hh) hd10)] at hshd10
        refine XS.ifYes X9.here hx rfl (pc0 := 137) (pc' := 144) rfl (hb hby at_137) rfl ((if0 _ _).trans (feq hd10).2) (by decide) (by decide) ?_
        show Steps p.tables e below (T9.setTop (mkF m 144 #[.val (.int u0), .val (.int u1), .val (.int u2), .val (.int u3), .val (.int u4), .val (.int u5), .val (.int dd), .val (.ref b1), .val (.int v0), .val (.int v1), .val (.int v2), .val (.int v3), .val (.int v4), .val (.ref b2), .unset, .unset] [])) _
        refine XS.iconst X9.here hx rfl (hb hby at_144) ?_
        exact hshd10
    show Steps p.tables e below (T9.setTop (mkF m 145 #[.val (.int u0), .val (.int u1), .val (.int u2), .val (.int u3), .val (.int u4), .val (.int u5), .val (.int dd), .val (.ref b1), .val (.int v0), .val (.int v1), .val (.int v2), .val (.int v3), .val (.int v4), .val (.ref b2), .unset, .unset] [(.int (osel (decide ((u5 &&& (31 : Int32)) = (0 : Int32))) (1 : Int32) (0 : Int32)))])) _
    rw [hsm]
    show Steps p.tables e below (T9.setTop (mkF m 145 #[.val (.int u0), .val (.int u1), .val (.int u2), .val (.int u3), .val (.int u4), .val (.int u5), .val (.int dd), .val (.ref b1), .val (.int v0), .val (.int v1), .val (.int v2), .val (.int v3), .val (.int v4), .val (.ref b2), .unset, .unset] [(.int sm)])) _
    refine XS.istore X9.here hx rfl (hb hby at_145) rfl (l' := #[.val (.int u0), .val (.int u1), .val (.int u2), .val (.int u3), .val (.int u4), .val (.int u5), .val (.int dd), .val (.ref b1), .val (.int v0), .val (.int v1), .val (.int v2), .val (.int v3), .val (.int v4), .val (.ref b2), .val (.int sm), .unset]) rfl ?_
    refine XS.iload X9.here hx rfl (hb hby at_147) rfl ?_
    refine XS.iconst X9.here hx rfl (hb hby at_149) ?_
    show Steps p.tables e below (T9.setTop (mkF m 150 #[.val (.int u0), .val (.int u1), .val (.int u2), .val (.int u3), .val (.int u4), .val (.int u5), .val (.int dd), .val (.ref b1), .val (.int v0), .val (.int v1), .val (.int v2), .val (.int v3), .val (.int v4), .val (.ref b2), .val (.int sm), .unset] [(.int (5 : Int32)), (.int u5)])) _
    refine XS.ishr X9.here hx rfl (hb hby at_150) rfl ?_
    refine XS.iconst X9.here hx rfl (hb hby at_151) ?_
    refine XS.iand X9.here hx rfl (hb hby at_152) rfl ?_
    show Steps p.tables e below (T9.setTop (mkF m 153 #[.val (.int u0), .val (.int u1), .val (.int u2), .val (.int u3), .val (.int u4), .val (.int u5), .val (.int dd), .val (.ref b1), .val (.int v0), .val (.int v1), .val (.int v2), .val (.int v3), .val (.int v4), .val (.ref b2), .val (.int sm), .unset] [(.int ((u5 >>> ((5 : Int32) &&& 31)) &&& (3 : Int32)))])) _
    refine XS.istore X9.here hx rfl (hb hby at_153) rfl (l' := #[.val (.int u0), .val (.int u1), .val (.int u2), .val (.int u3), .val (.int u4), .val (.int u5), .val (.int dd), .val (.ref b1), .val (.int v0), .val (.int v1), .val (.int v2), .val (.int v3), .val (.int v4), .val (.ref b2), .val (.int sm), .val (.int ((u5 >>> ((5 : Int32) &&& 31)) &&& (3 : Int32)))]) rfl ?_
    refine XS.iload X9.here hx rfl (hb hby at_155) rfl ?_
    refine XS.iconst X9.here hx rfl (hb hby at_157) ?_
    show Steps p.tables e below (T9.setTop (mkF m 158 #[.val (.int u0), .val (.int u1), .val (.int u2), .val (.int u3), .val (.int u4), .val (.int u5), .val (.int dd), .val (.ref b1), .val (.int v0), .val (.int v1), .val (.int v2), .val (.int v3), .val (.int v4), .val (.ref b2), .val (.int sm), .val (.int ((u5 >>> ((5 : Int32) &&& 31)) &&& (3 : Int32)))] [(.int (1 : Int32)), (.int ((u5 >>> ((5 : Int32) &&& 31)) &&& (3 : Int32)))])) _
    refine XS.icmpNo X9.here hx rfl (hb hby at_158) rfl (teq hf1).2 ?_
    refine XS.aload X9.here hx rfl (hb hby at_161) rfl rfl ?_
    refine XS.aconstNull X9.here hx rfl (hb hby at_163) ?_
    show Steps p.tables e below (T9.setTop (mkF m 164 #[.val (.int u0), .val (.int u1), .val (.int u2), .val (.int u3), .val (.int u4), .val (.int u5), .val (.int dd), .val (.ref b1), .val (.int v0), .val (.int v1), .val (.int v2), .val (.int v3), .val (.int v4), .val (.ref b2), .val (.int sm), .val (.int ((u5 >>> ((5 : Int32) &&& 31)) &&& (3 : Int32)))] [.null, (.ref b1)])) _
    refine st11.trans ?_
    refine XS.ifNo X11.here hx rfl (hb hby at_167) rfl ((if0 _ _).trans (teq (by decide : (0 : Int32) = (0 : Int32))).2) ?_
    refine XS.aload X11.here hx rfl (hb hby at_170) rfl rfl ?_
    show Steps p.tables e below (T11.setTop (mkF m 172 #[.val (.int u0), .val (.int u1), .val (.int u2), .val (.int u3), .val (.int u4), .val (.int u5), .val (.int dd), .val (.ref b1), .val (.int v0), .val (.int v1), .val (.int v2), .val (.int v3), .val (.int v4), .val (.ref b2), .val (.int sm), .val (.int ((u5 >>> ((5 : Int32) &&& 31)) &&& (3 : Int32)))] [(.ref b1)])) _
    refine XS.aload X11.here hx rfl (hb hby at_172) rfl rfl ?_
    refine st12.trans ?_
    refine XS.ifNo X12.here hx rfl (hb hby at_177) rfl ((if0 _ _).trans (feq (by decide : ¬ ((1 : Int32) = (0 : Int32)))).1) ?_
    show Steps p.tables e below (T12.setTop (mkF m 180 #[.val (.int u0), .val (.int u1), .val (.int u2), .val (.int u3), .val (.int u4), .val (.int u5), .val (.int dd), .val (.ref b1), .val (.int v0), .val (.int v1), .val (.int v2), .val (.int v3), .val (.int v4), .val (.ref b2), .val (.int sm), .val (.int ((u5 >>> ((5 : Int32) &&& 31)) &&& (3 : Int32)))] [])) _
    refine XS.iconst X12.here hx rfl (hb hby at_180) ?_
    refine XS.goto X12.here hx rfl (pc0 := 181) (pc' := 185) rfl (hb hby at_181) (by decide) (by decide) ?_
    show Steps p.tables e below (T12.setTop (mkF m 185 #[.val (.int u0), .val (.int u1), .val (.int u2), .val (.int u3), .val (.int u4), .val (.int u5), .val (.int dd), .val (.ref b1), .val (.int v0), .val (.int v1), .val (.int v2), .val (.int v3), .val (.int v4), .val (.ref b2), .val (.int sm), .val (.int ((u5 >>> ((5 : Int32) &&& 31)) &&& (3 : Int32)))] [(.int (1 : Int32))])) _
    exact retN X12 hx (t := .boolean) Bd.returns (by simp) (hb hby at_185) hr
  · exact ⟨rfl, N12⟩
theorem d_jdk_33_method_22_code_23 : decode jdk_33_method_22_code 23 = .ok (.new 1, 3) := by decide +kernel
theorem d_jdk_33_method_22_code_26 : decode jdk_33_method_22_code 26 = .ok (.dup, 1) := by decide +kernel
theorem d_jdk_33_method_22_code_27 : decode jdk_33_method_22_code 27 = .ok (.iload_n 0, 1) := by decide +kernel
theorem d_jdk_33_method_22_code_28 : decode jdk_33_method_22_code 28 = .ok (.invokespecial 199, 3) := by decide +kernel
theorem d_jdk_33_method_23_code_0 : decode jdk_33_method_23_code 0 = .ok (.aload_n 0, 1) := by decide +kernel
theorem d_jdk_33_method_23_code_1 : decode jdk_33_method_23_code 1 = .ok (.invokespecial 202, 3) := by decide +kernel
theorem d_jdk_18_method_1_code_0 : decode jdk_18_method_1_code 0 = .ok (.aload_n 0, 1) := by decide +kernel
theorem d_jdk_18_method_1_code_1 : decode jdk_18_method_1_code 1 = .ok (.invokespecial 1, 3) := by decide +kernel
theorem d_jdk_18_method_1_code_4 : decode jdk_18_method_1_code 4 = .ok (.return_, 1) := by decide +kernel
theorem pn_java_lang_Number : plainName "java/lang/Number" = true := by first | (simp [plainName, overriddenIn]; done) | decide +kernel
theorem ef_jdk_18_method_1_code_R (m : MethodId) (x0 : Addr) : entryFrame m #[(.ref x0)] 1 = mkF m 0 #[.val (.ref x0)] [] := by first | (simp [entryFrame, mkF, argsToLocals, Value.category]; done) | rfl
set_option maxRecDepth 65536 in
set_option maxHeartbeats 40000000 in
theorem rm__init__6 (l : Launch) (Z : State) (a0 : Array Value) (hw : ∀ d ∈ tables_1, d.before a0 Z = true) (w : Nat → Addr) (κ : Nat → ClassId) (h0 : Heap) (n0 : Nat) (Z0 : n0 ≤ h0.size) (K : Kon Z h0 w κ) (u0 u1 u2 u3 u4 u5 dd v0 v1 v2 v3 v4 sm : Int32) (b1 : Addr) (b2 : Addr) (b3 : Addr) :
    OM l Z (⟨"java/lang/Number", "<init>", "()V"⟩ : MethodName) jdk_18_method_1_code 1 none [] ({ frames := 1, cells := 0, slots := 0, locals := 12 } : Room) #[(.ref b3)] h0 (OP none n0 h0) := by
  refine MetFree.of_bodySF (plainFor_of_name pn_java_lang_Number) hisR ?_
  intro p e s m args below meth c s₁ Bd hml0 hP hK
  obtain ⟨rfl, hZ, hh⟩ := hP
  have hx := Bd.exec
  have hby := Bd.bytes
  have hml : c.maxLocals = 1 := hml0
  have hown : s.vm.findClass "java/lang/Number" = some m.cls := findClass_of_methodNamed Bd.named
  have hnm := (name_of_methodNamed Bd.named Bd.method).1
  have X0 : Stand p l e ({ frames := 1, cells := 0, slots := 0, locals := 12 } : Room) s m #[(.ref b3)] below meth c s₁ [] 0 0 := Stand.of_body Bd
  have e0 : s₁.heap = h0 := by rw [← hh, Bd.state]; rfl
  have N0 := Fr.nil n0
  have pre0 : ∀ t, Steps p.tables e below (s₁.setTop (mkF m 0 #[.val (.ref b3)] [])) t → Steps p.tables e below (s₁.setTop (entryFrame m #[(.ref b3)] 1)) t := fun t k => castTop (ef_jdk_18_method_1_code_R m b3) k
  obtain ⟨T1, X1, e1, st1⟩ := initO X0 hx hZ hown (hw _ (List.mem_of_getElem? (i := 48) rfl)) (hw _ (List.mem_of_getElem? (i := 7) rfl)) (hw _ (List.mem_of_getElem? (i := 8) rfl)) e0 (g := (mkF m 1 #[.val (.ref b3)] [(.ref b3)])) rfl (by rw [hml]; rfl) rfl (hb hby d_jdk_18_method_1_code_1) (by decide) (W := 0) (by show 2 * 0 + _ ≤ _; exact Nat.le_of_eq rfl) (by decide)
  obtain ⟨fs, hr, hrun, hended, hW, hsame⟩ := X1.leave (v := none) (fun _ => rfl)
  refine ⟨_, _, pre0 _ ?_, hrun, hended, _, _, rfl, ?_, ⟨_, rfl⟩, hW, hsame.mono (by decide) (by decide)⟩
  · show Steps p.tables e below (s₁.setTop (mkF m 0 #[.val (.ref b3)] [])) _
    refine XS.aloadN X0.here hx rfl (hb hby d_jdk_18_method_1_code_0) rfl rfl ?_
    refine st1 _ ?_
    show Steps p.tables e below (T1.setTop (mkF m 4 #[.val (.ref b3)] [])) _
    exact X1.returnOut hx Bd.returns (hb hby d_jdk_18_method_1_code_4) hr
  · exact ⟨rfl, N0, e1⟩
theorem pd_2829V : parseMethodDescriptor "()V" = some ⟨[], none⟩ := by decide +kernel
theorem d_jdk_33_method_23_code_4 : decode jdk_33_method_23_code 4 = .ok (.aload_n 0, 1) := by decide +kernel
theorem d_jdk_33_method_23_code_5 : decode jdk_33_method_23_code 5 = .ok (.iload_n 1, 1) := by decide +kernel
theorem d_jdk_33_method_23_code_6 : decode jdk_33_method_23_code 6 = .ok (.putfield 205, 3) := by decide +kernel
theorem d_jdk_33_method_23_code_9 : decode jdk_33_method_23_code 9 = .ok (.return_, 1) := by decide +kernel
def Q_rm__init__7 (Z : State) (w : Nat → Addr) (κ : Nat → ClassId) (n0 : Nat) (u0 u1 u2 u3 u4 u5 dd v0 v1 v2 v3 v4 sm : Int32) (b1 : Addr) (b2 : Addr) (b3 : Addr) (v : Option Value) (h : Heap) (L : List Loc) : Prop := (v = none) ∧ (Fr n0 L) ∧ (n0 ≤ h.size) ∧ (Kon Z h w κ) ∧ (Exa Z h b1 "com/example/bot_workflow_runner/botworkflowrunner/model/Progress") ∧ (Fld Z h b1 "com/example/bot_workflow_runner/botworkflowrunner/model/Progress" "total" "I" (.int u0)) ∧ (Fld Z h b1 "com/example/bot_workflow_runner/botworkflowrunner/model/Progress" "completed" "I" (.int u1)) ∧ (Fld Z h b1 "com/example/bot_workflow_runner/botworkflowrunner/model/Progress" "running" "I" (.int u2)) ∧ (Fld Z h b1 "com/example/bot_workflow_runner/botworkflowrunner/model/Progress" "failed" "I" (.int u3)) ∧ (Fld Z h b1 "com/example/bot_workflow_runner/botworkflowrunner/model/Progress" "skipped" "I" (.int u4)) ∧ (Exa Z h b2 "com/example/bot_workflow_runner/botworkflowrunner/model/Progress") ∧ (Fld Z h b2 "com/example/bot_workflow_runner/botworkflowrunner/model/Progress" "total" "I" (.int v0)) ∧ (Fld Z h b2 "com/example/bot_workflow_runner/botworkflowrunner/model/Progress" "completed" "I" (.int v1)) ∧ (Fld Z h b2 "com/example/bot_workflow_runner/botworkflowrunner/model/Progress" "running" "I" (.int v2)) ∧ (Fld Z h b2 "com/example/bot_workflow_runner/botworkflowrunner/model/Progress" "failed" "I" (.int v3)) ∧ (Fld Z h b2 "com/example/bot_workflow_runner/botworkflowrunner/model/Progress" "skipped" "I" (.int v4)) ∧ (Exa Z h b3 "java/lang/Integer") ∧ (Fld Z h b3 "java/lang/Integer" "value" "I" (.int u0))
theorem ef_jdk_33_method_23_code_RI (m : MethodId) (x0 : Addr) (x1 : Int32) : entryFrame m #[(.ref x0), (.int x1)] 2 = mkF m 0 #[.val (.ref x0), .val (.int x1)] [] := by first | (simp [entryFrame, mkF, argsToLocals, Value.category]; done) | rfl
set_option maxRecDepth 65536 in
set_option maxHeartbeats 40000000 in
theorem rm__init__7 (l : Launch) (Z : State) (a0 : Array Value) (hw : ∀ d ∈ tables_1, d.before a0 Z = true) (w : Nat → Addr) (κ : Nat → ClassId) (h0 : Heap) (n0 : Nat) (Z0 : n0 ≤ h0.size) (K : Kon Z h0 w κ) (u0 u1 u2 u3 u4 u5 dd v0 v1 v2 v3 v4 sm : Int32) (b1 : Addr) (b2 : Addr) (b3 : Addr) (fE_b1 : Exa Z h0 b1 "com/example/bot_workflow_runner/botworkflowrunner/model/Progress") (fF_b1_com_example_bot_workflow_runner_botworkflowrunner_model_Progress_total : Fld Z h0 b1 "com/example/bot_workflow_runner/botworkflowrunner/model/Progress" "total" "I" (.int u0)) (fF_b1_com_example_bot_workflow_runner_botworkflowrunner_model_Progress_completed : Fld Z h0 b1 "com/example/bot_workflow_runner/botworkflowrunner/model/Progress" "completed" "I" (.int u1)) (fF_b1_com_example_bot_workflow_runner_botworkflowrunner_model_Progress_running : Fld Z h0 b1 "com/example/bot_workflow_runner/botworkflowrunner/model/Progress" "running" "I" (.int u2)) (fF_b1_com_example_bot_workflow_runner_botworkflowrunner_model_Progress_failed : Fld Z h0 b1 "com/example/bot_workflow_runner/botworkflowrunner/model/Progress" "failed" "I" (.int u3)) (fF_b1_com_example_bot_workflow_runner_botworkflowrunner_model_Progress_skipped : Fld Z h0 b1 "com/example/bot_workflow_runner/botworkflowrunner/model/Progress" "skipped" "I" (.int u4)) (fE_b2 : Exa Z h0 b2 "com/example/bot_workflow_runner/botworkflowrunner/model/Progress") (fF_b2_com_example_bot_workflow_runner_botworkflowrunner_model_Progress_total : Fld Z h0 b2 "com/example/bot_workflow_runner/botworkflowrunner/model/Progress" "total" "I" (.int v0)) (fF_b2_com_example_bot_workflow_runner_botworkflowrunner_model_Progress_completed : Fld Z h0 b2 "com/example/bot_workflow_runner/botworkflowrunner/model/Progress" "completed" "I" (.int v1)) (fF_b2_com_example_bot_workflow_runner_botworkflowrunner_model_Progress_running : Fld Z h0 b2 "com/example/bot_workflow_runner/botworkflowrunner/model/Progress" "running" "I" (.int v2)) (fF_b2_com_example_bot_workflow_runner_botworkflowrunner_model_Progress_failed : Fld Z h0 b2 "com/example/bot_workflow_runner/botworkflowrunner/model/Progress" "failed" "I" (.int v3)) (fF_b2_com_example_bot_workflow_runner_botworkflowrunner_model_Progress_skipped : Fld Z h0 b2 "com/example/bot_workflow_runner/botworkflowrunner/model/Progress" "skipped" "I" (.int v4)) (fE_b3 : Exa Z h0 b3 "java/lang/Integer") (fF_b3_java_lang_Integer_value : Fld Z h0 b3 "java/lang/Integer" "value" "I" (.int (0 : Int32))) (fG_b1 : n0 ≤ b1) (fKN_b1 : ∀ i, i < 1 → w i ≠ b1) (fG_b2 : n0 ≤ b2) (fN_b1_b2 : b1 ≠ b2) (fKN_b2 : ∀ i, i < 1 → w i ≠ b2) (fG_b3 : n0 ≤ b3) (fN_b1_b3 : b1 ≠ b3) (fN_b2_b3 : b2 ≠ b3) (fKN_b3 : ∀ i, i < 1 → w i ≠ b3) :
    OM l Z (⟨"java/lang/Integer", "<init>", "(I)V"⟩ : MethodName) jdk_33_method_23_code 2 none [] ({ frames := 2, cells := 0, slots := 0, locals := 24 } : Room) #[(.ref b3), (.int u0)] h0 (Q_rm__init__7 Z w κ n0 u0 u1 u2 u3 u4 u5 dd v0 v1 v2 v3 v4 sm b1 b2 b3) := by
  refine MetFree.of_bodySF (plainFor_of_name pn_java_lang_Integer) hisR ?_
  intro p e s m args below meth c s₁ Bd hml0 hP hK
  obtain ⟨rfl, hZ, hh⟩ := hP
  have hx := Bd.exec
  have hby := Bd.bytes
  have hml : c.maxLocals = 2 := hml0
  have hown : s.vm.findClass "java/lang/Integer" = some m.cls := findClass_of_methodNamed Bd.named
  have hnm := (name_of_methodNamed Bd.named Bd.method).1
  have X0 : Stand p l e ({ frames := 2, cells := 0, slots := 0, locals := 24 } : Room) s m #[(.ref b3), (.int u0)] below meth c s₁ [] 0 0 := Stand.of_body Bd
  have e0 : s₁.heap = h0 := by rw [← hh, Bd.state]; rfl
  have N0 := Fr.nil n0
  have pre0 : ∀ t, Steps p.tables e below (s₁.setTop (mkF m 0 #[.val (.ref b3), .val (.int u0)] [])) t → Steps p.tables e below (s₁.setTop (entryFrame m #[(.ref b3), (.int u0)] 2)) t := fun t k => castTop (ef_jdk_33_method_23_code_RI m b3 u0) k
  obtain ⟨_, _, ⟨T1, L1, kk1, n1⟩, -, X1, ⟨Lc1, hQ1, l1, y1, z1⟩, st1⟩ := Jvm.Stand.specialBack X0 hx (y := (⟨"java/lang/Number", "<init>", "()V"⟩ : MethodName)) rfl hown (mvT hZ (hw _ (List.mem_of_getElem? (i := 42) rfl))) (mvT hZ (hw _ (List.mem_of_getElem? (i := 43) rfl))) (mvT hZ (hw _ (List.mem_of_getElem? (i := 47) rfl))) (by decide) (backOf (W := 0) (rm__init__6 l Z a0 hw w κ h0 n0 Z0 K u0 u1 u2 u3 u4 u5 dd v0 v1 v2 v3 v4 sm b1 b2 b3) hZ (hw _ (List.mem_of_getElem? (i := 47) rfl)) (hw _ (List.mem_of_getElem? (i := 46) rfl)) (by decide) (by decide)) (g := (mkF m 1 #[.val (.ref b3), .val (.int u0)] [(.ref b3)])) rfl (by rw [hml]; rfl) (Steps.refl _) (a := b3) (argsL := []) (rest := []) (lenOf pd_2829V rfl) rfl (by show 2 * 0 + _ ≤ _; exact Nat.le_of_eq rfl) (hb hby d_jdk_33_method_23_code_1) (fun _ _ => ⟨rfl, e0, (by decide : 0 + 0 ≤ _), (by decide : 0 + 0 ≤ _)⟩)
  dsimp only [Pt.U, Pt.locs, Pt.cells, Pt.slots] at X1 l1 y1 z1 st1 hQ1
  subst l1 y1 z1
  obtain ⟨rfl, N1q, e1⟩ := hQ1
  have N1 := Fr.app N0 N1q
  obtain ⟨T2, h2, X2, e2, W2, st2⟩ := putF X1 hx hZ hown (host := "") (Or.inl (hw _ (List.mem_of_getElem? (i := 49) rfl))) Via.refl e1 fF_b3_java_lang_Integer_value fE_b3 (Or.inr ⟨(hw _ (List.mem_of_getElem? (i := 50) rfl)), rfl, hnm⟩) (hw _ (List.mem_of_getElem? (i := 37) rfl)) (ty := .int) (by decide) rfl rfl (g := (mkF m 6 #[.val (.ref b3), .val (.int u0)] [(.int u0), (.ref b3)])) rfl rfl (hb hby d_jdk_33_method_23_code_6)
  have f2_fE_b1 : Exa Z h2 b1 "com/example/bot_workflow_runner/botworkflowrunner/model/Progress" := fE_b1.wr W2
  have f2_fF_b1_com_example_bot_workflow_runner_botworkflowrunner_model_Progress_total : Fld Z h2 b1 "com/example/bot_workflow_runner/botworkflowrunner/model/Progress" "total" "I" (.int u0) := fF_b1_com_example_bot_workflow_runner_botworkflowrunner_model_Progress_total.other W2 (Or.inl fN_b1_b3)
  have f2_fF_b1_com_example_bot_workflow_runner_botworkflowrunner_model_Progress_completed : Fld Z h2 b1 "com/example/bot_workflow_runner/botworkflowrunner/model/Progress" "completed" "I" (.int u1) := fF_b1_com_example_bot_workflow_runner_botworkflowrunner_model_Progress_completed.other W2 (Or.inl fN_b1_b3)
  have f2_fF_b1_com_example_bot_workflow_runner_botworkflowrunner_model_Progress_running : Fld Z h2 b1 "com/example/bot_workflow_runner/botworkflowrunner/model/Progress" "running" "I" (.int u2) := fF_b1_com_example_bot_workflow_runner_botworkflowrunner_model_Progress_running.other W2 (Or.inl fN_b1_b3)
  have f2_fF_b1_com_example_bot_workflow_runner_botworkflowrunner_model_Progress_failed : Fld Z h2 b1 "com/example/bot_workflow_runner/botworkflowrunner/model/Progress" "failed" "I" (.int u3) := fF_b1_com_example_bot_workflow_runner_botworkflowrunner_model_Progress_failed.other W2 (Or.inl fN_b1_b3)
  have f2_fF_b1_com_example_bot_workflow_runner_botworkflowrunner_model_Progress_skipped : Fld Z h2 b1 "com/example/bot_workflow_runner/botworkflowrunner/model/Progress" "skipped" "I" (.int u4) := fF_b1_com_example_bot_workflow_runner_botworkflowrunner_model_Progress_skipped.other W2 (Or.inl fN_b1_b3)
  have f2_fE_b2 : Exa Z h2 b2 "com/example/bot_workflow_runner/botworkflowrunner/model/Progress" := fE_b2.wr W2
  have f2_fF_b2_com_example_bot_workflow_runner_botworkflowrunner_model_Progress_total : Fld Z h2 b2 "com/example/bot_workflow_runner/botworkflowrunner/model/Progress" "total" "I" (.int v0) := fF_b2_com_example_bot_workflow_runner_botworkflowrunner_model_Progress_total.other W2 (Or.inl fN_b2_b3)
  have f2_fF_b2_com_example_bot_workflow_runner_botworkflowrunner_model_Progress_completed : Fld Z h2 b2 "com/example/bot_workflow_runner/botworkflowrunner/model/Progress" "completed" "I" (.int v1) := fF_b2_com_example_bot_workflow_runner_botworkflowrunner_model_Progress_completed.other W2 (Or.inl fN_b2_b3)
  have f2_fF_b2_com_example_bot_workflow_runner_botworkflowrunner_model_Progress_running : Fld Z h2 b2 "com/example/bot_workflow_runner/botworkflowrunner/model/Progress" "running" "I" (.int v2) := fF_b2_com_example_bot_workflow_runner_botworkflowrunner_model_Progress_running.other W2 (Or.inl fN_b2_b3)
  have f2_fF_b2_com_example_bot_workflow_runner_botworkflowrunner_model_Progress_failed : Fld Z h2 b2 "com/example/bot_workflow_runner/botworkflowrunner/model/Progress" "failed" "I" (.int v3) := fF_b2_com_example_bot_workflow_runner_botworkflowrunner_model_Progress_failed.other W2 (Or.inl fN_b2_b3)
  have f2_fF_b2_com_example_bot_workflow_runner_botworkflowrunner_model_Progress_skipped : Fld Z h2 b2 "com/example/bot_workflow_runner/botworkflowrunner/model/Progress" "skipped" "I" (.int v4) := fF_b2_com_example_bot_workflow_runner_botworkflowrunner_model_Progress_skipped.other W2 (Or.inl fN_b2_b3)
  have f2_fE_b3 : Exa Z h2 b3 "java/lang/Integer" := fE_b3.wr W2
  have f2_fF_b3_java_lang_Integer_value : Fld Z h2 b3 "java/lang/Integer" "value" "I" (.int u0) := fF_b3_java_lang_Integer_value.same W2
  have K2 := K.wr W2 fKN_b3
  have Z2 : n0 ≤ h2.size := Nat.le_trans Z0 (Nat.le_of_eq W2.size.symm)
  have N2 := Fr.snoc X2 N1 fG_b3
  obtain ⟨fs, hr, hrun, hended, hW, hsame⟩ := X2.leave (v := none) (fun _ => rfl)
  refine ⟨_, _, pre0 _ ?_, hrun, hended, _, _, rfl, ?_, ⟨_, rfl⟩, hW, hsame.mono (by decide) (by decide)⟩
  · show Steps p.tables e below (s₁.setTop (mkF m 0 #[.val (.ref b3), .val (.int u0)] [])) _
    refine XS.aloadN X0.here hx rfl (hb hby d_jdk_33_method_23_code_0) rfl rfl ?_
    refine st1.trans ?_
    refine XS.aloadN X1.here hx rfl (hb hby d_jdk_33_method_23_code_4) rfl rfl ?_
    show Steps p.tables e below (T1.setTop (mkF m 5 #[.val (.ref b3), .val (.int u0)] [(.ref b3)])) _
    refine XS.iloadN X1.here hx rfl (hb hby d_jdk_33_method_23_code_5) rfl ?_
    refine st2 _ ?_
    show Steps p.tables e below (T2.setTop (mkF m 9 #[.val (.ref b3), .val (.int u0)] [])) _
    exact X2.returnOut hx Bd.returns (hb hby d_jdk_33_method_23_code_9) hr
  · show Q_rm__init__7 Z w κ n0 u0 u1 u2 u3 u4 u5 dd v0 v1 v2 v3 v4 sm b1 b2 b3 _ T2.heap _
    rw [e2]
    exact ⟨rfl, N2, Z2, K2, f2_fE_b1, f2_fF_b1_com_example_bot_workflow_runner_botworkflowrunner_model_Progress_total, f2_fF_b1_com_example_bot_workflow_runner_botworkflowrunner_model_Progress_completed, f2_fF_b1_com_example_bot_workflow_runner_botworkflowrunner_model_Progress_running, f2_fF_b1_com_example_bot_workflow_runner_botworkflowrunner_model_Progress_failed, f2_fF_b1_com_example_bot_workflow_runner_botworkflowrunner_model_Progress_skipped, f2_fE_b2, f2_fF_b2_com_example_bot_workflow_runner_botworkflowrunner_model_Progress_total, f2_fF_b2_com_example_bot_workflow_runner_botworkflowrunner_model_Progress_completed, f2_fF_b2_com_example_bot_workflow_runner_botworkflowrunner_model_Progress_running, f2_fF_b2_com_example_bot_workflow_runner_botworkflowrunner_model_Progress_failed, f2_fF_b2_com_example_bot_workflow_runner_botworkflowrunner_model_Progress_skipped, f2_fE_b3, f2_fF_b3_java_lang_Integer_value⟩
theorem pd_28I29V : parseMethodDescriptor "(I)V" = some ⟨[.int], none⟩ := by decide +kernel
theorem d_jdk_33_method_22_code_31 : decode jdk_33_method_22_code 31 = .ok (.areturn, 1) := by decide +kernel
def Q_rm_valueOf_8 (Z : State) (w : Nat → Addr) (κ : Nat → ClassId) (n0 : Nat) (u0 u1 u2 u3 u4 u5 dd v0 v1 v2 v3 v4 sm : Int32) (b1 : Addr) (b2 : Addr) (v : Option Value) (h : Heap) (L : List Loc) : Prop := ∃ b3 : Addr, (v = (some (.ref b3))) ∧ (Fr n0 L) ∧ (n0 ≤ h.size) ∧ (Kon Z h w κ) ∧ (Exa Z h b1 "com/example/bot_workflow_runner/botworkflowrunner/model/Progress") ∧ (Fld Z h b1 "com/example/bot_workflow_runner/botworkflowrunner/model/Progress" "total" "I" (.int u0)) ∧ (Fld Z h b1 "com/example/bot_workflow_runner/botworkflowrunner/model/Progress" "completed" "I" (.int u1)) ∧ (Fld Z h b1 "com/example/bot_workflow_runner/botworkflowrunner/model/Progress" "running" "I" (.int u2)) ∧ (Fld Z h b1 "com/example/bot_workflow_runner/botworkflowrunner/model/Progress" "failed" "I" (.int u3)) ∧ (Fld Z h b1 "com/example/bot_workflow_runner/botworkflowrunner/model/Progress" "skipped" "I" (.int u4)) ∧ (Exa Z h b2 "com/example/bot_workflow_runner/botworkflowrunner/model/Progress") ∧ (Fld Z h b2 "com/example/bot_workflow_runner/botworkflowrunner/model/Progress" "total" "I" (.int v0)) ∧ (Fld Z h b2 "com/example/bot_workflow_runner/botworkflowrunner/model/Progress" "completed" "I" (.int v1)) ∧ (Fld Z h b2 "com/example/bot_workflow_runner/botworkflowrunner/model/Progress" "running" "I" (.int v2)) ∧ (Fld Z h b2 "com/example/bot_workflow_runner/botworkflowrunner/model/Progress" "failed" "I" (.int v3)) ∧ (Fld Z h b2 "com/example/bot_workflow_runner/botworkflowrunner/model/Progress" "skipped" "I" (.int v4)) ∧ (Exa Z h b3 "java/lang/Integer") ∧ (Fld Z h b3 "java/lang/Integer" "value" "I" (.int u0)) ∧ (n0 ≤ b3) ∧ (b1 ≠ b3) ∧ (b2 ≠ b3) ∧ (∀ i, i < 1 → w i ≠ b3)
theorem ef_jdk_33_method_22_code_I (m : MethodId) (x0 : Int32) : entryFrame m #[(.int x0)] 1 = mkF m 0 #[.val (.int x0)] [] := by first | (simp [entryFrame, mkF, argsToLocals, Value.category]; done) | rfl
set_option maxRecDepth 65536 in
set_option maxHeartbeats 40000000 in
theorem rm_valueOf_8 (l : Launch) (Z : State) (a0 : Array Value) (hw : ∀ d ∈ tables_1, d.before a0 Z = true) (w : Nat → Addr) (κ : Nat → ClassId) (h0 : Heap) (n0 : Nat) (Z0 : n0 ≤ h0.size) (K : Kon Z h0 w κ) (u0 u1 u2 u3 u4 u5 dd v0 v1 v2 v3 v4 sm : Int32) (b1 : Addr) (b2 : Addr) (hf3 : u0 < (-128 : Int32)) (fE_b1 : Exa Z h0 b1 "com/example/bot_workflow_runner/botworkflowrunner/model/Progress") (fF_b1_com_example_bot_workflow_runner_botworkflowrunner_model_Progress_total : Fld Z h0 b1 "com/example/bot_workflow_runner/botworkflowrunner/model/Progress" "total" "I" (.int u0)) (fF_b1_com_example_bot_workflow_runner_botworkflowrunner_model_Progress_completed : Fld Z h0 b1 "com/example/bot_workflow_runner/botworkflowrunner/model/Progress" "completed" "I" (.int u1)) (fF_b1_com_example_bot_workflow_runner_botworkflowrunner_model_Progress_running : Fld Z h0 b1 "com/example/bot_workflow_runner/botworkflowrunner/model/Progress" "running" "I" (.int u2)) (fF_b1_com_example_bot_workflow_runner_botworkflowrunner_model_Progress_failed : Fld Z h0 b1 "com/example/bot_workflow_runner/botworkflowrunner/model/Progress" "failed" "I" (.int u3)) (fF_b1_com_example_bot_workflow_runner_botworkflowrunner_model_Progress_skipped : Fld Z h0 b1 "com/example/bot_workflow_runner/botworkflowrunner/model/Progress" "skipped" "I" (.int u4)) (fE_b2 : Exa Z h0 b2 "com/example/bot_workflow_runner/botworkflowrunner/model/Progress") (fF_b2_com_example_bot_workflow_runner_botworkflowrunner_model_Progress_total : Fld Z h0 b2 "com/example/bot_workflow_runner/botworkflowrunner/model/Progress" "total" "I" (.int v0)) (fF_b2_com_example_bot_workflow_runner_botworkflowrunner_model_Progress_completed : Fld Z h0 b2 "com/example/bot_workflow_runner/botworkflowrunner/model/Progress" "completed" "I" (.int v1)) (fF_b2_com_example_bot_workflow_runner_botworkflowrunner_model_Progress_running : Fld Z h0 b2 "com/example/bot_workflow_runner/botworkflowrunner/model/Progress" "running" "I" (.int v2)) (fF_b2_com_example_bot_workflow_runner_botworkflowrunner_model_Progress_failed : Fld Z h0 b2 "com/example/bot_workflow_runner/botworkflowrunner/model/Progress" "failed" "I" (.int v3)) (fF_b2_com_example_bot_workflow_runner_botworkflowrunner_model_Progress_skipped : Fld Z h0 b2 "com/example/bot_workflow_runner/botworkflowrunner/model/Progress" "skipped" "I" (.int v4)) (fG_b1 : n0 ≤ b1) (fKN_b1 : ∀ i, i < 1 → w i ≠ b1) (fG_b2 : n0 ≤ b2) (fN_b1_b2 : b1 ≠ b2) (fKN_b2 : ∀ i, i < 1 → w i ≠ b2) :
    OM l Z (⟨"java/lang/Integer", "valueOf", "(I)Ljava/lang/Integer;"⟩ : MethodName) jdk_33_method_22_code 1 (some (.object "java/lang/Integer")) [] ({ frames := 3, cells := 1, slots := 1, locals := 38 } : Room) #[(.int u0)] h0 (Q_rm_valueOf_8 Z w κ n0 u0 u1 u2 u3 u4 u5 dd v0 v1 v2 v3 v4 sm b1 b2) := by
  refine MetFree.of_bodySF (plainFor_of_name pn_java_lang_Integer) hisR ?_
  intro p e s m args below meth c s₁ Bd hml0 hP hK
  obtain ⟨rfl, hZ, hh⟩ := hP
  have hx := Bd.exec
  have hby := Bd.bytes
  have hml : c.maxLocals = 1 := hml0
  have hown : s.vm.findClass "java/lang/Integer" = some m.cls := findClass_of_methodNamed Bd.named
  have hnm := (name_of_methodNamed Bd.named Bd.method).1
  have X0 : Stand p l e ({ frames := 3, cells := 1, slots := 1, locals := 38 } : Room) s m #[(.int u0)] below meth c s₁ [] 0 0 := Stand.of_body Bd
  have e0 : s₁.heap = h0 := by rw [← hh, Bd.state]; rfl
  have N0 := Fr.nil n0
  have pre0 : ∀ t, Steps p.tables e below (s₁.setTop (mkF m 0 #[.val (.int u0)] [])) t → Steps p.tables e below (s₁.setTop (entryFrame m #[(.int u0)] 1)) t := fun t k => castTop (ef_jdk_33_method_22_code_I m u0) k
  obtain ⟨T1, h1, X1, e1, E1, A1, D1, -, st1⟩ := newO X0 hx hZ hown (hw _ (List.mem_of_getElem? (i := 36) rfl)) (hw _ (List.mem_of_getElem? (i := 37) rfl)) (hw _ (List.mem_of_getElem? (i := 28) rfl)) e0 (g := (mkF m 23 #[.val (.int u0)] [])) rfl (hb hby d_jdk_33_method_22_code_23) (by decide) (by decide)
  obtain ⟨b3, g1⟩ : ∃ z, z = h0.size := ⟨_, rfl⟩
  rw [← g1] at A1 D1 st1
  have hG1 : n0 ≤ b3 := Nat.le_trans Z0 (Nat.le_of_eq g1.symm)
  have hN1_0 : b1 ≠ b3 := by rw [g1]; exact Nat.ne_of_lt fE_b1.lt
  have hN1_1 : b2 ≠ b3 := by rw [g1]; exact Nat.ne_of_lt fE_b2.lt
  have hKN1 : ∀ i, i < 1 → w i ≠ b3 := fun i hi => by rw [g1]; exact Nat.ne_of_lt (K.lt i hi)
  have f1_fE_b1 := fE_b1.ext E1
  have f1_fF_b1_com_example_bot_workflow_runner_botworkflowrunner_model_Progress_total := fF_b1_com_example_bot_workflow_runner_botworkflowrunner_model_Progress_total.ext E1
  have f1_fF_b1_com_example_bot_workflow_runner_botworkflowrunner_model_Progress_completed := fF_b1_com_example_bot_workflow_runner_botworkflowrunner_model_Progress_completed.ext E1
  have f1_fF_b1_com_example_bot_workflow_runner_botworkflowrunner_model_Progress_running := fF_b1_com_example_bot_workflow_runner_botworkflowrunner_model_Progress_running.ext E1
  have f1_fF_b1_com_example_bot_workflow_runner_botworkflowrunner_model_Progress_failed := fF_b1_com_example_bot_workflow_runner_botworkflowrunner_model_Progress_failed.ext E1
  have f1_fF_b1_com_example_bot_workflow_runner_botworkflowrunner_model_Progress_skipped := fF_b1_com_example_bot_workflow_runner_botworkflowrunner_model_Progress_skipped.ext E1
  have f1_fE_b2 := fE_b2.ext E1
  have f1_fF_b2_com_example_bot_workflow_runner_botworkflowrunner_model_Progress_total := fF_b2_com_example_bot_workflow_runner_botworkflowrunner_model_Progress_total.ext E1
  have f1_fF_b2_com_example_bot_workflow_runner_botworkflowrunner_model_Progress_completed := fF_b2_com_example_bot_workflow_runner_botworkflowrunner_model_Progress_completed.ext E1
  have f1_fF_b2_com_example_bot_workflow_runner_botworkflowrunner_model_Progress_running := fF_b2_com_example_bot_workflow_runner_botworkflowrunner_model_Progress_running.ext E1
  have f1_fF_b2_com_example_bot_workflow_runner_botworkflowrunner_model_Progress_failed := fF_b2_com_example_bot_workflow_runner_botworkflowrunner_model_Progress_failed.ext E1
  have f1_fF_b2_com_example_bot_workflow_runner_botworkflowrunner_model_Progress_skipped := fF_b2_com_example_bot_workflow_runner_botworkflowrunner_model_Progress_skipped.ext E1
  have K1 := K.ext E1
  have Z1 : n0 ≤ h1.size := Nat.le_trans Z0 E1.1
  have f1_value : Fld Z h1 b3 "java/lang/Integer" "value" "I" (.int (0 : Int32)) := D1 (Or.inr (hw _ (List.mem_of_getElem? (i := 50) rfl))) (ty := .int) (by decide)
  obtain ⟨_, _, ⟨T2, L2, kk2, n2⟩, -, X2, ⟨Lc2, hQ2, l2, y2, z2⟩, st2⟩ := Jvm.Stand.specialBack X1 hx (y := (⟨"java/lang/Integer", "<init>", "(I)V"⟩ : MethodName)) rfl hown (mvT hZ (hw _ (List.mem_of_getElem? (i := 38) rfl))) (mvT hZ (hw _ (List.mem_of_getElem? (i := 39) rfl))) (mvT hZ (hw _ (List.mem_of_getElem? (i := 41) rfl))) (by decide) (backOf (W := 1) (rm__init__7 l Z a0 hw w κ h1 n0 Z1 K1 u0 u1 u2 u3 u4 u5 dd v0 v1 v2 v3 v4 sm b1 b2 b3 f1_fE_b1 f1_fF_b1_com_example_bot_workflow_runner_botworkflowrunner_model_Progress_total f1_fF_b1_com_example_bot_workflow_runner_botworkflowrunner_model_Progress_completed f1_fF_b1_com_example_bot_workflow_runner_botworkflowrunner_model_Progress_running f1_fF_b1_com_example_bot_workflow_runner_botworkflowrunner_model_Progress_failed f1_fF_b1_com_example_bot_workflow_runner_botworkflowrunner_model_Progress_skipped f1_fE_b2 f1_fF_b2_com_example_bot_workflow_runner_botworkflowrunner_model_Progress_total f1_fF_b2_com_example_bot_workflow_runner_botworkflowrunner_model_Progress_completed f1_fF_b2_com_example_bot_workflow_runner_botworkflowrunner_model_Progress_running f1_fF_b2_com_example_bot_workflow_runner_botworkflowrunner_model_Progress_failed f1_fF_b2_com_example_bot_workflow_runner_botworkflowrunner_model_Progress_skipped A1 f1_value fG_b1 fKN_b1 fG_b2 fN_b1_b2 fKN_b2 hG1 hN1_0 hN1_1 hKN1) hZ (hw _ (List.mem_of_getElem? (i := 41) rfl)) (hw _ (List.mem_of_getElem? (i := 28) rfl)) (by decide) (by decide)) (g := (mkF m 28 #[.val (.int u0)] [(.int u0), (.ref b3), (.ref b3)])) rfl (by rw [hml]; rfl) (Steps.refl _) (a := b3) (argsL := [(.int u0)]) (rest := [(.ref b3)]) (lenOf pd_28I29V rfl) rfl (by show 2 * 0 + _ ≤ _; exact Nat.le_of_eq rfl) (hb hby d_jdk_33_method_22_code_28) (fun _ _ => ⟨rfl, e1, (by decide : 1 + 0 ≤ _), (by decide : 1 + 0 ≤ _)⟩)
  dsimp only [Pt.U, Pt.locs, Pt.cells, Pt.slots] at X2 l2 y2 z2 st2 hQ2
  subst l2 y2 z2
  obtain ⟨rfl, N2q, Z2, K2, f2_0, f2_1, f2_2, f2_3, f2_4, f2_5, f2_6, f2_7, f2_8, f2_9, f2_10, f2_11, f2_12, f2_13⟩ := hQ2
  have N2 := Fr.app N0 N2q
  obtain ⟨fs, hr, hrun, hended, hW, hsame⟩ := X2.leave (v := (some (.ref b3))) (fun h => by rw [Bd.returns] at h; cases h)
  refine ⟨_, _, pre0 _ ?_, hrun, hended, _, _, rfl, ?_, ⟨_, rfl⟩, hW, hsame.mono (by decide) (by decide)⟩
  · show Steps p.tables e below (s₁.setTop (mkF m 0 #[.val (.int u0)] [])) _
    refine XS.iloadN X0.here hx rfl (hb hby d_jdk_33_method_22_code_0) rfl ?_
    refine XS.bipush X0.here hx rfl (hb hby d_jdk_33_method_22_code_1) ?_
    refine XS.icmpYes X0.here hx rfl (pc0 := 3) (pc' := 23) rfl (hb hby d_jdk_33_method_22_code_3) rfl (tlt hf3).1 (by decide) (by decide) ?_
    show Steps p.tables e below (s₁.setTop (mkF m 23 #[.val (.int u0)] [])) _
    refine st1 _ ?_
    refine XS.dup X1.here hx rfl (hb hby d_jdk_33_method_22_code_26) rfl rfl ?_
    refine XS.iloadN X1.here hx rfl (hb hby d_jdk_33_method_22_code_27) rfl ?_
    show Steps p.tables e below (T1.setTop (mkF m 28 #[.val (.int u0)] [(.int u0), (.ref b3), (.ref b3)])) _
    refine st2.trans ?_
    show Steps p.tables e below (T2.setTop (mkF m 31 #[.val (.int u0)] [(.ref b3)])) _
    jvm_step X2.here [X2.here.top, hx, (hb hby d_jdk_33_method_22_code_31), X2.method', Bd.returns, Value.isRef, FieldType.isReference]
    first | (intro acts; rw [hr _ acts rfl rfl rfl]) | rw [hr _ _ rfl rfl rfl]
    exact Steps.refl _
  · show Q_rm_valueOf_8 Z w κ n0 u0 u1 u2 u3 u4 u5 dd v0 v1 v2 v3 v4 sm b1 b2 _ T2.heap _
    exact ⟨b3, rfl, N2, Z2, K2, f2_0, f2_1, f2_2, f2_3, f2_4, f2_5, f2_6, f2_7, f2_8, f2_9, f2_10, f2_11, f2_12, f2_13, hG1, hN1_0, hN1_1, hKN1⟩
theorem pd_28I29Ljava2flang2fInteger3b : parseMethodDescriptor "(I)Ljava/lang/Integer;" = some ⟨[.int], some (.object "java/lang/Integer")⟩ := by decide +kernel
set_option maxRecDepth 65536 in
set_option maxHeartbeats 40000000 in
theorem rm_equals_9 (l : Launch) (Z : State) (a0 : Array Value) (hw : ∀ d ∈ tables_1, d.before a0 Z = true) (w : Nat → Addr) (κ : Nat → ClassId) (h0 : Heap) (n0 : Nat) (Z0 : n0 ≤ h0.size) (K : Kon Z h0 w κ) (u0 u1 u2 u3 u4 u5 dd v0 v1 v2 v3 v4 sm : Int32) (b1 : Addr) (b2 : Addr) (b3 : Addr) (fE_b3 : Exa Z h0 b3 "java/lang/Integer") :
    OM l Z (⟨"com/example/bot_workflow_runner/botworkflowrunner/model/Progress", "equals", "(Ljava/lang/Object;)Z"⟩ : MethodName) prog_31_method_10_code 3 (some .boolean) [] ({ frames := 0, cells := 0, slots := 0, locals := 0 } : Room) #[(.ref b1), (.ref b3)] h0 (OP (some (.int (0 : Int32))) n0 h0) := by
  refine MetFree.of_bodySF (plainFor_of_name pn_com_example_bot_workflow_runner_botworkflowrunner_model_Progress) hisR ?_
  intro p e s m args below meth c s₁ Bd hml0 hP hK
  obtain ⟨rfl, hZ, hh⟩ := hP
  have hx := Bd.exec
  have hby := Bd.bytes
  have hml : c.maxLocals = 3 := hml0
  have hown : s.vm.findClass "com/example/bot_workflow_runner/botworkflowrunner/model/Progress" = some m.cls := findClass_of_methodNamed Bd.named
  have hnm := (name_of_methodNamed Bd.named Bd.method).1
  have X0 : Stand p l e ({ frames := 0, cells := 0, slots := 0, locals := 0 } : Room) s m #[(.ref b1), (.ref b3)] below meth c s₁ [] 0 0 := Stand.of_body Bd
  have e0 : s₁.heap = h0 := by rw [← hh, Bd.state]; rfl
  have N0 := Fr.nil n0
  have pre0 : ∀ t, Steps p.tables e below (s₁.setTop (mkF m 0 #[.val (.ref b1), .val (.ref b3), .unset] [])) t → Steps p.tables e below (s₁.setTop (entryFrame m #[(.ref b1), (.ref b3)] 3)) t := fun t k => castTop (ef_prog_31_method_10_code_RR m b1 b3) k
  obtain ⟨T1, X1, e1, st1⟩ := instNo X0 hx hZ hown (hw _ (List.mem_of_getElem? (i := 24) rfl)) e0 fE_b3 (own_no (hw _ (List.mem_of_getElem? (i := 33) rfl)) (hw _ (List.mem_of_getElem? (i := 1) rfl)) (NS.step (hw _ (List.mem_of_getElem? (i := 33) rfl)) (NS.step (hw _ (List.mem_of_getElem? (i := 34) rfl)) (own_root (hw _ (List.mem_of_getElem? (i := 35) rfl)) (hw _ (List.mem_of_getElem? (i := 1) rfl)) (by decide)) (by decide)) (by decide)) (by decide)) (g := (mkF m 1 #[.val (.ref b1), .val (.ref b3), .unset] [(.ref b3)])) rfl rfl (hb hby d_prog_31_method_10_code_1)
  obtain ⟨fs, hr, hrun, hended, hW, hsame⟩ := X1.leave (v := (some (.int (0 : Int32)))) (fun h => by rw [Bd.returns] at h; cases h)
  refine ⟨_, _, pre0 _ ?_, hrun, hended, _, _, rfl, ?_, ⟨_, rfl⟩, hW, hsame.mono (by decide) (by decide)⟩
  · show Steps p.tables e below (s₁.setTop (mkF m 0 #[.val (.ref b1), .val (.ref b3), .unset] [])) _
    refine XS.aloadN X0.here hx rfl (hb hby d_prog_31_method_10_code_0) rfl rfl ?_
    refine st1 _ ?_
    refine XS.ifNo X1.here hx rfl (hb hby d_prog_31_method_10_code_4) rfl ((if0 _ _).trans (teq (by decide : (0 : Int32) = (0 : Int32))).2) ?_
    show Steps p.tables e below (T1.setTop (mkF m 7 #[.val (.ref b1), .val (.ref b3), .unset] [])) _
    refine XS.iconst X1.here hx rfl (hb hby d_prog_31_method_10_code_7) ?_
    show Steps p.tables e below (T1.setTop (mkF m 8 #[.val (.ref b1), .val (.ref b3), .unset] [(.int (0 : Int32))])) _
    exact retN X1 hx (t := .boolean) Bd.returns (by simp) (hb hby d_prog_31_method_10_code_8) hr
  · exact ⟨rfl, N0, e1⟩
set_option maxRecDepth 65536 in
set_option maxHeartbeats 40000000 in
theorem rm_equals_10 (l : Launch) (Z : State) (a0 : Array Value) (hw : ∀ d ∈ tables_1, d.before a0 Z = true) (w : Nat → Addr) (κ : Nat → ClassId) (h0 : Heap) (n0 : Nat) (Z0 : n0 ≤ h0.size) (K : Kon Z h0 w κ) (u0 u1 u2 u3 u4 u5 dd v0 v1 v2 v3 v4 sm : Int32) (b1 : Addr) (b2 : Addr) (b3 : Addr) (fE_b1 : Exa Z h0 b1 "com/example/bot_workflow_runner/botworkflowrunner/model/Progress") (fF_b1_com_example_bot_workflow_runner_botworkflowrunner_model_Progress_total : Fld Z h0 b1 "com/example/bot_workflow_runner/botworkflowrunner/model/Progress" "total" "I" (.int u0)) (fF_b1_com_example_bot_workflow_runner_botworkflowrunner_model_Progress_completed : Fld Z h0 b1 "com/example/bot_workflow_runner/botworkflowrunner/model/Progress" "completed" "I" (.int u1)) (fF_b1_com_example_bot_workflow_runner_botworkflowrunner_model_Progress_running : Fld Z h0 b1 "com/example/bot_workflow_runner/botworkflowrunner/model/Progress" "running" "I" (.int u2)) (fF_b1_com_example_bot_workflow_runner_botworkflowrunner_model_Progress_failed : Fld Z h0 b1 "com/example/bot_workflow_runner/botworkflowrunner/model/Progress" "failed" "I" (.int u3)) (fF_b1_com_example_bot_workflow_runner_botworkflowrunner_model_Progress_skipped : Fld Z h0 b1 "com/example/bot_workflow_runner/botworkflowrunner/model/Progress" "skipped" "I" (.int u4)) :
    OM l Z (⟨"com/example/bot_workflow_runner/botworkflowrunner/model/Progress", "equals", "(Ljava/lang/Object;)Z"⟩ : MethodName) prog_31_method_10_code 3 (some .boolean) [] ({ frames := 0, cells := 0, slots := 0, locals := 0 } : Room) #[(.ref b1), (.ref b1)] h0 (OP (some (.int (1 : Int32))) n0 h0) := by
  refine MetFree.of_bodySF (plainFor_of_name pn_com_example_bot_workflow_runner_botworkflowrunner_model_Progress) hisR ?_
  intro p e s m args below meth c s₁ Bd hml0 hP hK
  obtain ⟨rfl, hZ, hh⟩ := hP
  have hx := Bd.exec
  have hby := Bd.bytes
  have hml : c.maxLocals = 3 := hml0
  have hown : s.vm.findClass "com/example/bot_workflow_runner/botworkflowrunner/model/Progress" = some m.cls := findClass_of_methodNamed Bd.named
  have hnm := (name_of_methodNamed Bd.named Bd.method).1
  have X0 : Stand p l e ({ frames := 0, cells := 0, slots := 0, locals := 0 } : Room) s m #[(.ref b1), (.ref b1)] below meth c s₁ [] 0 0 := Stand.of_body Bd
  have e0 : s₁.heap = h0 := by rw [← hh, Bd.state]; rfl
  have N0 := Fr.nil n0
  have pre0 : ∀ t, Steps p.tables e below (s₁.setTop (mkF m 0 #[.val (.ref b1), .val (.ref b1), .unset] [])) t → Steps p.tables e below (s₁.setTop (entryFrame m #[(.ref b1), (.ref b1)] 3)) t := fun t k => castTop (ef_prog_31_method_10_code_RR m b1 b1) k
  obtain ⟨T1, X1, e1, st1⟩ := instY X0 hx hZ hown (hw _ (List.mem_of_getElem? (i := 24) rfl)) e0 (Ins.self fE_b1) (g := (mkF m 1 #[.val (.ref b1), .val (.ref b1), .unset] [(.ref b1)])) rfl rfl (hb hby d_prog_31_method_10_code_1)
  obtain ⟨T2, X2, e2, st2⟩ := castY X1 hx hZ hown (hw _ (List.mem_of_getElem? (i := 24) rfl)) e1 (Ins.self fE_b1) (g := (mkF m 10 #[.val (.ref b1), .val (.ref b1), .unset] [(.ref b1)])) rfl rfl (hb hby d_prog_31_method_10_code_10)
  obtain ⟨T3, X3, e3, st3⟩ := getF X2 hx hZ hown (host := "") (Or.inl (hw _ (List.mem_of_getElem? (i := 9) rfl))) Via.refl e2 fF_b1_com_example_bot_workflow_runner_botworkflowrunner_model_Progress_total (g := (mkF m 15 #[.val (.ref b1), .val (.ref b1), .val (.ref b1)] [(.ref b1)])) rfl rfl (hb hby d_prog_31_method_10_code_15)
  obtain ⟨T4, X4, e4, st4⟩ := getF X3 hx hZ hown (host := "") (Or.inl (hw _ (List.mem_of_getElem? (i := 9) rfl))) Via.refl e3 fF_b1_com_example_bot_workflow_runner_botworkflowrunner_model_Progress_total (g := (mkF m 19 #[.val (.ref b1), .val (.ref b1), .val (.ref b1)] [(.ref b1), (.int u0)])) rfl rfl (hb hby d_prog_31_method_10_code_19)
  obtain ⟨T5, X5, e5, st5⟩ := getF X4 hx hZ hown (host := "") (Or.inl (hw _ (List.mem_of_getElem? (i := 11) rfl))) Via.refl e4 fF_b1_com_example_bot_workflow_runner_botworkflowrunner_model_Progress_completed (g := (mkF m 26 #[.val (.ref b1), .val (.ref b1), .val (.ref b1)] [(.ref b1)])) rfl rfl (hb hby d_prog_31_method_10_code_26)
  obtain ⟨T6, X6, e6, st6⟩ := getF X5 hx hZ hown (host := "") (Or.inl (hw _ (List.mem_of_getElem? (i := 11) rfl))) Via.refl e5 fF_b1_com_example_bot_workflow_runner_botworkflowrunner_model_Progress_completed (g := (mkF m 30 #[.val (.ref b1), .val (.ref b1), .val (.ref b1)] [(.ref b1), (.int u1)])) rfl rfl (hb hby d_prog_31_method_10_code_30)
  obtain ⟨T7, X7, e7, st7⟩ := getF X6 hx hZ hown (host := "") (Or.inl (hw _ (List.mem_of_getElem? (i := 13) rfl))) Via.refl e6 fF_b1_com_example_bot_workflow_runner_botworkflowrunner_model_Progress_running (g := (mkF m 37 #[.val (.ref b1), .val (.ref b1), .val (.ref b1)] [(.ref b1)])) rfl rfl (hb hby d_prog_31_method_10_code_37)
  obtain ⟨T8, X8, e8, st8⟩ := getF X7 hx hZ hown (host := "") (Or.inl (hw _ (List.mem_of_getElem? (i := 13) rfl))) Via.refl e7 fF_b1_com_example_bot_workflow_runner_botworkflowrunner_model_Progress_running (g := (mkF m 41 #[.val (.ref b1), .val (.ref b1), .val (.ref b1)] [(.ref b1), (.int u2)])) rfl rfl (hb hby d_prog_31_method_10_code_41)
  obtain ⟨T9, X9, e9, st9⟩ := getF X8 hx hZ hown (host := "") (Or.inl (hw _ (List.mem_of_getElem? (i := 15) rfl))) Via.refl e8 fF_b1_com_example_bot_workflow_runner_botworkflowrunner_model_Progress_failed (g := (mkF m 48 #[.val (.ref b1), .val (.ref b1), .val (.ref b1)] [(.ref b1)])) rfl rfl (hb hby d_prog_31_method_10_code_48)
  obtain ⟨T10, X10, e10, st10⟩ := getF X9 hx hZ hown (host := "") (Or.inl (hw _ (List.mem_of_getElem? (i := 15) rfl))) Via.refl e9 fF_b1_com_example_bot_workflow_runner_botworkflowrunner_model_Progress_failed (g := (mkF m 52 #[.val (.ref b1), .val (.ref b1), .val (.ref b1)] [(.ref b1), (.int u3)])) rfl rfl (hb hby d_prog_31_method_10_code_52)
  obtain ⟨T11, X11, e11, st11⟩ := getF X10 hx hZ hown (host := "") (Or.inl (hw _ (List.mem_of_getElem? (i := 17) rfl))) Via.refl e10 fF_b1_com_example_bot_workflow_runner_botworkflowrunner_model_Progress_skipped (g := (mkF m 59 #[.val (.ref b1), .val (.ref b1), .val (.ref b1)] [(.ref b1)])) rfl rfl (hb hby d_prog_31_method_10_code_59)
  obtain ⟨T12, X12, e12, st12⟩ := getF X11 hx hZ hown (host := "") (Or.inl (hw _ (List.mem_of_getElem? (i := 17) rfl))) Via.refl e11 fF_b1_com_example_bot_workflow_runner_botworkflowrunner_model_Progress_skipped (g := (mkF m 63 #[.val (.ref b1), .val (.ref b1), .val (.ref b1)] [(.ref b1), (.int u4)])) rfl rfl (hb hby d_prog_31_method_10_code_63)
  obtain ⟨fs, hr, hrun, hended, hW, hsame⟩ := X12.leave (v := (some (.int (1 : Int32)))) (fun h => by rw [Bd.returns] at h; cases h)
  refine ⟨_, _, pre0 _ ?_, hrun, hended, _, _, rfl, ?_, ⟨_, rfl⟩, hW, hsame.mono (by decide) (by decide)⟩
  · show Steps p.tables e below (s₁.setTop (mkF m 0 #[.val (.ref b1), .val (.ref b1), .unset] [])) _
    refine XS.aloadN X0.here hx rfl (hb hby d_prog_31_method_10_code_0) rfl rfl ?_
    refine st1 _ ?_
    refine XS.ifYes X1.here hx rfl (pc0 := 4) (pc' := 9) rfl (hb hby d_prog_31_method_10_code_4) rfl ((if0 _ _).trans (feq (by decide : ¬ ((1 : Int32) = (0 : Int32)))).2) (by decide) (by decide) ?_
    show Steps p.tables e below (T1.setTop (mkF m 9 #[.val (.ref b1), .val (.ref b1), .unset] [])) _
    refine XS.aloadN X1.here hx rfl (hb hby d_prog_31_method_10_code_9) rfl rfl ?_
    refine st2 _ ?_
    refine XS.astoreN X2.here hx rfl (hb hby d_prog_31_method_10_code_13) rfl rfl (l' := #[.val (.ref b1), .val (.ref b1), .val (.ref b1)]) rfl ?_
    show Steps p.tables e below (T2.setTop (mkF m 14 #[.val (.ref b1), .val (.ref b1), .val (.ref b1)] [])) _
    refine XS.aloadN X2.here hx rfl (hb hby d_prog_31_method_10_code_14) rfl rfl ?_
    refine st3 _ ?_
    refine XS.aloadN X3.here hx rfl (hb hby d_prog_31_method_10_code_18) rfl rfl ?_
    show Steps p.tables e below (T3.setTop (mkF m 19 #[.val (.ref b1), .val (.ref b1), .val (.ref b1)] [(.ref b1), (.int u0)])) _
    refine st4 _ ?_
    refine XS.icmpNo X4.here hx rfl (hb hby d_prog_31_method_10_code_22) rfl (teq (rfl : u0 = u0)).2 ?_
    refine XS.aloadN X4.here hx rfl (hb hby d_prog_31_method_10_code_25) rfl rfl ?_
    show Steps p.tables e below (T4.setTop (mkF m 26 #[.val (.ref b1), .val (.ref b1), .val (.ref b1)] [(.ref b1)])) _
    refine st5 _ ?_
    refine XS.aloadN X5.here hx rfl (hb hby d_prog_31_method_10_code_29) rfl rfl ?_
    refine st6 _ ?_
    show Steps p.tables e below (T6.setTop (mkF m 33 #[.val (.ref b1), .val (.ref b1), .val (.ref b1)] [(.int u1), (.int u1)])) _
    refine XS.icmpNo X6.here hx rfl (hb hby d_prog_31_method_10_code_33) rfl (teq (rfl : u1 = u1)).2 ?_
    refine XS.aloadN X6.here hx rfl (hb hby d_prog_31_method_10_code_36) rfl rfl ?_
    refine st7 _ ?_
    show Steps p.tables e below (T7.setTop (mkF m 40 #[.val (.ref b1), .val (.ref b1), .val (.ref b1)] [(.int u2)])) _
    refine XS.aloadN X7.here hx rfl (hb hby d_prog_31_method_10_code_40) rfl rfl ?_
    refine st8 _ ?_
    refine XS.icmpNo X8.here hx rfl (hb hby d_prog_31_method_10_code_44) rfl (teq (rfl : u2 = u2)).2 ?_
    show Steps p.tables e below (T8.setTop (mkF m 47 #[.val (.ref b1), .val (.ref b1), .val (.ref b1)] [])) _
    refine XS.aloadN X8.here hx rfl (hb hby d_prog_31_method_10_code_47) rfl rfl ?_
    refine st9 _ ?_
    refine XS.aloadN X9.here hx rfl (hb hby d_prog_31_method_10_code_51) rfl rfl ?_
    show Steps p.tables e below (T9.setTop (mkF m 52 #[.val (.ref b1), .val (.ref b1), .val (.ref b1)] [(.ref b1), (.int u3)])) _
    refine st10 _ ?_
    refine XS.icmpNo X10.here hx rfl (hb hby d_prog_31_method_10_code_55) rfl (teq (rfl : u3 = u3)).2 ?_
    refine XS.aloadN X10.here hx rfl (hb hby d_prog_31_method_10_code_58) rfl rfl ?_
    show Steps p.tables e below (T10.setTop (mkF m 59 #[.val (.ref b1), .val (.ref b1), .val (.ref b1)] [(.ref b1)])) _
    refine st11 _ ?_
    refine XS.aloadN X11.here hx rfl (hb hby d_prog_31_method_10_code_62) rfl rfl ?_
    refine st12 _ ?_
    show Steps p.tables e below (T12.setTop (mkF m 66 #[.val (.ref b1), .val (.ref b1), .val (.ref b1)] [(.int u4), (.int u4)])) _
    refine XS.icmpNo X12.here hx rfl (hb hby d_prog_31_method_10_code_66) rfl (teq (rfl : u4 = u4)).2 ?_
    refine XS.iconst X12.here hx rfl (hb hby d_prog_31_method_10_code_69) ?_
    refine XS.goto X12.here hx rfl (pc0 := 70) (pc' := 74) rfl (hb hby d_prog_31_method_10_code_70) (by decide) (by decide) ?_
    show Steps p.tables e below (T12.setTop (mkF m 74 #[.val (.ref b1), .val (.ref b1), .val (.ref b1)] [(.int (1 : Int32))])) _
    exact retN X12 hx (t := .boolean) Bd.returns (by simp) (hb hby d_prog_31_method_10_code_74) hr
  · exact ⟨rfl, N0, e12⟩
set_option maxRecDepth 65536 in
set_option maxHeartbeats 40000000 in
theorem rm0_11 (l : Launch) (Z : State) (a0 : Array Value) (hw : ∀ d ∈ tables_1, d.before a0 Z = true) (w : Nat → Addr) (κ : Nat → ClassId) (h0 : Heap) (n0 : Nat) (Z0 : n0 ≤ h0.size) (K : Kon Z h0 w κ) (u0 u1 u2 u3 u4 u5 dd v0 v1 v2 v3 v4 sm : Int32) (hdd : ((u5 >>> ((8 : Int32) &&& 31)) ||| (1 : Int32)) = dd) (hf1 : ¬ (((u5 >>> ((5 : Int32) &&& 31)) &&& (3 : Int32)) = (1 : Int32))) (hf2 : ((u5 >>> ((5 : Int32) &&& 31)) &&& (3 : Int32)) = (2 : Int32)) (hf3 : u0 < (-128 : Int32)) (hsm : (osel (decide ((u5 &&& (31 : Int32)) = (0 : Int32))) (1 : Int32) (0 : Int32)) = sm) (hv0 : (osel (decide ((u5 &&& (1 : Int32)) = (0 : Int32))) u0 (u0 + dd)) = v0) (hv1 : (osel (decide ((u5 &&& (2 : Int32)) = (0 : Int32))) u1 (u1 + dd)) = v1) (hv2 : (osel (decide ((u5 &&& (4 : Int32)) = (0 : Int32))) u2 (u2 + dd)) = v2) (hv3 : (osel (decide ((u5 &&& (8 : Int32)) = (0 : Int32))) u3 (u3 + dd)) = v3) (hv4 : (osel (decide ((u5 &&& (16 : Int32)) = (0 : Int32))) u4 (u4 + dd)) = v4) :
    OM l Z x code maxLocals ret tables_1 room_1 #[(.int u0), (.int u1), (.int u2), (.int u3), (.int u4), (.int u5)] h0 (OF (some (.int (1 : Int32))) n0) := by
  refine MetFree.of_bodySF (plainFor_of_name pn_com_example_bot_workflow_runner_botworkflowrunner_model_ProgressEqualsPinLaw) hisR ?_
  intro p e s m args below meth c s₁ Bd hml0 hP hK
  obtain ⟨rfl, hZ, hh⟩ := hP
  have hx := Bd.exec
  have hby := Bd.bytes
  have hml : c.maxLocals = 16 := hml0
  have hown : s.vm.findClass "com/example/bot_workflow_runner/botworkflowrunner/model/ProgressEqualsPinLaw" = some m.cls := findClass_of_methodNamed Bd.named
  have hnm := (name_of_methodNamed Bd.named Bd.method).1
  have X0 : Stand p l e room_1 s m #[(.int u0), (.int u1), (.int u2), (.int u3), (.int u4), (.int u5)] below meth c s₁ [] 0 0 := Stand.of_body Bd
  have e0 : s₁.heap = h0 := by rw [← hh, Bd.state]; rfl
  have N0 := Fr.nil n0
  have pre0 : ∀ t, Steps p.tables e below (s₁.setTop (mkF m 0 #[.val (.int u0), .val (.int u1), .val (.int u2), .val (.int u3), .val (.int u4), .val (.int u5), .unset, .unset, .unset, .unset, .unset, .unset, .unset, .unset, .unset, .unset] [])) t → Steps p.tables e below (s₁.setTop (entryFrame m #[(.int u0), (.int u1), (.int u2), (.int u3), (.int u4), (.int u5)] maxLocals)) t := fun t k => castTop (ef_code_IIIIII m u0 u1 u2 u3 u4 u5) k
  obtain ⟨T1, h1, X1, e1, E1, A1, D1, -, st1⟩ := newO X0 hx hZ hown (hw _ (List.mem_of_getElem? (i := 0) rfl)) (hw _ (List.mem_of_getElem? (i := 1) rfl)) (hw _ (List.mem_of_getElem? (i := 2) rfl)) e0 (g := (mkF m 9 #[.val (.int u0), .val (.int u1), .val (.int u2), .val (.int u3), .val (.int u4), .val (.int u5), .val (.int dd), .unset, .unset, .unset, .unset, .unset, .unset, .unset, .unset, .unset] [])) rfl (hb hby at_9) (by decide) (by decide)
  obtain ⟨b1, g1⟩ : ∃ z, z = h0.size := ⟨_, rfl⟩
  rw [← g1] at A1 D1 st1
  have hG1 : n0 ≤ b1 := Nat.le_trans Z0 (Nat.le_of_eq g1.symm)
  have hKN1 : ∀ i, i < 1 → w i ≠ b1 := fun i hi => by rw [g1]; exact Nat.ne_of_lt (K.lt i hi)
  have K1 := K.ext E1
  have Z1 : n0 ≤ h1.size := Nat.le_trans Z0 E1.1
  have f1_total : Fld Z h1 b1 "com/example/bot_workflow_runner/botworkflowrunner/model/Progress" "total" "I" (.int (0 : Int32)) := D1 (Or.inr (hw _ (List.mem_of_getElem? (i := 10) rfl))) (ty := .int) (by decide)
  have f1_completed : Fld Z h1 b1 "com/example/bot_workflow_runner/botworkflowrunner/model/Progress" "completed" "I" (.int (0 : Int32)) := D1 (Or.inr (hw _ (List.mem_of_getElem? (i := 12) rfl))) (ty := .int) (by decide)
  have f1_running : Fld Z h1 b1 "com/example/bot_workflow_runner/botworkflowrunner/model/Progress" "running" "I" (.int (0 : Int32)) := D1 (Or.inr (hw _ (List.mem_of_getElem? (i := 14) rfl))) (ty := .int) (by decide)
  have f1_failed : Fld Z h1 b1 "com/example/bot_workflow_runner/botworkflowrunner/model/Progress" "failed" "I" (.int (0 : Int32)) := D1 (Or.inr (hw _ (List.mem_of_getElem? (i := 16) rfl))) (ty := .int) (by decide)
  have f1_skipped : Fld Z h1 b1 "com/example/bot_workflow_runner/botworkflowrunner/model/Progress" "skipped" "I" (.int (0 : Int32)) := D1 (Or.inr (hw _ (List.mem_of_getElem? (i := 18) rfl))) (ty := .int) (by decide)
  obtain ⟨_, _, ⟨T2, L2, kk2, n2⟩, -, X2, ⟨Lc2, hQ2, l2, y2, z2⟩, st2⟩ := Jvm.Stand.specialBack X1 hx (y := (⟨"com/example/bot_workflow_runner/botworkflowrunner/model/Progress", "<init>", "(IIIII)V"⟩ : MethodName)) rfl hown (mvT hZ (hw _ (List.mem_of_getElem? (i := 3) rfl))) (mvT hZ (hw _ (List.mem_of_getElem? (i := 4) rfl))) (mvT hZ (hw _ (List.mem_of_getElem? (i := 5) rfl))) (by decide) (backOf (W := 1) (rm__init__1 l Z a0 hw w κ h1 n0 Z1 K1 u0 u1 u2 u3 u4 u5 dd v0 v1 v2 v3 v4 sm b1 A1 f1_total f1_completed f1_running f1_failed f1_skipped hG1 hKN1) hZ (hw _ (List.mem_of_getElem? (i := 5) rfl)) (hw _ (List.mem_of_getElem? (i := 2) rfl)) (by decide) (by decide)) (g := (mkF m 19 #[.val (.int u0), .val (.int u1), .val (.int u2), .val (.int u3), .val (.int u4), .val (.int u5), .val (.int dd), .unset, .unset, .unset, .unset, .unset, .unset, .unset, .unset, .unset] [(.int u4), (.int u3), (.int u2), (.int u1), (.int u0), (.ref b1), (.ref b1)])) rfl (by rw [hml]; rfl) (Steps.refl _) (a := b1) (argsL := [(.int u0), (.int u1), (.int u2), (.int u3), (.int u4)]) (rest := [(.ref b1)]) (lenOf pd_28IIIII29V rfl) rfl (by show 2 * 0 + _ ≤ _; exact Nat.le_of_eq rfl) (hb hby at_19) (fun _ _ => ⟨rfl, e1, (by decide : 1 + 0 ≤ _), (by decide : 5 + 0 ≤ _)⟩)
  dsimp only [Pt.U, Pt.locs, Pt.cells, Pt.slots] at X2 l2 y2 z2 st2 hQ2
  subst l2 y2 z2
  obtain ⟨rfl, N2q, Z2, K2, f2_0, f2_1, f2_2, f2_3, f2_4, f2_5⟩ := hQ2
  have N2 := Fr.app N0 N2q
  obtain ⟨T8, h8, X8, e8, E8, A8, D8, -, st8⟩ := newO X2 hx hZ hown (hw _ (List.mem_of_getElem? (i := 0) rfl)) (hw _ (List.mem_of_getElem? (i := 1) rfl)) (hw _ (List.mem_of_getElem? (i := 2) rfl)) rfl (g := (mkF m 113 #[.val (.int u0), .val (.int u1), .val (.int u2), .val (.int u3), .val (.int u4), .val (.int u5), .val (.int dd), .val (.ref b1), .val (.int v0), .val (.int v1), .val (.int v2), .val (.int v3), .val (.int v4), .unset, .unset, .unset] [])) rfl (hb hby at_113) (by decide) (by decide)
  obtain ⟨b2, g8⟩ : ∃ z, z = T2.heap.size := ⟨_, rfl⟩
  rw [← g8] at A8 D8 st8
  have hG8 : n0 ≤ b2 := Nat.le_trans Z2 (Nat.le_of_eq g8.symm)
  have hN8_0 : b1 ≠ b2 := by rw [g8]; exact Nat.ne_of_lt f2_0.lt
  have hKN8 : ∀ i, i < 1 → w i ≠ b2 := fun i hi => by rw [g8]; exact Nat.ne_of_lt (K2.lt i hi)
  have f8_fE_b1 := f2_0.ext E8
  have f8_fF_b1_com_example_bot_workflow_runner_botworkflowrunner_model_Progress_total := f2_1.ext E8
  have f8_fF_b1_com_example_bot_workflow_runner_botworkflowrunner_model_Progress_completed := f2_2.ext E8
  have f8_fF_b1_com_example_bot_workflow_runner_botworkflowrunner_model_Progress_running := f2_3.ext E8
  have f8_fF_b1_com_example_bot_workflow_runner_botworkflowrunner_model_Progress_failed := f2_4.ext E8
  have f8_fF_b1_com_example_bot_workflow_runner_botworkflowrunner_model_Progress_skipped := f2_5.ext E8
  have K8 := K2.ext E8
  have Z8 : n0 ≤ h8.size := Nat.le_trans Z2 E8.1
  have f8_total : Fld Z h8 b2 "com/example/bot_workflow_runner/botworkflowrunner/model/Progress" "total" "I" (.int (0 : Int32)) := D8 (Or.inr (hw _ (List.mem_of_getElem? (i := 10) rfl))) (ty := .int) (by decide)
  have f8_completed : Fld Z h8 b2 "com/example/bot_workflow_runner/botworkflowrunner/model/Progress" "completed" "I" (.int (0 : Int32)) := D8 (Or.inr (hw _ (List.mem_of_getElem? (i := 12) rfl))) (ty := .int) (by decide)
  have f8_running : Fld Z h8 b2 "com/example/bot_workflow_runner/botworkflowrunner/model/Progress" "running" "I" (.int (0 : Int32)) := D8 (Or.inr (hw _ (List.mem_of_getElem? (i := 14) rfl))) (ty := .int) (by decide)
  have f8_failed : Fld Z h8 b2 "com/example/bot_workflow_runner/botworkflowrunner/model/Progress" "failed" "I" (.int (0 : Int32)) := D8 (Or.inr (hw _ (List.mem_of_getElem? (i := 16) rfl))) (ty := .int) (by decide)
  have f8_skipped : Fld Z h8 b2 "com/example/bot_workflow_runner/botworkflowrunner/model/Progress" "skipped" "I" (.int (0 : Int32)) := D8 (Or.inr (hw _ (List.mem_of_getElem? (i := 18) rfl))) (ty := .int) (by decide)
  obtain ⟨_, _, ⟨T9, L9, kk9, n9⟩, -, X9, ⟨Lc9, hQ9, l9, y9, z9⟩, st9⟩ := Jvm.Stand.specialBack X8 hx (y := (⟨"com/example/bot_workflow_runner/botworkflowrunner/model/Progress", "<init>", "(IIIII)V"⟩ : MethodName)) rfl hown (mvT hZ (hw _ (List.mem_of_getElem? (i := 3) rfl))) (mvT hZ (hw _ (List.mem_of_getElem? (i := 4) rfl))) (mvT hZ (hw _ (List.mem_of_getElem? (i := 5) rfl))) (by decide) (backOf (W := 1) (rm__init__2 l Z a0 hw w κ h8 n0 Z8 K8 u0 u1 u2 u3 u4 u5 dd v0 v1 v2 v3 v4 sm b1 b2 f8_fE_b1 f8_fF_b1_com_example_bot_workflow_runner_botworkflowrunner_model_Progress_total f8_fF_b1_com_example_bot_workflow_runner_botworkflowrunner_model_Progress_completed f8_fF_b1_com_example_bot_workflow_runner_botworkflowrunner_model_Progress_running f8_fF_b1_com_example_bot_workflow_runner_botworkflowrunner_model_Progress_failed f8_fF_b1_com_example_bot_workflow_runner_botworkflowrunner_model_Progress_skipped A8 f8_total f8_completed f8_running f8_failed f8_skipped hG1 hKN1 hG8 hN8_0 hKN8) hZ (hw _ (List.mem_of_getElem? (i := 5) rfl)) (hw _ (List.mem_of_getElem? (i := 2) rfl)) (by decide) (by decide)) (g := (mkF m 127 #[.val (.int u0), .val (.int u1), .val (.int u2), .val (.int u3), .val (.int u4), .val (.int u5), .val (.int dd), .val (.ref b1), .val (.int v0), .val (.int v1), .val (.int v2), .val (.int v3), .val (.int v4), .unset, .unset, .unset] [(.int v4), (.int v3), (.int v2), (.int v1), (.int v0), (.ref b2), (.ref b2)])) rfl (by rw [hml]; rfl) (Steps.refl _) (a := b2) (argsL := [(.int v0), (.int v1), (.int v2), (.int v3), (.int v4)]) (rest := [(.ref b2)]) (lenOf pd_28IIIII29V rfl) rfl (by show 2 * 0 + _ ≤ _; exact Nat.le_of_eq rfl) (hb hby at_127) (fun _ _ => ⟨rfl, e8, (by decide : 2 + 0 ≤ _), (by decide : 10 + 0 ≤ _)⟩)
  dsimp only [Pt.U, Pt.locs, Pt.cells, Pt.slots] at X9 l9 y9 z9 st9 hQ9
  subst l9 y9 z9
  obtain ⟨rfl, N9q, Z9, K9, f9_0, f9_1, f9_2, f9_3, f9_4, f9_5, f9_6, f9_7, f9_8, f9_9, f9_10, f9_11⟩ := hQ9
  have N9 := Fr.app N2 N9q
  obtain ⟨_, _, ⟨T11, L11, kk11, n11⟩, -, X11, ⟨Lc11, hQ11, l11, y11, z11⟩, st11⟩ := Jvm.LawKit.callS X9 hx (y := (⟨"java/lang/Integer", "valueOf", "(I)Ljava/lang/Integer;"⟩ : MethodName)) hown (mvT hZ (hw _ (List.mem_of_getElem? (i := 26) rfl))) (mvT hZ (hw _ (List.mem_of_getElem? (i := 27) rfl))) (mvT hZ (hw _ (List.mem_of_getElem? (i := 28) rfl))) (mvT hZ (hw _ (List.mem_of_getElem? (i := 29) rfl))) (by decide) (backOf (W := 1) (rm_valueOf_8 l Z a0 hw w κ T9.heap n0 Z9 K9 u0 u1 u2 u3 u4 u5 dd v0 v1 v2 v3 v4 sm b1 b2 hf3 f9_0 f9_1 f9_2 f9_3 f9_4 f9_5 f9_6 f9_7 f9_8 f9_9 f9_10 f9_11 hG1 hKN1 hG8 hN8_0 hKN8) hZ (hw _ (List.mem_of_getElem? (i := 29) rfl)) (hw _ (List.mem_of_getElem? (i := 28) rfl)) (by decide) (by decide)) (g := (mkF m 195 #[.val (.int u0), .val (.int u1), .val (.int u2), .val (.int u3), .val (.int u4), .val (.int u5), .val (.int dd), .val (.ref b1), .val (.int v0), .val (.int v1), .val (.int v2), .val (.int v3), .val (.int v4), .val (.ref b2), .val (.int sm), .val (.int ((u5 >>> ((5 : Int32) &&& 31)) &&& (3 : Int32)))] [(.int u0), (.ref b1)])) rfl (by rw [hml]; rfl) (argsL := [(.int u0)]) (rest := [(.ref b1)]) (lenOf pd_28I29Ljava2flang2fInteger3b rfl) rfl (by show 2 * 0 + _ ≤ _; exact Nat.le_of_eq rfl) (hb hby at_195) (fun _ _ => ⟨rfl, rfl, (by decide : 2 + 1 ≤ _), (by decide : 10 + 1 ≤ _)⟩)
  dsimp only [Pt.U, Pt.locs, Pt.cells, Pt.slots] at X11 l11 y11 z11 st11 hQ11
  subst l11 y11 z11
  obtain ⟨b3, rfl, N11q, Z11, K11, f11_0, f11_1, f11_2, f11_3, f11_4, f11_5, f11_6, f11_7, f11_8, f11_9, f11_10, f11_11, f11_12, f11_13, hi11_0, hi11_1, hi11_2, hi11_3⟩ := hQ11
  have N11 := Fr.app N9 N11q
  obtain ⟨cq12, kq12, qa12, qb12, qc12⟩ := isOf hZ rfl f11_0
  obtain ⟨_, _, ⟨T12, L12, kk12, n12⟩, -, X12, ⟨Lc12, hQ12, l12, y12, z12⟩, st12⟩ := X11.virtualBack hx (y := (⟨"com/example/bot_workflow_runner/botworkflowrunner/model/Progress", "equals", "(Ljava/lang/Object;)Z"⟩ : MethodName)) (z := (⟨"com/example/bot_workflow_runner/botworkflowrunner/model/Progress", "equals", "(Ljava/lang/Object;)Z"⟩ : MethodName)) hown (mvT hZ (hw _ (List.mem_of_getElem? (i := 19) rfl))) (mvT hZ (hw _ (List.mem_of_getElem? (i := 20) rfl))) (notFace_of_selects (args := #[]) (mvT hZ (hw _ (List.mem_of_getElem? (i := 22) rfl)))) (mvT hZ (hw _ (List.mem_of_getElem? (i := 22) rfl))) (mvT hZ (hw _ (List.mem_of_getElem? (i := 21) rfl))) (by decide) (backOf (W := 0) (rm_equals_9 l Z a0 hw w κ T11.heap n0 Z11 K11 u0 u1 u2 u3 u4 u5 dd v0 v1 v2 v3 v4 sm b1 b2 b3 f11_12) hZ (hw _ (List.mem_of_getElem? (i := 23) rfl)) (hw _ (List.mem_of_getElem? (i := 2) rfl)) (by decide) (by decide)) qa12 qc12 (g := (mkF m 198 #[.val (.int u0), .val (.int u1), .val (.int u2), .val (.int u3), .val (.int u4), .val (.int u5), .val (.int dd), .val (.ref b1), .val (.int v0), .val (.int v1), .val (.int v2), .val (.int v3), .val (.int v4), .val (.ref b2), .val (.int sm), .val (.int ((u5 >>> ((5 : Int32) &&& 31)) &&& (3 : Int32)))] [(.ref b3), (.ref b1)])) rfl (by rw [hml]; rfl) (Steps.refl _) (argsL := [(.ref b3)]) (rest := []) (lenOf pd_28Ljava2flang2fObject3b29Z rfl) rfl (by show 2 * 0 + _ ≤ _; exact Nat.le_of_eq rfl) (hb hby at_198) (fun _ _ => ⟨rfl, rfl, (by decide : 3 + 0 ≤ _), (by decide : 11 + 0 ≤ _)⟩)
  dsimp only [Pt.U, Pt.locs, Pt.cells, Pt.slots] at X12 l12 y12 z12 st12 hQ12
  subst l12 y12 z12
  obtain ⟨rfl, N12q, e12⟩ := hQ12
  have N12 := Fr.app N11 N12q
  obtain ⟨cq13, kq13, qa13, qb13, qc13⟩ := isOf hZ e12 f11_0
  obtain ⟨_, _, ⟨T13, L13, kk13, n13⟩, -, X13, ⟨Lc13, hQ13, l13, y13, z13⟩, st13⟩ := X12.virtualBack hx (y := (⟨"com/example/bot_workflow_runner/botworkflowrunner/model/Progress", "equals", "(Ljava/lang/Object;)Z"⟩ : MethodName)) (z := (⟨"com/example/bot_workflow_runner/botworkflowrunner/model/Progress", "equals", "(Ljava/lang/Object;)Z"⟩ : MethodName)) hown (mvT hZ (hw _ (List.mem_of_getElem? (i := 19) rfl))) (mvT hZ (hw _ (List.mem_of_getElem? (i := 20) rfl))) (notFace_of_selects (args := #[]) (mvT hZ (hw _ (List.mem_of_getElem? (i := 22) rfl)))) (mvT hZ (hw _ (List.mem_of_getElem? (i := 22) rfl))) (mvT hZ (hw _ (List.mem_of_getElem? (i := 21) rfl))) (by decide) (backOf (W := 0) (rm_equals_10 l Z a0 hw w κ T11.heap n0 Z11 K11 u0 u1 u2 u3 u4 u5 dd v0 v1 v2 v3 v4 sm b1 b2 b3 f11_0 f11_1 f11_2 f11_3 f11_4 f11_5) hZ (hw _ (List.mem_of_getElem? (i := 23) rfl)) (hw _ (List.mem_of_getElem? (i := 2) rfl)) (by decide) (by decide)) qa13 qc13 (g := (mkF m 208 #[.val (.int u0), .val (.int u1), .val (.int u2), .val (.int u3), .val (.int u4), .val (.int u5), .val (.int dd), .val (.ref b1), .val (.int v0), .val (.int v1), .val (.int v2), .val (.int v3), .val (.int v4), .val (.ref b2), .val (.int sm), .val (.int ((u5 >>> ((5 : Int32) &&& 31)) &&& (3 : Int32)))] [(.ref b1), (.ref b1)])) rfl (by rw [hml]; rfl) (Steps.refl _) (argsL := [(.ref b1)]) (rest := []) (lenOf pd_28Ljava2flang2fObject3b29Z rfl) rfl (by show 2 * 0 + _ ≤ _; exact Nat.le_of_eq rfl) (hb hby at_208) (fun _ _ => ⟨rfl, e12, (by decide : 3 + 0 ≤ _), (by decide : 11 + 0 ≤ _)⟩)
  dsimp only [Pt.U, Pt.locs, Pt.cells, Pt.slots] at X13 l13 y13 z13 st13 hQ13
  subst l13 y13 z13
  obtain ⟨rfl, N13q, e13⟩ := hQ13
  have N13 := Fr.app N12 N13q
  obtain ⟨fs, hr, hrun, hended, hW, hsame⟩ := X13.leave (v := (some (.int (1 : Int32)))) (fun h => by rw [Bd.returns] at h; cases h)
  refine ⟨_, _, pre0 _ ?_, hrun, hended, _, _, rfl, ?_, ⟨_, rfl⟩, hW, hsame.mono (by decide) (by decide)⟩
  · show Steps p.tables e below (s₁.setTop (mkF m 0 #[.val (.int u0), .val (.int u1), .val (.int u2), .val (.int u3), .val (.int u4), .val (.int u5), .unset, .unset, .unset, .unset, .unset, .unset, .unset, .unset, .unset, .unset] [])) _
    refine XS.iload X0.here hx rfl (hb hby at_0) rfl ?_
    refine XS.bipush X0.here hx rfl (hb hby at_2) ?_
    refine XS.ishr X0.here hx rfl (hb hby at_4) rfl ?_
    show Steps p.tables e below (s₁.setTop (mkF m 5 #[.val (.int u0), .val (.int u1), .val (.int u2), .val (.int u3), .val (.int u4), .val (.int u5), .unset, .unset, .unset, .unset, .unset, .unset, .unset, .unset, .unset, .unset] [(.int (u5 >>> ((8 : Int32) &&& 31)))])) _
    refine XS.iconst X0.here hx rfl (hb hby at_5) ?_
    refine XS.ior X0.here hx rfl (hb hby at_6) rfl ?_
    show Steps p.tables e below (s₁.setTop (mkF m 7 #[.val (.int u0), .val (.int u1), .val (.int u2), .val (.int u3), .val (.int u4), .val (.int u5), .unset, .unset, .unset, .unset, .unset, .unset, .unset, .unset, .unset, .unset] [(.int ((u5 >>> ((8 : Int32) &&& 31)) ||| (1 : Int32)))])) _
    rw [hdd]
    show Steps p.tables e below (s₁.setTop (mkF m 7 #[.val (.int u0), .val (.int u1), .val (.int u2), .val (.int u3), .val (.int u4), .val (.int u5), .unset, .unset, .unset, .unset, .unset, .unset, .unset, .unset, .unset, .unset] [(.int dd)])) _
    refine XS.istore X0.here hx rfl (hb hby at_7) rfl (l' := #[.val (.int u0), .val (.int u1), .val (.int u2), .val (.int u3), .val (.int u4), .val (.int u5), .val (.int dd), .unset, .unset, .unset, .unset, .unset, .unset, .unset, .unset, .unset]) rfl ?_
    refine st1 _ ?_
    refine XS.dup X1.here hx rfl (hb hby at_12) rfl rfl ?_
    show Steps p.tables e below (T1.setTop (mkF m 13 #[.val (.int u0), .val (.int u1), .val (.int u2), .val (.int u3), .val (.int u4), .val (.int u5), .val (.int dd), .unset, .unset, .unset, .unset, .unset, .unset, .unset, .unset, .unset] [(.ref b1), (.ref b1)])) _
    refine XS.iloadN X1.here hx rfl (hb hby at_13) rfl ?_
    refine XS.iloadN X1.here hx rfl (hb hby at_14) rfl ?_
    refine XS.iloadN X1.here hx rfl (hb hby at_15) rfl ?_
    show Steps p.tables e below (T1.setTop (mkF m 16 #[.val (.int u0), .val (.int u1), .val (.int u2), .val (.int u3), .val (.int u4), .val (.int u5), .val (.int dd), .unset, .unset, .unset, .unset, .unset, .unset, .unset, .unset, .unset] [(.int u2), (.int u1), (.int u0), (.ref b1), (.ref b1)])) _
    refine XS.iloadN X1.here hx rfl (hb hby at_16) rfl ?_
    refine XS.iload X1.here hx rfl (hb hby at_17) rfl ?_
    refine st2.trans ?_
    show Steps p.tables e below (T2.setTop (mkF m 22 #[.val (.int u0), .val (.int u1), .val (.int u2), .val (.int u3), .val (.int u4), .val (.int u5), .val (.int dd), .unset, .unset, .unset, .unset, .unset, .unset, .unset, .unset, .unset] [(.ref b1)])) _
    refine XS.astore X2.here hx rfl (hb hby at_22) rfl rfl (l' := #[.val (.int u0), .val (.int u1), .val (.int u2), .val (.int u3), .val (.int u4), .val (.int u5), .val (.int dd), .val (.ref b1), .unset, .unset, .unset, .unset, .unset, .unset, .unset, .unset]) rfl ?_
    refine XS.iload X2.here hx rfl (hb hby at_24) rfl ?_
    refine XS.iconst X2.here hx rfl (hb hby at_26) ?_
    show Steps p.tables e below (T2.setTop (mkF m 27 #[.val (.int u0), .val (.int u1), .val (.int u2), .val (.int u3), .val (.int u4), .val (.int u5), .val (.int dd), .val (.ref b1), .unset, .unset, .unset, .unset, .unset, .unset, .unset, .unset] [(.int (1 : Int32)), (.int u5)])) _
    refine XS.iand X2.here hx rfl (hb hby at_27) rfl ?_
    show Steps p.tables e below (T2.setTop (mkF m 28 #[.val (.int u0), .val (.int u1), .val (.int u2), .val (.int u3), .val (.int u4), .val (.int u5), .val (.int dd), .val (.ref b1), .unset, .unset, .unset, .unset, .unset, .unset, .unset, .unset] [(.int (u5 &&& (1 : Int32)))])) _
    suffices hshd3 : Steps p.tables e below (T2.setTop (mkF m 39 #[.val (.int u0), .val (.int u1), .val (.int u2), .val (.int u3), .val (.int u4), .val (.int u5), .val (.int dd), .val (.ref b1), .unset, .unset, .unset, .unset, .unset, .unset, .unset, .unset] [(.int (osel (decide ((u5 &&& (1 : Int32)) = (0 : Int32))) u0 (u0 + dd)))])) (T13.setFrames fs) by
      by_cases hd3 : (u5 &&& (1 : Int32)) = (0 : Int32)
      · rw [show (osel (decide ((u5 &&& (1 : Int32)) = (0 : Int32))) u0 (u0 + dd)) = u0 from if_pos (decide_eq_true hd3)] at hshd3
        refine XS.ifYes X2.here hx rfl (pc0 := 28) (pc' := 38) rfl (hb hby at_28) rfl ((if0 _ _).trans (teq hd3).1) (by decide) (by decide) ?_
        show Steps p.tables e below (T2.setTop (mkF m 38 #[.val (.int u0), .val (.int u1), .val (.int u2), .val (.int u3), .val (.int u4), .val (.int u5), .val (.int dd), .val (.ref b1), .unset, .unset, .unset, .unset, .unset, .unset, .unset, .unset] [])) _
        refine XS.iloadN X2.here hx rfl (hb hby at_38) rfl ?_
        exact hshd3
      · rw [show (osel (decide ((u5 &&& (1 : Int32)) = (0 : Int32))) u0 (u0 + dd)) = (u0 + dd) from if_neg (fun hh => absurd (of_decide_eq_true hh) hd3)] at hshd3
        refine XS.ifNo X2.here hx rfl (hb hby at_28) rfl ((if0 _ _).trans (feq hd3).1) ?_
        show Steps p.tables e below (T2.setTop (mkF m 31 #[.val (.int u0), .val (.int u1), .val (.int u2), .val (.int u3), .val (.int u4), .val (.int u5), .val (.int dd), .val (.ref b1), .unset, .unset, .unset, .unset, .unset, .unset, .unset, .unset] [])) _
        refine XS.iloadN X2.here hx rfl (hb hby at_31) rfl ?_
        show Steps p.tables e below (T2.setTop (mkF m 32 #[.val (.int u0), .val (.int u1), .val (.int u2), .val (.int u3), .val (.int u4), .val (.int u5), .val (.int dd), .val (.ref b1), .unset, .unset, .unset, .unset, .unset, .unset, .unset, .unset] [(.int u0)])) _
        refine XS.iload X2.here hx rfl (hb hby at_32) rfl ?_
        show Steps p.tables e below (T2.setTop (mkF m 34 #[.val (.int u0), .val (.int u1), .val (.int u2), .val (.int u3), .val (.int u4), .val (.int u5), .val (.int dd), .val (.ref b1), .unset, .unset, .unset, .unset, .unset, .unset, .unset, .unset] [(.int dd), (.int u0)])) _
        refine XS.iadd X2.here hx rfl (hb hby at_34) rfl ?_
        show Steps p.tables e below (T2.setTop (mkF m 35 #[.val (.int u0), .val (.int u1), .val (.int u2), .val (.int u3), .val (.int u4), .val (.int u5), .val (.int dd), .val (.ref b1), .unset, .unset, .unset, .unset, .unset, .unset, .unset, .unset] [(.int (u0 + dd))])) _
        refine XS.goto X2.here hx rfl (pc0 := 35) (pc' := 39) rfl (hb hby at_35) (by decide) (by decide) ?_
        exact hshd3
    show Steps p.tables e below (T2.setTop (mkF m 39 #[.val (.int u0), .val (.int u1), .val (.int u2), .val (.int u3), .val (.int u4), .val (.int u5), .val (.int dd), .val (.ref b1), .unset, .unset, .unset, .unset, .unset, .unset, .unset, .unset] [(.int (osel (decide ((u5 &&& (1 : Int32)) = (0 : Int32))) u0 (u0 + dd)))])) _
    rw [hv0]
    show Steps p.tables e below (T2.setTop (mkF m 39 #[.val (.int u0), .val (.int u1), .val (.int u2), .val (.int u3), .val (.int u4), .val (.int u5), .val (.int dd), .val (.ref b1), .unset, .unset, .unset, .unset, .unset, .unset, .unset, .unset] [(.int v0)])) _
    refine XS.istore X2.here hx rfl (hb hby at_39) rfl (l' := #[.val (.int u0), .val (.int u1), .val (.int u2), .val (.int u3), .val (.int u4), .val (.int u5), .val (.int dd), .val (.ref b1), .val (.int v0), .unset, .unset, .unset, .unset, .unset, .unset, .unset]) rfl ?_
    refine XS.iload X2.here hx rfl (hb hby at_41) rfl ?_
    refine XS.iconst X2.here hx rfl (hb hby at_43) ?_
    show Steps p.tables e below (T2.setTop (mkF m 44 #[.val (.int u0), .val (.int u1), .val (.int u2), .val (.int u3), .val (.int u4), .val (.int u5), .val (.int dd), .val (.ref b1), .val (.int v0), .unset, .unset, .unset, .unset, .unset, .unset, .unset] [(.int (2 : Int32)), (.int u5)])) _
    refine XS.iand X2.here hx rfl (hb hby at_44) rfl ?_
    show Steps p.tables e below (T2.setTop (mkF m 45 #[.val (.int u0), .val (.int u1), .val (.int u2), .val (.int u3), .val (.int u4), .val (.int u5), .val (.int dd), .val (.ref b1), .val (.int v0), .unset, .unset, .unset, .unset, .unset, .unset, .unset] [(.int (u5 &&& (2 : Int32)))])) _
    suffices hshd4 : Steps p.tables e below (T2.setTop (mkF m 56 #[.val (.int u0), .val (.int u1), .val (.int u2), .val (.int u3), .val (.int u4), .val (.int u5), .val (.int dd), .val (.ref b1), .val (.int v0), .unset, .unset, .unset, .unset, .unset, .unset, .unset] [(.int (osel (decide ((u5 &&& (2 : Int32)) = (0 : Int32))) u1 (u1 + dd)))])) (T13.setFrames fs) by
      by_cases hd4 : (u5 &&& (2 : Int32)) = (0 : Int32)
      · rw [show (osel (decide ((u5 &&& (2 : Int32)) = (0 : Int32))) u1 (u1 + dd)) = u1 from if_pos (decide_eq_true hd4)] at hshd4
        refine XS.ifYes X2.here hx rfl (pc0 := 45) (pc' := 55) rfl (hb hby at_45) rfl ((if0 _ _).trans (teq hd4).1) (by decide) (by decide) ?_
        show Steps p.tables e below (T2.setTop (mkF m 55 #[.val (.int u0), .val (.int u1), .val (.int u2), .val (.int u3), .val (.int u4), .val (.int u5), .val (.int dd), .val (.ref b1), .val (.int v0), .unset, .unset, .unset, .unset, .unset, .unset, .unset] [])) _
        refine XS.iloadN X2.here hx rfl (hb hby at_55) rfl ?_
        exact hshd4
      · rw [show (osel (decide ((u5 &&& (2 : Int32)) = (0 : Int32))) u1 (u1 + dd)) = (u1 + dd) from if_neg (fun hh => absurd (of_decide_eq_true hh) hd4)] at hshd4
        refine XS.ifNo X2.here hx rfl (hb hby at_45) rfl ((if0 _ _).trans (feq hd4).1) ?_
        show Steps p.tables e below (T2.setTop (mkF m 48 #[.val (.int u0), .val (.int u1), .val (.int u2), .val (.int u3), .val (.int u4), .val (.int u5), .val (.int dd), .val (.ref b1), .val (.int v0), .unset, .unset, .unset, .unset, .unset, .unset, .unset] [])) _
        refine XS.iloadN X2.here hx rfl (hb hby at_48) rfl ?_
        show Steps p.tables e below (T2.setTop (mkF m 49 #[.val (.int u0), .val (.int u1), .val (.int u2), .val (.int u3), .val (.int u4), .val (.int u5), .val (.int dd), .val (.ref b1), .val (.int v0), .unset, .unset, .unset, .unset, .unset, .unset, .unset] [(.int u1)])) _
        refine XS.iload X2.here hx rfl (hb hby at_49) rfl ?_
        show Steps p.tables e below (T2.setTop (mkF m 51 #[.val (.int u0), .val (.int u1), .val (.int u2), .val (.int u3), .val (.int u4), .val (.int u5), .val (.int dd), .val (.ref b1), .val (.int v0), .unset, .unset, .unset, .unset, .unset, .unset, .unset] [(.int dd), (.int u1)])) _
        refine XS.iadd X2.here hx rfl (hb hby at_51) rfl ?_
        show Steps p.tables e below (T2.setTop (mkF m 52 #[.val (.int u0), .val (.int u1), .val (.int u2), .val (.int u3), .val (.int u4), .val (.int u5), .val (.int dd), .val (.ref b1), .val (.int v0), .unset, .unset, .unset, .unset, .unset, .unset, .unset] [(.int (u1 + dd))])) _
        refine XS.goto X2.here hx rfl (pc0 := 52) (pc' := 56) rfl (hb hby at_52) (by decide) (by decide) ?_
        exact hshd4
    show Steps p.tables e below (T2.setTop (mkF m 56 #[.val (.int u0), .val (.int u1), .val (.int u2), .val (.int u3), .val (.int u4), .val (.int u5), .val (.int dd), .val (.ref b1), .val (.int v0), .unset, .unset, .unset, .unset, .unset, .unset, .unset] [(.int (osel (decide ((u5 &&& (2 : Int32)) = (0 : Int32))) u1 (u1 + dd)))])) _
    rw [hv1]
    show Steps p.tables e below (T2.setTop (mkF m 56 #[.val (.int u0), .val (.int u1), .val (.int u2), .val (.int u3), .val (.int u4), .val (.int u5), .val (.int dd), .val (.ref b1), .val (.int v0), .unset, .unset, .unset, .unset, .unset, .unset, .unset] [(.int v1)])) _
    refine XS.istore X2.here hx rfl (hb hby at_56) rfl (l' := #[.val (.int u0), .val (.int u1), .val (.int u2), .val (.int u3), .val (.int u4), .val (.int u5), .val (.int dd), .val (.ref b1), .val (.int v0), .val (.int v1), .unset, .unset, .unset, .unset, .unset, .unset]) rfl ?_
    refine XS.iload X2.here hx rfl (hb hby at_58) rfl ?_
    refine XS.iconst X2.here hx rfl (hb hby at_60) ?_
    show Steps p.tables e below (T2.setTop (mkF m 61 #[.val (.int u0), .val (.int u1), .val (.int u2), .val (.int u3), .val (.int u4), .val (.int u5), .val (.int dd), .val (.ref b1), .val (.int v0), .val (.int v1), .unset, .unset, .unset, .unset, .unset, .unset] [(.int (4 : Int32)), (.int u5)])) _
    refine XS.iand X2.here hx rfl (hb hby at_61) rfl ?_
    show Steps p.tables e below (T2.setTop (mkF m 62 #[.val (.int u0), .val (.int u1), .val (.int u2), .val (.int u3), .val (.int u4), .val (.int u5), .val (.int dd), .val (.ref b1), .val (.int v0), .val (.int v1), .unset, .unset, .unset, .unset, .unset, .unset] [(.int (u5 &&& (4 : Int32)))])) _
    suffices hshd5 : Steps p.tables e below (T2.setTop (mkF m 73 #[.val (.int u0), .val (.int u1), .val (.int u2), .val (.int u3), .val (.int u4), .val (.int u5), .val (.int dd), .val (.ref b1), .val (.int v0), .val (.int v1), .unset, .unset, .unset, .unset, .unset, .unset] [(.int (osel (decide ((u5 &&& (4 : Int32)) = (0 : Int32))) u2 (u2 + dd)))])) (T13.setFrames fs) by
      by_cases hd5 : (u5 &&& (4 : Int32)) = (0 : Int32)
      · rw [show (osel (decide ((u5 &&& (4 : Int32)) = (0 : Int32))) u2 (u2 + dd)) = u2 from if_pos (decide_eq_true hd5)] at hshd5
        refine XS.ifYes X2.here hx rfl (pc0 := 62) (pc' := 72) rfl (hb hby at_62) rfl ((if0 _ _).trans (teq hd5).1) (by decide) (by decide) ?_
        show Steps p.tables e below (T2.setTop (mkF m 72 #[.val (.int u0), .val (.int u1), .val (.int u2), .val (.int u3), .val (.int u4), .val (.int u5), .val (.int dd), .val (.ref b1), .val (.int v0), .val (.int v1), .unset, .unset, .unset, .unset, .unset, .unset] [])) _
        refine XS.iloadN X2.here hx rfl (hb hby at_72) rfl ?_
        exact hshd5
      · rw [show (osel (decide ((u5 &&& (4 : Int32)) = (0 : Int32))) u2 (u2 + dd)) = (u2 + dd) from if_neg (fun hh => absurd (of_decide_eq_true hh) hd5)] at hshd5
        refine XS.ifNo X2.here hx rfl (hb hby at_62) rfl ((if0 _ _).trans (feq hd5).1) ?_
        show Steps p.tables e below (T2.setTop (mkF m 65 #[.val (.int u0), .val (.int u1), .val (.int u2), .val (.int u3), .val (.int u4), .val (.int u5), .val (.int dd), .val (.ref b1), .val (.int v0), .val (.int v1), .unset, .unset, .unset, .unset, .unset, .unset] [])) _
        refine XS.iloadN X2.here hx rfl (hb hby at_65) rfl ?_
        show Steps p.tables e below (T2.setTop (mkF m 66 #[.val (.int u0), .val (.int u1), .val (.int u2), .val (.int u3), .val (.int u4), .val (.int u5), .val (.int dd), .val (.ref b1), .val (.int v0), .val (.int v1), .unset, .unset, .unset, .unset, .unset, .unset] [(.int u2)])) _
        refine XS.iload X2.here hx rfl (hb hby at_66) rfl ?_
        show Steps p.tables e below (T2.setTop (mkF m 68 #[.val (.int u0), .val (.int u1), .val (.int u2), .val (.int u3), .val (.int u4), .val (.int u5), .val (.int dd), .val (.ref b1), .val (.int v0), .val (.int v1), .unset, .unset, .unset, .unset, .unset, .unset] [(.int dd), (.int u2)])) _
        refine XS.iadd X2.here hx rfl (hb hby at_68) rfl ?_
        show Steps p.tables e below (T2.setTop (mkF m 69 #[.val (.int u0), .val (.int u1), .val (.int u2), .val (.int u3), .val (.int u4), .val (.int u5), .val (.int dd), .val (.ref b1), .val (.int v0), .val (.int v1), .unset, .unset, .unset, .unset, .unset, .unset] [(.int (u2 + dd))])) _
        refine XS.goto X2.here hx rfl (pc0 := 69) (pc' := 73) rfl (hb hby at_69) (by decide) (by decide) ?_
        exact hshd5
    show Steps p.tables e below (T2.setTop (mkF m 73 #[.val (.int u0), .val (.int u1), .val (.int u2), .val (.int u3), .val (.int u4), .val (.int u5), .val (.int dd), .val (.ref b1), .val (.int v0), .val (.int v1), .unset, .unset, .unset, .unset, .unset, .unset] [(.int (osel (decide ((u5 &&& (4 : Int32)) = (0 : Int32))) u2 (u2 + dd)))])) _
    rw [hv2]
    show Steps p.tables e below (T2.setTop (mkF m 73 #[.val (.int u0), .val (.int u1), .val (.int u2), .val (.int u3), .val (.int u4), .val (.int u5), .val (.int dd), .val (.ref b1), .val (.int v0), .val (.int v1), .unset, .unset, .unset, .unset, .unset, .unset] [(.int v2)])) _
    refine XS.istore X2.here hx rfl (hb hby at_73) rfl (l' := #[.val (.int u0), .val (.int u1), .val (.int u2), .val (.int u3), .val (.int u4), .val (.int u5), .val (.int dd), .val (.ref b1), .val (.int v0), .val (.int v1), .val (.int v2), .unset, .unset, .unset, .unset, .unset]) rfl ?_
    refine XS.iload X2.here hx rfl (hb hby at_75) rfl ?_
    refine XS.bipush X2.here hx rfl (hb hby at_77) ?_
    show Steps p.tables e below (T2.setTop (mkF m 79 #[.val (.int u0), .val (.int u1), .val (.int u2), .val (.int u3), .val (.int u4), .val (.int u5), .val (.int dd), .val (.ref b1), .val (.int v0), .val (.int v1), .val (.int v2), .unset, .unset, .unset, .unset, .unset] [(.int (8 : Int32)), (.int u5)])) _
    refine XS.iand X2.here hx rfl (hb hby at_79) rfl ?_
    show Steps p.tables e below (T2.setTop (mkF m 80 #[.val (.int u0), .val (.int u1), .val (.int u2), .val (.int u3), .val (.int u4), .val (.int u5), .val (.int dd), .val (.ref b1), .val (.int v0), .val (.int v1), .val (.int v2), .unset, .unset, .unset, .unset, .unset] [(.int (u5 &&& (8 : Int32)))])) _
    suffices hshd6 : Steps p.tables e below (T2.setTop (mkF m 91 #[.val (.int u0), .val (.int u1), .val (.int u2), .val (.int u3), .val (.int u4), .val (.int u5), .val (.int dd), .val (.ref b1), .val (.int v0), .val (.int v1), .val (.int v2), .unset, .unset, .unset, .unset, .unset] [(.int (osel (decide ((u5 &&& (8 : Int32)) = (0 : Int32))) u3 (u3 + dd)))])) (T13.setFrames fs) by
      by_cases hd6 : (u5 &&& (8 : Int32)) = (0 : Int32)
      · rw [show (osel (decide ((u5 &&& (8 : Int32)) = (0 : Int32))) u3 (u3 + dd)) = u3 from if_pos (decide_eq_true hd6)] at hshd6
        refine XS.ifYes X2.here hx rfl (pc0 := 80) (pc' := 90) rfl (hb hby at_80) rfl ((if0 _ _).trans (teq hd6).1) (by decide) (by decide) ?_
        show Steps p.tables e below (T2.setTop (mkF m 90 #[.val (.int u0), .val (.int u1), .val (.int u2), .val (.int u3), .val (.int u4), .val (.int u5), .val (.int dd), .val (.ref b1), .val (.int v0), .val (.int v1), .val (.int v2), .unset, .unset, .unset, .unset, .unset] [])) _
        refine XS.iloadN X2.here hx rfl (hb hby at_90) rfl ?_
        exact hshd6
      · rw [show (osel (decide ((u5 &&& (8 : Int32)) = (0 : Int32))) u3 (u3 + dd)) = (u3 + dd) from if_neg (fun hh => absurd (of_decide_eq_true hh) hd6)] at hshd6
        refine XS.ifNo X2.here hx rfl (hb hby at_80) rfl ((if0 _ _).trans (feq hd6).1) ?_
        show Steps p.tables e below (T2.setTop (mkF m 83 #[.val (.int u0), .val (.int u1), .val (.int u2), .val (.int u3), .val (.int u4), .val (.int u5), .val (.int dd), .val (.ref b1), .val (.int v0), .val (.int v1), .val (.int v2), .unset, .unset, .unset, .unset, .unset] [])) _
        refine XS.iloadN X2.here hx rfl (hb hby at_83) rfl ?_
        show Steps p.tables e below (T2.setTop (mkF m 84 #[.val (.int u0), .val (.int u1), .val (.int u2), .val (.int u3), .val (.int u4), .val (.int u5), .val (.int dd), .val (.ref b1), .val (.int v0), .val (.int v1), .val (.int v2), .unset, .unset, .unset, .unset, .unset] [(.int u3)])) _
        refine XS.iload X2.here hx rfl (hb hby at_84) rfl ?_
        show Steps p.tables e below (T2.setTop (mkF m 86 #[.val (.int u0), .val (.int u1), .val (.int u2), .val (.int u3), .val (.int u4), .val (.int u5), .val (.int dd), .val (.ref b1), .val (.int v0), .val (.int v1), .val (.int v2), .unset, .unset, .unset, .unset, .unset] [(.int dd), (.int u3)])) _
        refine XS.iadd X2.here hx rfl (hb hby at_86) rfl ?_
        show Steps p.tables e below (T2.setTop (mkF m 87 #[.val (.int u0), .val (.int u1), .val (.int u2), .val (.int u3), .val (.int u4), .val (.int u5), .val (.int dd), .val (.ref b1), .val (.int v0), .val (.int v1), .val (.int v2), .unset, .unset, .unset, .unset, .unset] [(.int (u3 + dd))])) _
        refine XS.goto X2.here hx rfl (pc0 := 87) (pc' := 91) rfl (hb hby at_87) (by decide) (by decide) ?_
        exact hshd6
    show Steps p.tables e below (T2.setTop (mkF m 91 #[.val (.int u0), .val (.int u1), .val (.int u2), .val (.int u3), .val (.int u4), .val (.int u5), .val (.int dd), .val (.ref b1), .val (.int v0), .val (.int v1), .val (.int v2), .unset, .unset, .unset, .unset, .unset] [(.int (osel (decide ((u5 &&& (8 : Int32)) = (0 : Int32))) u3 (u3 + dd)))])) _
    rw [hv3]
    show Steps p.tables e below (T2.setTop (mkF m 91 #[.val (.int u0), .val (.int u1), .val (.int u2), .val (.int u3), .val (.int u4), .val (.int u5), .val (.int dd), .val (.ref b1), .val (.int v0), .val (.int v1), .val (.int v2), .unset, .unset, .unset, .unset, .unset] [(.int v3)])) _
    refine XS.istore X2.here hx rfl (hb hby at_91) rfl (l' := #[.val (.int u0), .val (.int u1), .val (.int u2), .val (.int u3), .val (.int u4), .val (.int u5), .val (.int dd), .val (.ref b1), .val (.int v0), .val (.int v1), .val (.int v2), .val (.int v3), .unset, .unset, .unset, .unset]) rfl ?_
    refine XS.iload X2.here hx rfl (hb hby at_93) rfl ?_
    refine XS.bipush X2.here hx rfl (hb hby at_95) ?_
    show Steps p.tables e below (T2.setTop (mkF m 97 #[.val (.int u0), .val (.int u1), .val (.int u2), .val (.int u3), .val (.int u4), .val (.int u5), .val (.int dd), .val (.ref b1), .val (.int v0), .val (.int v1), .val (.int v2), .val (.int v3), .unset, .unset, .unset, .unset] [(.int (16 : Int32)), (.int u5)])) _
    refine XS.iand X2.here hx rfl (hb hby at_97) rfl ?_
    show Steps p.tables e below (T2.setTop (mkF m 98 #[.val (.int u0), .val (.int u1), .val (.int u2), .val (.int u3), .val (.int u4), .val (.int u5), .val (.int dd), .val (.ref b1), .val (.int v0), .val (.int v1), .val (.int v2), .val (.int v3), .unset, .unset, .unset, .unset] [(.int (u5 &&& (16 : Int32)))])) _
    suffices hshd7 : Steps p.tables e below (T2.setTop (mkF m 111 #[.val (.int u0), .val (.int u1), .val (.int u2), .val (.int u3), .val (.int u4), .val (.int u5), .val (.int dd), .val (.ref b1), .val (.int v0), .val (.int v1), .val (.int v2), .val (.int v3), .unset, .unset, .unset, .unset] [(.int (osel (decide ((u5 &&& (16 : Int32)) = (0 : Int32))) u4 (u4 + dd)))])) (T13.setFrames fs) by
      by_cases hd7 : (u5 &&& (16 : Int32)) = (0 : Int32)
      · rw [show (osel (decide ((u5 &&& (16 : Int32)) = (0 : Int32))) u4 (u4 + dd)) = u4 from if_pos (decide_eq_true hd7)] at hshd7
        refine XS.ifYes X2.here hx rfl (pc0 := 98) (pc' := 109) rfl (hb hby at_98) rfl ((if0 _ _).trans (teq hd7).1) (by decide) (by decide) ?_
        show Steps p.tables e below (T2.setTop (mkF m 109 #[.val (.int u0), .val (.int u1), .val (.int u2), .val (.int u3), .val (.int u4), .val (.int u5), .val (.int dd), .val (.ref b1), .val (.int v0), .val (.int v1), .val (.int v2), .val (.int v3), .unset, .unset, .unset, .unset] [])) _
        refine XS.iload X2.here hx rfl (hb hby at_109) rfl ?_
        exact hshd7
      · rw [show (osel (decide ((u5 &&& (16 : Int32)) = (0 : Int32))) u4 (u4 + dd)) = (u4 + dd) from if_neg (fun hh => absurd (of_decide_eq_true hh) hd7)] at hshd7
        refine XS.ifNo X2.here hx rfl (hb hby at_98) rfl ((if0 _ _).trans (feq hd7).1) ?_
        show Steps p.tables e below (T2.setTop (mkF m 101 #[.val (.int u0), .val (.int u1), .val (.int u2), .val (.int u3), .val (.int u4), .val (.int u5), .val (.int dd), .val (.ref b1), .val (.int v0), .val (.int v1), .val (.int v2), .val (.int v3), .unset, .unset, .unset, .unset] [])) _
        refine XS.iload X2.here hx rfl (hb hby at_101) rfl ?_
        show Steps p.tables e below (T2.setTop (mkF m 103 #[.val (.int u0), .val (.int u1), .val (.int u2), .val (.int u3), .val (.int u4), .val (.int u5), .val (.int dd), .val (.ref b1), .val (.int v0), .val (.int v1), .val (.int v2), .val (.int v3), .unset, .unset, .unset, .unset] [(.int u4)])) _
        refine XS.iload X2.here hx rfl (hb hby at_103) rfl ?_
        show Steps p.tables e below (T2.setTop (mkF m 105 #[.val (.int u0), .val (.int u1), .val (.int u2), .val (.int u3), .val (.int u4), .val (.int u5), .val (.int dd), .val (.ref b1), .val (.int v0), .val (.int v1), .val (.int v2), .val (.int v3), .unset, .unset, .unset, .unset] [(.int dd), (.int u4)])) _
        refine XS.iadd X2.here hx rfl (hb hby at_105) rfl ?_
        show Steps p.tables e below (T2.setTop (mkF m 106 #[.val (.int u0), .val (.int u1), .val (.int u2), .val (.int u3), .val (.int u4), .val (.int u5), .val (.int dd), .val (.ref b1), .val (.int v0), .val (.int v1), .val (.int v2), .val (.int v3), .unset, .unset, .unset, .unset] [(.int (u4 + dd))])) _
        refine XS.goto X2.here hx rfl (pc0 := 106) (pc' := 111) rfl (hb hby at_106) (by decide) (by decide) ?_
        exact hshd7
    show Steps p.tables e below (T2.setTop (mkF m 111 #[.val (.int u0), .val (.int u1), .val (.int u2), .val (.int u3), .val (.int u4), .val (.int u5), .val (.int dd), .val (.ref b1), .val (.int v0), .val (.int v1), .val (.int v2), .val (.int v3), .unset, .unset, .unset, .unset] [(.int (osel (decide ((u5 &&& (16 : Int32)) = (0 : Int32))) u4 (u4 + dd)))])) _
    rw [hv4]
    show Steps p.tables e below (T2.setTop (mkF m 111 #[.val (.int u0), .val (.int u1), .val (.int u2), .val (.int u3), .val (.int u4), .val (.int u5), .val (.int dd), .val (.ref b1), .val (.int v0), .val (.int v1), .val (.int v2), .val (.int v3), .unset, .unset, .unset, .unset] [(.int v4)])) _
    refine XS.istore X2.here hx rfl (hb hby at_111) rfl (l' := #[.val (.int u0), .val (.int u1), .val (.int u2), .val (.int u3), .val (.int u4), .val (.int u5), .val (.int dd), .val (.ref b1), .val (.int v0), .val (.int v1), .val (.int v2), .val (.int v3), .val (.int v4), .unset, .unset, .unset]) rfl ?_
    refine st8 _ ?_
    refine XS.dup X8.here hx rfl (hb hby at_116) rfl rfl ?_
    show Steps p.tables e below (T8.setTop (mkF m 117 #[.val (.int u0), .val (.int u1), .val (.int u2), .val (.int u3), .val (.int u4), .val (.int u5), .val (.int dd), .val (.ref b1), .val (.int v0), .val (.int v1), .val (.int v2), .val (.int v3), .val (.int v4), .unset, .unset, .unset] [(.ref b2), (.ref b2)])) _
    refine XS.iload X8.here hx rfl (hb hby at_117) rfl ?_
    refine XS.iload X8.here hx rfl (hb hby at_119) rfl ?_
    refine XS.iload X8.here hx rfl (hb hby at_121) rfl ?_
    show Steps p.tables e below (T8.setTop (mkF m 123 #[.val (.int u0), .val (.int u1), .val (.int u2), .val (.int u3), .val (.int u4), .val (.int u5), .val (.int dd), .val (.ref b1), .val (.int v0), .val (.int v1), .val (.int v2), .val (.int v3), .val (.int v4), .unset, .unset, .unset] [(.int v2), (.int v1), (.int v0), (.ref b2), (.ref b2)])) _
    refine XS.iload X8.here hx rfl (hb hby at_123) rfl ?_
    refine XS.iload X8.here hx rfl (hb hby at_125) rfl ?_
    refine st9.trans ?_
    show Steps p.tables e below (T9.setTop (mkF m 130 #[.val (.int u0), .val (.int u1), .val (.int u2), .val (.int u3), .val (.int u4), .val (.int u5), .val (.int dd), .val (.ref b1), .val (.int v0), .val (.int v1), .val (.int v2), .val (.int v3), .val (.int v4), .unset, .unset, .unset] [(.ref b2)])) _
    refine XS.astore X9.here hx rfl (hb hby at_130) rfl rfl (l' := #[.val (.int u0), .val (.int u1), .val (.int u2), .val (.int u3), .val (.int u4), .val (.int u5), .val (.int dd), .val (.ref b1), .val (.int v0), .val (.int v1), .val (.int v2), .val (.int v3), .val (.int v4), .val (.ref b2), .unset, .unset]) rfl ?_
    refine XS.iload X9.here hx rfl (hb hby at_132) rfl ?_
    refine XS.bipush X9.here hx rfl (hb hby at_134) ?_
    show Steps p.tables e below (T9.setTop (mkF m 136 #[.val (.int u0), .val (.int u1), .val (.int u2), .val (.int u3), .val (.int u4), .val (.int u5), .val (.int dd), .val (.ref b1), .val (.int v0), .val (.int v1), .val (.int v2), .val (.int v3), .val (.int v4), .val (.ref b2), .unset, .unset] [(.int (31 : Int32)), (.int u5)])) _
    refine XS.iand X9.here hx rfl (hb hby at_136) rfl ?_
    show Steps p.tables e below (T9.setTop (mkF m 137 #[.val (.int u0), .val (.int u1), .val (.int u2), .val (.int u3), .val (.int u4), .val (.int u5), .val (.int dd), .val (.ref b1), .val (.int v0), .val (.int v1), .val (.int v2), .val (.int v3), .val (.int v4), .val (.ref b2), .unset, .unset] [(.int (u5 &&& (31 : Int32)))])) _
    suffices hshd10 : Steps p.tables e below (T9.setTop (mkF m 145 #[.val (.int u0), .val (.int u1), .val (.int u2), .val (.int u3), .val (.int u4), .val (.int u5), .val (.int dd), .val (.ref b1), .val (.int v0), .val (.int v1), .val (.int v2), .val (.int v3), .val (.int v4), .val (.ref b2), .unset, .unset] [(.int (osel (decide ((u5 &&& (31 : Int32)) = (0 : Int32))) (1 : Int32) (0 : Int32)))])) (T13.setFrames fs) by
      by_cases hd10 : (u5 &&& (31 : Int32)) = (0 : Int32)
      · rw [show (osel (decide ((u5 &&& (31 : Int32)) = (0 : Int32))) (1 : Int32) (0 : Int32)) = (1 : Int32) from if_pos (decide_eq_true hd10)] at hshd10
        refine XS.ifNo X9.here hx rfl (hb hby at_137) rfl ((if0 _ _).trans (teq hd10).2) ?_
        show Steps p.tables e below (T9.setTop (mkF m 140 #[.val (.int u0), .val (.int u1), .val (.int u2), .val (.int u3), .val (.int u4), .val (.int u5), .val (.int dd), .val (.ref b1), .val (.int v0), .val (.int v1), .val (.int v2), .val (.int v3), .val (.int v4), .val (.ref b2), .unset, .unset] [])) _
        refine XS.iconst X9.here hx rfl (hb hby at_140) ?_
        show Steps p.tables e below (T9.setTop (mkF m 141 #[.val (.int u0), .val (.int u1), .val (.int u2), .val (.int u3), .val (.int u4), .val (.int u5), .val (.int dd), .val (.ref b1), .val (.int v0), .val (.int v1), .val (.int v2), .val (.int v3), .val (.int v4), .val (.ref b2), .unset, .unset] [(.int (1 : Int32))])) _
        refine XS.goto X9.here hx rfl (pc0 := 141) (pc' := 145) rfl (hb hby at_141) (by decide) (by decide) ?_
        exact hshd10
      · rw [show (osel (decide ((u5 &&& (31 : Int32)) = (0 : Int32))) (1 : Int32) (0 : Int32)) = (0 : Int32) from if_neg (fun hh => absurd (of_decide_eq_true hh) hd10)] at hshd10
        refine XS.ifYes X9.here hx rfl (pc0 := 137) (pc' := 144) rfl (hb hby at_137) rfl ((if0 _ _).trans (feq hd10).2) (by decide) (by decide) ?_
        show Steps p.tables e below (T9.setTop (mkF m 144 #[.val (.int u0), .val (.int u1), .val (.int u2), .val (.int u3), .val (.int u4), .val (.int u5), .val (.int dd), .val (.ref b1), .val (.int v0), .val (.int v1), .val (.int v2), .val (.int v3), .val (.int v4), .val (.ref b2), .unset, .unset] [])) _
        refine XS.iconst X9.here hx rfl (hb hby at_144) ?_
        exact hshd10
    show Steps p.tables e below (T9.setTop (mkF m 145 #[.val (.int u0), .val (.int u1), .val (.int u2), .val (.int u3), .val (.int u4), .val (.int u5), .val (.int dd), .val (.ref b1), .val (.int v0), .val (.int v1), .val (.int v2), .val (.int v3), .val (.int v4), .val (.ref b2), .unset, .unset] [(.int (osel (decide ((u5 &&& (31 : Int32)) = (0 : Int32))) (1 : Int32) (0 : Int32)))])) _
    rw [hsm]
    show Steps p.tables e below (T9.setTop (mkF m 145 #[.val (.int u0), .val (.int u1), .val (.int u2), .val (.int u3), .val (.int u4), .val (.int u5), .val (.int dd), .val (.ref b1), .val (.int v0), .val (.int v1), .val (.int v2), .val (.int v3), .val (.int v4), .val (.ref b2), .unset, .unset] [(.int sm)])) _
    refine XS.istore X9.here hx rfl (hb hby at_145) rfl (l' := #[.val (.int u0), .val (.int u1), .val (.int u2), .val (.int u3), .val (.int u4), .val (.int u5), .val (.int dd), .val (.ref b1), .val (.int v0), .val (.int v1), .val (.int v2), .val (.int v3), .val (.int v4), .val (.ref b2), .val (.int sm), .unset]) rfl ?_
    refine XS.iload X9.here hx rfl (hb hby at_147) rfl ?_
    refine XS.iconst X9.here hx rfl (hb hby at_149) ?_
    show Steps p.tables e below (T9.setTop (mkF m 150 #[.val (.int u0), .val (.int u1), .val (.int u2), .val (.int u3), .val (.int u4), .val (.int u5), .val (.int dd), .val (.ref b1), .val (.int v0), .val (.int v1), .val (.int v2), .val (.int v3), .val (.int v4), .val (.ref b2), .val (.int sm), .unset] [(.int (5 : Int32)), (.int u5)])) _
    refine XS.ishr X9.here hx rfl (hb hby at_150) rfl ?_
    refine XS.iconst X9.here hx rfl (hb hby at_151) ?_
    refine XS.iand X9.here hx rfl (hb hby at_152) rfl ?_
    show Steps p.tables e below (T9.setTop (mkF m 153 #[.val (.int u0), .val (.int u1), .val (.int u2), .val (.int u3), .val (.int u4), .val (.int u5), .val (.int dd), .val (.ref b1), .val (.int v0), .val (.int v1), .val (.int v2), .val (.int v3), .val (.int v4), .val (.ref b2), .val (.int sm), .unset] [(.int ((u5 >>> ((5 : Int32) &&& 31)) &&& (3 : Int32)))])) _
    refine XS.istore X9.here hx rfl (hb hby at_153) rfl (l' := #[.val (.int u0), .val (.int u1), .val (.int u2), .val (.int u3), .val (.int u4), .val (.int u5), .val (.int dd), .val (.ref b1), .val (.int v0), .val (.int v1), .val (.int v2), .val (.int v3), .val (.int v4), .val (.ref b2), .val (.int sm), .val (.int ((u5 >>> ((5 : Int32) &&& 31)) &&& (3 : Int32)))]) rfl ?_
    refine XS.iload X9.here hx rfl (hb hby at_155) rfl ?_
    refine XS.iconst X9.here hx rfl (hb hby at_157) ?_
    show Steps p.tables e below (T9.setTop (mkF m 158 #[.val (.int u0), .val (.int u1), .val (.int u2), .val (.int u3), .val (.int u4), .val (.int u5), .val (.int dd), .val (.ref b1), .val (.int v0), .val (.int v1), .val (.int v2), .val (.int v3), .val (.int v4), .val (.ref b2), .val (.int sm), .val (.int ((u5 >>> ((5 : Int32) &&& 31)) &&& (3 : Int32)))] [(.int (1 : Int32)), (.int ((u5 >>> ((5 : Int32) &&& 31)) &&& (3 : Int32)))])) _
    refine XS.icmpYes X9.here hx rfl (pc0 := 158) (pc' := 186) rfl (hb hby at_158) rfl (feq hf1).2 (by decide) (by decide) ?_
    refine XS.iload X9.here hx rfl (hb hby at_186) rfl ?_
    refine XS.iconst X9.here hx rfl (hb hby at_188) ?_
    show Steps p.tables e below (T9.setTop (mkF m 189 #[.val (.int u0), .val (.int u1), .val (.int u2), .val (.int u3), .val (.int u4), .val (.int u5), .val (.int dd), .val (.ref b1), .val (.int v0), .val (.int v1), .val (.int v2), .val (.int v3), .val (.int v4), .val (.ref b2), .val (.int sm), .val (.int ((u5 >>> ((5 : Int32) &&& 31)) &&& (3 : Int32)))] [(.int (2 : Int32)), (.int ((u5 >>> ((5 : Int32) &&& 31)) &&& (3 : Int32)))])) _
    refine XS.icmpNo X9.here hx rfl (hb hby at_189) rfl (teq hf2).2 ?_
    refine XS.aload X9.here hx rfl (hb hby at_192) rfl rfl ?_
    refine XS.iloadN X9.here hx rfl (hb hby at_194) rfl ?_
    show Steps p.tables e below (T9.setTop (mkF m 195 #[.val (.int u0), .val (.int u1), .val (.int u2), .val (.int u3), .val (.int u4), .val (.int u5), .val (.int dd), .val (.ref b1), .val (.int v0), .val (.int v1), .val (.int v2), .val (.int v3), .val (.int v4), .val (.ref b2), .val (.int sm), .val (.int ((u5 >>> ((5 : Int32) &&& 31)) &&& (3 : Int32)))] [(.int u0), (.ref b1)])) _
    refine st11 _ ?_
    refine st12.trans ?_
    refine XS.ifNo X12.here hx rfl (hb hby at_201) rfl ((if0 _ _).trans (teq (by decide : (0 : Int32) = (0 : Int32))).2) ?_
    show Steps p.tables e below (T12.setTop (mkF m 204 #[.val (.int u0), .val (.int u1), .val (.int u2), .val (.int u3), .val (.int u4), .val (.int u5), .val (.int dd), .val (.ref b1), .val (.int v0), .val (.int v1), .val (.int v2), .val (.int v3), .val (.int v4), .val (.ref b2), .val (.int sm), .val (.int ((u5 >>> ((5 : Int32) &&& 31)) &&& (3 : Int32)))] [])) _
    refine XS.aload X12.here hx rfl (hb hby at_204) rfl rfl ?_
    refine XS.aload X12.here hx rfl (hb hby at_206) rfl rfl ?_
    refine st13.trans ?_
    show Steps p.tables e below (T13.setTop (mkF m 211 #[.val (.int u0), .val (.int u1), .val (.int u2), .val (.int u3), .val (.int u4), .val (.int u5), .val (.int dd), .val (.ref b1), .val (.int v0), .val (.int v1), .val (.int v2), .val (.int v3), .val (.int v4), .val (.ref b2), .val (.int sm), .val (.int ((u5 >>> ((5 : Int32) &&& 31)) &&& (3 : Int32)))] [(.int (1 : Int32))])) _
    refine XS.ifNo X13.here hx rfl (hb hby at_211) rfl ((if0 _ _).trans (feq (by decide : ¬ ((1 : Int32) = (0 : Int32)))).1) ?_
    refine XS.iconst X13.here hx rfl (hb hby at_214) ?_
    refine XS.goto X13.here hx rfl (pc0 := 215) (pc' := 219) rfl (hb hby at_215) (by decide) (by decide) ?_
    show Steps p.tables e below (T13.setTop (mkF m 219 #[.val (.int u0), .val (.int u1), .val (.int u2), .val (.int u3), .val (.int u4), .val (.int u5), .val (.int dd), .val (.ref b1), .val (.int v0), .val (.int v1), .val (.int v2), .val (.int v3), .val (.int v4), .val (.ref b2), .val (.int sm), .val (.int ((u5 >>> ((5 : Int32) &&& 31)) &&& (3 : Int32)))] [(.int (1 : Int32))])) _
    exact retN X13 hx (t := .boolean) Bd.returns (by simp) (hb hby at_219) hr
  · exact ⟨rfl, N13⟩
def Q_rm_valueOf_12 (Z : State) (w : Nat → Addr) (κ : Nat → ClassId) (n0 : Nat) (u0 u1 u2 u3 u4 u5 dd v0 v1 v2 v3 v4 sm : Int32) (b1 : Addr) (b2 : Addr) (v : Option Value) (h : Heap) (L : List Loc) : Prop := ∃ b3 : Addr, (v = (some (.ref b3))) ∧ (Fr n0 L) ∧ (n0 ≤ h.size) ∧ (Kon Z h w κ) ∧ (Exa Z h b1 "com/example/bot_workflow_runner/botworkflowrunner/model/Progress") ∧ (Fld Z h b1 "com/example/bot_workflow_runner/botworkflowrunner/model/Progress" "total" "I" (.int u0)) ∧ (Fld Z h b1 "com/example/bot_workflow_runner/botworkflowrunner/model/Progress" "completed" "I" (.int u1)) ∧ (Fld Z h b1 "com/example/bot_workflow_runner/botworkflowrunner/model/Progress" "running" "I" (.int u2)) ∧ (Fld Z h b1 "com/example/bot_workflow_runner/botworkflowrunner/model/Progress" "failed" "I" (.int u3)) ∧ (Fld Z h b1 "com/example/bot_workflow_runner/botworkflowrunner/model/Progress" "skipped" "I" (.int u4)) ∧ (Exa Z h b2 "com/example/bot_workflow_runner/botworkflowrunner/model/Progress") ∧ (Fld Z h b2 "com/example/bot_workflow_runner/botworkflowrunner/model/Progress" "total" "I" (.int v0)) ∧ (Fld Z h b2 "com/example/bot_workflow_runner/botworkflowrunner/model/Progress" "completed" "I" (.int v1)) ∧ (Fld Z h b2 "com/example/bot_workflow_runner/botworkflowrunner/model/Progress" "running" "I" (.int v2)) ∧ (Fld Z h b2 "com/example/bot_workflow_runner/botworkflowrunner/model/Progress" "failed" "I" (.int v3)) ∧ (Fld Z h b2 "com/example/bot_workflow_runner/botworkflowrunner/model/Progress" "skipped" "I" (.int v4)) ∧ (Exa Z h b3 "java/lang/Integer") ∧ (Fld Z h b3 "java/lang/Integer" "value" "I" (.int u0)) ∧ (n0 ≤ b3) ∧ (b1 ≠ b3) ∧ (b2 ≠ b3) ∧ (∀ i, i < 1 → w i ≠ b3)
set_option maxRecDepth 65536 in
set_option maxHeartbeats 40000000 in
theorem rm_valueOf_12 (l : Launch) (Z : State) (a0 : Array Value) (hw : ∀ d ∈ tables_1, d.before a0 Z = true) (w : Nat → Addr) (κ : Nat → ClassId) (h0 : Heap) (n0 : Nat) (Z0 : n0 ≤ h0.size) (K : Kon Z h0 w κ) (u0 u1 u2 u3 u4 u5 dd v0 v1 v2 v3 v4 sm : Int32) (b1 : Addr) (b2 : Addr) (hf3 : ¬ (u0 < (-128 : Int32))) (hf4 : (127 : Int32) < u0) (fE_b1 : Exa Z h0 b1 "com/example/bot_workflow_runner/botworkflowrunner/model/Progress") (fF_b1_com_example_bot_workflow_runner_botworkflowrunner_model_Progress_total : Fld Z h0 b1 "com/example/bot_workflow_runner/botworkflowrunner/model/Progress" "total" "I" (.int u0)) (fF_b1_com_example_bot_workflow_runner_botworkflowrunner_model_Progress_completed : Fld Z h0 b1 "com/example/bot_workflow_runner/botworkflowrunner/model/Progress" "completed" "I" (.int u1)) (fF_b1_com_example_bot_workflow_runner_botworkflowrunner_model_Progress_running : Fld Z h0 b1 "com/example/bot_workflow_runner/botworkflowrunner/model/Progress" "running" "I" (.int u2)) (fF_b1_com_example_bot_workflow_runner_botworkflowrunner_model_Progress_failed : Fld Z h0 b1 "com/example/bot_workflow_runner/botworkflowrunner/model/Progress" "failed" "I" (.int u3)) (fF_b1_com_example_bot_workflow_runner_botworkflowrunner_model_Progress_skipped : Fld Z h0 b1 "com/example/bot_workflow_runner/botworkflowrunner/model/Progress" "skipped" "I" (.int u4)) (fE_b2 : Exa Z h0 b2 "com/example/bot_workflow_runner/botworkflowrunner/model/Progress") (fF_b2_com_example_bot_workflow_runner_botworkflowrunner_model_Progress_total : Fld Z h0 b2 "com/example/bot_workflow_runner/botworkflowrunner/model/Progress" "total" "I" (.int v0)) (fF_b2_com_example_bot_workflow_runner_botworkflowrunner_model_Progress_completed : Fld Z h0 b2 "com/example/bot_workflow_runner/botworkflowrunner/model/Progress" "completed" "I" (.int v1)) (fF_b2_com_example_bot_workflow_runner_botworkflowrunner_model_Progress_running : Fld Z h0 b2 "com/example/bot_workflow_runner/botworkflowrunner/model/Progress" "running" "I" (.int v2)) (fF_b2_com_example_bot_workflow_runner_botworkflowrunner_model_Progress_failed : Fld Z h0 b2 "com/example/bot_workflow_runner/botworkflowrunner/model/Progress" "failed" "I" (.int v3)) (fF_b2_com_example_bot_workflow_runner_botworkflowrunner_model_Progress_skipped : Fld Z h0 b2 "com/example/bot_workflow_runner/botworkflowrunner/model/Progress" "skipped" "I" (.int v4)) (fG_b1 : n0 ≤ b1) (fKN_b1 : ∀ i, i < 1 → w i ≠ b1) (fG_b2 : n0 ≤ b2) (fN_b1_b2 : b1 ≠ b2) (fKN_b2 : ∀ i, i < 1 → w i ≠ b2) :
    OM l Z (⟨"java/lang/Integer", "valueOf", "(I)Ljava/lang/Integer;"⟩ : MethodName) jdk_33_method_22_code 1 (some (.object "java/lang/Integer")) [] ({ frames := 3, cells := 1, slots := 1, locals := 38 } : Room) #[(.int u0)] h0 (Q_rm_valueOf_12 Z w κ n0 u0 u1 u2 u3 u4 u5 dd v0 v1 v2 v3 v4 sm b1 b2) := by
  refine MetFree.of_bodySF (plainFor_of_name pn_java_lang_Integer) hisR ?_
  intro p e s m args below meth c s₁ Bd hml0 hP hK
  obtain ⟨rfl, hZ, hh⟩ := hP
  have hx := Bd.exec
  have hby := Bd.bytes
  have hml : c.maxLocals = 1 := hml0
  have hown : s.vm.findClass "java/lang/Integer" = some m.cls := findClass_of_methodNamed Bd.named
  have hnm := (name_of_methodNamed Bd.named Bd.method).1
  have X0 : Stand p l e ({ frames := 3, cells := 1, slots := 1, locals := 38 } : Room) s m #[(.int u0)] below meth c s₁ [] 0 0 := Stand.of_body Bd
  have e0 : s₁.heap = h0 := by rw [← hh, Bd.state]; rfl
  have N0 := Fr.nil n0
  have pre0 : ∀ t, Steps p.tables e below (s₁.setTop (mkF m 0 #[.val (.int u0)] [])) t → Steps p.tables e below (s₁.setTop (entryFrame m #[(.int u0)] 1)) t := fun t k => castTop (ef_jdk_33_method_22_code_I m u0) k
  obtain ⟨T1, X1, e1, st1⟩ := getS2 X0 hx hZ hown (host := "") (Or.inl (hw _ (List.mem_of_getElem? (i := 30) rfl))) Via.refl e0 K.1 (g := (mkF m 7 #[.val (.int u0)] [(.int u0)])) rfl (hb hby d_jdk_33_method_22_code_7)
  obtain ⟨T2, h2, X2, e2, E2, A2, D2, -, st2⟩ := newO X1 hx hZ hown (hw _ (List.mem_of_getElem? (i := 36) rfl)) (hw _ (List.mem_of_getElem? (i := 37) rfl)) (hw _ (List.mem_of_getElem? (i := 28) rfl)) e1 (g := (mkF m 23 #[.val (.int u0)] [])) rfl (hb hby d_jdk_33_method_22_code_23) (by decide) (by decide)
  obtain ⟨b3, g2⟩ : ∃ z, z = h0.size := ⟨_, rfl⟩
  rw [← g2] at A2 D2 st2
  have hG2 : n0 ≤ b3 := Nat.le_trans Z0 (Nat.le_of_eq g2.symm)
  have hN2_0 : b1 ≠ b3 := by rw [g2]; exact Nat.ne_of_lt fE_b1.lt
  have hN2_1 : b2 ≠ b3 := by rw [g2]; exact Nat.ne_of_lt fE_b2.lt
  have hKN2 : ∀ i, i < 1 → w i ≠ b3 := fun i hi => by rw [g2]; exact Nat.ne_of_lt (K.lt i hi)
  have f2_fE_b1 := fE_b1.ext E2
  have f2_fF_b1_com_example_bot_workflow_runner_botworkflowrunner_model_Progress_total := fF_b1_com_example_bot_workflow_runner_botworkflowrunner_model_Progress_total.ext E2
  have f2_fF_b1_com_example_bot_workflow_runner_botworkflowrunner_model_Progress_completed := fF_b1_com_example_bot_workflow_runner_botworkflowrunner_model_Progress_completed.ext E2
  have f2_fF_b1_com_example_bot_workflow_runner_botworkflowrunner_model_Progress_running := fF_b1_com_example_bot_workflow_runner_botworkflowrunner_model_Progress_running.ext E2
  have f2_fF_b1_com_example_bot_workflow_runner_botworkflowrunner_model_Progress_failed := fF_b1_com_example_bot_workflow_runner_botworkflowrunner_model_Progress_failed.ext E2
  have f2_fF_b1_com_example_bot_workflow_runner_botworkflowrunner_model_Progress_skipped := fF_b1_com_example_bot_workflow_runner_botworkflowrunner_model_Progress_skipped.ext E2
  have f2_fE_b2 := fE_b2.ext E2
  have f2_fF_b2_com_example_bot_workflow_runner_botworkflowrunner_model_Progress_total := fF_b2_com_example_bot_workflow_runner_botworkflowrunner_model_Progress_total.ext E2
  have f2_fF_b2_com_example_bot_workflow_runner_botworkflowrunner_model_Progress_completed := fF_b2_com_example_bot_workflow_runner_botworkflowrunner_model_Progress_completed.ext E2
  have f2_fF_b2_com_example_bot_workflow_runner_botworkflowrunner_model_Progress_running := fF_b2_com_example_bot_workflow_runner_botworkflowrunner_model_Progress_running.ext E2
  have f2_fF_b2_com_example_bot_workflow_runner_botworkflowrunner_model_Progress_failed := fF_b2_com_example_bot_workflow_runner_botworkflowrunner_model_Progress_failed.ext E2
  have f2_fF_b2_com_example_bot_workflow_runner_botworkflowrunner_model_Progress_skipped := fF_b2_com_example_bot_workflow_runner_botworkflowrunner_model_Progress_skipped.ext E2
  have K2 := K.ext E2
  have Z2 : n0 ≤ h2.size := Nat.le_trans Z0 E2.1
  have f2_value : Fld Z h2 b3 "java/lang/Integer" "value" "I" (.int (0 : Int32)) := D2 (Or.inr (hw _ (List.mem_of_getElem? (i := 50) rfl))) (ty := .int) (by decide)
  obtain ⟨_, _, ⟨T3, L3, kk3, n3⟩, -, X3, ⟨Lc3, hQ3, l3, y3, z3⟩, st3⟩ := Jvm.Stand.specialBack X2 hx (y := (⟨"java/lang/Integer", "<init>", "(I)V"⟩ : MethodName)) rfl hown (mvT hZ (hw _ (List.mem_of_getElem? (i := 38) rfl))) (mvT hZ (hw _ (List.mem_of_getElem? (i := 39) rfl))) (mvT hZ (hw _ (List.mem_of_getElem? (i := 41) rfl))) (by decide) (backOf (W := 1) (rm__init__7 l Z a0 hw w κ h2 n0 Z2 K2 u0 u1 u2 u3 u4 u5 dd v0 v1 v2 v3 v4 sm b1 b2 b3 f2_fE_b1 f2_fF_b1_com_example_bot_workflow_runner_botworkflowrunner_model_Progress_total f2_fF_b1_com_example_bot_workflow_runner_botworkflowrunner_model_Progress_completed f2_fF_b1_com_example_bot_workflow_runner_botworkflowrunner_model_Progress_running f2_fF_b1_com_example_bot_workflow_runner_botworkflowrunner_model_Progress_failed f2_fF_b1_com_example_bot_workflow_runner_botworkflowrunner_model_Progress_skipped f2_fE_b2 f2_fF_b2_com_example_bot_workflow_runner_botworkflowrunner_model_Progress_total f2_fF_b2_com_example_bot_workflow_runner_botworkflowrunner_model_Progress_completed f2_fF_b2_com_example_bot_workflow_runner_botworkflowrunner_model_Progress_running f2_fF_b2_com_example_bot_workflow_runner_botworkflowrunner_model_Progress_failed f2_fF_b2_com_example_bot_workflow_runner_botworkflowrunner_model_Progress_skipped A2 f2_value fG_b1 fKN_b1 fG_b2 fN_b1_b2 fKN_b2 hG2 hN2_0 hN2_1 hKN2) hZ (hw _ (List.mem_of_getElem? (i := 41) rfl)) (hw _ (List.mem_of_getElem? (i := 28) rfl)) (by decide) (by decide)) (g := (mkF m 28 #[.val (.int u0)] [(.int u0), (.ref b3), (.ref b3)])) rfl (by rw [hml]; rfl) (Steps.refl _) (a := b3) (argsL := [(.int u0)]) (rest := [(.ref b3)]) (lenOf pd_28I29V rfl) rfl (by show 2 * 0 + _ ≤ _; exact Nat.le_of_eq rfl) (hb hby d_jdk_33_method_22_code_28) (fun _ _ => ⟨rfl, e2, (by decide : 1 + 0 ≤ _), (by decide : 1 + 0 ≤ _)⟩)
  dsimp only [Pt.U, Pt.locs, Pt.cells, Pt.slots] at X3 l3 y3 z3 st3 hQ3
  subst l3 y3 z3
  obtain ⟨rfl, N3q, Z3, K3, f3_0, f3_1, f3_2, f3_3, f3_4, f3_5, f3_6, f3_7, f3_8, f3_9, f3_10, f3_11, f3_12, f3_13⟩ := hQ3
  have N3 := Fr.app N0 N3q
  obtain ⟨fs, hr, hrun, hended, hW, hsame⟩ := X3.leave (v := (some (.ref b3))) (fun h => by rw [Bd.returns] at h; cases h)
  refine ⟨_, _, pre0 _ ?_, hrun, hended, _, _, rfl, ?_, ⟨_, rfl⟩, hW, hsame.mono (by decide) (by decide)⟩
  · show Steps p.tables e below (s₁.setTop (mkF m 0 #[.val (.int u0)] [])) _
    refine XS.iloadN X0.here hx rfl (hb hby d_jdk_33_method_22_code_0) rfl ?_
    refine XS.bipush X0.here hx rfl (hb hby d_jdk_33_method_22_code_1) ?_
    refine XS.icmpNo X0.here hx rfl (hb hby d_jdk_33_method_22_code_3) rfl (flt hf3).1 ?_
    show Steps p.tables e below (s₁.setTop (mkF m 6 #[.val (.int u0)] [])) _
    refine XS.iloadN X0.here hx rfl (hb hby d_jdk_33_method_22_code_6) rfl ?_
    refine st1 _ ?_
    refine XS.icmpYes X1.here hx rfl (pc0 := 10) (pc' := 23) rfl (hb hby d_jdk_33_method_22_code_10) rfl (tlt hf4).2.2.1 (by decide) (by decide) ?_
    show Steps p.tables e below (T1.setTop (mkF m 23 #[.val (.int u0)] [])) _
    refine st2 _ ?_
    refine XS.dup X2.here hx rfl (hb hby d_jdk_33_method_22_code_26) rfl rfl ?_
    refine XS.iloadN X2.here hx rfl (hb hby d_jdk_33_method_22_code_27) rfl ?_
    show Steps p.tables e below (T2.setTop (mkF m 28 #[.val (.int u0)] [(.int u0), (.ref b3), (.ref b3)])) _
    refine st3.trans ?_
    show Steps p.tables e below (T3.setTop (mkF m 31 #[.val (.int u0)] [(.ref b3)])) _
    jvm_step X3.here [X3.here.top, hx, (hb hby d_jdk_33_method_22_code_31), X3.method', Bd.returns, Value.isRef, FieldType.isReference]
    first | (intro acts; rw [hr _ acts rfl rfl rfl]) | rw [hr _ _ rfl rfl rfl]
    exact Steps.refl _
  · show Q_rm_valueOf_12 Z w κ n0 u0 u1 u2 u3 u4 u5 dd v0 v1 v2 v3 v4 sm b1 b2 _ T3.heap _
    exact ⟨b3, rfl, N3, Z3, K3, f3_0, f3_1, f3_2, f3_3, f3_4, f3_5, f3_6, f3_7, f3_8, f3_9, f3_10, f3_11, f3_12, f3_13, hG2, hN2_0, hN2_1, hKN2⟩
set_option maxRecDepth 65536 in
set_option maxHeartbeats 40000000 in
theorem rm0_13 (l : Launch) (Z : State) (a0 : Array Value) (hw : ∀ d ∈ tables_1, d.before a0 Z = true) (w : Nat → Addr) (κ : Nat → ClassId) (h0 : Heap) (n0 : Nat) (Z0 : n0 ≤ h0.size) (K : Kon Z h0 w κ) (u0 u1 u2 u3 u4 u5 dd v0 v1 v2 v3 v4 sm : Int32) (hdd : ((u5 >>> ((8 : Int32) &&& 31)) ||| (1 : Int32)) = dd) (hf1 : ¬ (((u5 >>> ((5 : Int32) &&& 31)) &&& (3 : Int32)) = (1 : Int32))) (hf2 : ((u5 >>> ((5 : Int32) &&& 31)) &&& (3 : Int32)) = (2 : Int32)) (hf3 : ¬ (u0 < (-128 : Int32))) (hf4 : (127 : Int32) < u0) (hsm : (osel (decide ((u5 &&& (31 : Int32)) = (0 : Int32))) (1 : Int32) (0 : Int32)) = sm) (hv0 : (osel (decide ((u5 &&& (1 : Int32)) = (0 : Int32))) u0 (u0 + dd)) = v0) (hv1 : (osel (decide ((u5 &&& (2 : Int32)) = (0 : Int32))) u1 (u1 + dd)) = v1) (hv2 : (osel (decide ((u5 &&& (4 : Int32)) = (0 : Int32))) u2 (u2 + dd)) = v2) (hv3 : (osel (decide ((u5 &&& (8 : Int32)) = (0 : Int32))) u3 (u3 + dd)) = v3) (hv4 : (osel (decide ((u5 &&& (16 : Int32)) = (0 : Int32))) u4 (u4 + dd)) = v4) :
    OM l Z x code maxLocals ret tables_1 room_1 #[(.int u0), (.int u1), (.int u2), (.int u3), (.int u4), (.int u5)] h0 (OF (some (.int (1 : Int32))) n0) := by
  refine MetFree.of_bodySF (plainFor_of_name pn_com_example_bot_workflow_runner_botworkflowrunner_model_ProgressEqualsPinLaw) hisR ?_
  intro p e s m args below meth c s₁ Bd hml0 hP hK
  obtain ⟨rfl, hZ, hh⟩ := hP
  have hx := Bd.exec
  have hby := Bd.bytes
  have hml : c.maxLocals = 16 := hml0
  have hown : s.vm.findClass "com/example/bot_workflow_runner/botworkflowrunner/model/ProgressEqualsPinLaw" = some m.cls := findClass_of_methodNamed Bd.named
  have hnm := (name_of_methodNamed Bd.named Bd.method).1
  have X0 : Stand p l e room_1 s m #[(.int u0), (.int u1), (.int u2), (.int u3), (.int u4), (.int u5)] below meth c s₁ [] 0 0 := Stand.of_body Bd
  have e0 : s₁.heap = h0 := by rw [← hh, Bd.state]; rfl
  have N0 := Fr.nil n0
  have pre0 : ∀ t, Steps p.tables e below (s₁.setTop (mkF m 0 #[.val (.int u0), .val (.int u1), .val (.int u2), .val (.int u3), .val (.int u4), .val (.int u5), .unset, .unset, .unset, .unset, .unset, .unset, .unset, .unset, .unset, .unset] [])) t → Steps p.tables e below (s₁.setTop (entryFrame m #[(.int u0), (.int u1), (.int u2), (.int u3), (.int u4), (.int u5)] maxLocals)) t := fun t k => castTop (ef_code_IIIIII m u0 u1 u2 u3 u4 u5) k
  obtain ⟨T1, h1, X1, e1, E1, A1, D1, -, st1⟩ := newO X0 hx hZ hown (hw _ (List.mem_of_getElem? (i := 0) rfl)) (hw _ (List.mem_of_getElem? (i := 1) rfl)) (hw _ (List.mem_of_getElem? (i := 2) rfl)) e0 (g := (mkF m 9 #[.val (.int u0), .val (.int u1), .val (.int u2), .val (.int u3), .val (.int u4), .val (.int u5), .val (.int dd), .unset, .unset, .unset, .unset, .unset, .unset, .unset, .unset, .unset] [])) rfl (hb hby at_9) (by decide) (by decide)
  obtain ⟨b1, g1⟩ : ∃ z, z = h0.size := ⟨_, rfl⟩
  rw [← g1] at A1 D1 st1
  have hG1 : n0 ≤ b1 := Nat.le_trans Z0 (Nat.le_of_eq g1.symm)
  have hKN1 : ∀ i, i < 1 → w i ≠ b1 := fun i hi => by rw [g1]; exact Nat.ne_of_lt (K.lt i hi)
  have K1 := K.ext E1
  have Z1 : n0 ≤ h1.size := Nat.le_trans Z0 E1.1
  have f1_total : Fld Z h1 b1 "com/example/bot_workflow_runner/botworkflowrunner/model/Progress" "total" "I" (.int (0 : Int32)) := D1 (Or.inr (hw _ (List.mem_of_getElem? (i := 10) rfl))) (ty := .int) (by decide)
  have f1_completed : Fld Z h1 b1 "com/example/bot_workflow_runner/botworkflowrunner/model/Progress" "completed" "I" (.int (0 : Int32)) := D1 (Or.inr (hw _ (List.mem_of_getElem? (i := 12) rfl))) (ty := .int) (by decide)
  have f1_running : Fld Z h1 b1 "com/example/bot_workflow_runner/botworkflowrunner/model/Progress" "running" "I" (.int (0 : Int32)) := D1 (Or.inr (hw _ (List.mem_of_getElem? (i := 14) rfl))) (ty := .int) (by decide)
  have f1_failed : Fld Z h1 b1 "com/example/bot_workflow_runner/botworkflowrunner/model/Progress" "failed" "I" (.int (0 : Int32)) := D1 (Or.inr (hw _ (List.mem_of_getElem? (i := 16) rfl))) (ty := .int) (by decide)
  have f1_skipped : Fld Z h1 b1 "com/example/bot_workflow_runner/botworkflowrunner/model/Progress" "skipped" "I" (.int (0 : Int32)) := D1 (Or.inr (hw _ (List.mem_of_getElem? (i := 18) rfl))) (ty := .int) (by decide)
  obtain ⟨_, _, ⟨T2, L2, kk2, n2⟩, -, X2, ⟨Lc2, hQ2, l2, y2, z2⟩, st2⟩ := Jvm.Stand.specialBack X1 hx (y := (⟨"com/example/bot_workflow_runner/botworkflowrunner/model/Progress", "<init>", "(IIIII)V"⟩ : MethodName)) rfl hown (mvT hZ (hw _ (List.mem_of_getElem? (i := 3) rfl))) (mvT hZ (hw _ (List.mem_of_getElem? (i := 4) rfl))) (mvT hZ (hw _ (List.mem_of_getElem? (i := 5) rfl))) (by decide) (backOf (W := 1) (rm__init__1 l Z a0 hw w κ h1 n0 Z1 K1 u0 u1 u2 u3 u4 u5 dd v0 v1 v2 v3 v4 sm b1 A1 f1_total f1_completed f1_running f1_failed f1_skipped hG1 hKN1) hZ (hw _ (List.mem_of_getElem? (i := 5) rfl)) (hw _ (List.mem_of_getElem? (i := 2) rfl)) (by decide) (by decide)) (g := (mkF m 19 #[.val (.int u0), .val (.int u1), .val (.int u2), .val (.int u3), .val (.int u4), .val (.int u5), .val (.int dd), .unset, .unset, .unset, .unset, .unset, .unset, .unset, .unset, .unset] [(.int u4), (.int u3), (.int u2), (.int u1), (.int u0), (.ref b1), (.ref b1)])) rfl (by rw [hml]; rfl) (Steps.refl _) (a := b1) (argsL := [(.int u0), (.int u1), (.int u2), (.int u3), (.int u4)]) (rest := [(.ref b1)]) (lenOf pd_28IIIII29V rfl) rfl (by show 2 * 0 + _ ≤ _; exact Nat.le_of_eq rfl) (hb hby at_19) (fun _ _ => ⟨rfl, e1, (by decide : 1 + 0 ≤ _), (by decide : 5 + 0 ≤ _)⟩)
  dsimp only [Pt.U, Pt.locs, Pt.cells, Pt.slots] at X2 l2 y2 z2 st2 hQ2
  subst l2 y2 z2
  obtain ⟨rfl, N2q, Z2, K2, f2_0, f2_1, f2_2, f2_3, f2_4, f2_5⟩ := hQ2
  have N2 := Fr.app N0 N2q
  obtain ⟨T8, h8, X8, e8, E8, A8, D8, -, st8⟩ := newO X2 hx hZ hown (hw _ (List.mem_of_getElem? (i := 0) rfl)) (hw _ (List.mem_of_getElem? (i := 1) rfl)) (hw _ (List.mem_of_getElem? (i := 2) rfl)) rfl (g := (mkF m 113 #[.val (.int u0), .val (.int u1), .val (.int u2), .val (.int u3), .val (.int u4), .val (.int u5), .val (.int dd), .val (.ref b1), .val (.int v0), .val (.int v1), .val (.int v2), .val (.int v3), .val (.int v4), .unset, .unset, .unset] [])) rfl (hb hby at_113) (by decide) (by decide)
  obtain ⟨b2, g8⟩ : ∃ z, z = T2.heap.size := ⟨_, rfl⟩
  rw [← g8] at A8 D8 st8
  have hG8 : n0 ≤ b2 := Nat.le_trans Z2 (Nat.le_of_eq g8.symm)
  have hN8_0 : b1 ≠ b2 := by rw [g8]; exact Nat.ne_of_lt f2_0.lt
  have hKN8 : ∀ i, i < 1 → w i ≠ b2 := fun i hi => by rw [g8]; exact Nat.ne_of_lt (K2.lt i hi)
  have f8_fE_b1 := f2_0.ext E8
  have f8_fF_b1_com_example_bot_workflow_runner_botworkflowrunner_model_Progress_total := f2_1.ext E8
  have f8_fF_b1_com_example_bot_workflow_runner_botworkflowrunner_model_Progress_completed := f2_2.ext E8
  have f8_fF_b1_com_example_bot_workflow_runner_botworkflowrunner_model_Progress_running := f2_3.ext E8
  have f8_fF_b1_com_example_bot_workflow_runner_botworkflowrunner_model_Progress_failed := f2_4.ext E8
  have f8_fF_b1_com_example_bot_workflow_runner_botworkflowrunner_model_Progress_skipped := f2_5.ext E8
  have K8 := K2.ext E8
  have Z8 : n0 ≤ h8.size := Nat.le_trans Z2 E8.1
  have f8_total : Fld Z h8 b2 "com/example/bot_workflow_runner/botworkflowrunner/model/Progress" "total" "I" (.int (0 : Int32)) := D8 (Or.inr (hw _ (List.mem_of_getElem? (i := 10) rfl))) (ty := .int) (by decide)
  have f8_completed : Fld Z h8 b2 "com/example/bot_workflow_runner/botworkflowrunner/model/Progress" "completed" "I" (.int (0 : Int32)) := D8 (Or.inr (hw _ (List.mem_of_getElem? (i := 12) rfl))) (ty := .int) (by decide)
  have f8_running : Fld Z h8 b2 "com/example/bot_workflow_runner/botworkflowrunner/model/Progress" "running" "I" (.int (0 : Int32)) := D8 (Or.inr (hw _ (List.mem_of_getElem? (i := 14) rfl))) (ty := .int) (by decide)
  have f8_failed : Fld Z h8 b2 "com/example/bot_workflow_runner/botworkflowrunner/model/Progress" "failed" "I" (.int (0 : Int32)) := D8 (Or.inr (hw _ (List.mem_of_getElem? (i := 16) rfl))) (ty := .int) (by decide)
  have f8_skipped : Fld Z h8 b2 "com/example/bot_workflow_runner/botworkflowrunner/model/Progress" "skipped" "I" (.int (0 : Int32)) := D8 (Or.inr (hw _ (List.mem_of_getElem? (i := 18) rfl))) (ty := .int) (by decide)
  obtain ⟨_, _, ⟨T9, L9, kk9, n9⟩, -, X9, ⟨Lc9, hQ9, l9, y9, z9⟩, st9⟩ := Jvm.Stand.specialBack X8 hx (y := (⟨"com/example/bot_workflow_runner/botworkflowrunner/model/Progress", "<init>", "(IIIII)V"⟩ : MethodName)) rfl hown (mvT hZ (hw _ (List.mem_of_getElem? (i := 3) rfl))) (mvT hZ (hw _ (List.mem_of_getElem? (i := 4) rfl))) (mvT hZ (hw _ (List.mem_of_getElem? (i := 5) rfl))) (by decide) (backOf (W := 1) (rm__init__2 l Z a0 hw w κ h8 n0 Z8 K8 u0 u1 u2 u3 u4 u5 dd v0 v1 v2 v3 v4 sm b1 b2 f8_fE_b1 f8_fF_b1_com_example_bot_workflow_runner_botworkflowrunner_model_Progress_total f8_fF_b1_com_example_bot_workflow_runner_botworkflowrunner_model_Progress_completed f8_fF_b1_com_example_bot_workflow_runner_botworkflowrunner_model_Progress_running f8_fF_b1_com_example_bot_workflow_runner_botworkflowrunner_model_Progress_failed f8_fF_b1_com_example_bot_workflow_runner_botworkflowrunner_model_Progress_skipped A8 f8_total f8_completed f8_running f8_failed f8_skipped hG1 hKN1 hG8 hN8_0 hKN8) hZ (hw _ (List.mem_of_getElem? (i := 5) rfl)) (hw _ (List.mem_of_getElem? (i := 2) rfl)) (by decide) (by decide)) (g := (mkF m 127 #[.val (.int u0), .val (.int u1), .val (.int u2), .val (.int u3), .val (.int u4), .val (.int u5), .val (.int dd), .val (.ref b1), .val (.int v0), .val (.int v1), .val (.int v2), .val (.int v3), .val (.int v4), .unset, .unset, .unset] [(.int v4), (.int v3), (.int v2), (.int v1), (.int v0), (.ref b2), (.ref b2)])) rfl (by rw [hml]; rfl) (Steps.refl _) (a := b2) (argsL := [(.int v0), (.int v1), (.int v2), (.int v3), (.int v4)]) (rest := [(.ref b2)]) (lenOf pd_28IIIII29V rfl) rfl (by show 2 * 0 + _ ≤ _; exact Nat.le_of_eq rfl) (hb hby at_127) (fun _ _ => ⟨rfl, e8, (by decide : 2 + 0 ≤ _), (by decide : 10 + 0 ≤ _)⟩)
  dsimp only [Pt.U, Pt.locs, Pt.cells, Pt.slots] at X9 l9 y9 z9 st9 hQ9
  subst l9 y9 z9
  obtain ⟨rfl, N9q, Z9, K9, f9_0, f9_1, f9_2, f9_3, f9_4, f9_5, f9_6, f9_7, f9_8, f9_9, f9_10, f9_11⟩ := hQ9
  have N9 := Fr.app N2 N9q
  obtain ⟨_, _, ⟨T11, L11, kk11, n11⟩, -, X11, ⟨Lc11, hQ11, l11, y11, z11⟩, st11⟩ := Jvm.LawKit.callS X9 hx (y := (⟨"java/lang/Integer", "valueOf", "(I)Ljava/lang/Integer;"⟩ : MethodName)) hown (mvT hZ (hw _ (List.mem_of_getElem? (i := 26) rfl))) (mvT hZ (hw _ (List.mem_of_getElem? (i := 27) rfl))) (mvT hZ (hw _ (List.mem_of_getElem? (i := 28) rfl))) (mvT hZ (hw _ (List.mem_of_getElem? (i := 29) rfl))) (by decide) (backOf (W := 1) (rm_valueOf_12 l Z a0 hw w κ T9.heap n0 Z9 K9 u0 u1 u2 u3 u4 u5 dd v0 v1 v2 v3 v4 sm b1 b2 hf3 hf4 f9_0 f9_1 f9_2 f9_3 f9_4 f9_5 f9_6 f9_7 f9_8 f9_9 f9_10 f9_11 hG1 hKN1 hG8 hN8_0 hKN8) hZ (hw _ (List.mem_of_getElem? (i := 29) rfl)) (hw _ (List.mem_of_getElem? (i := 28) rfl)) (by decide) (by decide)) (g := (mkF m 195 #[.val (.int u0), .val (.int u1), .val (.int u2), .val (.int u3), .val (.int u4), .val (.int u5), .val (.int dd), .val (.ref b1), .val (.int v0), .val (.int v1), .val (.int v2), .val (.int v3), .val (.int v4), .val (.ref b2), .val (.int sm), .val (.int ((u5 >>> ((5 : Int32) &&& 31)) &&& (3 : Int32)))] [(.int u0), (.ref b1)])) rfl (by rw [hml]; rfl) (argsL := [(.int u0)]) (rest := [(.ref b1)]) (lenOf pd_28I29Ljava2flang2fInteger3b rfl) rfl (by show 2 * 0 + _ ≤ _; exact Nat.le_of_eq rfl) (hb hby at_195) (fun _ _ => ⟨rfl, rfl, (by decide : 2 + 1 ≤ _), (by decide : 10 + 1 ≤ _)⟩)
  dsimp only [Pt.U, Pt.locs, Pt.cells, Pt.slots] at X11 l11 y11 z11 st11 hQ11
  subst l11 y11 z11
  obtain ⟨b3, rfl, N11q, Z11, K11, f11_0, f11_1, f11_2, f11_3, f11_4, f11_5, f11_6, f11_7, f11_8, f11_9, f11_10, f11_11, f11_12, f11_13, hi11_0, hi11_1, hi11_2, hi11_3⟩ := hQ11
  have N11 := Fr.app N9 N11q
  obtain ⟨cq12, kq12, qa12, qb12, qc12⟩ := isOf hZ rfl f11_0
  obtain ⟨_, _, ⟨T12, L12, kk12, n12⟩, -, X12, ⟨Lc12, hQ12, l12, y12, z12⟩, st12⟩ := X11.virtualBack hx (y := (⟨"com/example/bot_workflow_runner/botworkflowrunner/model/Progress", "equals", "(Ljava/lang/Object;)Z"⟩ : MethodName)) (z := (⟨"com/example/bot_workflow_runner/botworkflowrunner/model/Progress", "equals", "(Ljava/lang/Object;)Z"⟩ : MethodName)) hown (mvT hZ (hw _ (List.mem_of_getElem? (i := 19) rfl))) (mvT hZ (hw _ (List.mem_of_getElem? (i := 20) rfl))) (notFace_of_selects (args := #[]) (mvT hZ (hw _ (List.mem_of_getElem? (i := 22) rfl)))) (mvT hZ (hw _ (List.mem_of_getElem? (i := 22) rfl))) (mvT hZ (hw _ (List.mem_of_getElem? (i := 21) rfl))) (by decide) (backOf (W := 0) (rm_equals_9 l Z a0 hw w κ T11.heap n0 Z11 K11 u0 u1 u2 u3 u4 u5 dd v0 v1 v2 v3 v4 sm b1 b2 b3 f11_12) hZ (hw _ (List.mem_of_getElem? (i := 23) rfl)) (hw _ (List.mem_of_getElem? (i := 2) rfl)) (by decide) (by decide)) qa12 qc12 (g := (mkF m 198 #[.val (.int u0), .val (.int u1), .val (.int u2), .val (.int u3), .val (.int u4), .val (.int u5), .val (.int dd), .val (.ref b1), .val (.int v0), .val (.int v1), .val (.int v2), .val (.int v3), .val (.int v4), .val (.ref b2), .val (.int sm), .val (.int ((u5 >>> ((5 : Int32) &&& 31)) &&& (3 : Int32)))] [(.ref b3), (.ref b1)])) rfl (by rw [hml]; rfl) (Steps.refl _) (argsL := [(.ref b3)]) (rest := []) (lenOf pd_28Ljava2flang2fObject3b29Z rfl) rfl (by show 2 * 0 + _ ≤ _; exact Nat.le_of_eq rfl) (hb hby at_198) (fun _ _ => ⟨rfl, rfl, (by decide : 3 + 0 ≤ _), (by decide : 11 + 0 ≤ _)⟩)
  dsimp only [Pt.U, Pt.locs, Pt.cells, Pt.slots] at X12 l12 y12 z12 st12 hQ12
  subst l12 y12 z12
  obtain ⟨rfl, N12q, e12⟩ := hQ12
  have N12 := Fr.app N11 N12q
  obtain ⟨cq13, kq13, qa13, qb13, qc13⟩ := isOf hZ e12 f11_0
  obtain ⟨_, _, ⟨T13, L13, kk13, n13⟩, -, X13, ⟨Lc13, hQ13, l13, y13, z13⟩, st13⟩ := X12.virtualBack hx (y := (⟨"com/example/bot_workflow_runner/botworkflowrunner/model/Progress", "equals", "(Ljava/lang/Object;)Z"⟩ : MethodName)) (z := (⟨"com/example/bot_workflow_runner/botworkflowrunner/model/Progress", "equals", "(Ljava/lang/Object;)Z"⟩ : MethodName)) hown (mvT hZ (hw _ (List.mem_of_getElem? (i := 19) rfl))) (mvT hZ (hw _ (List.mem_of_getElem? (i := 20) rfl))) (notFace_of_selects (args := #[]) (mvT hZ (hw _ (List.mem_of_getElem? (i := 22) rfl)))) (mvT hZ (hw _ (List.mem_of_getElem? (i := 22) rfl))) (mvT hZ (hw _ (List.mem_of_getElem? (i := 21) rfl))) (by decide) (backOf (W := 0) (rm_equals_10 l Z a0 hw w κ T11.heap n0 Z11 K11 u0 u1 u2 u3 u4 u5 dd v0 v1 v2 v3 v4 sm b1 b2 b3 f11_0 f11_1 f11_2 f11_3 f11_4 f11_5) hZ (hw _ (List.mem_of_getElem? (i := 23) rfl)) (hw _ (List.mem_of_getElem? (i := 2) rfl)) (by decide) (by decide)) qa13 qc13 (g := (mkF m 208 #[.val (.int u0), .val (.int u1), .val (.int u2), .val (.int u3), .val (.int u4), .val (.int u5), .val (.int dd), .val (.ref b1), .val (.int v0), .val (.int v1), .val (.int v2), .val (.int v3), .val (.int v4), .val (.ref b2), .val (.int sm), .val (.int ((u5 >>> ((5 : Int32) &&& 31)) &&& (3 : Int32)))] [(.ref b1), (.ref b1)])) rfl (by rw [hml]; rfl) (Steps.refl _) (argsL := [(.ref b1)]) (rest := []) (lenOf pd_28Ljava2flang2fObject3b29Z rfl) rfl (by show 2 * 0 + _ ≤ _; exact Nat.le_of_eq rfl) (hb hby at_208) (fun _ _ => ⟨rfl, e12, (by decide : 3 + 0 ≤ _), (by decide : 11 + 0 ≤ _)⟩)
  dsimp only [Pt.U, Pt.locs, Pt.cells, Pt.slots] at X13 l13 y13 z13 st13 hQ13
  subst l13 y13 z13
  obtain ⟨rfl, N13q, e13⟩ := hQ13
  have N13 := Fr.app N12 N13q
  obtain ⟨fs, hr, hrun, hended, hW, hsame⟩ := X13.leave (v := (some (.int (1 : Int32)))) (fun h => by rw [Bd.returns] at h; cases h)
  refine ⟨_, _, pre0 _ ?_, hrun, hended, _, _, rfl, ?_, ⟨_, rfl⟩, hW, hsame.mono (by decide) (by decide)⟩
  · show Steps p.tables e below (s₁.setTop (mkF m 0 #[.val (.int u0), .val (.int u1), .val (.int u2), .val (.int u3), .val (.int u4), .val (.int u5), .unset, .unset, .unset, .unset, .unset, .unset, .unset, .unset, .unset, .unset] [])) _
    refine XS.iload X0.here hx rfl (hb hby at_0) rfl ?_
    refine XS.bipush X0.here hx rfl (hb hby at_2) ?_
    refine XS.ishr X0.here hx rfl (hb hby at_4) rfl ?_
    show Steps p.tables e below (s₁.setTop (mkF m 5 #[.val (.int u0), .val (.int u1), .val (.int u2), .val (.int u3), .val (.int u4), .val (.int u5), .unset, .unset, .unset, .unset, .unset, .unset, .unset, .unset, .unset, .unset] [(.int (u5 >>> ((8 : Int32) &&& 31)))])) _
    refine XS.iconst X0.here hx rfl (hb hby at_5) ?_
    refine XS.ior X0.here hx rfl (hb hby at_6) rfl ?_
    show Steps p.tables e below (s₁.setTop (mkF m 7 #[.val (.int u0), .val (.int u1), .val (.int u2), .val (.int u3), .val (.int u4), .val (.int u5), .unset, .unset, .unset, .unset, .unset, .unset, .unset, .unset, .unset, .unset] [(.int ((u5 >>> ((8 : Int32) &&& 31)) ||| (1 : Int32)))])) _
    rw [hdd]
    show Steps p.tables e below (s₁.setTop (mkF m 7 #[.val (.int u0), .val (.int u1), .val (.int u2), .val (.int u3), .val (.int u4), .val (.int u5), .unset, .unset, .unset, .unset, .unset, .unset, .unset, .unset, .unset, .unset] [(.int dd)])) _
    refine XS.istore X0.here hx rfl (hb hby at_7) rfl (l' := #[.val (.int u0), .val (.int u1), .val (.int u2), .val (.int u3), .val (.int u4), .val (.int u5), .val (.int dd), .unset, .unset, .unset, .unset, .unset, .unset, .unset, .unset, .unset]) rfl ?_
    refine st1 _ ?_
    refine XS.dup X1.here hx rfl (hb hby at_12) rfl rfl ?_
    show Steps p.tables e below (T1.setTop (mkF m 13 #[.val (.int u0), .val (.int u1), .val (.int u2), .val (.int u3), .val (.int u4), .val (.int u5), .val (.int dd), .unset, .unset, .unset, .unset, .unset, .unset, .unset, .unset, .unset] [(.ref b1), (.ref b1)])) _
    refine XS.iloadN X1.here hx rfl (hb hby at_13) rfl ?_
    refine XS.iloadN X1.here hx rfl (hb hby at_14) rfl ?_
    refine XS.iloadN X1.here hx rfl (hb hby at_15) rfl ?_
    show Steps p.tables e below (T1.setTop (mkF m 16 #[.val (.int u0), .val (.int u1), .val (.int u2), .val (.int u3), .val (.int u4), .val (.int u5), .val (.int dd), .unset, .unset, .unset, .unset, .unset, .unset, .unset, .unset, .unset] [(.int u2), (.int u1), (.int u0), (.ref b1), (.ref b1)])) _
    refine XS.iloadN X1.here hx rfl (hb hby at_16) rfl ?_
    refine XS.iload X1.here hx rfl (hb hby at_17) rfl ?_
    refine st2.trans ?_
    show Steps p.tables e below (T2.setTop (mkF m 22 #[.val (.int u0), .val (.int u1), .val (.int u2), .val (.int u3), .val (.int u4), .val (.int u5), .val (.int dd), .unset, .unset, .unset, .unset, .unset, .unset, .unset, .unset, .unset] [(.ref b1)])) _
    refine XS.astore X2.here hx rfl (hb hby at_22) rfl rfl (l' := #[.val (.int u0), .val (.int u1), .val (.int u2), .val (.int u3), .val (.int u4), .val (.int u5), .val (.int dd), .val (.ref b1), .unset, .unset, .unset, .unset, .unset, .unset, .unset, .unset]) rfl ?_
    refine XS.iload X2.here hx rfl (hb hby at_24) rfl ?_
    refine XS.iconst X2.here hx rfl (hb hby at_26) ?_
    show Steps p.tables e below (T2.setTop (mkF m 27 #[.val (.int u0), .val (.int u1), .val (.int u2), .val (.int u3), .val (.int u4), .val (.int u5), .val (.int dd), .val (.ref b1), .unset, .unset, .unset, .unset, .unset, .unset, .unset, .unset] [(.int (1 : Int32)), (.int u5)])) _
    refine XS.iand X2.here hx rfl (hb hby at_27) rfl ?_
    show Steps p.tables e below (T2.setTop (mkF m 28 #[.val (.int u0), .val (.int u1), .val (.int u2), .val (.int u3), .val (.int u4), .val (.int u5), .val (.int dd), .val (.ref b1), .unset, .unset, .unset, .unset, .unset, .unset, .unset, .unset] [(.int (u5 &&& (1 : Int32)))])) _
    suffices hshd3 : Steps p.tables e below (T2.setTop (mkF m 39 #[.val (.int u0), .val (.int u1), .val (.int u2), .val (.int u3), .val (.int u4), .val (.int u5), .val (.int dd), .val (.ref b1), .unset, .unset, .unset, .unset, .unset, .unset, .unset, .unset] [(.int (osel (decide ((u5 &&& (1 : Int32)) = (0 : Int32))) u0 (u0 + dd)))])) (T13.setFrames fs) by
      by_cases hd3 : (u5 &&& (1 : Int32)) = (0 : Int32)
      · rw [show (osel (decide ((u5 &&& (1 : Int32)) = (0 : Int32))) u0 (u0 + dd)) = u0 from if_pos (decide_eq_true hd3)] at hshd3
        refine XS.ifYes X2.here hx rfl (pc0 := 28) (pc' := 38) rfl (hb hby at_28) rfl ((if0 _ _).trans (teq hd3).1) (by decide) (by decide) ?_
        show Steps p.tables e below (T2.setTop (mkF m 38 #[.val (.int u0), .val (.int u1), .val (.int u2), .val (.int u3), .val (.int u4), .val (.int u5), .val (.int dd), .val (.ref b1), .unset, .unset, .unset, .unset, .unset, .unset, .unset, .unset] [])) _
        refine XS.iloadN X2.here hx rfl (hb hby at_38) rfl ?_
        exact hshd3
      · rw [show (osel (decide ((u5 &&& (1 : Int32)) = (0 : Int32))) u0 (u0 + dd)) = (u0 + dd) from if_neg (fun hh => absurd (of_decide_eq_true hh) hd3)] at hshd3
        refine XS.ifNo X2.here hx rfl (hb hby at_28) rfl ((if0 _ _).trans (feq hd3).1) ?_
        show Steps p.tables e below (T2.setTop (mkF m 31 #[.val (.int u0), .val (.int u1), .val (.int u2), .val (.int u3), .val (.int u4), .val (.int u5), .val (.int dd), .val (.ref b1), .unset, .unset, .unset, .unset, .unset, .unset, .unset, .unset] [])) _
        refine XS.iloadN X2.here hx rfl (hb hby at_31) rfl ?_
        show Steps p.tables e below (T2.setTop (mkF m 32 #[.val (.int u0), .val (.int u1), .val (.int u2), .val (.int u3), .val (.int u4), .val (.int u5), .val (.int dd), .val (.ref b1), .unset, .unset, .unset, .unset, .unset, .unset, .unset, .unset] [(.int u0)])) _
        refine XS.iload X2.here hx rfl (hb hby at_32) rfl ?_
        show Steps p.tables e below (T2.setTop (mkF m 34 #[.val (.int u0), .val (.int u1), .val (.int u2), .val (.int u3), .val (.int u4), .val (.int u5), .val (.int dd), .val (.ref b1), .unset, .unset, .unset, .unset, .unset, .unset, .unset, .unset] [(.int dd), (.int u0)])) _
        refine XS.iadd X2.here hx rfl (hb hby at_34) rfl ?_
        show Steps p.tables e below (T2.setTop (mkF m 35 #[.val (.int u0), .val (.int u1), .val (.int u2), .val (.int u3), .val (.int u4), .val (.int u5), .val (.int dd), .val (.ref b1), .unset, .unset, .unset, .unset, .unset, .unset, .unset, .unset] [(.int (u0 + dd))])) _
        refine XS.goto X2.here hx rfl (pc0 := 35) (pc' := 39) rfl (hb hby at_35) (by decide) (by decide) ?_
        exact hshd3
    show Steps p.tables e below (T2.setTop (mkF m 39 #[.val (.int u0), .val (.int u1), .val (.int u2), .val (.int u3), .val (.int u4), .val (.int u5), .val (.int dd), .val (.ref b1), .unset, .unset, .unset, .unset, .unset, .unset, .unset, .unset] [(.int (osel (decide ((u5 &&& (1 : Int32)) = (0 : Int32))) u0 (u0 + dd)))])) _
    rw [hv0]
    show Steps p.tables e below (T2.setTop (mkF m 39 #[.val (.int u0), .val (.int u1), .val (.int u2), .val (.int u3), .val (.int u4), .val (.int u5), .val (.int dd), .val (.ref b1), .unset, .unset, .unset, .unset, .unset, .unset, .unset, .unset] [(.int v0)])) _
    refine XS.istore X2.here hx rfl (hb hby at_39) rfl (l' := #[.val (.int u0), .val (.int u1), .val (.int u2), .val (.int u3), .val (.int u4), .val (.int u5), .val (.int dd), .val (.ref b1), .val (.int v0), .unset, .unset, .unset, .unset, .unset, .unset, .unset]) rfl ?_
    refine XS.iload X2.here hx rfl (hb hby at_41) rfl ?_
    refine XS.iconst X2.here hx rfl (hb hby at_43) ?_
    show Steps p.tables e below (T2.setTop (mkF m 44 #[.val (.int u0), .val (.int u1), .val (.int u2), .val (.int u3), .val (.int u4), .val (.int u5), .val (.int dd), .val (.ref b1), .val (.int v0), .unset, .unset, .unset, .unset, .unset, .unset, .unset] [(.int (2 : Int32)), (.int u5)])) _
    refine XS.iand X2.here hx rfl (hb hby at_44) rfl ?_
    show Steps p.tables e below (T2.setTop (mkF m 45 #[.val (.int u0), .val (.int u1), .val (.int u2), .val (.int u3), .val (.int u4), .val (.int u5), .val (.int dd), .val (.ref b1), .val (.int v0), .unset, .unset, .unset, .unset, .unset, .unset, .unset] [(.int (u5 &&& (2 : Int32)))])) _
    suffices hshd4 : Steps p.tables e below (T2.setTop (mkF m 56 #[.val (.int u0), .val (.int u1), .val (.int u2), .val (.int u3), .val (.int u4), .val (.int u5), .val (.int dd), .val (.ref b1), .val (.int v0), .unset, .unset, .unset, .unset, .unset, .unset, .unset] [(.int (osel (decide ((u5 &&& (2 : Int32)) = (0 : Int32))) u1 (u1 + dd)))])) (T13.setFrames fs) by
      by_cases hd4 : (u5 &&& (2 : Int32)) = (0 : Int32)
      · rw [show (osel (decide ((u5 &&& (2 : Int32)) = (0 : Int32))) u1 (u1 + dd)) = u1 from if_pos (decide_eq_true hd4)] at hshd4
        refine XS.ifYes X2.here hx rfl (pc0 := 45) (pc' := 55) rfl (hb hby at_45) rfl ((if0 _ _).trans (teq hd4).1) (by decide) (by decide) ?_
        show Steps p.tables e below (T2.setTop (mkF m 55 #[.val (.int u0), .val (.int u1), .val (.int u2), .val (.int u3), .val (.int u4), .val (.int u5), .val (.int dd), .val (.ref b1), .val (.int v0), .unset, .unset, .unset, .unset, .unset, .unset, .unset] [])) _
        refine XS.iloadN X2.here hx rfl (hb hby at_55) rfl ?_
        exact hshd4
      · rw [show (osel (decide ((u5 &&& (2 : Int32)) = (0 : Int32))) u1 (u1 + dd)) = (u1 + dd) from if_neg (fun hh => absurd (of_decide_eq_true hh) hd4)] at hshd4
        refine XS.ifNo X2.here hx rfl (hb hby at_45) rfl ((if0 _ _).trans (feq hd4).1) ?_
        show Steps p.tables e below (T2.setTop (mkF m 48 #[.val (.int u0), .val (.int u1), .val (.int u2), .val (.int u3), .val (.int u4), .val (.int u5), .val (.int dd), .val (.ref b1), .val (.int v0), .unset, .unset, .unset, .unset, .unset, .unset, .unset] [])) _
        refine XS.iloadN X2.here hx rfl (hb hby at_48) rfl ?_
        show Steps p.tables e below (T2.setTop (mkF m 49 #[.val (.int u0), .val (.int u1), .val (.int u2), .val (.int u3), .val (.int u4), .val (.int u5), .val (.int dd), .val (.ref b1), .val (.int v0), .unset, .unset, .unset, .unset, .unset, .unset, .unset] [(.int u1)])) _
        refine XS.iload X2.here hx rfl (hb hby at_49) rfl ?_
        show Steps p.tables e below (T2.setTop (mkF m 51 #[.val (.int u0), .val (.int u1), .val (.int u2), .val (.int u3), .val (.int u4), .val (.int u5), .val (.int dd), .val (.ref b1), .val (.int v0), .unset, .unset, .unset, .unset, .unset, .unset, .unset] [(.int dd), (.int u1)])) _
        refine XS.iadd X2.here hx rfl (hb hby at_51) rfl ?_
        show Steps p.tables e below (T2.setTop (mkF m 52 #[.val (.int u0), .val (.int u1), .val (.int u2), .val (.int u3), .val (.int u4), .val (.int u5), .val (.int dd), .val (.ref b1), .val (.int v0), .unset, .unset, .unset, .unset, .unset, .unset, .unset] [(.int (u1 + dd))])) _
        refine XS.goto X2.here hx rfl (pc0 := 52) (pc' := 56) rfl (hb hby at_52) (by decide) (by decide) ?_
        exact hshd4
    show Steps p.tables e below (T2.setTop (mkF m 56 #[.val (.int u0), .val (.int u1), .val (.int u2), .val (.int u3), .val (.int u4), .val (.int u5), .val (.int dd), .val (.ref b1), .val (.int v0), .unset, .unset, .unset, .unset, .unset, .unset, .unset] [(.int (osel (decide ((u5 &&& (2 : Int32)) = (0 : Int32))) u1 (u1 + dd)))])) _
    rw [hv1]
    show Steps p.tables e below (T2.setTop (mkF m 56 #[.val (.int u0), .val (.int u1), .val (.int u2), .val (.int u3), .val (.int u4), .val (.int u5), .val (.int dd), .val (.ref b1), .val (.int v0), .unset, .unset, .unset, .unset, .unset, .unset, .unset] [(.int v1)])) _
    refine XS.istore X2.here hx rfl (hb hby at_56) rfl (l' := #[.val (.int u0), .val (.int u1), .val (.int u2), .val (.int u3), .val (.int u4), .val (.int u5), .val (.int dd), .val (.ref b1), .val (.int v0), .val (.int v1), .unset, .unset, .unset, .unset, .unset, .unset]) rfl ?_
    refine XS.iload X2.here hx rfl (hb hby at_58) rfl ?_
    refine XS.iconst X2.here hx rfl (hb hby at_60) ?_
    show Steps p.tables e below (T2.setTop (mkF m 61 #[.val (.int u0), .val (.int u1), .val (.int u2), .val (.int u3), .val (.int u4), .val (.int u5), .val (.int dd), .val (.ref b1), .val (.int v0), .val (.int v1), .unset, .unset, .unset, .unset, .unset, .unset] [(.int (4 : Int32)), (.int u5)])) _
    refine XS.iand X2.here hx rfl (hb hby at_61) rfl ?_
    show Steps p.tables e below (T2.setTop (mkF m 62 #[.val (.int u0), .val (.int u1), .val (.int u2), .val (.int u3), .val (.int u4), .val (.int u5), .val (.int dd), .val (.ref b1), .val (.int v0), .val (.int v1), .unset, .unset, .unset, .unset, .unset, .unset] [(.int (u5 &&& (4 : Int32)))])) _
    suffices hshd5 : Steps p.tables e below (T2.setTop (mkF m 73 #[.val (.int u0), .val (.int u1), .val (.int u2), .val (.int u3), .val (.int u4), .val (.int u5), .val (.int dd), .val (.ref b1), .val (.int v0), .val (.int v1), .unset, .unset, .unset, .unset, .unset, .unset] [(.int (osel (decide ((u5 &&& (4 : Int32)) = (0 : Int32))) u2 (u2 + dd)))])) (T13.setFrames fs) by
      by_cases hd5 : (u5 &&& (4 : Int32)) = (0 : Int32)
      · rw [show (osel (decide ((u5 &&& (4 : Int32)) = (0 : Int32))) u2 (u2 + dd)) = u2 from if_pos (decide_eq_true hd5)] at hshd5
        refine XS.ifYes X2.here hx rfl (pc0 := 62) (pc' := 72) rfl (hb hby at_62) rfl ((if0 _ _).trans (teq hd5).1) (by decide) (by decide) ?_
        show Steps p.tables e below (T2.setTop (mkF m 72 #[.val (.int u0), .val (.int u1), .val (.int u2), .val (.int u3), .val (.int u4), .val (.int u5), .val (.int dd), .val (.ref b1), .val (.int v0), .val (.int v1), .unset, .unset, .unset, .unset, .unset, .unset] [])) _
        refine XS.iloadN X2.here hx rfl (hb hby at_72) rfl ?_
        exact hshd5
      · rw [show (osel (decide ((u5 &&& (4 : Int32)) = (0 : Int32))) u2 (u2 + dd)) = (u2 + dd) from if_neg (fun hh => absurd (of_decide_eq_true hh) hd5)] at hshd5
        refine XS.ifNo X2.here hx rfl (hb hby at_62) rfl ((if0 _ _).trans (feq hd5).1) ?_
        show Steps p.tables e below (T2.setTop (mkF m 65 #[.val (.int u0), .val (.int u1), .val (.int u2), .val (.int u3), .val (.int u4), .val (.int u5), .val (.int dd), .val (.ref b1), .val (.int v0), .val (.int v1), .unset, .unset, .unset, .unset, .unset, .unset] [])) _
        refine XS.iloadN X2.here hx rfl (hb hby at_65) rfl ?_
        show Steps p.tables e below (T2.setTop (mkF m 66 #[.val (.int u0), .val (.int u1), .val (.int u2), .val (.int u3), .val (.int u4), .val (.int u5), .val (.int dd), .val (.ref b1), .val (.int v0), .val (.int v1), .unset, .unset, .unset, .unset, .unset, .unset] [(.int u2)])) _
        refine XS.iload X2.here hx rfl (hb hby at_66) rfl ?_
        show Steps p.tables e below (T2.setTop (mkF m 68 #[.val (.int u0), .val (.int u1), .val (.int u2), .val (.int u3), .val (.int u4), .val (.int u5), .val (.int dd), .val (.ref b1), .val (.int v0), .val (.int v1), .unset, .unset, .unset, .unset, .unset, .unset] [(.int dd), (.int u2)])) _
        refine XS.iadd X2.here hx rfl (hb hby at_68) rfl ?_
        show Steps p.tables e below (T2.setTop (mkF m 69 #[.val (.int u0), .val (.int u1), .val (.int u2), .val (.int u3), .val (.int u4), .val (.int u5), .val (.int dd), .val (.ref b1), .val (.int v0), .val (.int v1), .unset, .unset, .unset, .unset, .unset, .unset] [(.int (u2 + dd))])) _
        refine XS.goto X2.here hx rfl (pc0 := 69) (pc' := 73) rfl (hb hby at_69) (by decide) (by decide) ?_
        exact hshd5
    show Steps p.tables e below (T2.setTop (mkF m 73 #[.val (.int u0), .val (.int u1), .val (.int u2), .val (.int u3), .val (.int u4), .val (.int u5), .val (.int dd), .val (.ref b1), .val (.int v0), .val (.int v1), .unset, .unset, .unset, .unset, .unset, .unset] [(.int (osel (decide ((u5 &&& (4 : Int32)) = (0 : Int32))) u2 (u2 + dd)))])) _
    rw [hv2]
    show Steps p.tables e below (T2.setTop (mkF m 73 #[.val (.int u0), .val (.int u1), .val (.int u2), .val (.int u3), .val (.int u4), .val (.int u5), .val (.int dd), .val (.ref b1), .val (.int v0), .val (.int v1), .unset, .unset, .unset, .unset, .unset, .unset] [(.int v2)])) _
    refine XS.istore X2.here hx rfl (hb hby at_73) rfl (l' := #[.val (.int u0), .val (.int u1), .val (.int u2), .val (.int u3), .val (.int u4), .val (.int u5), .val (.int dd), .val (.ref b1), .val (.int v0), .val (.int v1), .val (.int v2), .unset, .unset, .unset, .unset, .unset]) rfl ?_
    refine XS.iload X2.here hx rfl (hb hby at_75) rfl ?_
    refine XS.bipush X2.here hx rfl (hb hby at_77) ?_
    show Steps p.tables e below (T2.setTop (mkF m 79 #[.val (.int u0), .val (.int u1), .val (.int u2), .val (.int u3), .val (.int u4), .val (.int u5), .val (.int dd), .val (.ref b1), .val (.int v0), .val (.int v1), .val (.int v2), .unset, .unset, .unset, .unset, .unset] [(.int (8 : Int32)), (.int u5)])) _
    refine XS.iand X2.here hx rfl (hb hby at_79) rfl ?_
    show Steps p.tables e below (T2.setTop (mkF m 80 #[.val (.int u0), .val (.int u1), .val (.int u2), .val (.int u3), .val (.int u4), .val (.int u5), .val (.int dd), .val (.ref b1), .val (.int v0), .val (.int v1), .val (.int v2), .unset, .unset, .unset, .unset, .unset] [(.int (u5 &&& (8 : Int32)))])) _
    suffices hshd6 : Steps p.tables e below (T2.setTop (mkF m 91 #[.val (.int u0), .val (.int u1), .val (.int u2), .val (.int u3), .val (.int u4), .val (.int u5), .val (.int dd), .val (.ref b1), .val (.int v0), .val (.int v1), .val (.int v2), .unset, .unset, .unset, .unset, .unset] [(.int (osel (decide ((u5 &&& (8 : Int32)) = (0 : Int32))) u3 (u3 + dd)))])) (T13.setFrames fs) by
      by_cases hd6 : (u5 &&& (8 : Int32)) = (0 : Int32)
      · rw [show (osel (decide ((u5 &&& (8 : Int32)) = (0 : Int32))) u3 (u3 + dd)) = u3 from if_pos (decide_eq_true hd6)] at hshd6
        refine XS.ifYes X2.here hx rfl (pc0 := 80) (pc' := 90) rfl (hb hby at_80) rfl ((if0 _ _).trans (teq hd6).1) (by decide) (by decide) ?_
        show Steps p.tables e below (T2.setTop (mkF m 90 #[.val (.int u0), .val (.int u1), .val (.int u2), .val (.int u3), .val (.int u4), .val (.int u5), .val (.int dd), .val (.ref b1), .val (.int v0), .val (.int v1), .val (.int v2), .unset, .unset, .unset, .unset, .unset] [])) _
        refine XS.iloadN X2.here hx rfl (hb hby at_90) rfl ?_
        exact hshd6
      · rw [show (osel (decide ((u5 &&& (8 : Int32)) = (0 : Int32))) u3 (u3 + dd)) = (u3 + dd) from if_neg (fun hh => absurd (of_decide_eq_true hh) hd6)] at hshd6
        refine XS.ifNo X2.here hx rfl (hb hby at_80) rfl ((if0 _ _).trans (feq hd6).1) ?_
        show Steps p.tables e below (T2.setTop (mkF m 83 #[.val (.int u0), .val (.int u1), .val (.int u2), .val (.int u3), .val (.int u4), .val (.int u5), .val (.int dd), .val (.ref b1), .val (.int v0), .val (.int v1), .val (.int v2), .unset, .unset, .unset, .unset, .unset] [])) _
        refine XS.iloadN X2.here hx rfl (hb hby at_83) rfl ?_
        show Steps p.tables e below (T2.setTop (mkF m 84 #[.val (.int u0), .val (.int u1), .val (.int u2), .val (.int u3), .val (.int u4), .val (.int u5), .val (.int dd), .val (.ref b1), .val (.int v0), .val (.int v1), .val (.int v2), .unset, .unset, .unset, .unset, .unset] [(.int u3)])) _
        refine XS.iload X2.here hx rfl (hb hby at_84) rfl ?_
        show Steps p.tables e below (T2.setTop (mkF m 86 #[.val (.int u0), .val (.int u1), .val (.int u2), .val (.int u3), .val (.int u4), .val (.int u5), .val (.int dd), .val (.ref b1), .val (.int v0), .val (.int v1), .val (.int v2), .unset, .unset, .unset, .unset, .unset] [(.int dd), (.int u3)])) _
        refine XS.iadd X2.here hx rfl (hb hby at_86) rfl ?_
        show Steps p.tables e below (T2.setTop (mkF m 87 #[.val (.int u0), .val (.int u1), .val (.int u2), .val (.int u3), .val (.int u4), .val (.int u5), .val (.int dd), .val (.ref b1), .val (.int v0), .val (.int v1), .val (.int v2), .unset, .unset, .unset, .unset, .unset] [(.int (u3 + dd))])) _
        refine XS.goto X2.here hx rfl (pc0 := 87) (pc' := 91) rfl (hb hby at_87) (by decide) (by decide) ?_
        exact hshd6
    show Steps p.tables e below (T2.setTop (mkF m 91 #[.val (.int u0), .val (.int u1), .val (.int u2), .val (.int u3), .val (.int u4), .val (.int u5), .val (.int dd), .val (.ref b1), .val (.int v0), .val (.int v1), .val (.int v2), .unset, .unset, .unset, .unset, .unset] [(.int (osel (decide ((u5 &&& (8 : Int32)) = (0 : Int32))) u3 (u3 + dd)))])) _
    rw [hv3]
    show Steps p.tables e below (T2.setTop (mkF m 91 #[.val (.int u0), .val (.int u1), .val (.int u2), .val (.int u3), .val (.int u4), .val (.int u5), .val (.int dd), .val (.ref b1), .val (.int v0), .val (.int v1), .val (.int v2), .unset, .unset, .unset, .unset, .unset] [(.int v3)])) _
    refine XS.istore X2.here hx rfl (hb hby at_91) rfl (l' := #[.val (.int u0), .val (.int u1), .val (.int u2), .val (.int u3), .val (.int u4), .val (.int u5), .val (.int dd), .val (.ref b1), .val (.int v0), .val (.int v1), .val (.int v2), .val (.int v3), .unset, .unset, .unset, .unset]) rfl ?_
    refine XS.iload X2.here hx rfl (hb hby at_93) rfl ?_
    refine XS.bipush X2.here hx rfl (hb hby at_95) ?_
    show Steps p.tables e below (T2.setTop (mkF m 97 #[.val (.int u0), .val (.int u1), .val (.int u2), .val (.int u3), .val (.int u4), .val (.int u5), .val (.int dd), .val (.ref b1), .val (.int v0), .val (.int v1), .val (.int v2), .val (.int v3), .unset, .unset, .unset, .unset] [(.int (16 : Int32)), (.int u5)])) _
    refine XS.iand X2.here hx rfl (hb hby at_97) rfl ?_
    show Steps p.tables e below (T2.setTop (mkF m 98 #[.val (.int u0), .val (.int u1), .val (.int u2), .val (.int u3), .val (.int u4), .val (.int u5), .val (.int dd), .val (.ref b1), .val (.int v0), .val (.int v1), .val (.int v2), .val (.int v3), .unset, .unset, .unset, .unset] [(.int (u5 &&& (16 : Int32)))])) _
    suffices hshd7 : Steps p.tables e below (T2.setTop (mkF m 111 #[.val (.int u0), .val (.int u1), .val (.int u2), .val (.int u3), .val (.int u4), .val (.int u5), .val (.int dd), .val (.ref b1), .val (.int v0), .val (.int v1), .val (.int v2), .val (.int v3), .unset, .unset, .unset, .unset] [(.int (osel (decide ((u5 &&& (16 : Int32)) = (0 : Int32))) u4 (u4 + dd)))])) (T13.setFrames fs) by
      by_cases hd7 : (u5 &&& (16 : Int32)) = (0 : Int32)
      · rw [show (osel (decide ((u5 &&& (16 : Int32)) = (0 : Int32))) u4 (u4 + dd)) = u4 from if_pos (decide_eq_true hd7)] at hshd7
        refine XS.ifYes X2.here hx rfl (pc0 := 98) (pc' := 109) rfl (hb hby at_98) rfl ((if0 _ _).trans (teq hd7).1) (by decide) (by decide) ?_
        show Steps p.tables e below (T2.setTop (mkF m 109 #[.val (.int u0), .val (.int u1), .val (.int u2), .val (.int u3), .val (.int u4), .val (.int u5), .val (.int dd), .val (.ref b1), .val (.int v0), .val (.int v1), .val (.int v2), .val (.int v3), .unset, .unset, .unset, .unset] [])) _
        refine XS.iload X2.here hx rfl (hb hby at_109) rfl ?_
        exact hshd7
      · rw [show (osel (decide ((u5 &&& (16 : Int32)) = (0 : Int32))) u4 (u4 + dd)) = (u4 + dd) from if_neg (fun hh => absurd (of_decide_eq_true hh) hd7)] at hshd7
        refine XS.ifNo X2.here hx rfl (hb hby at_98) rfl ((if0 _ _).trans (feq hd7).1) ?_
        show Steps p.tables e below (T2.setTop (mkF m 101 #[.val (.int u0), .val (.int u1), .val (.int u2), .val (.int u3), .val (.int u4), .val (.int u5), .val (.int dd), .val (.ref b1), .val (.int v0), .val (.int v1), .val (.int v2), .val (.int v3), .unset, .unset, .unset, .unset] [])) _
        refine XS.iload X2.here hx rfl (hb hby at_101) rfl ?_
        show Steps p.tables e below (T2.setTop (mkF m 103 #[.val (.int u0), .val (.int u1), .val (.int u2), .val (.int u3), .val (.int u4), .val (.int u5), .val (.int dd), .val (.ref b1), .val (.int v0), .val (.int v1), .val (.int v2), .val (.int v3), .unset, .unset, .unset, .unset] [(.int u4)])) _
        refine XS.iload X2.here hx rfl (hb hby at_103) rfl ?_
        show Steps p.tables e below (T2.setTop (mkF m 105 #[.val (.int u0), .val (.int u1), .val (.int u2), .val (.int u3), .val (.int u4), .val (.int u5), .val (.int dd), .val (.ref b1), .val (.int v0), .val (.int v1), .val (.int v2), .val (.int v3), .unset, .unset, .unset, .unset] [(.int dd), (.int u4)])) _
        refine XS.iadd X2.here hx rfl (hb hby at_105) rfl ?_
        show Steps p.tables e below (T2.setTop (mkF m 106 #[.val (.int u0), .val (.int u1), .val (.int u2), .val (.int u3), .val (.int u4), .val (.int u5), .val (.int dd), .val (.ref b1), .val (.int v0), .val (.int v1), .val (.int v2), .val (.int v3), .unset, .unset, .unset, .unset] [(.int (u4 + dd))])) _
        refine XS.goto X2.here hx rfl (pc0 := 106) (pc' := 111) rfl (hb hby at_106) (by decide) (by decide) ?_
        exact hshd7
    show Steps p.tables e below (T2.setTop (mkF m 111 #[.val (.int u0), .val (.int u1), .val (.int u2), .val (.int u3), .val (.int u4), .val (.int u5), .val (.int dd), .val (.ref b1), .val (.int v0), .val (.int v1), .val (.int v2), .val (.int v3), .unset, .unset, .unset, .unset] [(.int (osel (decide ((u5 &&& (16 : Int32)) = (0 : Int32))) u4 (u4 + dd)))])) _
    rw [hv4]
    show Steps p.tables e below (T2.setTop (mkF m 111 #[.val (.int u0), .val (.int u1), .val (.int u2), .val (.int u3), .val (.int u4), .val (.int u5), .val (.int dd), .val (.ref b1), .val (.int v0), .val (.int v1), .val (.int v2), .val (.int v3), .unset, .unset, .unset, .unset] [(.int v4)])) _
    refine XS.istore X2.here hx rfl (hb hby at_111) rfl (l' := #[.val (.int u0), .val (.int u1), .val (.int u2), .val (.int u3), .val (.int u4), .val (.int u5), .val (.int dd), .val (.ref b1), .val (.int v0), .val (.int v1), .val (.int v2), .val (.int v3), .val (.int v4), .unset, .unset, .unset]) rfl ?_
    refine st8 _ ?_
    refine XS.dup X8.here hx rfl (hb hby at_116) rfl rfl ?_
    show Steps p.tables e below (T8.setTop (mkF m 117 #[.val (.int u0), .val (.int u1), .val (.int u2), .val (.int u3), .val (.int u4), .val (.int u5), .val (.int dd), .val (.ref b1), .val (.int v0), .val (.int v1), .val (.int v2), .val (.int v3), .val (.int v4), .unset, .unset, .unset] [(.ref b2), (.ref b2)])) _
    refine XS.iload X8.here hx rfl (hb hby at_117) rfl ?_
    refine XS.iload X8.here hx rfl (hb hby at_119) rfl ?_
    refine XS.iload X8.here hx rfl (hb hby at_121) rfl ?_
    show Steps p.tables e below (T8.setTop (mkF m 123 #[.val (.int u0), .val (.int u1), .val (.int u2), .val (.int u3), .val (.int u4), .val (.int u5), .val (.int dd), .val (.ref b1), .val (.int v0), .val (.int v1), .val (.int v2), .val (.int v3), .val (.int v4), .unset, .unset, .unset] [(.int v2), (.int v1), (.int v0), (.ref b2), (.ref b2)])) _
    refine XS.iload X8.here hx rfl (hb hby at_123) rfl ?_
    refine XS.iload X8.here hx rfl (hb hby at_125) rfl ?_
    refine st9.trans ?_
    show Steps p.tables e below (T9.setTop (mkF m 130 #[.val (.int u0), .val (.int u1), .val (.int u2), .val (.int u3), .val (.int u4), .val (.int u5), .val (.int dd), .val (.ref b1), .val (.int v0), .val (.int v1), .val (.int v2), .val (.int v3), .val (.int v4), .unset, .unset, .unset] [(.ref b2)])) _
    refine XS.astore X9.here hx rfl (hb hby at_130) rfl rfl (l' := #[.val (.int u0), .val (.int u1), .val (.int u2), .val (.int u3), .val (.int u4), .val (.int u5), .val (.int dd), .val (.ref b1), .val (.int v0), .val (.int v1), .val (.int v2), .val (.int v3), .val (.int v4), .val (.ref b2), .unset, .unset]) rfl ?_
    refine XS.iload X9.here hx rfl (hb hby at_132) rfl ?_
    refine XS.bipush X9.here hx rfl (hb hby at_134) ?_
    show Steps p.tables e below (T9.setTop (mkF m 136 #[.val (.int u0), .val (.int u1), .val (.int u2), .val (.int u3), .val (.int u4), .val (.int u5), .val (.int dd), .val (.ref b1), .val (.int v0), .val (.int v1), .val (.int v2), .val (.int v3), .val (.int v4), .val (.ref b2), .unset, .unset] [(.int (31 : Int32)), (.int u5)])) _
    refine XS.iand X9.here hx rfl (hb hby at_136) rfl ?_
    show Steps p.tables e below (T9.setTop (mkF m 137 #[.val (.int u0), .val (.int u1), .val (.int u2), .val (.int u3), .val (.int u4), .val (.int u5), .val (.int dd), .val (.ref b1), .val (.int v0), .val (.int v1), .val (.int v2), .val (.int v3), .val (.int v4), .val (.ref b2), .unset, .unset] [(.int (u5 &&& (31 : Int32)))])) _
    suffices hshd10 : Steps p.tables e below (T9.setTop (mkF m 145 #[.val (.int u0), .val (.int u1), .val (.int u2), .val (.int u3), .val (.int u4), .val (.int u5), .val (.int dd), .val (.ref b1), .val (.int v0), .val (.int v1), .val (.int v2), .val (.int v3), .val (.int v4), .val (.ref b2), .unset, .unset] [(.int (osel (decide ((u5 &&& (31 : Int32)) = (0 : Int32))) (1 : Int32) (0 : Int32)))])) (T13.setFrames fs) by
      by_cases hd10 : (u5 &&& (31 : Int32)) = (0 : Int32)
      · rw [show (osel (decide ((u5 &&& (31 : Int32)) = (0 : Int32))) (1 : Int32) (0 : Int32)) = (1 : Int32) from if_pos (decide_eq_true hd10)] at hshd10
        refine XS.ifNo X9.here hx rfl (hb hby at_137) rfl ((if0 _ _).trans (teq hd10).2) ?_
        show Steps p.tables e below (T9.setTop (mkF m 140 #[.val (.int u0), .val (.int u1), .val (.int u2), .val (.int u3), .val (.int u4), .val (.int u5), .val (.int dd), .val (.ref b1), .val (.int v0), .val (.int v1), .val (.int v2), .val (.int v3), .val (.int v4), .val (.ref b2), .unset, .unset] [])) _
        refine XS.iconst X9.here hx rfl (hb hby at_140) ?_
        show Steps p.tables e below (T9.setTop (mkF m 141 #[.val (.int u0), .val (.int u1), .val (.int u2), .val (.int u3), .val (.int u4), .val (.int u5), .val (.int dd), .val (.ref b1), .val (.int v0), .val (.int v1), .val (.int v2), .val (.int v3), .val (.int v4), .val (.ref b2), .unset, .unset] [(.int (1 : Int32))])) _
        refine XS.goto X9.here hx rfl (pc0 := 141) (pc' := 145) rfl (hb hby at_141) (by decide) (by decide) ?_
        exact hshd10
      · rw [show (osel (decide ((u5 &&& (31 : Int32)) = (0 : Int32))) (1 : Int32) (0 : Int32)) = (0 : Int32) from if_neg (fun hh => absurd (of_decide_eq_true hh) hd10)] at hshd10
        refine XS.ifYes X9.here hx rfl (pc0 := 137) (pc' := 144) rfl (hb hby at_137) rfl ((if0 _ _).trans (feq hd10).2) (by decide) (by decide) ?_
        show Steps p.tables e below (T9.setTop (mkF m 144 #[.val (.int u0), .val (.int u1), .val (.int u2), .val (.int u3), .val (.int u4), .val (.int u5), .val (.int dd), .val (.ref b1), .val (.int v0), .val (.int v1), .val (.int v2), .val (.int v3), .val (.int v4), .val (.ref b2), .unset, .unset] [])) _
        refine XS.iconst X9.here hx rfl (hb hby at_144) ?_
        exact hshd10
    show Steps p.tables e below (T9.setTop (mkF m 145 #[.val (.int u0), .val (.int u1), .val (.int u2), .val (.int u3), .val (.int u4), .val (.int u5), .val (.int dd), .val (.ref b1), .val (.int v0), .val (.int v1), .val (.int v2), .val (.int v3), .val (.int v4), .val (.ref b2), .unset, .unset] [(.int (osel (decide ((u5 &&& (31 : Int32)) = (0 : Int32))) (1 : Int32) (0 : Int32)))])) _
    rw [hsm]
    show Steps p.tables e below (T9.setTop (mkF m 145 #[.val (.int u0), .val (.int u1), .val (.int u2), .val (.int u3), .val (.int u4), .val (.int u5), .val (.int dd), .val (.ref b1), .val (.int v0), .val (.int v1), .val (.int v2), .val (.int v3), .val (.int v4), .val (.ref b2), .unset, .unset] [(.int sm)])) _
    refine XS.istore X9.here hx rfl (hb hby at_145) rfl (l' := #[.val (.int u0), .val (.int u1), .val (.int u2), .val (.int u3), .val (.int u4), .val (.int u5), .val (.int dd), .val (.ref b1), .val (.int v0), .val (.int v1), .val (.int v2), .val (.int v3), .val (.int v4), .val (.ref b2), .val (.int sm), .unset]) rfl ?_
    refine XS.iload X9.here hx rfl (hb hby at_147) rfl ?_
    refine XS.iconst X9.here hx rfl (hb hby at_149) ?_
    show Steps p.tables e below (T9.setTop (mkF m 150 #[.val (.int u0), .val (.int u1), .val (.int u2), .val (.int u3), .val (.int u4), .val (.int u5), .val (.int dd), .val (.ref b1), .val (.int v0), .val (.int v1), .val (.int v2), .val (.int v3), .val (.int v4), .val (.ref b2), .val (.int sm), .unset] [(.int (5 : Int32)), (.int u5)])) _
    refine XS.ishr X9.here hx rfl (hb hby at_150) rfl ?_
    refine XS.iconst X9.here hx rfl (hb hby at_151) ?_
    refine XS.iand X9.here hx rfl (hb hby at_152) rfl ?_
    show Steps p.tables e below (T9.setTop (mkF m 153 #[.val (.int u0), .val (.int u1), .val (.int u2), .val (.int u3), .val (.int u4), .val (.int u5), .val (.int dd), .val (.ref b1), .val (.int v0), .val (.int v1), .val (.int v2), .val (.int v3), .val (.int v4), .val (.ref b2), .val (.int sm), .unset] [(.int ((u5 >>> ((5 : Int32) &&& 31)) &&& (3 : Int32)))])) _
    refine XS.istore X9.here hx rfl (hb hby at_153) rfl (l' := #[.val (.int u0), .val (.int u1), .val (.int u2), .val (.int u3), .val (.int u4), .val (.int u5), .val (.int dd), .val (.ref b1), .val (.int v0), .val (.int v1), .val (.int v2), .val (.int v3), .val (.int v4), .val (.ref b2), .val (.int sm), .val (.int ((u5 >>> ((5 : Int32) &&& 31)) &&& (3 : Int32)))]) rfl ?_
    refine XS.iload X9.here hx rfl (hb hby at_155) rfl ?_
    refine XS.iconst X9.here hx rfl (hb hby at_157) ?_
    show Steps p.tables e below (T9.setTop (mkF m 158 #[.val (.int u0), .val (.int u1), .val (.int u2), .val (.int u3), .val (.int u4), .val (.int u5), .val (.int dd), .val (.ref b1), .val (.int v0), .val (.int v1), .val (.int v2), .val (.int v3), .val (.int v4), .val (.ref b2), .val (.int sm), .val (.int ((u5 >>> ((5 : Int32) &&& 31)) &&& (3 : Int32)))] [(.int (1 : Int32)), (.int ((u5 >>> ((5 : Int32) &&& 31)) &&& (3 : Int32)))])) _
    refine XS.icmpYes X9.here hx rfl (pc0 := 158) (pc' := 186) rfl (hb hby at_158) rfl (feq hf1).2 (by decide) (by decide) ?_
    refine XS.iload X9.here hx rfl (hb hby at_186) rfl ?_
    refine XS.iconst X9.here hx rfl (hb hby at_188) ?_
    show Steps p.tables e below (T9.setTop (mkF m 189 #[.val (.int u0), .val (.int u1), .val (.int u2), .val (.int u3), .val (.int u4), .val (.int u5), .val (.int dd), .val (.ref b1), .val (.int v0), .val (.int v1), .val (.int v2), .val (.int v3), .val (.int v4), .val (.ref b2), .val (.int sm), .val (.int ((u5 >>> ((5 : Int32) &&& 31)) &&& (3 : Int32)))] [(.int (2 : Int32)), (.int ((u5 >>> ((5 : Int32) &&& 31)) &&& (3 : Int32)))])) _
    refine XS.icmpNo X9.here hx rfl (hb hby at_189) rfl (teq hf2).2 ?_
    refine XS.aload X9.here hx rfl (hb hby at_192) rfl rfl ?_
    refine XS.iloadN X9.here hx rfl (hb hby at_194) rfl ?_
    show Steps p.tables e below (T9.setTop (mkF m 195 #[.val (.int u0), .val (.int u1), .val (.int u2), .val (.int u3), .val (.int u4), .val (.int u5), .val (.int dd), .val (.ref b1), .val (.int v0), .val (.int v1), .val (.int v2), .val (.int v3), .val (.int v4), .val (.ref b2), .val (.int sm), .val (.int ((u5 >>> ((5 : Int32) &&& 31)) &&& (3 : Int32)))] [(.int u0), (.ref b1)])) _
    refine st11 _ ?_
    refine st12.trans ?_
    refine XS.ifNo X12.here hx rfl (hb hby at_201) rfl ((if0 _ _).trans (teq (by decide : (0 : Int32) = (0 : Int32))).2) ?_
    show Steps p.tables e below (T12.setTop (mkF m 204 #[.val (.int u0), .val (.int u1), .val (.int u2), .val (.int u3), .val (.int u4), .val (.int u5), .val (.int dd), .val (.ref b1), .val (.int v0), .val (.int v1), .val (.int v2), .val (.int v3), .val (.int v4), .val (.ref b2), .val (.int sm), .val (.int ((u5 >>> ((5 : Int32) &&& 31)) &&& (3 : Int32)))] [])) _
    refine XS.aload X12.here hx rfl (hb hby at_204) rfl rfl ?_
    refine XS.aload X12.here hx rfl (hb hby at_206) rfl rfl ?_
    refine st13.trans ?_
    show Steps p.tables e below (T13.setTop (mkF m 211 #[.val (.int u0), .val (.int u1), .val (.int u2), .val (.int u3), .val (.int u4), .val (.int u5), .val (.int dd), .val (.ref b1), .val (.int v0), .val (.int v1), .val (.int v2), .val (.int v3), .val (.int v4), .val (.ref b2), .val (.int sm), .val (.int ((u5 >>> ((5 : Int32) &&& 31)) &&& (3 : Int32)))] [(.int (1 : Int32))])) _
    refine XS.ifNo X13.here hx rfl (hb hby at_211) rfl ((if0 _ _).trans (feq (by decide : ¬ ((1 : Int32) = (0 : Int32)))).1) ?_
    refine XS.iconst X13.here hx rfl (hb hby at_214) ?_
    refine XS.goto X13.here hx rfl (pc0 := 215) (pc' := 219) rfl (hb hby at_215) (by decide) (by decide) ?_
    show Steps p.tables e below (T13.setTop (mkF m 219 #[.val (.int u0), .val (.int u1), .val (.int u2), .val (.int u3), .val (.int u4), .val (.int u5), .val (.int dd), .val (.ref b1), .val (.int v0), .val (.int v1), .val (.int v2), .val (.int v3), .val (.int v4), .val (.ref b2), .val (.int sm), .val (.int ((u5 >>> ((5 : Int32) &&& 31)) &&& (3 : Int32)))] [(.int (1 : Int32))])) _
    exact retN X13 hx (t := .boolean) Bd.returns (by simp) (hb hby at_219) hr
  · exact ⟨rfl, N13⟩
set_option maxRecDepth 65536 in
set_option maxHeartbeats 40000000 in
theorem rm_equals_14 (l : Launch) (Z : State) (a0 : Array Value) (hw : ∀ d ∈ tables_1, d.before a0 Z = true) (w : Nat → Addr) (κ : Nat → ClassId) (h0 : Heap) (n0 : Nat) (Z0 : n0 ≤ h0.size) (K : Kon Z h0 w κ) (u0 u1 u2 u3 u4 u5 dd v0 v1 v2 v3 v4 sm : Int32) (b1 : Addr) (b2 : Addr) (yI : Addr) (fE_yI : Exa Z h0 yI "java/lang/Integer") :
    OM l Z (⟨"com/example/bot_workflow_runner/botworkflowrunner/model/Progress", "equals", "(Ljava/lang/Object;)Z"⟩ : MethodName) prog_31_method_10_code 3 (some .boolean) [] ({ frames := 0, cells := 0, slots := 0, locals := 0 } : Room) #[(.ref b1), (.ref yI)] h0 (OP (some (.int (0 : Int32))) n0 h0) := by
  refine MetFree.of_bodySF (plainFor_of_name pn_com_example_bot_workflow_runner_botworkflowrunner_model_Progress) hisR ?_
  intro p e s m args below meth c s₁ Bd hml0 hP hK
  obtain ⟨rfl, hZ, hh⟩ := hP
  have hx := Bd.exec
  have hby := Bd.bytes
  have hml : c.maxLocals = 3 := hml0
  have hown : s.vm.findClass "com/example/bot_workflow_runner/botworkflowrunner/model/Progress" = some m.cls := findClass_of_methodNamed Bd.named
  have hnm := (name_of_methodNamed Bd.named Bd.method).1
  have X0 : Stand p l e ({ frames := 0, cells := 0, slots := 0, locals := 0 } : Room) s m #[(.ref b1), (.ref yI)] below meth c s₁ [] 0 0 := Stand.of_body Bd
  have e0 : s₁.heap = h0 := by rw [← hh, Bd.state]; rfl
  have N0 := Fr.nil n0
  have pre0 : ∀ t, Steps p.tables e below (s₁.setTop (mkF m 0 #[.val (.ref b1), .val (.ref yI), .unset] [])) t → Steps p.tables e below (s₁.setTop (entryFrame m #[(.ref b1), (.ref yI)] 3)) t := fun t k => castTop (ef_prog_31_method_10_code_RR m b1 yI) k
  obtain ⟨T1, X1, e1, st1⟩ := instNo X0 hx hZ hown (hw _ (List.mem_of_getElem? (i := 24) rfl)) e0 fE_yI (own_no (hw _ (List.mem_of_getElem? (i := 33) rfl)) (hw _ (List.mem_of_getElem? (i := 1) rfl)) (NS.step (hw _ (List.mem_of_getElem? (i := 33) rfl)) (NS.step (hw _ (List.mem_of_getElem? (i := 34) rfl)) (own_root (hw _ (List.mem_of_getElem? (i := 35) rfl)) (hw _ (List.mem_of_getElem? (i := 1) rfl)) (by decide)) (by decide)) (by decide)) (by decide)) (g := (mkF m 1 #[.val (.ref b1), .val (.ref yI), .unset] [(.ref yI)])) rfl rfl (hb hby d_prog_31_method_10_code_1)
  obtain ⟨fs, hr, hrun, hended, hW, hsame⟩ := X1.leave (v := (some (.int (0 : Int32)))) (fun h => by rw [Bd.returns] at h; cases h)
  refine ⟨_, _, pre0 _ ?_, hrun, hended, _, _, rfl, ?_, ⟨_, rfl⟩, hW, hsame.mono (by decide) (by decide)⟩
  · show Steps p.tables e below (s₁.setTop (mkF m 0 #[.val (.ref b1), .val (.ref yI), .unset] [])) _
    refine XS.aloadN X0.here hx rfl (hb hby d_prog_31_method_10_code_0) rfl rfl ?_
    refine st1 _ ?_
    refine XS.ifNo X1.here hx rfl (hb hby d_prog_31_method_10_code_4) rfl ((if0 _ _).trans (teq (by decide : (0 : Int32) = (0 : Int32))).2) ?_
    show Steps p.tables e below (T1.setTop (mkF m 7 #[.val (.ref b1), .val (.ref yI), .unset] [])) _
    refine XS.iconst X1.here hx rfl (hb hby d_prog_31_method_10_code_7) ?_
    show Steps p.tables e below (T1.setTop (mkF m 8 #[.val (.ref b1), .val (.ref yI), .unset] [(.int (0 : Int32))])) _
    exact retN X1 hx (t := .boolean) Bd.returns (by simp) (hb hby d_prog_31_method_10_code_8) hr
  · exact ⟨rfl, N0, e1⟩
set_option maxRecDepth 65536 in
set_option maxHeartbeats 40000000 in
theorem rm_equals_15 (l : Launch) (Z : State) (a0 : Array Value) (hw : ∀ d ∈ tables_1, d.before a0 Z = true) (w : Nat → Addr) (κ : Nat → ClassId) (h0 : Heap) (n0 : Nat) (Z0 : n0 ≤ h0.size) (K : Kon Z h0 w κ) (u0 u1 u2 u3 u4 u5 dd v0 v1 v2 v3 v4 sm : Int32) (b1 : Addr) (b2 : Addr) (yI : Addr) (fE_b1 : Exa Z h0 b1 "com/example/bot_workflow_runner/botworkflowrunner/model/Progress") (fF_b1_com_example_bot_workflow_runner_botworkflowrunner_model_Progress_total : Fld Z h0 b1 "com/example/bot_workflow_runner/botworkflowrunner/model/Progress" "total" "I" (.int u0)) (fF_b1_com_example_bot_workflow_runner_botworkflowrunner_model_Progress_completed : Fld Z h0 b1 "com/example/bot_workflow_runner/botworkflowrunner/model/Progress" "completed" "I" (.int u1)) (fF_b1_com_example_bot_workflow_runner_botworkflowrunner_model_Progress_running : Fld Z h0 b1 "com/example/bot_workflow_runner/botworkflowrunner/model/Progress" "running" "I" (.int u2)) (fF_b1_com_example_bot_workflow_runner_botworkflowrunner_model_Progress_failed : Fld Z h0 b1 "com/example/bot_workflow_runner/botworkflowrunner/model/Progress" "failed" "I" (.int u3)) (fF_b1_com_example_bot_workflow_runner_botworkflowrunner_model_Progress_skipped : Fld Z h0 b1 "com/example/bot_workflow_runner/botworkflowrunner/model/Progress" "skipped" "I" (.int u4)) :
    OM l Z (⟨"com/example/bot_workflow_runner/botworkflowrunner/model/Progress", "equals", "(Ljava/lang/Object;)Z"⟩ : MethodName) prog_31_method_10_code 3 (some .boolean) [] ({ frames := 0, cells := 0, slots := 0, locals := 0 } : Room) #[(.ref b1), (.ref b1)] h0 (OP (some (.int (1 : Int32))) n0 h0) := by
  refine MetFree.of_bodySF (plainFor_of_name pn_com_example_bot_workflow_runner_botworkflowrunner_model_Progress) hisR ?_
  intro p e s m args below meth c s₁ Bd hml0 hP hK
  obtain ⟨rfl, hZ, hh⟩ := hP
  have hx := Bd.exec
  have hby := Bd.bytes
  have hml : c.maxLocals = 3 := hml0
  have hown : s.vm.findClass "com/example/bot_workflow_runner/botworkflowrunner/model/Progress" = some m.cls := findClass_of_methodNamed Bd.named
  have hnm := (name_of_methodNamed Bd.named Bd.method).1
  have X0 : Stand p l e ({ frames := 0, cells := 0, slots := 0, locals := 0 } : Room) s m #[(.ref b1), (.ref b1)] below meth c s₁ [] 0 0 := Stand.of_body Bd
  have e0 : s₁.heap = h0 := by rw [← hh, Bd.state]; rfl
  have N0 := Fr.nil n0
  have pre0 : ∀ t, Steps p.tables e below (s₁.setTop (mkF m 0 #[.val (.ref b1), .val (.ref b1), .unset] [])) t → Steps p.tables e below (s₁.setTop (entryFrame m #[(.ref b1), (.ref b1)] 3)) t := fun t k => castTop (ef_prog_31_method_10_code_RR m b1 b1) k
  obtain ⟨T1, X1, e1, st1⟩ := instY X0 hx hZ hown (hw _ (List.mem_of_getElem? (i := 24) rfl)) e0 (Ins.self fE_b1) (g := (mkF m 1 #[.val (.ref b1), .val (.ref b1), .unset] [(.ref b1)])) rfl rfl (hb hby d_prog_31_method_10_code_1)
  obtain ⟨T2, X2, e2, st2⟩ := castY X1 hx hZ hown (hw _ (List.mem_of_getElem? (i := 24) rfl)) e1 (Ins.self fE_b1) (g := (mkF m 10 #[.val (.ref b1), .val (.ref b1), .unset] [(.ref b1)])) rfl rfl (hb hby d_prog_31_method_10_code_10)
  obtain ⟨T3, X3, e3, st3⟩ := getF X2 hx hZ hown (host := "") (Or.inl (hw _ (List.mem_of_getElem? (i := 9) rfl))) Via.refl e2 fF_b1_com_example_bot_workflow_runner_botworkflowrunner_model_Progress_total (g := (mkF m 15 #[.val (.ref b1), .val (.ref b1), .val (.ref b1)] [(.ref b1)])) rfl rfl (hb hby d_prog_31_method_10_code_15)
  obtain ⟨T4, X4, e4, st4⟩ := getF X3 hx hZ hown (host := "") (Or.inl (hw _ (List.mem_of_getElem? (i := 9) rfl))) Via.refl e3 fF_b1_com_example_bot_workflow_runner_botworkflowrunner_model_Progress_total (g := (mkF m 19 #[.val (.ref b1), .val (.ref b1), .val (.ref b1)] [(.ref b1), (.int u0)])) rfl rfl (hb hby d_prog_31_method_10_code_19)
  obtain ⟨T5, X5, e5, st5⟩ := getF X4 hx hZ hown (host := "") (Or.inl (hw _ (List.mem_of_getElem? (i := 11) rfl))) Via.refl e4 fF_b1_com_example_bot_workflow_runner_botworkflowrunner_model_Progress_completed (g := (mkF m 26 #[.val (.ref b1), .val (.ref b1), .val (.ref b1)] [(.ref b1)])) rfl rfl (hb hby d_prog_31_method_10_code_26)
  obtain ⟨T6, X6, e6, st6⟩ := getF X5 hx hZ hown (host := "") (Or.inl (hw _ (List.mem_of_getElem? (i := 11) rfl))) Via.refl e5 fF_b1_com_example_bot_workflow_runner_botworkflowrunner_model_Progress_completed (g := (mkF m 30 #[.val (.ref b1), .val (.ref b1), .val (.ref b1)] [(.ref b1), (.int u1)])) rfl rfl (hb hby d_prog_31_method_10_code_30)
  obtain ⟨T7, X7, e7, st7⟩ := getF X6 hx hZ hown (host := "") (Or.inl (hw _ (List.mem_of_getElem? (i := 13) rfl))) Via.refl e6 fF_b1_com_example_bot_workflow_runner_botworkflowrunner_model_Progress_running (g := (mkF m 37 #[.val (.ref b1), .val (.ref b1), .val (.ref b1)] [(.ref b1)])) rfl rfl (hb hby d_prog_31_method_10_code_37)
  obtain ⟨T8, X8, e8, st8⟩ := getF X7 hx hZ hown (host := "") (Or.inl (hw _ (List.mem_of_getElem? (i := 13) rfl))) Via.refl e7 fF_b1_com_example_bot_workflow_runner_botworkflowrunner_model_Progress_running (g := (mkF m 41 #[.val (.ref b1), .val (.ref b1), .val (.ref b1)] [(.ref b1), (.int u2)])) rfl rfl (hb hby d_prog_31_method_10_code_41)
  obtain ⟨T9, X9, e9, st9⟩ := getF X8 hx hZ hown (host := "") (Or.inl (hw _ (List.mem_of_getElem? (i := 15) rfl))) Via.refl e8 fF_b1_com_example_bot_workflow_runner_botworkflowrunner_model_Progress_failed (g := (mkF m 48 #[.val (.ref b1), .val (.ref b1), .val (.ref b1)] [(.ref b1)])) rfl rfl (hb hby d_prog_31_method_10_code_48)
  obtain ⟨T10, X10, e10, st10⟩ := getF X9 hx hZ hown (host := "") (Or.inl (hw _ (List.mem_of_getElem? (i := 15) rfl))) Via.refl e9 fF_b1_com_example_bot_workflow_runner_botworkflowrunner_model_Progress_failed (g := (mkF m 52 #[.val (.ref b1), .val (.ref b1), .val (.ref b1)] [(.ref b1), (.int u3)])) rfl rfl (hb hby d_prog_31_method_10_code_52)
  obtain ⟨T11, X11, e11, st11⟩ := getF X10 hx hZ hown (host := "") (Or.inl (hw _ (List.mem_of_getElem? (i := 17) rfl))) Via.refl e10 fF_b1_com_example_bot_workflow_runner_botworkflowrunner_model_Progress_skipped (g := (mkF m 59 #[.val (.ref b1), .val (.ref b1), .val (.ref b1)] [(.ref b1)])) rfl rfl (hb hby d_prog_31_method_10_code_59)
  obtain ⟨T12, X12, e12, st12⟩ := getF X11 hx hZ hown (host := "") (Or.inl (hw _ (List.mem_of_getElem? (i := 17) rfl))) Via.refl e11 fF_b1_com_example_bot_workflow_runner_botworkflowrunner_model_Progress_skipped (g := (mkF m 63 #[.val (.ref b1), .val (.ref b1), .val (.ref b1)] [(.ref b1), (.int u4)])) rfl rfl (hb hby d_prog_31_method_10_code_63)
  obtain ⟨fs, hr, hrun, hended, hW, hsame⟩ := X12.leave (v := (some (.int (1 : Int32)))) (fun h => by rw [Bd.returns] at h; cases h)
  refine ⟨_, _, pre0 _ ?_, hrun, hended, _, _, rfl, ?_, ⟨_, rfl⟩, hW, hsame.mono (by decide) (by decide)⟩
  · show Steps p.tables e below (s₁.setTop (mkF m 0 #[.val (.ref b1), .val (.ref b1), .unset] [])) _
    refine XS.aloadN X0.here hx rfl (hb hby d_prog_31_method_10_code_0) rfl rfl ?_
    refine st1 _ ?_
    refine XS.ifYes X1.here hx rfl (pc0 := 4) (pc' := 9) rfl (hb hby d_prog_31_method_10_code_4) rfl ((if0 _ _).trans (feq (by decide : ¬ ((1 : Int32) = (0 : Int32)))).2) (by decide) (by decide) ?_
    show Steps p.tables e below (T1.setTop (mkF m 9 #[.val (.ref b1), .val (.ref b1), .unset] [])) _
    refine XS.aloadN X1.here hx rfl (hb hby d_prog_31_method_10_code_9) rfl rfl ?_
    refine st2 _ ?_
    refine XS.astoreN X2.here hx rfl (hb hby d_prog_31_method_10_code_13) rfl rfl (l' := #[.val (.ref b1), .val (.ref b1), .val (.ref b1)]) rfl ?_
    show Steps p.tables e below (T2.setTop (mkF m 14 #[.val (.ref b1), .val (.ref b1), .val (.ref b1)] [])) _
    refine XS.aloadN X2.here hx rfl (hb hby d_prog_31_method_10_code_14) rfl rfl ?_
    refine st3 _ ?_
    refine XS.aloadN X3.here hx rfl (hb hby d_prog_31_method_10_code_18) rfl rfl ?_
    show Steps p.tables e below (T3.setTop (mkF m 19 #[.val (.ref b1), .val (.ref b1), .val (.ref b1)] [(.ref b1), (.int u0)])) _
    refine st4 _ ?_
    refine XS.icmpNo X4.here hx rfl (hb hby d_prog_31_method_10_code_22) rfl (teq (rfl : u0 = u0)).2 ?_
    refine XS.aloadN X4.here hx rfl (hb hby d_prog_31_method_10_code_25) rfl rfl ?_
    show Steps p.tables e below (T4.setTop (mkF m 26 #[.val (.ref b1), .val (.ref b1), .val (.ref b1)] [(.ref b1)])) _
    refine st5 _ ?_
    refine XS.aloadN X5.here hx rfl (hb hby d_prog_31_method_10_code_29) rfl rfl ?_
    refine st6 _ ?_
    show Steps p.tables e below (T6.setTop (mkF m 33 #[.val (.ref b1), .val (.ref b1), .val (.ref b1)] [(.int u1), (.int u1)])) _
    refine XS.icmpNo X6.here hx rfl (hb hby d_prog_31_method_10_code_33) rfl (teq (rfl : u1 = u1)).2 ?_
    refine XS.aloadN X6.here hx rfl (hb hby d_prog_31_method_10_code_36) rfl rfl ?_
    refine st7 _ ?_
    show Steps p.tables e below (T7.setTop (mkF m 40 #[.val (.ref b1), .val (.ref b1), .val (.ref b1)] [(.int u2)])) _
    refine XS.aloadN X7.here hx rfl (hb hby d_prog_31_method_10_code_40) rfl rfl ?_
    refine st8 _ ?_
    refine XS.icmpNo X8.here hx rfl (hb hby d_prog_31_method_10_code_44) rfl (teq (rfl : u2 = u2)).2 ?_
    show Steps p.tables e below (T8.setTop (mkF m 47 #[.val (.ref b1), .val (.ref b1), .val (.ref b1)] [])) _
    refine XS.aloadN X8.here hx rfl (hb hby d_prog_31_method_10_code_47) rfl rfl ?_
    refine st9 _ ?_
    refine XS.aloadN X9.here hx rfl (hb hby d_prog_31_method_10_code_51) rfl rfl ?_
    show Steps p.tables e below (T9.setTop (mkF m 52 #[.val (.ref b1), .val (.ref b1), .val (.ref b1)] [(.ref b1), (.int u3)])) _
    refine st10 _ ?_
    refine XS.icmpNo X10.here hx rfl (hb hby d_prog_31_method_10_code_55) rfl (teq (rfl : u3 = u3)).2 ?_
    refine XS.aloadN X10.here hx rfl (hb hby d_prog_31_method_10_code_58) rfl rfl ?_
    show Steps p.tables e below (T10.setTop (mkF m 59 #[.val (.ref b1), .val (.ref b1), .val (.ref b1)] [(.ref b1)])) _
    refine st11 _ ?_
    refine XS.aloadN X11.here hx rfl (hb hby d_prog_31_method_10_code_62) rfl rfl ?_
    refine st12 _ ?_
    show Steps p.tables e below (T12.setTop (mkF m 66 #[.val (.ref b1), .val (.ref b1), .val (.ref b1)] [(.int u4), (.int u4)])) _
    refine XS.icmpNo X12.here hx rfl (hb hby d_prog_31_method_10_code_66) rfl (teq (rfl : u4 = u4)).2 ?_
    refine XS.iconst X12.here hx rfl (hb hby d_prog_31_method_10_code_69) ?_
    refine XS.goto X12.here hx rfl (pc0 := 70) (pc' := 74) rfl (hb hby d_prog_31_method_10_code_70) (by decide) (by decide) ?_
    show Steps p.tables e below (T12.setTop (mkF m 74 #[.val (.ref b1), .val (.ref b1), .val (.ref b1)] [(.int (1 : Int32))])) _
    exact retN X12 hx (t := .boolean) Bd.returns (by simp) (hb hby d_prog_31_method_10_code_74) hr
  · exact ⟨rfl, N0, e12⟩
set_option maxRecDepth 65536 in
set_option maxHeartbeats 40000000 in
theorem rm0_16 (l : Launch) (Z : State) (a0 : Array Value) (hw : ∀ d ∈ tables_1, d.before a0 Z = true) (w : Nat → Addr) (κ : Nat → ClassId) (h0 : Heap) (n0 : Nat) (Z0 : n0 ≤ h0.size) (K : Kon Z h0 w κ) (u0 u1 u2 u3 u4 u5 dd v0 v1 v2 v3 v4 sm : Int32) (hdd : ((u5 >>> ((8 : Int32) &&& 31)) ||| (1 : Int32)) = dd) (hf1 : ¬ (((u5 >>> ((5 : Int32) &&& 31)) &&& (3 : Int32)) = (1 : Int32))) (hf2 : ((u5 >>> ((5 : Int32) &&& 31)) &&& (3 : Int32)) = (2 : Int32)) (hf3 : ¬ (u0 < (-128 : Int32))) (hf4 : ¬ ((127 : Int32) < u0)) (hsm : (osel (decide ((u5 &&& (31 : Int32)) = (0 : Int32))) (1 : Int32) (0 : Int32)) = sm) (hv0 : (osel (decide ((u5 &&& (1 : Int32)) = (0 : Int32))) u0 (u0 + dd)) = v0) (hv1 : (osel (decide ((u5 &&& (2 : Int32)) = (0 : Int32))) u1 (u1 + dd)) = v1) (hv2 : (osel (decide ((u5 &&& (4 : Int32)) = (0 : Int32))) u2 (u2 + dd)) = v2) (hv3 : (osel (decide ((u5 &&& (8 : Int32)) = (0 : Int32))) u3 (u3 + dd)) = v3) (hv4 : (osel (decide ((u5 &&& (16 : Int32)) = (0 : Int32))) u4 (u4 + dd)) = v4) :
    OM l Z x code maxLocals ret tables_1 room_1 #[(.int u0), (.int u1), (.int u2), (.int u3), (.int u4), (.int u5)] h0 (OF (some (.int (1 : Int32))) n0) := by
  refine MetFree.of_bodySF (plainFor_of_name pn_com_example_bot_workflow_runner_botworkflowrunner_model_ProgressEqualsPinLaw) hisR ?_
  intro p e s m args below meth c s₁ Bd hml0 hP hK
  obtain ⟨rfl, hZ, hh⟩ := hP
  have hx := Bd.exec
  have hby := Bd.bytes
  have hml : c.maxLocals = 16 := hml0
  have hown : s.vm.findClass "com/example/bot_workflow_runner/botworkflowrunner/model/ProgressEqualsPinLaw" = some m.cls := findClass_of_methodNamed Bd.named
  have hnm := (name_of_methodNamed Bd.named Bd.method).1
  have X0 : Stand p l e room_1 s m #[(.int u0), (.int u1), (.int u2), (.int u3), (.int u4), (.int u5)] below meth c s₁ [] 0 0 := Stand.of_body Bd
  have e0 : s₁.heap = h0 := by rw [← hh, Bd.state]; rfl
  have N0 := Fr.nil n0
  have pre0 : ∀ t, Steps p.tables e below (s₁.setTop (mkF m 0 #[.val (.int u0), .val (.int u1), .val (.int u2), .val (.int u3), .val (.int u4), .val (.int u5), .unset, .unset, .unset, .unset, .unset, .unset, .unset, .unset, .unset, .unset] [])) t → Steps p.tables e below (s₁.setTop (entryFrame m #[(.int u0), (.int u1), (.int u2), (.int u3), (.int u4), (.int u5)] maxLocals)) t := fun t k => castTop (ef_code_IIIIII m u0 u1 u2 u3 u4 u5) k
  obtain ⟨T1, h1, X1, e1, E1, A1, D1, -, st1⟩ := newO X0 hx hZ hown (hw _ (List.mem_of_getElem? (i := 0) rfl)) (hw _ (List.mem_of_getElem? (i := 1) rfl)) (hw _ (List.mem_of_getElem? (i := 2) rfl)) e0 (g := (mkF m 9 #[.val (.int u0), .val (.int u1), .val (.int u2), .val (.int u3), .val (.int u4), .val (.int u5), .val (.int dd), .unset, .unset, .unset, .unset, .unset, .unset, .unset, .unset, .unset] [])) rfl (hb hby at_9) (by decide) (by decide)
  obtain ⟨b1, g1⟩ : ∃ z, z = h0.size := ⟨_, rfl⟩
  rw [← g1] at A1 D1 st1
  have hG1 : n0 ≤ b1 := Nat.le_trans Z0 (Nat.le_of_eq g1.symm)
  have hKN1 : ∀ i, i < 1 → w i ≠ b1 := fun i hi => by rw [g1]; exact Nat.ne_of_lt (K.lt i hi)
  have K1 := K.ext E1
  have Z1 : n0 ≤ h1.size := Nat.le_trans Z0 E1.1
  have f1_total : Fld Z h1 b1 "com/example/bot_workflow_runner/botworkflowrunner/model/Progress" "total" "I" (.int (0 : Int32)) := D1 (Or.inr (hw _ (List.mem_of_getElem? (i := 10) rfl))) (ty := .int) (by decide)
  have f1_completed : Fld Z h1 b1 "com/example/bot_workflow_runner/botworkflowrunner/model/Progress" "completed" "I" (.int (0 : Int32)) := D1 (Or.inr (hw _ (List.mem_of_getElem? (i := 12) rfl))) (ty := .int) (by decide)
  have f1_running : Fld Z h1 b1 "com/example/bot_workflow_runner/botworkflowrunner/model/Progress" "running" "I" (.int (0 : Int32)) := D1 (Or.inr (hw _ (List.mem_of_getElem? (i := 14) rfl))) (ty := .int) (by decide)
  have f1_failed : Fld Z h1 b1 "com/example/bot_workflow_runner/botworkflowrunner/model/Progress" "failed" "I" (.int (0 : Int32)) := D1 (Or.inr (hw _ (List.mem_of_getElem? (i := 16) rfl))) (ty := .int) (by decide)
  have f1_skipped : Fld Z h1 b1 "com/example/bot_workflow_runner/botworkflowrunner/model/Progress" "skipped" "I" (.int (0 : Int32)) := D1 (Or.inr (hw _ (List.mem_of_getElem? (i := 18) rfl))) (ty := .int) (by decide)
  obtain ⟨_, _, ⟨T2, L2, kk2, n2⟩, -, X2, ⟨Lc2, hQ2, l2, y2, z2⟩, st2⟩ := Jvm.Stand.specialBack X1 hx (y := (⟨"com/example/bot_workflow_runner/botworkflowrunner/model/Progress", "<init>", "(IIIII)V"⟩ : MethodName)) rfl hown (mvT hZ (hw _ (List.mem_of_getElem? (i := 3) rfl))) (mvT hZ (hw _ (List.mem_of_getElem? (i := 4) rfl))) (mvT hZ (hw _ (List.mem_of_getElem? (i := 5) rfl))) (by decide) (backOf (W := 1) (rm__init__1 l Z a0 hw w κ h1 n0 Z1 K1 u0 u1 u2 u3 u4 u5 dd v0 v1 v2 v3 v4 sm b1 A1 f1_total f1_completed f1_running f1_failed f1_skipped hG1 hKN1) hZ (hw _ (List.mem_of_getElem? (i := 5) rfl)) (hw _ (List.mem_of_getElem? (i := 2) rfl)) (by decide) (by decide)) (g := (mkF m 19 #[.val (.int u0), .val (.int u1), .val (.int u2), .val (.int u3), .val (.int u4), .val (.int u5), .val (.int dd), .unset, .unset, .unset, .unset, .unset, .unset, .unset, .unset, .unset] [(.int u4), (.int u3), (.int u2), (.int u1), (.int u0), (.ref b1), (.ref b1)])) rfl (by rw [hml]; rfl) (Steps.refl _) (a := b1) (argsL := [(.int u0), (.int u1), (.int u2), (.int u3), (.int u4)]) (rest := [(.ref b1)]) (lenOf pd_28IIIII29V rfl) rfl (by show 2 * 0 + _ ≤ _; exact Nat.le_of_eq rfl) (hb hby at_19) (fun _ _ => ⟨rfl, e1, (by decide : 1 + 0 ≤ _), (by decide : 5 + 0 ≤ _)⟩)
  dsimp only [Pt.U, Pt.locs, Pt.cells, Pt.slots] at X2 l2 y2 z2 st2 hQ2
  subst l2 y2 z2
  obtain ⟨rfl, N2q, Z2, K2, f2_0, f2_1, f2_2, f2_3, f2_4, f2_5⟩ := hQ2
  have N2 := Fr.app N0 N2q
  obtain ⟨T8, h8, X8, e8, E8, A8, D8, -, st8⟩ := newO X2 hx hZ hown (hw _ (List.mem_of_getElem? (i := 0) rfl)) (hw _ (List.mem_of_getElem? (i := 1) rfl)) (hw _ (List.mem_of_getElem? (i := 2) rfl)) rfl (g := (mkF m 113 #[.val (.int u0), .val (.int u1), .val (.int u2), .val (.int u3), .val (.int u4), .val (.int u5), .val (.int dd), .val (.ref b1), .val (.int v0), .val (.int v1), .val (.int v2), .val (.int v3), .val (.int v4), .unset, .unset, .unset] [])) rfl (hb hby at_113) (by decide) (by decide)
  obtain ⟨b2, g8⟩ : ∃ z, z = T2.heap.size := ⟨_, rfl⟩
  rw [← g8] at A8 D8 st8
  have hG8 : n0 ≤ b2 := Nat.le_trans Z2 (Nat.le_of_eq g8.symm)
  have hN8_0 : b1 ≠ b2 := by rw [g8]; exact Nat.ne_of_lt f2_0.lt
  have hKN8 : ∀ i, i < 1 → w i ≠ b2 := fun i hi => by rw [g8]; exact Nat.ne_of_lt (K2.lt i hi)
  have f8_fE_b1 := f2_0.ext E8
  have f8_fF_b1_com_example_bot_workflow_runner_botworkflowrunner_model_Progress_total := f2_1.ext E8
  have f8_fF_b1_com_example_bot_workflow_runner_botworkflowrunner_model_Progress_completed := f2_2.ext E8
  have f8_fF_b1_com_example_bot_workflow_runner_botworkflowrunner_model_Progress_running := f2_3.ext E8
  have f8_fF_b1_com_example_bot_workflow_runner_botworkflowrunner_model_Progress_failed := f2_4.ext E8
  have f8_fF_b1_com_example_bot_workflow_runner_botworkflowrunner_model_Progress_skipped := f2_5.ext E8
  have K8 := K2.ext E8
  have Z8 : n0 ≤ h8.size := Nat.le_trans Z2 E8.1
  have f8_total : Fld Z h8 b2 "com/example/bot_workflow_runner/botworkflowrunner/model/Progress" "total" "I" (.int (0 : Int32)) := D8 (Or.inr (hw _ (List.mem_of_getElem? (i := 10) rfl))) (ty := .int) (by decide)
  have f8_completed : Fld Z h8 b2 "com/example/bot_workflow_runner/botworkflowrunner/model/Progress" "completed" "I" (.int (0 : Int32)) := D8 (Or.inr (hw _ (List.mem_of_getElem? (i := 12) rfl))) (ty := .int) (by decide)
  have f8_running : Fld Z h8 b2 "com/example/bot_workflow_runner/botworkflowrunner/model/Progress" "running" "I" (.int (0 : Int32)) := D8 (Or.inr (hw _ (List.mem_of_getElem? (i := 14) rfl))) (ty := .int) (by decide)
  have f8_failed : Fld Z h8 b2 "com/example/bot_workflow_runner/botworkflowrunner/model/Progress" "failed" "I" (.int (0 : Int32)) := D8 (Or.inr (hw _ (List.mem_of_getElem? (i := 16) rfl))) (ty := .int) (by decide)
  have f8_skipped : Fld Z h8 b2 "com/example/bot_workflow_runner/botworkflowrunner/model/Progress" "skipped" "I" (.int (0 : Int32)) := D8 (Or.inr (hw _ (List.mem_of_getElem? (i := 18) rfl))) (ty := .int) (by decide)
  obtain ⟨_, _, ⟨T9, L9, kk9, n9⟩, -, X9, ⟨Lc9, hQ9, l9, y9, z9⟩, st9⟩ := Jvm.Stand.specialBack X8 hx (y := (⟨"com/example/bot_workflow_runner/botworkflowrunner/model/Progress", "<init>", "(IIIII)V"⟩ : MethodName)) rfl hown (mvT hZ (hw _ (List.mem_of_getElem? (i := 3) rfl))) (mvT hZ (hw _ (List.mem_of_getElem? (i := 4) rfl))) (mvT hZ (hw _ (List.mem_of_getElem? (i := 5) rfl))) (by decide) (backOf (W := 1) (rm__init__2 l Z a0 hw w κ h8 n0 Z8 K8 u0 u1 u2 u3 u4 u5 dd v0 v1 v2 v3 v4 sm b1 b2 f8_fE_b1 f8_fF_b1_com_example_bot_workflow_runner_botworkflowrunner_model_Progress_total f8_fF_b1_com_example_bot_workflow_runner_botworkflowrunner_model_Progress_completed f8_fF_b1_com_example_bot_workflow_runner_botworkflowrunner_model_Progress_running f8_fF_b1_com_example_bot_workflow_runner_botworkflowrunner_model_Progress_failed f8_fF_b1_com_example_bot_workflow_runner_botworkflowrunner_model_Progress_skipped A8 f8_total f8_completed f8_running f8_failed f8_skipped hG1 hKN1 hG8 hN8_0 hKN8) hZ (hw _ (List.mem_of_getElem? (i := 5) rfl)) (hw _ (List.mem_of_getElem? (i := 2) rfl)) (by decide) (by decide)) (g := (mkF m 127 #[.val (.int u0), .val (.int u1), .val (.int u2), .val (.int u3), .val (.int u4), .val (.int u5), .val (.int dd), .val (.ref b1), .val (.int v0), .val (.int v1), .val (.int v2), .val (.int v3), .val (.int v4), .unset, .unset, .unset] [(.int v4), (.int v3), (.int v2), (.int v1), (.int v0), (.ref b2), (.ref b2)])) rfl (by rw [hml]; rfl) (Steps.refl _) (a := b2) (argsL := [(.int v0), (.int v1), (.int v2), (.int v3), (.int v4)]) (rest := [(.ref b2)]) (lenOf pd_28IIIII29V rfl) rfl (by show 2 * 0 + _ ≤ _; exact Nat.le_of_eq rfl) (hb hby at_127) (fun _ _ => ⟨rfl, e8, (by decide : 2 + 0 ≤ _), (by decide : 10 + 0 ≤ _)⟩)
  dsimp only [Pt.U, Pt.locs, Pt.cells, Pt.slots] at X9 l9 y9 z9 st9 hQ9
  subst l9 y9 z9
  obtain ⟨rfl, N9q, Z9, K9, f9_0, f9_1, f9_2, f9_3, f9_4, f9_5, f9_6, f9_7, f9_8, f9_9, f9_10, f9_11⟩ := hQ9
  have N9 := Fr.app N2 N9q
  obtain ⟨_, _, ⟨T11, L11, kk11, n11⟩, -, X11, ⟨Lc11, hQ11, l11, y11, z11⟩, st11⟩ := Jvm.LawKit.callS X9 hx (y := (⟨"java/lang/Integer", "valueOf", "(I)Ljava/lang/Integer;"⟩ : MethodName)) hown (mvT hZ (hw _ (List.mem_of_getElem? (i := 26) rfl))) (mvT hZ (hw _ (List.mem_of_getElem? (i := 27) rfl))) (mvT hZ (hw _ (List.mem_of_getElem? (i := 28) rfl))) (mvT hZ (hw _ (List.mem_of_getElem? (i := 29) rfl))) (by decide) (backOf (W := 1) (rm_cached l Z a0 hw w κ T9.heap n0 Z9 K9 u0 hf3 hf4) hZ (hw _ (List.mem_of_getElem? (i := 29) rfl)) (hw _ (List.mem_of_getElem? (i := 28) rfl)) (by decide) (by decide)) (g := (mkF m 195 #[.val (.int u0), .val (.int u1), .val (.int u2), .val (.int u3), .val (.int u4), .val (.int u5), .val (.int dd), .val (.ref b1), .val (.int v0), .val (.int v1), .val (.int v2), .val (.int v3), .val (.int v4), .val (.ref b2), .val (.int sm), .val (.int ((u5 >>> ((5 : Int32) &&& 31)) &&& (3 : Int32)))] [(.int u0), (.ref b1)])) rfl (by rw [hml]; rfl) (argsL := [(.int u0)]) (rest := [(.ref b1)]) (lenOf pd_28I29Ljava2flang2fInteger3b rfl) rfl (by show 2 * 0 + _ ≤ _; exact Nat.le_of_eq rfl) (hb hby at_195) (fun _ _ => ⟨rfl, rfl, (by decide : 2 + 0 ≤ _), (by decide : 10 + 0 ≤ _)⟩)
  dsimp only [Pt.U, Pt.locs, Pt.cells, Pt.slots] at X11 l11 y11 z11 st11 hQ11
  subst l11 y11 z11
  obtain ⟨yI, rfl, N11q, e11, EyI⟩ := hQ11
  have N11 := Fr.app N9 N11q
  obtain ⟨cq12, kq12, qa12, qb12, qc12⟩ := isOf hZ e11 f9_0
  obtain ⟨_, _, ⟨T12, L12, kk12, n12⟩, -, X12, ⟨Lc12, hQ12, l12, y12, z12⟩, st12⟩ := X11.virtualBack hx (y := (⟨"com/example/bot_workflow_runner/botworkflowrunner/model/Progress", "equals", "(Ljava/lang/Object;)Z"⟩ : MethodName)) (z := (⟨"com/example/bot_workflow_runner/botworkflowrunner/model/Progress", "equals", "(Ljava/lang/Object;)Z"⟩ : MethodName)) hown (mvT hZ (hw _ (List.mem_of_getElem? (i := 19) rfl))) (mvT hZ (hw _ (List.mem_of_getElem? (i := 20) rfl))) (notFace_of_selects (args := #[]) (mvT hZ (hw _ (List.mem_of_getElem? (i := 22) rfl)))) (mvT hZ (hw _ (List.mem_of_getElem? (i := 22) rfl))) (mvT hZ (hw _ (List.mem_of_getElem? (i := 21) rfl))) (by decide) (backOf (W := 0) (rm_equals_14 l Z a0 hw w κ T9.heap n0 Z9 K9 u0 u1 u2 u3 u4 u5 dd v0 v1 v2 v3 v4 sm b1 b2 yI EyI) hZ (hw _ (List.mem_of_getElem? (i := 23) rfl)) (hw _ (List.mem_of_getElem? (i := 2) rfl)) (by decide) (by decide)) qa12 qc12 (g := (mkF m 198 #[.val (.int u0), .val (.int u1), .val (.int u2), .val (.int u3), .val (.int u4), .val (.int u5), .val (.int dd), .val (.ref b1), .val (.int v0), .val (.int v1), .val (.int v2), .val (.int v3), .val (.int v4), .val (.ref b2), .val (.int sm), .val (.int ((u5 >>> ((5 : Int32) &&& 31)) &&& (3 : Int32)))] [(.ref yI), (.ref b1)])) rfl (by rw [hml]; rfl) (Steps.refl _) (argsL := [(.ref yI)]) (rest := []) (lenOf pd_28Ljava2flang2fObject3b29Z rfl) rfl (by show 2 * 0 + _ ≤ _; exact Nat.le_of_eq rfl) (hb hby at_198) (fun _ _ => ⟨rfl, e11, (by decide : 2 + 0 ≤ _), (by decide : 10 + 0 ≤ _)⟩)
  dsimp only [Pt.U, Pt.locs, Pt.cells, Pt.slots] at X12 l12 y12 z12 st12 hQ12
  subst l12 y12 z12
  obtain ⟨rfl, N12q, e12⟩ := hQ12
  have N12 := Fr.app N11 N12q
  obtain ⟨cq13, kq13, qa13, qb13, qc13⟩ := isOf hZ e12 f9_0
  obtain ⟨_, _, ⟨T13, L13, kk13, n13⟩, -, X13, ⟨Lc13, hQ13, l13, y13, z13⟩, st13⟩ := X12.virtualBack hx (y := (⟨"com/example/bot_workflow_runner/botworkflowrunner/model/Progress", "equals", "(Ljava/lang/Object;)Z"⟩ : MethodName)) (z := (⟨"com/example/bot_workflow_runner/botworkflowrunner/model/Progress", "equals", "(Ljava/lang/Object;)Z"⟩ : MethodName)) hown (mvT hZ (hw _ (List.mem_of_getElem? (i := 19) rfl))) (mvT hZ (hw _ (List.mem_of_getElem? (i := 20) rfl))) (notFace_of_selects (args := #[]) (mvT hZ (hw _ (List.mem_of_getElem? (i := 22) rfl)))) (mvT hZ (hw _ (List.mem_of_getElem? (i := 22) rfl))) (mvT hZ (hw _ (List.mem_of_getElem? (i := 21) rfl))) (by decide) (backOf (W := 0) (rm_equals_15 l Z a0 hw w κ T9.heap n0 Z9 K9 u0 u1 u2 u3 u4 u5 dd v0 v1 v2 v3 v4 sm b1 b2 yI f9_0 f9_1 f9_2 f9_3 f9_4 f9_5) hZ (hw _ (List.mem_of_getElem? (i := 23) rfl)) (hw _ (List.mem_of_getElem? (i := 2) rfl)) (by decide) (by decide)) qa13 qc13 (g := (mkF m 208 #[.val (.int u0), .val (.int u1), .val (.int u2), .val (.int u3), .val (.int u4), .val (.int u5), .val (.int dd), .val (.ref b1), .val (.int v0), .val (.int v1), .val (.int v2), .val (.int v3), .val (.int v4), .val (.ref b2), .val (.int sm), .val (.int ((u5 >>> ((5 : Int32) &&& 31)) &&& (3 : Int32)))] [(.ref b1), (.ref b1)])) rfl (by rw [hml]; rfl) (Steps.refl _) (argsL := [(.ref b1)]) (rest := []) (lenOf pd_28Ljava2flang2fObject3b29Z rfl) rfl (by show 2 * 0 + _ ≤ _; exact Nat.le_of_eq rfl) (hb hby at_208) (fun _ _ => ⟨rfl, e12, (by decide : 2 + 0 ≤ _), (by decide : 10 + 0 ≤ _)⟩)
  dsimp only [Pt.U, Pt.locs, Pt.cells, Pt.slots] at X13 l13 y13 z13 st13 hQ13
  subst l13 y13 z13
  obtain ⟨rfl, N13q, e13⟩ := hQ13
  have N13 := Fr.app N12 N13q
  obtain ⟨fs, hr, hrun, hended, hW, hsame⟩ := X13.leave (v := (some (.int (1 : Int32)))) (fun h => by rw [Bd.returns] at h; cases h)
  refine ⟨_, _, pre0 _ ?_, hrun, hended, _, _, rfl, ?_, ⟨_, rfl⟩, hW, hsame.mono (by decide) (by decide)⟩
  · show Steps p.tables e below (s₁.setTop (mkF m 0 #[.val (.int u0), .val (.int u1), .val (.int u2), .val (.int u3), .val (.int u4), .val (.int u5), .unset, .unset, .unset, .unset, .unset, .unset, .unset, .unset, .unset, .unset] [])) _
    refine XS.iload X0.here hx rfl (hb hby at_0) rfl ?_
    refine XS.bipush X0.here hx rfl (hb hby at_2) ?_
    refine XS.ishr X0.here hx rfl (hb hby at_4) rfl ?_
    show Steps p.tables e below (s₁.setTop (mkF m 5 #[.val (.int u0), .val (.int u1), .val (.int u2), .val (.int u3), .val (.int u4), .val (.int u5), .unset, .unset, .unset, .unset, .unset, .unset, .unset, .unset, .unset, .unset] [(.int (u5 >>> ((8 : Int32) &&& 31)))])) _
    refine XS.iconst X0.here hx rfl (hb hby at_5) ?_
    refine XS.ior X0.here hx rfl (hb hby at_6) rfl ?_
    show Steps p.tables e below (s₁.setTop (mkF m 7 #[.val (.int u0), .val (.int u1), .val (.int u2), .val (.int u3), .val (.int u4), .val (.int u5), .unset, .unset, .unset, .unset, .unset, .unset, .unset, .unset, .unset, .unset] [(.int ((u5 >>> ((8 : Int32) &&& 31)) ||| (1 : Int32)))])) _
    rw [hdd]
    show Steps p.tables e below (s₁.setTop (mkF m 7 #[.val (.int u0), .val (.int u1), .val (.int u2), .val (.int u3), .val (.int u4), .val (.int u5), .unset, .unset, .unset, .unset, .unset, .unset, .unset, .unset, .unset, .unset] [(.int dd)])) _
    refine XS.istore X0.here hx rfl (hb hby at_7) rfl (l' := #[.val (.int u0), .val (.int u1), .val (.int u2), .val (.int u3), .val (.int u4), .val (.int u5), .val (.int dd), .unset, .unset, .unset, .unset, .unset, .unset, .unset, .unset, .unset]) rfl ?_
    refine st1 _ ?_
    refine XS.dup X1.here hx rfl (hb hby at_12) rfl rfl ?_
    show Steps p.tables e below (T1.setTop (mkF m 13 #[.val (.int u0), .val (.int u1), .val (.int u2), .val (.int u3), .val (.int u4), .val (.int u5), .val (.int dd), .unset, .unset, .unset, .unset, .unset, .unset, .unset, .unset, .unset] [(.ref b1), (.ref b1)])) _
    refine XS.iloadN X1.here hx rfl (hb hby at_13) rfl ?_
    refine XS.iloadN X1.here hx rfl (hb hby at_14) rfl ?_
    refine XS.iloadN X1.here hx rfl (hb hby at_15) rfl ?_
    show Steps p.tables e below (T1.setTop (mkF m 16 #[.val (.int u0), .val (.int u1), .val (.int u2), .val (.int u3), .val (.int u4), .val (.int u5), .val (.int dd), .unset, .unset, .unset, .unset, .unset, .unset, .unset, .unset, .unset] [(.int u2), (.int u1), (.int u0), (.ref b1), (.ref b1)])) _
    refine XS.iloadN X1.here hx rfl (hb hby at_16) rfl ?_
    refine XS.iload X1.here hx rfl (hb hby at_17) rfl ?_
    refine st2.trans ?_
    show Steps p.tables e below (T2.setTop (mkF m 22 #[.val (.int u0), .val (.int u1), .val (.int u2), .val (.int u3), .val (.int u4), .val (.int u5), .val (.int dd), .unset, .unset, .unset, .unset, .unset, .unset, .unset, .unset, .unset] [(.ref b1)])) _
    refine XS.astore X2.here hx rfl (hb hby at_22) rfl rfl (l' := #[.val (.int u0), .val (.int u1), .val (.int u2), .val (.int u3), .val (.int u4), .val (.int u5), .val (.int dd), .val (.ref b1), .unset, .unset, .unset, .unset, .unset, .unset, .unset, .unset]) rfl ?_
    refine XS.iload X2.here hx rfl (hb hby at_24) rfl ?_
    refine XS.iconst X2.here hx rfl (hb hby at_26) ?_
    show Steps p.tables e below (T2.setTop (mkF m 27 #[.val (.int u0), .val (.int u1), .val (.int u2), .val (.int u3), .val (.int u4), .val (.int u5), .val (.int dd), .val (.ref b1), .unset, .unset, .unset, .unset, .unset, .unset, .unset, .unset] [(.int (1 : Int32)), (.int u5)])) _
    refine XS.iand X2.here hx rfl (hb hby at_27) rfl ?_
    show Steps p.tables e below (T2.setTop (mkF m 28 #[.val (.int u0), .val (.int u1), .val (.int u2), .val (.int u3), .val (.int u4), .val (.int u5), .val (.int dd), .val (.ref b1), .unset, .unset, .unset, .unset, .unset, .unset, .unset, .unset] [(.int (u5 &&& (1 : Int32)))])) _
    suffices hshd3 : Steps p.tables e below (T2.setTop (mkF m 39 #[.val (.int u0), .val (.int u1), .val (.int u2), .val (.int u3), .val (.int u4), .val (.int u5), .val (.int dd), .val (.ref b1), .unset, .unset, .unset, .unset, .unset, .unset, .unset, .unset] [(.int (osel (decide ((u5 &&& (1 : Int32)) = (0 : Int32))) u0 (u0 + dd)))])) (T13.setFrames fs) by
      by_cases hd3 : (u5 &&& (1 : Int32)) = (0 : Int32)
      · rw [show (osel (decide ((u5 &&& (1 : Int32)) = (0 : Int32))) u0 (u0 + dd)) = u0 from if_pos (decide_eq_true hd3)] at hshd3
        refine XS.ifYes X2.here hx rfl (pc0 := 28) (pc' := 38) rfl (hb hby at_28) rfl ((if0 _ _).trans (teq hd3).1) (by decide) (by decide) ?_
        show Steps p.tables e below (T2.setTop (mkF m 38 #[.val (.int u0), .val (.int u1), .val (.int u2), .val (.int u3), .val (.int u4), .val (.int u5), .val (.int dd), .val (.ref b1), .unset, .unset, .unset, .unset, .unset, .unset, .unset, .unset] [])) _
        refine XS.iloadN X2.here hx rfl (hb hby at_38) rfl ?_
        exact hshd3
      · rw [show (osel (decide ((u5 &&& (1 : Int32)) = (0 : Int32))) u0 (u0 + dd)) = (u0 + dd) from if_neg (fun hh => absurd (of_decide_eq_true hh) hd3)] at hshd3
        refine XS.ifNo X2.here hx rfl (hb hby at_28) rfl ((if0 _ _).trans (feq hd3).1) ?_
        show Steps p.tables e below (T2.setTop (mkF m 31 #[.val (.int u0), .val (.int u1), .val (.int u2), .val (.int u3), .val (.int u4), .val (.int u5), .val (.int dd), .val (.ref b1), .unset, .unset, .unset, .unset, .unset, .unset, .unset, .unset] [])) _
        refine XS.iloadN X2.here hx rfl (hb hby at_31) rfl ?_
        show Steps p.tables e below (T2.setTop (mkF m 32 #[.val (.int u0), .val (.int u1), .val (.int u2), .val (.int u3), .val (.int u4), .val (.int u5), .val (.int dd), .val (.ref b1), .unset, .unset, .unset, .unset, .unset, .unset, .unset, .unset] [(.int u0)])) _
        refine XS.iload X2.here hx rfl (hb hby at_32) rfl ?_
        show Steps p.tables e below (T2.setTop (mkF m 34 #[.val (.int u0), .val (.int u1), .val (.int u2), .val (.int u3), .val (.int u4), .val (.int u5), .val (.int dd), .val (.ref b1), .unset, .unset, .unset, .unset, .unset, .unset, .unset, .unset] [(.int dd), (.int u0)])) _
        refine XS.iadd X2.here hx rfl (hb hby at_34) rfl ?_
        show Steps p.tables e below (T2.setTop (mkF m 35 #[.val (.int u0), .val (.int u1), .val (.int u2), .val (.int u3), .val (.int u4), .val (.int u5), .val (.int dd), .val (.ref b1), .unset, .unset, .unset, .unset, .unset, .unset, .unset, .unset] [(.int (u0 + dd))])) _
        refine XS.goto X2.here hx rfl (pc0 := 35) (pc' := 39) rfl (hb hby at_35) (by decide) (by decide) ?_
        exact hshd3
    show Steps p.tables e below (T2.setTop (mkF m 39 #[.val (.int u0), .val (.int u1), .val (.int u2), .val (.int u3), .val (.int u4), .val (.int u5), .val (.int dd), .val (.ref b1), .unset, .unset, .unset, .unset, .unset, .unset, .unset, .unset] [(.int (osel (decide ((u5 &&& (1 : Int32)) = (0 : Int32))) u0 (u0 + dd)))])) _
    rw [hv0]
    show Steps p.tables e below (T2.setTop (mkF m 39 #[.val (.int u0), .val (.int u1), .val (.int u2), .val (.int u3), .val (.int u4), .val (.int u5), .val (.int dd), .val (.ref b1), .unset, .unset, .unset, .unset, .unset, .unset, .unset, .unset] [(.int v0)])) _
    refine XS.istore X2.here hx rfl (hb hby at_39) rfl (l' := #[.val (.int u0), .val (.int u1), .val (.int u2), .val (.int u3), .val (.int u4), .val (.int u5), .val (.int dd), .val (.ref b1), .val (.int v0), .unset, .unset, .unset, .unset, .unset, .unset, .unset]) rfl ?_
    refine XS.iload X2.here hx rfl (hb hby at_41) rfl ?_
    refine XS.iconst X2.here hx rfl (hb hby at_43) ?_
    show Steps p.tables e below (T2.setTop (mkF m 44 #[.val (.int u0), .val (.int u1), .val (.int u2), .val (.int u3), .val (.int u4), .val (.int u5), .val (.int dd), .val (.ref b1), .val (.int v0), .unset, .unset, .unset, .unset, .unset, .unset, .unset] [(.int (2 : Int32)), (.int u5)])) _
    refine XS.iand X2.here hx rfl (hb hby at_44) rfl ?_
    show Steps p.tables e below (T2.setTop (mkF m 45 #[.val (.int u0), .val (.int u1), .val (.int u2), .val (.int u3), .val (.int u4), .val (.int u5), .val (.int dd), .val (.ref b1), .val (.int v0), .unset, .unset, .unset, .unset, .unset, .unset, .unset] [(.int (u5 &&& (2 : Int32)))])) _
    suffices hshd4 : Steps p.tables e below (T2.setTop (mkF m 56 #[.val (.int u0), .val (.int u1), .val (.int u2), .val (.int u3), .val (.int u4), .val (.int u5), .val (.int dd), .val (.ref b1), .val (.int v0), .unset, .unset, .unset, .unset, .unset, .unset, .unset] [(.int (osel (decide ((u5 &&& (2 : Int32)) = (0 : Int32))) u1 (u1 + dd)))])) (T13.setFrames fs) by
      by_cases hd4 : (u5 &&& (2 : Int32)) = (0 : Int32)
      · rw [show (osel (decide ((u5 &&& (2 : Int32)) = (0 : Int32))) u1 (u1 + dd)) = u1 from if_pos (decide_eq_true hd4)] at hshd4
        refine XS.ifYes X2.here hx rfl (pc0 := 45) (pc' := 55) rfl (hb hby at_45) rfl ((if0 _ _).trans (teq hd4).1) (by decide) (by decide) ?_
        show Steps p.tables e below (T2.setTop (mkF m 55 #[.val (.int u0), .val (.int u1), .val (.int u2), .val (.int u3), .val (.int u4), .val (.int u5), .val (.int dd), .val (.ref b1), .val (.int v0), .unset, .unset, .unset, .unset, .unset, .unset, .unset] [])) _
        refine XS.iloadN X2.here hx rfl (hb hby at_55) rfl ?_
        exact hshd4
      · rw [show (osel (decide ((u5 &&& (2 : Int32)) = (0 : Int32))) u1 (u1 + dd)) = (u1 + dd) from if_neg (fun hh => absurd (of_decide_eq_true hh) hd4)] at hshd4
        refine XS.ifNo X2.here hx rfl (hb hby at_45) rfl ((if0 _ _).trans (feq hd4).1) ?_
        show Steps p.tables e below (T2.setTop (mkF m 48 #[.val (.int u0), .val (.int u1), .val (.int u2), .val (.int u3), .val (.int u4), .val (.int u5), .val (.int dd), .val (.ref b1), .val (.int v0), .unset, .unset, .unset, .unset, .unset, .unset, .unset] [])) _
        refine XS.iloadN X2.here hx rfl (hb hby at_48) rfl ?_
        show Steps p.tables e below (T2.setTop (mkF m 49 #[.val (.int u0), .val (.int u1), .val (.int u2), .val (.int u3), .val (.int u4), .val (.int u5), .val (.int dd), .val (.ref b1), .val (.int v0), .unset, .unset, .unset, .unset, .unset, .unset, .unset] [(.int u1)])) _
        refine XS.iload X2.here hx rfl (hb hby at_49) rfl ?_
        show Steps p.tables e below (T2.setTop (mkF m 51 #[.val (.int u0), .val (.int u1), .val (.int u2), .val (.int u3), .val (.int u4), .val (.int u5), .val (.int dd), .val (.ref b1), .val (.int v0), .unset, .unset, .unset, .unset, .unset, .unset, .unset] [(.int dd), (.int u1)])) _
        refine XS.iadd X2.here hx rfl (hb hby at_51) rfl ?_
        show Steps p.tables e below (T2.setTop (mkF m 52 #[.val (.int u0), .val (.int u1), .val (.int u2), .val (.int u3), .val (.int u4), .val (.int u5), .val (.int dd), .val (.ref b1), .val (.int v0), .unset, .unset, .unset, .unset, .unset, .unset, .unset] [(.int (u1 + dd))])) _
        refine XS.goto X2.here hx rfl (pc0 := 52) (pc' := 56) rfl (hb hby at_52) (by decide) (by decide) ?_
        exact hshd4
    show Steps p.tables e below (T2.setTop (mkF m 56 #[.val (.int u0), .val (.int u1), .val (.int u2), .val (.int u3), .val (.int u4), .val (.int u5), .val (.int dd), .val (.ref b1), .val (.int v0), .unset, .unset, .unset, .unset, .unset, .unset, .unset] [(.int (osel (decide ((u5 &&& (2 : Int32)) = (0 : Int32))) u1 (u1 + dd)))])) _
    rw [hv1]
    show Steps p.tables e below (T2.setTop (mkF m 56 #[.val (.int u0), .val (.int u1), .val (.int u2), .val (.int u3), .val (.int u4), .val (.int u5), .val (.int dd), .val (.ref b1), .val (.int v0), .unset, .unset, .unset, .unset, .unset, .unset, .unset] [(.int v1)])) _
    refine XS.istore X2.here hx rfl (hb hby at_56) rfl (l' := #[.val (.int u0), .val (.int u1), .val (.int u2), .val (.int u3), .val (.int u4), .val (.int u5), .val (.int dd), .val (.ref b1), .val (.int v0), .val (.int v1), .unset, .unset, .unset, .unset, .unset, .unset]) rfl ?_
    refine XS.iload X2.here hx rfl (hb hby at_58) rfl ?_
    refine XS.iconst X2.here hx rfl (hb hby at_60) ?_
    show Steps p.tables e below (T2.setTop (mkF m 61 #[.val (.int u0), .val (.int u1), .val (.int u2), .val (.int u3), .val (.int u4), .val (.int u5), .val (.int dd), .val (.ref b1), .val (.int v0), .val (.int v1), .unset, .unset, .unset, .unset, .unset, .unset] [(.int (4 : Int32)), (.int u5)])) _
    refine XS.iand X2.here hx rfl (hb hby at_61) rfl ?_
    show Steps p.tables e below (T2.setTop (mkF m 62 #[.val (.int u0), .val (.int u1), .val (.int u2), .val (.int u3), .val (.int u4), .val (.int u5), .val (.int dd), .val (.ref b1), .val (.int v0), .val (.int v1), .unset, .unset, .unset, .unset, .unset, .unset] [(.int (u5 &&& (4 : Int32)))])) _
    suffices hshd5 : Steps p.tables e below (T2.setTop (mkF m 73 #[.val (.int u0), .val (.int u1), .val (.int u2), .val (.int u3), .val (.int u4), .val (.int u5), .val (.int dd), .val (.ref b1), .val (.int v0), .val (.int v1), .unset, .unset, .unset, .unset, .unset, .unset] [(.int (osel (decide ((u5 &&& (4 : Int32)) = (0 : Int32))) u2 (u2 + dd)))])) (T13.setFrames fs) by
      by_cases hd5 : (u5 &&& (4 : Int32)) = (0 : Int32)
      · rw [show (osel (decide ((u5 &&& (4 : Int32)) = (0 : Int32))) u2 (u2 + dd)) = u2 from if_pos (decide_eq_true hd5)] at hshd5
        refine XS.ifYes X2.here hx rfl (pc0 := 62) (pc' := 72) rfl (hb hby at_62) rfl ((if0 _ _).trans (teq hd5).1) (by decide) (by decide) ?_
        show Steps p.tables e below (T2.setTop (mkF m 72 #[.val (.int u0), .val (.int u1), .val (.int u2), .val (.int u3), .val (.int u4), .val (.int u5), .val (.int dd), .val (.ref b1), .val (.int v0), .val (.int v1), .unset, .unset, .unset, .unset, .unset, .unset] [])) _
        refine XS.iloadN X2.here hx rfl (hb hby at_72) rfl ?_
        exact hshd5
      · rw [show (osel (decide ((u5 &&& (4 : Int32)) = (0 : Int32))) u2 (u2 + dd)) = (u2 + dd) from if_neg (fun hh => absurd (of_decide_eq_true hh) hd5)] at hshd5
        refine XS.ifNo X2.here hx rfl (hb hby at_62) rfl ((if0 _ _).trans (feq hd5).1) ?_
        show Steps p.tables e below (T2.setTop (mkF m 65 #[.val (.int u0), .val (.int u1), .val (.int u2), .val (.int u3), .val (.int u4), .val (.int u5), .val (.int dd), .val (.ref b1), .val (.int v0), .val (.int v1), .unset, .unset, .unset, .unset, .unset, .unset] [])) _
        refine XS.iloadN X2.here hx rfl (hb hby at_65) rfl ?_
        show Steps p.tables e below (T2.setTop (mkF m 66 #[.val (.int u0), .val (.int u1), .val (.int u2), .val (.int u3), .val (.int u4), .val (.int u5), .val (.int dd), .val (.ref b1), .val (.int v0), .val (.int v1), .unset, .unset, .unset, .unset, .unset, .unset] [(.int u2)])) _
        refine XS.iload X2.here hx rfl (hb hby at_66) rfl ?_
        show Steps p.tables e below (T2.setTop (mkF m 68 #[.val (.int u0), .val (.int u1), .val (.int u2), .val (.int u3), .val (.int u4), .val (.int u5), .val (.int dd), .val (.ref b1), .val (.int v0), .val (.int v1), .unset, .unset, .unset, .unset, .unset, .unset] [(.int dd), (.int u2)])) _
        refine XS.iadd X2.here hx rfl (hb hby at_68) rfl ?_
        show Steps p.tables e below (T2.setTop (mkF m 69 #[.val (.int u0), .val (.int u1), .val (.int u2), .val (.int u3), .val (.int u4), .val (.int u5), .val (.int dd), .val (.ref b1), .val (.int v0), .val (.int v1), .unset, .unset, .unset, .unset, .unset, .unset] [(.int (u2 + dd))])) _
        refine XS.goto X2.here hx rfl (pc0 := 69) (pc' := 73) rfl (hb hby at_69) (by decide) (by decide) ?_
        exact hshd5
    show Steps p.tables e below (T2.setTop (mkF m 73 #[.val (.int u0), .val (.int u1), .val (.int u2), .val (.int u3), .val (.int u4), .val (.int u5), .val (.int dd), .val (.ref b1), .val (.int v0), .val (.int v1), .unset, .unset, .unset, .unset, .unset, .unset] [(.int (osel (decide ((u5 &&& (4 : Int32)) = (0 : Int32))) u2 (u2 + dd)))])) _
    rw [hv2]
    show Steps p.tables e below (T2.setTop (mkF m 73 #[.val (.int u0), .val (.int u1), .val (.int u2), .val (.int u3), .val (.int u4), .val (.int u5), .val (.int dd), .val (.ref b1), .val (.int v0), .val (.int v1), .unset, .unset, .unset, .unset, .unset, .unset] [(.int v2)])) _
    refine XS.istore X2.here hx rfl (hb hby at_73) rfl (l' := #[.val (.int u0), .val (.int u1), .val (.int u2), .val (.int u3), .val (.int u4), .val (.int u5), .val (.int dd), .val (.ref b1), .val (.int v0), .val (.int v1), .val (.int v2), .unset, .unset, .unset, .unset, .unset]) rfl ?_
    refine XS.iload X2.here hx rfl (hb hby at_75) rfl ?_
    refine XS.bipush X2.here hx rfl (hb hby at_77) ?_
    show Steps p.tables e below (T2.setTop (mkF m 79 #[.val (.int u0), .val (.int u1), .val (.int u2), .val (.int u3), .val (.int u4), .val (.int u5), .val (.int dd), .val (.ref b1), .val (.int v0), .val (.int v1), .val (.int v2), .unset, .unset, .unset, .unset, .unset] [(.int (8 : Int32)), (.int u5)])) _
    refine XS.iand X2.here hx rfl (hb hby at_79) rfl ?_
    show Steps p.tables e below (T2.setTop (mkF m 80 #[.val (.int u0), .val (.int u1), .val (.int u2), .val (.int u3), .val (.int u4), .val (.int u5), .val (.int dd), .val (.ref b1), .val (.int v0), .val (.int v1), .val (.int v2), .unset, .unset, .unset, .unset, .unset] [(.int (u5 &&& (8 : Int32)))])) _
    suffices hshd6 : Steps p.tables e below (T2.setTop (mkF m 91 #[.val (.int u0), .val (.int u1), .val (.int u2), .val (.int u3), .val (.int u4), .val (.int u5), .val (.int dd), .val (.ref b1), .val (.int v0), .val (.int v1), .val (.int v2), .unset, .unset, .unset, .unset, .unset] [(.int (osel (decide ((u5 &&& (8 : Int32)) = (0 : Int32))) u3 (u3 + dd)))])) (T13.setFrames fs) by
      by_cases hd6 : (u5 &&& (8 : Int32)) = (0 : Int32)
      · rw [show (osel (decide ((u5 &&& (8 : Int32)) = (0 : Int32))) u3 (u3 + dd)) = u3 from if_pos (decide_eq_true hd6)] at hshd6
        refine XS.ifYes X2.here hx rfl (pc0 := 80) (pc' := 90) rfl (hb hby at_80) rfl ((if0 _ _).trans (teq hd6).1) (by decide) (by decide) ?_
        show Steps p.tables e below (T2.setTop (mkF m 90 #[.val (.int u0), .val (.int u1), .val (.int u2), .val (.int u3), .val (.int u4), .val (.int u5), .val (.int dd), .val (.ref b1), .val (.int v0), .val (.int v1), .val (.int v2), .unset, .unset, .unset, .unset, .unset] [])) _
        refine XS.iloadN X2.here hx rfl (hb hby at_90) rfl ?_
        exact hshd6
      · rw [show (osel (decide ((u5 &&& (8 : Int32)) = (0 : Int32))) u3 (u3 + dd)) = (u3 + dd) from if_neg (fun hh => absurd (of_decide_eq_true hh) hd6)] at hshd6
        refine XS.ifNo X2.here hx rfl (hb hby at_80) rfl ((if0 _ _).trans (feq hd6).1) ?_
        show Steps p.tables e below (T2.setTop (mkF m 83 #[.val (.int u0), .val (.int u1), .val (.int u2), .val (.int u3), .val (.int u4), .val (.int u5), .val (.int dd), .val (.ref b1), .val (.int v0), .val (.int v1), .val (.int v2), .unset, .unset, .unset, .unset, .unset] [])) _
        refine XS.iloadN X2.here hx rfl (hb hby at_83) rfl ?_
        show Steps p.tables e below (T2.setTop (mkF m 84 #[.val (.int u0), .val (.int u1), .val (.int u2), .val (.int u3), .val (.int u4), .val (.int u5), .val (.int dd), .val (.ref b1), .val (.int v0), .val (.int v1), .val (.int v2), .unset, .unset, .unset, .unset, .unset] [(.int u3)])) _
        refine XS.iload X2.here hx rfl (hb hby at_84) rfl ?_
        show Steps p.tables e below (T2.setTop (mkF m 86 #[.val (.int u0), .val (.int u1), .val (.int u2), .val (.int u3), .val (.int u4), .val (.int u5), .val (.int dd), .val (.ref b1), .val (.int v0), .val (.int v1), .val (.int v2), .unset, .unset, .unset, .unset, .unset] [(.int dd), (.int u3)])) _
        refine XS.iadd X2.here hx rfl (hb hby at_86) rfl ?_
        show Steps p.tables e below (T2.setTop (mkF m 87 #[.val (.int u0), .val (.int u1), .val (.int u2), .val (.int u3), .val (.int u4), .val (.int u5), .val (.int dd), .val (.ref b1), .val (.int v0), .val (.int v1), .val (.int v2), .unset, .unset, .unset, .unset, .unset] [(.int (u3 + dd))])) _
        refine XS.goto X2.here hx rfl (pc0 := 87) (pc' := 91) rfl (hb hby at_87) (by decide) (by decide) ?_
        exact hshd6
    show Steps p.tables e below (T2.setTop (mkF m 91 #[.val (.int u0), .val (.int u1), .val (.int u2), .val (.int u3), .val (.int u4), .val (.int u5), .val (.int dd), .val (.ref b1), .val (.int v0), .val (.int v1), .val (.int v2), .unset, .unset, .unset, .unset, .unset] [(.int (osel (decide ((u5 &&& (8 : Int32)) = (0 : Int32))) u3 (u3 + dd)))])) _
    rw [hv3]
    show Steps p.tables e below (T2.setTop (mkF m 91 #[.val (.int u0), .val (.int u1), .val (.int u2), .val (.int u3), .val (.int u4), .val (.int u5), .val (.int dd), .val (.ref b1), .val (.int v0), .val (.int v1), .val (.int v2), .unset, .unset, .unset, .unset, .unset] [(.int v3)])) _
    refine XS.istore X2.here hx rfl (hb hby at_91) rfl (l' := #[.val (.int u0), .val (.int u1), .val (.int u2), .val (.int u3), .val (.int u4), .val (.int u5), .val (.int dd), .val (.ref b1), .val (.int v0), .val (.int v1), .val (.int v2), .val (.int v3), .unset, .unset, .unset, .unset]) rfl ?_
    refine XS.iload X2.here hx rfl (hb hby at_93) rfl ?_
    refine XS.bipush X2.here hx rfl (hb hby at_95) ?_
    show Steps p.tables e below (T2.setTop (mkF m 97 #[.val (.int u0), .val (.int u1), .val (.int u2), .val (.int u3), .val (.int u4), .val (.int u5), .val (.int dd), .val (.ref b1), .val (.int v0), .val (.int v1), .val (.int v2), .val (.int v3), .unset, .unset, .unset, .unset] [(.int (16 : Int32)), (.int u5)])) _
    refine XS.iand X2.here hx rfl (hb hby at_97) rfl ?_
    show Steps p.tables e below (T2.setTop (mkF m 98 #[.val (.int u0), .val (.int u1), .val (.int u2), .val (.int u3), .val (.int u4), .val (.int u5), .val (.int dd), .val (.ref b1), .val (.int v0), .val (.int v1), .val (.int v2), .val (.int v3), .unset, .unset, .unset, .unset] [(.int (u5 &&& (16 : Int32)))])) _
    suffices hshd7 : Steps p.tables e below (T2.setTop (mkF m 111 #[.val (.int u0), .val (.int u1), .val (.int u2), .val (.int u3), .val (.int u4), .val (.int u5), .val (.int dd), .val (.ref b1), .val (.int v0), .val (.int v1), .val (.int v2), .val (.int v3), .unset, .unset, .unset, .unset] [(.int (osel (decide ((u5 &&& (16 : Int32)) = (0 : Int32))) u4 (u4 + dd)))])) (T13.setFrames fs) by
      by_cases hd7 : (u5 &&& (16 : Int32)) = (0 : Int32)
      · rw [show (osel (decide ((u5 &&& (16 : Int32)) = (0 : Int32))) u4 (u4 + dd)) = u4 from if_pos (decide_eq_true hd7)] at hshd7
        refine XS.ifYes X2.here hx rfl (pc0 := 98) (pc' := 109) rfl (hb hby at_98) rfl ((if0 _ _).trans (teq hd7).1) (by decide) (by decide) ?_
        show Steps p.tables e below (T2.setTop (mkF m 109 #[.val (.int u0), .val (.int u1), .val (.int u2), .val (.int u3), .val (.int u4), .val (.int u5), .val (.int dd), .val (.ref b1), .val (.int v0), .val (.int v1), .val (.int v2), .val (.int v3), .unset, .unset, .unset, .unset] [])) _
        refine XS.iload X2.here hx rfl (hb hby at_109) rfl ?_
        exact hshd7
      · rw [show (osel (decide ((u5 &&& (16 : Int32)) = (0 : Int32))) u4 (u4 + dd)) = (u4 + dd) from if_neg (fun hh => absurd (of_decide_eq_true hh) hd7)] at hshd7
        refine XS.ifNo X2.here hx rfl (hb hby at_98) rfl ((if0 _ _).trans (feq hd7).1) ?_
        show Steps p.tables e below (T2.setTop (mkF m 101 #[.val (.int u0), .val (.int u1), .val (.int u2), .val (.int u3), .val (.int u4), .val (.int u5), .val (.int dd), .val (.ref b1), .val (.int v0), .val (.int v1), .val (.int v2), .val (.int v3), .unset, .unset, .unset, .unset] [])) _
        refine XS.iload X2.here hx rfl (hb hby at_101) rfl ?_
        show Steps p.tables e below (T2.setTop (mkF m 103 #[.val (.int u0), .val (.int u1), .val (.int u2), .val (.int u3), .val (.int u4), .val (.int u5), .val (.int dd), .val (.ref b1), .val (.int v0), .val (.int v1), .val (.int v2), .val (.int v3), .unset, .unset, .unset, .unset] [(.int u4)])) _
        refine XS.iload X2.here hx rfl (hb hby at_103) rfl ?_
        show Steps p.tables e below (T2.setTop (mkF m 105 #[.val (.int u0), .val (.int u1), .val (.int u2), .val (.int u3), .val (.int u4), .val (.int u5), .val (.int dd), .val (.ref b1), .val (.int v0), .val (.int v1), .val (.int v2), .val (.int v3), .unset, .unset, .unset, .unset] [(.int dd), (.int u4)])) _
        refine XS.iadd X2.here hx rfl (hb hby at_105) rfl ?_
        show Steps p.tables e below (T2.setTop (mkF m 106 #[.val (.int u0), .val (.int u1), .val (.int u2), .val (.int u3), .val (.int u4), .val (.int u5), .val (.int dd), .val (.ref b1), .val (.int v0), .val (.int v1), .val (.int v2), .val (.int v3), .unset, .unset, .unset, .unset] [(.int (u4 + dd))])) _
        refine XS.goto X2.here hx rfl (pc0 := 106) (pc' := 111) rfl (hb hby at_106) (by decide) (by decide) ?_
        exact hshd7
    show Steps p.tables e below (T2.setTop (mkF m 111 #[.val (.int u0), .val (.int u1), .val (.int u2), .val (.int u3), .val (.int u4), .val (.int u5), .val (.int dd), .val (.ref b1), .val (.int v0), .val (.int v1), .val (.int v2), .val (.int v3), .unset, .unset, .unset, .unset] [(.int (osel (decide ((u5 &&& (16 : Int32)) = (0 : Int32))) u4 (u4 + dd)))])) _
    rw [hv4]
    show Steps p.tables e below (T2.setTop (mkF m 111 #[.val (.int u0), .val (.int u1), .val (.int u2), .val (.int u3), .val (.int u4), .val (.int u5), .val (.int dd), .val (.ref b1), .val (.int v0), .val (.int v1), .val (.int v2), .val (.int v3), .unset, .unset, .unset, .unset] [(.int v4)])) _
    refine XS.istore X2.here hx rfl (hb hby at_111) rfl (l' := #[.val (.int u0), .val (.int u1), .val (.int u2), .val (.int u3), .val (.int u4), .val (.int u5), .val (.int dd), .val (.ref b1), .val (.int v0), .val (.int v1), .val (.int v2), .val (.int v3), .val (.int v4), .unset, .unset, .unset]) rfl ?_
    refine st8 _ ?_
    refine XS.dup X8.here hx rfl (hb hby at_116) rfl rfl ?_
    show Steps p.tables e below (T8.setTop (mkF m 117 #[.val (.int u0), .val (.int u1), .val (.int u2), .val (.int u3), .val (.int u4), .val (.int u5), .val (.int dd), .val (.ref b1), .val (.int v0), .val (.int v1), .val (.int v2), .val (.int v3), .val (.int v4), .unset, .unset, .unset] [(.ref b2), (.ref b2)])) _
    refine XS.iload X8.here hx rfl (hb hby at_117) rfl ?_
    refine XS.iload X8.here hx rfl (hb hby at_119) rfl ?_
    refine XS.iload X8.here hx rfl (hb hby at_121) rfl ?_
    show Steps p.tables e below (T8.setTop (mkF m 123 #[.val (.int u0), .val (.int u1), .val (.int u2), .val (.int u3), .val (.int u4), .val (.int u5), .val (.int dd), .val (.ref b1), .val (.int v0), .val (.int v1), .val (.int v2), .val (.int v3), .val (.int v4), .unset, .unset, .unset] [(.int v2), (.int v1), (.int v0), (.ref b2), (.ref b2)])) _
    refine XS.iload X8.here hx rfl (hb hby at_123) rfl ?_
    refine XS.iload X8.here hx rfl (hb hby at_125) rfl ?_
    refine st9.trans ?_
    show Steps p.tables e below (T9.setTop (mkF m 130 #[.val (.int u0), .val (.int u1), .val (.int u2), .val (.int u3), .val (.int u4), .val (.int u5), .val (.int dd), .val (.ref b1), .val (.int v0), .val (.int v1), .val (.int v2), .val (.int v3), .val (.int v4), .unset, .unset, .unset] [(.ref b2)])) _
    refine XS.astore X9.here hx rfl (hb hby at_130) rfl rfl (l' := #[.val (.int u0), .val (.int u1), .val (.int u2), .val (.int u3), .val (.int u4), .val (.int u5), .val (.int dd), .val (.ref b1), .val (.int v0), .val (.int v1), .val (.int v2), .val (.int v3), .val (.int v4), .val (.ref b2), .unset, .unset]) rfl ?_
    refine XS.iload X9.here hx rfl (hb hby at_132) rfl ?_
    refine XS.bipush X9.here hx rfl (hb hby at_134) ?_
    show Steps p.tables e below (T9.setTop (mkF m 136 #[.val (.int u0), .val (.int u1), .val (.int u2), .val (.int u3), .val (.int u4), .val (.int u5), .val (.int dd), .val (.ref b1), .val (.int v0), .val (.int v1), .val (.int v2), .val (.int v3), .val (.int v4), .val (.ref b2), .unset, .unset] [(.int (31 : Int32)), (.int u5)])) _
    refine XS.iand X9.here hx rfl (hb hby at_136) rfl ?_
    show Steps p.tables e below (T9.setTop (mkF m 137 #[.val (.int u0), .val (.int u1), .val (.int u2), .val (.int u3), .val (.int u4), .val (.int u5), .val (.int dd), .val (.ref b1), .val (.int v0), .val (.int v1), .val (.int v2), .val (.int v3), .val (.int v4), .val (.ref b2), .unset, .unset] [(.int (u5 &&& (31 : Int32)))])) _
    suffices hshd10 : Steps p.tables e below (T9.setTop (mkF m 145 #[.val (.int u0), .val (.int u1), .val (.int u2), .val (.int u3), .val (.int u4), .val (.int u5), .val (.int dd), .val (.ref b1), .val (.int v0), .val (.int v1), .val (.int v2), .val (.int v3), .val (.int v4), .val (.ref b2), .unset, .unset] [(.int (osel (decide ((u5 &&& (31 : Int32)) = (0 : Int32))) (1 : Int32) (0 : Int32)))])) (T13.setFrames fs) by
      by_cases hd10 : (u5 &&& (31 : Int32)) = (0 : Int32)
      · rw [show (osel (decide ((u5 &&& (31 : Int32)) = (0 : Int32))) (1 : Int32) (0 : Int32)) = (1 : Int32) from if_pos (decide_eq_true hd10)] at hshd10
        refine XS.ifNo X9.here hx rfl (hb hby at_137) rfl ((if0 _ _).trans (teq hd10).2) ?_
        show Steps p.tables e below (T9.setTop (mkF m 140 #[.val (.int u0), .val (.int u1), .val (.int u2), .val (.int u3), .val (.int u4), .val (.int u5), .val (.int dd), .val (.ref b1), .val (.int v0), .val (.int v1), .val (.int v2), .val (.int v3), .val (.int v4), .val (.ref b2), .unset, .unset] [])) _
        refine XS.iconst X9.here hx rfl (hb hby at_140) ?_
        show Steps p.tables e below (T9.setTop (mkF m 141 #[.val (.int u0), .val (.int u1), .val (.int u2), .val (.int u3), .val (.int u4), .val (.int u5), .val (.int dd), .val (.ref b1), .val (.int v0), .val (.int v1), .val (.int v2), .val (.int v3), .val (.int v4), .val (.ref b2), .unset, .unset] [(.int (1 : Int32))])) _
        refine XS.goto X9.here hx rfl (pc0 := 141) (pc' := 145) rfl (hb hby at_141) (by decide) (by decide) ?_
        exact hshd10
      · rw [show (osel (decide ((u5 &&& (31 : Int32)) = (0 : Int32))) (1 : Int32) (0 : Int32)) = (0 : Int32) from if_neg (fun hh => absurd (of_decide_eq_true hh) hd10)] at hshd10
        refine XS.ifYes X9.here hx rfl (pc0 := 137) (pc' := 144) rfl (hb hby at_137) rfl ((if0 _ _).trans (feq hd10).2) (by decide) (by decide) ?_
        show Steps p.tables e below (T9.setTop (mkF m 144 #[.val (.int u0), .val (.int u1), .val (.int u2), .val (.int u3), .val (.int u4), .val (.int u5), .val (.int dd), .val (.ref b1), .val (.int v0), .val (.int v1), .val (.int v2), .val (.int v3), .val (.int v4), .val (.ref b2), .unset, .unset] [])) _
        refine XS.iconst X9.here hx rfl (hb hby at_144) ?_
        exact hshd10
    show Steps p.tables e below (T9.setTop (mkF m 145 #[.val (.int u0), .val (.int u1), .val (.int u2), .val (.int u3), .val (.int u4), .val (.int u5), .val (.int dd), .val (.ref b1), .val (.int v0), .val (.int v1), .val (.int v2), .val (.int v3), .val (.int v4), .val (.ref b2), .unset, .unset] [(.int (osel (decide ((u5 &&& (31 : Int32)) = (0 : Int32))) (1 : Int32) (0 : Int32)))])) _
    rw [hsm]
    show Steps p.tables e below (T9.setTop (mkF m 145 #[.val (.int u0), .val (.int u1), .val (.int u2), .val (.int u3), .val (.int u4), .val (.int u5), .val (.int dd), .val (.ref b1), .val (.int v0), .val (.int v1), .val (.int v2), .val (.int v3), .val (.int v4), .val (.ref b2), .unset, .unset] [(.int sm)])) _
    refine XS.istore X9.here hx rfl (hb hby at_145) rfl (l' := #[.val (.int u0), .val (.int u1), .val (.int u2), .val (.int u3), .val (.int u4), .val (.int u5), .val (.int dd), .val (.ref b1), .val (.int v0), .val (.int v1), .val (.int v2), .val (.int v3), .val (.int v4), .val (.ref b2), .val (.int sm), .unset]) rfl ?_
    refine XS.iload X9.here hx rfl (hb hby at_147) rfl ?_
    refine XS.iconst X9.here hx rfl (hb hby at_149) ?_
    show Steps p.tables e below (T9.setTop (mkF m 150 #[.val (.int u0), .val (.int u1), .val (.int u2), .val (.int u3), .val (.int u4), .val (.int u5), .val (.int dd), .val (.ref b1), .val (.int v0), .val (.int v1), .val (.int v2), .val (.int v3), .val (.int v4), .val (.ref b2), .val (.int sm), .unset] [(.int (5 : Int32)), (.int u5)])) _
    refine XS.ishr X9.here hx rfl (hb hby at_150) rfl ?_
    refine XS.iconst X9.here hx rfl (hb hby at_151) ?_
    refine XS.iand X9.here hx rfl (hb hby at_152) rfl ?_
    show Steps p.tables e below (T9.setTop (mkF m 153 #[.val (.int u0), .val (.int u1), .val (.int u2), .val (.int u3), .val (.int u4), .val (.int u5), .val (.int dd), .val (.ref b1), .val (.int v0), .val (.int v1), .val (.int v2), .val (.int v3), .val (.int v4), .val (.ref b2), .val (.int sm), .unset] [(.int ((u5 >>> ((5 : Int32) &&& 31)) &&& (3 : Int32)))])) _
    refine XS.istore X9.here hx rfl (hb hby at_153) rfl (l' := #[.val (.int u0), .val (.int u1), .val (.int u2), .val (.int u3), .val (.int u4), .val (.int u5), .val (.int dd), .val (.ref b1), .val (.int v0), .val (.int v1), .val (.int v2), .val (.int v3), .val (.int v4), .val (.ref b2), .val (.int sm), .val (.int ((u5 >>> ((5 : Int32) &&& 31)) &&& (3 : Int32)))]) rfl ?_
    refine XS.iload X9.here hx rfl (hb hby at_155) rfl ?_
    refine XS.iconst X9.here hx rfl (hb hby at_157) ?_
    show Steps p.tables e below (T9.setTop (mkF m 158 #[.val (.int u0), .val (.int u1), .val (.int u2), .val (.int u3), .val (.int u4), .val (.int u5), .val (.int dd), .val (.ref b1), .val (.int v0), .val (.int v1), .val (.int v2), .val (.int v3), .val (.int v4), .val (.ref b2), .val (.int sm), .val (.int ((u5 >>> ((5 : Int32) &&& 31)) &&& (3 : Int32)))] [(.int (1 : Int32)), (.int ((u5 >>> ((5 : Int32) &&& 31)) &&& (3 : Int32)))])) _
    refine XS.icmpYes X9.here hx rfl (pc0 := 158) (pc' := 186) rfl (hb hby at_158) rfl (feq hf1).2 (by decide) (by decide) ?_
    refine XS.iload X9.here hx rfl (hb hby at_186) rfl ?_
    refine XS.iconst X9.here hx rfl (hb hby at_188) ?_
    show Steps p.tables e below (T9.setTop (mkF m 189 #[.val (.int u0), .val (.int u1), .val (.int u2), .val (.int u3), .val (.int u4), .val (.int u5), .val (.int dd), .val (.ref b1), .val (.int v0), .val (.int v1), .val (.int v2), .val (.int v3), .val (.int v4), .val (.ref b2), .val (.int sm), .val (.int ((u5 >>> ((5 : Int32) &&& 31)) &&& (3 : Int32)))] [(.int (2 : Int32)), (.int ((u5 >>> ((5 : Int32) &&& 31)) &&& (3 : Int32)))])) _
    refine XS.icmpNo X9.here hx rfl (hb hby at_189) rfl (teq hf2).2 ?_
    refine XS.aload X9.here hx rfl (hb hby at_192) rfl rfl ?_
    refine XS.iloadN X9.here hx rfl (hb hby at_194) rfl ?_
    show Steps p.tables e below (T9.setTop (mkF m 195 #[.val (.int u0), .val (.int u1), .val (.int u2), .val (.int u3), .val (.int u4), .val (.int u5), .val (.int dd), .val (.ref b1), .val (.int v0), .val (.int v1), .val (.int v2), .val (.int v3), .val (.int v4), .val (.ref b2), .val (.int sm), .val (.int ((u5 >>> ((5 : Int32) &&& 31)) &&& (3 : Int32)))] [(.int u0), (.ref b1)])) _
    refine st11 _ ?_
    refine st12.trans ?_
    refine XS.ifNo X12.here hx rfl (hb hby at_201) rfl ((if0 _ _).trans (teq (by decide : (0 : Int32) = (0 : Int32))).2) ?_
    show Steps p.tables e below (T12.setTop (mkF m 204 #[.val (.int u0), .val (.int u1), .val (.int u2), .val (.int u3), .val (.int u4), .val (.int u5), .val (.int dd), .val (.ref b1), .val (.int v0), .val (.int v1), .val (.int v2), .val (.int v3), .val (.int v4), .val (.ref b2), .val (.int sm), .val (.int ((u5 >>> ((5 : Int32) &&& 31)) &&& (3 : Int32)))] [])) _
    refine XS.aload X12.here hx rfl (hb hby at_204) rfl rfl ?_
    refine XS.aload X12.here hx rfl (hb hby at_206) rfl rfl ?_
    refine st13.trans ?_
    show Steps p.tables e below (T13.setTop (mkF m 211 #[.val (.int u0), .val (.int u1), .val (.int u2), .val (.int u3), .val (.int u4), .val (.int u5), .val (.int dd), .val (.ref b1), .val (.int v0), .val (.int v1), .val (.int v2), .val (.int v3), .val (.int v4), .val (.ref b2), .val (.int sm), .val (.int ((u5 >>> ((5 : Int32) &&& 31)) &&& (3 : Int32)))] [(.int (1 : Int32))])) _
    refine XS.ifNo X13.here hx rfl (hb hby at_211) rfl ((if0 _ _).trans (feq (by decide : ¬ ((1 : Int32) = (0 : Int32)))).1) ?_
    refine XS.iconst X13.here hx rfl (hb hby at_214) ?_
    refine XS.goto X13.here hx rfl (pc0 := 215) (pc' := 219) rfl (hb hby at_215) (by decide) (by decide) ?_
    show Steps p.tables e below (T13.setTop (mkF m 219 #[.val (.int u0), .val (.int u1), .val (.int u2), .val (.int u3), .val (.int u4), .val (.int u5), .val (.int dd), .val (.ref b1), .val (.int v0), .val (.int v1), .val (.int v2), .val (.int v3), .val (.int v4), .val (.ref b2), .val (.int sm), .val (.int ((u5 >>> ((5 : Int32) &&& 31)) &&& (3 : Int32)))] [(.int (1 : Int32))])) _
    exact retN X13 hx (t := .boolean) Bd.returns (by simp) (hb hby at_219) hr
  · exact ⟨rfl, N13⟩
set_option maxRecDepth 65536 in
set_option maxHeartbeats 40000000 in
theorem rm_equals_17 (l : Launch) (Z : State) (a0 : Array Value) (hw : ∀ d ∈ tables_1, d.before a0 Z = true) (w : Nat → Addr) (κ : Nat → ClassId) (h0 : Heap) (n0 : Nat) (Z0 : n0 ≤ h0.size) (K : Kon Z h0 w κ) (u0 u1 u2 u3 u4 u5 dd v0 v1 v2 v3 v4 sm : Int32) (b1 : Addr) (b2 : Addr) (hf5 : u0 = v0) (hf6 : u1 = v1) (hf7 : u2 = v2) (hf8 : u3 = v3) (hf9 : u4 = v4) (fF_b1_com_example_bot_workflow_runner_botworkflowrunner_model_Progress_total : Fld Z h0 b1 "com/example/bot_workflow_runner/botworkflowrunner/model/Progress" "total" "I" (.int u0)) (fF_b1_com_example_bot_workflow_runner_botworkflowrunner_model_Progress_completed : Fld Z h0 b1 "com/example/bot_workflow_runner/botworkflowrunner/model/Progress" "completed" "I" (.int u1)) (fF_b1_com_example_bot_workflow_runner_botworkflowrunner_model_Progress_running : Fld Z h0 b1 "com/example/bot_workflow_runner/botworkflowrunner/model/Progress" "running" "I" (.int u2)) (fF_b1_com_example_bot_workflow_runner_botworkflowrunner_model_Progress_failed : Fld Z h0 b1 "com/example/bot_workflow_runner/botworkflowrunner/model/Progress" "failed" "I" (.int u3)) (fF_b1_com_example_bot_workflow_runner_botworkflowrunner_model_Progress_skipped : Fld Z h0 b1 "com/example/bot_workflow_runner/botworkflowrunner/model/Progress" "skipped" "I" (.int u4)) (fE_b2 : Exa Z h0 b2 "com/example/bot_workflow_runner/botworkflowrunner/model/Progress") (fF_b2_com_example_bot_workflow_runner_botworkflowrunner_model_Progress_total : Fld Z h0 b2 "com/example/bot_workflow_runner/botworkflowrunner/model/Progress" "total" "I" (.int v0)) (fF_b2_com_example_bot_workflow_runner_botworkflowrunner_model_Progress_completed : Fld Z h0 b2 "com/example/bot_workflow_runner/botworkflowrunner/model/Progress" "completed" "I" (.int v1)) (fF_b2_com_example_bot_workflow_runner_botworkflowrunner_model_Progress_running : Fld Z h0 b2 "com/example/bot_workflow_runner/botworkflowrunner/model/Progress" "running" "I" (.int v2)) (fF_b2_com_example_bot_workflow_runner_botworkflowrunner_model_Progress_failed : Fld Z h0 b2 "com/example/bot_workflow_runner/botworkflowrunner/model/Progress" "failed" "I" (.int v3)) (fF_b2_com_example_bot_workflow_runner_botworkflowrunner_model_Progress_skipped : Fld Z h0 b2 "com/example/bot_workflow_runner/botworkflowrunner/model/Progress" "skipped" "I" (.int v4)) :
    OM l Z (⟨"com/example/bot_workflow_runner/botworkflowrunner/model/Progress", "equals", "(Ljava/lang/Object;)Z"⟩ : MethodName) prog_31_method_10_code 3 (some .boolean) [] ({ frames := 0, cells := 0, slots := 0, locals := 0 } : Room) #[(.ref b1), (.ref b2)] h0 (OP (some (.int (1 : Int32))) n0 h0) := by
  refine MetFree.of_bodySF (plainFor_of_name pn_com_example_bot_workflow_runner_botworkflowrunner_model_Progress) hisR ?_
  intro p e s m args below meth c s₁ Bd hml0 hP hK
  obtain ⟨rfl, hZ, hh⟩ := hP
  have hx := Bd.exec
  have hby := Bd.bytes
  have hml : c.maxLocals = 3 := hml0
  have hown : s.vm.findClass "com/example/bot_workflow_runner/botworkflowrunner/model/Progress" = some m.cls := findClass_of_methodNamed Bd.named
  have hnm := (name_of_methodNamed Bd.named Bd.method).1
  have X0 : Stand p l e ({ frames := 0, cells := 0, slots := 0, locals := 0 } : Room) s m #[(.ref b1), (.ref b2)] below meth c s₁ [] 0 0 := Stand.of_body Bd
  have e0 : s₁.heap = h0 := by rw [← hh, Bd.state]; rfl
  have N0 := Fr.nil n0
  have pre0 : ∀ t, Steps p.tables e below (s₁.setTop (mkF m 0 #[.val (.ref b1), .val (.ref b2), .unset] [])) t → Steps p.tables e below (s₁.setTop (entryFrame m #[(.ref b1), (.ref b2)] 3)) t := fun t k => castTop (ef_prog_31_method_10_code_RR m b1 b2) k
  obtain ⟨T1, X1, e1, st1⟩ := instY X0 hx hZ hown (hw _ (List.mem_of_getElem? (i := 24) rfl)) e0 (Ins.self fE_b2) (g := (mkF m 1 #[.val (.ref b1), .val (.ref b2), .unset] [(.ref b2)])) rfl rfl (hb hby d_prog_31_method_10_code_1)
  obtain ⟨T2, X2, e2, st2⟩ := castY X1 hx hZ hown (hw _ (List.mem_of_getElem? (i := 24) rfl)) e1 (Ins.self fE_b2) (g := (mkF m 10 #[.val (.ref b1), .val (.ref b2), .unset] [(.ref b2)])) rfl rfl (hb hby d_prog_31_method_10_code_10)
  obtain ⟨T3, X3, e3, st3⟩ := getF X2 hx hZ hown (host := "") (Or.inl (hw _ (List.mem_of_getElem? (i := 9) rfl))) Via.refl e2 fF_b1_com_example_bot_workflow_runner_botworkflowrunner_model_Progress_total (g := (mkF m 15 #[.val (.ref b1), .val (.ref b2), .val (.ref b2)] [(.ref b1)])) rfl rfl (hb hby d_prog_31_method_10_code_15)
  obtain ⟨T4, X4, e4, st4⟩ := getF X3 hx hZ hown (host := "") (Or.inl (hw _ (List.mem_of_getElem? (i := 9) rfl))) Via.refl e3 fF_b2_com_example_bot_workflow_runner_botworkflowrunner_model_Progress_total (g := (mkF m 19 #[.val (.ref b1), .val (.ref b2), .val (.ref b2)] [(.ref b2), (.int u0)])) rfl rfl (hb hby d_prog_31_method_10_code_19)
  obtain ⟨T5, X5, e5, st5⟩ := getF X4 hx hZ hown (host := "") (Or.inl (hw _ (List.mem_of_getElem? (i := 11) rfl))) Via.refl e4 fF_b1_com_example_bot_workflow_runner_botworkflowrunner_model_Progress_completed (g := (mkF m 26 #[.val (.ref b1), .val (.ref b2), .val (.ref b2)] [(.ref b1)])) rfl rfl (hb hby d_prog_31_method_10_code_26)
  obtain ⟨T6, X6, e6, st6⟩ := getF X5 hx hZ hown (host := "") (Or.inl (hw _ (List.mem_of_getElem? (i := 11) rfl))) Via.refl e5 fF_b2_com_example_bot_workflow_runner_botworkflowrunner_model_Progress_completed (g := (mkF m 30 #[.val (.ref b1), .val (.ref b2), .val (.ref b2)] [(.ref b2), (.int u1)])) rfl rfl (hb hby d_prog_31_method_10_code_30)
  obtain ⟨T7, X7, e7, st7⟩ := getF X6 hx hZ hown (host := "") (Or.inl (hw _ (List.mem_of_getElem? (i := 13) rfl))) Via.refl e6 fF_b1_com_example_bot_workflow_runner_botworkflowrunner_model_Progress_running (g := (mkF m 37 #[.val (.ref b1), .val (.ref b2), .val (.ref b2)] [(.ref b1)])) rfl rfl (hb hby d_prog_31_method_10_code_37)
  obtain ⟨T8, X8, e8, st8⟩ := getF X7 hx hZ hown (host := "") (Or.inl (hw _ (List.mem_of_getElem? (i := 13) rfl))) Via.refl e7 fF_b2_com_example_bot_workflow_runner_botworkflowrunner_model_Progress_running (g := (mkF m 41 #[.val (.ref b1), .val (.ref b2), .val (.ref b2)] [(.ref b2), (.int u2)])) rfl rfl (hb hby d_prog_31_method_10_code_41)
  obtain ⟨T9, X9, e9, st9⟩ := getF X8 hx hZ hown (host := "") (Or.inl (hw _ (List.mem_of_getElem? (i := 15) rfl))) Via.refl e8 fF_b1_com_example_bot_workflow_runner_botworkflowrunner_model_Progress_failed (g := (mkF m 48 #[.val (.ref b1), .val (.ref b2), .val (.ref b2)] [(.ref b1)])) rfl rfl (hb hby d_prog_31_method_10_code_48)
  obtain ⟨T10, X10, e10, st10⟩ := getF X9 hx hZ hown (host := "") (Or.inl (hw _ (List.mem_of_getElem? (i := 15) rfl))) Via.refl e9 fF_b2_com_example_bot_workflow_runner_botworkflowrunner_model_Progress_failed (g := (mkF m 52 #[.val (.ref b1), .val (.ref b2), .val (.ref b2)] [(.ref b2), (.int u3)])) rfl rfl (hb hby d_prog_31_method_10_code_52)
  obtain ⟨T11, X11, e11, st11⟩ := getF X10 hx hZ hown (host := "") (Or.inl (hw _ (List.mem_of_getElem? (i := 17) rfl))) Via.refl e10 fF_b1_com_example_bot_workflow_runner_botworkflowrunner_model_Progress_skipped (g := (mkF m 59 #[.val (.ref b1), .val (.ref b2), .val (.ref b2)] [(.ref b1)])) rfl rfl (hb hby d_prog_31_method_10_code_59)
  obtain ⟨T12, X12, e12, st12⟩ := getF X11 hx hZ hown (host := "") (Or.inl (hw _ (List.mem_of_getElem? (i := 17) rfl))) Via.refl e11 fF_b2_com_example_bot_workflow_runner_botworkflowrunner_model_Progress_skipped (g := (mkF m 63 #[.val (.ref b1), .val (.ref b2), .val (.ref b2)] [(.ref b2), (.int u4)])) rfl rfl (hb hby d_prog_31_method_10_code_63)
  obtain ⟨fs, hr, hrun, hended, hW, hsame⟩ := X12.leave (v := (some (.int (1 : Int32)))) (fun h => by rw [Bd.returns] at h; cases h)
  refine ⟨_, _, pre0 _ ?_, hrun, hended, _, _, rfl, ?_, ⟨_, rfl⟩, hW, hsame.mono (by decide) (by decide)⟩
  · show Steps p.tables e below (s₁.setTop (mkF m 0 #[.val (.ref b1), .val (.ref b2), .unset] [])) _
    refine XS.aloadN X0.here hx rfl (hb hby d_prog_31_method_10_code_0) rfl rfl ?_
    refine st1 _ ?_
    refine XS.ifYes X1.here hx rfl (pc0 := 4) (pc' := 9) rfl (hb hby d_prog_31_method_10_code_4) rfl ((if0 _ _).trans (feq (by decide : ¬ ((1 : Int32) = (0 : Int32)))).2) (by decide) (by decide) ?_
    show Steps p.tables e below (T1.setTop (mkF m 9 #[.val (.ref b1), .val (.ref b2), .unset] [])) _
    refine XS.aloadN X1.here hx rfl (hb hby d_prog_31_method_10_code_9) rfl rfl ?_
    refine st2 _ ?_
    refine XS.astoreN X2.here hx rfl (hb hby d_prog_31_method_10_code_13) rfl rfl (l' := #[.val (.ref b1), .val (.ref b2), .val (.ref b2)]) rfl ?_
    show Steps p.tables e below (T2.setTop (mkF m 14 #[.val (.ref b1), .val (.ref b2), .val (.ref b2)] [])) _
    refine XS.aloadN X2.here hx rfl (hb hby d_prog_31_method_10_code_14) rfl rfl ?_
    refine st3 _ ?_
    refine XS.aloadN X3.here hx rfl (hb hby d_prog_31_method_10_code_18) rfl rfl ?_
    show Steps p.tables e below (T3.setTop (mkF m 19 #[.val (.ref b1), .val (.ref b2), .val (.ref b2)] [(.ref b2), (.int u0)])) _
    refine st4 _ ?_
    refine XS.icmpNo X4.here hx rfl (hb hby d_prog_31_method_10_code_22) rfl (teq hf5).2 ?_
    refine XS.aloadN X4.here hx rfl (hb hby d_prog_31_method_10_code_25) rfl rfl ?_
    show Steps p.tables e below (T4.setTop (mkF m 26 #[.val (.ref b1), .val (.ref b2), .val (.ref b2)] [(.ref b1)])) _
    refine st5 _ ?_
    refine XS.aloadN X5.here hx rfl (hb hby d_prog_31_method_10_code_29) rfl rfl ?_
    refine st6 _ ?_
    show Steps p.tables e below (T6.setTop (mkF m 33 #[.val (.ref b1), .val (.ref b2), .val (.ref b2)] [(.int v1), (.int u1)])) _
    refine XS.icmpNo X6.here hx rfl (hb hby d_prog_31_method_10_code_33) rfl (teq hf6).2 ?_
    refine XS.aloadN X6.here hx rfl (hb hby d_prog_31_method_10_code_36) rfl rfl ?_
    refine st7 _ ?_
    show Steps p.tables e below (T7.setTop (mkF m 40 #[.val (.ref b1), .val (.ref b2), .val (.ref b2)] [(.int u2)])) _
    refine XS.aloadN X7.here hx rfl (hb hby d_prog_31_method_10_code_40) rfl rfl ?_
    refine st8 _ ?_
    refine XS.icmpNo X8.here hx rfl (hb hby d_prog_31_method_10_code_44) rfl (teq hf7).2 ?_
    show Steps p.tables e below (T8.setTop (mkF m 47 #[.val (.ref b1), .val (.ref b2), .val (.ref b2)] [])) _
    refine XS.aloadN X8.here hx rfl (hb hby d_prog_31_method_10_code_47) rfl rfl ?_
    refine st9 _ ?_
    refine XS.aloadN X9.here hx rfl (hb hby d_prog_31_method_10_code_51) rfl rfl ?_
    show Steps p.tables e below (T9.setTop (mkF m 52 #[.val (.ref b1), .val (.ref b2), .val (.ref b2)] [(.ref b2), (.int u3)])) _
    refine st10 _ ?_
    refine XS.icmpNo X10.here hx rfl (hb hby d_prog_31_method_10_code_55) rfl (teq hf8).2 ?_
    refine XS.aloadN X10.here hx rfl (hb hby d_prog_31_method_10_code_58) rfl rfl ?_
    show Steps p.tables e below (T10.setTop (mkF m 59 #[.val (.ref b1), .val (.ref b2), .val (.ref b2)] [(.ref b1)])) _
    refine st11 _ ?_
    refine XS.aloadN X11.here hx rfl (hb hby d_prog_31_method_10_code_62) rfl rfl ?_
    refine st12 _ ?_
    show Steps p.tables e below (T12.setTop (mkF m 66 #[.val (.ref b1), .val (.ref b2), .val (.ref b2)] [(.int v4), (.int u4)])) _
    refine XS.icmpNo X12.here hx rfl (hb hby d_prog_31_method_10_code_66) rfl (teq hf9).2 ?_
    refine XS.iconst X12.here hx rfl (hb hby d_prog_31_method_10_code_69) ?_
    refine XS.goto X12.here hx rfl (pc0 := 70) (pc' := 74) rfl (hb hby d_prog_31_method_10_code_70) (by decide) (by decide) ?_
    show Steps p.tables e below (T12.setTop (mkF m 74 #[.val (.ref b1), .val (.ref b2), .val (.ref b2)] [(.int (1 : Int32))])) _
    exact retN X12 hx (t := .boolean) Bd.returns (by simp) (hb hby d_prog_31_method_10_code_74) hr
  · exact ⟨rfl, N0, e12⟩
set_option maxRecDepth 65536 in
set_option maxHeartbeats 40000000 in
theorem rm_equals_18 (l : Launch) (Z : State) (a0 : Array Value) (hw : ∀ d ∈ tables_1, d.before a0 Z = true) (w : Nat → Addr) (κ : Nat → ClassId) (h0 : Heap) (n0 : Nat) (Z0 : n0 ≤ h0.size) (K : Kon Z h0 w κ) (u0 u1 u2 u3 u4 u5 dd v0 v1 v2 v3 v4 sm : Int32) (b1 : Addr) (b2 : Addr) (hf5 : u0 = v0) (hf6 : u1 = v1) (hf7 : u2 = v2) (hf8 : u3 = v3) (hf9 : u4 = v4) (hv0 : (osel (decide ((u5 &&& (1 : Int32)) = (0 : Int32))) u0 (u0 + dd)) = v0) (hv1 : (osel (decide ((u5 &&& (2 : Int32)) = (0 : Int32))) u1 (u1 + dd)) = v1) (hv2 : (osel (decide ((u5 &&& (4 : Int32)) = (0 : Int32))) u2 (u2 + dd)) = v2) (hv3 : (osel (decide ((u5 &&& (8 : Int32)) = (0 : Int32))) u3 (u3 + dd)) = v3) (hv4 : (osel (decide ((u5 &&& (16 : Int32)) = (0 : Int32))) u4 (u4 + dd)) = v4) (fE_b1 : Exa Z h0 b1 "com/example/bot_workflow_runner/botworkflowrunner/model/Progress") (fF_b1_com_example_bot_workflow_runner_botworkflowrunner_model_Progress_total : Fld Z h0 b1 "com/example/bot_workflow_runner/botworkflowrunner/model/Progress" "total" "I" (.int u0)) (fF_b1_com_example_bot_workflow_runner_botworkflowrunner_model_Progress_completed : Fld Z h0 b1 "com/example/bot_workflow_runner/botworkflowrunner/model/Progress" "completed" "I" (.int u1)) (fF_b1_com_example_bot_workflow_runner_botworkflowrunner_model_Progress_running : Fld Z h0 b1 "com/example/bot_workflow_runner/botworkflowrunner/model/Progress" "running" "I" (.int u2)) (fF_b1_com_example_bot_workflow_runner_botworkflowrunner_model_Progress_failed : Fld Z h0 b1 "com/example/bot_workflow_runner/botworkflowrunner/model/Progress" "failed" "I" (.int u3)) (fF_b1_com_example_bot_workflow_runner_botworkflowrunner_model_Progress_skipped : Fld Z h0 b1 "com/example/bot_workflow_runner/botworkflowrunner/model/Progress" "skipped" "I" (.int u4)) (fF_b2_com_example_bot_workflow_runner_botworkflowrunner_model_Progress_total : Fld Z h0 b2 "com/example/bot_workflow_runner/botworkflowrunner/model/Progress" "total" "I" (.int v0)) (fF_b2_com_example_bot_workflow_runner_botworkflowrunner_model_Progress_completed : Fld Z h0 b2 "com/example/bot_workflow_runner/botworkflowrunner/model/Progress" "completed" "I" (.int v1)) (fF_b2_com_example_bot_workflow_runner_botworkflowrunner_model_Progress_running : Fld Z h0 b2 "com/example/bot_workflow_runner/botworkflowrunner/model/Progress" "running" "I" (.int v2)) (fF_b2_com_example_bot_workflow_runner_botworkflowrunner_model_Progress_failed : Fld Z h0 b2 "com/example/bot_workflow_runner/botworkflowrunner/model/Progress" "failed" "I" (.int v3)) (fF_b2_com_example_bot_workflow_runner_botworkflowrunner_model_Progress_skipped : Fld Z h0 b2 "com/example/bot_workflow_runner/botworkflowrunner/model/Progress" "skipped" "I" (.int v4)) :
    OM l Z (⟨"com/example/bot_workflow_runner/botworkflowrunner/model/Progress", "equals", "(Ljava/lang/Object;)Z"⟩ : MethodName) prog_31_method_10_code 3 (some .boolean) [] ({ frames := 0, cells := 0, slots := 0, locals := 0 } : Room) #[(.ref b2), (.ref b1)] h0 (OP (some (.int (1 : Int32))) n0 h0) := by
  refine MetFree.of_bodySF (plainFor_of_name pn_com_example_bot_workflow_runner_botworkflowrunner_model_Progress) hisR ?_
  intro p e s m args below meth c s₁ Bd hml0 hP hK
  obtain ⟨rfl, hZ, hh⟩ := hP
  have hx := Bd.exec
  have hby := Bd.bytes
  have hml : c.maxLocals = 3 := hml0
  have hown : s.vm.findClass "com/example/bot_workflow_runner/botworkflowrunner/model/Progress" = some m.cls := findClass_of_methodNamed Bd.named
  have hnm := (name_of_methodNamed Bd.named Bd.method).1
  have X0 : Stand p l e ({ frames := 0, cells := 0, slots := 0, locals := 0 } : Room) s m #[(.ref b2), (.ref b1)] below meth c s₁ [] 0 0 := Stand.of_body Bd
  have e0 : s₁.heap = h0 := by rw [← hh, Bd.state]; rfl
  have N0 := Fr.nil n0
  have pre0 : ∀ t, Steps p.tables e below (s₁.setTop (mkF m 0 #[.val (.ref b2), .val (.ref b1), .unset] [])) t → Steps p.tables e below (s₁.setTop (entryFrame m #[(.ref b2), (.ref b1)] 3)) t := fun t k => castTop (ef_prog_31_method_10_code_RR m b2 b1) k
  obtain ⟨T1, X1, e1, st1⟩ := instY X0 hx hZ hown (hw _ (List.mem_of_getElem? (i := 24) rfl)) e0 (Ins.self fE_b1) (g := (mkF m 1 #[.val (.ref b2), .val (.ref b1), .unset] [(.ref b1)])) rfl rfl (hb hby d_prog_31_method_10_code_1)
  obtain ⟨T2, X2, e2, st2⟩ := castY X1 hx hZ hown (hw _ (List.mem_of_getElem? (i := 24) rfl)) e1 (Ins.self fE_b1) (g := (mkF m 10 #[.val (.ref b2), .val (.ref b1), .unset] [(.ref b1)])) rfl rfl (hb hby d_prog_31_method_10_code_10)
  obtain ⟨T3, X3, e3, st3⟩ := getF X2 hx hZ hown (host := "") (Or.inl (hw _ (List.mem_of_getElem? (i := 9) rfl))) Via.refl e2 fF_b2_com_example_bot_workflow_runner_botworkflowrunner_model_Progress_total (g := (mkF m 15 #[.val (.ref b2), .val (.ref b1), .val (.ref b1)] [(.ref b2)])) rfl rfl (hb hby d_prog_31_method_10_code_15)
  obtain ⟨T4, X4, e4, st4⟩ := getF X3 hx hZ hown (host := "") (Or.inl (hw _ (List.mem_of_getElem? (i := 9) rfl))) Via.refl e3 fF_b1_com_example_bot_workflow_runner_botworkflowrunner_model_Progress_total (g := (mkF m 19 #[.val (.ref b2), .val (.ref b1), .val (.ref b1)] [(.ref b1), (.int v0)])) rfl rfl (hb hby d_prog_31_method_10_code_19)
  obtain ⟨T5, X5, e5, st5⟩ := getF X4 hx hZ hown (host := "") (Or.inl (hw _ (List.mem_of_getElem? (i := 11) rfl))) Via.refl e4 fF_b2_com_example_bot_workflow_runner_botworkflowrunner_model_Progress_completed (g := (mkF m 26 #[.val (.ref b2), .val (.ref b1), .val (.ref b1)] [(.ref b2)])) rfl rfl (hb hby d_prog_31_method_10_code_26)
  obtain ⟨T6, X6, e6, st6⟩ := getF X5 hx hZ hown (host := "") (Or.inl (hw _ (List.mem_of_getElem? (i := 11) rfl))) Via.refl e5 fF_b1_com_example_bot_workflow_runner_botworkflowrunner_model_Progress_completed (g := (mkF m 30 #[.val (.ref b2), .val (.ref b1), .val (.ref b1)] [(.ref b1), (.int v1)])) rfl rfl (hb hby d_prog_31_method_10_code_30)
  obtain ⟨T7, X7, e7, st7⟩ := getF X6 hx hZ hown (host := "") (Or.inl (hw _ (List.mem_of_getElem? (i := 13) rfl))) Via.refl e6 fF_b2_com_example_bot_workflow_runner_botworkflowrunner_model_Progress_running (g := (mkF m 37 #[.val (.ref b2), .val (.ref b1), .val (.ref b1)] [(.ref b2)])) rfl rfl (hb hby d_prog_31_method_10_code_37)
  obtain ⟨T8, X8, e8, st8⟩ := getF X7 hx hZ hown (host := "") (Or.inl (hw _ (List.mem_of_getElem? (i := 13) rfl))) Via.refl e7 fF_b1_com_example_bot_workflow_runner_botworkflowrunner_model_Progress_running (g := (mkF m 41 #[.val (.ref b2), .val (.ref b1), .val (.ref b1)] [(.ref b1), (.int v2)])) rfl rfl (hb hby d_prog_31_method_10_code_41)
  obtain ⟨T9, X9, e9, st9⟩ := getF X8 hx hZ hown (host := "") (Or.inl (hw _ (List.mem_of_getElem? (i := 15) rfl))) Via.refl e8 fF_b2_com_example_bot_workflow_runner_botworkflowrunner_model_Progress_failed (g := (mkF m 48 #[.val (.ref b2), .val (.ref b1), .val (.ref b1)] [(.ref b2)])) rfl rfl (hb hby d_prog_31_method_10_code_48)
  obtain ⟨T10, X10, e10, st10⟩ := getF X9 hx hZ hown (host := "") (Or.inl (hw _ (List.mem_of_getElem? (i := 15) rfl))) Via.refl e9 fF_b1_com_example_bot_workflow_runner_botworkflowrunner_model_Progress_failed (g := (mkF m 52 #[.val (.ref b2), .val (.ref b1), .val (.ref b1)] [(.ref b1), (.int v3)])) rfl rfl (hb hby d_prog_31_method_10_code_52)
  obtain ⟨T11, X11, e11, st11⟩ := getF X10 hx hZ hown (host := "") (Or.inl (hw _ (List.mem_of_getElem? (i := 17) rfl))) Via.refl e10 fF_b2_com_example_bot_workflow_runner_botworkflowrunner_model_Progress_skipped (g := (mkF m 59 #[.val (.ref b2), .val (.ref b1), .val (.ref b1)] [(.ref b2)])) rfl rfl (hb hby d_prog_31_method_10_code_59)
  obtain ⟨T12, X12, e12, st12⟩ := getF X11 hx hZ hown (host := "") (Or.inl (hw _ (List.mem_of_getElem? (i := 17) rfl))) Via.refl e11 fF_b1_com_example_bot_workflow_runner_botworkflowrunner_model_Progress_skipped (g := (mkF m 63 #[.val (.ref b2), .val (.ref b1), .val (.ref b1)] [(.ref b1), (.int v4)])) rfl rfl (hb hby d_prog_31_method_10_code_63)
  obtain ⟨fs, hr, hrun, hended, hW, hsame⟩ := X12.leave (v := (some (.int (1 : Int32)))) (fun h => by rw [Bd.returns] at h; cases h)
  refine ⟨_, _, pre0 _ ?_, hrun, hended, _, _, rfl, ?_, ⟨_, rfl⟩, hW, hsame.mono (by decide) (by decide)⟩
  · show Steps p.tables e below (s₁.setTop (mkF m 0 #[.val (.ref b2), .val (.ref b1), .unset] [])) _
    refine XS.aloadN X0.here hx rfl (hb hby d_prog_31_method_10_code_0) rfl rfl ?_
    refine st1 _ ?_
    refine XS.ifYes X1.here hx rfl (pc0 := 4) (pc' := 9) rfl (hb hby d_prog_31_method_10_code_4) rfl ((if0 _ _).trans (feq (by decide : ¬ ((1 : Int32) = (0 : Int32)))).2) (by decide) (by decide) ?_
    show Steps p.tables e below (T1.setTop (mkF m 9 #[.val (.ref b2), .val (.ref b1), .unset] [])) _
    refine XS.aloadN X1.here hx rfl (hb hby d_prog_31_method_10_code_9) rfl rfl ?_
    refine st2 _ ?_
    refine XS.astoreN X2.here hx rfl (hb hby d_prog_31_method_10_code_13) rfl rfl (l' := #[.val (.ref b2), .val (.ref b1), .val (.ref b1)]) rfl ?_
    show Steps p.tables e below (T2.setTop (mkF m 14 #[.val (.ref b2), .val (.ref b1), .val (.ref b1)] [])) _
    refine XS.aloadN X2.here hx rfl (hb hby d_prog_31_method_10_code_14) rfl rfl ?_
    refine st3 _ ?_
    refine XS.aloadN X3.here hx rfl (hb hby d_prog_31_method_10_code_18) rfl rfl ?_
    show Steps p.tables e below (T3.setTop (mkF m 19 #[.val (.ref b2), .val (.ref b1), .val (.ref b1)] [(.ref b1), (.int v0)])) _
    refine st4 _ ?_
    refine XS.icmpNo X4.here hx rfl (hb hby d_prog_31_method_10_code_22) rfl (teq (by have z0 := congrArg Int32.toInt hv0; have z1 := congrArg Int32.toInt hf5; have r0 := rng32 v0; have r1 := rng32 u0; exact Int32.toInt_inj.mp (by omega) : v0 = u0)).2 ?_
    refine XS.aloadN X4.here hx rfl (hb hby d_prog_31_method_10_code_25) rfl rfl ?_
    show Steps p.tables e below (T4.setTop (mkF m 26 #[.val (.ref b2), .val (.ref b1), .val (.ref b1)] [(.ref b2)])) _
    refine st5 _ ?_
    refine XS.aloadN X5.here hx rfl (hb hby d_prog_31_method_10_code_29) rfl rfl ?_
    refine st6 _ ?_
    show Steps p.tables e below (T6.setTop (mkF m 33 #[.val (.ref b2), .val (.ref b1), .val (.ref b1)] [(.int u1), (.int v1)])) _
    refine XS.icmpNo X6.here hx rfl (hb hby d_prog_31_method_10_code_33) rfl (teq (by have z0 := congrArg Int32.toInt hv1; have z1 := congrArg Int32.toInt hf6; have r0 := rng32 v1; have r1 := rng32 u1; exact Int32.toInt_inj.mp (by omega) : v1 = u1)).2 ?_
    refine XS.aloadN X6.here hx rfl (hb hby d_prog_31_method_10_code_36) rfl rfl ?_
    refine st7 _ ?_
    show Steps p.tables e below (T7.setTop (mkF m 40 #[.val (.ref b2), .val (.ref b1), .val (.ref b1)] [(.int v2)])) _
    refine XS.aloadN X7.here hx rfl (hb hby d_prog_31_method_10_code_40) rfl rfl ?_
    refine st8 _ ?_
    refine XS.icmpNo X8.here hx rfl (hb hby d_prog_31_method_10_code_44) rfl (teq (by have z0 := congrArg Int32.toInt hv2; have z1 := congrArg Int32.toInt hf7; have r0 := rng32 v2; have r1 := rng32 u2; exact Int32.toInt_inj.mp (by omega) : v2 = u2)).2 ?_
    show Steps p.tables e below (T8.setTop (mkF m 47 #[.val (.ref b2), .val (.ref b1), .val (.ref b1)] [])) _
    refine XS.aloadN X8.here hx rfl (hb hby d_prog_31_method_10_code_47) rfl rfl ?_
    refine st9 _ ?_
    refine XS.aloadN X9.here hx rfl (hb hby d_prog_31_method_10_code_51) rfl rfl ?_
    show Steps p.tables e below (T9.setTop (mkF m 52 #[.val (.ref b2), .val (.ref b1), .val (.ref b1)] [(.ref b1), (.int v3)])) _
    refine st10 _ ?_
    refine XS.icmpNo X10.here hx rfl (hb hby d_prog_31_method_10_code_55) rfl (teq (by have z0 := congrArg Int32.toInt hv3; have z1 := congrArg Int32.toInt hf8; have r0 := rng32 v3; have r1 := rng32 u3; exact Int32.toInt_inj.mp (by omega) : v3 = u3)).2 ?_
    refine XS.aloadN X10.here hx rfl (hb hby d_prog_31_method_10_code_58) rfl rfl ?_
    show Steps p.tables e below (T10.setTop (mkF m 59 #[.val (.ref b2), .val (.ref b1), .val (.ref b1)] [(.ref b2)])) _
    refine st11 _ ?_
    refine XS.aloadN X11.here hx rfl (hb hby d_prog_31_method_10_code_62) rfl rfl ?_
    refine st12 _ ?_
    show Steps p.tables e below (T12.setTop (mkF m 66 #[.val (.ref b2), .val (.ref b1), .val (.ref b1)] [(.int u4), (.int v4)])) _
    refine XS.icmpNo X12.here hx rfl (hb hby d_prog_31_method_10_code_66) rfl (teq (by have z0 := congrArg Int32.toInt hv4; have z1 := congrArg Int32.toInt hf9; have r0 := rng32 v4; have r1 := rng32 u4; exact Int32.toInt_inj.mp (by omega) : v4 = u4)).2 ?_
    refine XS.iconst X12.here hx rfl (hb hby d_prog_31_method_10_code_69) ?_
    refine XS.goto X12.here hx rfl (pc0 := 70) (pc' := 74) rfl (hb hby d_prog_31_method_10_code_70) (by decide) (by decide) ?_
    show Steps p.tables e below (T12.setTop (mkF m 74 #[.val (.ref b2), .val (.ref b1), .val (.ref b1)] [(.int (1 : Int32))])) _
    exact retN X12 hx (t := .boolean) Bd.returns (by simp) (hb hby d_prog_31_method_10_code_74) hr
  · exact ⟨rfl, N0, e12⟩
set_option maxRecDepth 65536 in
set_option maxHeartbeats 40000000 in
theorem rm0_19 (l : Launch) (Z : State) (a0 : Array Value) (hw : ∀ d ∈ tables_1, d.before a0 Z = true) (w : Nat → Addr) (κ : Nat → ClassId) (h0 : Heap) (n0 : Nat) (Z0 : n0 ≤ h0.size) (K : Kon Z h0 w κ) (u0 u1 u2 u3 u4 u5 dd v0 v1 v2 v3 v4 sm : Int32) (hdd : ((u5 >>> ((8 : Int32) &&& 31)) ||| (1 : Int32)) = dd) (hf1 : ¬ (((u5 >>> ((5 : Int32) &&& 31)) &&& (3 : Int32)) = (1 : Int32))) (hf10 : (1 : Int32) = sm) (hf2 : ¬ (((u5 >>> ((5 : Int32) &&& 31)) &&& (3 : Int32)) = (2 : Int32))) (hf5 : u0 = v0) (hf6 : u1 = v1) (hf7 : u2 = v2) (hf8 : u3 = v3) (hf9 : u4 = v4) (hsm : (osel (decide ((u5 &&& (31 : Int32)) = (0 : Int32))) (1 : Int32) (0 : Int32)) = sm) (hv0 : (osel (decide ((u5 &&& (1 : Int32)) = (0 : Int32))) u0 (u0 + dd)) = v0) (hv1 : (osel (decide ((u5 &&& (2 : Int32)) = (0 : Int32))) u1 (u1 + dd)) = v1) (hv2 : (osel (decide ((u5 &&& (4 : Int32)) = (0 : Int32))) u2 (u2 + dd)) = v2) (hv3 : (osel (decide ((u5 &&& (8 : Int32)) = (0 : Int32))) u3 (u3 + dd)) = v3) (hv4 : (osel (decide ((u5 &&& (16 : Int32)) = (0 : Int32))) u4 (u4 + dd)) = v4) :
    OM l Z x code maxLocals ret tables_1 room_1 #[(.int u0), (.int u1), (.int u2), (.int u3), (.int u4), (.int u5)] h0 (OF (some (.int (1 : Int32))) n0) := by
  refine MetFree.of_bodySF (plainFor_of_name pn_com_example_bot_workflow_runner_botworkflowrunner_model_ProgressEqualsPinLaw) hisR ?_
  intro p e s m args below meth c s₁ Bd hml0 hP hK
  obtain ⟨rfl, hZ, hh⟩ := hP
  have hx := Bd.exec
  have hby := Bd.bytes
  have hml : c.maxLocals = 16 := hml0
  have hown : s.vm.findClass "com/example/bot_workflow_runner/botworkflowrunner/model/ProgressEqualsPinLaw" = some m.cls := findClass_of_methodNamed Bd.named
  have hnm := (name_of_methodNamed Bd.named Bd.method).1
  have X0 : Stand p l e room_1 s m #[(.int u0), (.int u1), (.int u2), (.int u3), (.int u4), (.int u5)] below meth c s₁ [] 0 0 := Stand.of_body Bd
  have e0 : s₁.heap = h0 := by rw [← hh, Bd.state]; rfl
  have N0 := Fr.nil n0
  have pre0 : ∀ t, Steps p.tables e below (s₁.setTop (mkF m 0 #[.val (.int u0), .val (.int u1), .val (.int u2), .val (.int u3), .val (.int u4), .val (.int u5), .unset, .unset, .unset, .unset, .unset, .unset, .unset, .unset, .unset, .unset] [])) t → Steps p.tables e below (s₁.setTop (entryFrame m #[(.int u0), (.int u1), (.int u2), (.int u3), (.int u4), (.int u5)] maxLocals)) t := fun t k => castTop (ef_code_IIIIII m u0 u1 u2 u3 u4 u5) k
  obtain ⟨T1, h1, X1, e1, E1, A1, D1, -, st1⟩ := newO X0 hx hZ hown (hw _ (List.mem_of_getElem? (i := 0) rfl)) (hw _ (List.mem_of_getElem? (i := 1) rfl)) (hw _ (List.mem_of_getElem? (i := 2) rfl)) e0 (g := (mkF m 9 #[.val (.int u0), .val (.int u1), .val (.int u2), .val (.int u3), .val (.int u4), .val (.int u5), .val (.int dd), .unset, .unset, .unset, .unset, .unset, .unset, .unset, .unset, .unset] [])) rfl (hb hby at_9) (by decide) (by decide)
  obtain ⟨b1, g1⟩ : ∃ z, z = h0.size := ⟨_, rfl⟩
  rw [← g1] at A1 D1 st1
  have hG1 : n0 ≤ b1 := Nat.le_trans Z0 (Nat.le_of_eq g1.symm)
  have hKN1 : ∀ i, i < 1 → w i ≠ b1 := fun i hi => by rw [g1]; exact Nat.ne_of_lt (K.lt i hi)
  have K1 := K.ext E1
  have Z1 : n0 ≤ h1.size := Nat.le_trans Z0 E1.1
  have f1_total : Fld Z h1 b1 "com/example/bot_workflow_runner/botworkflowrunner/model/Progress" "total" "I" (.int (0 : Int32)) := D1 (Or.inr (hw _ (List.mem_of_getElem? (i := 10) rfl))) (ty := .int) (by decide)
  have f1_completed : Fld Z h1 b1 "com/example/bot_workflow_runner/botworkflowrunner/model/Progress" "completed" "I" (.int (0 : Int32)) := D1 (Or.inr (hw _ (List.mem_of_getElem? (i := 12) rfl))) (ty := .int) (by decide)
  have f1_running : Fld Z h1 b1 "com/example/bot_workflow_runner/botworkflowrunner/model/Progress" "running" "I" (.int (0 : Int32)) := D1 (Or.inr (hw _ (List.mem_of_getElem? (i := 14) rfl))) (ty := .int) (by decide)
  have f1_failed : Fld Z h1 b1 "com/example/bot_workflow_runner/botworkflowrunner/model/Progress" "failed" "I" (.int (0 : Int32)) := D1 (Or.inr (hw _ (List.mem_of_getElem? (i := 16) rfl))) (ty := .int) (by decide)
  have f1_skipped : Fld Z h1 b1 "com/example/bot_workflow_runner/botworkflowrunner/model/Progress" "skipped" "I" (.int (0 : Int32)) := D1 (Or.inr (hw _ (List.mem_of_getElem? (i := 18) rfl))) (ty := .int) (by decide)
  obtain ⟨_, _, ⟨T2, L2, kk2, n2⟩, -, X2, ⟨Lc2, hQ2, l2, y2, z2⟩, st2⟩ := Jvm.Stand.specialBack X1 hx (y := (⟨"com/example/bot_workflow_runner/botworkflowrunner/model/Progress", "<init>", "(IIIII)V"⟩ : MethodName)) rfl hown (mvT hZ (hw _ (List.mem_of_getElem? (i := 3) rfl))) (mvT hZ (hw _ (List.mem_of_getElem? (i := 4) rfl))) (mvT hZ (hw _ (List.mem_of_getElem? (i := 5) rfl))) (by decide) (backOf (W := 1) (rm__init__1 l Z a0 hw w κ h1 n0 Z1 K1 u0 u1 u2 u3 u4 u5 dd v0 v1 v2 v3 v4 sm b1 A1 f1_total f1_completed f1_running f1_failed f1_skipped hG1 hKN1) hZ (hw _ (List.mem_of_getElem? (i := 5) rfl)) (hw _ (List.mem_of_getElem? (i := 2) rfl)) (by decide) (by decide)) (g := (mkF m 19 #[.val (.int u0), .val (.int u1), .val (.int u2), .val (.int u3), .val (.int u4), .val (.int u5), .val (.int dd), .unset, .unset, .unset, .unset, .unset, .unset, .unset, .unset, .unset] [(.int u4), (.int u3), (.int u2), (.int u1), (.int u0), (.ref b1), (.ref b1)])) rfl (by rw [hml]; rfl) (Steps.refl _) (a := b1) (argsL := [(.int u0), (.int u1), (.int u2), (.int u3), (.int u4)]) (rest := [(.ref b1)]) (lenOf pd_28IIIII29V rfl) rfl (by show 2 * 0 + _ ≤ _; exact Nat.le_of_eq rfl) (hb hby at_19) (fun _ _ => ⟨rfl, e1, (by decide : 1 + 0 ≤ _), (by decide : 5 + 0 ≤ _)⟩)
  dsimp only [Pt.U, Pt.locs, Pt.cells, Pt.slots] at X2 l2 y2 z2 st2 hQ2
  subst l2 y2 z2
  obtain ⟨rfl, N2q, Z2, K2, f2_0, f2_1, f2_2, f2_3, f2_4, f2_5⟩ := hQ2
  have N2 := Fr.app N0 N2q
  obtain ⟨T8, h8, X8, e8, E8, A8, D8, -, st8⟩ := newO X2 hx hZ hown (hw _ (List.mem_of_getElem? (i := 0) rfl)) (hw _ (List.mem_of_getElem? (i := 1) rfl)) (hw _ (List.mem_of_getElem? (i := 2) rfl)) rfl (g := (mkF m 113 #[.val (.int u0), .val (.int u1), .val (.int u2), .val (.int u3), .val (.int u4), .val (.int u5), .val (.int dd), .val (.ref b1), .val (.int v0), .val (.int v1), .val (.int v2), .val (.int v3), .val (.int v4), .unset, .unset, .unset] [])) rfl (hb hby at_113) (by decide) (by decide)
  obtain ⟨b2, g8⟩ : ∃ z, z = T2.heap.size := ⟨_, rfl⟩
  rw [← g8] at A8 D8 st8
  have hG8 : n0 ≤ b2 := Nat.le_trans Z2 (Nat.le_of_eq g8.symm)
  have hN8_0 : b1 ≠ b2 := by rw [g8]; exact Nat.ne_of_lt f2_0.lt
  have hKN8 : ∀ i, i < 1 → w i ≠ b2 := fun i hi => by rw [g8]; exact Nat.ne_of_lt (K2.lt i hi)
  have f8_fE_b1 := f2_0.ext E8
  have f8_fF_b1_com_example_bot_workflow_runner_botworkflowrunner_model_Progress_total := f2_1.ext E8
  have f8_fF_b1_com_example_bot_workflow_runner_botworkflowrunner_model_Progress_completed := f2_2.ext E8
  have f8_fF_b1_com_example_bot_workflow_runner_botworkflowrunner_model_Progress_running := f2_3.ext E8
  have f8_fF_b1_com_example_bot_workflow_runner_botworkflowrunner_model_Progress_failed := f2_4.ext E8
  have f8_fF_b1_com_example_bot_workflow_runner_botworkflowrunner_model_Progress_skipped := f2_5.ext E8
  have K8 := K2.ext E8
  have Z8 : n0 ≤ h8.size := Nat.le_trans Z2 E8.1
  have f8_total : Fld Z h8 b2 "com/example/bot_workflow_runner/botworkflowrunner/model/Progress" "total" "I" (.int (0 : Int32)) := D8 (Or.inr (hw _ (List.mem_of_getElem? (i := 10) rfl))) (ty := .int) (by decide)
  have f8_completed : Fld Z h8 b2 "com/example/bot_workflow_runner/botworkflowrunner/model/Progress" "completed" "I" (.int (0 : Int32)) := D8 (Or.inr (hw _ (List.mem_of_getElem? (i := 12) rfl))) (ty := .int) (by decide)
  have f8_running : Fld Z h8 b2 "com/example/bot_workflow_runner/botworkflowrunner/model/Progress" "running" "I" (.int (0 : Int32)) := D8 (Or.inr (hw _ (List.mem_of_getElem? (i := 14) rfl))) (ty := .int) (by decide)
  have f8_failed : Fld Z h8 b2 "com/example/bot_workflow_runner/botworkflowrunner/model/Progress" "failed" "I" (.int (0 : Int32)) := D8 (Or.inr (hw _ (List.mem_of_getElem? (i := 16) rfl))) (ty := .int) (by decide)
  have f8_skipped : Fld Z h8 b2 "com/example/bot_workflow_runner/botworkflowrunner/model/Progress" "skipped" "I" (.int (0 : Int32)) := D8 (Or.inr (hw _ (List.mem_of_getElem? (i := 18) rfl))) (ty := .int) (by decide)
  obtain ⟨_, _, ⟨T9, L9, kk9, n9⟩, -, X9, ⟨Lc9, hQ9, l9, y9, z9⟩, st9⟩ := Jvm.Stand.specialBack X8 hx (y := (⟨"com/example/bot_workflow_runner/botworkflowrunner/model/Progress", "<init>", "(IIIII)V"⟩ : MethodName)) rfl hown (mvT hZ (hw _ (List.mem_of_getElem? (i := 3) rfl))) (mvT hZ (hw _ (List.mem_of_getElem? (i := 4) rfl))) (mvT hZ (hw _ (List.mem_of_getElem? (i := 5) rfl))) (by decide) (backOf (W := 1) (rm__init__2 l Z a0 hw w κ h8 n0 Z8 K8 u0 u1 u2 u3 u4 u5 dd v0 v1 v2 v3 v4 sm b1 b2 f8_fE_b1 f8_fF_b1_com_example_bot_workflow_runner_botworkflowrunner_model_Progress_total f8_fF_b1_com_example_bot_workflow_runner_botworkflowrunner_model_Progress_completed f8_fF_b1_com_example_bot_workflow_runner_botworkflowrunner_model_Progress_running f8_fF_b1_com_example_bot_workflow_runner_botworkflowrunner_model_Progress_failed f8_fF_b1_com_example_bot_workflow_runner_botworkflowrunner_model_Progress_skipped A8 f8_total f8_completed f8_running f8_failed f8_skipped hG1 hKN1 hG8 hN8_0 hKN8) hZ (hw _ (List.mem_of_getElem? (i := 5) rfl)) (hw _ (List.mem_of_getElem? (i := 2) rfl)) (by decide) (by decide)) (g := (mkF m 127 #[.val (.int u0), .val (.int u1), .val (.int u2), .val (.int u3), .val (.int u4), .val (.int u5), .val (.int dd), .val (.ref b1), .val (.int v0), .val (.int v1), .val (.int v2), .val (.int v3), .val (.int v4), .unset, .unset, .unset] [(.int v4), (.int v3), (.int v2), (.int v1), (.int v0), (.ref b2), (.ref b2)])) rfl (by rw [hml]; rfl) (Steps.refl _) (a := b2) (argsL := [(.int v0), (.int v1), (.int v2), (.int v3), (.int v4)]) (rest := [(.ref b2)]) (lenOf pd_28IIIII29V rfl) rfl (by show 2 * 0 + _ ≤ _; exact Nat.le_of_eq rfl) (hb hby at_127) (fun _ _ => ⟨rfl, e8, (by decide : 2 + 0 ≤ _), (by decide : 10 + 0 ≤ _)⟩)
  dsimp only [Pt.U, Pt.locs, Pt.cells, Pt.slots] at X9 l9 y9 z9 st9 hQ9
  subst l9 y9 z9
  obtain ⟨rfl, N9q, Z9, K9, f9_0, f9_1, f9_2, f9_3, f9_4, f9_5, f9_6, f9_7, f9_8, f9_9, f9_10, f9_11⟩ := hQ9
  have N9 := Fr.app N2 N9q
  obtain ⟨cq11, kq11, qa11, qb11, qc11⟩ := isOf hZ rfl f9_0
  obtain ⟨_, _, ⟨T11, L11, kk11, n11⟩, -, X11, ⟨Lc11, hQ11, l11, y11, z11⟩, st11⟩ := X9.virtualBack hx (y := (⟨"com/example/bot_workflow_runner/botworkflowrunner/model/Progress", "equals", "(Ljava/lang/Object;)Z"⟩ : MethodName)) (z := (⟨"com/example/bot_workflow_runner/botworkflowrunner/model/Progress", "equals", "(Ljava/lang/Object;)Z"⟩ : MethodName)) hown (mvT hZ (hw _ (List.mem_of_getElem? (i := 19) rfl))) (mvT hZ (hw _ (List.mem_of_getElem? (i := 20) rfl))) (notFace_of_selects (args := #[]) (mvT hZ (hw _ (List.mem_of_getElem? (i := 22) rfl)))) (mvT hZ (hw _ (List.mem_of_getElem? (i := 22) rfl))) (mvT hZ (hw _ (List.mem_of_getElem? (i := 21) rfl))) (by decide) (backOf (W := 0) (rm_equals_17 l Z a0 hw w κ T9.heap n0 Z9 K9 u0 u1 u2 u3 u4 u5 dd v0 v1 v2 v3 v4 sm b1 b2 hf5 hf6 hf7 hf8 hf9 f9_1 f9_2 f9_3 f9_4 f9_5 f9_6 f9_7 f9_8 f9_9 f9_10 f9_11) hZ (hw _ (List.mem_of_getElem? (i := 23) rfl)) (hw _ (List.mem_of_getElem? (i := 2) rfl)) (by decide) (by decide)) qa11 qc11 (g := (mkF m 224 #[.val (.int u0), .val (.int u1), .val (.int u2), .val (.int u3), .val (.int u4), .val (.int u5), .val (.int dd), .val (.ref b1), .val (.int v0), .val (.int v1), .val (.int v2), .val (.int v3), .val (.int v4), .val (.ref b2), .val (.int sm), .val (.int ((u5 >>> ((5 : Int32) &&& 31)) &&& (3 : Int32)))] [(.ref b2), (.ref b1)])) rfl (by rw [hml]; rfl) (Steps.refl _) (argsL := [(.ref b2)]) (rest := []) (lenOf pd_28Ljava2flang2fObject3b29Z rfl) rfl (by show 2 * 0 + _ ≤ _; exact Nat.le_of_eq rfl) (hb hby at_224) (fun _ _ => ⟨rfl, rfl, (by decide : 2 + 0 ≤ _), (by decide : 10 + 0 ≤ _)⟩)
  dsimp only [Pt.U, Pt.locs, Pt.cells, Pt.slots] at X11 l11 y11 z11 st11 hQ11
  subst l11 y11 z11
  obtain ⟨rfl, N11q, e11⟩ := hQ11
  have N11 := Fr.app N9 N11q
  obtain ⟨cq12, kq12, qa12, qb12, qc12⟩ := isOf hZ e11 f9_6
  obtain ⟨_, _, ⟨T12, L12, kk12, n12⟩, -, X12, ⟨Lc12, hQ12, l12, y12, z12⟩, st12⟩ := X11.virtualBack hx (y := (⟨"com/example/bot_workflow_runner/botworkflowrunner/model/Progress", "equals", "(Ljava/lang/Object;)Z"⟩ : MethodName)) (z := (⟨"com/example/bot_workflow_runner/botworkflowrunner/model/Progress", "equals", "(Ljava/lang/Object;)Z"⟩ : MethodName)) hown (mvT hZ (hw _ (List.mem_of_getElem? (i := 19) rfl))) (mvT hZ (hw _ (List.mem_of_getElem? (i := 20) rfl))) (notFace_of_selects (args := #[]) (mvT hZ (hw _ (List.mem_of_getElem? (i := 22) rfl)))) (mvT hZ (hw _ (List.mem_of_getElem? (i := 22) rfl))) (mvT hZ (hw _ (List.mem_of_getElem? (i := 21) rfl))) (by decide) (backOf (W := 0) (rm_equals_18 l Z a0 hw w κ T9.heap n0 Z9 K9 u0 u1 u2 u3 u4 u5 dd v0 v1 v2 v3 v4 sm b1 b2 hf5 hf6 hf7 hf8 hf9 hv0 hv1 hv2 hv3 hv4 f9_0 f9_1 f9_2 f9_3 f9_4 f9_5 f9_7 f9_8 f9_9 f9_10 f9_11) hZ (hw _ (List.mem_of_getElem? (i := 23) rfl)) (hw _ (List.mem_of_getElem? (i := 2) rfl)) (by decide) (by decide)) qa12 qc12 (g := (mkF m 236 #[.val (.int u0), .val (.int u1), .val (.int u2), .val (.int u3), .val (.int u4), .val (.int u5), .val (.int dd), .val (.ref b1), .val (.int v0), .val (.int v1), .val (.int v2), .val (.int v3), .val (.int v4), .val (.ref b2), .val (.int sm), .val (.int ((u5 >>> ((5 : Int32) &&& 31)) &&& (3 : Int32)))] [(.ref b1), (.ref b2)])) rfl (by rw [hml]; rfl) (Steps.refl _) (argsL := [(.ref b1)]) (rest := []) (lenOf pd_28Ljava2flang2fObject3b29Z rfl) rfl (by show 2 * 0 + _ ≤ _; exact Nat.le_of_eq rfl) (hb hby at_236) (fun _ _ => ⟨rfl, e11, (by decide : 2 + 0 ≤ _), (by decide : 10 + 0 ≤ _)⟩)
  dsimp only [Pt.U, Pt.locs, Pt.cells, Pt.slots] at X12 l12 y12 z12 st12 hQ12
  subst l12 y12 z12
  obtain ⟨rfl, N12q, e12⟩ := hQ12
  have N12 := Fr.app N11 N12q
  obtain ⟨cq13, kq13, qa13, qb13, qc13⟩ := isOf hZ e12 f9_0
  obtain ⟨_, _, ⟨T13, L13, kk13, n13⟩, -, X13, ⟨Lc13, hQ13, l13, y13, z13⟩, st13⟩ := X12.virtualBack hx (y := (⟨"com/example/bot_workflow_runner/botworkflowrunner/model/Progress", "equals", "(Ljava/lang/Object;)Z"⟩ : MethodName)) (z := (⟨"com/example/bot_workflow_runner/botworkflowrunner/model/Progress", "equals", "(Ljava/lang/Object;)Z"⟩ : MethodName)) hown (mvT hZ (hw _ (List.mem_of_getElem? (i := 19) rfl))) (mvT hZ (hw _ (List.mem_of_getElem? (i := 20) rfl))) (notFace_of_selects (args := #[]) (mvT hZ (hw _ (List.mem_of_getElem? (i := 22) rfl)))) (mvT hZ (hw _ (List.mem_of_getElem? (i := 22) rfl))) (mvT hZ (hw _ (List.mem_of_getElem? (i := 21) rfl))) (by decide) (backOf (W := 0) (rm_equals_4 l Z a0 hw w κ T9.heap n0 Z9 K9 u0 u1 u2 u3 u4 u5 dd v0 v1 v2 v3 v4 sm b1 b2 f9_0 f9_1 f9_2 f9_3 f9_4 f9_5) hZ (hw _ (List.mem_of_getElem? (i := 23) rfl)) (hw _ (List.mem_of_getElem? (i := 2) rfl)) (by decide) (by decide)) qa13 qc13 (g := (mkF m 248 #[.val (.int u0), .val (.int u1), .val (.int u2), .val (.int u3), .val (.int u4), .val (.int u5), .val (.int dd), .val (.ref b1), .val (.int v0), .val (.int v1), .val (.int v2), .val (.int v3), .val (.int v4), .val (.ref b2), .val (.int sm), .val (.int ((u5 >>> ((5 : Int32) &&& 31)) &&& (3 : Int32)))] [(.ref b1), (.ref b1)])) rfl (by rw [hml]; rfl) (Steps.refl _) (argsL := [(.ref b1)]) (rest := []) (lenOf pd_28Ljava2flang2fObject3b29Z rfl) rfl (by show 2 * 0 + _ ≤ _; exact Nat.le_of_eq rfl) (hb hby at_248) (fun _ _ => ⟨rfl, e12, (by decide : 2 + 0 ≤ _), (by decide : 10 + 0 ≤ _)⟩)
  dsimp only [Pt.U, Pt.locs, Pt.cells, Pt.slots] at X13 l13 y13 z13 st13 hQ13
  subst l13 y13 z13
  obtain ⟨rfl, N13q, e13⟩ := hQ13
  have N13 := Fr.app N12 N13q
  obtain ⟨fs, hr, hrun, hended, hW, hsame⟩ := X13.leave (v := (some (.int (1 : Int32)))) (fun h => by rw [Bd.returns] at h; cases h)
  refine ⟨_, _, pre0 _ ?_, hrun, hended, _, _, rfl, ?_, ⟨_, rfl⟩, hW, hsame.mono (by decide) (by decide)⟩
  · show Steps p.tables e below (s₁.setTop (mkF m 0 #[.val (.int u0), .val (.int u1), .val (.int u2), .val (.int u3), .val (.int u4), .val (.int u5), .unset, .unset, .unset, .unset, .unset, .unset, .unset, .unset, .unset, .unset] [])) _
    refine XS.iload X0.here hx rfl (hb hby at_0) rfl ?_
    refine XS.bipush X0.here hx rfl (hb hby at_2) ?_
    refine XS.ishr X0.here hx rfl (hb hby at_4) rfl ?_
    show Steps p.tables e below (s₁.setTop (mkF m 5 #[.val (.int u0), .val (.int u1), .val (.int u2), .val (.int u3), .val (.int u4), .val (.int u5), .unset, .unset, .unset, .unset, .unset, .unset, .unset, .unset, .unset, .unset] [(.int (u5 >>> ((8 : Int32) &&& 31)))])) _
    refine XS.iconst X0.here hx rfl (hb hby at_5) ?_
    refine XS.ior X0.here hx rfl (hb hby at_6) rfl ?_
    show Steps p.tables e below (s₁.setTop (mkF m 7 #[.val (.int u0), .val (.int u1), .val (.int u2), .val (.int u3), .val (.int u4), .val (.int u5), .unset, .unset, .unset, .unset, .unset, .unset, .unset, .unset, .unset, .unset] [(.int ((u5 >>> ((8 : Int32) &&& 31)) ||| (1 : Int32)))])) _
    rw [hdd]
    show Steps p.tables e below (s₁.setTop (mkF m 7 #[.val (.int u0), .val (.int u1), .val (.int u2), .val (.int u3), .val (.int u4), .val (.int u5), .unset, .unset, .unset, .unset, .unset, .unset, .unset, .unset, .unset, .unset] [(.int dd)])) _
    refine XS.istore X0.here hx rfl (hb hby at_7) rfl (l' := #[.val (.int u0), .val (.int u1), .val (.int u2), .val (.int u3), .val (.int u4), .val (.int u5), .val (.int dd), .unset, .unset, .unset, .unset, .unset, .unset, .unset, .unset, .unset]) rfl ?_
    refine st1 _ ?_
    refine XS.dup X1.here hx rfl (hb hby at_12) rfl rfl ?_
    show Steps p.tables e below (T1.setTop (mkF m 13 #[.val (.int u0), .val (.int u1), .val (.int u2), .val (.int u3), .val (.int u4), .val (.int u5), .val (.int dd), .unset, .unset, .unset, .unset, .unset, .unset, .unset, .unset, .unset] [(.ref b1), (.ref b1)])) _
    refine XS.iloadN X1.here hx rfl (hb hby at_13) rfl ?_
    refine XS.iloadN X1.here hx rfl (hb hby at_14) rfl ?_
    refine XS.iloadN X1.here hx rfl (hb hby at_15) rfl ?_
    show Steps p.tables e below (T1.setTop (mkF m 16 #[.val (.int u0), .val (.int u1), .val (.int u2), .val (.int u3), .val (.int u4), .val (.int u5), .val (.int dd), .unset, .unset, .unset, .unset, .unset, .unset, .unset, .unset, .unset] [(.int u2), (.int u1), (.int u0), (.ref b1), (.ref b1)])) _
    refine XS.iloadN X1.here hx rfl (hb hby at_16) rfl ?_
    refine XS.iload X1.here hx rfl (hb hby at_17) rfl ?_
    refine st2.trans ?_
    show Steps p.tables e below (T2.setTop (mkF m 22 #[.val (.int u0), .val (.int u1), .val (.int u2), .val (.int u3), .val (.int u4), .val (.int u5), .val (.int dd), .unset, .unset, .unset, .unset, .unset, .unset, .unset, .unset, .unset] [(.ref b1)])) _
    refine XS.astore X2.here hx rfl (hb hby at_22) rfl rfl (l' := #[.val (.int u0), .val (.int u1), .val (.int u2), .val (.int u3), .val (.int u4), .val (.int u5), .val (.int dd), .val (.ref b1), .unset, .unset, .unset, .unset, .unset, .unset, .unset, .unset]) rfl ?_
    refine XS.iload X2.here hx rfl (hb hby at_24) rfl ?_
    refine XS.iconst X2.here hx rfl (hb hby at_26) ?_
    show Steps p.tables e below (T2.setTop (mkF m 27 #[.val (.int u0), .val (.int u1), .val (.int u2), .val (.int u3), .val (.int u4), .val (.int u5), .val (.int dd), .val (.ref b1), .unset, .unset, .unset, .unset, .unset, .unset, .unset, .unset] [(.int (1 : Int32)), (.int u5)])) _
    refine XS.iand X2.here hx rfl (hb hby at_27) rfl ?_
    show Steps p.tables e below (T2.setTop (mkF m 28 #[.val (.int u0), .val (.int u1), .val (.int u2), .val (.int u3), .val (.int u4), .val (.int u5), .val (.int dd), .val (.ref b1), .unset, .unset, .unset, .unset, .unset, .unset, .unset, .unset] [(.int (u5 &&& (1 : Int32)))])) _
    suffices hshd3 : Steps p.tables e below (T2.setTop (mkF m 39 #[.val (.int u0), .val (.int u1), .val (.int u2), .val (.int u3), .val (.int u4), .val (.int u5), .val (.int dd), .val (.ref b1), .unset, .unset, .unset, .unset, .unset, .unset, .unset, .unset] [(.int (osel (decide ((u5 &&& (1 : Int32)) = (0 : Int32))) u0 (u0 + dd)))])) (T13.setFrames fs) by
      by_cases hd3 : (u5 &&& (1 : Int32)) = (0 : Int32)
      · rw [show (osel (decide ((u5 &&& (1 : Int32)) = (0 : Int32))) u0 (u0 + dd)) = u0 from if_pos (decide_eq_true hd3)] at hshd3
        refine XS.ifYes X2.here hx rfl (pc0 := 28) (pc' := 38) rfl (hb hby at_28) rfl ((if0 _ _).trans (teq hd3).1) (by decide) (by decide) ?_
        show Steps p.tables e below (T2.setTop (mkF m 38 #[.val (.int u0), .val (.int u1), .val (.int u2), .val (.int u3), .val (.int u4), .val (.int u5), .val (.int dd), .val (.ref b1), .unset, .unset, .unset, .unset, .unset, .unset, .unset, .unset] [])) _
        refine XS.iloadN X2.here hx rfl (hb hby at_38) rfl ?_
        exact hshd3
      · rw [show (osel (decide ((u5 &&& (1 : Int32)) = (0 : Int32))) u0 (u0 + dd)) = (u0 + dd) from if_neg (fun hh => absurd (of_decide_eq_true hh) hd3)] at hshd3
        refine XS.ifNo X2.here hx rfl (hb hby at_28) rfl ((if0 _ _).trans (feq hd3).1) ?_
        show Steps p.tables e below (T2.setTop (mkF m 31 #[.val (.int u0), .val (.int u1), .val (.int u2), .val (.int u3), .val (.int u4), .val (.int u5), .val (.int dd), .val (.ref b1), .unset, .unset, .unset, .unset, .unset, .unset, .unset, .unset] [])) _
        refine XS.iloadN X2.here hx rfl (hb hby at_31) rfl ?_
        show Steps p.tables e below (T2.setTop (mkF m 32 #[.val (.int u0), .val (.int u1), .val (.int u2), .val (.int u3), .val (.int u4), .val (.int u5), .val (.int dd), .val (.ref b1), .unset, .unset, .unset, .unset, .unset, .unset, .unset, .unset] [(.int u0)])) _
        refine XS.iload X2.here hx rfl (hb hby at_32) rfl ?_
        show Steps p.tables e below (T2.setTop (mkF m 34 #[.val (.int u0), .val (.int u1), .val (.int u2), .val (.int u3), .val (.int u4), .val (.int u5), .val (.int dd), .val (.ref b1), .unset, .unset, .unset, .unset, .unset, .unset, .unset, .unset] [(.int dd), (.int u0)])) _
        refine XS.iadd X2.here hx rfl (hb hby at_34) rfl ?_
        show Steps p.tables e below (T2.setTop (mkF m 35 #[.val (.int u0), .val (.int u1), .val (.int u2), .val (.int u3), .val (.int u4), .val (.int u5), .val (.int dd), .val (.ref b1), .unset, .unset, .unset, .unset, .unset, .unset, .unset, .unset] [(.int (u0 + dd))])) _
        refine XS.goto X2.here hx rfl (pc0 := 35) (pc' := 39) rfl (hb hby at_35) (by decide) (by decide) ?_
        exact hshd3
    show Steps p.tables e below (T2.setTop (mkF m 39 #[.val (.int u0), .val (.int u1), .val (.int u2), .val (.int u3), .val (.int u4), .val (.int u5), .val (.int dd), .val (.ref b1), .unset, .unset, .unset, .unset, .unset, .unset, .unset, .unset] [(.int (osel (decide ((u5 &&& (1 : Int32)) = (0 : Int32))) u0 (u0 + dd)))])) _
    rw [hv0]
    show Steps p.tables e below (T2.setTop (mkF m 39 #[.val (.int u0), .val (.int u1), .val (.int u2), .val (.int u3), .val (.int u4), .val (.int u5), .val (.int dd), .val (.ref b1), .unset, .unset, .unset, .unset, .unset, .unset, .unset, .unset] [(.int v0)])) _
    refine XS.istore X2.here hx rfl (hb hby at_39) rfl (l' := #[.val (.int u0), .val (.int u1), .val (.int u2), .val (.int u3), .val (.int u4), .val (.int u5), .val (.int dd), .val (.ref b1), .val (.int v0), .unset, .unset, .unset, .unset, .unset, .unset, .unset]) rfl ?_
    refine XS.iload X2.here hx rfl (hb hby at_41) rfl ?_
    refine XS.iconst X2.here hx rfl (hb hby at_43) ?_
    show Steps p.tables e below (T2.setTop (mkF m 44 #[.val (.int u0), .val (.int u1), .val (.int u2), .val (.int u3), .val (.int u4), .val (.int u5), .val (.int dd), .val (.ref b1), .val (.int v0), .unset, .unset, .unset, .unset, .unset, .unset, .unset] [(.int (2 : Int32)), (.int u5)])) _
    refine XS.iand X2.here hx rfl (hb hby at_44) rfl ?_
    show Steps p.tables e below (T2.setTop (mkF m 45 #[.val (.int u0), .val (.int u1), .val (.int u2), .val (.int u3), .val (.int u4), .val (.int u5), .val (.int dd), .val (.ref b1), .val (.int v0), .unset, .unset, .unset, .unset, .unset, .unset, .unset] [(.int (u5 &&& (2 : Int32)))])) _
    suffices hshd4 : Steps p.tables e below (T2.setTop (mkF m 56 #[.val (.int u0), .val (.int u1), .val (.int u2), .val (.int u3), .val (.int u4), .val (.int u5), .val (.int dd), .val (.ref b1), .val (.int v0), .unset, .unset, .unset, .unset, .unset, .unset, .unset] [(.int (osel (decide ((u5 &&& (2 : Int32)) = (0 : Int32))) u1 (u1 + dd)))])) (T13.setFrames fs) by
      by_cases hd4 : (u5 &&& (2 : Int32)) = (0 : Int32)
      · rw [show (osel (decide ((u5 &&& (2 : Int32)) = (0 : Int32))) u1 (u1 + dd)) = u1 from if_pos (decide_eq_true hd4)] at hshd4
        refine XS.ifYes X2.here hx rfl (pc0 := 45) (pc' := 55) rfl (hb hby at_45) rfl ((if0 _ _).trans (teq hd4).1) (by decide) (by decide) ?_
        show Steps p.tables e below (T2.setTop (mkF m 55 #[.val (.int u0), .val (.int u1), .val (.int u2), .val (.int u3), .val (.int u4), .val (.int u5), .val (.int dd), .val (.ref b1), .val (.int v0), .unset, .unset, .unset, .unset, .unset, .unset, .unset] [])) _
        refine XS.iloadN X2.here hx rfl (hb hby at_55) rfl ?_
        exact hshd4
      · rw [show (osel (decide ((u5 &&& (2 : Int32)) = (0 : Int32))) u1 (u1 + dd)) = (u1 + dd) from if_neg (fun hh => absurd (of_decide_eq_true hh) hd4)] at hshd4
        refine XS.ifNo X2.here hx rfl (hb hby at_45) rfl ((if0 _ _).trans (feq hd4).1) ?_
        show Steps p.tables e below (T2.setTop (mkF m 48 #[.val (.int u0), .val (.int u1), .val (.int u2), .val (.int u3), .val (.int u4), .val (.int u5), .val (.int dd), .val (.ref b1), .val (.int v0), .unset, .unset, .unset, .unset, .unset, .unset, .unset] [])) _
        refine XS.iloadN X2.here hx rfl (hb hby at_48) rfl ?_
        show Steps p.tables e below (T2.setTop (mkF m 49 #[.val (.int u0), .val (.int u1), .val (.int u2), .val (.int u3), .val (.int u4), .val (.int u5), .val (.int dd), .val (.ref b1), .val (.int v0), .unset, .unset, .unset, .unset, .unset, .unset, .unset] [(.int u1)])) _
        refine XS.iload X2.here hx rfl (hb hby at_49) rfl ?_
        show Steps p.tables e below (T2.setTop (mkF m 51 #[.val (.int u0), .val (.int u1), .val (.int u2), .val (.int u3), .val (.int u4), .val (.int u5), .val (.int dd), .val (.ref b1), .val (.int v0), .unset, .unset, .unset, .unset, .unset, .unset, .unset] [(.int dd), (.int u1)])) _
        refine XS.iadd X2.here hx rfl (hb hby at_51) rfl ?_
        show Steps p.tables e below (T2.setTop (mkF m 52 #[.val (.int u0), .val (.int u1), .val (.int u2), .val (.int u3), .val (.int u4), .val (.int u5), .val (.int dd), .val (.ref b1), .val (.int v0), .unset, .unset, .unset, .unset, .unset, .unset, .unset] [(.int (u1 + dd))])) _
        refine XS.goto X2.here hx rfl (pc0 := 52) (pc' := 56) rfl (hb hby at_52) (by decide) (by decide) ?_
        exact hshd4
    show Steps p.tables e below (T2.setTop (mkF m 56 #[.val (.int u0), .val (.int u1), .val (.int u2), .val (.int u3), .val (.int u4), .val (.int u5), .val (.int dd), .val (.ref b1), .val (.int v0), .unset, .unset, .unset, .unset, .unset, .unset, .unset] [(.int (osel (decide ((u5 &&& (2 : Int32)) = (0 : Int32))) u1 (u1 + dd)))])) _
    rw [hv1]
    show Steps p.tables e below (T2.setTop (mkF m 56 #[.val (.int u0), .val (.int u1), .val (.int u2), .val (.int u3), .val (.int u4), .val (.int u5), .val (.int dd), .val (.ref b1), .val (.int v0), .unset, .unset, .unset, .unset, .unset, .unset, .unset] [(.int v1)])) _
    refine XS.istore X2.here hx rfl (hb hby at_56) rfl (l' := #[.val (.int u0), .val (.int u1), .val (.int u2), .val (.int u3), .val (.int u4), .val (.int u5), .val (.int dd), .val (.ref b1), .val (.int v0), .val (.int v1), .unset, .unset, .unset, .unset, .unset, .unset]) rfl ?_
    refine XS.iload X2.here hx rfl (hb hby at_58) rfl ?_
    refine XS.iconst X2.here hx rfl (hb hby at_60) ?_
    show Steps p.tables e below (T2.setTop (mkF m 61 #[.val (.int u0), .val (.int u1), .val (.int u2), .val (.int u3), .val (.int u4), .val (.int u5), .val (.int dd), .val (.ref b1), .val (.int v0), .val (.int v1), .unset, .unset, .unset, .unset, .unset, .unset] [(.int (4 : Int32)), (.int u5)])) _
    refine XS.iand X2.here hx rfl (hb hby at_61) rfl ?_
    show Steps p.tables e below (T2.setTop (mkF m 62 #[.val (.int u0), .val (.int u1), .val (.int u2), .val (.int u3), .val (.int u4), .val (.int u5), .val (.int dd), .val (.ref b1), .val (.int v0), .val (.int v1), .unset, .unset, .unset, .unset, .unset, .unset] [(.int (u5 &&& (4 : Int32)))])) _
    suffices hshd5 : Steps p.tables e below (T2.setTop (mkF m 73 #[.val (.int u0), .val (.int u1), .val (.int u2), .val (.int u3), .val (.int u4), .val (.int u5), .val (.int dd), .val (.ref b1), .val (.int v0), .val (.int v1), .unset, .unset, .unset, .unset, .unset, .unset] [(.int (osel (decide ((u5 &&& (4 : Int32)) = (0 : Int32))) u2 (u2 + dd)))])) (T13.setFrames fs) by
      by_cases hd5 : (u5 &&& (4 : Int32)) = (0 : Int32)
      · rw [show (osel (decide ((u5 &&& (4 : Int32)) = (0 : Int32))) u2 (u2 + dd)) = u2 from if_pos (decide_eq_true hd5)] at hshd5
        refine XS.ifYes X2.here hx rfl (pc0 := 62) (pc' := 72) rfl (hb hby at_62) rfl ((if0 _ _).trans (teq hd5).1) (by decide) (by decide) ?_
        show Steps p.tables e below (T2.setTop (mkF m 72 #[.val (.int u0), .val (.int u1), .val (.int u2), .val (.int u3), .val (.int u4), .val (.int u5), .val (.int dd), .val (.ref b1), .val (.int v0), .val (.int v1), .unset, .unset, .unset, .unset, .unset, .unset] [])) _
        refine XS.iloadN X2.here hx rfl (hb hby at_72) rfl ?_
        exact hshd5
      · rw [show (osel (decide ((u5 &&& (4 : Int32)) = (0 : Int32))) u2 (u2 + dd)) = (u2 + dd) from if_neg (fun hh => absurd (of_decide_eq_true hh) hd5)] at hshd5
        refine XS.ifNo X2.here hx rfl (hb hby at_62) rfl ((if0 _ _).trans (feq hd5).1) ?_
        show Steps p.tables e below (T2.setTop (mkF m 65 #[.val (.int u0), .val (.int u1), .val (.int u2), .val (.int u3), .val (.int u4), .val (.int u5), .val (.int dd), .val (.ref b1), .val (.int v0), .val (.int v1), .unset, .unset, .unset, .unset, .unset, .unset] [])) _
        refine XS.iloadN X2.here hx rfl (hb hby at_65) rfl ?_
        show Steps p.tables e below (T2.setTop (mkF m 66 #[.val (.int u0), .val (.int u1), .val (.int u2), .val (.int u3), .val (.int u4), .val (.int u5), .val (.int dd), .val (.ref b1), .val (.int v0), .val (.int v1), .unset, .unset, .unset, .unset, .unset, .unset] [(.int u2)])) _
        refine XS.iload X2.here hx rfl (hb hby at_66) rfl ?_
        show Steps p.tables e below (T2.setTop (mkF m 68 #[.val (.int u0), .val (.int u1), .val (.int u2), .val (.int u3), .val (.int u4), .val (.int u5), .val (.int dd), .val (.ref b1), .val (.int v0), .val (.int v1), .unset, .unset, .unset, .unset, .unset, .unset] [(.int dd), (.int u2)])) _
        refine XS.iadd X2.here hx rfl (hb hby at_68) rfl ?_
        show Steps p.tables e below (T2.setTop (mkF m 69 #[.val (.int u0), .val (.int u1), .val (.int u2), .val (.int u3), .val (.int u4), .val (.int u5), .val (.int dd), .val (.ref b1), .val (.int v0), .val (.int v1), .unset, .unset, .unset, .unset, .unset, .unset] [(.int (u2 + dd))])) _
        refine XS.goto X2.here hx rfl (pc0 := 69) (pc' := 73) rfl (hb hby at_69) (by decide) (by decide) ?_
        exact hshd5
    show Steps p.tables e below (T2.setTop (mkF m 73 #[.val (.int u0), .val (.int u1), .val (.int u2), .val (.int u3), .val (.int u4), .val (.int u5), .val (.int dd), .val (.ref b1), .val (.int v0), .val (.int v1), .unset, .unset, .unset, .unset, .unset, .unset] [(.int (osel (decide ((u5 &&& (4 : Int32)) = (0 : Int32))) u2 (u2 + dd)))])) _
    rw [hv2]
    show Steps p.tables e below (T2.setTop (mkF m 73 #[.val (.int u0), .val (.int u1), .val (.int u2), .val (.int u3), .val (.int u4), .val (.int u5), .val (.int dd), .val (.ref b1), .val (.int v0), .val (.int v1), .unset, .unset, .unset, .unset, .unset, .unset] [(.int v2)])) _
    refine XS.istore X2.here hx rfl (hb hby at_73) rfl (l' := #[.val (.int u0), .val (.int u1), .val (.int u2), .val (.int u3), .val (.int u4), .val (.int u5), .val (.int dd), .val (.ref b1), .val (.int v0), .val (.int v1), .val (.int v2), .unset, .unset, .unset, .unset, .unset]) rfl ?_
    refine XS.iload X2.here hx rfl (hb hby at_75) rfl ?_
    refine XS.bipush X2.here hx rfl (hb hby at_77) ?_
    show Steps p.tables e below (T2.setTop (mkF m 79 #[.val (.int u0), .val (.int u1), .val (.int u2), .val (.int u3), .val (.int u4), .val (.int u5), .val (.int dd), .val (.ref b1), .val (.int v0), .val (.int v1), .val (.int v2), .unset, .unset, .unset, .unset, .unset] [(.int (8 : Int32)), (.int u5)])) _
    refine XS.iand X2.here hx rfl (hb hby at_79) rfl ?_
    show Steps p.tables e below (T2.setTop (mkF m 80 #[.val (.int u0), .val (.int u1), .val (.int u2), .val (.int u3), .val (.int u4), .val (.int u5), .val (.int dd), .val (.ref b1), .val (.int v0), .val (.int v1), .val (.int v2), .unset, .unset, .unset, .unset, .unset] [(.int (u5 &&& (8 : Int32)))])) _
    suffices hshd6 : Steps p.tables e below (T2.setTop (mkF m 91 #[.val (.int u0), .val (.int u1), .val (.int u2), .val (.int u3), .val (.int u4), .val (.int u5), .val (.int dd), .val (.ref b1), .val (.int v0), .val (.int v1), .val (.int v2), .unset, .unset, .unset, .unset, .unset] [(.int (osel (decide ((u5 &&& (8 : Int32)) = (0 : Int32))) u3 (u3 + dd)))])) (T13.setFrames fs) by
      by_cases hd6 : (u5 &&& (8 : Int32)) = (0 : Int32)
      · rw [show (osel (decide ((u5 &&& (8 : Int32)) = (0 : Int32))) u3 (u3 + dd)) = u3 from if_pos (decide_eq_true hd6)] at hshd6
        refine XS.ifYes X2.here hx rfl (pc0 := 80) (pc' := 90) rfl (hb hby at_80) rfl ((if0 _ _).trans (teq hd6).1) (by decide) (by decide) ?_
        show Steps p.tables e below (T2.setTop (mkF m 90 #[.val (.int u0), .val (.int u1), .val (.int u2), .val (.int u3), .val (.int u4), .val (.int u5), .val (.int dd), .val (.ref b1), .val (.int v0), .val (.int v1), .val (.int v2), .unset, .unset, .unset, .unset, .unset] [])) _
        refine XS.iloadN X2.here hx rfl (hb hby at_90) rfl ?_
        exact hshd6
      · rw [show (osel (decide ((u5 &&& (8 : Int32)) = (0 : Int32))) u3 (u3 + dd)) = (u3 + dd) from if_neg (fun hh => absurd (of_decide_eq_true hh) hd6)] at hshd6
        refine XS.ifNo X2.here hx rfl (hb hby at_80) rfl ((if0 _ _).trans (feq hd6).1) ?_
        show Steps p.tables e below (T2.setTop (mkF m 83 #[.val (.int u0), .val (.int u1), .val (.int u2), .val (.int u3), .val (.int u4), .val (.int u5), .val (.int dd), .val (.ref b1), .val (.int v0), .val (.int v1), .val (.int v2), .unset, .unset, .unset, .unset, .unset] [])) _
        refine XS.iloadN X2.here hx rfl (hb hby at_83) rfl ?_
        show Steps p.tables e below (T2.setTop (mkF m 84 #[.val (.int u0), .val (.int u1), .val (.int u2), .val (.int u3), .val (.int u4), .val (.int u5), .val (.int dd), .val (.ref b1), .val (.int v0), .val (.int v1), .val (.int v2), .unset, .unset, .unset, .unset, .unset] [(.int u3)])) _
        refine XS.iload X2.here hx rfl (hb hby at_84) rfl ?_
        show Steps p.tables e below (T2.setTop (mkF m 86 #[.val (.int u0), .val (.int u1), .val (.int u2), .val (.int u3), .val (.int u4), .val (.int u5), .val (.int dd), .val (.ref b1), .val (.int v0), .val (.int v1), .val (.int v2), .unset, .unset, .unset, .unset, .unset] [(.int dd), (.int u3)])) _
        refine XS.iadd X2.here hx rfl (hb hby at_86) rfl ?_
        show Steps p.tables e below (T2.setTop (mkF m 87 #[.val (.int u0), .val (.int u1), .val (.int u2), .val (.int u3), .val (.int u4), .val (.int u5), .val (.int dd), .val (.ref b1), .val (.int v0), .val (.int v1), .val (.int v2), .unset, .unset, .unset, .unset, .unset] [(.int (u3 + dd))])) _
        refine XS.goto X2.here hx rfl (pc0 := 87) (pc' := 91) rfl (hb hby at_87) (by decide) (by decide) ?_
        exact hshd6
    show Steps p.tables e below (T2.setTop (mkF m 91 #[.val (.int u0), .val (.int u1), .val (.int u2), .val (.int u3), .val (.int u4), .val (.int u5), .val (.int dd), .val (.ref b1), .val (.int v0), .val (.int v1), .val (.int v2), .unset, .unset, .unset, .unset, .unset] [(.int (osel (decide ((u5 &&& (8 : Int32)) = (0 : Int32))) u3 (u3 + dd)))])) _
    rw [hv3]
    show Steps p.tables e below (T2.setTop (mkF m 91 #[.val (.int u0), .val (.int u1), .val (.int u2), .val (.int u3), .val (.int u4), .val (.int u5), .val (.int dd), .val (.ref b1), .val (.int v0), .val (.int v1), .val (.int v2), .unset, .unset, .unset, .unset, .unset] [(.int v3)])) _
    refine XS.istore X2.here hx rfl (hb hby at_91) rfl (l' := #[.val (.int u0), .val (.int u1), .val (.int u2), .val (.int u3), .val (.int u4), .val (.int u5), .val (.int dd), .val (.ref b1), .val (.int v0), .val (.int v1), .val (.int v2), .val (.int v3), .unset, .unset, .unset, .unset]) rfl ?_
    refine XS.iload X2.here hx rfl (hb hby at_93) rfl ?_
    refine XS.bipush X2.here hx rfl (hb hby at_95) ?_
    show Steps p.tables e below (T2.setTop (mkF m 97 #[.val (.int u0), .val (.int u1), .val (.int u2), .val (.int u3), .val (.int u4), .val (.int u5), .val (.int dd), .val (.ref b1), .val (.int v0), .val (.int v1), .val (.int v2), .val (.int v3), .unset, .unset, .unset, .unset] [(.int (16 : Int32)), (.int u5)])) _
    refine XS.iand X2.here hx rfl (hb hby at_97) rfl ?_
    show Steps p.tables e below (T2.setTop (mkF m 98 #[.val (.int u0), .val (.int u1), .val (.int u2), .val (.int u3), .val (.int u4), .val (.int u5), .val (.int dd), .val (.ref b1), .val (.int v0), .val (.int v1), .val (.int v2), .val (.int v3), .unset, .unset, .unset, .unset] [(.int (u5 &&& (16 : Int32)))])) _
    suffices hshd7 : Steps p.tables e below (T2.setTop (mkF m 111 #[.val (.int u0), .val (.int u1), .val (.int u2), .val (.int u3), .val (.int u4), .val (.int u5), .val (.int dd), .val (.ref b1), .val (.int v0), .val (.int v1), .val (.int v2), .val (.int v3), .unset, .unset, .unset, .unset] [(.int (osel (decide ((u5 &&& (16 : Int32)) = (0 : Int32))) u4 (u4 + dd)))])) (T13.setFrames fs) by
      by_cases hd7 : (u5 &&& (16 : Int32)) = (0 : Int32)
      · rw [show (osel (decide ((u5 &&& (16 : Int32)) = (0 : Int32))) u4 (u4 + dd)) = u4 from if_pos (decide_eq_true hd7)] at hshd7
        refine XS.ifYes X2.here hx rfl (pc0 := 98) (pc' := 109) rfl (hb hby at_98) rfl ((if0 _ _).trans (teq hd7).1) (by decide) (by decide) ?_
        show Steps p.tables e below (T2.setTop (mkF m 109 #[.val (.int u0), .val (.int u1), .val (.int u2), .val (.int u3), .val (.int u4), .val (.int u5), .val (.int dd), .val (.ref b1), .val (.int v0), .val (.int v1), .val (.int v2), .val (.int v3), .unset, .unset, .unset, .unset] [])) _
        refine XS.iload X2.here hx rfl (hb hby at_109) rfl ?_
        exact hshd7
      · rw [show (osel (decide ((u5 &&& (16 : Int32)) = (0 : Int32))) u4 (u4 + dd)) = (u4 + dd) from if_neg (fun hh => absurd (of_decide_eq_true hh) hd7)] at hshd7
        refine XS.ifNo X2.here hx rfl (hb hby at_98) rfl ((if0 _ _).trans (feq hd7).1) ?_
        show Steps p.tables e below (T2.setTop (mkF m 101 #[.val (.int u0), .val (.int u1), .val (.int u2), .val (.int u3), .val (.int u4), .val (.int u5), .val (.int dd), .val (.ref b1), .val (.int v0), .val (.int v1), .val (.int v2), .val (.int v3), .unset, .unset, .unset, .unset] [])) _
        refine XS.iload X2.here hx rfl (hb hby at_101) rfl ?_
        show Steps p.tables e below (T2.setTop (mkF m 103 #[.val (.int u0), .val (.int u1), .val (.int u2), .val (.int u3), .val (.int u4), .val (.int u5), .val (.int dd), .val (.ref b1), .val (.int v0), .val (.int v1), .val (.int v2), .val (.int v3), .unset, .unset, .unset, .unset] [(.int u4)])) _
        refine XS.iload X2.here hx rfl (hb hby at_103) rfl ?_
        show Steps p.tables e below (T2.setTop (mkF m 105 #[.val (.int u0), .val (.int u1), .val (.int u2), .val (.int u3), .val (.int u4), .val (.int u5), .val (.int dd), .val (.ref b1), .val (.int v0), .val (.int v1), .val (.int v2), .val (.int v3), .unset, .unset, .unset, .unset] [(.int dd), (.int u4)])) _
        refine XS.iadd X2.here hx rfl (hb hby at_105) rfl ?_
        show Steps p.tables e below (T2.setTop (mkF m 106 #[.val (.int u0), .val (.int u1), .val (.int u2), .val (.int u3), .val (.int u4), .val (.int u5), .val (.int dd), .val (.ref b1), .val (.int v0), .val (.int v1), .val (.int v2), .val (.int v3), .unset, .unset, .unset, .unset] [(.int (u4 + dd))])) _
        refine XS.goto X2.here hx rfl (pc0 := 106) (pc' := 111) rfl (hb hby at_106) (by decide) (by decide) ?_
        exact hshd7
    show Steps p.tables e below (T2.setTop (mkF m 111 #[.val (.int u0), .val (.int u1), .val (.int u2), .val (.int u3), .val (.int u4), .val (.int u5), .val (.int dd), .val (.ref b1), .val (.int v0), .val (.int v1), .val (.int v2), .val (.int v3), .unset, .unset, .unset, .unset] [(.int (osel (decide ((u5 &&& (16 : Int32)) = (0 : Int32))) u4 (u4 + dd)))])) _
    rw [hv4]
    show Steps p.tables e below (T2.setTop (mkF m 111 #[.val (.int u0), .val (.int u1), .val (.int u2), .val (.int u3), .val (.int u4), .val (.int u5), .val (.int dd), .val (.ref b1), .val (.int v0), .val (.int v1), .val (.int v2), .val (.int v3), .unset, .unset, .unset, .unset] [(.int v4)])) _
    refine XS.istore X2.here hx rfl (hb hby at_111) rfl (l' := #[.val (.int u0), .val (.int u1), .val (.int u2), .val (.int u3), .val (.int u4), .val (.int u5), .val (.int dd), .val (.ref b1), .val (.int v0), .val (.int v1), .val (.int v2), .val (.int v3), .val (.int v4), .unset, .unset, .unset]) rfl ?_
    refine st8 _ ?_
    refine XS.dup X8.here hx rfl (hb hby at_116) rfl rfl ?_
    show Steps p.tables e below (T8.setTop (mkF m 117 #[.val (.int u0), .val (.int u1), .val (.int u2), .val (.int u3), .val (.int u4), .val (.int u5), .val (.int dd), .val (.ref b1), .val (.int v0), .val (.int v1), .val (.int v2), .val (.int v3), .val (.int v4), .unset, .unset, .unset] [(.ref b2), (.ref b2)])) _
    refine XS.iload X8.here hx rfl (hb hby at_117) rfl ?_
    refine XS.iload X8.here hx rfl (hb hby at_119) rfl ?_
    refine XS.iload X8.here hx rfl (hb hby at_121) rfl ?_
    show Steps p.tables e below (T8.setTop (mkF m 123 #[.val (.int u0), .val (.int u1), .val (.int u2), .val (.int u3), .val (.int u4), .val (.int u5), .val (.int dd), .val (.ref b1), .val (.int v0), .val (.int v1), .val (.int v2), .val (.int v3), .val (.int v4), .unset, .unset, .unset] [(.int v2), (.int v1), (.int v0), (.ref b2), (.ref b2)])) _
    refine XS.iload X8.here hx rfl (hb hby at_123) rfl ?_
    refine XS.iload X8.here hx rfl (hb hby at_125) rfl ?_
    refine st9.trans ?_
    show Steps p.tables e below (T9.setTop (mkF m 130 #[.val (.int u0), .val (.int u1), .val (.int u2), .val (.int u3), .val (.int u4), .val (.int u5), .val (.int dd), .val (.ref b1), .val (.int v0), .val (.int v1), .val (.int v2), .val (.int v3), .val (.int v4), .unset, .unset, .unset] [(.ref b2)])) _
    refine XS.astore X9.here hx rfl (hb hby at_130) rfl rfl (l' := #[.val (.int u0), .val (.int u1), .val (.int u2), .val (.int u3), .val (.int u4), .val (.int u5), .val (.int dd), .val (.ref b1), .val (.int v0), .val (.int v1), .val (.int v2), .val (.int v3), .val (.int v4), .val (.ref b2), .unset, .unset]) rfl ?_
    refine XS.iload X9.here hx rfl (hb hby at_132) rfl ?_
    refine XS.bipush X9.here hx rfl (hb hby at_134) ?_
    show Steps p.tables e below (T9.setTop (mkF m 136 #[.val (.int u0), .val (.int u1), .val (.int u2), .val (.int u3), .val (.int u4), .val (.int u5), .val (.int dd), .val (.ref b1), .val (.int v0), .val (.int v1), .val (.int v2), .val (.int v3), .val (.int v4), .val (.ref b2), .unset, .unset] [(.int (31 : Int32)), (.int u5)])) _
    refine XS.iand X9.here hx rfl (hb hby at_136) rfl ?_
    show Steps p.tables e below (T9.setTop (mkF m 137 #[.val (.int u0), .val (.int u1), .val (.int u2), .val (.int u3), .val (.int u4), .val (.int u5), .val (.int dd), .val (.ref b1), .val (.int v0), .val (.int v1), .val (.int v2), .val (.int v3), .val (.int v4), .val (.ref b2), .unset, .unset] [(.int (u5 &&& (31 : Int32)))])) _
    suffices hshd10 : Steps p.tables e below (T9.setTop (mkF m 145 #[.val (.int u0), .val (.int u1), .val (.int u2), .val (.int u3), .val (.int u4), .val (.int u5), .val (.int dd), .val (.ref b1), .val (.int v0), .val (.int v1), .val (.int v2), .val (.int v3), .val (.int v4), .val (.ref b2), .unset, .unset] [(.int (osel (decide ((u5 &&& (31 : Int32)) = (0 : Int32))) (1 : Int32) (0 : Int32)))])) (T13.setFrames fs) by
      by_cases hd10 : (u5 &&& (31 : Int32)) = (0 : Int32)
      · rw [show (osel (decide ((u5 &&& (31 : Int32)) = (0 : Int32))) (1 : Int32) (0 : Int32)) = (1 : Int32) from if_pos (decide_eq_true hd10)] at hshd10
        refine XS.ifNo X9.here hx rfl (hb hby at_137) rfl ((if0 _ _).trans (teq hd10).2) ?_
        show Steps p.tables e below (T9.setTop (mkF m 140 #[.val (.int u0), .val (.int u1), .val (.int u2), .val (.int u3), .val (.int u4), .val (.int u5), .val (.int dd), .val (.ref b1), .val (.int v0), .val (.int v1), .val (.int v2), .val (.int v3), .val (.int v4), .val (.ref b2), .unset, .unset] [])) _
        refine XS.iconst X9.here hx rfl (hb hby at_140) ?_
        show Steps p.tables e below (T9.setTop (mkF m 141 #[.val (.int u0), .val (.int u1), .val (.int u2), .val (.int u3), .val (.int u4), .val (.int u5), .val (.int dd), .val (.ref b1), .val (.int v0), .val (.int v1), .val (.int v2), .val (.int v3), .val (.int v4), .val (.ref b2), .unset, .unset] [(.int (1 : Int32))])) _
        refine XS.goto X9.here hx rfl (pc0 := 141) (pc' := 145) rfl (hb hby at_141) (by decide) (by decide) ?_
        exact hshd10
      · rw [show (osel (decide ((u5 &&& (31 : Int32)) = (0 : Int32))) (1 : Int32) (0 : Int32)) = (0 : Int32) from if_neg (fun hh => absurd (of_decide_eq_true hh) hd10)] at hshd10
        refine XS.ifYes X9.here hx rfl (pc0 := 137) (pc' := 144) rfl (hb hby at_137) rfl ((if0 _ _).trans (feq hd10).2) (by decide) (by decide) ?_
        show Steps p.tables e below (T9.setTop (mkF m 144 #[.val (.int u0), .val (.int u1), .val (.int u2), .val (.int u3), .val (.int u4), .val (.int u5), .val (.int dd), .val (.ref b1), .val (.int v0), .val (.int v1), .val (.int v2), .val (.int v3), .val (.int v4), .val (.ref b2), .unset, .unset] [])) _
        refine XS.iconst X9.here hx rfl (hb hby at_144) ?_
        exact hshd10
    show Steps p.tables e below (T9.setTop (mkF m 145 #[.val (.int u0), .val (.int u1), .val (.int u2), .val (.int u3), .val (.int u4), .val (.int u5), .val (.int dd), .val (.ref b1), .val (.int v0), .val (.int v1), .val (.int v2), .val (.int v3), .val (.int v4), .val (.ref b2), .unset, .unset] [(.int (osel (decide ((u5 &&& (31 : Int32)) = (0 : Int32))) (1 : Int32) (0 : Int32)))])) _
    rw [hsm]
    show Steps p.tables e below (T9.setTop (mkF m 145 #[.val (.int u0), .val (.int u1), .val (.int u2), .val (.int u3), .val (.int u4), .val (.int u5), .val (.int dd), .val (.ref b1), .val (.int v0), .val (.int v1), .val (.int v2), .val (.int v3), .val (.int v4), .val (.ref b2), .unset, .unset] [(.int sm)])) _
    refine XS.istore X9.here hx rfl (hb hby at_145) rfl (l' := #[.val (.int u0), .val (.int u1), .val (.int u2), .val (.int u3), .val (.int u4), .val (.int u5), .val (.int dd), .val (.ref b1), .val (.int v0), .val (.int v1), .val (.int v2), .val (.int v3), .val (.int v4), .val (.ref b2), .val (.int sm), .unset]) rfl ?_
    refine XS.iload X9.here hx rfl (hb hby at_147) rfl ?_
    refine XS.iconst X9.here hx rfl (hb hby at_149) ?_
    show Steps p.tables e below (T9.setTop (mkF m 150 #[.val (.int u0), .val (.int u1), .val (.int u2), .val (.int u3), .val (.int u4), .val (.int u5), .val (.int dd), .val (.ref b1), .val (.int v0), .val (.int v1), .val (.int v2), .val (.int v3), .val (.int v4), .val (.ref b2), .val (.int sm), .unset] [(.int (5 : Int32)), (.int u5)])) _
    refine XS.ishr X9.here hx rfl (hb hby at_150) rfl ?_
    refine XS.iconst X9.here hx rfl (hb hby at_151) ?_
    refine XS.iand X9.here hx rfl (hb hby at_152) rfl ?_
    show Steps p.tables e below (T9.setTop (mkF m 153 #[.val (.int u0), .val (.int u1), .val (.int u2), .val (.int u3), .val (.int u4), .val (.int u5), .val (.int dd), .val (.ref b1), .val (.int v0), .val (.int v1), .val (.int v2), .val (.int v3), .val (.int v4), .val (.ref b2), .val (.int sm), .unset] [(.int ((u5 >>> ((5 : Int32) &&& 31)) &&& (3 : Int32)))])) _
    refine XS.istore X9.here hx rfl (hb hby at_153) rfl (l' := #[.val (.int u0), .val (.int u1), .val (.int u2), .val (.int u3), .val (.int u4), .val (.int u5), .val (.int dd), .val (.ref b1), .val (.int v0), .val (.int v1), .val (.int v2), .val (.int v3), .val (.int v4), .val (.ref b2), .val (.int sm), .val (.int ((u5 >>> ((5 : Int32) &&& 31)) &&& (3 : Int32)))]) rfl ?_
    refine XS.iload X9.here hx rfl (hb hby at_155) rfl ?_
    refine XS.iconst X9.here hx rfl (hb hby at_157) ?_
    show Steps p.tables e below (T9.setTop (mkF m 158 #[.val (.int u0), .val (.int u1), .val (.int u2), .val (.int u3), .val (.int u4), .val (.int u5), .val (.int dd), .val (.ref b1), .val (.int v0), .val (.int v1), .val (.int v2), .val (.int v3), .val (.int v4), .val (.ref b2), .val (.int sm), .val (.int ((u5 >>> ((5 : Int32) &&& 31)) &&& (3 : Int32)))] [(.int (1 : Int32)), (.int ((u5 >>> ((5 : Int32) &&& 31)) &&& (3 : Int32)))])) _
    refine XS.icmpYes X9.here hx rfl (pc0 := 158) (pc' := 186) rfl (hb hby at_158) rfl (feq hf1).2 (by decide) (by decide) ?_
    refine XS.iload X9.here hx rfl (hb hby at_186) rfl ?_
    refine XS.iconst X9.here hx rfl (hb hby at_188) ?_
    show Steps p.tables e below (T9.setTop (mkF m 189 #[.val (.int u0), .val (.int u1), .val (.int u2), .val (.int u3), .val (.int u4), .val (.int u5), .val (.int dd), .val (.ref b1), .val (.int v0), .val (.int v1), .val (.int v2), .val (.int v3), .val (.int v4), .val (.ref b2), .val (.int sm), .val (.int ((u5 >>> ((5 : Int32) &&& 31)) &&& (3 : Int32)))] [(.int (2 : Int32)), (.int ((u5 >>> ((5 : Int32) &&& 31)) &&& (3 : Int32)))])) _
    refine XS.icmpYes X9.here hx rfl (pc0 := 189) (pc' := 220) rfl (hb hby at_189) rfl (feq hf2).2 (by decide) (by decide) ?_
    refine XS.aload X9.here hx rfl (hb hby at_220) rfl rfl ?_
    refine XS.aload X9.here hx rfl (hb hby at_222) rfl rfl ?_
    show Steps p.tables e below (T9.setTop (mkF m 224 #[.val (.int u0), .val (.int u1), .val (.int u2), .val (.int u3), .val (.int u4), .val (.int u5), .val (.int dd), .val (.ref b1), .val (.int v0), .val (.int v1), .val (.int v2), .val (.int v3), .val (.int v4), .val (.ref b2), .val (.int sm), .val (.int ((u5 >>> ((5 : Int32) &&& 31)) &&& (3 : Int32)))] [(.ref b2), (.ref b1)])) _
    refine st11.trans ?_
    refine XS.iload X11.here hx rfl (hb hby at_227) rfl ?_
    refine XS.icmpNo X11.here hx rfl (hb hby at_229) rfl (teq hf10).2 ?_
    show Steps p.tables e below (T11.setTop (mkF m 232 #[.val (.int u0), .val (.int u1), .val (.int u2), .val (.int u3), .val (.int u4), .val (.int u5), .val (.int dd), .val (.ref b1), .val (.int v0), .val (.int v1), .val (.int v2), .val (.int v3), .val (.int v4), .val (.ref b2), .val (.int sm), .val (.int ((u5 >>> ((5 : Int32) &&& 31)) &&& (3 : Int32)))] [])) _
    refine XS.aload X11.here hx rfl (hb hby at_232) rfl rfl ?_
    refine XS.aload X11.here hx rfl (hb hby at_234) rfl rfl ?_
    refine st12.trans ?_
    show Steps p.tables e below (T12.setTop (mkF m 239 #[.val (.int u0), .val (.int u1), .val (.int u2), .val (.int u3), .val (.int u4), .val (.int u5), .val (.int dd), .val (.ref b1), .val (.int v0), .val (.int v1), .val (.int v2), .val (.int v3), .val (.int v4), .val (.ref b2), .val (.int sm), .val (.int ((u5 >>> ((5 : Int32) &&& 31)) &&& (3 : Int32)))] [(.int (1 : Int32))])) _
    refine XS.iload X12.here hx rfl (hb hby at_239) rfl ?_
    refine XS.icmpNo X12.here hx rfl (hb hby at_241) rfl (teq hf10).2 ?_
    refine XS.aload X12.here hx rfl (hb hby at_244) rfl rfl ?_
    show Steps p.tables e below (T12.setTop (mkF m 246 #[.val (.int u0), .val (.int u1), .val (.int u2), .val (.int u3), .val (.int u4), .val (.int u5), .val (.int dd), .val (.ref b1), .val (.int v0), .val (.int v1), .val (.int v2), .val (.int v3), .val (.int v4), .val (.ref b2), .val (.int sm), .val (.int ((u5 >>> ((5 : Int32) &&& 31)) &&& (3 : Int32)))] [(.ref b1)])) _
    refine XS.aload X12.here hx rfl (hb hby at_246) rfl rfl ?_
    refine st13.trans ?_
    refine XS.ifNo X13.here hx rfl (hb hby at_251) rfl ((if0 _ _).trans (feq (by decide : ¬ ((1 : Int32) = (0 : Int32)))).1) ?_
    show Steps p.tables e below (T13.setTop (mkF m 254 #[.val (.int u0), .val (.int u1), .val (.int u2), .val (.int u3), .val (.int u4), .val (.int u5), .val (.int dd), .val (.ref b1), .val (.int v0), .val (.int v1), .val (.int v2), .val (.int v3), .val (.int v4), .val (.ref b2), .val (.int sm), .val (.int ((u5 >>> ((5 : Int32) &&& 31)) &&& (3 : Int32)))] [])) _
    refine XS.iconst X13.here hx rfl (hb hby at_254) ?_
    refine XS.goto X13.here hx rfl (pc0 := 255) (pc' := 259) rfl (hb hby at_255) (by decide) (by decide) ?_
    show Steps p.tables e below (T13.setTop (mkF m 259 #[.val (.int u0), .val (.int u1), .val (.int u2), .val (.int u3), .val (.int u4), .val (.int u5), .val (.int dd), .val (.ref b1), .val (.int v0), .val (.int v1), .val (.int v2), .val (.int v3), .val (.int v4), .val (.ref b2), .val (.int sm), .val (.int ((u5 >>> ((5 : Int32) &&& 31)) &&& (3 : Int32)))] [(.int (1 : Int32))])) _
    exact retN X13 hx (t := .boolean) Bd.returns (by simp) (hb hby at_259) hr
  · exact ⟨rfl, N13⟩
theorem d_prog_31_method_10_code_73 : decode prog_31_method_10_code 73 = .ok (.iconst 0, 1) := by decide +kernel
set_option maxRecDepth 65536 in
set_option maxHeartbeats 40000000 in
theorem rm_equals_20 (l : Launch) (Z : State) (a0 : Array Value) (hw : ∀ d ∈ tables_1, d.before a0 Z = true) (w : Nat → Addr) (κ : Nat → ClassId) (h0 : Heap) (n0 : Nat) (Z0 : n0 ≤ h0.size) (K : Kon Z h0 w κ) (u0 u1 u2 u3 u4 u5 dd v0 v1 v2 v3 v4 sm : Int32) (b1 : Addr) (b2 : Addr) (hf5 : u0 = v0) (hf6 : u1 = v1) (hf7 : u2 = v2) (hf8 : u3 = v3) (hf9 : ¬ (u4 = v4)) (fF_b1_com_example_bot_workflow_runner_botworkflowrunner_model_Progress_total : Fld Z h0 b1 "com/example/bot_workflow_runner/botworkflowrunner/model/Progress" "total" "I" (.int u0)) (fF_b1_com_example_bot_workflow_runner_botworkflowrunner_model_Progress_completed : Fld Z h0 b1 "com/example/bot_workflow_runner/botworkflowrunner/model/Progress" "completed" "I" (.int u1)) (fF_b1_com_example_bot_workflow_runner_botworkflowrunner_model_Progress_running : Fld Z h0 b1 "com/example/bot_workflow_runner/botworkflowrunner/model/Progress" "running" "I" (.int u2)) (fF_b1_com_example_bot_workflow_runner_botworkflowrunner_model_Progress_failed : Fld Z h0 b1 "com/example/bot_workflow_runner/botworkflowrunner/model/Progress" "failed" "I" (.int u3)) (fF_b1_com_example_bot_workflow_runner_botworkflowrunner_model_Progress_skipped : Fld Z h0 b1 "com/example/bot_workflow_runner/botworkflowrunner/model/Progress" "skipped" "I" (.int u4)) (fE_b2 : Exa Z h0 b2 "com/example/bot_workflow_runner/botworkflowrunner/model/Progress") (fF_b2_com_example_bot_workflow_runner_botworkflowrunner_model_Progress_total : Fld Z h0 b2 "com/example/bot_workflow_runner/botworkflowrunner/model/Progress" "total" "I" (.int v0)) (fF_b2_com_example_bot_workflow_runner_botworkflowrunner_model_Progress_completed : Fld Z h0 b2 "com/example/bot_workflow_runner/botworkflowrunner/model/Progress" "completed" "I" (.int v1)) (fF_b2_com_example_bot_workflow_runner_botworkflowrunner_model_Progress_running : Fld Z h0 b2 "com/example/bot_workflow_runner/botworkflowrunner/model/Progress" "running" "I" (.int v2)) (fF_b2_com_example_bot_workflow_runner_botworkflowrunner_model_Progress_failed : Fld Z h0 b2 "com/example/bot_workflow_runner/botworkflowrunner/model/Progress" "failed" "I" (.int v3)) (fF_b2_com_example_bot_workflow_runner_botworkflowrunner_model_Progress_skipped : Fld Z h0 b2 "com/example/bot_workflow_runner/botworkflowrunner/model/Progress" "skipped" "I" (.int v4)) :
    OM l Z (⟨"com/example/bot_workflow_runner/botworkflowrunner/model/Progress", "equals", "(Ljava/lang/Object;)Z"⟩ : MethodName) prog_31_method_10_code 3 (some .boolean) [] ({ frames := 0, cells := 0, slots := 0, locals := 0 } : Room) #[(.ref b1), (.ref b2)] h0 (OP (some (.int (0 : Int32))) n0 h0) := by
  refine MetFree.of_bodySF (plainFor_of_name pn_com_example_bot_workflow_runner_botworkflowrunner_model_Progress) hisR ?_
  intro p e s m args below meth c s₁ Bd hml0 hP hK
  obtain ⟨rfl, hZ, hh⟩ := hP
  have hx := Bd.exec
  have hby := Bd.bytes
  have hml : c.maxLocals = 3 := hml0
  have hown : s.vm.findClass "com/example/bot_workflow_runner/botworkflowrunner/model/Progress" = some m.cls := findClass_of_methodNamed Bd.named
  have hnm := (name_of_methodNamed Bd.named Bd.method).1
  have X0 : Stand p l e ({ frames := 0, cells := 0, slots := 0, locals := 0 } : Room) s m #[(.ref b1), (.ref b2)] below meth c s₁ [] 0 0 := Stand.of_body Bd
  have e0 : s₁.heap = h0 := by rw [← hh, Bd.state]; rfl
  have N0 := Fr.nil n0
  have pre0 : ∀ t, Steps p.tables e below (s₁.setTop (mkF m 0 #[.val (.ref b1), .val (.ref b2), .unset] [])) t → Steps p.tables e below (s₁.setTop (entryFrame m #[(.ref b1), (.ref b2)] 3)) t := fun t k => castTop (ef_prog_31_method_10_code_RR m b1 b2) k
  obtain ⟨T1, X1, e1, st1⟩ := instY X0 hx hZ hown (hw _ (List.mem_of_getElem? (i := 24) rfl)) e0 (Ins.self fE_b2) (g := (mkF m 1 #[.val (.ref b1), .val (.ref b2), .unset] [(.ref b2)])) rfl rfl (hb hby d_prog_31_method_10_code_1)
  obtain ⟨T2, X2, e2, st2⟩ := castY X1 hx hZ hown (hw _ (List.mem_of_getElem? (i := 24) rfl)) e1 (Ins.self fE_b2) (g := (mkF m 10 #[.val (.ref b1), .val (.ref b2), .unset] [(.ref b2)])) rfl rfl (hb hby d_prog_31_method_10_code_10)
  obtain ⟨T3, X3, e3, st3⟩ := getF X2 hx hZ hown (host := "") (Or.inl (hw _ (List.mem_of_getElem? (i := 9) rfl))) Via.refl e2 fF_b1_com_example_bot_workflow_runner_botworkflowrunner_model_Progress_total (g := (mkF m 15 #[.val (.ref b1), .val (.ref b2), .val (.ref b2)] [(.ref b1)])) rfl rfl (hb hby d_prog_31_method_10_code_15)
  obtain ⟨T4, X4, e4, st4⟩ := getF X3 hx hZ hown (host := "") (Or.inl (hw _ (List.mem_of_getElem? (i := 9) rfl))) Via.refl e3 fF_b2_com_example_bot_workflow_runner_botworkflowrunner_model_Progress_total (g := (mkF m 19 #[.val (.ref b1), .val (.ref b2), .val (.ref b2)] [(.ref b2), (.int u0)])) rfl rfl (hb hby d_prog_31_method_10_code_19)
  obtain ⟨T5, X5, e5, st5⟩ := getF X4 hx hZ hown (host := "") (Or.inl (hw _ (List.mem_of_getElem? (i := 11) rfl))) Via.refl e4 fF_b1_com_example_bot_workflow_runner_botworkflowrunner_model_Progress_completed (g := (mkF m 26 #[.val (.ref b1), .val (.ref b2), .val (.ref b2)] [(.ref b1)])) rfl rfl (hb hby d_prog_31_method_10_code_26)
  obtain ⟨T6, X6, e6, st6⟩ := getF X5 hx hZ hown (host := "") (Or.inl (hw _ (List.mem_of_getElem? (i := 11) rfl))) Via.refl e5 fF_b2_com_example_bot_workflow_runner_botworkflowrunner_model_Progress_completed (g := (mkF m 30 #[.val (.ref b1), .val (.ref b2), .val (.ref b2)] [(.ref b2), (.int u1)])) rfl rfl (hb hby d_prog_31_method_10_code_30)
  obtain ⟨T7, X7, e7, st7⟩ := getF X6 hx hZ hown (host := "") (Or.inl (hw _ (List.mem_of_getElem? (i := 13) rfl))) Via.refl e6 fF_b1_com_example_bot_workflow_runner_botworkflowrunner_model_Progress_running (g := (mkF m 37 #[.val (.ref b1), .val (.ref b2), .val (.ref b2)] [(.ref b1)])) rfl rfl (hb hby d_prog_31_method_10_code_37)
  obtain ⟨T8, X8, e8, st8⟩ := getF X7 hx hZ hown (host := "") (Or.inl (hw _ (List.mem_of_getElem? (i := 13) rfl))) Via.refl e7 fF_b2_com_example_bot_workflow_runner_botworkflowrunner_model_Progress_running (g := (mkF m 41 #[.val (.ref b1), .val (.ref b2), .val (.ref b2)] [(.ref b2), (.int u2)])) rfl rfl (hb hby d_prog_31_method_10_code_41)
  obtain ⟨T9, X9, e9, st9⟩ := getF X8 hx hZ hown (host := "") (Or.inl (hw _ (List.mem_of_getElem? (i := 15) rfl))) Via.refl e8 fF_b1_com_example_bot_workflow_runner_botworkflowrunner_model_Progress_failed (g := (mkF m 48 #[.val (.ref b1), .val (.ref b2), .val (.ref b2)] [(.ref b1)])) rfl rfl (hb hby d_prog_31_method_10_code_48)
  obtain ⟨T10, X10, e10, st10⟩ := getF X9 hx hZ hown (host := "") (Or.inl (hw _ (List.mem_of_getElem? (i := 15) rfl))) Via.refl e9 fF_b2_com_example_bot_workflow_runner_botworkflowrunner_model_Progress_failed (g := (mkF m 52 #[.val (.ref b1), .val (.ref b2), .val (.ref b2)] [(.ref b2), (.int u3)])) rfl rfl (hb hby d_prog_31_method_10_code_52)
  obtain ⟨T11, X11, e11, st11⟩ := getF X10 hx hZ hown (host := "") (Or.inl (hw _ (List.mem_of_getElem? (i := 17) rfl))) Via.refl e10 fF_b1_com_example_bot_workflow_runner_botworkflowrunner_model_Progress_skipped (g := (mkF m 59 #[.val (.ref b1), .val (.ref b2), .val (.ref b2)] [(.ref b1)])) rfl rfl (hb hby d_prog_31_method_10_code_59)
  obtain ⟨T12, X12, e12, st12⟩ := getF X11 hx hZ hown (host := "") (Or.inl (hw _ (List.mem_of_getElem? (i := 17) rfl))) Via.refl e11 fF_b2_com_example_bot_workflow_runner_botworkflowrunner_model_Progress_skipped (g := (mkF m 63 #[.val (.ref b1), .val (.ref b2), .val (.ref b2)] [(.ref b2), (.int u4)])) rfl rfl (hb hby d_prog_31_method_10_code_63)
  obtain ⟨fs, hr, hrun, hended, hW, hsame⟩ := X12.leave (v := (some (.int (0 : Int32)))) (fun h => by rw [Bd.returns] at h; cases h)
  refine ⟨_, _, pre0 _ ?_, hrun, hended, _, _, rfl, ?_, ⟨_, rfl⟩, hW, hsame.mono (by decide) (by decide)⟩
  · show Steps p.tables e below (s₁.setTop (mkF m 0 #[.val (.ref b1), .val (.ref b2), .unset] [])) _
    refine XS.aloadN X0.here hx rfl (hb hby d_prog_31_method_10_code_0) rfl rfl ?_
    refine st1 _ ?_
    refine XS.ifYes X1.here hx rfl (pc0 := 4) (pc' := 9) rfl (hb hby d_prog_31_method_10_code_4) rfl ((if0 _ _).trans (feq (by decide : ¬ ((1 : Int32) = (0 : Int32)))).2) (by decide) (by decide) ?_
    show Steps p.tables e below (T1.setTop (mkF m 9 #[.val (.ref b1), .val (.ref b2), .unset] [])) _
    refine XS.aloadN X1.here hx rfl (hb hby d_prog_31_method_10_code_9) rfl rfl ?_
    refine st2 _ ?_
    refine XS.astoreN X2.here hx rfl (hb hby d_prog_31_method_10_code_13) rfl rfl (l' := #[.val (.ref b1), .val (.ref b2), .val (.ref b2)]) rfl ?_
    show Steps p.tables e below (T2.setTop (mkF m 14 #[.val (.ref b1), .val (.ref b2), .val (.ref b2)] [])) _
    refine XS.aloadN X2.here hx rfl (hb hby d_prog_31_method_10_code_14) rfl rfl ?_
    refine st3 _ ?_
    refine XS.aloadN X3.here hx rfl (hb hby d_prog_31_method_10_code_18) rfl rfl ?_
    show Steps p.tables e below (T3.setTop (mkF m 19 #[.val (.ref b1), .val (.ref b2), .val (.ref b2)] [(.ref b2), (.int u0)])) _
    refine st4 _ ?_
    refine XS.icmpNo X4.here hx rfl (hb hby d_prog_31_method_10_code_22) rfl (teq hf5).2 ?_
    refine XS.aloadN X4.here hx rfl (hb hby d_prog_31_method_10_code_25) rfl rfl ?_
    show Steps p.tables e below (T4.setTop (mkF m 26 #[.val (.ref b1), .val (.ref b2), .val (.ref b2)] [(.ref b1)])) _
    refine st5 _ ?_
    refine XS.aloadN X5.here hx rfl (hb hby d_prog_31_method_10_code_29) rfl rfl ?_
    refine st6 _ ?_
    show Steps p.tables e below (T6.setTop (mkF m 33 #[.val (.ref b1), .val (.ref b2), .val (.ref b2)] [(.int v1), (.int u1)])) _
    refine XS.icmpNo X6.here hx rfl (hb hby d_prog_31_method_10_code_33) rfl (teq hf6).2 ?_
    refine XS.aloadN X6.here hx rfl (hb hby d_prog_31_method_10_code_36) rfl rfl ?_
    refine st7 _ ?_
    show Steps p.tables e below (T7.setTop (mkF m 40 #[.val (.ref b1), .val (.ref b2), .val (.ref b2)] [(.int u2)])) _
    refine XS.aloadN X7.here hx rfl (hb hby d_prog_31_method_10_code_40) rfl rfl ?_
    refine st8 _ ?_
    refine XS.icmpNo X8.here hx rfl (hb hby d_prog_31_method_10_code_44) rfl (teq hf7).2 ?_
    show Steps p.tables e below (T8.setTop (mkF m 47 #[.val (.ref b1), .val (.ref b2), .val (.ref b2)] [])) _
    refine XS.aloadN X8.here hx rfl (hb hby d_prog_31_method_10_code_47) rfl rfl ?_
    refine st9 _ ?_
    refine XS.aloadN X9.here hx rfl (hb hby d_prog_31_method_10_code_51) rfl rfl ?_
    show Steps p.tables e below (T9.setTop (mkF m 52 #[.val (.ref b1), .val (.ref b2), .val (.ref b2)] [(.ref b2), (.int u3)])) _
    refine st10 _ ?_
    refine XS.icmpNo X10.here hx rfl (hb hby d_prog_31_method_10_code_55) rfl (teq hf8).2 ?_
    refine XS.aloadN X10.here hx rfl (hb hby d_prog_31_method_10_code_58) rfl rfl ?_
    show Steps p.tables e below (T10.setTop (mkF m 59 #[.val (.ref b1), .val (.ref b2), .val (.ref b2)] [(.ref b1)])) _
    refine st11 _ ?_
    refine XS.aloadN X11.here hx rfl (hb hby d_prog_31_method_10_code_62) rfl rfl ?_
    refine st12 _ ?_
    show Steps p.tables e below (T12.setTop (mkF m 66 #[.val (.ref b1), .val (.ref b2), .val (.ref b2)] [(.int v4), (.int u4)])) _
    refine XS.icmpYes X12.here hx rfl (pc0 := 66) (pc' := 73) rfl (hb hby d_prog_31_method_10_code_66) rfl (feq hf9).2 (by decide) (by decide) ?_
    refine XS.iconst X12.here hx rfl (hb hby d_prog_31_method_10_code_73) ?_
    show Steps p.tables e below (T12.setTop (mkF m 74 #[.val (.ref b1), .val (.ref b2), .val (.ref b2)] [(.int (0 : Int32))])) _
    exact retN X12 hx (t := .boolean) Bd.returns (by simp) (hb hby d_prog_31_method_10_code_74) hr
  · exact ⟨rfl, N0, e12⟩
set_option maxRecDepth 65536 in
set_option maxHeartbeats 40000000 in
theorem rm_equals_21 (l : Launch) (Z : State) (a0 : Array Value) (hw : ∀ d ∈ tables_1, d.before a0 Z = true) (w : Nat → Addr) (κ : Nat → ClassId) (h0 : Heap) (n0 : Nat) (Z0 : n0 ≤ h0.size) (K : Kon Z h0 w κ) (u0 u1 u2 u3 u4 u5 dd v0 v1 v2 v3 v4 sm : Int32) (b1 : Addr) (b2 : Addr) (hf5 : u0 = v0) (hf6 : u1 = v1) (hf7 : u2 = v2) (hf8 : u3 = v3) (hf9 : ¬ (u4 = v4)) (hv0 : (osel (decide ((u5 &&& (1 : Int32)) = (0 : Int32))) u0 (u0 + dd)) = v0) (hv1 : (osel (decide ((u5 &&& (2 : Int32)) = (0 : Int32))) u1 (u1 + dd)) = v1) (hv2 : (osel (decide ((u5 &&& (4 : Int32)) = (0 : Int32))) u2 (u2 + dd)) = v2) (hv3 : (osel (decide ((u5 &&& (8 : Int32)) = (0 : Int32))) u3 (u3 + dd)) = v3) (hv4 : (osel (decide ((u5 &&& (16 : Int32)) = (0 : Int32))) u4 (u4 + dd)) = v4) (fE_b1 : Exa Z h0 b1 "com/example/bot_workflow_runner/botworkflowrunner/model/Progress") (fF_b1_com_example_bot_workflow_runner_botworkflowrunner_model_Progress_total : Fld Z h0 b1 "com/example/bot_workflow_runner/botworkflowrunner/model/Progress" "total" "I" (.int u0)) (fF_b1_com_example_bot_workflow_runner_botworkflowrunner_model_Progress_completed : Fld Z h0 b1 "com/example/bot_workflow_runner/botworkflowrunner/model/Progress" "completed" "I" (.int u1)) (fF_b1_com_example_bot_workflow_runner_botworkflowrunner_model_Progress_running : Fld Z h0 b1 "com/example/bot_workflow_runner/botworkflowrunner/model/Progress" "running" "I" (.int u2)) (fF_b1_com_example_bot_workflow_runner_botworkflowrunner_model_Progress_failed : Fld Z h0 b1 "com/example/bot_workflow_runner/botworkflowrunner/model/Progress" "failed" "I" (.int u3)) (fF_b1_com_example_bot_workflow_runner_botworkflowrunner_model_Progress_skipped : Fld Z h0 b1 "com/example/bot_workflow_runner/botworkflowrunner/model/Progress" "skipped" "I" (.int u4)) (fF_b2_com_example_bot_workflow_runner_botworkflowrunner_model_Progress_total : Fld Z h0 b2 "com/example/bot_workflow_runner/botworkflowrunner/model/Progress" "total" "I" (.int v0)) (fF_b2_com_example_bot_workflow_runner_botworkflowrunner_model_Progress_completed : Fld Z h0 b2 "com/example/bot_workflow_runner/botworkflowrunner/model/Progress" "completed" "I" (.int v1)) (fF_b2_com_example_bot_workflow_runner_botworkflowrunner_model_Progress_running : Fld Z h0 b2 "com/example/bot_workflow_runner/botworkflowrunner/model/Progress" "running" "I" (.int v2)) (fF_b2_com_example_bot_workflow_runner_botworkflowrunner_model_Progress_failed : Fld Z h0 b2 "com/example/bot_workflow_runner/botworkflowrunner/model/Progress" "failed" "I" (.int v3)) (fF_b2_com_example_bot_workflow_runner_botworkflowrunner_model_Progress_skipped : Fld Z h0 b2 "com/example/bot_workflow_runner/botworkflowrunner/model/Progress" "skipped" "I" (.int v4)) :
    OM l Z (⟨"com/example/bot_workflow_runner/botworkflowrunner/model/Progress", "equals", "(Ljava/lang/Object;)Z"⟩ : MethodName) prog_31_method_10_code 3 (some .boolean) [] ({ frames := 0, cells := 0, slots := 0, locals := 0 } : Room) #[(.ref b2), (.ref b1)] h0 (OP (some (.int (0 : Int32))) n0 h0) := by
  refine MetFree.of_bodySF (plainFor_of_name pn_com_example_bot_workflow_runner_botworkflowrunner_model_Progress) hisR ?_
  intro p e s m args below meth c s₁ Bd hml0 hP hK
  obtain ⟨rfl, hZ, hh⟩ := hP
  have hx := Bd.exec
  have hby := Bd.bytes
  have hml : c.maxLocals = 3 := hml0
  have hown : s.vm.findClass "com/example/bot_workflow_runner/botworkflowrunner/model/Progress" = some m.cls := findClass_of_methodNamed Bd.named
  have hnm := (name_of_methodNamed Bd.named Bd.method).1
  have X0 : Stand p l e ({ frames := 0, cells := 0, slots := 0, locals := 0 } : Room) s m #[(.ref b2), (.ref b1)] below meth c s₁ [] 0 0 := Stand.of_body Bd
  have e0 : s₁.heap = h0 := by rw [← hh, Bd.state]; rfl
  have N0 := Fr.nil n0
  have pre0 : ∀ t, Steps p.tables e below (s₁.setTop (mkF m 0 #[.val (.ref b2), .val (.ref b1), .unset] [])) t → Steps p.tables e below (s₁.setTop (entryFrame m #[(.ref b2), (.ref b1)] 3)) t := fun t k => castTop (ef_prog_31_method_10_code_RR m b2 b1) k
  obtain ⟨T1, X1, e1, st1⟩ := instY X0 hx hZ hown (hw _ (List.mem_of_getElem? (i := 24) rfl)) e0 (Ins.self fE_b1) (g := (mkF m 1 #[.val (.ref b2), .val (.ref b1), .unset] [(.ref b1)])) rfl rfl (hb hby d_prog_31_method_10_code_1)
  obtain ⟨T2, X2, e2, st2⟩ := castY X1 hx hZ hown (hw _ (List.mem_of_getElem? (i := 24) rfl)) e1 (Ins.self fE_b1) (g := (mkF m 10 #[.val (.ref b2), .val (.ref b1), .unset] [(.ref b1)])) rfl rfl (hb hby d_prog_31_method_10_code_10)
  obtain ⟨T3, X3, e3, st3⟩ := getF X2 hx hZ hown (host := "") (Or.inl (hw _ (List.mem_of_getElem? (i := 9) rfl))) Via.refl e2 fF_b2_com_example_bot_workflow_runner_botworkflowrunner_model_Progress_total (g := (mkF m 15 #[.val (.ref b2), .val (.ref b1), .val (.ref b1)] [(.ref b2)])) rfl rfl (hb hby d_prog_31_method_10_code_15)
  obtain ⟨T4, X4, e4, st4⟩ := getF X3 hx hZ hown (host := "") (Or.inl (hw _ (List.mem_of_getElem? (i := 9) rfl))) Via.refl e3 fF_b1_com_example_bot_workflow_runner_botworkflowrunner_model_Progress_total (g := (mkF m 19 #[.val (.ref b2), .val (.ref b1), .val (.ref b1)] [(.ref b1), (.int v0)])) rfl rfl (hb hby d_prog_31_method_10_code_19)
  obtain ⟨T5, X5, e5, st5⟩ := getF X4 hx hZ hown (host := "") (Or.inl (hw _ (List.mem_of_getElem? (i := 11) rfl))) Via.refl e4 fF_b2_com_example_bot_workflow_runner_botworkflowrunner_model_Progress_completed (g := (mkF m 26 #[.val (.ref b2), .val (.ref b1), .val (.ref b1)] [(.ref b2)])) rfl rfl (hb hby d_prog_31_method_10_code_26)
  obtain ⟨T6, X6, e6, st6⟩ := getF X5 hx hZ hown (host := "") (Or.inl (hw _ (List.mem_of_getElem? (i := 11) rfl))) Via.refl e5 fF_b1_com_example_bot_workflow_runner_botworkflowrunner_model_Progress_completed (g := (mkF m 30 #[.val (.ref b2), .val (.ref b1), .val (.ref b1)] [(.ref b1), (.int v1)])) rfl rfl (hb hby d_prog_31_method_10_code_30)
  obtain ⟨T7, X7, e7, st7⟩ := getF X6 hx hZ hown (host := "") (Or.inl (hw _ (List.mem_of_getElem? (i := 13) rfl))) Via.refl e6 fF_b2_com_example_bot_workflow_runner_botworkflowrunner_model_Progress_running (g := (mkF m 37 #[.val (.ref b2), .val (.ref b1), .val (.ref b1)] [(.ref b2)])) rfl rfl (hb hby d_prog_31_method_10_code_37)
  obtain ⟨T8, X8, e8, st8⟩ := getF X7 hx hZ hown (host := "") (Or.inl (hw _ (List.mem_of_getElem? (i := 13) rfl))) Via.refl e7 fF_b1_com_example_bot_workflow_runner_botworkflowrunner_model_Progress_running (g := (mkF m 41 #[.val (.ref b2), .val (.ref b1), .val (.ref b1)] [(.ref b1), (.int v2)])) rfl rfl (hb hby d_prog_31_method_10_code_41)
  obtain ⟨T9, X9, e9, st9⟩ := getF X8 hx hZ hown (host := "") (Or.inl (hw _ (List.mem_of_getElem? (i := 15) rfl))) Via.refl e8 fF_b2_com_example_bot_workflow_runner_botworkflowrunner_model_Progress_failed (g := (mkF m 48 #[.val (.ref b2), .val (.ref b1), .val (.ref b1)] [(.ref b2)])) rfl rfl (hb hby d_prog_31_method_10_code_48)
  obtain ⟨T10, X10, e10, st10⟩ := getF X9 hx hZ hown (host := "") (Or.inl (hw _ (List.mem_of_getElem? (i := 15) rfl))) Via.refl e9 fF_b1_com_example_bot_workflow_runner_botworkflowrunner_model_Progress_failed (g := (mkF m 52 #[.val (.ref b2), .val (.ref b1), .val (.ref b1)] [(.ref b1), (.int v3)])) rfl rfl (hb hby d_prog_31_method_10_code_52)
  obtain ⟨T11, X11, e11, st11⟩ := getF X10 hx hZ hown (host := "") (Or.inl (hw _ (List.mem_of_getElem? (i := 17) rfl))) Via.refl e10 fF_b2_com_example_bot_workflow_runner_botworkflowrunner_model_Progress_skipped (g := (mkF m 59 #[.val (.ref b2), .val (.ref b1), .val (.ref b1)] [(.ref b2)])) rfl rfl (hb hby d_prog_31_method_10_code_59)
  obtain ⟨T12, X12, e12, st12⟩ := getF X11 hx hZ hown (host := "") (Or.inl (hw _ (List.mem_of_getElem? (i := 17) rfl))) Via.refl e11 fF_b1_com_example_bot_workflow_runner_botworkflowrunner_model_Progress_skipped (g := (mkF m 63 #[.val (.ref b2), .val (.ref b1), .val (.ref b1)] [(.ref b1), (.int v4)])) rfl rfl (hb hby d_prog_31_method_10_code_63)
  obtain ⟨fs, hr, hrun, hended, hW, hsame⟩ := X12.leave (v := (some (.int (0 : Int32)))) (fun h => by rw [Bd.returns] at h; cases h)
  refine ⟨_, _, pre0 _ ?_, hrun, hended, _, _, rfl, ?_, ⟨_, rfl⟩, hW, hsame.mono (by decide) (by decide)⟩
  · show Steps p.tables e below (s₁.setTop (mkF m 0 #[.val (.ref b2), .val (.ref b1), .unset] [])) _
    refine XS.aloadN X0.here hx rfl (hb hby d_prog_31_method_10_code_0) rfl rfl ?_
    refine st1 _ ?_
    refine XS.ifYes X1.here hx rfl (pc0 := 4) (pc' := 9) rfl (hb hby d_prog_31_method_10_code_4) rfl ((if0 _ _).trans (feq (by decide : ¬ ((1 : Int32) = (0 : Int32)))).2) (by decide) (by decide) ?_
    show Steps p.tables e below (T1.setTop (mkF m 9 #[.val (.ref b2), .val (.ref b1), .unset] [])) _
    refine XS.aloadN X1.here hx rfl (hb hby d_prog_31_method_10_code_9) rfl rfl ?_
    refine st2 _ ?_
    refine XS.astoreN X2.here hx rfl (hb hby d_prog_31_method_10_code_13) rfl rfl (l' := #[.val (.ref b2), .val (.ref b1), .val (.ref b1)]) rfl ?_
    show Steps p.tables e below (T2.setTop (mkF m 14 #[.val (.ref b2), .val (.ref b1), .val (.ref b1)] [])) _
    refine XS.aloadN X2.here hx rfl (hb hby d_prog_31_method_10_code_14) rfl rfl ?_
    refine st3 _ ?_
    refine XS.aloadN X3.here hx rfl (hb hby d_prog_31_method_10_code_18) rfl rfl ?_
    show Steps p.tables e below (T3.setTop (mkF m 19 #[.val (.ref b2), .val (.ref b1), .val (.ref b1)] [(.ref b1), (.int v0)])) _
    refine st4 _ ?_
    refine XS.icmpNo X4.here hx rfl (hb hby d_prog_31_method_10_code_22) rfl (teq (by have z0 := congrArg Int32.toInt hv0; have z1 := congrArg Int32.toInt hf5; have r0 := rng32 v0; have r1 := rng32 u0; exact Int32.toInt_inj.mp (by omega) : v0 = u0)).2 ?_
    refine XS.aloadN X4.here hx rfl (hb hby d_prog_31_method_10_code_25) rfl rfl ?_
    show Steps p.tables e below (T4.setTop (mkF m 26 #[.val (.ref b2), .val (.ref b1), .val (.ref b1)] [(.ref b2)])) _
    refine st5 _ ?_
    refine XS.aloadN X5.here hx rfl (hb hby d_prog_31_method_10_code_29) rfl rfl ?_
    refine st6 _ ?_
    show Steps p.tables e below (T6.setTop (mkF m 33 #[.val (.ref b2), .val (.ref b1), .val (.ref b1)] [(.int u1), (.int v1)])) _
    refine XS.icmpNo X6.here hx rfl (hb hby d_prog_31_method_10_code_33) rfl (teq (by have z0 := congrArg Int32.toInt hv1; have z1 := congrArg Int32.toInt hf6; have r0 := rng32 v1; have r1 := rng32 u1; exact Int32.toInt_inj.mp (by omega) : v1 = u1)).2 ?_
    refine XS.aloadN X6.here hx rfl (hb hby d_prog_31_method_10_code_36) rfl rfl ?_
    refine st7 _ ?_
    show Steps p.tables e below (T7.setTop (mkF m 40 #[.val (.ref b2), .val (.ref b1), .val (.ref b1)] [(.int v2)])) _
    refine XS.aloadN X7.here hx rfl (hb hby d_prog_31_method_10_code_40) rfl rfl ?_
    refine st8 _ ?_
    refine XS.icmpNo X8.here hx rfl (hb hby d_prog_31_method_10_code_44) rfl (teq (by have z0 := congrArg Int32.toInt hv2; have z1 := congrArg Int32.toInt hf7; have r0 := rng32 v2; have r1 := rng32 u2; exact Int32.toInt_inj.mp (by omega) : v2 = u2)).2 ?_
    show Steps p.tables e below (T8.setTop (mkF m 47 #[.val (.ref b2), .val (.ref b1), .val (.ref b1)] [])) _
    refine XS.aloadN X8.here hx rfl (hb hby d_prog_31_method_10_code_47) rfl rfl ?_
    refine st9 _ ?_
    refine XS.aloadN X9.here hx rfl (hb hby d_prog_31_method_10_code_51) rfl rfl ?_
    show Steps p.tables e below (T9.setTop (mkF m 52 #[.val (.ref b2), .val (.ref b1), .val (.ref b1)] [(.ref b1), (.int v3)])) _
    refine st10 _ ?_
    refine XS.icmpNo X10.here hx rfl (hb hby d_prog_31_method_10_code_55) rfl (teq (by have z0 := congrArg Int32.toInt hv3; have z1 := congrArg Int32.toInt hf8; have r0 := rng32 v3; have r1 := rng32 u3; exact Int32.toInt_inj.mp (by omega) : v3 = u3)).2 ?_
    refine XS.aloadN X10.here hx rfl (hb hby d_prog_31_method_10_code_58) rfl rfl ?_
    show Steps p.tables e below (T10.setTop (mkF m 59 #[.val (.ref b2), .val (.ref b1), .val (.ref b1)] [(.ref b2)])) _
    refine st11 _ ?_
    refine XS.aloadN X11.here hx rfl (hb hby d_prog_31_method_10_code_62) rfl rfl ?_
    refine st12 _ ?_
    show Steps p.tables e below (T12.setTop (mkF m 66 #[.val (.ref b2), .val (.ref b1), .val (.ref b1)] [(.int u4), (.int v4)])) _
    refine XS.icmpYes X12.here hx rfl (pc0 := 66) (pc' := 73) rfl (hb hby d_prog_31_method_10_code_66) rfl (feq (by have z0 := congrArg Int32.toInt hv4; have z1 := mt Int32.toInt_inj.mp hf9; have r0 := rng32 v4; have r1 := rng32 u4; exact fun hh => absurd (congrArg Int32.toInt hh) (by omega) : ¬ (v4 = u4))).2 (by decide) (by decide) ?_
    refine XS.iconst X12.here hx rfl (hb hby d_prog_31_method_10_code_73) ?_
    show Steps p.tables e below (T12.setTop (mkF m 74 #[.val (.ref b2), .val (.ref b1), .val (.ref b1)] [(.int (0 : Int32))])) _
    exact retN X12 hx (t := .boolean) Bd.returns (by simp) (hb hby d_prog_31_method_10_code_74) hr
  · exact ⟨rfl, N0, e12⟩
set_option maxRecDepth 65536 in
set_option maxHeartbeats 40000000 in
theorem rm0_22 (l : Launch) (Z : State) (a0 : Array Value) (hw : ∀ d ∈ tables_1, d.before a0 Z = true) (w : Nat → Addr) (κ : Nat → ClassId) (h0 : Heap) (n0 : Nat) (Z0 : n0 ≤ h0.size) (K : Kon Z h0 w κ) (u0 u1 u2 u3 u4 u5 dd v0 v1 v2 v3 v4 sm : Int32) (hdd : ((u5 >>> ((8 : Int32) &&& 31)) ||| (1 : Int32)) = dd) (hf1 : ¬ (((u5 >>> ((5 : Int32) &&& 31)) &&& (3 : Int32)) = (1 : Int32))) (hf11 : (0 : Int32) = sm) (hf2 : ¬ (((u5 >>> ((5 : Int32) &&& 31)) &&& (3 : Int32)) = (2 : Int32))) (hf5 : u0 = v0) (hf6 : u1 = v1) (hf7 : u2 = v2) (hf8 : u3 = v3) (hf9 : ¬ (u4 = v4)) (hsm : (osel (decide ((u5 &&& (31 : Int32)) = (0 : Int32))) (1 : Int32) (0 : Int32)) = sm) (hv0 : (osel (decide ((u5 &&& (1 : Int32)) = (0 : Int32))) u0 (u0 + dd)) = v0) (hv1 : (osel (decide ((u5 &&& (2 : Int32)) = (0 : Int32))) u1 (u1 + dd)) = v1) (hv2 : (osel (decide ((u5 &&& (4 : Int32)) = (0 : Int32))) u2 (u2 + dd)) = v2) (hv3 : (osel (decide ((u5 &&& (8 : Int32)) = (0 : Int32))) u3 (u3 + dd)) = v3) (hv4 : (osel (decide ((u5 &&& (16 : Int32)) = (0 : Int32))) u4 (u4 + dd)) = v4) :
    OM l Z x code maxLocals ret tables_1 room_1 #[(.int u0), (.int u1), (.int u2), (.int u3), (.int u4), (.int u5)] h0 (OF (some (.int (1 : Int32))) n0) := by
  refine MetFree.of_bodySF (plainFor_of_name pn_com_example_bot_workflow_runner_botworkflowrunner_model_ProgressEqualsPinLaw) hisR ?_
  intro p e s m args below meth c s₁ Bd hml0 hP hK
  obtain ⟨rfl, hZ, hh⟩ := hP
  have hx := Bd.exec
  have hby := Bd.bytes
  have hml : c.maxLocals = 16 := hml0
  have hown : s.vm.findClass "com/example/bot_workflow_runner/botworkflowrunner/model/ProgressEqualsPinLaw" = some m.cls := findClass_of_methodNamed Bd.named
  have hnm := (name_of_methodNamed Bd.named Bd.method).1
  have X0 : Stand p l e room_1 s m #[(.int u0), (.int u1), (.int u2), (.int u3), (.int u4), (.int u5)] below meth c s₁ [] 0 0 := Stand.of_body Bd
  have e0 : s₁.heap = h0 := by rw [← hh, Bd.state]; rfl
  have N0 := Fr.nil n0
  have pre0 : ∀ t, Steps p.tables e below (s₁.setTop (mkF m 0 #[.val (.int u0), .val (.int u1), .val (.int u2), .val (.int u3), .val (.int u4), .val (.int u5), .unset, .unset, .unset, .unset, .unset, .unset, .unset, .unset, .unset, .unset] [])) t → Steps p.tables e below (s₁.setTop (entryFrame m #[(.int u0), (.int u1), (.int u2), (.int u3), (.int u4), (.int u5)] maxLocals)) t := fun t k => castTop (ef_code_IIIIII m u0 u1 u2 u3 u4 u5) k
  obtain ⟨T1, h1, X1, e1, E1, A1, D1, -, st1⟩ := newO X0 hx hZ hown (hw _ (List.mem_of_getElem? (i := 0) rfl)) (hw _ (List.mem_of_getElem? (i := 1) rfl)) (hw _ (List.mem_of_getElem? (i := 2) rfl)) e0 (g := (mkF m 9 #[.val (.int u0), .val (.int u1), .val (.int u2), .val (.int u3), .val (.int u4), .val (.int u5), .val (.int dd), .unset, .unset, .unset, .unset, .unset, .unset, .unset, .unset, .unset] [])) rfl (hb hby at_9) (by decide) (by decide)
  obtain ⟨b1, g1⟩ : ∃ z, z = h0.size := ⟨_, rfl⟩
  rw [← g1] at A1 D1 st1
  have hG1 : n0 ≤ b1 := Nat.le_trans Z0 (Nat.le_of_eq g1.symm)
  have hKN1 : ∀ i, i < 1 → w i ≠ b1 := fun i hi => by rw [g1]; exact Nat.ne_of_lt (K.lt i hi)
  have K1 := K.ext E1
  have Z1 : n0 ≤ h1.size := Nat.le_trans Z0 E1.1
  have f1_total : Fld Z h1 b1 "com/example/bot_workflow_runner/botworkflowrunner/model/Progress" "total" "I" (.int (0 : Int32)) := D1 (Or.inr (hw _ (List.mem_of_getElem? (i := 10) rfl))) (ty := .int) (by decide)
  have f1_completed : Fld Z h1 b1 "com/example/bot_workflow_runner/botworkflowrunner/model/Progress" "completed" "I" (.int (0 : Int32)) := D1 (Or.inr (hw _ (List.mem_of_getElem? (i := 12) rfl))) (ty := .int) (by decide)
  have f1_running : Fld Z h1 b1 "com/example/bot_workflow_runner/botworkflowrunner/model/Progress" "running" "I" (.int (0 : Int32)) := D1 (Or.inr (hw _ (List.mem_of_getElem? (i := 14) rfl))) (ty := .int) (by decide)
  have f1_failed : Fld Z h1 b1 "com/example/bot_workflow_runner/botworkflowrunner/model/Progress" "failed" "I" (.int (0 : Int32)) := D1 (Or.inr (hw _ (List.mem_of_getElem? (i := 16) rfl))) (ty := .int) (by decide)
  have f1_skipped : Fld Z h1 b1 "com/example/bot_workflow_runner/botworkflowrunner/model/Progress" "skipped" "I" (.int (0 : Int32)) := D1 (Or.inr (hw _ (List.mem_of_getElem? (i := 18) rfl))) (ty := .int) (by decide)
  obtain ⟨_, _, ⟨T2, L2, kk2, n2⟩, -, X2, ⟨Lc2, hQ2, l2, y2, z2⟩, st2⟩ := Jvm.Stand.specialBack X1 hx (y := (⟨"com/example/bot_workflow_runner/botworkflowrunner/model/Progress", "<init>", "(IIIII)V"⟩ : MethodName)) rfl hown (mvT hZ (hw _ (List.mem_of_getElem? (i := 3) rfl))) (mvT hZ (hw _ (List.mem_of_getElem? (i := 4) rfl))) (mvT hZ (hw _ (List.mem_of_getElem? (i := 5) rfl))) (by decide) (backOf (W := 1) (rm__init__1 l Z a0 hw w κ h1 n0 Z1 K1 u0 u1 u2 u3 u4 u5 dd v0 v1 v2 v3 v4 sm b1 A1 f1_total f1_completed f1_running f1_failed f1_skipped hG1 hKN1) hZ (hw _ (List.mem_of_getElem? (i := 5) rfl)) (hw _ (List.mem_of_getElem? (i := 2) rfl)) (by decide) (by decide)) (g := (mkF m 19 #[.val (.int u0), .val (.int u1), .val (.int u2), .val (.int u3), .val (.int u4), .val (.int u5), .val (.int dd), .unset, .unset, .unset, .unset, .unset, .unset, .unset, .unset, .unset] [(.int u4), (.int u3), (.int u2), (.int u1), (.int u0), (.ref b1), (.ref b1)])) rfl (by rw [hml]; rfl) (Steps.refl _) (a := b1) (argsL := [(.int u0), (.int u1), (.int u2), (.int u3), (.int u4)]) (rest := [(.ref b1)]) (lenOf pd_28IIIII29V rfl) rfl (by show 2 * 0 + _ ≤ _; exact Nat.le_of_eq rfl) (hb hby at_19) (fun _ _ => ⟨rfl, e1, (by decide : 1 + 0 ≤ _), (by decide : 5 + 0 ≤ _)⟩)
  dsimp only [Pt.U, Pt.locs, Pt.cells, Pt.slots] at X2 l2 y2 z2 st2 hQ2
  subst l2 y2 z2
  obtain ⟨rfl, N2q, Z2, K2, f2_0, f2_1, f2_2, f2_3, f2_4, f2_5⟩ := hQ2
  have N2 := Fr.app N0 N2q
  obtain ⟨T8, h8, X8, e8, E8, A8, D8, -, st8⟩ := newO X2 hx hZ hown (hw _ (List.mem_of_getElem? (i := 0) rfl)) (hw _ (List.mem_of_getElem? (i := 1) rfl)) (hw _ (List.mem_of_getElem? (i := 2) rfl)) rfl (g := (mkF m 113 #[.val (.int u0), .val (.int u1), .val (.int u2), .val (.int u3), .val (.int u4), .val (.int u5), .val (.int dd), .val (.ref b1), .val (.int v0), .val (.int v1), .val (.int v2), .val (.int v3), .val (.int v4), .unset, .unset, .unset] [])) rfl (hb hby at_113) (by decide) (by decide)
  obtain ⟨b2, g8⟩ : ∃ z, z = T2.heap.size := ⟨_, rfl⟩
  rw [← g8] at A8 D8 st8
  have hG8 : n0 ≤ b2 := Nat.le_trans Z2 (Nat.le_of_eq g8.symm)
  have hN8_0 : b1 ≠ b2 := by rw [g8]; exact Nat.ne_of_lt f2_0.lt
  have hKN8 : ∀ i, i < 1 → w i ≠ b2 := fun i hi => by rw [g8]; exact Nat.ne_of_lt (K2.lt i hi)
  have f8_fE_b1 := f2_0.ext E8
  have f8_fF_b1_com_example_bot_workflow_runner_botworkflowrunner_model_Progress_total := f2_1.ext E8
  have f8_fF_b1_com_example_bot_workflow_runner_botworkflowrunner_model_Progress_completed := f2_2.ext E8
  have f8_fF_b1_com_example_bot_workflow_runner_botworkflowrunner_model_Progress_running := f2_3.ext E8
  have f8_fF_b1_com_example_bot_workflow_runner_botworkflowrunner_model_Progress_failed := f2_4.ext E8
  have f8_fF_b1_com_example_bot_workflow_runner_botworkflowrunner_model_Progress_skipped := f2_5.ext E8
  have K8 := K2.ext E8
  have Z8 : n0 ≤ h8.size := Nat.le_trans Z2 E8.1
  have f8_total : Fld Z h8 b2 "com/example/bot_workflow_runner/botworkflowrunner/model/Progress" "total" "I" (.int (0 : Int32)) := D8 (Or.inr (hw _ (List.mem_of_getElem? (i := 10) rfl))) (ty := .int) (by decide)
  have f8_completed : Fld Z h8 b2 "com/example/bot_workflow_runner/botworkflowrunner/model/Progress" "completed" "I" (.int (0 : Int32)) := D8 (Or.inr (hw _ (List.mem_of_getElem? (i := 12) rfl))) (ty := .int) (by decide)
  have f8_running : Fld Z h8 b2 "com/example/bot_workflow_runner/botworkflowrunner/model/Progress" "running" "I" (.int (0 : Int32)) := D8 (Or.inr (hw _ (List.mem_of_getElem? (i := 14) rfl))) (ty := .int) (by decide)
  have f8_failed : Fld Z h8 b2 "com/example/bot_workflow_runner/botworkflowrunner/model/Progress" "failed" "I" (.int (0 : Int32)) := D8 (Or.inr (hw _ (List.mem_of_getElem? (i := 16) rfl))) (ty := .int) (by decide)
  have f8_skipped : Fld Z h8 b2 "com/example/bot_workflow_runner/botworkflowrunner/model/Progress" "skipped" "I" (.int (0 : Int32)) := D8 (Or.inr (hw _ (List.mem_of_getElem? (i := 18) rfl))) (ty := .int) (by decide)
  obtain ⟨_, _, ⟨T9, L9, kk9, n9⟩, -, X9, ⟨Lc9, hQ9, l9, y9, z9⟩, st9⟩ := Jvm.Stand.specialBack X8 hx (y := (⟨"com/example/bot_workflow_runner/botworkflowrunner/model/Progress", "<init>", "(IIIII)V"⟩ : MethodName)) rfl hown (mvT hZ (hw _ (List.mem_of_getElem? (i := 3) rfl))) (mvT hZ (hw _ (List.mem_of_getElem? (i := 4) rfl))) (mvT hZ (hw _ (List.mem_of_getElem? (i := 5) rfl))) (by decide) (backOf (W := 1) (rm__init__2 l Z a0 hw w κ h8 n0 Z8 K8 u0 u1 u2 u3 u4 u5 dd v0 v1 v2 v3 v4 sm b1 b2 f8_fE_b1 f8_fF_b1_com_example_bot_workflow_runner_botworkflowrunner_model_Progress_total f8_fF_b1_com_example_bot_workflow_runner_botworkflowrunner_model_Progress_completed f8_fF_b1_com_example_bot_workflow_runner_botworkflowrunner_model_Progress_running f8_fF_b1_com_example_bot_workflow_runner_botworkflowrunner_model_Progress_failed f8_fF_b1_com_example_bot_workflow_runner_botworkflowrunner_model_Progress_skipped A8 f8_total f8_completed f8_running f8_failed f8_skipped hG1 hKN1 hG8 hN8_0 hKN8) hZ (hw _ (List.mem_of_getElem? (i := 5) rfl)) (hw _ (List.mem_of_getElem? (i := 2) rfl)) (by decide) (by decide)) (g := (mkF m 127 #[.val (.int u0), .val (.int u1), .val (.int u2), .val (.int u3), .val (.int u4), .val (.int u5), .val (.int dd), .val (.ref b1), .val (.int v0), .val (.int v1), .val (.int v2), .val (.int v3), .val (.int v4), .unset, .unset, .unset] [(.int v4), (.int v3), (.int v2), (.int v1), (.int v0), (.ref b2), (.ref b2)])) rfl (by rw [hml]; rfl) (Steps.refl _) (a := b2) (argsL := [(.int v0), (.int v1), (.int v2), (.int v3), (.int v4)]) (rest := [(.ref b2)]) (lenOf pd_28IIIII29V rfl) rfl (by show 2 * 0 + _ ≤ _; exact Nat.le_of_eq rfl) (hb hby at_127) (fun _ _ => ⟨rfl, e8, (by decide : 2 + 0 ≤ _), (by decide : 10 + 0 ≤ _)⟩)
  dsimp only [Pt.U, Pt.locs, Pt.cells, Pt.slots] at X9 l9 y9 z9 st9 hQ9
  subst l9 y9 z9
  obtain ⟨rfl, N9q, Z9, K9, f9_0, f9_1, f9_2, f9_3, f9_4, f9_5, f9_6, f9_7, f9_8, f9_9, f9_10, f9_11⟩ := hQ9
  have N9 := Fr.app N2 N9q
  obtain ⟨cq11, kq11, qa11, qb11, qc11⟩ := isOf hZ rfl f9_0
  obtain ⟨_, _, ⟨T11, L11, kk11, n11⟩, -, X11, ⟨Lc11, hQ11, l11, y11, z11⟩, st11⟩ := X9.virtualBack hx (y := (⟨"com/example/bot_workflow_runner/botworkflowrunner/model/Progress", "equals", "(Ljava/lang/Object;)Z"⟩ : MethodName)) (z := (⟨"com/example/bot_workflow_runner/botworkflowrunner/model/Progress", "equals", "(Ljava/lang/Object;)Z"⟩ : MethodName)) hown (mvT hZ (hw _ (List.mem_of_getElem? (i := 19) rfl))) (mvT hZ (hw _ (List.mem_of_getElem? (i := 20) rfl))) (notFace_of_selects (args := #[]) (mvT hZ (hw _ (List.mem_of_getElem? (i := 22) rfl)))) (mvT hZ (hw _ (List.mem_of_getElem? (i := 22) rfl))) (mvT hZ (hw _ (List.mem_of_getElem? (i := 21) rfl))) (by decide) (backOf (W := 0) (rm_equals_20 l Z a0 hw w κ T9.heap n0 Z9 K9 u0 u1 u2 u3 u4 u5 dd v0 v1 v2 v3 v4 sm b1 b2 hf5 hf6 hf7 hf8 hf9 f9_1 f9_2 f9_3 f9_4 f9_5 f9_6 f9_7 f9_8 f9_9 f9_10 f9_11) hZ (hw _ (List.mem_of_getElem? (i := 23) rfl)) (hw _ (List.mem_of_getElem? (i := 2) rfl)) (by decide) (by decide)) qa11 qc11 (g := (mkF m 224 #[.val (.int u0), .val (.int u1), .val (.int u2), .val (.int u3), .val (.int u4), .val (.int u5), .val (.int dd), .val (.ref b1), .val (.int v0), .val (.int v1), .val (.int v2), .val (.int v3), .val (.int v4), .val (.ref b2), .val (.int sm), .val (.int ((u5 >>> ((5 : Int32) &&& 31)) &&& (3 : Int32)))] [(.ref b2), (.ref b1)])) rfl (by rw [hml]; rfl) (Steps.refl _) (argsL := [(.ref b2)]) (rest := []) (lenOf pd_28Ljava2flang2fObject3b29Z rfl) rfl (by show 2 * 0 + _ ≤ _; exact Nat.le_of_eq rfl) (hb hby at_224) (fun _ _ => ⟨rfl, rfl, (by decide : 2 + 0 ≤ _), (by decide : 10 + 0 ≤ _)⟩)
  dsimp only [Pt.U, Pt.locs, Pt.cells, Pt.slots] at X11 l11 y11 z11 st11 hQ11
  subst l11 y11 z11
  obtain ⟨rfl, N11q, e11⟩ := hQ11
  have N11 := Fr.app N9 N11q
  obtain ⟨cq12, kq12, qa12, qb12, qc12⟩ := isOf hZ e11 f9_6
  obtain ⟨_, _, ⟨T12, L12, kk12, n12⟩, -, X12, ⟨Lc12, hQ12, l12, y12, z12⟩, st12⟩ := X11.virtualBack hx (y := (⟨"com/example/bot_workflow_runner/botworkflowrunner/model/Progress", "equals", "(Ljava/lang/Object;)Z"⟩ : MethodName)) (z := (⟨"com/example/bot_workflow_runner/botworkflowrunner/model/Progress", "equals", "(Ljava/lang/Object;)Z"⟩ : MethodName)) hown (mvT hZ (hw _ (List.mem_of_getElem? (i := 19) rfl))) (mvT hZ (hw _ (List.mem_of_getElem? (i := 20) rfl))) (notFace_of_selects (args := #[]) (mvT hZ (hw _ (List.mem_of_getElem? (i := 22) rfl)))) (mvT hZ (hw _ (List.mem_of_getElem? (i := 22) rfl))) (mvT hZ (hw _ (List.mem_of_getElem? (i := 21) rfl))) (by decide) (backOf (W := 0) (rm_equals_21 l Z a0 hw w κ T9.heap n0 Z9 K9 u0 u1 u2 u3 u4 u5 dd v0 v1 v2 v3 v4 sm b1 b2 hf5 hf6 hf7 hf8 hf9 hv0 hv1 hv2 hv3 hv4 f9_0 f9_1 f9_2 f9_3 f9_4 f9_5 f9_7 f9_8 f9_9 f9_10 f9_11) hZ (hw _ (List.mem_of_getElem? (i := 23) rfl)) (hw _ (List.mem_of_getElem? (i := 2) rfl)) (by decide) (by decide)) qa12 qc12 (g := (mkF m 236 #[.val (.int u0), .val (.int u1), .val (.int u2), .val (.int u3), .val (.int u4), .val (.int u5), .val (.int dd), .val (.ref b1), .val (.int v0), .val (.int v1), .val (.int v2), .val (.int v3), .val (.int v4), .val (.ref b2), .val (.int sm), .val (.int ((u5 >>> ((5 : Int32) &&& 31)) &&& (3 : Int32)))] [(.ref b1), (.ref b2)])) rfl (by rw [hml]; rfl) (Steps.refl _) (argsL := [(.ref b1)]) (rest := []) (lenOf pd_28Ljava2flang2fObject3b29Z rfl) rfl (by show 2 * 0 + _ ≤ _; exact Nat.le_of_eq rfl) (hb hby at_236) (fun _ _ => ⟨rfl, e11, (by decide : 2 + 0 ≤ _), (by decide : 10 + 0 ≤ _)⟩)
  dsimp only [Pt.U, Pt.locs, Pt.cells, Pt.slots] at X12 l12 y12 z12 st12 hQ12
  subst l12 y12 z12
  obtain ⟨rfl, N12q, e12⟩ := hQ12
  have N12 := Fr.app N11 N12q
  obtain ⟨cq13, kq13, qa13, qb13, qc13⟩ := isOf hZ e12 f9_0
  obtain ⟨_, _, ⟨T13, L13, kk13, n13⟩, -, X13, ⟨Lc13, hQ13, l13, y13, z13⟩, st13⟩ := X12.virtualBack hx (y := (⟨"com/example/bot_workflow_runner/botworkflowrunner/model/Progress", "equals", "(Ljava/lang/Object;)Z"⟩ : MethodName)) (z := (⟨"com/example/bot_workflow_runner/botworkflowrunner/model/Progress", "equals", "(Ljava/lang/Object;)Z"⟩ : MethodName)) hown (mvT hZ (hw _ (List.mem_of_getElem? (i := 19) rfl))) (mvT hZ (hw _ (List.mem_of_getElem? (i := 20) rfl))) (notFace_of_selects (args := #[]) (mvT hZ (hw _ (List.mem_of_getElem? (i := 22) rfl)))) (mvT hZ (hw _ (List.mem_of_getElem? (i := 22) rfl))) (mvT hZ (hw _ (List.mem_of_getElem? (i := 21) rfl))) (by decide) (backOf (W := 0) (rm_equals_4 l Z a0 hw w κ T9.heap n0 Z9 K9 u0 u1 u2 u3 u4 u5 dd v0 v1 v2 v3 v4 sm b1 b2 f9_0 f9_1 f9_2 f9_3 f9_4 f9_5) hZ (hw _ (List.mem_of_getElem? (i := 23) rfl)) (hw _ (List.mem_of_getElem? (i := 2) rfl)) (by decide) (by decide)) qa13 qc13 (g := (mkF m 248 #[.val (.int u0), .val (.int u1), .val (.int u2), .val (.int u3), .val (.int u4), .val (.int u5), .val (.int dd), .val (.ref b1), .val (.int v0), .val (.int v1), .val (.int v2), .val (.int v3), .val (.int v4), .val (.ref b2), .val (.int sm), .val (.int ((u5 >>> ((5 : Int32) &&& 31)) &&& (3 : Int32)))] [(.ref b1), (.ref b1)])) rfl (by rw [hml]; rfl) (Steps.refl _) (argsL := [(.ref b1)]) (rest := []) (lenOf pd_28Ljava2flang2fObject3b29Z rfl) rfl (by show 2 * 0 + _ ≤ _; exact Nat.le_of_eq rfl) (hb hby at_248) (fun _ _ => ⟨rfl, e12, (by decide : 2 + 0 ≤ _), (by decide : 10 + 0 ≤ _)⟩)
  dsimp only [Pt.U, Pt.locs, Pt.cells, Pt.slots] at X13 l13 y13 z13 st13 hQ13
  subst l13 y13 z13
  obtain ⟨rfl, N13q, e13⟩ := hQ13
  have N13 := Fr.app N12 N13q
  obtain ⟨fs, hr, hrun, hended, hW, hsame⟩ := X13.leave (v := (some (.int (1 : Int32)))) (fun h => by rw [Bd.returns] at h; cases h)
  refine ⟨_, _, pre0 _ ?_, hrun, hended, _, _, rfl, ?_, ⟨_, rfl⟩, hW, hsame.mono (by decide) (by decide)⟩
  · show Steps p.tables e below (s₁.setTop (mkF m 0 #[.val (.int u0), .val (.int u1), .val (.int u2), .val (.int u3), .val (.int u4), .val (.int u5), .unset, .unset, .unset, .unset, .unset, .unset, .unset, .unset, .unset, .unset] [])) _
    refine XS.iload X0.here hx rfl (hb hby at_0) rfl ?_
    refine XS.bipush X0.here hx rfl (hb hby at_2) ?_
    refine XS.ishr X0.here hx rfl (hb hby at_4) rfl ?_
    show Steps p.tables e below (s₁.setTop (mkF m 5 #[.val (.int u0), .val (.int u1), .val (.int u2), .val (.int u3), .val (.int u4), .val (.int u5), .unset, .unset, .unset, .unset, .unset, .unset, .unset, .unset, .unset, .unset] [(.int (u5 >>> ((8 : Int32) &&& 31)))])) _
    refine XS.iconst X0.here hx rfl (hb hby at_5) ?_
    refine XS.ior X0.here hx rfl (hb hby at_6) rfl ?_
    show Steps p.tables e below (s₁.setTop (mkF m 7 #[.val (.int u0), .val (.int u1), .val (.int u2), .val (.int u3), .val (.int u4), .val (.int u5), .unset, .unset, .unset, .unset, .unset, .unset, .unset, .unset, .unset, .unset] [(.int ((u5 >>> ((8 : Int32) &&& 31)) ||| (1 : Int32)))])) _
    rw [hdd]
    show Steps p.tables e below (s₁.setTop (mkF m 7 #[.val (.int u0), .val (.int u1), .val (.int u2), .val (.int u3), .val (.int u4), .val (.int u5), .unset, .unset, .unset, .unset, .unset, .unset, .unset, .unset, .unset, .unset] [(.int dd)])) _
    refine XS.istore X0.here hx rfl (hb hby at_7) rfl (l' := #[.val (.int u0), .val (.int u1), .val (.int u2), .val (.int u3), .val (.int u4), .val (.int u5), .val (.int dd), .unset, .unset, .unset, .unset, .unset, .unset, .unset, .unset, .unset]) rfl ?_
    refine st1 _ ?_
    refine XS.dup X1.here hx rfl (hb hby at_12) rfl rfl ?_
    show Steps p.tables e below (T1.setTop (mkF m 13 #[.val (.int u0), .val (.int u1), .val (.int u2), .val (.int u3), .val (.int u4), .val (.int u5), .val (.int dd), .unset, .unset, .unset, .unset, .unset, .unset, .unset, .unset, .unset] [(.ref b1), (.ref b1)])) _
    refine XS.iloadN X1.here hx rfl (hb hby at_13) rfl ?_
    refine XS.iloadN X1.here hx rfl (hb hby at_14) rfl ?_
    refine XS.iloadN X1.here hx rfl (hb hby at_15) rfl ?_
    show Steps p.tables e below (T1.setTop (mkF m 16 #[.val (.int u0), .val (.int u1), .val (.int u2), .val (.int u3), .val (.int u4), .val (.int u5), .val (.int dd), .unset, .unset, .unset, .unset, .unset, .unset, .unset, .unset, .unset] [(.int u2), (.int u1), (.int u0), (.ref b1), (.ref b1)])) _
    refine XS.iloadN X1.here hx rfl (hb hby at_16) rfl ?_
    refine XS.iload X1.here hx rfl (hb hby at_17) rfl ?_
    refine st2.trans ?_
    show Steps p.tables e below (T2.setTop (mkF m 22 #[.val (.int u0), .val (.int u1), .val (.int u2), .val (.int u3), .val (.int u4), .val (.int u5), .val (.int dd), .unset, .unset, .unset, .unset, .unset, .unset, .unset, .unset, .unset] [(.ref b1)])) _
    refine XS.astore X2.here hx rfl (hb hby at_22) rfl rfl (l' := #[.val (.int u0), .val (.int u1), .val (.int u2), .val (.int u3), .val (.int u4), .val (.int u5), .val (.int dd), .val (.ref b1), .unset, .unset, .unset, .unset, .unset, .unset, .unset, .unset]) rfl ?_
    refine XS.iload X2.here hx rfl (hb hby at_24) rfl ?_
    refine XS.iconst X2.here hx rfl (hb hby at_26) ?_
    show Steps p.tables e below (T2.setTop (mkF m 27 #[.val (.int u0), .val (.int u1), .val (.int u2), .val (.int u3), .val (.int u4), .val (.int u5), .val (.int dd), .val (.ref b1), .unset, .unset, .unset, .unset, .unset, .unset, .unset, .unset] [(.int (1 : Int32)), (.int u5)])) _
    refine XS.iand X2.here hx rfl (hb hby at_27) rfl ?_
    show Steps p.tables e below (T2.setTop (mkF m 28 #[.val (.int u0), .val (.int u1), .val (.int u2), .val (.int u3), .val (.int u4), .val (.int u5), .val (.int dd), .val (.ref b1), .unset, .unset, .unset, .unset, .unset, .unset, .unset, .unset] [(.int (u5 &&& (1 : Int32)))])) _
    suffices hshd3 : Steps p.tables e below (T2.setTop (mkF m 39 #[.val (.int u0), .val (.int u1), .val (.int u2), .val (.int u3), .val (.int u4), .val (.int u5), .val (.int dd), .val (.ref b1), .unset, .unset, .unset, .unset, .unset, .unset, .unset, .unset] [(.int (osel (decide ((u5 &&& (1 : Int32)) = (0 : Int32))) u0 (u0 + dd)))])) (T13.setFrames fs) by
      by_cases hd3 : (u5 &&& (1 : Int32)) = (0 : Int32)
      · rw [show (osel (decide ((u5 &&& (1 : Int32)) = (0 : Int32))) u0 (u0 + dd)) = u0 from if_pos (decide_eq_true hd3)] at hshd3
        refine XS.ifYes X2.here hx rfl (pc0 := 28) (pc' := 38) rfl (hb hby at_28) rfl ((if0 _ _).trans (teq hd3).1) (by decide) (by decide) ?_
        show Steps p.tables e below (T2.setTop (mkF m 38 #[.val (.int u0), .val (.int u1), .val (.int u2), .val (.int u3), .val (.int u4), .val (.int u5), .val (.int dd), .val (.ref b1), .unset, .unset, .unset, .unset, .unset, .unset, .unset, .unset] [])) _
        refine XS.iloadN X2.here hx rfl (hb hby at_38) rfl ?_
        exact hshd3
      · rw [show (osel (decide ((u5 &&& (1 : Int32)) = (0 : Int32))) u0 (u0 + dd)) = (u0 + dd) from if_neg (fun hh => absurd (of_decide_eq_true hh) hd3)] at hshd3
        refine XS.ifNo X2.here hx rfl (hb hby at_28) rfl ((if0 _ _).trans (feq hd3).1) ?_
        show Steps p.tables e below (T2.setTop (mkF m 31 #[.val (.int u0), .val (.int u1), .val (.int u2), .val (.int u3), .val (.int u4), .val (.int u5), .val (.int dd), .val (.ref b1), .unset, .unset, .unset, .unset, .unset, .unset, .unset, .unset] [])) _
        refine XS.iloadN X2.here hx rfl (hb hby at_31) rfl ?_
        show Steps p.tables e below (T2.setTop (mkF m 32 #[.val (.int u0), .val (.int u1), .val (.int u2), .val (.int u3), .val (.int u4), .val (.int u5), .val (.int dd), .val (.ref b1), .unset, .unset, .unset, .unset, .unset, .unset, .unset, .unset] [(.int u0)])) _
        refine XS.iload X2.here hx rfl (hb hby at_32) rfl ?_
        show Steps p.tables e below (T2.setTop (mkF m 34 #[.val (.int u0), .val (.int u1), .val (.int u2), .val (.int u3), .val (.int u4), .val (.int u5), .val (.int dd), .val (.ref b1), .unset, .unset, .unset, .unset, .unset, .unset, .unset, .unset] [(.int dd), (.int u0)])) _
        refine XS.iadd X2.here hx rfl (hb hby at_34) rfl ?_
        show Steps p.tables e below (T2.setTop (mkF m 35 #[.val (.int u0), .val (.int u1), .val (.int u2), .val (.int u3), .val (.int u4), .val (.int u5), .val (.int dd), .val (.ref b1), .unset, .unset, .unset, .unset, .unset, .unset, .unset, .unset] [(.int (u0 + dd))])) _
        refine XS.goto X2.here hx rfl (pc0 := 35) (pc' := 39) rfl (hb hby at_35) (by decide) (by decide) ?_
        exact hshd3
    show Steps p.tables e below (T2.setTop (mkF m 39 #[.val (.int u0), .val (.int u1), .val (.int u2), .val (.int u3), .val (.int u4), .val (.int u5), .val (.int dd), .val (.ref b1), .unset, .unset, .unset, .unset, .unset, .unset, .unset, .unset] [(.int (osel (decide ((u5 &&& (1 : Int32)) = (0 : Int32))) u0 (u0 + dd)))])) _
    rw [hv0]
    show Steps p.tables e below (T2.setTop (mkF m 39 #[.val (.int u0), .val (.int u1), .val (.int u2), .val (.int u3), .val (.int u4), .val (.int u5), .val (.int dd), .val (.ref b1), .unset, .unset, .unset, .unset, .unset, .unset, .unset, .unset] [(.int v0)])) _
    refine XS.istore X2.here hx rfl (hb hby at_39) rfl (l' := #[.val (.int u0), .val (.int u1), .val (.int u2), .val (.int u3), .val (.int u4), .val (.int u5), .val (.int dd), .val (.ref b1), .val (.int v0), .unset, .unset, .unset, .unset, .unset, .unset, .unset]) rfl ?_
    refine XS.iload X2.here hx rfl (hb hby at_41) rfl ?_
    refine XS.iconst X2.here hx rfl (hb hby at_43) ?_
    show Steps p.tables e below (T2.setTop (mkF m 44 #[.val (.int u0), .val (.int u1), .val (.int u2), .val (.int u3), .val (.int u4), .val (.int u5), .val (.int dd), .val (.ref b1), .val (.int v0), .unset, .unset, .unset, .unset, .unset, .unset, .unset] [(.int (2 : Int32)), (.int u5)])) _
    refine XS.iand X2.here hx rfl (hb hby at_44) rfl ?_
    show Steps p.tables e below (T2.setTop (mkF m 45 #[.val (.int u0), .val (.int u1), .val (.int u2), .val (.int u3), .val (.int u4), .val (.int u5), .val (.int dd), .val (.ref b1), .val (.int v0), .unset, .unset, .unset, .unset, .unset, .unset, .unset] [(.int (u5 &&& (2 : Int32)))])) _
    suffices hshd4 : Steps p.tables e below (T2.setTop (mkF m 56 #[.val (.int u0), .val (.int u1), .val (.int u2), .val (.int u3), .val (.int u4), .val (.int u5), .val (.int dd), .val (.ref b1), .val (.int v0), .unset, .unset, .unset, .unset, .unset, .unset, .unset] [(.int (osel (decide ((u5 &&& (2 : Int32)) = (0 : Int32))) u1 (u1 + dd)))])) (T13.setFrames fs) by
      by_cases hd4 : (u5 &&& (2 : Int32)) = (0 : Int32)
      · rw [show (osel (decide ((u5 &&& (2 : Int32)) = (0 : Int32))) u1 (u1 + dd)) = u1 from if_pos (decide_eq_true hd4)] at hshd4
        refine XS.ifYes X2.here hx rfl (pc0 := 45) (pc' := 55) rfl (hb hby at_45) rfl ((if0 _ _).trans (teq hd4).1) (by decide) (by decide) ?_
        show Steps p.tables e below (T2.setTop (mkF m 55 #[.val (.int u0), .val (.int u1), .val (.int u2), .val (.int u3), .val (.int u4), .val (.int u5), .val (.int dd), .val (.ref b1), .val (.int v0), .unset, .unset, .unset, .unset, .unset, .unset, .unset] [])) _
        refine XS.iloadN X2.here hx rfl (hb hby at_55) rfl ?_
        exact hshd4
      · rw [show (osel (decide ((u5 &&& (2 : Int32)) = (0 : Int32))) u1 (u1 + dd)) = (u1 + dd) from if_neg (fun hh => absurd (of_decide_eq_true hh) hd4)] at hshd4
        refine XS.ifNo X2.here hx rfl (hb hby at_45) rfl ((if0 _ _).trans (feq hd4).1) ?_
        show Steps p.tables e below (T2.setTop (mkF m 48 #[.val (.int u0), .val (.int u1), .val (.int u2), .val (.int u3), .val (.int u4), .val (.int u5), .val (.int dd), .val (.ref b1), .val (.int v0), .unset, .unset, .unset, .unset, .unset, .unset, .unset] [])) _
        refine XS.iloadN X2.here hx rfl (hb hby at_48) rfl ?_
        show Steps p.tables e below (T2.setTop (mkF m 49 #[.val (.int u0), .val (.int u1), .val (.int u2), .val (.int u3), .val (.int u4), .val (.int u5), .val (.int dd), .val (.ref b1), .val (.int v0), .unset, .unset, .unset, .unset, .unset, .unset, .unset] [(.int u1)])) _
        refine XS.iload X2.here hx rfl (hb hby at_49) rfl ?_
        show Steps p.tables e below (T2.setTop (mkF m 51 #[.val (.int u0), .val (.int u1), .val (.int u2), .val (.int u3), .val (.int u4), .val (.int u5), .val (.int dd), .val (.ref b1), .val (.int v0), .unset, .unset, .unset, .unset, .unset, .unset, .unset] [(.int dd), (.int u1)])) _
        refine XS.iadd X2.here hx rfl (hb hby at_51) rfl ?_
        show Steps p.tables e below (T2.setTop (mkF m 52 #[.val (.int u0), .val (.int u1), .val (.int u2), .val (.int u3), .val (.int u4), .val (.int u5), .val (.int dd), .val (.ref b1), .val (.int v0), .unset, .unset, .unset, .unset, .unset, .unset, .unset] [(.int (u1 + dd))])) _
        refine XS.goto X2.here hx rfl (pc0 := 52) (pc' := 56) rfl (hb hby at_52) (by decide) (by decide) ?_
        exact hshd4
    show Steps p.tables e below (T2.setTop (mkF m 56 #[.val (.int u0), .val (.int u1), .val (.int u2), .val (.int u3), .val (.int u4), .val (.int u5), .val (.int dd), .val (.ref b1), .val (.int v0), .unset, .unset, .unset, .unset, .unset, .unset, .unset] [(.int (osel (decide ((u5 &&& (2 : Int32)) = (0 : Int32))) u1 (u1 + dd)))])) _
    rw [hv1]
    show Steps p.tables e below (T2.setTop (mkF m 56 #[.val (.int u0), .val (.int u1), .val (.int u2), .val (.int u3), .val (.int u4), .val (.int u5), .val (.int dd), .val (.ref b1), .val (.int v0), .unset, .unset, .unset, .unset, .unset, .unset, .unset] [(.int v1)])) _
    refine XS.istore X2.here hx rfl (hb hby at_56) rfl (l' := #[.val (.int u0), .val (.int u1), .val (.int u2), .val (.int u3), .val (.int u4), .val (.int u5), .val (.int dd), .val (.ref b1), .val (.int v0), .val (.int v1), .unset, .unset, .unset, .unset, .unset, .unset]) rfl ?_
    refine XS.iload X2.here hx rfl (hb hby at_58) rfl ?_
    refine XS.iconst X2.here hx rfl (hb hby at_60) ?_
    show Steps p.tables e below (T2.setTop (mkF m 61 #[.val (.int u0), .val (.int u1), .val (.int u2), .val (.int u3), .val (.int u4), .val (.int u5), .val (.int dd), .val (.ref b1), .val (.int v0), .val (.int v1), .unset, .unset, .unset, .unset, .unset, .unset] [(.int (4 : Int32)), (.int u5)])) _
    refine XS.iand X2.here hx rfl (hb hby at_61) rfl ?_
    show Steps p.tables e below (T2.setTop (mkF m 62 #[.val (.int u0), .val (.int u1), .val (.int u2), .val (.int u3), .val (.int u4), .val (.int u5), .val (.int dd), .val (.ref b1), .val (.int v0), .val (.int v1), .unset, .unset, .unset, .unset, .unset, .unset] [(.int (u5 &&& (4 : Int32)))])) _
    suffices hshd5 : Steps p.tables e below (T2.setTop (mkF m 73 #[.val (.int u0), .val (.int u1), .val (.int u2), .val (.int u3), .val (.int u4), .val (.int u5), .val (.int dd), .val (.ref b1), .val (.int v0), .val (.int v1), .unset, .unset, .unset, .unset, .unset, .unset] [(.int (osel (decide ((u5 &&& (4 : Int32)) = (0 : Int32))) u2 (u2 + dd)))])) (T13.setFrames fs) by
      by_cases hd5 : (u5 &&& (4 : Int32)) = (0 : Int32)
      · rw [show (osel (decide ((u5 &&& (4 : Int32)) = (0 : Int32))) u2 (u2 + dd)) = u2 from if_pos (decide_eq_true hd5)] at hshd5
        refine XS.ifYes X2.here hx rfl (pc0 := 62) (pc' := 72) rfl (hb hby at_62) rfl ((if0 _ _).trans (teq hd5).1) (by decide) (by decide) ?_
        show Steps p.tables e below (T2.setTop (mkF m 72 #[.val (.int u0), .val (.int u1), .val (.int u2), .val (.int u3), .val (.int u4), .val (.int u5), .val (.int dd), .val (.ref b1), .val (.int v0), .val (.int v1), .unset, .unset, .unset, .unset, .unset, .unset] [])) _
        refine XS.iloadN X2.here hx rfl (hb hby at_72) rfl ?_
        exact hshd5
      · rw [show (osel (decide ((u5 &&& (4 : Int32)) = (0 : Int32))) u2 (u2 + dd)) = (u2 + dd) from if_neg (fun hh => absurd (of_decide_eq_true hh) hd5)] at hshd5
        refine XS.ifNo X2.here hx rfl (hb hby at_62) rfl ((if0 _ _).trans (feq hd5).1) ?_
        show Steps p.tables e below (T2.setTop (mkF m 65 #[.val (.int u0), .val (.int u1), .val (.int u2), .val (.int u3), .val (.int u4), .val (.int u5), .val (.int dd), .val (.ref b1), .val (.int v0), .val (.int v1), .unset, .unset, .unset, .unset, .unset, .unset] [])) _
        refine XS.iloadN X2.here hx rfl (hb hby at_65) rfl ?_
        show Steps p.tables e below (T2.setTop (mkF m 66 #[.val (.int u0), .val (.int u1), .val (.int u2), .val (.int u3), .val (.int u4), .val (.int u5), .val (.int dd), .val (.ref b1), .val (.int v0), .val (.int v1), .unset, .unset, .unset, .unset, .unset, .unset] [(.int u2)])) _
        refine XS.iload X2.here hx rfl (hb hby at_66) rfl ?_
        show Steps p.tables e below (T2.setTop (mkF m 68 #[.val (.int u0), .val (.int u1), .val (.int u2), .val (.int u3), .val (.int u4), .val (.int u5), .val (.int dd), .val (.ref b1), .val (.int v0), .val (.int v1), .unset, .unset, .unset, .unset, .unset, .unset] [(.int dd), (.int u2)])) _
        refine XS.iadd X2.here hx rfl (hb hby at_68) rfl ?_
        show Steps p.tables e below (T2.setTop (mkF m 69 #[.val (.int u0), .val (.int u1), .val (.int u2), .val (.int u3), .val (.int u4), .val (.int u5), .val (.int dd), .val (.ref b1), .val (.int v0), .val (.int v1), .unset, .unset, .unset, .unset, .unset, .unset] [(.int (u2 + dd))])) _
        refine XS.goto X2.here hx rfl (pc0 := 69) (pc' := 73) rfl (hb hby at_69) (by decide) (by decide) ?_
        exact hshd5
    show Steps p.tables e below (T2.setTop (mkF m 73 #[.val (.int u0), .val (.int u1), .val (.int u2), .val (.int u3), .val (.int u4), .val (.int u5), .val (.int dd), .val (.ref b1), .val (.int v0), .val (.int v1), .unset, .unset, .unset, .unset, .unset, .unset] [(.int (osel (decide ((u5 &&& (4 : Int32)) = (0 : Int32))) u2 (u2 + dd)))])) _
    rw [hv2]
    show Steps p.tables e below (T2.setTop (mkF m 73 #[.val (.int u0), .val (.int u1), .val (.int u2), .val (.int u3), .val (.int u4), .val (.int u5), .val (.int dd), .val (.ref b1), .val (.int v0), .val (.int v1), .unset, .unset, .unset, .unset, .unset, .unset] [(.int v2)])) _
    refine XS.istore X2.here hx rfl (hb hby at_73) rfl (l' := #[.val (.int u0), .val (.int u1), .val (.int u2), .val (.int u3), .val (.int u4), .val (.int u5), .val (.int dd), .val (.ref b1), .val (.int v0), .val (.int v1), .val (.int v2), .unset, .unset, .unset, .unset, .unset]) rfl ?_
    refine XS.iload X2.here hx rfl (hb hby at_75) rfl ?_
    refine XS.bipush X2.here hx rfl (hb hby at_77) ?_
    show Steps p.tables e below (T2.setTop (mkF m 79 #[.val (.int u0), .val (.int u1), .val (.int u2), .val (.int u3), .val (.int u4), .val (.int u5), .val (.int dd), .val (.ref b1), .val (.int v0), .val (.int v1), .val (.int v2), .unset, .unset, .unset, .unset, .unset] [(.int (8 : Int32)), (.int u5)])) _
    refine XS.iand X2.here hx rfl (hb hby at_79) rfl ?_
    show Steps p.tables e below (T2.setTop (mkF m 80 #[.val (.int u0), .val (.int u1), .val (.int u2), .val (.int u3), .val (.int u4), .val (.int u5), .val (.int dd), .val (.ref b1), .val (.int v0), .val (.int v1), .val (.int v2), .unset, .unset, .unset, .unset, .unset] [(.int (u5 &&& (8 : Int32)))])) _
    suffices hshd6 : Steps p.tables e below (T2.setTop (mkF m 91 #[.val (.int u0), .val (.int u1), .val (.int u2), .val (.int u3), .val (.int u4), .val (.int u5), .val (.int dd), .val (.ref b1), .val (.int v0), .val (.int v1), .val (.int v2), .unset, .unset, .unset, .unset, .unset] [(.int (osel (decide ((u5 &&& (8 : Int32)) = (0 : Int32))) u3 (u3 + dd)))])) (T13.setFrames fs) by
      by_cases hd6 : (u5 &&& (8 : Int32)) = (0 : Int32)
      · rw [show (osel (decide ((u5 &&& (8 : Int32)) = (0 : Int32))) u3 (u3 + dd)) = u3 from if_pos (decide_eq_true hd6)] at hshd6
        refine XS.ifYes X2.here hx rfl (pc0 := 80) (pc' := 90) rfl (hb hby at_80) rfl ((if0 _ _).trans (teq hd6).1) (by decide) (by decide) ?_
        show Steps p.tables e below (T2.setTop (mkF m 90 #[.val (.int u0), .val (.int u1), .val (.int u2), .val (.int u3), .val (.int u4), .val (.int u5), .val (.int dd), .val (.ref b1), .val (.int v0), .val (.int v1), .val (.int v2), .unset, .unset, .unset, .unset, .unset] [])) _
        refine XS.iloadN X2.here hx rfl (hb hby at_90) rfl ?_
        exact hshd6
      · rw [show (osel (decide ((u5 &&& (8 : Int32)) = (0 : Int32))) u3 (u3 + dd)) = (u3 + dd) from if_neg (fun hh => absurd (of_decide_eq_true hh) hd6)] at hshd6
        refine XS.ifNo X2.here hx rfl (hb hby at_80) rfl ((if0 _ _).trans (feq hd6).1) ?_
        show Steps p.tables e below (T2.setTop (mkF m 83 #[.val (.int u0), .val (.int u1), .val (.int u2), .val (.int u3), .val (.int u4), .val (.int u5), .val (.int dd), .val (.ref b1), .val (.int v0), .val (.int v1), .val (.int v2), .unset, .unset, .unset, .unset, .unset] [])) _
        refine XS.iloadN X2.here hx rfl (hb hby at_83) rfl ?_
        show Steps p.tables e below (T2.setTop (mkF m 84 #[.val (.int u0), .val (.int u1), .val (.int u2), .val (.int u3), .val (.int u4), .val (.int u5), .val (.int dd), .val (.ref b1), .val (.int v0), .val (.int v1), .val (.int v2), .unset, .unset, .unset, .unset, .unset] [(.int u3)])) _
        refine XS.iload X2.here hx rfl (hb hby at_84) rfl ?_
        show Steps p.tables e below (T2.setTop (mkF m 86 #[.val (.int u0), .val (.int u1), .val (.int u2), .val (.int u3), .val (.int u4), .val (.int u5), .val (.int dd), .val (.ref b1), .val (.int v0), .val (.int v1), .val (.int v2), .unset, .unset, .unset, .unset, .unset] [(.int dd), (.int u3)])) _
        refine XS.iadd X2.here hx rfl (hb hby at_86) rfl ?_
        show Steps p.tables e below (T2.setTop (mkF m 87 #[.val (.int u0), .val (.int u1), .val (.int u2), .val (.int u3), .val (.int u4), .val (.int u5), .val (.int dd), .val (.ref b1), .val (.int v0), .val (.int v1), .val (.int v2), .unset, .unset, .unset, .unset, .unset] [(.int (u3 + dd))])) _
        refine XS.goto X2.here hx rfl (pc0 := 87) (pc' := 91) rfl (hb hby at_87) (by decide) (by decide) ?_
        exact hshd6
    show Steps p.tables e below (T2.setTop (mkF m 91 #[.val (.int u0), .val (.int u1), .val (.int u2), .val (.int u3), .val (.int u4), .val (.int u5), .val (.int dd), .val (.ref b1), .val (.int v0), .val (.int v1), .val (.int v2), .unset, .unset, .unset, .unset, .unset] [(.int (osel (decide ((u5 &&& (8 : Int32)) = (0 : Int32))) u3 (u3 + dd)))])) _
    rw [hv3]
    show Steps p.tables e below (T2.setTop (mkF m 91 #[.val (.int u0), .val (.int u1), .val (.int u2), .val (.int u3), .val (.int u4), .val (.int u5), .val (.int dd), .val (.ref b1), .val (.int v0), .val (.int v1), .val (.int v2), .unset, .unset, .unset, .unset, .unset] [(.int v3)])) _
    refine XS.istore X2.here hx rfl (hb hby at_91) rfl (l' := #[.val (.int u0), .val (.int u1), .val (.int u2), .val (.int u3), .val (.int u4), .val (.int u5), .val (.int dd), .val (.ref b1), .val (.int v0), .val (.int v1), .val (.int v2), .val (.int v3), .unset, .unset, .unset, .unset]) rfl ?_
    refine XS.iload X2.here hx rfl (hb hby at_93) rfl ?_
    refine XS.bipush X2.here hx rfl (hb hby at_95) ?_
    show Steps p.tables e below (T2.setTop (mkF m 97 #[.val (.int u0), .val (.int u1), .val (.int u2), .val (.int u3), .val (.int u4), .val (.int u5), .val (.int dd), .val (.ref b1), .val (.int v0), .val (.int v1), .val (.int v2), .val (.int v3), .unset, .unset, .unset, .unset] [(.int (16 : Int32)), (.int u5)])) _
    refine XS.iand X2.here hx rfl (hb hby at_97) rfl ?_
    show Steps p.tables e below (T2.setTop (mkF m 98 #[.val (.int u0), .val (.int u1), .val (.int u2), .val (.int u3), .val (.int u4), .val (.int u5), .val (.int dd), .val (.ref b1), .val (.int v0), .val (.int v1), .val (.int v2), .val (.int v3), .unset, .unset, .unset, .unset] [(.int (u5 &&& (16 : Int32)))])) _
    suffices hshd7 : Steps p.tables e below (T2.setTop (mkF m 111 #[.val (.int u0), .val (.int u1), .val (.int u2), .val (.int u3), .val (.int u4), .val (.int u5), .val (.int dd), .val (.ref b1), .val (.int v0), .val (.int v1), .val (.int v2), .val (.int v3), .unset, .unset, .unset, .unset] [(.int (osel (decide ((u5 &&& (16 : Int32)) = (0 : Int32))) u4 (u4 + dd)))])) (T13.setFrames fs) by
      by_cases hd7 : (u5 &&& (16 : Int32)) = (0 : Int32)
      · rw [show (osel (decide ((u5 &&& (16 : Int32)) = (0 : Int32))) u4 (u4 + dd)) = u4 from if_pos (decide_eq_true hd7)] at hshd7
        refine XS.ifYes X2.here hx rfl (pc0 := 98) (pc' := 109) rfl (hb hby at_98) rfl ((if0 _ _).trans (teq hd7).1) (by decide) (by decide) ?_
        show Steps p.tables e below (T2.setTop (mkF m 109 #[.val (.int u0), .val (.int u1), .val (.int u2), .val (.int u3), .val (.int u4), .val (.int u5), .val (.int dd), .val (.ref b1), .val (.int v0), .val (.int v1), .val (.int v2), .val (.int v3), .unset, .unset, .unset, .unset] [])) _
        refine XS.iload X2.here hx rfl (hb hby at_109) rfl ?_
        exact hshd7
      · rw [show (osel (decide ((u5 &&& (16 : Int32)) = (0 : Int32))) u4 (u4 + dd)) = (u4 + dd) from if_neg (fun hh => absurd (of_decide_eq_true hh) hd7)] at hshd7
        refine XS.ifNo X2.here hx rfl (hb hby at_98) rfl ((if0 _ _).trans (feq hd7).1) ?_
        show Steps p.tables e below (T2.setTop (mkF m 101 #[.val (.int u0), .val (.int u1), .val (.int u2), .val (.int u3), .val (.int u4), .val (.int u5), .val (.int dd), .val (.ref b1), .val (.int v0), .val (.int v1), .val (.int v2), .val (.int v3), .unset, .unset, .unset, .unset] [])) _
        refine XS.iload X2.here hx rfl (hb hby at_101) rfl ?_
        show Steps p.tables e below (T2.setTop (mkF m 103 #[.val (.int u0), .val (.int u1), .val (.int u2), .val (.int u3), .val (.int u4), .val (.int u5), .val (.int dd), .val (.ref b1), .val (.int v0), .val (.int v1), .val (.int v2), .val (.int v3), .unset, .unset, .unset, .unset] [(.int u4)])) _
        refine XS.iload X2.here hx rfl (hb hby at_103) rfl ?_
        show Steps p.tables e below (T2.setTop (mkF m 105 #[.val (.int u0), .val (.int u1), .val (.int u2), .val (.int u3), .val (.int u4), .val (.int u5), .val (.int dd), .val (.ref b1), .val (.int v0), .val (.int v1), .val (.int v2), .val (.int v3), .unset, .unset, .unset, .unset] [(.int dd), (.int u4)])) _
        refine XS.iadd X2.here hx rfl (hb hby at_105) rfl ?_
        show Steps p.tables e below (T2.setTop (mkF m 106 #[.val (.int u0), .val (.int u1), .val (.int u2), .val (.int u3), .val (.int u4), .val (.int u5), .val (.int dd), .val (.ref b1), .val (.int v0), .val (.int v1), .val (.int v2), .val (.int v3), .unset, .unset, .unset, .unset] [(.int (u4 + dd))])) _
        refine XS.goto X2.here hx rfl (pc0 := 106) (pc' := 111) rfl (hb hby at_106) (by decide) (by decide) ?_
        exact hshd7
    show Steps p.tables e below (T2.setTop (mkF m 111 #[.val (.int u0), .val (.int u1), .val (.int u2), .val (.int u3), .val (.int u4), .val (.int u5), .val (.int dd), .val (.ref b1), .val (.int v0), .val (.int v1), .val (.int v2), .val (.int v3), .unset, .unset, .unset, .unset] [(.int (osel (decide ((u5 &&& (16 : Int32)) = (0 : Int32))) u4 (u4 + dd)))])) _
    rw [hv4]
    show Steps p.tables e below (T2.setTop (mkF m 111 #[.val (.int u0), .val (.int u1), .val (.int u2), .val (.int u3), .val (.int u4), .val (.int u5), .val (.int dd), .val (.ref b1), .val (.int v0), .val (.int v1), .val (.int v2), .val (.int v3), .unset, .unset, .unset, .unset] [(.int v4)])) _
    refine XS.istore X2.here hx rfl (hb hby at_111) rfl (l' := #[.val (.int u0), .val (.int u1), .val (.int u2), .val (.int u3), .val (.int u4), .val (.int u5), .val (.int dd), .val (.ref b1), .val (.int v0), .val (.int v1), .val (.int v2), .val (.int v3), .val (.int v4), .unset, .unset, .unset]) rfl ?_
    refine st8 _ ?_
    refine XS.dup X8.here hx rfl (hb hby at_116) rfl rfl ?_
    show Steps p.tables e below (T8.setTop (mkF m 117 #[.val (.int u0), .val (.int u1), .val (.int u2), .val (.int u3), .val (.int u4), .val (.int u5), .val (.int dd), .val (.ref b1), .val (.int v0), .val (.int v1), .val (.int v2), .val (.int v3), .val (.int v4), .unset, .unset, .unset] [(.ref b2), (.ref b2)])) _
    refine XS.iload X8.here hx rfl (hb hby at_117) rfl ?_
    refine XS.iload X8.here hx rfl (hb hby at_119) rfl ?_
    refine XS.iload X8.here hx rfl (hb hby at_121) rfl ?_
    show Steps p.tables e below (T8.setTop (mkF m 123 #[.val (.int u0), .val (.int u1), .val (.int u2), .val (.int u3), .val (.int u4), .val (.int u5), .val (.int dd), .val (.ref b1), .val (.int v0), .val (.int v1), .val (.int v2), .val (.int v3), .val (.int v4), .unset, .unset, .unset] [(.int v2), (.int v1), (.int v0), (.ref b2), (.ref b2)])) _
    refine XS.iload X8.here hx rfl (hb hby at_123) rfl ?_
    refine XS.iload X8.here hx rfl (hb hby at_125) rfl ?_
    refine st9.trans ?_
    show Steps p.tables e below (T9.setTop (mkF m 130 #[.val (.int u0), .val (.int u1), .val (.int u2), .val (.int u3), .val (.int u4), .val (.int u5), .val (.int dd), .val (.ref b1), .val (.int v0), .val (.int v1), .val (.int v2), .val (.int v3), .val (.int v4), .unset, .unset, .unset] [(.ref b2)])) _
    refine XS.astore X9.here hx rfl (hb hby at_130) rfl rfl (l' := #[.val (.int u0), .val (.int u1), .val (.int u2), .val (.int u3), .val (.int u4), .val (.int u5), .val (.int dd), .val (.ref b1), .val (.int v0), .val (.int v1), .val (.int v2), .val (.int v3), .val (.int v4), .val (.ref b2), .unset, .unset]) rfl ?_
    refine XS.iload X9.here hx rfl (hb hby at_132) rfl ?_
    refine XS.bipush X9.here hx rfl (hb hby at_134) ?_
    show Steps p.tables e below (T9.setTop (mkF m 136 #[.val (.int u0), .val (.int u1), .val (.int u2), .val (.int u3), .val (.int u4), .val (.int u5), .val (.int dd), .val (.ref b1), .val (.int v0), .val (.int v1), .val (.int v2), .val (.int v3), .val (.int v4), .val (.ref b2), .unset, .unset] [(.int (31 : Int32)), (.int u5)])) _
    refine XS.iand X9.here hx rfl (hb hby at_136) rfl ?_
    show Steps p.tables e below (T9.setTop (mkF m 137 #[.val (.int u0), .val (.int u1), .val (.int u2), .val (.int u3), .val (.int u4), .val (.int u5), .val (.int dd), .val (.ref b1), .val (.int v0), .val (.int v1), .val (.int v2), .val (.int v3), .val (.int v4), .val (.ref b2), .unset, .unset] [(.int (u5 &&& (31 : Int32)))])) _
    suffices hshd10 : Steps p.tables e below (T9.setTop (mkF m 145 #[.val (.int u0), .val (.int u1), .val (.int u2), .val (.int u3), .val (.int u4), .val (.int u5), .val (.int dd), .val (.ref b1), .val (.int v0), .val (.int v1), .val (.int v2), .val (.int v3), .val (.int v4), .val (.ref b2), .unset, .unset] [(.int (osel (decide ((u5 &&& (31 : Int32)) = (0 : Int32))) (1 : Int32) (0 : Int32)))])) (T13.setFrames fs) by
      by_cases hd10 : (u5 &&& (31 : Int32)) = (0 : Int32)
      · rw [show (osel (decide ((u5 &&& (31 : Int32)) = (0 : Int32))) (1 : Int32) (0 : Int32)) = (1 : Int32) from if_pos (decide_eq_true hd10)] at hshd10
        refine XS.ifNo X9.here hx rfl (hb hby at_137) rfl ((if0 _ _).trans (teq hd10).2) ?_
        show Steps p.tables e below (T9.setTop (mkF m 140 #[.val (.int u0), .val (.int u1), .val (.int u2), .val (.int u3), .val (.int u4), .val (.int u5), .val (.int dd), .val (.ref b1), .val (.int v0), .val (.int v1), .val (.int v2), .val (.int v3), .val (.int v4), .val (.ref b2), .unset, .unset] [])) _
        refine XS.iconst X9.here hx rfl (hb hby at_140) ?_
        show Steps p.tables e below (T9.setTop (mkF m 141 #[.val (.int u0), .val (.int u1), .val (.int u2), .val (.int u3), .val (.int u4), .val (.int u5), .val (.int dd), .val (.ref b1), .val (.int v0), .val (.int v1), .val (.int v2), .val (.int v3), .val (.int v4), .val (.ref b2), .unset, .unset] [(.int (1 : Int32))])) _
        refine XS.goto X9.here hx rfl (pc0 := 141) (pc' := 145) rfl (hb hby at_141) (by decide) (by decide) ?_
        exact hshd10
      · rw [show (osel (decide ((u5 &&& (31 : Int32)) = (0 : Int32))) (1 : Int32) (0 : Int32)) = (0 : Int32) from if_neg (fun hh => absurd (of_decide_eq_true hh) hd10)] at hshd10
        refine XS.ifYes X9.here hx rfl (pc0 := 137) (pc' := 144) rfl (hb hby at_137) rfl ((if0 _ _).trans (feq hd10).2) (by decide) (by decide) ?_
        show Steps p.tables e below (T9.setTop (mkF m 144 #[.val (.int u0), .val (.int u1), .val (.int u2), .val (.int u3), .val (.int u4), .val (.int u5), .val (.int dd), .val (.ref b1), .val (.int v0), .val (.int v1), .val (.int v2), .val (.int v3), .val (.int v4), .val (.ref b2), .unset, .unset] [])) _
        refine XS.iconst X9.here hx rfl (hb hby at_144) ?_
        exact hshd10
    show Steps p.tables e below (T9.setTop (mkF m 145 #[.val (.int u0), .val (.int u1), .val (.int u2), .val (.int u3), .val (.int u4), .val (.int u5), .val (.int dd), .val (.ref b1), .val (.int v0), .val (.int v1), .val (.int v2), .val (.int v3), .val (.int v4), .val (.ref b2), .unset, .unset] [(.int (osel (decide ((u5 &&& (31 : Int32)) = (0 : Int32))) (1 : Int32) (0 : Int32)))])) _
    rw [hsm]
    show Steps p.tables e below (T9.setTop (mkF m 145 #[.val (.int u0), .val (.int u1), .val (.int u2), .val (.int u3), .val (.int u4), .val (.int u5), .val (.int dd), .val (.ref b1), .val (.int v0), .val (.int v1), .val (.int v2), .val (.int v3), .val (.int v4), .val (.ref b2), .unset, .unset] [(.int sm)])) _
    refine XS.istore X9.here hx rfl (hb hby at_145) rfl (l' := #[.val (.int u0), .val (.int u1), .val (.int u2), .val (.int u3), .val (.int u4), .val (.int u5), .val (.int dd), .val (.ref b1), .val (.int v0), .val (.int v1), .val (.int v2), .val (.int v3), .val (.int v4), .val (.ref b2), .val (.int sm), .unset]) rfl ?_
    refine XS.iload X9.here hx rfl (hb hby at_147) rfl ?_
    refine XS.iconst X9.here hx rfl (hb hby at_149) ?_
    show Steps p.tables e below (T9.setTop (mkF m 150 #[.val (.int u0), .val (.int u1), .val (.int u2), .val (.int u3), .val (.int u4), .val (.int u5), .val (.int dd), .val (.ref b1), .val (.int v0), .val (.int v1), .val (.int v2), .val (.int v3), .val (.int v4), .val (.ref b2), .val (.int sm), .unset] [(.int (5 : Int32)), (.int u5)])) _
    refine XS.ishr X9.here hx rfl (hb hby at_150) rfl ?_
    refine XS.iconst X9.here hx rfl (hb hby at_151) ?_
    refine XS.iand X9.here hx rfl (hb hby at_152) rfl ?_
    show Steps p.tables e below (T9.setTop (mkF m 153 #[.val (.int u0), .val (.int u1), .val (.int u2), .val (.int u3), .val (.int u4), .val (.int u5), .val (.int dd), .val (.ref b1), .val (.int v0), .val (.int v1), .val (.int v2), .val (.int v3), .val (.int v4), .val (.ref b2), .val (.int sm), .unset] [(.int ((u5 >>> ((5 : Int32) &&& 31)) &&& (3 : Int32)))])) _
    refine XS.istore X9.here hx rfl (hb hby at_153) rfl (l' := #[.val (.int u0), .val (.int u1), .val (.int u2), .val (.int u3), .val (.int u4), .val (.int u5), .val (.int dd), .val (.ref b1), .val (.int v0), .val (.int v1), .val (.int v2), .val (.int v3), .val (.int v4), .val (.ref b2), .val (.int sm), .val (.int ((u5 >>> ((5 : Int32) &&& 31)) &&& (3 : Int32)))]) rfl ?_
    refine XS.iload X9.here hx rfl (hb hby at_155) rfl ?_
    refine XS.iconst X9.here hx rfl (hb hby at_157) ?_
    show Steps p.tables e below (T9.setTop (mkF m 158 #[.val (.int u0), .val (.int u1), .val (.int u2), .val (.int u3), .val (.int u4), .val (.int u5), .val (.int dd), .val (.ref b1), .val (.int v0), .val (.int v1), .val (.int v2), .val (.int v3), .val (.int v4), .val (.ref b2), .val (.int sm), .val (.int ((u5 >>> ((5 : Int32) &&& 31)) &&& (3 : Int32)))] [(.int (1 : Int32)), (.int ((u5 >>> ((5 : Int32) &&& 31)) &&& (3 : Int32)))])) _
    refine XS.icmpYes X9.here hx rfl (pc0 := 158) (pc' := 186) rfl (hb hby at_158) rfl (feq hf1).2 (by decide) (by decide) ?_
    refine XS.iload X9.here hx rfl (hb hby at_186) rfl ?_
    refine XS.iconst X9.here hx rfl (hb hby at_188) ?_
    show Steps p.tables e below (T9.setTop (mkF m 189 #[.val (.int u0), .val (.int u1), .val (.int u2), .val (.int u3), .val (.int u4), .val (.int u5), .val (.int dd), .val (.ref b1), .val (.int v0), .val (.int v1), .val (.int v2), .val (.int v3), .val (.int v4), .val (.ref b2), .val (.int sm), .val (.int ((u5 >>> ((5 : Int32) &&& 31)) &&& (3 : Int32)))] [(.int (2 : Int32)), (.int ((u5 >>> ((5 : Int32) &&& 31)) &&& (3 : Int32)))])) _
    refine XS.icmpYes X9.here hx rfl (pc0 := 189) (pc' := 220) rfl (hb hby at_189) rfl (feq hf2).2 (by decide) (by decide) ?_
    refine XS.aload X9.here hx rfl (hb hby at_220) rfl rfl ?_
    refine XS.aload X9.here hx rfl (hb hby at_222) rfl rfl ?_
    show Steps p.tables e below (T9.setTop (mkF m 224 #[.val (.int u0), .val (.int u1), .val (.int u2), .val (.int u3), .val (.int u4), .val (.int u5), .val (.int dd), .val (.ref b1), .val (.int v0), .val (.int v1), .val (.int v2), .val (.int v3), .val (.int v4), .val (.ref b2), .val (.int sm), .val (.int ((u5 >>> ((5 : Int32) &&& 31)) &&& (3 : Int32)))] [(.ref b2), (.ref b1)])) _
    refine st11.trans ?_
    refine XS.iload X11.here hx rfl (hb hby at_227) rfl ?_
    refine XS.icmpNo X11.here hx rfl (hb hby at_229) rfl (teq hf11).2 ?_
    show Steps p.tables e below (T11.setTop (mkF m 232 #[.val (.int u0), .val (.int u1), .val (.int u2), .val (.int u3), .val (.int u4), .val (.int u5), .val (.int dd), .val (.ref b1), .val (.int v0), .val (.int v1), .val (.int v2), .val (.int v3), .val (.int v4), .val (.ref b2), .val (.int sm), .val (.int ((u5 >>> ((5 : Int32) &&& 31)) &&& (3 : Int32)))] [])) _
    refine XS.aload X11.here hx rfl (hb hby at_232) rfl rfl ?_
    refine XS.aload X11.here hx rfl (hb hby at_234) rfl rfl ?_
    refine st12.trans ?_
    show Steps p.tables e below (T12.setTop (mkF m 239 #[.val (.int u0), .val (.int u1), .val (.int u2), .val (.int u3), .val (.int u4), .val (.int u5), .val (.int dd), .val (.ref b1), .val (.int v0), .val (.int v1), .val (.int v2), .val (.int v3), .val (.int v4), .val (.ref b2), .val (.int sm), .val (.int ((u5 >>> ((5 : Int32) &&& 31)) &&& (3 : Int32)))] [(.int (0 : Int32))])) _
    refine XS.iload X12.here hx rfl (hb hby at_239) rfl ?_
    refine XS.icmpNo X12.here hx rfl (hb hby at_241) rfl (teq hf11).2 ?_
    refine XS.aload X12.here hx rfl (hb hby at_244) rfl rfl ?_
    show Steps p.tables e below (T12.setTop (mkF m 246 #[.val (.int u0), .val (.int u1), .val (.int u2), .val (.int u3), .val (.int u4), .val (.int u5), .val (.int dd), .val (.ref b1), .val (.int v0), .val (.int v1), .val (.int v2), .val (.int v3), .val (.int v4), .val (.ref b2), .val (.int sm), .val (.int ((u5 >>> ((5 : Int32) &&& 31)) &&& (3 : Int32)))] [(.ref b1)])) _
    refine XS.aload X12.here hx rfl (hb hby at_246) rfl rfl ?_
    refine st13.trans ?_
    refine XS.ifNo X13.here hx rfl (hb hby at_251) rfl ((if0 _ _).trans (feq (by decide : ¬ ((1 : Int32) = (0 : Int32)))).1) ?_
    show Steps p.tables e below (T13.setTop (mkF m 254 #[.val (.int u0), .val (.int u1), .val (.int u2), .val (.int u3), .val (.int u4), .val (.int u5), .val (.int dd), .val (.ref b1), .val (.int v0), .val (.int v1), .val (.int v2), .val (.int v3), .val (.int v4), .val (.ref b2), .val (.int sm), .val (.int ((u5 >>> ((5 : Int32) &&& 31)) &&& (3 : Int32)))] [])) _
    refine XS.iconst X13.here hx rfl (hb hby at_254) ?_
    refine XS.goto X13.here hx rfl (pc0 := 255) (pc' := 259) rfl (hb hby at_255) (by decide) (by decide) ?_
    show Steps p.tables e below (T13.setTop (mkF m 259 #[.val (.int u0), .val (.int u1), .val (.int u2), .val (.int u3), .val (.int u4), .val (.int u5), .val (.int dd), .val (.ref b1), .val (.int v0), .val (.int v1), .val (.int v2), .val (.int v3), .val (.int v4), .val (.ref b2), .val (.int sm), .val (.int ((u5 >>> ((5 : Int32) &&& 31)) &&& (3 : Int32)))] [(.int (1 : Int32))])) _
    exact retN X13 hx (t := .boolean) Bd.returns (by simp) (hb hby at_259) hr
  · exact ⟨rfl, N13⟩
set_option maxRecDepth 65536 in
set_option maxHeartbeats 40000000 in
theorem rm_equals_23 (l : Launch) (Z : State) (a0 : Array Value) (hw : ∀ d ∈ tables_1, d.before a0 Z = true) (w : Nat → Addr) (κ : Nat → ClassId) (h0 : Heap) (n0 : Nat) (Z0 : n0 ≤ h0.size) (K : Kon Z h0 w κ) (u0 u1 u2 u3 u4 u5 dd v0 v1 v2 v3 v4 sm : Int32) (b1 : Addr) (b2 : Addr) (hf5 : u0 = v0) (hf6 : u1 = v1) (hf7 : u2 = v2) (hf8 : ¬ (u3 = v3)) (fF_b1_com_example_bot_workflow_runner_botworkflowrunner_model_Progress_total : Fld Z h0 b1 "com/example/bot_workflow_runner/botworkflowrunner/model/Progress" "total" "I" (.int u0)) (fF_b1_com_example_bot_workflow_runner_botworkflowrunner_model_Progress_completed : Fld Z h0 b1 "com/example/bot_workflow_runner/botworkflowrunner/model/Progress" "completed" "I" (.int u1)) (fF_b1_com_example_bot_workflow_runner_botworkflowrunner_model_Progress_running : Fld Z h0 b1 "com/example/bot_workflow_runner/botworkflowrunner/model/Progress" "running" "I" (.int u2)) (fF_b1_com_example_bot_workflow_runner_botworkflowrunner_model_Progress_failed : Fld Z h0 b1 "com/example/bot_workflow_runner/botworkflowrunner/model/Progress" "failed" "I" (.int u3)) (fE_b2 : Exa Z h0 b2 "com/example/bot_workflow_runner/botworkflowrunner/model/Progress") (fF_b2_com_example_bot_workflow_runner_botworkflowrunner_model_Progress_total : Fld Z h0 b2 "com/example/bot_workflow_runner/botworkflowrunner/model/Progress" "total" "I" (.int v0)) (fF_b2_com_example_bot_workflow_runner_botworkflowrunner_model_Progress_completed : Fld Z h0 b2 "com/example/bot_workflow_runner/botworkflowrunner/model/Progress" "completed" "I" (.int v1)) (fF_b2_com_example_bot_workflow_runner_botworkflowrunner_model_Progress_running : Fld Z h0 b2 "com/example/bot_workflow_runner/botworkflowrunner/model/Progress" "running" "I" (.int v2)) (fF_b2_com_example_bot_workflow_runner_botworkflowrunner_model_Progress_failed : Fld Z h0 b2 "com/example/bot_workflow_runner/botworkflowrunner/model/Progress" "failed" "I" (.int v3)) :
    OM l Z (⟨"com/example/bot_workflow_runner/botworkflowrunner/model/Progress", "equals", "(Ljava/lang/Object;)Z"⟩ : MethodName) prog_31_method_10_code 3 (some .boolean) [] ({ frames := 0, cells := 0, slots := 0, locals := 0 } : Room) #[(.ref b1), (.ref b2)] h0 (OP (some (.int (0 : Int32))) n0 h0) := by
  refine MetFree.of_bodySF (plainFor_of_name pn_com_example_bot_workflow_runner_botworkflowrunner_model_Progress) hisR ?_
  intro p e s m args below meth c s₁ Bd hml0 hP hK
  obtain ⟨rfl, hZ, hh⟩ := hP
  have hx := Bd.exec
  have hby := Bd.bytes
  have hml : c.maxLocals = 3 := hml0
  have hown : s.vm.findClass "com/example/bot_workflow_runner/botworkflowrunner/model/Progress" = some m.cls := findClass_of_methodNamed Bd.named
  have hnm := (name_of_methodNamed Bd.named Bd.method).1
  have X0 : Stand p l e ({ frames := 0, cells := 0, slots := 0, locals := 0 } : Room) s m #[(.ref b1), (.ref b2)] below meth c s₁ [] 0 0 := Stand.of_body Bd
  have e0 : s₁.heap = h0 := by rw [← hh, Bd.state]; rfl
  have N0 := Fr.nil n0
  have pre0 : ∀ t, Steps p.tables e below (s₁.setTop (mkF m 0 #[.val (.ref b1), .val (.ref b2), .unset] [])) t → Steps p.tables e below (s₁.setTop (entryFrame m #[(.ref b1), (.ref b2)] 3)) t := fun t k => castTop (ef_prog_31_method_10_code_RR m b1 b2) k
  obtain ⟨T1, X1, e1, st1⟩ := instY X0 hx hZ hown (hw _ (List.mem_of_getElem? (i := 24) rfl)) e0 (Ins.self fE_b2) (g := (mkF m 1 #[.val (.ref b1), .val (.ref b2), .unset] [(.ref b2)])) rfl rfl (hb hby d_prog_31_method_10_code_1)
  obtain ⟨T2, X2, e2, st2⟩ := castY X1 hx hZ hown (hw _ (List.mem_of_getElem? (i := 24) rfl)) e1 (Ins.self fE_b2) (g := (mkF m 10 #[.val (.ref b1), .val (.ref b2), .unset] [(.ref b2)])) rfl rfl (hb hby d_prog_31_method_10_code_10)
  obtain ⟨T3, X3, e3, st3⟩ := getF X2 hx hZ hown (host := "") (Or.inl (hw _ (List.mem_of_getElem? (i := 9) rfl))) Via.refl e2 fF_b1_com_example_bot_workflow_runner_botworkflowrunner_model_Progress_total (g := (mkF m 15 #[.val (.ref b1), .val (.ref b2), .val (.ref b2)] [(.ref b1)])) rfl rfl (hb hby d_prog_31_method_10_code_15)
  obtain ⟨T4, X4, e4, st4⟩ := getF X3 hx hZ hown (host := "") (Or.inl (hw _ (List.mem_of_getElem? (i := 9) rfl))) Via.refl e3 fF_b2_com_example_bot_workflow_runner_botworkflowrunner_model_Progress_total (g := (mkF m 19 #[.val (.ref b1), .val (.ref b2), .val (.ref b2)] [(.ref b2), (.int u0)])) rfl rfl (hb hby d_prog_31_method_10_code_19)
  obtain ⟨T5, X5, e5, st5⟩ := getF X4 hx hZ hown (host := "") (Or.inl (hw _ (List.mem_of_getElem? (i := 11) rfl))) Via.refl e4 fF_b1_com_example_bot_workflow_runner_botworkflowrunner_model_Progress_completed (g := (mkF m 26 #[.val (.ref b1), .val (.ref b2), .val (.ref b2)] [(.ref b1)])) rfl rfl (hb hby d_prog_31_method_10_code_26)
  obtain ⟨T6, X6, e6, st6⟩ := getF X5 hx hZ hown (host := "") (Or.inl (hw _ (List.mem_of_getElem? (i := 11) rfl))) Via.refl e5 fF_b2_com_example_bot_workflow_runner_botworkflowrunner_model_Progress_completed (g := (mkF m 30 #[.val (.ref b1), .val (.ref b2), .val (.ref b2)] [(.ref b2), (.int u1)])) rfl rfl (hb hby d_prog_31_method_10_code_30)
  obtain ⟨T7, X7, e7, st7⟩ := getF X6 hx hZ hown (host := "") (Or.inl (hw _ (List.mem_of_getElem? (i := 13) rfl))) Via.refl e6 fF_b1_com_example_bot_workflow_runner_botworkflowrunner_model_Progress_running (g := (mkF m 37 #[.val (.ref b1), .val (.ref b2), .val (.ref b2)] [(.ref b1)])) rfl rfl (hb hby d_prog_31_method_10_code_37)
  obtain ⟨T8, X8, e8, st8⟩ := getF X7 hx hZ hown (host := "") (Or.inl (hw _ (List.mem_of_getElem? (i := 13) rfl))) Via.refl e7 fF_b2_com_example_bot_workflow_runner_botworkflowrunner_model_Progress_running (g := (mkF m 41 #[.val (.ref b1), .val (.ref b2), .val (.ref b2)] [(.ref b2), (.int u2)])) rfl rfl (hb hby d_prog_31_method_10_code_41)
  obtain ⟨T9, X9, e9, st9⟩ := getF X8 hx hZ hown (host := "") (Or.inl (hw _ (List.mem_of_getElem? (i := 15) rfl))) Via.refl e8 fF_b1_com_example_bot_workflow_runner_botworkflowrunner_model_Progress_failed (g := (mkF m 48 #[.val (.ref b1), .val (.ref b2), .val (.ref b2)] [(.ref b1)])) rfl rfl (hb hby d_prog_31_method_10_code_48)
  obtain ⟨T10, X10, e10, st10⟩ := getF X9 hx hZ hown (host := "") (Or.inl (hw _ (List.mem_of_getElem? (i := 15) rfl))) Via.refl e9 fF_b2_com_example_bot_workflow_runner_botworkflowrunner_model_Progress_failed (g := (mkF m 52 #[.val (.ref b1), .val (.ref b2), .val (.ref b2)] [(.ref b2), (.int u3)])) rfl rfl (hb hby d_prog_31_method_10_code_52)
  obtain ⟨fs, hr, hrun, hended, hW, hsame⟩ := X10.leave (v := (some (.int (0 : Int32)))) (fun h => by rw [Bd.returns] at h; cases h)
  refine ⟨_, _, pre0 _ ?_, hrun, hended, _, _, rfl, ?_, ⟨_, rfl⟩, hW, hsame.mono (by decide) (by decide)⟩
  · show Steps p.tables e below (s₁.setTop (mkF m 0 #[.val (.ref b1), .val (.ref b2), .unset] [])) _
    refine XS.aloadN X0.here hx rfl (hb hby d_prog_31_method_10_code_0) rfl rfl ?_
    refine st1 _ ?_
    refine XS.ifYes X1.here hx rfl (pc0 := 4) (pc' := 9) rfl (hb hby d_prog_31_method_10_code_4) rfl ((if0 _ _).trans (feq (by decide : ¬ ((1 : Int32) = (0 : Int32)))).2) (by decide) (by decide) ?_
    show Steps p.tables e below (T1.setTop (mkF m 9 #[.val (.ref b1), .val (.ref b2), .unset] [])) _
    refine XS.aloadN X1.here hx rfl (hb hby d_prog_31_method_10_code_9) rfl rfl ?_
    refine st2 _ ?_
    refine XS.astoreN X2.here hx rfl (hb hby d_prog_31_method_10_code_13) rfl rfl (l' := #[.val (.ref b1), .val (.ref b2), .val (.ref b2)]) rfl ?_
    show Steps p.tables e below (T2.setTop (mkF m 14 #[.val (.ref b1), .val (.ref b2), .val (.ref b2)] [])) _
    refine XS.aloadN X2.here hx rfl (hb hby d_prog_31_method_10_code_14) rfl rfl ?_
    refine st3 _ ?_
    refine XS.aloadN X3.here hx rfl (hb hby d_prog_31_method_10_code_18) rfl rfl ?_
    show Steps p.tables e below (T3.setTop (mkF m 19 #[.val (.ref b1), .val (.ref b2), .val (.ref b2)] [(.ref b2), (.int u0)])) _
    refine st4 _ ?_
    refine XS.icmpNo X4.here hx rfl (hb hby d_prog_31_method_10_code_22) rfl (teq hf5).2 ?_
    refine XS.aloadN X4.here hx rfl (hb hby d_prog_31_method_10_code_25) rfl rfl ?_
    show Steps p.tables e below (T4.setTop (mkF m 26 #[.val (.ref b1), .val (.ref b2), .val (.ref b2)] [(.ref b1)])) _
    refine st5 _ ?_
    refine XS.aloadN X5.here hx rfl (hb hby d_prog_31_method_10_code_29) rfl rfl ?_
    refine st6 _ ?_
    show Steps p.tables e below (T6.setTop (mkF m 33 #[.val (.ref b1), .val (.ref b2), .val (.ref b2)] [(.int v1), (.int u1)])) _
    refine XS.icmpNo X6.here hx rfl (hb hby d_prog_31_method_10_code_33) rfl (teq hf6).2 ?_
    refine XS.aloadN X6.here hx rfl (hb hby d_prog_31_method_10_code_36) rfl rfl ?_
    refine st7 _ ?_
    show Steps p.tables e below (T7.setTop (mkF m 40 #[.val (.ref b1), .val (.ref b2), .val (.ref b2)] [(.int u2)])) _
    refine XS.aloadN X7.here hx rfl (hb hby d_prog_31_method_10_code_40) rfl rfl ?_
    refine st8 _ ?_
    refine XS.icmpNo X8.here hx rfl (hb hby d_prog_31_method_10_code_44) rfl (teq hf7).2 ?_
    show Steps p.tables e below (T8.setTop (mkF m 47 #[.val (.ref b1), .val (.ref b2), .val (.ref b2)] [])) _
    refine XS.aloadN X8.here hx rfl (hb hby d_prog_31_method_10_code_47) rfl rfl ?_
    refine st9 _ ?_
    refine XS.aloadN X9.here hx rfl (hb hby d_prog_31_method_10_code_51) rfl rfl ?_
    show Steps p.tables e below (T9.setTop (mkF m 52 #[.val (.ref b1), .val (.ref b2), .val (.ref b2)] [(.ref b2), (.int u3)])) _
    refine st10 _ ?_
    refine XS.icmpYes X10.here hx rfl (pc0 := 55) (pc' := 73) rfl (hb hby d_prog_31_method_10_code_55) rfl (feq hf8).2 (by decide) (by decide) ?_
    refine XS.iconst X10.here hx rfl (hb hby d_prog_31_method_10_code_73) ?_
    show Steps p.tables e below (T10.setTop (mkF m 74 #[.val (.ref b1), .val (.ref b2), .val (.ref b2)] [(.int (0 : Int32))])) _
    exact retN X10 hx (t := .boolean) Bd.returns (by simp) (hb hby d_prog_31_method_10_code_74) hr
  · exact ⟨rfl, N0, e10⟩
set_option maxRecDepth 65536 in
set_option maxHeartbeats 40000000 in
theorem rm_equals_24 (l : Launch) (Z : State) (a0 : Array Value) (hw : ∀ d ∈ tables_1, d.before a0 Z = true) (w : Nat → Addr) (κ : Nat → ClassId) (h0 : Heap) (n0 : Nat) (Z0 : n0 ≤ h0.size) (K : Kon Z h0 w κ) (u0 u1 u2 u3 u4 u5 dd v0 v1 v2 v3 v4 sm : Int32) (b1 : Addr) (b2 : Addr) (hf5 : u0 = v0) (hf6 : u1 = v1) (hf7 : u2 = v2) (hf8 : ¬ (u3 = v3)) (hv0 : (osel (decide ((u5 &&& (1 : Int32)) = (0 : Int32))) u0 (u0 + dd)) = v0) (hv1 : (osel (decide ((u5 &&& (2 : Int32)) = (0 : Int32))) u1 (u1 + dd)) = v1) (hv2 : (osel (decide ((u5 &&& (4 : Int32)) = (0 : Int32))) u2 (u2 + dd)) = v2) (hv3 : (osel (decide ((u5 &&& (8 : Int32)) = (0 : Int32))) u3 (u3 + dd)) = v3) (fE_b1 : Exa Z h0 b1 "com/example/bot_workflow_runner/botworkflowrunner/model/Progress") (fF_b1_com_example_bot_workflow_runner_botworkflowrunner_model_Progress_total : Fld Z h0 b1 "com/example/bot_workflow_runner/botworkflowrunner/model/Progress" "total" "I" (.int u0)) (fF_b1_com_example_bot_workflow_runner_botworkflowrunner_model_Progress_completed : Fld Z h0 b1 "com/example/bot_workflow_runner/botworkflowrunner/model/Progress" "completed" "I" (.int u1)) (fF_b1_com_example_bot_workflow_runner_botworkflowrunner_model_Progress_running : Fld Z h0 b1 "com/example/bot_workflow_runner/botworkflowrunner/model/Progress" "running" "I" (.int u2)) (fF_b1_com_example_bot_workflow_runner_botworkflowrunner_model_Progress_failed : Fld Z h0 b1 "com/example/bot_workflow_runner/botworkflowrunner/model/Progress" "failed" "I" (.int u3)) (fF_b2_com_example_bot_workflow_runner_botworkflowrunner_model_Progress_total : Fld Z h0 b2 "com/example/bot_workflow_runner/botworkflowrunner/model/Progress" "total" "I" (.int v0)) (fF_b2_com_example_bot_workflow_runner_botworkflowrunner_model_Progress_completed : Fld Z h0 b2 "com/example/bot_workflow_runner/botworkflowrunner/model/Progress" "completed" "I" (.int v1)) (fF_b2_com_example_bot_workflow_runner_botworkflowrunner_model_Progress_running : Fld Z h0 b2 "com/example/bot_workflow_runner/botworkflowrunner/model/Progress" "running" "I" (.int v2)) (fF_b2_com_example_bot_workflow_runner_botworkflowrunner_model_Progress_failed : Fld Z h0 b2 "com/example/bot_workflow_runner/botworkflowrunner/model/Progress" "failed" "I" (.int v3)) :
    OM l Z (⟨"com/example/bot_workflow_runner/botworkflowrunner/model/Progress", "equals", "(Ljava/lang/Object;)Z"⟩ : MethodName) prog_31_method_10_code 3 (some .boolean) [] ({ frames := 0, cells := 0, slots := 0, locals := 0 } : Room) #[(.ref b2), (.ref b1)] h0 (OP (some (.int (0 : Int32))) n0 h0) := by
  refine MetFree.of_bodySF (plainFor_of_name pn_com_example_bot_workflow_runner_botworkflowrunner_model_Progress) hisR ?_
  intro p e s m args below meth c s₁ Bd hml0 hP hK
  obtain ⟨rfl, hZ, hh⟩ := hP
  have hx := Bd.exec
  have hby := Bd.bytes
  have hml : c.maxLocals = 3 := hml0
  have hown : s.vm.findClass "com/example/bot_workflow_runner/botworkflowrunner/model/Progress" = some m.cls := findClass_of_methodNamed Bd.named
  have hnm := (name_of_methodNamed Bd.named Bd.method).1
  have X0 : Stand p l e ({ frames := 0, cells := 0, slots := 0, locals := 0 } : Room) s m #[(.ref b2), (.ref b1)] below meth c s₁ [] 0 0 := Stand.of_body Bd
  have e0 : s₁.heap = h0 := by rw [← hh, Bd.state]; rfl
  have N0 := Fr.nil n0
  have pre0 : ∀ t, Steps p.tables e below (s₁.setTop (mkF m 0 #[.val (.ref b2), .val (.ref b1), .unset] [])) t → Steps p.tables e below (s₁.setTop (entryFrame m #[(.ref b2), (.ref b1)] 3)) t := fun t k => castTop (ef_prog_31_method_10_code_RR m b2 b1) k
  obtain ⟨T1, X1, e1, st1⟩ := instY X0 hx hZ hown (hw _ (List.mem_of_getElem? (i := 24) rfl)) e0 (Ins.self fE_b1) (g := (mkF m 1 #[.val (.ref b2), .val (.ref b1), .unset] [(.ref b1)])) rfl rfl (hb hby d_prog_31_method_10_code_1)
  obtain ⟨T2, X2, e2, st2⟩ := castY X1 hx hZ hown (hw _ (List.mem_of_getElem? (i := 24) rfl)) e1 (Ins.self fE_b1) (g := (mkF m 10 #[.val (.ref b2), .val (.ref b1), .unset] [(.ref b1)])) rfl rfl (hb hby d_prog_31_method_10_code_10)
  obtain ⟨T3, X3, e3, st3⟩ := getF X2 hx hZ hown (host := "") (Or.inl (hw _ (List.mem_of_getElem? (i := 9) rfl))) Via.refl e2 fF_b2_com_example_bot_workflow_runner_botworkflowrunner_model_Progress_total (g := (mkF m 15 #[.val (.ref b2), .val (.ref b1), .val (.ref b1)] [(.ref b2)])) rfl rfl (hb hby d_prog_31_method_10_code_15)
  obtain ⟨T4, X4, e4, st4⟩ := getF X3 hx hZ hown (host := "") (Or.inl (hw _ (List.mem_of_getElem? (i := 9) rfl))) Via.refl e3 fF_b1_com_example_bot_workflow_runner_botworkflowrunner_model_Progress_total (g := (mkF m 19 #[.val (.ref b2), .val (.ref b1), .val (.ref b1)] [(.ref b1), (.int v0)])) rfl rfl (hb hby d_prog_31_method_10_code_19)
  obtain ⟨T5, X5, e5, st5⟩ := getF X4 hx hZ hown (host := "") (Or.inl (hw _ (List.mem_of_getElem? (i := 11) rfl))) Via.refl e4 fF_b2_com_example_bot_workflow_runner_botworkflowrunner_model_Progress_completed (g := (mkF m 26 #[.val (.ref b2), .val (.ref b1), .val (.ref b1)] [(.ref b2)])) rfl rfl (hb hby d_prog_31_method_10_code_26)
  obtain ⟨T6, X6, e6, st6⟩ := getF X5 hx hZ hown (host := "") (Or.inl (hw _ (List.mem_of_getElem? (i := 11) rfl))) Via.refl e5 fF_b1_com_example_bot_workflow_runner_botworkflowrunner_model_Progress_completed (g := (mkF m 30 #[.val (.ref b2), .val (.ref b1), .val (.ref b1)] [(.ref b1), (.int v1)])) rfl rfl (hb hby d_prog_31_method_10_code_30)
  obtain ⟨T7, X7, e7, st7⟩ := getF X6 hx hZ hown (host := "") (Or.inl (hw _ (List.mem_of_getElem? (i := 13) rfl))) Via.refl e6 fF_b2_com_example_bot_workflow_runner_botworkflowrunner_model_Progress_running (g := (mkF m 37 #[.val (.ref b2), .val (.ref b1), .val (.ref b1)] [(.ref b2)])) rfl rfl (hb hby d_prog_31_method_10_code_37)
  obtain ⟨T8, X8, e8, st8⟩ := getF X7 hx hZ hown (host := "") (Or.inl (hw _ (List.mem_of_getElem? (i := 13) rfl))) Via.refl e7 fF_b1_com_example_bot_workflow_runner_botworkflowrunner_model_Progress_running (g := (mkF m 41 #[.val (.ref b2), .val (.ref b1), .val (.ref b1)] [(.ref b1), (.int v2)])) rfl rfl (hb hby d_prog_31_method_10_code_41)
  obtain ⟨T9, X9, e9, st9⟩ := getF X8 hx hZ hown (host := "") (Or.inl (hw _ (List.mem_of_getElem? (i := 15) rfl))) Via.refl e8 fF_b2_com_example_bot_workflow_runner_botworkflowrunner_model_Progress_failed (g := (mkF m 48 #[.val (.ref b2), .val (.ref b1), .val (.ref b1)] [(.ref b2)])) rfl rfl (hb hby d_prog_31_method_10_code_48)
  obtain ⟨T10, X10, e10, st10⟩ := getF X9 hx hZ hown (host := "") (Or.inl (hw _ (List.mem_of_getElem? (i := 15) rfl))) Via.refl e9 fF_b1_com_example_bot_workflow_runner_botworkflowrunner_model_Progress_failed (g := (mkF m 52 #[.val (.ref b2), .val (.ref b1), .val (.ref b1)] [(.ref b1), (.int v3)])) rfl rfl (hb hby d_prog_31_method_10_code_52)
  obtain ⟨fs, hr, hrun, hended, hW, hsame⟩ := X10.leave (v := (some (.int (0 : Int32)))) (fun h => by rw [Bd.returns] at h; cases h)
  refine ⟨_, _, pre0 _ ?_, hrun, hended, _, _, rfl, ?_, ⟨_, rfl⟩, hW, hsame.mono (by decide) (by decide)⟩
  · show Steps p.tables e below (s₁.setTop (mkF m 0 #[.val (.ref b2), .val (.ref b1), .unset] [])) _
    refine XS.aloadN X0.here hx rfl (hb hby d_prog_31_method_10_code_0) rfl rfl ?_
    refine st1 _ ?_
    refine XS.ifYes X1.here hx rfl (pc0 := 4) (pc' := 9) rfl (hb hby d_prog_31_method_10_code_4) rfl ((if0 _ _).trans (feq (by decide : ¬ ((1 : Int32) = (0 : Int32)))).2) (by decide) (by decide) ?_
    show Steps p.tables e below (T1.setTop (mkF m 9 #[.val (.ref b2), .val (.ref b1), .unset] [])) _
    refine XS.aloadN X1.here hx rfl (hb hby d_prog_31_method_10_code_9) rfl rfl ?_
    refine st2 _ ?_
    refine XS.astoreN X2.here hx rfl (hb hby d_prog_31_method_10_code_13) rfl rfl (l' := #[.val (.ref b2), .val (.ref b1), .val (.ref b1)]) rfl ?_
    show Steps p.tables e below (T2.setTop (mkF m 14 #[.val (.ref b2), .val (.ref b1), .val (.ref b1)] [])) _
    refine XS.aloadN X2.here hx rfl (hb hby d_prog_31_method_10_code_14) rfl rfl ?_
    refine st3 _ ?_
    refine XS.aloadN X3.here hx rfl (hb hby d_prog_31_method_10_code_18) rfl rfl ?_
    show Steps p.tables e below (T3.setTop (mkF m 19 #[.val (.ref b2), .val (.ref b1), .val (.ref b1)] [(.ref b1), (.int v0)])) _
    refine st4 _ ?_
    refine XS.icmpNo X4.here hx rfl (hb hby d_prog_31_method_10_code_22) rfl (teq (by have z0 := congrArg Int32.toInt hv0; have z1 := congrArg Int32.toInt hf5; have r0 := rng32 v0; have r1 := rng32 u0; exact Int32.toInt_inj.mp (by omega) : v0 = u0)).2 ?_
    refine XS.aloadN X4.here hx rfl (hb hby d_prog_31_method_10_code_25) rfl rfl ?_
    show Steps p.tables e below (T4.setTop (mkF m 26 #[.val (.ref b2), .val (.ref b1), .val (.ref b1)] [(.ref b2)])) _
    refine st5 _ ?_
    refine XS.aloadN X5.here hx rfl (hb hby d_prog_31_method_10_code_29) rfl rfl ?_
    refine st6 _ ?_
    show Steps p.tables e below (T6.setTop (mkF m 33 #[.val (.ref b2), .val (.ref b1), .val (.ref b1)] [(.int u1), (.int v1)])) _
    refine XS.icmpNo X6.here hx rfl (hb hby d_prog_31_method_10_code_33) rfl (teq (by have z0 := congrArg Int32.toInt hv1; have z1 := congrArg Int32.toInt hf6; have r0 := rng32 v1; have r1 := rng32 u1; exact Int32.toInt_inj.mp (by omega) : v1 = u1)).2 ?_
    refine XS.aloadN X6.here hx rfl (hb hby d_prog_31_method_10_code_36) rfl rfl ?_
    refine st7 _ ?_
    show Steps p.tables e below (T7.setTop (mkF m 40 #[.val (.ref b2), .val (.ref b1), .val (.ref b1)] [(.int v2)])) _
    refine XS.aloadN X7.here hx rfl (hb hby d_prog_31_method_10_code_40) rfl rfl ?_
    refine st8 _ ?_
    refine XS.icmpNo X8.here hx rfl (hb hby d_prog_31_method_10_code_44) rfl (teq (by have z0 := congrArg Int32.toInt hv2; have z1 := congrArg Int32.toInt hf7; have r0 := rng32 v2; have r1 := rng32 u2; exact Int32.toInt_inj.mp (by omega) : v2 = u2)).2 ?_
    show Steps p.tables e below (T8.setTop (mkF m 47 #[.val (.ref b2), .val (.ref b1), .val (.ref b1)] [])) _
    refine XS.aloadN X8.here hx rfl (hb hby d_prog_31_method_10_code_47) rfl rfl ?_
    refine st9 _ ?_
    refine XS.aloadN X9.here hx rfl (hb hby d_prog_31_method_10_code_51) rfl rfl ?_
    show Steps p.tables e below (T9.setTop (mkF m 52 #[.val (.ref b2), .val (.ref b1), .val (.ref b1)] [(.ref b1), (.int v3)])) _
    refine st10 _ ?_
    refine XS.icmpYes X10.here hx rfl (pc0 := 55) (pc' := 73) rfl (hb hby d_prog_31_method_10_code_55) rfl (feq (by have z0 := congrArg Int32.toInt hv3; have z1 := mt Int32.toInt_inj.mp hf8; have r0 := rng32 v3; have r1 := rng32 u3; exact fun hh => absurd (congrArg Int32.toInt hh) (by omega) : ¬ (v3 = u3))).2 (by decide) (by decide) ?_
    refine XS.iconst X10.here hx rfl (hb hby d_prog_31_method_10_code_73) ?_
    show Steps p.tables e below (T10.setTop (mkF m 74 #[.val (.ref b2), .val (.ref b1), .val (.ref b1)] [(.int (0 : Int32))])) _
    exact retN X10 hx (t := .boolean) Bd.returns (by simp) (hb hby d_prog_31_method_10_code_74) hr
  · exact ⟨rfl, N0, e10⟩
set_option maxRecDepth 65536 in
set_option maxHeartbeats 40000000 in
theorem rm0_25 (l : Launch) (Z : State) (a0 : Array Value) (hw : ∀ d ∈ tables_1, d.before a0 Z = true) (w : Nat → Addr) (κ : Nat → ClassId) (h0 : Heap) (n0 : Nat) (Z0 : n0 ≤ h0.size) (K : Kon Z h0 w κ) (u0 u1 u2 u3 u4 u5 dd v0 v1 v2 v3 v4 sm : Int32) (hdd : ((u5 >>> ((8 : Int32) &&& 31)) ||| (1 : Int32)) = dd) (hf1 : ¬ (((u5 >>> ((5 : Int32) &&& 31)) &&& (3 : Int32)) = (1 : Int32))) (hf12 : (0 : Int32) = sm) (hf2 : ¬ (((u5 >>> ((5 : Int32) &&& 31)) &&& (3 : Int32)) = (2 : Int32))) (hf5 : u0 = v0) (hf6 : u1 = v1) (hf7 : u2 = v2) (hf8 : ¬ (u3 = v3)) (hsm : (osel (decide ((u5 &&& (31 : Int32)) = (0 : Int32))) (1 : Int32) (0 : Int32)) = sm) (hv0 : (osel (decide ((u5 &&& (1 : Int32)) = (0 : Int32))) u0 (u0 + dd)) = v0) (hv1 : (osel (decide ((u5 &&& (2 : Int32)) = (0 : Int32))) u1 (u1 + dd)) = v1) (hv2 : (osel (decide ((u5 &&& (4 : Int32)) = (0 : Int32))) u2 (u2 + dd)) = v2) (hv3 : (osel (decide ((u5 &&& (8 : Int32)) = (0 : Int32))) u3 (u3 + dd)) = v3) (hv4 : (osel (decide ((u5 &&& (16 : Int32)) = (0 : Int32))) u4 (u4 + dd)) = v4) :
    OM l Z x code maxLocals ret tables_1 room_1 #[(.int u0), (.int u1), (.int u2), (.int u3), (.int u4), (.int u5)] h0 (OF (some (.int (1 : Int32))) n0) := by
  refine MetFree.of_bodySF (plainFor_of_name pn_com_example_bot_workflow_runner_botworkflowrunner_model_ProgressEqualsPinLaw) hisR ?_
  intro p e s m args below meth c s₁ Bd hml0 hP hK
  obtain ⟨rfl, hZ, hh⟩ := hP
  have hx := Bd.exec
  have hby := Bd.bytes
  have hml : c.maxLocals = 16 := hml0
  have hown : s.vm.findClass "com/example/bot_workflow_runner/botworkflowrunner/model/ProgressEqualsPinLaw" = some m.cls := findClass_of_methodNamed Bd.named
  have hnm := (name_of_methodNamed Bd.named Bd.method).1
  have X0 : Stand p l e room_1 s m #[(.int u0), (.int u1), (.int u2), (.int u3), (.int u4), (.int u5)] below meth c s₁ [] 0 0 := Stand.of_body Bd
  have e0 : s₁.heap = h0 := by rw [← hh, Bd.state]; rfl
  have N0 := Fr.nil n0
  have pre0 : ∀ t, Steps p.tables e below (s₁.setTop (mkF m 0 #[.val (.int u0), .val (.int u1), .val (.int u2), .val (.int u3), .val (.int u4), .val (.int u5), .unset, .unset, .unset, .unset, .unset, .unset, .unset, .unset, .unset, .unset] [])) t → Steps p.tables e below (s₁.setTop (entryFrame m #[(.int u0), (.int u1), (.int u2), (.int u3), (.int u4), (.int u5)] maxLocals)) t := fun t k => castTop (ef_code_IIIIII m u0 u1 u2 u3 u4 u5) k
  obtain ⟨T1, h1, X1, e1, E1, A1, D1, -, st1⟩ := newO X0 hx hZ hown (hw _ (List.mem_of_getElem? (i := 0) rfl)) (hw _ (List.mem_of_getElem? (i := 1) rfl)) (hw _ (List.mem_of_getElem? (i := 2) rfl)) e0 (g := (mkF m 9 #[.val (.int u0), .val (.int u1), .val (.int u2), .val (.int u3), .val (.int u4), .val (.int u5), .val (.int dd), .unset, .unset, .unset, .unset, .unset, .unset, .unset, .unset, .unset] [])) rfl (hb hby at_9) (by decide) (by decide)
  obtain ⟨b1, g1⟩ : ∃ z, z = h0.size := ⟨_, rfl⟩
  rw [← g1] at A1 D1 st1
  have hG1 : n0 ≤ b1 := Nat.le_trans Z0 (Nat.le_of_eq g1.symm)
  have hKN1 : ∀ i, i < 1 → w i ≠ b1 := fun i hi => by rw [g1]; exact Nat.ne_of_lt (K.lt i hi)
  have K1 := K.ext E1
  have Z1 : n0 ≤ h1.size := Nat.le_trans Z0 E1.1
  have f1_total : Fld Z h1 b1 "com/example/bot_workflow_runner/botworkflowrunner/model/Progress" "total" "I" (.int (0 : Int32)) := D1 (Or.inr (hw _ (List.mem_of_getElem? (i := 10) rfl))) (ty := .int) (by decide)
  have f1_completed : Fld Z h1 b1 "com/example/bot_workflow_runner/botworkflowrunner/model/Progress" "completed" "I" (.int (0 : Int32)) := D1 (Or.inr (hw _ (List.mem_of_getElem? (i := 12) rfl))) (ty := .int) (by decide)
  have f1_running : Fld Z h1 b1 "com/example/bot_workflow_runner/botworkflowrunner/model/Progress" "running" "I" (.int (0 : Int32)) := D1 (Or.inr (hw _ (List.mem_of_getElem? (i := 14) rfl))) (ty := .int) (by decide)
  have f1_failed : Fld Z h1 b1 "com/example/bot_workflow_runner/botworkflowrunner/model/Progress" "failed" "I" (.int (0 : Int32)) := D1 (Or.inr (hw _ (List.mem_of_getElem? (i := 16) rfl))) (ty := .int) (by decide)
  have f1_skipped : Fld Z h1 b1 "com/example/bot_workflow_runner/botworkflowrunner/model/Progress" "skipped" "I" (.int (0 : Int32)) := D1 (Or.inr (hw _ (List.mem_of_getElem? (i := 18) rfl))) (ty := .int) (by decide)
  obtain ⟨_, _, ⟨T2, L2, kk2, n2⟩, -, X2, ⟨Lc2, hQ2, l2, y2, z2⟩, st2⟩ := Jvm.Stand.specialBack X1 hx (y := (⟨"com/example/bot_workflow_runner/botworkflowrunner/model/Progress", "<init>", "(IIIII)V"⟩ : MethodName)) rfl hown (mvT hZ (hw _ (List.mem_of_getElem? (i := 3) rfl))) (mvT hZ (hw _ (List.mem_of_getElem? (i := 4) rfl))) (mvT hZ (hw _ (List.mem_of_getElem? (i := 5) rfl))) (by decide) (backOf (W := 1) (rm__init__1 l Z a0 hw w κ h1 n0 Z1 K1 u0 u1 u2 u3 u4 u5 dd v0 v1 v2 v3 v4 sm b1 A1 f1_total f1_completed f1_running f1_failed f1_skipped hG1 hKN1) hZ (hw _ (List.mem_of_getElem? (i := 5) rfl)) (hw _ (List.mem_of_getElem? (i := 2) rfl)) (by decide) (by decide)) (g := (mkF m 19 #[.val (.int u0), .val (.int u1), .val (.int u2), .val (.int u3), .val (.int u4), .val (.int u5), .val (.int dd), .unset, .unset, .unset, .unset, .unset, .unset, .unset, .unset, .unset] [(.int u4), (.int u3), (.int u2), (.int u1), (.int u0), (.ref b1), (.ref b1)])) rfl (by rw [hml]; rfl) (Steps.refl _) (a := b1) (argsL := [(.int u0), (.int u1), (.int u2), (.int u3), (.int u4)]) (rest := [(.ref b1)]) (lenOf pd_28IIIII29V rfl) rfl (by show 2 * 0 + _ ≤ _; exact Nat.le_of_eq rfl) (hb hby at_19) (fun _ _ => ⟨rfl, e1, (by decide : 1 + 0 ≤ _), (by decide : 5 + 0 ≤ _)⟩)
  dsimp only [Pt.U, Pt.locs, Pt.cells, Pt.slots] at X2 l2 y2 z2 st2 hQ2
  subst l2 y2 z2
  obtain ⟨rfl, N2q, Z2, K2, f2_0, f2_1, f2_2, f2_3, f2_4, f2_5⟩ := hQ2
  have N2 := Fr.app N0 N2q
  obtain ⟨T8, h8, X8, e8, E8, A8, D8, -, st8⟩ := newO X2 hx hZ hown (hw _ (List.mem_of_getElem? (i := 0) rfl)) (hw _ (List.mem_of_getElem? (i := 1) rfl)) (hw _ (List.mem_of_getElem? (i := 2) rfl)) rfl (g := (mkF m 113 #[.val (.int u0), .val (.int u1), .val (.int u2), .val (.int u3), .val (.int u4), .val (.int u5), .val (.int dd), .val (.ref b1), .val (.int v0), .val (.int v1), .val (.int v2), .val (.int v3), .val (.int v4), .unset, .unset, .unset] [])) rfl (hb hby at_113) (by decide) (by decide)
  obtain ⟨b2, g8⟩ : ∃ z, z = T2.heap.size := ⟨_, rfl⟩
  rw [← g8] at A8 D8 st8
  have hG8 : n0 ≤ b2 := Nat.le_trans Z2 (Nat.le_of_eq g8.symm)
  have hN8_0 : b1 ≠ b2 := by rw [g8]; exact Nat.ne_of_lt f2_0.lt
  have hKN8 : ∀ i, i < 1 → w i ≠ b2 := fun i hi => by rw [g8]; exact Nat.ne_of_lt (K2.lt i hi)
  have f8_fE_b1 := f2_0.ext E8
  have f8_fF_b1_com_example_bot_workflow_runner_botworkflowrunner_model_Progress_total := f2_1.ext E8
  have f8_fF_b1_com_example_bot_workflow_runner_botworkflowrunner_model_Progress_completed := f2_2.ext E8
  have f8_fF_b1_com_example_bot_workflow_runner_botworkflowrunner_model_Progress_running := f2_3.ext E8
  have f8_fF_b1_com_example_bot_workflow_runner_botworkflowrunner_model_Progress_failed := f2_4.ext E8
  have f8_fF_b1_com_example_bot_workflow_runner_botworkflowrunner_model_Progress_skipped := f2_5.ext E8
  have K8 := K2.ext E8
  have Z8 : n0 ≤ h8.size := Nat.le_trans Z2 E8.1
  have f8_total : Fld Z h8 b2 "com/example/bot_workflow_runner/botworkflowrunner/model/Progress" "total" "I" (.int (0 : Int32)) := D8 (Or.inr (hw _ (List.mem_of_getElem? (i := 10) rfl))) (ty := .int) (by decide)
  have f8_completed : Fld Z h8 b2 "com/example/bot_workflow_runner/botworkflowrunner/model/Progress" "completed" "I" (.int (0 : Int32)) := D8 (Or.inr (hw _ (List.mem_of_getElem? (i := 12) rfl))) (ty := .int) (by decide)
  have f8_running : Fld Z h8 b2 "com/example/bot_workflow_runner/botworkflowrunner/model/Progress" "running" "I" (.int (0 : Int32)) := D8 (Or.inr (hw _ (List.mem_of_getElem? (i := 14) rfl))) (ty := .int) (by decide)
  have f8_failed : Fld Z h8 b2 "com/example/bot_workflow_runner/botworkflowrunner/model/Progress" "failed" "I" (.int (0 : Int32)) := D8 (Or.inr (hw _ (List.mem_of_getElem? (i := 16) rfl))) (ty := .int) (by decide)
  have f8_skipped : Fld Z h8 b2 "com/example/bot_workflow_runner/botworkflowrunner/model/Progress" "skipped" "I" (.int (0 : Int32)) := D8 (Or.inr (hw _ (List.mem_of_getElem? (i := 18) rfl))) (ty := .int) (by decide)
  obtain ⟨_, _, ⟨T9, L9, kk9, n9⟩, -, X9, ⟨Lc9, hQ9, l9, y9, z9⟩, st9⟩ := Jvm.Stand.specialBack X8 hx (y := (⟨"com/example/bot_workflow_runner/botworkflowrunner/model/Progress", "<init>", "(IIIII)V"⟩ : MethodName)) rfl hown (mvT hZ (hw _ (List.mem_of_getElem? (i := 3) rfl))) (mvT hZ (hw _ (List.mem_of_getElem? (i := 4) rfl))) (mvT hZ (hw _ (List.mem_of_getElem? (i := 5) rfl))) (by decide) (backOf (W := 1) (rm__init__2 l Z a0 hw w κ h8 n0 Z8 K8 u0 u1 u2 u3 u4 u5 dd v0 v1 v2 v3 v4 sm b1 b2 f8_fE_b1 f8_fF_b1_com_example_bot_workflow_runner_botworkflowrunner_model_Progress_total f8_fF_b1_com_example_bot_workflow_runner_botworkflowrunner_model_Progress_completed f8_fF_b1_com_example_bot_workflow_runner_botworkflowrunner_model_Progress_running f8_fF_b1_com_example_bot_workflow_runner_botworkflowrunner_model_Progress_failed f8_fF_b1_com_example_bot_workflow_runner_botworkflowrunner_model_Progress_skipped A8 f8_total f8_completed f8_running f8_failed f8_skipped hG1 hKN1 hG8 hN8_0 hKN8) hZ (hw _ (List.mem_of_getElem? (i := 5) rfl)) (hw _ (List.mem_of_getElem? (i := 2) rfl)) (by decide) (by decide)) (g := (mkF m 127 #[.val (.int u0), .val (.int u1), .val (.int u2), .val (.int u3), .val (.int u4), .val (.int u5), .val (.int dd), .val (.ref b1), .val (.int v0), .val (.int v1), .val (.int v2), .val (.int v3), .val (.int v4), .unset, .unset, .unset] [(.int v4), (.int v3), (.int v2), (.int v1), (.int v0), (.ref b2), (.ref b2)])) rfl (by rw [hml]; rfl) (Steps.refl _) (a := b2) (argsL := [(.int v0), (.int v1), (.int v2), (.int v3), (.int v4)]) (rest := [(.ref b2)]) (lenOf pd_28IIIII29V rfl) rfl (by show 2 * 0 + _ ≤ _; exact Nat.le_of_eq rfl) (hb hby at_127) (fun _ _ => ⟨rfl, e8, (by decide : 2 + 0 ≤ _), (by decide : 10 + 0 ≤ _)⟩)
  dsimp only [Pt.U, Pt.locs, Pt.cells, Pt.slots] at X9 l9 y9 z9 st9 hQ9
  subst l9 y9 z9
  obtain ⟨rfl, N9q, Z9, K9, f9_0, f9_1, f9_2, f9_3, f9_4, f9_5, f9_6, f9_7, f9_8, f9_9, f9_10, f9_11⟩ := hQ9
  have N9 := Fr.app N2 N9q
  obtain ⟨cq11, kq11, qa11, qb11, qc11⟩ := isOf hZ rfl f9_0
  obtain ⟨_, _, ⟨T11, L11, kk11, n11⟩, -, X11, ⟨Lc11, hQ11, l11, y11, z11⟩, st11⟩ := X9.virtualBack hx (y := (⟨"com/example/bot_workflow_runner/botworkflowrunner/model/Progress", "equals", "(Ljava/lang/Object;)Z"⟩ : MethodName)) (z := (⟨"com/example/bot_workflow_runner/botworkflowrunner/model/Progress", "equals", "(Ljava/lang/Object;)Z"⟩ : MethodName)) hown (mvT hZ (hw _ (List.mem_of_getElem? (i := 19) rfl))) (mvT hZ (hw _ (List.mem_of_getElem? (i := 20) rfl))) (notFace_of_selects (args := #[]) (mvT hZ (hw _ (List.mem_of_getElem? (i := 22) rfl)))) (mvT hZ (hw _ (List.mem_of_getElem? (i := 22) rfl))) (mvT hZ (hw _ (List.mem_of_getElem? (i := 21) rfl))) (by decide) (backOf (W := 0) (rm_equals_23 l Z a0 hw w κ T9.heap n0 Z9 K9 u0 u1 u2 u3 u4 u5 dd v0 v1 v2 v3 v4 sm b1 b2 hf5 hf6 hf7 hf8 f9_1 f9_2 f9_3 f9_4 f9_6 f9_7 f9_8 f9_9 f9_10) hZ (hw _ (List.mem_of_getElem? (i := 23) rfl)) (hw _ (List.mem_of_getElem? (i := 2) rfl)) (by decide) (by decide)) qa11 qc11 (g := (mkF m 224 #[.val (.int u0), .val (.int u1), .val (.int u2), .val (.int u3), .val (.int u4), .val (.int u5), .val (.int dd), .val (.ref b1), .val (.int v0), .val (.int v1), .val (.int v2), .val (.int v3), .val (.int v4), .val (.ref b2), .val (.int sm), .val (.int ((u5 >>> ((5 : Int32) &&& 31)) &&& (3 : Int32)))] [(.ref b2), (.ref b1)])) rfl (by rw [hml]; rfl) (Steps.refl _) (argsL := [(.ref b2)]) (rest := []) (lenOf pd_28Ljava2flang2fObject3b29Z rfl) rfl (by show 2 * 0 + _ ≤ _; exact Nat.le_of_eq rfl) (hb hby at_224) (fun _ _ => ⟨rfl, rfl, (by decide : 2 + 0 ≤ _), (by decide : 10 + 0 ≤ _)⟩)
  dsimp only [Pt.U, Pt.locs, Pt.cells, Pt.slots] at X11 l11 y11 z11 st11 hQ11
  subst l11 y11 z11
  obtain ⟨rfl, N11q, e11⟩ := hQ11
  have N11 := Fr.app N9 N11q
  obtain ⟨cq12, kq12, qa12, qb12, qc12⟩ := isOf hZ e11 f9_6
  obtain ⟨_, _, ⟨T12, L12, kk12, n12⟩, -, X12, ⟨Lc12, hQ12, l12, y12, z12⟩, st12⟩ := X11.virtualBack hx (y := (⟨"com/example/bot_workflow_runner/botworkflowrunner/model/Progress", "equals", "(Ljava/lang/Object;)Z"⟩ : MethodName)) (z := (⟨"com/example/bot_workflow_runner/botworkflowrunner/model/Progress", "equals", "(Ljava/lang/Object;)Z"⟩ : MethodName)) hown (mvT hZ (hw _ (List.mem_of_getElem? (i := 19) rfl))) (mvT hZ (hw _ (List.mem_of_getElem? (i := 20) rfl))) (notFace_of_selects (args := #[]) (mvT hZ (hw _ (List.mem_of_getElem? (i := 22) rfl)))) (mvT hZ (hw _ (List.mem_of_getElem? (i := 22) rfl))) (mvT hZ (hw _ (List.mem_of_getElem? (i := 21) rfl))) (by decide) (backOf (W := 0) (rm_equals_24 l Z a0 hw w κ T9.heap n0 Z9 K9 u0 u1 u2 u3 u4 u5 dd v0 v1 v2 v3 v4 sm b1 b2 hf5 hf6 hf7 hf8 hv0 hv1 hv2 hv3 f9_0 f9_1 f9_2 f9_3 f9_4 f9_7 f9_8 f9_9 f9_10) hZ (hw _ (List.mem_of_getElem? (i := 23) rfl)) (hw _ (List.mem_of_getElem? (i := 2) rfl)) (by decide) (by decide)) qa12 qc12 (g := (mkF m 236 #[.val (.int u0), .val (.int u1), .val (.int u2), .val (.int u3), .val (.int u4), .val (.int u5), .val (.int dd), .val (.ref b1), .val (.int v0), .val (.int v1), .val (.int v2), .val (.int v3), .val (.int v4), .val (.ref b2), .val (.int sm), .val (.int ((u5 >>> ((5 : Int32) &&& 31)) &&& (3 : Int32)))] [(.ref b1), (.ref b2)])) rfl (by rw [hml]; rfl) (Steps.refl _) (argsL := [(.ref b1)]) (rest := []) (lenOf pd_28Ljava2flang2fObject3b29Z rfl) rfl (by show 2 * 0 + _ ≤ _; exact Nat.le_of_eq rfl) (hb hby at_236) (fun _ _ => ⟨rfl, e11, (by decide : 2 + 0 ≤ _), (by decide : 10 + 0 ≤ _)⟩)
  dsimp only [Pt.U, Pt.locs, Pt.cells, Pt.slots] at X12 l12 y12 z12 st12 hQ12
  subst l12 y12 z12
  obtain ⟨rfl, N12q, e12⟩ := hQ12
  have N12 := Fr.app N11 N12q
  obtain ⟨cq13, kq13, qa13, qb13, qc13⟩ := isOf hZ e12 f9_0
  obtain ⟨_, _, ⟨T13, L13, kk13, n13⟩, -, X13, ⟨Lc13, hQ13, l13, y13, z13⟩, st13⟩ := X12.virtualBack hx (y := (⟨"com/example/bot_workflow_runner/botworkflowrunner/model/Progress", "equals", "(Ljava/lang/Object;)Z"⟩ : MethodName)) (z := (⟨"com/example/bot_workflow_runner/botworkflowrunner/model/Progress", "equals", "(Ljava/lang/Object;)Z"⟩ : MethodName)) hown (mvT hZ (hw _ (List.mem_of_getElem? (i := 19) rfl))) (mvT hZ (hw _ (List.mem_of_getElem? (i := 20) rfl))) (notFace_of_selects (args := #[]) (mvT hZ (hw _ (List.mem_of_getElem? (i := 22) rfl)))) (mvT hZ (hw _ (List.mem_of_getElem? (i := 22) rfl))) (mvT hZ (hw _ (List.mem_of_getElem? (i := 21) rfl))) (by decide) (backOf (W := 0) (rm_equals_4 l Z a0 hw w κ T9.heap n0 Z9 K9 u0 u1 u2 u3 u4 u5 dd v0 v1 v2 v3 v4 sm b1 b2 f9_0 f9_1 f9_2 f9_3 f9_4 f9_5) hZ (hw _ (List.mem_of_getElem? (i := 23) rfl)) (hw _ (List.mem_of_getElem? (i := 2) rfl)) (by decide) (by decide)) qa13 qc13 (g := (mkF m 248 #[.val (.int u0), .val (.int u1), .val (.int u2), .val (.int u3), .val (.int u4), .val (.int u5), .val (.int dd), .val (.ref b1), .val (.int v0), .val (.int v1), .val (.int v2), .val (.int v3), .val (.int v4), .val (.ref b2), .val (.int sm), .val (.int ((u5 >>> ((5 : Int32) &&& 31)) &&& (3 : Int32)))] [(.ref b1), (.ref b1)])) rfl (by rw [hml]; rfl) (Steps.refl _) (argsL := [(.ref b1)]) (rest := []) (lenOf pd_28Ljava2flang2fObject3b29Z rfl) rfl (by show 2 * 0 + _ ≤ _; exact Nat.le_of_eq rfl) (hb hby at_248) (fun _ _ => ⟨rfl, e12, (by decide : 2 + 0 ≤ _), (by decide : 10 + 0 ≤ _)⟩)
  dsimp only [Pt.U, Pt.locs, Pt.cells, Pt.slots] at X13 l13 y13 z13 st13 hQ13
  subst l13 y13 z13
  obtain ⟨rfl, N13q, e13⟩ := hQ13
  have N13 := Fr.app N12 N13q
  obtain ⟨fs, hr, hrun, hended, hW, hsame⟩ := X13.leave (v := (some (.int (1 : Int32)))) (fun h => by rw [Bd.returns] at h; cases h)
  refine ⟨_, _, pre0 _ ?_, hrun, hended, _, _, rfl, ?_, ⟨_, rfl⟩, hW, hsame.mono (by decide) (by decide)⟩
  · show Steps p.tables e below (s₁.setTop (mkF m 0 #[.val (.int u0), .val (.int u1), .val (.int u2), .val (.int u3), .val (.int u4), .val (.int u5), .unset, .unset, .unset, .unset, .unset, .unset, .unset, .unset, .unset, .unset] [])) _
    refine XS.iload X0.here hx rfl (hb hby at_0) rfl ?_
    refine XS.bipush X0.here hx rfl (hb hby at_2) ?_
    refine XS.ishr X0.here hx rfl (hb hby at_4) rfl ?_
    show Steps p.tables e below (s₁.setTop (mkF m 5 #[.val (.int u0), .val (.int u1), .val (.int u2), .val (.int u3), .val (.int u4), .val (.int u5), .unset, .unset, .unset, .unset, .unset, .unset, .unset, .unset, .unset, .unset] [(.int (u5 >>> ((8 : Int32) &&& 31)))])) _
    refine XS.iconst X0.here hx rfl (hb hby at_5) ?_
    refine XS.ior X0.here hx rfl (hb hby at_6) rfl ?_
    show Steps p.tables e below (s₁.setTop (mkF m 7 #[.val (.int u0), .val (.int u1), .val (.int u2), .val (.int u3), .val (.int u4), .val (.int u5), .unset, .unset, .unset, .unset, .unset, .unset, .unset, .unset, .unset, .unset] [(.int ((u5 >>> ((8 : Int32) &&& 31)) ||| (1 : Int32)))])) _
    rw [hdd]
    show Steps p.tables e below (s₁.setTop (mkF m 7 #[.val (.int u0), .val (.int u1), .val (.int u2), .val (.int u3), .val (.int u4), .val (.int u5), .unset, .unset, .unset, .unset, .unset, .unset, .unset, .unset, .unset, .unset] [(.int dd)])) _
    refine XS.istore X0.here hx rfl (hb hby at_7) rfl (l' := #[.val (.int u0), .val (.int u1), .val (.int u2), .val (.int u3), .val (.int u4), .val (.int u5), .val (.int dd), .unset, .unset, .unset, .unset, .unset, .unset, .unset, .unset, .unset]) rfl ?_
    refine st1 _ ?_
    refine XS.dup X1.here hx rfl (hb hby at_12) rfl rfl ?_
    show Steps p.tables e below (T1.setTop (mkF m 13 #[.val (.int u0), .val (.int u1), .val (.int u2), .val (.int u3), .val (.int u4), .val (.int u5), .val (.int dd), .unset, .unset, .unset, .unset, .unset, .unset, .unset, .unset, .unset] [(.ref b1), (.ref b1)])) _
    refine XS.iloadN X1.here hx rfl (hb hby at_13) rfl ?_
    refine XS.iloadN X1.here hx rfl (hb hby at_14) rfl ?_
    refine XS.iloadN X1.here hx rfl (hb hby at_15) rfl ?_
    show Steps p.tables e below (T1.setTop (mkF m 16 #[.val (.int u0), .val (.int u1), .val (.int u2), .val (.int u3), .val (.int u4), .val (.int u5), .val (.int dd), .unset, .unset, .unset, .unset, .unset, .unset, .unset, .unset, .unset] [(.int u2), (.int u1), (.int u0), (.ref b1), (.ref b1)])) _
    refine XS.iloadN X1.here hx rfl (hb hby at_16) rfl ?_
    refine XS.iload X1.here hx rfl (hb hby at_17) rfl ?_
    refine st2.trans ?_
    show Steps p.tables e below (T2.setTop (mkF m 22 #[.val (.int u0), .val (.int u1), .val (.int u2), .val (.int u3), .val (.int u4), .val (.int u5), .val (.int dd), .unset, .unset, .unset, .unset, .unset, .unset, .unset, .unset, .unset] [(.ref b1)])) _
    refine XS.astore X2.here hx rfl (hb hby at_22) rfl rfl (l' := #[.val (.int u0), .val (.int u1), .val (.int u2), .val (.int u3), .val (.int u4), .val (.int u5), .val (.int dd), .val (.ref b1), .unset, .unset, .unset, .unset, .unset, .unset, .unset, .unset]) rfl ?_
    refine XS.iload X2.here hx rfl (hb hby at_24) rfl ?_
    refine XS.iconst X2.here hx rfl (hb hby at_26) ?_
    show Steps p.tables e below (T2.setTop (mkF m 27 #[.val (.int u0), .val (.int u1), .val (.int u2), .val (.int u3), .val (.int u4), .val (.int u5), .val (.int dd), .val (.ref b1), .unset, .unset, .unset, .unset, .unset, .unset, .unset, .unset] [(.int (1 : Int32)), (.int u5)])) _
    refine XS.iand X2.here hx rfl (hb hby at_27) rfl ?_
    show Steps p.tables e below (T2.setTop (mkF m 28 #[.val (.int u0), .val (.int u1), .val (.int u2), .val (.int u3), .val (.int u4), .val (.int u5), .val (.int dd), .val (.ref b1), .unset, .unset, .unset, .unset, .unset, .unset, .unset, .unset] [(.int (u5 &&& (1 : Int32)))])) _
    suffices hshd3 : Steps p.tables e below (T2.setTop (mkF m 39 #[.val (.int u0), .val (.int u1), .val (.int u2), .val (.int u3), .val (.int u4), .val (.int u5), .val (.int dd), .val (.ref b1), .unset, .unset, .unset, .unset, .unset, .unset, .unset, .unset] [(.int (osel (decide ((u5 &&& (1 : Int32)) = (0 : Int32))) u0 (u0 + dd)))])) (T13.setFrames fs) by
      by_cases hd3 : (u5 &&& (1 : Int32)) = (0 : Int32)
      · rw [show (osel (decide ((u5 &&& (1 : Int32)) = (0 : Int32))) u0 (u0 + dd)) = u0 from if_pos (decide_eq_true hd3)] at hshd3
        refine XS.ifYes X2.here hx rfl (pc0 := 28) (pc' := 38) rfl (hb hby at_28) rfl ((if0 _ _).trans (teq hd3).1) (by decide) (by decide) ?_
        show Steps p.tables e below (T2.setTop (mkF m 38 #[.val (.int u0), .val (.int u1), .val (.int u2), .val (.int u3), .val (.int u4), .val (.int u5), .val (.int dd), .val (.ref b1), .unset, .unset, .unset, .unset, .unset, .unset, .unset, .unset] [])) _
        refine XS.iloadN X2.here hx rfl (hb hby at_38) rfl ?_
        exact hshd3
      · rw [show (osel (decide ((u5 &&& (1 : Int32)) = (0 : Int32))) u0 (u0 + dd)) = (u0 + dd) from if_neg (fun hh => absurd (of_decide_eq_true hh) hd3)] at hshd3
        refine XS.ifNo X2.here hx rfl (hb hby at_28) rfl ((if0 _ _).trans (feq hd3).1) ?_
        show Steps p.tables e below (T2.setTop (mkF m 31 #[.val (.int u0), .val (.int u1), .val (.int u2), .val (.int u3), .val (.int u4), .val (.int u5), .val (.int dd), .val (.ref b1), .unset, .unset, .unset, .unset, .unset, .unset, .unset, .unset] [])) _
        refine XS.iloadN X2.here hx rfl (hb hby at_31) rfl ?_
        show Steps p.tables e below (T2.setTop (mkF m 32 #[.val (.int u0), .val (.int u1), .val (.int u2), .val (.int u3), .val (.int u4), .val (.int u5), .val (.int dd), .val (.ref b1), .unset, .unset, .unset, .unset, .unset, .unset, .unset, .unset] [(.int u0)])) _
        refine XS.iload X2.here hx rfl (hb hby at_32) rfl ?_
        show Steps p.tables e below (T2.setTop (mkF m 34 #[.val (.int u0), .val (.int u1), .val (.int u2), .val (.int u3), .val (.int u4), .val (.int u5), .val (.int dd), .val (.ref b1), .unset, .unset, .unset, .unset, .unset, .unset, .unset, .unset] [(.int dd), (.int u0)])) _
        refine XS.iadd X2.here hx rfl (hb hby at_34) rfl ?_
        show Steps p.tables e below (T2.setTop (mkF m 35 #[.val (.int u0), .val (.int u1), .val (.int u2), .val (.int u3), .val (.int u4), .val (.int u5), .val (.int dd), .val (.ref b1), .unset, .unset, .unset, .unset, .unset, .unset, .unset, .unset] [(.int (u0 + dd))])) _
        refine XS.goto X2.here hx rfl (pc0 := 35) (pc' := 39) rfl (hb hby at_35) (by decide) (by decide) ?_
        exact hshd3
    show Steps p.tables e below (T2.setTop (mkF m 39 #[.val (.int u0), .val (.int u1), .val (.int u2), .val (.int u3), .val (.int u4), .val (.int u5), .val (.int dd), .val (.ref b1), .unset, .unset, .unset, .unset, .unset, .unset, .unset, .unset] [(.int (osel (decide ((u5 &&& (1 : Int32)) = (0 : Int32))) u0 (u0 + dd)))])) _
    rw [hv0]
    show Steps p.tables e below (T2.setTop (mkF m 39 #[.val (.int u0), .val (.int u1), .val (.int u2), .val (.int u3), .val (.int u4), .val (.int u5), .val (.int dd), .val (.ref b1), .unset, .unset, .unset, .unset, .unset, .unset, .unset, .unset] [(.int v0)])) _
    refine XS.istore X2.here hx rfl (hb hby at_39) rfl (l' := #[.val (.int u0), .val (.int u1), .val (.int u2), .val (.int u3), .val (.int u4), .val (.int u5), .val (.int dd), .val (.ref b1), .val (.int v0), .unset, .unset, .unset, .unset, .unset, .unset, .unset]) rfl ?_
    refine XS.iload X2.here hx rfl (hb hby at_41) rfl ?_
    refine XS.iconst X2.here hx rfl (hb hby at_43) ?_
    show Steps p.tables e below (T2.setTop (mkF m 44 #[.val (.int u0), .val (.int u1), .val (.int u2), .val (.int u3), .val (.int u4), .val (.int u5), .val (.int dd), .val (.ref b1), .val (.int v0), .unset, .unset, .unset, .unset, .unset, .unset, .unset] [(.int (2 : Int32)), (.int u5)])) _
    refine XS.iand X2.here hx rfl (hb hby at_44) rfl ?_
    show Steps p.tables e below (T2.setTop (mkF m 45 #[.val (.int u0), .val (.int u1), .val (.int u2), .val (.int u3), .val (.int u4), .val (.int u5), .val (.int dd), .val (.ref b1), .val (.int v0), .unset, .unset, .unset, .unset, .unset, .unset, .unset] [(.int (u5 &&& (2 : Int32)))])) _
    suffices hshd4 : Steps p.tables e below (T2.setTop (mkF m 56 #[.val (.int u0), .val (.int u1), .val (.int u2), .val (.int u3), .val (.int u4), .val (.int u5), .val (.int dd), .val (.ref b1), .val (.int v0), .unset, .unset, .unset, .unset, .unset, .unset, .unset] [(.int (osel (decide ((u5 &&& (2 : Int32)) = (0 : Int32))) u1 (u1 + dd)))])) (T13.setFrames fs) by
      by_cases hd4 : (u5 &&& (2 : Int32)) = (0 : Int32)
      · rw [show (osel (decide ((u5 &&& (2 : Int32)) = (0 : Int32))) u1 (u1 + dd)) = u1 from if_pos (decide_eq_true hd4)] at hshd4
        refine XS.ifYes X2.here hx rfl (pc0 := 45) (pc' := 55) rfl (hb hby at_45) rfl ((if0 _ _).trans (teq hd4).1) (by decide) (by decide) ?_
        show Steps p.tables e below (T2.setTop (mkF m 55 #[.val (.int u0), .val (.int u1), .val (.int u2), .val (.int u3), .val (.int u4), .val (.int u5), .val (.int dd), .val (.ref b1), .val (.int v0), .unset, .unset, .unset, .unset, .unset, .unset, .unset] [])) _
        refine XS.iloadN X2.here hx rfl (hb hby at_55) rfl ?_
        exact hshd4
      · rw [show (osel (decide ((u5 &&& (2 : Int32)) = (0 : Int32))) u1 (u1 + dd)) = (u1 + dd) from if_neg (fun hh => absurd (of_decide_eq_true hh) hd4)] at hshd4
        refine XS.ifNo X2.here hx rfl (hb hby at_45) rfl ((if0 _ _).trans (feq hd4).1) ?_
        show Steps p.tables e below (T2.setTop (mkF m 48 #[.val (.int u0), .val (.int u1), .val (.int u2), .val (.int u3), .val (.int u4), .val (.int u5), .val (.int dd), .val (.ref b1), .val (.int v0), .unset, .unset, .unset, .unset, .unset, .unset, .unset] [])) _
        refine XS.iloadN X2.here hx rfl (hb hby at_48) rfl ?_
        show Steps p.tables e below (T2.setTop (mkF m 49 #[.val (.int u0), .val (.int u1), .val (.int u2), .val (.int u3), .val (.int u4), .val (.int u5), .val (.int dd), .val (.ref b1), .val (.int v0), .unset, .unset, .unset, .unset, .unset, .unset, .unset] [(.int u1)])) _
        refine XS.iload X2.here hx rfl (hb hby at_49) rfl ?_
        show Steps p.tables e below (T2.setTop (mkF m 51 #[.val (.int u0), .val (.int u1), .val (.int u2), .val (.int u3), .val (.int u4), .val (.int u5), .val (.int dd), .val (.ref b1), .val (.int v0), .unset, .unset, .unset, .unset, .unset, .unset, .unset] [(.int dd), (.int u1)])) _
        refine XS.iadd X2.here hx rfl (hb hby at_51) rfl ?_
        show Steps p.tables e below (T2.setTop (mkF m 52 #[.val (.int u0), .val (.int u1), .val (.int u2), .val (.int u3), .val (.int u4), .val (.int u5), .val (.int dd), .val (.ref b1), .val (.int v0), .unset, .unset, .unset, .unset, .unset, .unset, .unset] [(.int (u1 + dd))])) _
        refine XS.goto X2.here hx rfl (pc0 := 52) (pc' := 56) rfl (hb hby at_52) (by decide) (by decide) ?_
        exact hshd4
    show Steps p.tables e below (T2.setTop (mkF m 56 #[.val (.int u0), .val (.int u1), .val (.int u2), .val (.int u3), .val (.int u4), .val (.int u5), .val (.int dd), .val (.ref b1), .val (.int v0), .unset, .unset, .unset, .unset, .unset, .unset, .unset] [(.int (osel (decide ((u5 &&& (2 : Int32)) = (0 : Int32))) u1 (u1 + dd)))])) _
    rw [hv1]
    show Steps p.tables e below (T2.setTop (mkF m 56 #[.val (.int u0), .val (.int u1), .val (.int u2), .val (.int u3), .val (.int u4), .val (.int u5), .val (.int dd), .val (.ref b1), .val (.int v0), .unset, .unset, .unset, .unset, .unset, .unset, .unset] [(.int v1)])) _
    refine XS.istore X2.here hx rfl (hb hby at_56) rfl (l' := #[.val (.int u0), .val (.int u1), .val (.int u2), .val (.int u3), .val (.int u4), .val (.int u5), .val (.int dd), .val (.ref b1), .val (.int v0), .val (.int v1), .unset, .unset, .unset, .unset, .unset, .unset]) rfl ?_
    refine XS.iload X2.here hx rfl (hb hby at_58) rfl ?_
    refine XS.iconst X2.here hx rfl (hb hby at_60) ?_
    show Steps p.tables e below (T2.setTop (mkF m 61 #[.val (.int u0), .val (.int u1), .val (.int u2), .val (.int u3), .val (.int u4), .val (.int u5), .val (.int dd), .val (.ref b1), .val (.int v0), .val (.int v1), .unset, .unset, .unset, .unset, .unset, .unset] [(.int (4 : Int32)), (.int u5)])) _
    refine XS.iand X2.here hx rfl (hb hby at_61) rfl ?_
    show Steps p.tables e below (T2.setTop (mkF m 62 #[.val (.int u0), .val (.int u1), .val (.int u2), .val (.int u3), .val (.int u4), .val (.int u5), .val (.int dd), .val (.ref b1), .val (.int v0), .val (.int v1), .unset, .unset, .unset, .unset, .unset, .unset] [(.int (u5 &&& (4 : Int32)))])) _
    suffices hshd5 : Steps p.tables e below (T2.setTop (mkF m 73 #[.val (.int u0), .val (.int u1), .val (.int u2), .val (.int u3), .val (.int u4), .val (.int u5), .val (.int dd), .val (.ref b1), .val (.int v0), .val (.int v1), .unset, .unset, .unset, .unset, .unset, .unset] [(.int (osel (decide ((u5 &&& (4 : Int32)) = (0 : Int32))) u2 (u2 + dd)))])) (T13.setFrames fs) by
      by_cases hd5 : (u5 &&& (4 : Int32)) = (0 : Int32)
      · rw [show (osel (decide ((u5 &&& (4 : Int32)) = (0 : Int32))) u2 (u2 + dd)) = u2 from if_pos (decide_eq_true hd5)] at hshd5
        refine XS.ifYes X2.here hx rfl (pc0 := 62) (pc' := 72) rfl (hb hby at_62) rfl ((if0 _ _).trans (teq hd5).1) (by decide) (by decide) ?_
        show Steps p.tables e below (T2.setTop (mkF m 72 #[.val (.int u0), .val (.int u1), .val (.int u2), .val (.int u3), .val (.int u4), .val (.int u5), .val (.int dd), .val (.ref b1), .val (.int v0), .val (.int v1), .unset, .unset, .unset, .unset, .unset, .unset] [])) _
        refine XS.iloadN X2.here hx rfl (hb hby at_72) rfl ?_
        exact hshd5
      · rw [show (osel (decide ((u5 &&& (4 : Int32)) = (0 : Int32))) u2 (u2 + dd)) = (u2 + dd) from if_neg (fun hh => absurd (of_decide_eq_true hh) hd5)] at hshd5
        refine XS.ifNo X2.here hx rfl (hb hby at_62) rfl ((if0 _ _).trans (feq hd5).1) ?_
        show Steps p.tables e below (T2.setTop (mkF m 65 #[.val (.int u0), .val (.int u1), .val (.int u2), .val (.int u3), .val (.int u4), .val (.int u5), .val (.int dd), .val (.ref b1), .val (.int v0), .val (.int v1), .unset, .unset, .unset, .unset, .unset, .unset] [])) _
        refine XS.iloadN X2.here hx rfl (hb hby at_65) rfl ?_
        show Steps p.tables e below (T2.setTop (mkF m 66 #[.val (.int u0), .val (.int u1), .val (.int u2), .val (.int u3), .val (.int u4), .val (.int u5), .val (.int dd), .val (.ref b1), .val (.int v0), .val (.int v1), .unset, .unset, .unset, .unset, .unset, .unset] [(.int u2)])) _
        refine XS.iload X2.here hx rfl (hb hby at_66) rfl ?_
        show Steps p.tables e below (T2.setTop (mkF m 68 #[.val (.int u0), .val (.int u1), .val (.int u2), .val (.int u3), .val (.int u4), .val (.int u5), .val (.int dd), .val (.ref b1), .val (.int v0), .val (.int v1), .unset, .unset, .unset, .unset, .unset, .unset] [(.int dd), (.int u2)])) _
        refine XS.iadd X2.here hx rfl (hb hby at_68) rfl ?_
        show Steps p.tables e below (T2.setTop (mkF m 69 #[.val (.int u0), .val (.int u1), .val (.int u2), .val (.int u3), .val (.int u4), .val (.int u5), .val (.int dd), .val (.ref b1), .val (.int v0), .val (.int v1), .unset, .unset, .unset, .unset, .unset, .unset] [(.int (u2 + dd))])) _
        refine XS.goto X2.here hx rfl (pc0 := 69) (pc' := 73) rfl (hb hby at_69) (by decide) (by decide) ?_
        exact hshd5
    show Steps p.tables e below (T2.setTop (mkF m 73 #[.val (.int u0), .val (.int u1), .val (.int u2), .val (.int u3), .val (.int u4), .val (.int u5), .val (.int dd), .val (.ref b1), .val (.int v0), .val (.int v1), .unset, .unset, .unset, .unset, .unset, .unset] [(.int (osel (decide ((u5 &&& (4 : Int32)) = (0 : Int32))) u2 (u2 + dd)))])) _
    rw [hv2]
    show Steps p.tables e below (T2.setTop (mkF m 73 #[.val (.int u0), .val (.int u1), .val (.int u2), .val (.int u3), .val (.int u4), .val (.int u5), .val (.int dd), .val (.ref b1), .val (.int v0), .val (.int v1), .unset, .unset, .unset, .unset, .unset, .unset] [(.int v2)])) _
    refine XS.istore X2.here hx rfl (hb hby at_73) rfl (l' := #[.val (.int u0), .val (.int u1), .val (.int u2), .val (.int u3), .val (.int u4), .val (.int u5), .val (.int dd), .val (.ref b1), .val (.int v0), .val (.int v1), .val (.int v2), .unset, .unset, .unset, .unset, .unset]) rfl ?_
    refine XS.iload X2.here hx rfl (hb hby at_75) rfl ?_
    refine XS.bipush X2.here hx rfl (hb hby at_77) ?_
    show Steps p.tables e below (T2.setTop (mkF m 79 #[.val (.int u0), .val (.int u1), .val (.int u2), .val (.int u3), .val (.int u4), .val (.int u5), .val (.int dd), .val (.ref b1), .val (.int v0), .val (.int v1), .val (.int v2), .unset, .unset, .unset, .unset, .unset] [(.int (8 : Int32)), (.int u5)])) _
    refine XS.iand X2.here hx rfl (hb hby at_79) rfl ?_
    show Steps p.tables e below (T2.setTop (mkF m 80 #[.val (.int u0), .val (.int u1), .val (.int u2), .val (.int u3), .val (.int u4), .val (.int u5), .val (.int dd), .val (.ref b1), .val (.int v0), .val (.int v1), .val (.int v2), .unset, .unset, .unset, .unset, .unset] [(.int (u5 &&& (8 : Int32)))])) _
    suffices hshd6 : Steps p.tables e below (T2.setTop (mkF m 91 #[.val (.int u0), .val (.int u1), .val (.int u2), .val (.int u3), .val (.int u4), .val (.int u5), .val (.int dd), .val (.ref b1), .val (.int v0), .val (.int v1), .val (.int v2), .unset, .unset, .unset, .unset, .unset] [(.int (osel (decide ((u5 &&& (8 : Int32)) = (0 : Int32))) u3 (u3 + dd)))])) (T13.setFrames fs) by
      by_cases hd6 : (u5 &&& (8 : Int32)) = (0 : Int32)
      · rw [show (osel (decide ((u5 &&& (8 : Int32)) = (0 : Int32))) u3 (u3 + dd)) = u3 from if_pos (decide_eq_true hd6)] at hshd6
        refine XS.ifYes X2.here hx rfl (pc0 := 80) (pc' := 90) rfl (hb hby at_80) rfl ((if0 _ _).trans (teq hd6).1) (by decide) (by decide) ?_
        show Steps p.tables e below (T2.setTop (mkF m 90 #[.val (.int u0), .val (.int u1), .val (.int u2), .val (.int u3), .val (.int u4), .val (.int u5), .val (.int dd), .val (.ref b1), .val (.int v0), .val (.int v1), .val (.int v2), .unset, .unset, .unset, .unset, .unset] [])) _
        refine XS.iloadN X2.here hx rfl (hb hby at_90) rfl ?_
        exact hshd6
      · rw [show (osel (decide ((u5 &&& (8 : Int32)) = (0 : Int32))) u3 (u3 + dd)) = (u3 + dd) from if_neg (fun hh => absurd (of_decide_eq_true hh) hd6)] at hshd6
        refine XS.ifNo X2.here hx rfl (hb hby at_80) rfl ((if0 _ _).trans (feq hd6).1) ?_
        show Steps p.tables e below (T2.setTop (mkF m 83 #[.val (.int u0), .val (.int u1), .val (.int u2), .val (.int u3), .val (.int u4), .val (.int u5), .val (.int dd), .val (.ref b1), .val (.int v0), .val (.int v1), .val (.int v2), .unset, .unset, .unset, .unset, .unset] [])) _
        refine XS.iloadN X2.here hx rfl (hb hby at_83) rfl ?_
        show Steps p.tables e below (T2.setTop (mkF m 84 #[.val (.int u0), .val (.int u1), .val (.int u2), .val (.int u3), .val (.int u4), .val (.int u5), .val (.int dd), .val (.ref b1), .val (.int v0), .val (.int v1), .val (.int v2), .unset, .unset, .unset, .unset, .unset] [(.int u3)])) _
        refine XS.iload X2.here hx rfl (hb hby at_84) rfl ?_
        show Steps p.tables e below (T2.setTop (mkF m 86 #[.val (.int u0), .val (.int u1), .val (.int u2), .val (.int u3), .val (.int u4), .val (.int u5), .val (.int dd), .val (.ref b1), .val (.int v0), .val (.int v1), .val (.int v2), .unset, .unset, .unset, .unset, .unset] [(.int dd), (.int u3)])) _
        refine XS.iadd X2.here hx rfl (hb hby at_86) rfl ?_
        show Steps p.tables e below (T2.setTop (mkF m 87 #[.val (.int u0), .val (.int u1), .val (.int u2), .val (.int u3), .val (.int u4), .val (.int u5), .val (.int dd), .val (.ref b1), .val (.int v0), .val (.int v1), .val (.int v2), .unset, .unset, .unset, .unset, .unset] [(.int (u3 + dd))])) _
        refine XS.goto X2.here hx rfl (pc0 := 87) (pc' := 91) rfl (hb hby at_87) (by decide) (by decide) ?_
        exact hshd6
    show Steps p.tables e below (T2.setTop (mkF m 91 #[.val (.int u0), .val (.int u1), .val (.int u2), .val (.int u3), .val (.int u4), .val (.int u5), .val (.int dd), .val (.ref b1), .val (.int v0), .val (.int v1), .val (.int v2), .unset, .unset, .unset, .unset, .unset] [(.int (osel (decide ((u5 &&& (8 : Int32)) = (0 : Int32))) u3 (u3 + dd)))])) _
    rw [hv3]
    show Steps p.tables e below (T2.setTop (mkF m 91 #[.val (.int u0), .val (.int u1), .val (.int u2), .val (.int u3), .val (.int u4), .val (.int u5), .val (.int dd), .val (.ref b1), .val (.int v0), .val (.int v1), .val (.int v2), .unset, .unset, .unset, .unset, .unset] [(.int v3)])) _
    refine XS.istore X2.here hx rfl (hb hby at_91) rfl (l' := #[.val (.int u0), .val (.int u1), .val (.int u2), .val (.int u3), .val (.int u4), .val (.int u5), .val (.int dd), .val (.ref b1), .val (.int v0), .val (.int v1), .val (.int v2), .val (.int v3), .unset, .unset, .unset, .unset]) rfl ?_
    refine XS.iload X2.here hx rfl (hb hby at_93) rfl ?_
    refine XS.bipush X2.here hx rfl (hb hby at_95) ?_
    show Steps p.tables e below (T2.setTop (mkF m 97 #[.val (.int u0), .val (.int u1), .val (.int u2), .val (.int u3), .val (.int u4), .val (.int u5), .val (.int dd), .val (.ref b1), .val (.int v0), .val (.int v1), .val (.int v2), .val (.int v3), .unset, .unset, .unset, .unset] [(.int (16 : Int32)), (.int u5)])) _
    refine XS.iand X2.here hx rfl (hb hby at_97) rfl ?_
    show Steps p.tables e below (T2.setTop (mkF m 98 #[.val (.int u0), .val (.int u1), .val (.int u2), .val (.int u3), .val (.int u4), .val (.int u5), .val (.int dd), .val (.ref b1), .val (.int v0), .val (.int v1), .val (.int v2), .val (.int v3), .unset, .unset, .unset, .unset] [(.int (u5 &&& (16 : Int32)))])) _
    suffices hshd7 : Steps p.tables e below (T2.setTop (mkF m 111 #[.val (.int u0), .val (.int u1), .val (.int u2), .val (.int u3), .val (.int u4), .val (.int u5), .val (.int dd), .val (.ref b1), .val (.int v0), .val (.int v1), .val (.int v2), .val (.int v3), .unset, .unset, .unset, .unset] [(.int (osel (decide ((u5 &&& (16 : Int32)) = (0 : Int32))) u4 (u4 + dd)))])) (T13.setFrames fs) by
      by_cases hd7 : (u5 &&& (16 : Int32)) = (0 : Int32)
      · rw [show (osel (decide ((u5 &&& (16 : Int32)) = (0 : Int32))) u4 (u4 + dd)) = u4 from if_pos (decide_eq_true hd7)] at hshd7
        refine XS.ifYes X2.here hx rfl (pc0 := 98) (pc' := 109) rfl (hb hby at_98) rfl ((if0 _ _).trans (teq hd7).1) (by decide) (by decide) ?_
        show Steps p.tables e below (T2.setTop (mkF m 109 #[.val (.int u0), .val (.int u1), .val (.int u2), .val (.int u3), .val (.int u4), .val (.int u5), .val (.int dd), .val (.ref b1), .val (.int v0), .val (.int v1), .val (.int v2), .val (.int v3), .unset, .unset, .unset, .unset] [])) _
        refine XS.iload X2.here hx rfl (hb hby at_109) rfl ?_
        exact hshd7
      · rw [show (osel (decide ((u5 &&& (16 : Int32)) = (0 : Int32))) u4 (u4 + dd)) = (u4 + dd) from if_neg (fun hh => absurd (of_decide_eq_true hh) hd7)] at hshd7
        refine XS.ifNo X2.here hx rfl (hb hby at_98) rfl ((if0 _ _).trans (feq hd7).1) ?_
        show Steps p.tables e below (T2.setTop (mkF m 101 #[.val (.int u0), .val (.int u1), .val (.int u2), .val (.int u3), .val (.int u4), .val (.int u5), .val (.int dd), .val (.ref b1), .val (.int v0), .val (.int v1), .val (.int v2), .val (.int v3), .unset, .unset, .unset, .unset] [])) _
        refine XS.iload X2.here hx rfl (hb hby at_101) rfl ?_
        show Steps p.tables e below (T2.setTop (mkF m 103 #[.val (.int u0), .val (.int u1), .val (.int u2), .val (.int u3), .val (.int u4), .val (.int u5), .val (.int dd), .val (.ref b1), .val (.int v0), .val (.int v1), .val (.int v2), .val (.int v3), .unset, .unset, .unset, .unset] [(.int u4)])) _
        refine XS.iload X2.here hx rfl (hb hby at_103) rfl ?_
        show Steps p.tables e below (T2.setTop (mkF m 105 #[.val (.int u0), .val (.int u1), .val (.int u2), .val (.int u3), .val (.int u4), .val (.int u5), .val (.int dd), .val (.ref b1), .val (.int v0), .val (.int v1), .val (.int v2), .val (.int v3), .unset, .unset, .unset, .unset] [(.int dd), (.int u4)])) _
        refine XS.iadd X2.here hx rfl (hb hby at_105) rfl ?_
        show Steps p.tables e below (T2.setTop (mkF m 106 #[.val (.int u0), .val (.int u1), .val (.int u2), .val (.int u3), .val (.int u4), .val (.int u5), .val (.int dd), .val (.ref b1), .val (.int v0), .val (.int v1), .val (.int v2), .val (.int v3), .unset, .unset, .unset, .unset] [(.int (u4 + dd))])) _
        refine XS.goto X2.here hx rfl (pc0 := 106) (pc' := 111) rfl (hb hby at_106) (by decide) (by decide) ?_
        exact hshd7
    show Steps p.tables e below (T2.setTop (mkF m 111 #[.val (.int u0), .val (.int u1), .val (.int u2), .val (.int u3), .val (.int u4), .val (.int u5), .val (.int dd), .val (.ref b1), .val (.int v0), .val (.int v1), .val (.int v2), .val (.int v3), .unset, .unset, .unset, .unset] [(.int (osel (decide ((u5 &&& (16 : Int32)) = (0 : Int32))) u4 (u4 + dd)))])) _
    rw [hv4]
    show Steps p.tables e below (T2.setTop (mkF m 111 #[.val (.int u0), .val (.int u1), .val (.int u2), .val (.int u3), .val (.int u4), .val (.int u5), .val (.int dd), .val (.ref b1), .val (.int v0), .val (.int v1), .val (.int v2), .val (.int v3), .unset, .unset, .unset, .unset] [(.int v4)])) _
    refine XS.istore X2.here hx rfl (hb hby at_111) rfl (l' := #[.val (.int u0), .val (.int u1), .val (.int u2), .val (.int u3), .val (.int u4), .val (.int u5), .val (.int dd), .val (.ref b1), .val (.int v0), .val (.int v1), .val (.int v2), .val (.int v3), .val (.int v4), .unset, .unset, .unset]) rfl ?_
    refine st8 _ ?_
    refine XS.dup X8.here hx rfl (hb hby at_116) rfl rfl ?_
    show Steps p.tables e below (T8.setTop (mkF m 117 #[.val (.int u0), .val (.int u1), .val (.int u2), .val (.int u3), .val (.int u4), .val (.int u5), .val (.int dd), .val (.ref b1), .val (.int v0), .val (.int v1), .val (.int v2), .val (.int v3), .val (.int v4), .unset, .unset, .unset] [(.ref b2), (.ref b2)])) _
    refine XS.iload X8.here hx rfl (hb hby at_117) rfl ?_
    refine XS.iload X8.here hx rfl (hb hby at_119) rfl ?_
    refine XS.iload X8.here hx rfl (hb hby at_121) rfl ?_
    show Steps p.tables e below (T8.setTop (mkF m 123 #[.val (.int u0), .val (.int u1), .val (.int u2), .val (.int u3), .val (.int u4), .val (.int u5), .val (.int dd), .val (.ref b1), .val (.int v0), .val (.int v1), .val (.int v2), .val (.int v3), .val (.int v4), .unset, .unset, .unset] [(.int v2), (.int v1), (.int v0), (.ref b2), (.ref b2)])) _
    refine XS.iload X8.here hx rfl (hb hby at_123) rfl ?_
    refine XS.iload X8.here hx rfl (hb hby at_125) rfl ?_
    refine st9.trans ?_
    show Steps p.tables e below (T9.setTop (mkF m 130 #[.val (.int u0), .val (.int u1), .val (.int u2), .val (.int u3), .val (.int u4), .val (.int u5), .val (.int dd), .val (.ref b1), .val (.int v0), .val (.int v1), .val (.int v2), .val (.int v3), .val (.int v4), .unset, .unset, .unset] [(.ref b2)])) _
    refine XS.astore X9.here hx rfl (hb hby at_130) rfl rfl (l' := #[.val (.int u0), .val (.int u1), .val (.int u2), .val (.int u3), .val (.int u4), .val (.int u5), .val (.int dd), .val (.ref b1), .val (.int v0), .val (.int v1), .val (.int v2), .val (.int v3), .val (.int v4), .val (.ref b2), .unset, .unset]) rfl ?_
    refine XS.iload X9.here hx rfl (hb hby at_132) rfl ?_
    refine XS.bipush X9.here hx rfl (hb hby at_134) ?_
    show Steps p.tables e below (T9.setTop (mkF m 136 #[.val (.int u0), .val (.int u1), .val (.int u2), .val (.int u3), .val (.int u4), .val (.int u5), .val (.int dd), .val (.ref b1), .val (.int v0), .val (.int v1), .val (.int v2), .val (.int v3), .val (.int v4), .val (.ref b2), .unset, .unset] [(.int (31 : Int32)), (.int u5)])) _
    refine XS.iand X9.here hx rfl (hb hby at_136) rfl ?_
    show Steps p.tables e below (T9.setTop (mkF m 137 #[.val (.int u0), .val (.int u1), .val (.int u2), .val (.int u3), .val (.int u4), .val (.int u5), .val (.int dd), .val (.ref b1), .val (.int v0), .val (.int v1), .val (.int v2), .val (.int v3), .val (.int v4), .val (.ref b2), .unset, .unset] [(.int (u5 &&& (31 : Int32)))])) _
    suffices hshd10 : Steps p.tables e below (T9.setTop (mkF m 145 #[.val (.int u0), .val (.int u1), .val (.int u2), .val (.int u3), .val (.int u4), .val (.int u5), .val (.int dd), .val (.ref b1), .val (.int v0), .val (.int v1), .val (.int v2), .val (.int v3), .val (.int v4), .val (.ref b2), .unset, .unset] [(.int (osel (decide ((u5 &&& (31 : Int32)) = (0 : Int32))) (1 : Int32) (0 : Int32)))])) (T13.setFrames fs) by
      by_cases hd10 : (u5 &&& (31 : Int32)) = (0 : Int32)
      · rw [show (osel (decide ((u5 &&& (31 : Int32)) = (0 : Int32))) (1 : Int32) (0 : Int32)) = (1 : Int32) from if_pos (decide_eq_true hd10)] at hshd10
        refine XS.ifNo X9.here hx rfl (hb hby at_137) rfl ((if0 _ _).trans (teq hd10).2) ?_
        show Steps p.tables e below (T9.setTop (mkF m 140 #[.val (.int u0), .val (.int u1), .val (.int u2), .val (.int u3), .val (.int u4), .val (.int u5), .val (.int dd), .val (.ref b1), .val (.int v0), .val (.int v1), .val (.int v2), .val (.int v3), .val (.int v4), .val (.ref b2), .unset, .unset] [])) _
        refine XS.iconst X9.here hx rfl (hb hby at_140) ?_
        show Steps p.tables e below (T9.setTop (mkF m 141 #[.val (.int u0), .val (.int u1), .val (.int u2), .val (.int u3), .val (.int u4), .val (.int u5), .val (.int dd), .val (.ref b1), .val (.int v0), .val (.int v1), .val (.int v2), .val (.int v3), .val (.int v4), .val (.ref b2), .unset, .unset] [(.int (1 : Int32))])) _
        refine XS.goto X9.here hx rfl (pc0 := 141) (pc' := 145) rfl (hb hby at_141) (by decide) (by decide) ?_
        exact hshd10
      · rw [show (osel (decide ((u5 &&& (31 : Int32)) = (0 : Int32))) (1 : Int32) (0 : Int32)) = (0 : Int32) from if_neg (fun hh => absurd (of_decide_eq_true hh) hd10)] at hshd10
        refine XS.ifYes X9.here hx rfl (pc0 := 137) (pc' := 144) rfl (hb hby at_137) rfl ((if0 _ _).trans (feq hd10).2) (by decide) (by decide) ?_
        show Steps p.tables e below (T9.setTop (mkF m 144 #[.val (.int u0), .val (.int u1), .val (.int u2), .val (.int u3), .val (.int u4), .val (.int u5), .val (.int dd), .val (.ref b1), .val (.int v0), .val (.int v1), .val (.int v2), .val (.int v3), .val (.int v4), .val (.ref b2), .unset, .unset] [])) _
        refine XS.iconst X9.here hx rfl (hb hby at_144) ?_
        exact hshd10
    show Steps p.tables e below (T9.setTop (mkF m 145 #[.val (.int u0), .val (.int u1), .val (.int u2), .val (.int u3), .val (.int u4), .val (.int u5), .val (.int dd), .val (.ref b1), .val (.int v0), .val (.int v1), .val (.int v2), .val (.int v3), .val (.int v4), .val (.ref b2), .unset, .unset] [(.int (osel (decide ((u5 &&& (31 : Int32)) = (0 : Int32))) (1 : Int32) (0 : Int32)))])) _
    rw [hsm]
    show Steps p.tables e below (T9.setTop (mkF m 145 #[.val (.int u0), .val (.int u1), .val (.int u2), .val (.int u3), .val (.int u4), .val (.int u5), .val (.int dd), .val (.ref b1), .val (.int v0), .val (.int v1), .val (.int v2), .val (.int v3), .val (.int v4), .val (.ref b2), .unset, .unset] [(.int sm)])) _
    refine XS.istore X9.here hx rfl (hb hby at_145) rfl (l' := #[.val (.int u0), .val (.int u1), .val (.int u2), .val (.int u3), .val (.int u4), .val (.int u5), .val (.int dd), .val (.ref b1), .val (.int v0), .val (.int v1), .val (.int v2), .val (.int v3), .val (.int v4), .val (.ref b2), .val (.int sm), .unset]) rfl ?_
    refine XS.iload X9.here hx rfl (hb hby at_147) rfl ?_
    refine XS.iconst X9.here hx rfl (hb hby at_149) ?_
    show Steps p.tables e below (T9.setTop (mkF m 150 #[.val (.int u0), .val (.int u1), .val (.int u2), .val (.int u3), .val (.int u4), .val (.int u5), .val (.int dd), .val (.ref b1), .val (.int v0), .val (.int v1), .val (.int v2), .val (.int v3), .val (.int v4), .val (.ref b2), .val (.int sm), .unset] [(.int (5 : Int32)), (.int u5)])) _
    refine XS.ishr X9.here hx rfl (hb hby at_150) rfl ?_
    refine XS.iconst X9.here hx rfl (hb hby at_151) ?_
    refine XS.iand X9.here hx rfl (hb hby at_152) rfl ?_
    show Steps p.tables e below (T9.setTop (mkF m 153 #[.val (.int u0), .val (.int u1), .val (.int u2), .val (.int u3), .val (.int u4), .val (.int u5), .val (.int dd), .val (.ref b1), .val (.int v0), .val (.int v1), .val (.int v2), .val (.int v3), .val (.int v4), .val (.ref b2), .val (.int sm), .unset] [(.int ((u5 >>> ((5 : Int32) &&& 31)) &&& (3 : Int32)))])) _
    refine XS.istore X9.here hx rfl (hb hby at_153) rfl (l' := #[.val (.int u0), .val (.int u1), .val (.int u2), .val (.int u3), .val (.int u4), .val (.int u5), .val (.int dd), .val (.ref b1), .val (.int v0), .val (.int v1), .val (.int v2), .val (.int v3), .val (.int v4), .val (.ref b2), .val (.int sm), .val (.int ((u5 >>> ((5 : Int32) &&& 31)) &&& (3 : Int32)))]) rfl ?_
    refine XS.iload X9.here hx rfl (hb hby at_155) rfl ?_
    refine XS.iconst X9.here hx rfl (hb hby at_157) ?_
    show Steps p.tables e below (T9.setTop (mkF m 158 #[.val (.int u0), .val (.int u1), .val (.int u2), .val (.int u3), .val (.int u4), .val (.int u5), .val (.int dd), .val (.ref b1), .val (.int v0), .val (.int v1), .val (.int v2), .val (.int v3), .val (.int v4), .val (.ref b2), .val (.int sm), .val (.int ((u5 >>> ((5 : Int32) &&& 31)) &&& (3 : Int32)))] [(.int (1 : Int32)), (.int ((u5 >>> ((5 : Int32) &&& 31)) &&& (3 : Int32)))])) _
    refine XS.icmpYes X9.here hx rfl (pc0 := 158) (pc' := 186) rfl (hb hby at_158) rfl (feq hf1).2 (by decide) (by decide) ?_
    refine XS.iload X9.here hx rfl (hb hby at_186) rfl ?_
    refine XS.iconst X9.here hx rfl (hb hby at_188) ?_
    show Steps p.tables e below (T9.setTop (mkF m 189 #[.val (.int u0), .val (.int u1), .val (.int u2), .val (.int u3), .val (.int u4), .val (.int u5), .val (.int dd), .val (.ref b1), .val (.int v0), .val (.int v1), .val (.int v2), .val (.int v3), .val (.int v4), .val (.ref b2), .val (.int sm), .val (.int ((u5 >>> ((5 : Int32) &&& 31)) &&& (3 : Int32)))] [(.int (2 : Int32)), (.int ((u5 >>> ((5 : Int32) &&& 31)) &&& (3 : Int32)))])) _
    refine XS.icmpYes X9.here hx rfl (pc0 := 189) (pc' := 220) rfl (hb hby at_189) rfl (feq hf2).2 (by decide) (by decide) ?_
    refine XS.aload X9.here hx rfl (hb hby at_220) rfl rfl ?_
    refine XS.aload X9.here hx rfl (hb hby at_222) rfl rfl ?_
    show Steps p.tables e below (T9.setTop (mkF m 224 #[.val (.int u0), .val (.int u1), .val (.int u2), .val (.int u3), .val (.int u4), .val (.int u5), .val (.int dd), .val (.ref b1), .val (.int v0), .val (.int v1), .val (.int v2), .val (.int v3), .val (.int v4), .val (.ref b2), .val (.int sm), .val (.int ((u5 >>> ((5 : Int32) &&& 31)) &&& (3 : Int32)))] [(.ref b2), (.ref b1)])) _
    refine st11.trans ?_
    refine XS.iload X11.here hx rfl (hb hby at_227) rfl ?_
    refine XS.icmpNo X11.here hx rfl (hb hby at_229) rfl (teq hf12).2 ?_
    show Steps p.tables e below (T11.setTop (mkF m 232 #[.val (.int u0), .val (.int u1), .val (.int u2), .val (.int u3), .val (.int u4), .val (.int u5), .val (.int dd), .val (.ref b1), .val (.int v0), .val (.int v1), .val (.int v2), .val (.int v3), .val (.int v4), .val (.ref b2), .val (.int sm), .val (.int ((u5 >>> ((5 : Int32) &&& 31)) &&& (3 : Int32)))] [])) _
    refine XS.aload X11.here hx rfl (hb hby at_232) rfl rfl ?_
    refine XS.aload X11.here hx rfl (hb hby at_234) rfl rfl ?_
    refine st12.trans ?_
    show Steps p.tables e below (T12.setTop (mkF m 239 #[.val (.int u0), .val (.int u1), .val (.int u2), .val (.int u3), .val (.int u4), .val (.int u5), .val (.int dd), .val (.ref b1), .val (.int v0), .val (.int v1), .val (.int v2), .val (.int v3), .val (.int v4), .val (.ref b2), .val (.int sm), .val (.int ((u5 >>> ((5 : Int32) &&& 31)) &&& (3 : Int32)))] [(.int (0 : Int32))])) _
    refine XS.iload X12.here hx rfl (hb hby at_239) rfl ?_
    refine XS.icmpNo X12.here hx rfl (hb hby at_241) rfl (teq hf12).2 ?_
    refine XS.aload X12.here hx rfl (hb hby at_244) rfl rfl ?_
    show Steps p.tables e below (T12.setTop (mkF m 246 #[.val (.int u0), .val (.int u1), .val (.int u2), .val (.int u3), .val (.int u4), .val (.int u5), .val (.int dd), .val (.ref b1), .val (.int v0), .val (.int v1), .val (.int v2), .val (.int v3), .val (.int v4), .val (.ref b2), .val (.int sm), .val (.int ((u5 >>> ((5 : Int32) &&& 31)) &&& (3 : Int32)))] [(.ref b1)])) _
    refine XS.aload X12.here hx rfl (hb hby at_246) rfl rfl ?_
    refine st13.trans ?_
    refine XS.ifNo X13.here hx rfl (hb hby at_251) rfl ((if0 _ _).trans (feq (by decide : ¬ ((1 : Int32) = (0 : Int32)))).1) ?_
    show Steps p.tables e below (T13.setTop (mkF m 254 #[.val (.int u0), .val (.int u1), .val (.int u2), .val (.int u3), .val (.int u4), .val (.int u5), .val (.int dd), .val (.ref b1), .val (.int v0), .val (.int v1), .val (.int v2), .val (.int v3), .val (.int v4), .val (.ref b2), .val (.int sm), .val (.int ((u5 >>> ((5 : Int32) &&& 31)) &&& (3 : Int32)))] [])) _
    refine XS.iconst X13.here hx rfl (hb hby at_254) ?_
    refine XS.goto X13.here hx rfl (pc0 := 255) (pc' := 259) rfl (hb hby at_255) (by decide) (by decide) ?_
    show Steps p.tables e below (T13.setTop (mkF m 259 #[.val (.int u0), .val (.int u1), .val (.int u2), .val (.int u3), .val (.int u4), .val (.int u5), .val (.int dd), .val (.ref b1), .val (.int v0), .val (.int v1), .val (.int v2), .val (.int v3), .val (.int v4), .val (.ref b2), .val (.int sm), .val (.int ((u5 >>> ((5 : Int32) &&& 31)) &&& (3 : Int32)))] [(.int (1 : Int32))])) _
    exact retN X13 hx (t := .boolean) Bd.returns (by simp) (hb hby at_259) hr
  · exact ⟨rfl, N13⟩
set_option maxRecDepth 65536 in
set_option maxHeartbeats 40000000 in
theorem rm_equals_26 (l : Launch) (Z : State) (a0 : Array Value) (hw : ∀ d ∈ tables_1, d.before a0 Z = true) (w : Nat → Addr) (κ : Nat → ClassId) (h0 : Heap) (n0 : Nat) (Z0 : n0 ≤ h0.size) (K : Kon Z h0 w κ) (u0 u1 u2 u3 u4 u5 dd v0 v1 v2 v3 v4 sm : Int32) (b1 : Addr) (b2 : Addr) (hf5 : u0 = v0) (hf6 : u1 = v1) (hf7 : ¬ (u2 = v2)) (fF_b1_com_example_bot_workflow_runner_botworkflowrunner_model_Progress_total : Fld Z h0 b1 "com/example/bot_workflow_runner/botworkflowrunner/model/Progress" "total" "I" (.int u0)) (fF_b1_com_example_bot_workflow_runner_botworkflowrunner_model_Progress_completed : Fld Z h0 b1 "com/example/bot_workflow_runner/botworkflowrunner/model/Progress" "completed" "I" (.int u1)) (fF_b1_com_example_bot_workflow_runner_botworkflowrunner_model_Progress_running : Fld Z h0 b1 "com/example/bot_workflow_runner/botworkflowrunner/model/Progress" "running" "I" (.int u2)) (fE_b2 : Exa Z h0 b2 "com/example/bot_workflow_runner/botworkflowrunner/model/Progress") (fF_b2_com_example_bot_workflow_runner_botworkflowrunner_model_Progress_total : Fld Z h0 b2 "com/example/bot_workflow_runner/botworkflowrunner/model/Progress" "total" "I" (.int v0)) (fF_b2_com_example_bot_workflow_runner_botworkflowrunner_model_Progress_completed : Fld Z h0 b2 "com/example/bot_workflow_runner/botworkflowrunner/model/Progress" "completed" "I" (.int v1)) (fF_b2_com_example_bot_workflow_runner_botworkflowrunner_model_Progress_running : Fld Z h0 b2 "com/example/bot_workflow_runner/botworkflowrunner/model/Progress" "running" "I" (.int v2)) :
    OM l Z (⟨"com/example/bot_workflow_runner/botworkflowrunner/model/Progress", "equals", "(Ljava/lang/Object;)Z"⟩ : MethodName) prog_31_method_10_code 3 (some .boolean) [] ({ frames := 0, cells := 0, slots := 0, locals := 0 } : Room) #[(.ref b1), (.ref b2)] h0 (OP (some (.int (0 : Int32))) n0 h0) := by
  refine MetFree.of_bodySF (plainFor_of_name pn_com_example_bot_workflow_runner_botworkflowrunner_model_Progress) hisR ?_
  intro p e s m args below meth c s₁ Bd hml0 hP hK
  obtain ⟨rfl, hZ, hh⟩ := hP
  have hx := Bd.exec
  have hby := Bd.bytes
  have hml : c.maxLocals = 3 := hml0
  have hown : s.vm.findClass "com/example/bot_workflow_runner/botworkflowrunner/model/Progress" = some m.cls := findClass_of_methodNamed Bd.named
  have hnm := (name_of_methodNamed Bd.named Bd.method).1
  have X0 : Stand p l e ({ frames := 0, cells := 0, slots := 0, locals := 0 } : Room) s m #[(.ref b1), (.ref b2)] below meth c s₁ [] 0 0 := Stand.of_body Bd
  have e0 : s₁.heap = h0 := by rw [← hh, Bd.state]; rfl
  have N0 := Fr.nil n0
  have pre0 : ∀ t, Steps p.tables e below (s₁.setTop (mkF m 0 #[.val (.ref b1), .val (.ref b2), .unset] [])) t → Steps p.tables e below (s₁.setTop (entryFrame m #[(.ref b1), (.ref b2)] 3)) t := fun t k => castTop (ef_prog_31_method_10_code_RR m b1 b2) k
  obtain ⟨T1, X1, e1, st1⟩ := instY X0 hx hZ hown (hw _ (List.mem_of_getElem? (i := 24) rfl)) e0 (Ins.self fE_b2) (g := (mkF m 1 #[.val (.ref b1), .val (.ref b2), .unset] [(.ref b2)])) rfl rfl (hb hby d_prog_31_method_10_code_1)
  obtain ⟨T2, X2, e2, st2⟩ := castY X1 hx hZ hown (hw _ (List.mem_of_getElem? (i := 24) rfl)) e1 (Ins.self fE_b2) (g := (mkF m 10 #[.val (.ref b1), .val (.ref b2), .unset] [(.ref b2)])) rfl rfl (hb hby d_prog_31_method_10_code_10)
  obtain ⟨T3, X3, e3, st3⟩ := getF X2 hx hZ hown (host := "") (Or.inl (hw _ (List.mem_of_getElem? (i := 9) rfl))) Via.refl e2 fF_b1_com_example_bot_workflow_runner_botworkflowrunner_model_Progress_total (g := (mkF m 15 #[.val (.ref b1), .val (.ref b2), .val (.ref b2)] [(.ref b1)])) rfl rfl (hb hby d_prog_31_method_10_code_15)
  obtain ⟨T4, X4, e4, st4⟩ := getF X3 hx hZ hown (host := "") (Or.inl (hw _ (List.mem_of_getElem? (i := 9) rfl))) Via.refl e3 fF_b2_com_example_bot_workflow_runner_botworkflowrunner_model_Progress_total (g := (mkF m 19 #[.val (.ref b1), .val (.ref b2), .val (.ref b2)] [(.ref b2), (.int u0)])) rfl rfl (hb hby d_prog_31_method_10_code_19)
  obtain ⟨T5, X5, e5, st5⟩ := getF X4 hx hZ hown (host := "") (Or.inl (hw _ (List.mem_of_getElem? (i := 11) rfl))) Via.refl e4 fF_b1_com_example_bot_workflow_runner_botworkflowrunner_model_Progress_completed (g := (mkF m 26 #[.val (.ref b1), .val (.ref b2), .val (.ref b2)] [(.ref b1)])) rfl rfl (hb hby d_prog_31_method_10_code_26)
  obtain ⟨T6, X6, e6, st6⟩ := getF X5 hx hZ hown (host := "") (Or.inl (hw _ (List.mem_of_getElem? (i := 11) rfl))) Via.refl e5 fF_b2_com_example_bot_workflow_runner_botworkflowrunner_model_Progress_completed (g := (mkF m 30 #[.val (.ref b1), .val (.ref b2), .val (.ref b2)] [(.ref b2), (.int u1)])) rfl rfl (hb hby d_prog_31_method_10_code_30)
  obtain ⟨T7, X7, e7, st7⟩ := getF X6 hx hZ hown (host := "") (Or.inl (hw _ (List.mem_of_getElem? (i := 13) rfl))) Via.refl e6 fF_b1_com_example_bot_workflow_runner_botworkflowrunner_model_Progress_running (g := (mkF m 37 #[.val (.ref b1), .val (.ref b2), .val (.ref b2)] [(.ref b1)])) rfl rfl (hb hby d_prog_31_method_10_code_37)
  obtain ⟨T8, X8, e8, st8⟩ := getF X7 hx hZ hown (host := "") (Or.inl (hw _ (List.mem_of_getElem? (i := 13) rfl))) Via.refl e7 fF_b2_com_example_bot_workflow_runner_botworkflowrunner_model_Progress_running (g := (mkF m 41 #[.val (.ref b1), .val (.ref b2), .val (.ref b2)] [(.ref b2), (.int u2)])) rfl rfl (hb hby d_prog_31_method_10_code_41)
  obtain ⟨fs, hr, hrun, hended, hW, hsame⟩ := X8.leave (v := (some (.int (0 : Int32)))) (fun h => by rw [Bd.returns] at h; cases h)
  refine ⟨_, _, pre0 _ ?_, hrun, hended, _, _, rfl, ?_, ⟨_, rfl⟩, hW, hsame.mono (by decide) (by decide)⟩
  · show Steps p.tables e below (s₁.setTop (mkF m 0 #[.val (.ref b1), .val (.ref b2), .unset] [])) _
    refine XS.aloadN X0.here hx rfl (hb hby d_prog_31_method_10_code_0) rfl rfl ?_
    refine st1 _ ?_
    refine XS.ifYes X1.here hx rfl (pc0 := 4) (pc' := 9) rfl (hb hby d_prog_31_method_10_code_4) rfl ((if0 _ _).trans (feq (by decide : ¬ ((1 : Int32) = (0 : Int32)))).2) (by decide) (by decide) ?_
    show Steps p.tables e below (T1.setTop (mkF m 9 #[.val (.ref b1), .val (.ref b2), .unset] [])) _
    refine XS.aloadN X1.here hx rfl (hb hby d_prog_31_method_10_code_9) rfl rfl ?_
    refine st2 _ ?_
    refine XS.astoreN X2.here hx rfl (hb hby d_prog_31_method_10_code_13) rfl rfl (l' := #[.val (.ref b1), .val (.ref b2), .val (.ref b2)]) rfl ?_
    show Steps p.tables e below (T2.setTop (mkF m 14 #[.val (.ref b1), .val (.ref b2), .val (.ref b2)] [])) _
    refine XS.aloadN X2.here hx rfl (hb hby d_prog_31_method_10_code_14) rfl rfl ?_
    refine st3 _ ?_
    refine XS.aloadN X3.here hx rfl (hb hby d_prog_31_method_10_code_18) rfl rfl ?_
    show Steps p.tables e below (T3.setTop (mkF m 19 #[.val (.ref b1), .val (.ref b2), .val (.ref b2)] [(.ref b2), (.int u0)])) _
    refine st4 _ ?_
    refine XS.icmpNo X4.here hx rfl (hb hby d_prog_31_method_10_code_22) rfl (teq hf5).2 ?_
    refine XS.aloadN X4.here hx rfl (hb hby d_prog_31_method_10_code_25) rfl rfl ?_
    show Steps p.tables e below (T4.setTop (mkF m 26 #[.val (.ref b1), .val (.ref b2), .val (.ref b2)] [(.ref b1)])) _
    refine st5 _ ?_
    refine XS.aloadN X5.here hx rfl (hb hby d_prog_31_method_10_code_29) rfl rfl ?_
    refine st6 _ ?_
    show Steps p.tables e below (T6.setTop (mkF m 33 #[.val (.ref b1), .val (.ref b2), .val (.ref b2)] [(.int v1), (.int u1)])) _
    refine XS.icmpNo X6.here hx rfl (hb hby d_prog_31_method_10_code_33) rfl (teq hf6).2 ?_
    refine XS.aloadN X6.here hx rfl (hb hby d_prog_31_method_10_code_36) rfl rfl ?_
    refine st7 _ ?_
    show Steps p.tables e below (T7.setTop (mkF m 40 #[.val (.ref b1), .val (.ref b2), .val (.ref b2)] [(.int u2)])) _
    refine XS.aloadN X7.here hx rfl (hb hby d_prog_31_method_10_code_40) rfl rfl ?_
    refine st8 _ ?_
    refine XS.icmpYes X8.here hx rfl (pc0 := 44) (pc' := 73) rfl (hb hby d_prog_31_method_10_code_44) rfl (feq hf7).2 (by decide) (by decide) ?_
    show Steps p.tables e below (T8.setTop (mkF m 73 #[.val (.ref b1), .val (.ref b2), .val (.ref b2)] [])) _
    refine XS.iconst X8.here hx rfl (hb hby d_prog_31_method_10_code_73) ?_
    show Steps p.tables e below (T8.setTop (mkF m 74 #[.val (.ref b1), .val (.ref b2), .val (.ref b2)] [(.int (0 : Int32))])) _
    exact retN X8 hx (t := .boolean) Bd.returns (by simp) (hb hby d_prog_31_method_10_code_74) hr
  · exact ⟨rfl, N0, e8⟩
set_option maxRecDepth 65536 in
set_option maxHeartbeats 40000000 in
theorem rm_equals_27 (l : Launch) (Z : State) (a0 : Array Value) (hw : ∀ d ∈ tables_1, d.before a0 Z = true) (w : Nat → Addr) (κ : Nat → ClassId) (h0 : Heap) (n0 : Nat) (Z0 : n0 ≤ h0.size) (K : Kon Z h0 w κ) (u0 u1 u2 u3 u4 u5 dd v0 v1 v2 v3 v4 sm : Int32) (b1 : Addr) (b2 : Addr) (hf5 : u0 = v0) (hf6 : u1 = v1) (hf7 : ¬ (u2 = v2)) (hv0 : (osel (decide ((u5 &&& (1 : Int32)) = (0 : Int32))) u0 (u0 + dd)) = v0) (hv1 : (osel (decide ((u5 &&& (2 : Int32)) = (0 : Int32))) u1 (u1 + dd)) = v1) (hv2 : (osel (decide ((u5 &&& (4 : Int32)) = (0 : Int32))) u2 (u2 + dd)) = v2) (fE_b1 : Exa Z h0 b1 "com/example/bot_workflow_runner/botworkflowrunner/model/Progress") (fF_b1_com_example_bot_workflow_runner_botworkflowrunner_model_Progress_total : Fld Z h0 b1 "com/example/bot_workflow_runner/botworkflowrunner/model/Progress" "total" "I" (.int u0)) (fF_b1_com_example_bot_workflow_runner_botworkflowrunner_model_Progress_completed : Fld Z h0 b1 "com/example/bot_workflow_runner/botworkflowrunner/model/Progress" "completed" "I" (.int u1)) (fF_b1_com_example_bot_workflow_runner_botworkflowrunner_model_Progress_running : Fld Z h0 b1 "com/example/bot_workflow_runner/botworkflowrunner/model/Progress" "running" "I" (.int u2)) (fF_b2_com_example_bot_workflow_runner_botworkflowrunner_model_Progress_total : Fld Z h0 b2 "com/example/bot_workflow_runner/botworkflowrunner/model/Progress" "total" "I" (.int v0)) (fF_b2_com_example_bot_workflow_runner_botworkflowrunner_model_Progress_completed : Fld Z h0 b2 "com/example/bot_workflow_runner/botworkflowrunner/model/Progress" "completed" "I" (.int v1)) (fF_b2_com_example_bot_workflow_runner_botworkflowrunner_model_Progress_running : Fld Z h0 b2 "com/example/bot_workflow_runner/botworkflowrunner/model/Progress" "running" "I" (.int v2)) :
    OM l Z (⟨"com/example/bot_workflow_runner/botworkflowrunner/model/Progress", "equals", "(Ljava/lang/Object;)Z"⟩ : MethodName) prog_31_method_10_code 3 (some .boolean) [] ({ frames := 0, cells := 0, slots := 0, locals := 0 } : Room) #[(.ref b2), (.ref b1)] h0 (OP (some (.int (0 : Int32))) n0 h0) := by
  refine MetFree.of_bodySF (plainFor_of_name pn_com_example_bot_workflow_runner_botworkflowrunner_model_Progress) hisR ?_
  intro p e s m args below meth c s₁ Bd hml0 hP hK
  obtain ⟨rfl, hZ, hh⟩ := hP
  have hx := Bd.exec
  have hby := Bd.bytes
  have hml : c.maxLocals = 3 := hml0
  have hown : s.vm.findClass "com/example/bot_workflow_runner/botworkflowrunner/model/Progress" = some m.cls := findClass_of_methodNamed Bd.named
  have hnm := (name_of_methodNamed Bd.named Bd.method).1
  have X0 : Stand p l e ({ frames := 0, cells := 0, slots := 0, locals := 0 } : Room) s m #[(.ref b2), (.ref b1)] below meth c s₁ [] 0 0 := Stand.of_body Bd
  have e0 : s₁.heap = h0 := by rw [← hh, Bd.state]; rfl
  have N0 := Fr.nil n0
  have pre0 : ∀ t, Steps p.tables e below (s₁.setTop (mkF m 0 #[.val (.ref b2), .val (.ref b1), .unset] [])) t → Steps p.tables e below (s₁.setTop (entryFrame m #[(.ref b2), (.ref b1)] 3)) t := fun t k => castTop (ef_prog_31_method_10_code_RR m b2 b1) k
  obtain ⟨T1, X1, e1, st1⟩ := instY X0 hx hZ hown (hw _ (List.mem_of_getElem? (i := 24) rfl)) e0 (Ins.self fE_b1) (g := (mkF m 1 #[.val (.ref b2), .val (.ref b1), .unset] [(.ref b1)])) rfl rfl (hb hby d_prog_31_method_10_code_1)
  obtain ⟨T2, X2, e2, st2⟩ := castY X1 hx hZ hown (hw _ (List.mem_of_getElem? (i := 24) rfl)) e1 (Ins.self fE_b1) (g := (mkF m 10 #[.val (.ref b2), .val (.ref b1), .unset] [(.ref b1)])) rfl rfl (hb hby d_prog_31_method_10_code_10)
  obtain ⟨T3, X3, e3, st3⟩ := getF X2 hx hZ hown (host := "") (Or.inl (hw _ (List.mem_of_getElem? (i := 9) rfl))) Via.refl e2 fF_b2_com_example_bot_workflow_runner_botworkflowrunner_model_Progress_total (g := (mkF m 15 #[.val (.ref b2), .val (.ref b1), .val (.ref b1)] [(.ref b2)])) rfl rfl (hb hby d_prog_31_method_10_code_15)
  obtain ⟨T4, X4, e4, st4⟩ := getF X3 hx hZ hown (host := "") (Or.inl (hw _ (List.mem_of_getElem? (i := 9) rfl))) Via.refl e3 fF_b1_com_example_bot_workflow_runner_botworkflowrunner_model_Progress_total (g := (mkF m 19 #[.val (.ref b2), .val (.ref b1), .val (.ref b1)] [(.ref b1), (.int v0)])) rfl rfl (hb hby d_prog_31_method_10_code_19)
  obtain ⟨T5, X5, e5, st5⟩ := getF X4 hx hZ hown (host := "") (Or.inl (hw _ (List.mem_of_getElem? (i := 11) rfl))) Via.refl e4 fF_b2_com_example_bot_workflow_runner_botworkflowrunner_model_Progress_completed (g := (mkF m 26 #[.val (.ref b2), .val (.ref b1), .val (.ref b1)] [(.ref b2)])) rfl rfl (hb hby d_prog_31_method_10_code_26)
  obtain ⟨T6, X6, e6, st6⟩ := getF X5 hx hZ hown (host := "") (Or.inl (hw _ (List.mem_of_getElem? (i := 11) rfl))) Via.refl e5 fF_b1_com_example_bot_workflow_runner_botworkflowrunner_model_Progress_completed (g := (mkF m 30 #[.val (.ref b2), .val (.ref b1), .val (.ref b1)] [(.ref b1), (.int v1)])) rfl rfl (hb hby d_prog_31_method_10_code_30)
  obtain ⟨T7, X7, e7, st7⟩ := getF X6 hx hZ hown (host := "") (Or.inl (hw _ (List.mem_of_getElem? (i := 13) rfl))) Via.refl e6 fF_b2_com_example_bot_workflow_runner_botworkflowrunner_model_Progress_running (g := (mkF m 37 #[.val (.ref b2), .val (.ref b1), .val (.ref b1)] [(.ref b2)])) rfl rfl (hb hby d_prog_31_method_10_code_37)
  obtain ⟨T8, X8, e8, st8⟩ := getF X7 hx hZ hown (host := "") (Or.inl (hw _ (List.mem_of_getElem? (i := 13) rfl))) Via.refl e7 fF_b1_com_example_bot_workflow_runner_botworkflowrunner_model_Progress_running (g := (mkF m 41 #[.val (.ref b2), .val (.ref b1), .val (.ref b1)] [(.ref b1), (.int v2)])) rfl rfl (hb hby d_prog_31_method_10_code_41)
  obtain ⟨fs, hr, hrun, hended, hW, hsame⟩ := X8.leave (v := (some (.int (0 : Int32)))) (fun h => by rw [Bd.returns] at h; cases h)
  refine ⟨_, _, pre0 _ ?_, hrun, hended, _, _, rfl, ?_, ⟨_, rfl⟩, hW, hsame.mono (by decide) (by decide)⟩
  · show Steps p.tables e below (s₁.setTop (mkF m 0 #[.val (.ref b2), .val (.ref b1), .unset] [])) _
    refine XS.aloadN X0.here hx rfl (hb hby d_prog_31_method_10_code_0) rfl rfl ?_
    refine st1 _ ?_
    refine XS.ifYes X1.here hx rfl (pc0 := 4) (pc' := 9) rfl (hb hby d_prog_31_method_10_code_4) rfl ((if0 _ _).trans (feq (by decide : ¬ ((1 : Int32) = (0 : Int32)))).2) (by decide) (by decide) ?_
    show Steps p.tables e below (T1.setTop (mkF m 9 #[.val (.ref b2), .val (.ref b1), .unset] [])) _
    refine XS.aloadN X1.here hx rfl (hb hby d_prog_31_method_10_code_9) rfl rfl ?_
    refine st2 _ ?_
    refine XS.astoreN X2.here hx rfl (hb hby d_prog_31_method_10_code_13) rfl rfl (l' := #[.val (.ref b2), .val (.ref b1), .val (.ref b1)]) rfl ?_
    show Steps p.tables e below (T2.setTop (mkF m 14 #[.val (.ref b2), .val (.ref b1), .val (.ref b1)] [])) _
    refine XS.aloadN X2.here hx rfl (hb hby d_prog_31_method_10_code_14) rfl rfl ?_
    refine st3 _ ?_
    refine XS.aloadN X3.here hx rfl (hb hby d_prog_31_method_10_code_18) rfl rfl ?_
    show Steps p.tables e below (T3.setTop (mkF m 19 #[.val (.ref b2), .val (.ref b1), .val (.ref b1)] [(.ref b1), (.int v0)])) _
    refine st4 _ ?_
    refine XS.icmpNo X4.here hx rfl (hb hby d_prog_31_method_10_code_22) rfl (teq (by have z0 := congrArg Int32.toInt hv0; have z1 := congrArg Int32.toInt hf5; have r0 := rng32 v0; have r1 := rng32 u0; exact Int32.toInt_inj.mp (by omega) : v0 = u0)).2 ?_
    refine XS.aloadN X4.here hx rfl (hb hby d_prog_31_method_10_code_25) rfl rfl ?_
    show Steps p.tables e below (T4.setTop (mkF m 26 #[.val (.ref b2), .val (.ref b1), .val (.ref b1)] [(.ref b2)])) _
    refine st5 _ ?_
    refine XS.aloadN X5.here hx rfl (hb hby d_prog_31_method_10_code_29) rfl rfl ?_
    refine st6 _ ?_
    show Steps p.tables e below (T6.setTop (mkF m 33 #[.val (.ref b2), .val (.ref b1), .val (.ref b1)] [(.int u1), (.int v1)])) _
    refine XS.icmpNo X6.here hx rfl (hb hby d_prog_31_method_10_code_33) rfl (teq (by have z0 := congrArg Int32.toInt hv1; have z1 := congrArg Int32.toInt hf6; have r0 := rng32 v1; have r1 := rng32 u1; exact Int32.toInt_inj.mp (by omega) : v1 = u1)).2 ?_
    refine XS.aloadN X6.here hx rfl (hb hby d_prog_31_method_10_code_36) rfl rfl ?_
    refine st7 _ ?_
    show Steps p.tables e below (T7.setTop (mkF m 40 #[.val (.ref b2), .val (.ref b1), .val (.ref b1)] [(.int v2)])) _
    refine XS.aloadN X7.here hx rfl (hb hby d_prog_31_method_10_code_40) rfl rfl ?_
    refine st8 _ ?_
    refine XS.icmpYes X8.here hx rfl (pc0 := 44) (pc' := 73) rfl (hb hby d_prog_31_method_10_code_44) rfl (feq (by have z0 := congrArg Int32.toInt hv2; have z1 := mt Int32.toInt_inj.mp hf7; have r0 := rng32 v2; have r1 := rng32 u2; exact fun hh => absurd (congrArg Int32.toInt hh) (by omega) : ¬ (v2 = u2))).2 (by decide) (by decide) ?_
    show Steps p.tables e below (T8.setTop (mkF m 73 #[.val (.ref b2), .val (.ref b1), .val (.ref b1)] [])) _
    refine XS.iconst X8.here hx rfl (hb hby d_prog_31_method_10_code_73) ?_
    show Steps p.tables e below (T8.setTop (mkF m 74 #[.val (.ref b2), .val (.ref b1), .val (.ref b1)] [(.int (0 : Int32))])) _
    exact retN X8 hx (t := .boolean) Bd.returns (by simp) (hb hby d_prog_31_method_10_code_74) hr
  · exact ⟨rfl, N0, e8⟩
set_option maxRecDepth 65536 in
set_option maxHeartbeats 40000000 in
theorem rm0_28 (l : Launch) (Z : State) (a0 : Array Value) (hw : ∀ d ∈ tables_1, d.before a0 Z = true) (w : Nat → Addr) (κ : Nat → ClassId) (h0 : Heap) (n0 : Nat) (Z0 : n0 ≤ h0.size) (K : Kon Z h0 w κ) (u0 u1 u2 u3 u4 u5 dd v0 v1 v2 v3 v4 sm : Int32) (hdd : ((u5 >>> ((8 : Int32) &&& 31)) ||| (1 : Int32)) = dd) (hf1 : ¬ (((u5 >>> ((5 : Int32) &&& 31)) &&& (3 : Int32)) = (1 : Int32))) (hf13 : (0 : Int32) = sm) (hf2 : ¬ (((u5 >>> ((5 : Int32) &&& 31)) &&& (3 : Int32)) = (2 : Int32))) (hf5 : u0 = v0) (hf6 : u1 = v1) (hf7 : ¬ (u2 = v2)) (hsm : (osel (decide ((u5 &&& (31 : Int32)) = (0 : Int32))) (1 : Int32) (0 : Int32)) = sm) (hv0 : (osel (decide ((u5 &&& (1 : Int32)) = (0 : Int32))) u0 (u0 + dd)) = v0) (hv1 : (osel (decide ((u5 &&& (2 : Int32)) = (0 : Int32))) u1 (u1 + dd)) = v1) (hv2 : (osel (decide ((u5 &&& (4 : Int32)) = (0 : Int32))) u2 (u2 + dd)) = v2) (hv3 : (osel (decide ((u5 &&& (8 : Int32)) = (0 : Int32))) u3 (u3 + dd)) = v3) (hv4 : (osel (decide ((u5 &&& (16 : Int32)) = (0 : Int32))) u4 (u4 + dd)) = v4) :
    OM l Z x code maxLocals ret tables_1 room_1 #[(.int u0), (.int u1), (.int u2), (.int u3), (.int u4), (.int u5)] h0 (OF (some (.int (1 : Int32))) n0) := by
  refine MetFree.of_bodySF (plainFor_of_name pn_com_example_bot_workflow_runner_botworkflowrunner_model_ProgressEqualsPinLaw) hisR ?_
  intro p e s m args below meth c s₁ Bd hml0 hP hK
  obtain ⟨rfl, hZ, hh⟩ := hP
  have hx := Bd.exec
  have hby := Bd.bytes
  have hml : c.maxLocals = 16 := hml0
  have hown : s.vm.findClass "com/example/bot_workflow_runner/botworkflowrunner/model/ProgressEqualsPinLaw" = some m.cls := findClass_of_methodNamed Bd.named
  have hnm := (name_of_methodNamed Bd.named Bd.method).1
  have X0 : Stand p l e room_1 s m #[(.int u0), (.int u1), (.int u2), (.int u3), (.int u4), (.int u5)] below meth c s₁ [] 0 0 := Stand.of_body Bd
  have e0 : s₁.heap = h0 := by rw [← hh, Bd.state]; rfl
  have N0 := Fr.nil n0
  have pre0 : ∀ t, Steps p.tables e below (s₁.setTop (mkF m 0 #[.val (.int u0), .val (.int u1), .val (.int u2), .val (.int u3), .val (.int u4), .val (.int u5), .unset, .unset, .unset, .unset, .unset, .unset, .unset, .unset, .unset, .unset] [])) t → Steps p.tables e below (s₁.setTop (entryFrame m #[(.int u0), (.int u1), (.int u2), (.int u3), (.int u4), (.int u5)] maxLocals)) t := fun t k => castTop (ef_code_IIIIII m u0 u1 u2 u3 u4 u5) k
  obtain ⟨T1, h1, X1, e1, E1, A1, D1, -, st1⟩ := newO X0 hx hZ hown (hw _ (List.mem_of_getElem? (i := 0) rfl)) (hw _ (List.mem_of_getElem? (i := 1) rfl)) (hw _ (List.mem_of_getElem? (i := 2) rfl)) e0 (g := (mkF m 9 #[.val (.int u0), .val (.int u1), .val (.int u2), .val (.int u3), .val (.int u4), .val (.int u5), .val (.int dd), .unset, .unset, .unset, .unset, .unset, .unset, .unset, .unset, .unset] [])) rfl (hb hby at_9) (by decide) (by decide)
  obtain ⟨b1, g1⟩ : ∃ z, z = h0.size := ⟨_, rfl⟩
  rw [← g1] at A1 D1 st1
  have hG1 : n0 ≤ b1 := Nat.le_trans Z0 (Nat.le_of_eq g1.symm)
  have hKN1 : ∀ i, i < 1 → w i ≠ b1 := fun i hi => by rw [g1]; exact Nat.ne_of_lt (K.lt i hi)
  have K1 := K.ext E1
  have Z1 : n0 ≤ h1.size := Nat.le_trans Z0 E1.1
  have f1_total : Fld Z h1 b1 "com/example/bot_workflow_runner/botworkflowrunner/model/Progress" "total" "I" (.int (0 : Int32)) := D1 (Or.inr (hw _ (List.mem_of_getElem? (i := 10) rfl))) (ty := .int) (by decide)
  have f1_completed : Fld Z h1 b1 "com/example/bot_workflow_runner/botworkflowrunner/model/Progress" "completed" "I" (.int (0 : Int32)) := D1 (Or.inr (hw _ (List.mem_of_getElem? (i := 12) rfl))) (ty := .int) (by decide)
  have f1_running : Fld Z h1 b1 "com/example/bot_workflow_runner/botworkflowrunner/model/Progress" "running" "I" (.int (0 : Int32)) := D1 (Or.inr (hw _ (List.mem_of_getElem? (i := 14) rfl))) (ty := .int) (by decide)
  have f1_failed : Fld Z h1 b1 "com/example/bot_workflow_runner/botworkflowrunner/model/Progress" "failed" "I" (.int (0 : Int32)) := D1 (Or.inr (hw _ (List.mem_of_getElem? (i := 16) rfl))) (ty := .int) (by decide)
  have f1_skipped : Fld Z h1 b1 "com/example/bot_workflow_runner/botworkflowrunner/model/Progress" "skipped" "I" (.int (0 : Int32)) := D1 (Or.inr (hw _ (List.mem_of_getElem? (i := 18) rfl))) (ty := .int) (by decide)
  obtain ⟨_, _, ⟨T2, L2, kk2, n2⟩, -, X2, ⟨Lc2, hQ2, l2, y2, z2⟩, st2⟩ := Jvm.Stand.specialBack X1 hx (y := (⟨"com/example/bot_workflow_runner/botworkflowrunner/model/Progress", "<init>", "(IIIII)V"⟩ : MethodName)) rfl hown (mvT hZ (hw _ (List.mem_of_getElem? (i := 3) rfl))) (mvT hZ (hw _ (List.mem_of_getElem? (i := 4) rfl))) (mvT hZ (hw _ (List.mem_of_getElem? (i := 5) rfl))) (by decide) (backOf (W := 1) (rm__init__1 l Z a0 hw w κ h1 n0 Z1 K1 u0 u1 u2 u3 u4 u5 dd v0 v1 v2 v3 v4 sm b1 A1 f1_total f1_completed f1_running f1_failed f1_skipped hG1 hKN1) hZ (hw _ (List.mem_of_getElem? (i := 5) rfl)) (hw _ (List.mem_of_getElem? (i := 2) rfl)) (by decide) (by decide)) (g := (mkF m 19 #[.val (.int u0), .val (.int u1), .val (.int u2), .val (.int u3), .val (.int u4), .val (.int u5), .val (.int dd), .unset, .unset, .unset, .unset, .unset, .unset, .unset, .unset, .unset] [(.int u4), (.int u3), (.int u2), (.int u1), (.int u0), (.ref b1), (.ref b1)])) rfl (by rw [hml]; rfl) (Steps.refl _) (a := b1) (argsL := [(.int u0), (.int u1), (.int u2), (.int u3), (.int u4)]) (rest := [(.ref b1)]) (lenOf pd_28IIIII29V rfl) rfl (by show 2 * 0 + _ ≤ _; exact Nat.le_of_eq rfl) (hb hby at_19) (fun _ _ => ⟨rfl, e1, (by decide : 1 + 0 ≤ _), (by decide : 5 + 0 ≤ _)⟩)
  dsimp only [Pt.U, Pt.locs, Pt.cells, Pt.slots] at X2 l2 y2 z2 st2 hQ2
  subst l2 y2 z2
  obtain ⟨rfl, N2q, Z2, K2, f2_0, f2_1, f2_2, f2_3, f2_4, f2_5⟩ := hQ2
  have N2 := Fr.app N0 N2q
  obtain ⟨T8, h8, X8, e8, E8, A8, D8, -, st8⟩ := newO X2 hx hZ hown (hw _ (List.mem_of_getElem? (i := 0) rfl)) (hw _ (List.mem_of_getElem? (i := 1) rfl)) (hw _ (List.mem_of_getElem? (i := 2) rfl)) rfl (g := (mkF m 113 #[.val (.int u0), .val (.int u1), .val (.int u2), .val (.int u3), .val (.int u4), .val (.int u5), .val (.int dd), .val (.ref b1), .val (.int v0), .val (.int v1), .val (.int v2), .val (.int v3), .val (.int v4), .unset, .unset, .unset] [])) rfl (hb hby at_113) (by decide) (by decide)
  obtain ⟨b2, g8⟩ : ∃ z, z = T2.heap.size := ⟨_, rfl⟩
  rw [← g8] at A8 D8 st8
  have hG8 : n0 ≤ b2 := Nat.le_trans Z2 (Nat.le_of_eq g8.symm)
  have hN8_0 : b1 ≠ b2 := by rw [g8]; exact Nat.ne_of_lt f2_0.lt
  have hKN8 : ∀ i, i < 1 → w i ≠ b2 := fun i hi => by rw [g8]; exact Nat.ne_of_lt (K2.lt i hi)
  have f8_fE_b1 := f2_0.ext E8
  have f8_fF_b1_com_example_bot_workflow_runner_botworkflowrunner_model_Progress_total := f2_1.ext E8
  have f8_fF_b1_com_example_bot_workflow_runner_botworkflowrunner_model_Progress_completed := f2_2.ext E8
  have f8_fF_b1_com_example_bot_workflow_runner_botworkflowrunner_model_Progress_running := f2_3.ext E8
  have f8_fF_b1_com_example_bot_workflow_runner_botworkflowrunner_model_Progress_failed := f2_4.ext E8
  have f8_fF_b1_com_example_bot_workflow_runner_botworkflowrunner_model_Progress_skipped := f2_5.ext E8
  have K8 := K2.ext E8
  have Z8 : n0 ≤ h8.size := Nat.le_trans Z2 E8.1
  have f8_total : Fld Z h8 b2 "com/example/bot_workflow_runner/botworkflowrunner/model/Progress" "total" "I" (.int (0 : Int32)) := D8 (Or.inr (hw _ (List.mem_of_getElem? (i := 10) rfl))) (ty := .int) (by decide)
  have f8_completed : Fld Z h8 b2 "com/example/bot_workflow_runner/botworkflowrunner/model/Progress" "completed" "I" (.int (0 : Int32)) := D8 (Or.inr (hw _ (List.mem_of_getElem? (i := 12) rfl))) (ty := .int) (by decide)
  have f8_running : Fld Z h8 b2 "com/example/bot_workflow_runner/botworkflowrunner/model/Progress" "running" "I" (.int (0 : Int32)) := D8 (Or.inr (hw _ (List.mem_of_getElem? (i := 14) rfl))) (ty := .int) (by decide)
  have f8_failed : Fld Z h8 b2 "com/example/bot_workflow_runner/botworkflowrunner/model/Progress" "failed" "I" (.int (0 : Int32)) := D8 (Or.inr (hw _ (List.mem_of_getElem? (i := 16) rfl))) (ty := .int) (by decide)
  have f8_skipped : Fld Z h8 b2 "com/example/bot_workflow_runner/botworkflowrunner/model/Progress" "skipped" "I" (.int (0 : Int32)) := D8 (Or.inr (hw _ (List.mem_of_getElem? (i := 18) rfl))) (ty := .int) (by decide)
  obtain ⟨_, _, ⟨T9, L9, kk9, n9⟩, -, X9, ⟨Lc9, hQ9, l9, y9, z9⟩, st9⟩ := Jvm.Stand.specialBack X8 hx (y := (⟨"com/example/bot_workflow_runner/botworkflowrunner/model/Progress", "<init>", "(IIIII)V"⟩ : MethodName)) rfl hown (mvT hZ (hw _ (List.mem_of_getElem? (i := 3) rfl))) (mvT hZ (hw _ (List.mem_of_getElem? (i := 4) rfl))) (mvT hZ (hw _ (List.mem_of_getElem? (i := 5) rfl))) (by decide) (backOf (W := 1) (rm__init__2 l Z a0 hw w κ h8 n0 Z8 K8 u0 u1 u2 u3 u4 u5 dd v0 v1 v2 v3 v4 sm b1 b2 f8_fE_b1 f8_fF_b1_com_example_bot_workflow_runner_botworkflowrunner_model_Progress_total f8_fF_b1_com_example_bot_workflow_runner_botworkflowrunner_model_Progress_completed f8_fF_b1_com_example_bot_workflow_runner_botworkflowrunner_model_Progress_running f8_fF_b1_com_example_bot_workflow_runner_botworkflowrunner_model_Progress_failed f8_fF_b1_com_example_bot_workflow_runner_botworkflowrunner_model_Progress_skipped A8 f8_total f8_completed f8_running f8_failed f8_skipped hG1 hKN1 hG8 hN8_0 hKN8) hZ (hw _ (List.mem_of_getElem? (i := 5) rfl)) (hw _ (List.mem_of_getElem? (i := 2) rfl)) (by decide) (by decide)) (g := (mkF m 127 #[.val (.int u0), .val (.int u1), .val (.int u2), .val (.int u3), .val (.int u4), .val (.int u5), .val (.int dd), .val (.ref b1), .val (.int v0), .val (.int v1), .val (.int v2), .val (.int v3), .val (.int v4), .unset, .unset, .unset] [(.int v4), (.int v3), (.int v2), (.int v1), (.int v0), (.ref b2), (.ref b2)])) rfl (by rw [hml]; rfl) (Steps.refl _) (a := b2) (argsL := [(.int v0), (.int v1), (.int v2), (.int v3), (.int v4)]) (rest := [(.ref b2)]) (lenOf pd_28IIIII29V rfl) rfl (by show 2 * 0 + _ ≤ _; exact Nat.le_of_eq rfl) (hb hby at_127) (fun _ _ => ⟨rfl, e8, (by decide : 2 + 0 ≤ _), (by decide : 10 + 0 ≤ _)⟩)
  dsimp only [Pt.U, Pt.locs, Pt.cells, Pt.slots] at X9 l9 y9 z9 st9 hQ9
  subst l9 y9 z9
  obtain ⟨rfl, N9q, Z9, K9, f9_0, f9_1, f9_2, f9_3, f9_4, f9_5, f9_6, f9_7, f9_8, f9_9, f9_10, f9_11⟩ := hQ9
  have N9 := Fr.app N2 N9q
  obtain ⟨cq11, kq11, qa11, qb11, qc11⟩ := isOf hZ rfl f9_0
  obtain ⟨_, _, ⟨T11, L11, kk11, n11⟩, -, X11, ⟨Lc11, hQ11, l11, y11, z11⟩, st11⟩ := X9.virtualBack hx (y := (⟨"com/example/bot_workflow_runner/botworkflowrunner/model/Progress", "equals", "(Ljava/lang/Object;)Z"⟩ : MethodName)) (z := (⟨"com/example/bot_workflow_runner/botworkflowrunner/model/Progress", "equals", "(Ljava/lang/Object;)Z"⟩ : MethodName)) hown (mvT hZ (hw _ (List.mem_of_getElem? (i := 19) rfl))) (mvT hZ (hw _ (List.mem_of_getElem? (i := 20) rfl))) (notFace_of_selects (args := #[]) (mvT hZ (hw _ (List.mem_of_getElem? (i := 22) rfl)))) (mvT hZ (hw _ (List.mem_of_getElem? (i := 22) rfl))) (mvT hZ (hw _ (List.mem_of_getElem? (i := 21) rfl))) (by decide) (backOf (W := 0) (rm_equals_26 l Z a0 hw w κ T9.heap n0 Z9 K9 u0 u1 u2 u3 u4 u5 dd v0 v1 v2 v3 v4 sm b1 b2 hf5 hf6 hf7 f9_1 f9_2 f9_3 f9_6 f9_7 f9_8 f9_9) hZ (hw _ (List.mem_of_getElem? (i := 23) rfl)) (hw _ (List.mem_of_getElem? (i := 2) rfl)) (by decide) (by decide)) qa11 qc11 (g := (mkF m 224 #[.val (.int u0), .val (.int u1), .val (.int u2), .val (.int u3), .val (.int u4), .val (.int u5), .val (.int dd), .val (.ref b1), .val (.int v0), .val (.int v1), .val (.int v2), .val (.int v3), .val (.int v4), .val (.ref b2), .val (.int sm), .val (.int ((u5 >>> ((5 : Int32) &&& 31)) &&& (3 : Int32)))] [(.ref b2), (.ref b1)])) rfl (by rw [hml]; rfl) (Steps.refl _) (argsL := [(.ref b2)]) (rest := []) (lenOf pd_28Ljava2flang2fObject3b29Z rfl) rfl (by show 2 * 0 + _ ≤ _; exact Nat.le_of_eq rfl) (hb hby at_224) (fun _ _ => ⟨rfl, rfl, (by decide : 2 + 0 ≤ _), (by decide : 10 + 0 ≤ _)⟩)
  dsimp only [Pt.U, Pt.locs, Pt.cells, Pt.slots] at X11 l11 y11 z11 st11 hQ11
  subst l11 y11 z11
  obtain ⟨rfl, N11q, e11⟩ := hQ11
  have N11 := Fr.app N9 N11q
  obtain ⟨cq12, kq12, qa12, qb12, qc12⟩ := isOf hZ e11 f9_6
  obtain ⟨_, _, ⟨T12, L12, kk12, n12⟩, -, X12, ⟨Lc12, hQ12, l12, y12, z12⟩, st12⟩ := X11.virtualBack hx (y := (⟨"com/example/bot_workflow_runner/botworkflowrunner/model/Progress", "equals", "(Ljava/lang/Object;)Z"⟩ : MethodName)) (z := (⟨"com/example/bot_workflow_runner/botworkflowrunner/model/Progress", "equals", "(Ljava/lang/Object;)Z"⟩ : MethodName)) hown (mvT hZ (hw _ (List.mem_of_getElem? (i := 19) rfl))) (mvT hZ (hw _ (List.mem_of_getElem? (i := 20) rfl))) (notFace_of_selects (args := #[]) (mvT hZ (hw _ (List.mem_of_getElem? (i := 22) rfl)))) (mvT hZ (hw _ (List.mem_of_getElem? (i := 22) rfl))) (mvT hZ (hw _ (List.mem_of_getElem? (i := 21) rfl))) (by decide) (backOf (W := 0) (rm_equals_27 l Z a0 hw w κ T9.heap n0 Z9 K9 u0 u1 u2 u3 u4 u5 dd v0 v1 v2 v3 v4 sm b1 b2 hf5 hf6 hf7 hv0 hv1 hv2 f9_0 f9_1 f9_2 f9_3 f9_7 f9_8 f9_9) hZ (hw _ (List.mem_of_getElem? (i := 23) rfl)) (hw _ (List.mem_of_getElem? (i := 2) rfl)) (by decide) (by decide)) qa12 qc12 (g := (mkF m 236 #[.val (.int u0), .val (.int u1), .val (.int u2), .val (.int u3), .val (.int u4), .val (.int u5), .val (.int dd), .val (.ref b1), .val (.int v0), .val (.int v1), .val (.int v2), .val (.int v3), .val (.int v4), .val (.ref b2), .val (.int sm), .val (.int ((u5 >>> ((5 : Int32) &&& 31)) &&& (3 : Int32)))] [(.ref b1), (.ref b2)])) rfl (by rw [hml]; rfl) (Steps.refl _) (argsL := [(.ref b1)]) (rest := []) (lenOf pd_28Ljava2flang2fObject3b29Z rfl) rfl (by show 2 * 0 + _ ≤ _; exact Nat.le_of_eq rfl) (hb hby at_236) (fun _ _ => ⟨rfl, e11, (by decide : 2 + 0 ≤ _), (by decide : 10 + 0 ≤ _)⟩)
  dsimp only [Pt.U, Pt.locs, Pt.cells, Pt.slots] at X12 l12 y12 z12 st12 hQ12
  subst l12 y12 z12
  obtain ⟨rfl, N12q, e12⟩ := hQ12
  have N12 := Fr.app N11 N12q
  obtain ⟨cq13, kq13, qa13, qb13, qc13⟩ := isOf hZ e12 f9_0
  obtain ⟨_, _, ⟨T13, L13, kk13, n13⟩, -, X13, ⟨Lc13, hQ13, l13, y13, z13⟩, st13⟩ := X12.virtualBack hx (y := (⟨"com/example/bot_workflow_runner/botworkflowrunner/model/Progress", "equals", "(Ljava/lang/Object;)Z"⟩ : MethodName)) (z := (⟨"com/example/bot_workflow_runner/botworkflowrunner/model/Progress", "equals", "(Ljava/lang/Object;)Z"⟩ : MethodName)) hown (mvT hZ (hw _ (List.mem_of_getElem? (i := 19) rfl))) (mvT hZ (hw _ (List.mem_of_getElem? (i := 20) rfl))) (notFace_of_selects (args := #[]) (mvT hZ (hw _ (List.mem_of_getElem? (i := 22) rfl)))) (mvT hZ (hw _ (List.mem_of_getElem? (i := 22) rfl))) (mvT hZ (hw _ (List.mem_of_getElem? (i := 21) rfl))) (by decide) (backOf (W := 0) (rm_equals_4 l Z a0 hw w κ T9.heap n0 Z9 K9 u0 u1 u2 u3 u4 u5 dd v0 v1 v2 v3 v4 sm b1 b2 f9_0 f9_1 f9_2 f9_3 f9_4 f9_5) hZ (hw _ (List.mem_of_getElem? (i := 23) rfl)) (hw _ (List.mem_of_getElem? (i := 2) rfl)) (by decide) (by decide)) qa13 qc13 (g := (mkF m 248 #[.val (.int u0), .val (.int u1), .val (.int u2), .val (.int u3), .val (.int u4), .val (.int u5), .val (.int dd), .val (.ref b1), .val (.int v0), .val (.int v1), .val (.int v2), .val (.int v3), .val (.int v4), .val (.ref b2), .val (.int sm), .val (.int ((u5 >>> ((5 : Int32) &&& 31)) &&& (3 : Int32)))] [(.ref b1), (.ref b1)])) rfl (by rw [hml]; rfl) (Steps.refl _) (argsL := [(.ref b1)]) (rest := []) (lenOf pd_28Ljava2flang2fObject3b29Z rfl) rfl (by show 2 * 0 + _ ≤ _; exact Nat.le_of_eq rfl) (hb hby at_248) (fun _ _ => ⟨rfl, e12, (by decide : 2 + 0 ≤ _), (by decide : 10 + 0 ≤ _)⟩)
  dsimp only [Pt.U, Pt.locs, Pt.cells, Pt.slots] at X13 l13 y13 z13 st13 hQ13
  subst l13 y13 z13
  obtain ⟨rfl, N13q, e13⟩ := hQ13
  have N13 := Fr.app N12 N13q
  obtain ⟨fs, hr, hrun, hended, hW, hsame⟩ := X13.leave (v := (some (.int (1 : Int32)))) (fun h => by rw [Bd.returns] at h; cases h)
  refine ⟨_, _, pre0 _ ?_, hrun, hended, _, _, rfl, ?_, ⟨_, rfl⟩, hW, hsame.mono (by decide) (by decide)⟩
  · show Steps p.tables e below (s₁.setTop (mkF m 0 #[.val (.int u0), .val (.int u1), .val (.int u2), .val (.int u3), .val (.int u4), .val (.int u5), .unset, .unset, .unset, .unset, .unset, .unset, .unset, .unset, .unset, .unset] [])) _
    refine XS.iload X0.here hx rfl (hb hby at_0) rfl ?_
    refine XS.bipush X0.here hx rfl (hb hby at_2) ?_
    refine XS.ishr X0.here hx rfl (hb hby at_4) rfl ?_
    show Steps p.tables e below (s₁.setTop (mkF m 5 #[.val (.int u0), .val (.int u1), .val (.int u2), .val (.int u3), .val (.int u4), .val (.int u5), .unset, .unset, .unset, .unset, .unset, .unset, .unset, .unset, .unset, .unset] [(.int (u5 >>> ((8 : Int32) &&& 31)))])) _
    refine XS.iconst X0.here hx rfl (hb hby at_5) ?_
    refine XS.ior X0.here hx rfl (hb hby at_6) rfl ?_
    show Steps p.tables e below (s₁.setTop (mkF m 7 #[.val (.int u0), .val (.int u1), .val (.int u2), .val (.int u3), .val (.int u4), .val (.int u5), .unset, .unset, .unset, .unset, .unset, .unset, .unset, .unset, .unset, .unset] [(.int ((u5 >>> ((8 : Int32) &&& 31)) ||| (1 : Int32)))])) _
    rw [hdd]
    show Steps p.tables e below (s₁.setTop (mkF m 7 #[.val (.int u0), .val (.int u1), .val (.int u2), .val (.int u3), .val (.int u4), .val (.int u5), .unset, .unset, .unset, .unset, .unset, .unset, .unset, .unset, .unset, .unset] [(.int dd)])) _
    refine XS.istore X0.here hx rfl (hb hby at_7) rfl (l' := #[.val (.int u0), .val (.int u1), .val (.int u2), .val (.int u3), .val (.int u4), .val (.int u5), .val (.int dd), .unset, .unset, .unset, .unset, .unset, .unset, .unset, .unset, .unset]) rfl ?_
    refine st1 _ ?_
    refine XS.dup X1.here hx rfl (hb hby at_12) rfl rfl ?_
    show Steps p.tables e below (T1.setTop (mkF m 13 #[.val (.int u0), .val (.int u1), .val (.int u2), .val (.int u3), .val (.int u4), .val (.int u5), .val (.int dd), .unset, .unset, .unset, .unset, .unset, .unset, .unset, .unset, .unset] [(.ref b1), (.ref b1)])) _
    refine XS.iloadN X1.here hx rfl (hb hby at_13) rfl ?_
    refine XS.iloadN X1.here hx rfl (hb hby at_14) rfl ?_
    refine XS.iloadN X1.here hx rfl (hb hby at_15) rfl ?_
    show Steps p.tables e below (T1.setTop (mkF m 16 #[.val (.int u0), .val (.int u1), .val (.int u2), .val (.int u3), .val (.int u4), .val (.int u5), .val (.int dd), .unset, .unset, .unset, .unset, .unset, .unset, .unset, .unset, .unset] [(.int u2), (.int u1), (.int u0), (.ref b1), (.ref b1)])) _
    refine XS.iloadN X1.here hx rfl (hb hby at_16) rfl ?_
    refine XS.iload X1.here hx rfl (hb hby at_17) rfl ?_
    refine st2.trans ?_
    show Steps p.tables e below (T2.setTop (mkF m 22 #[.val (.int u0), .val (.int u1), .val (.int u2), .val (.int u3), .val (.int u4), .val (.int u5), .val (.int dd), .unset, .unset, .unset, .unset, .unset, .unset, .unset, .unset, .unset] [(.ref b1)])) _
    refine XS.astore X2.here hx rfl (hb hby at_22) rfl rfl (l' := #[.val (.int u0), .val (.int u1), .val (.int u2), .val (.int u3), .val (.int u4), .val (.int u5), .val (.int dd), .val (.ref b1), .unset, .unset, .unset, .unset, .unset, .unset, .unset, .unset]) rfl ?_
    refine XS.iload X2.here hx rfl (hb hby at_24) rfl ?_
    refine XS.iconst X2.here hx rfl (hb hby at_26) ?_
    show Steps p.tables e below (T2.setTop (mkF m 27 #[.val (.int u0), .val (.int u1), .val (.int u2), .val (.int u3), .val (.int u4), .val (.int u5), .val (.int dd), .val (.ref b1), .unset, .unset, .unset, .unset, .unset, .unset, .unset, .unset] [(.int (1 : Int32)), (.int u5)])) _
    refine XS.iand X2.here hx rfl (hb hby at_27) rfl ?_
    show Steps p.tables e below (T2.setTop (mkF m 28 #[.val (.int u0), .val (.int u1), .val (.int u2), .val (.int u3), .val (.int u4), .val (.int u5), .val (.int dd), .val (.ref b1), .unset, .unset, .unset, .unset, .unset, .unset, .unset, .unset] [(.int (u5 &&& (1 : Int32)))])) _
    suffices hshd3 : Steps p.tables e below (T2.setTop (mkF m 39 #[.val (.int u0), .val (.int u1), .val (.int u2), .val (.int u3), .val (.int u4), .val (.int u5), .val (.int dd), .val (.ref b1), .unset, .unset, .unset, .unset, .unset, .unset, .unset, .unset] [(.int (osel (decide ((u5 &&& (1 : Int32)) = (0 : Int32))) u0 (u0 + dd)))])) (T13.setFrames fs) by
      by_cases hd3 : (u5 &&& (1 : Int32)) = (0 : Int32)
      · rw [show (osel (decide ((u5 &&& (1 : Int32)) = (0 : Int32))) u0 (u0 + dd)) = u0 from if_pos (decide_eq_true hd3)] at hshd3
        refine XS.ifYes X2.here hx rfl (pc0 := 28) (pc' := 38) rfl (hb hby at_28) rfl ((if0 _ _).trans (teq hd3).1) (by decide) (by decide) ?_
        show Steps p.tables e below (T2.setTop (mkF m 38 #[.val (.int u0), .val (.int u1), .val (.int u2), .val (.int u3), .val (.int u4), .val (.int u5), .val (.int dd), .val (.ref b1), .unset, .unset, .unset, .unset, .unset, .unset, .unset, .unset] [])) _
        refine XS.iloadN X2.here hx rfl (hb hby at_38) rfl ?_
        exact hshd3
      · rw [show (osel (decide ((u5 &&& (1 : Int32)) = (0 : Int32))) u0 (u0 + dd)) = (u0 + dd) from if_neg (fun hh => absurd (of_decide_eq_true hh) hd3)] at hshd3
        refine XS.ifNo X2.here hx rfl (hb hby at_28) rfl ((if0 _ _).trans (feq hd3).1) ?_
        show Steps p.tables e below (T2.setTop (mkF m 31 #[.val (.int u0), .val (.int u1), .val (.int u2), .val (.int u3), .val (.int u4), .val (.int u5), .val (.int dd), .val (.ref b1), .unset, .unset, .unset, .unset, .unset, .unset, .unset, .unset] [])) _
        refine XS.iloadN X2.here hx rfl (hb hby at_31) rfl ?_
        show Steps p.tables e below (T2.setTop (mkF m 32 #[.val (.int u0), .val (.int u1), .val (.int u2), .val (.int u3), .val (.int u4), .val (.int u5), .val (.int dd), .val (.ref b1), .unset, .unset, .unset, .unset, .unset, .unset, .unset, .unset] [(.int u0)])) _
        refine XS.iload X2.here hx rfl (hb hby at_32) rfl ?_
        show Steps p.tables e below (T2.setTop (mkF m 34 #[.val (.int u0), .val (.int u1), .val (.int u2), .val (.int u3), .val (.int u4), .val (.int u5), .val (.int dd), .val (.ref b1), .unset, .unset, .unset, .unset, .unset, .unset, .unset, .unset] [(.int dd), (.int u0)])) _
        refine XS.iadd X2.here hx rfl (hb hby at_34) rfl ?_
        show Steps p.tables e below (T2.setTop (mkF m 35 #[.val (.int u0), .val (.int u1), .val (.int u2), .val (.int u3), .val (.int u4), .val (.int u5), .val (.int dd), .val (.ref b1), .unset, .unset, .unset, .unset, .unset, .unset, .unset, .unset] [(.int (u0 + dd))])) _
        refine XS.goto X2.here hx rfl (pc0 := 35) (pc' := 39) rfl (hb hby at_35) (by decide) (by decide) ?_
        exact hshd3
    show Steps p.tables e below (T2.setTop (mkF m 39 #[.val (.int u0), .val (.int u1), .val (.int u2), .val (.int u3), .val (.int u4), .val (.int u5), .val (.int dd), .val (.ref b1), .unset, .unset, .unset, .unset, .unset, .unset, .unset, .unset] [(.int (osel (decide ((u5 &&& (1 : Int32)) = (0 : Int32))) u0 (u0 + dd)))])) _
    rw [hv0]
    show Steps p.tables e below (T2.setTop (mkF m 39 #[.val (.int u0), .val (.int u1), .val (.int u2), .val (.int u3), .val (.int u4), .val (.int u5), .val (.int dd), .val (.ref b1), .unset, .unset, .unset, .unset, .unset, .unset, .unset, .unset] [(.int v0)])) _
    refine XS.istore X2.here hx rfl (hb hby at_39) rfl (l' := #[.val (.int u0), .val (.int u1), .val (.int u2), .val (.int u3), .val (.int u4), .val (.int u5), .val (.int dd), .val (.ref b1), .val (.int v0), .unset, .unset, .unset, .unset, .unset, .unset, .unset]) rfl ?_
    refine XS.iload X2.here hx rfl (hb hby at_41) rfl ?_
    refine XS.iconst X2.here hx rfl (hb hby at_43) ?_
    show Steps p.tables e below (T2.setTop (mkF m 44 #[.val (.int u0), .val (.int u1), .val (.int u2), .val (.int u3), .val (.int u4), .val (.int u5), .val (.int dd), .val (.ref b1), .val (.int v0), .unset, .unset, .unset, .unset, .unset, .unset, .unset] [(.int (2 : Int32)), (.int u5)])) _
    refine XS.iand X2.here hx rfl (hb hby at_44) rfl ?_
    show Steps p.tables e below (T2.setTop (mkF m 45 #[.val (.int u0), .val (.int u1), .val (.int u2), .val (.int u3), .val (.int u4), .val (.int u5), .val (.int dd), .val (.ref b1), .val (.int v0), .unset, .unset, .unset, .unset, .unset, .unset, .unset] [(.int (u5 &&& (2 : Int32)))])) _
    suffices hshd4 : Steps p.tables e below (T2.setTop (mkF m 56 #[.val (.int u0), .val (.int u1), .val (.int u2), .val (.int u3), .val (.int u4), .val (.int u5), .val (.int dd), .val (.ref b1), .val (.int v0), .unset, .unset, .unset, .unset, .unset, .unset, .unset] [(.int (osel (decide ((u5 &&& (2 : Int32)) = (0 : Int32))) u1 (u1 + dd)))])) (T13.setFrames fs) by
      by_cases hd4 : (u5 &&& (2 : Int32)) = (0 : Int32)
      · rw [show (osel (decide ((u5 &&& (2 : Int32)) = (0 : Int32))) u1 (u1 + dd)) = u1 from if_pos (decide_eq_true hd4)] at hshd4
        refine XS.ifYes X2.here hx rfl (pc0 := 45) (pc' := 55) rfl (hb hby at_45) rfl ((if0 _ _).trans (teq hd4).1) (by decide) (by decide) ?_
        show Steps p.tables e below (T2.setTop (mkF m 55 #[.val (.int u0), .val (.int u1), .val (.int u2), .val (.int u3), .val (.int u4), .val (.int u5), .val (.int dd), .val (.ref b1), .val (.int v0), .unset, .unset, .unset, .unset, .unset, .unset, .unset] [])) _
        refine XS.iloadN X2.here hx rfl (hb hby at_55) rfl ?_
        exact hshd4
      · rw [show (osel (decide ((u5 &&& (2 : Int32)) = (0 : Int32))) u1 (u1 + dd)) = (u1 + dd) from if_neg (fun hh => absurd (of_decide_eq_true hh) hd4)] at hshd4
        refine XS.ifNo X2.here hx rfl (hb hby at_45) rfl ((if0 _ _).trans (feq hd4).1) ?_
        show Steps p.tables e below (T2.setTop (mkF m 48 #[.val (.int u0), .val (.int u1), .val (.int u2), .val (.int u3), .val (.int u4), .val (.int u5), .val (.int dd), .val (.ref b1), .val (.int v0), .unset, .unset, .unset, .unset, .unset, .unset, .unset] [])) _
        refine XS.iloadN X2.here hx rfl (hb hby at_48) rfl ?_
        show Steps p.tables e below (T2.setTop (mkF m 49 #[.val (.int u0), .val (.int u1), .val (.int u2), .val (.int u3), .val (.int u4), .val (.int u5), .val (.int dd), .val (.ref b1), .val (.int v0), .unset, .unset, .unset, .unset, .unset, .unset, .unset] [(.int u1)])) _
        refine XS.iload X2.here hx rfl (hb hby at_49) rfl ?_
        show Steps p.tables e below (T2.setTop (mkF m 51 #[.val (.int u0), .val (.int u1), .val (.int u2), .val (.int u3), .val (.int u4), .val (.int u5), .val (.int dd), .val (.ref b1), .val (.int v0), .unset, .unset, .unset, .unset, .unset, .unset, .unset] [(.int dd), (.int u1)])) _
        refine XS.iadd X2.here hx rfl (hb hby at_51) rfl ?_
        show Steps p.tables e below (T2.setTop (mkF m 52 #[.val (.int u0), .val (.int u1), .val (.int u2), .val (.int u3), .val (.int u4), .val (.int u5), .val (.int dd), .val (.ref b1), .val (.int v0), .unset, .unset, .unset, .unset, .unset, .unset, .unset] [(.int (u1 + dd))])) _
        refine XS.goto X2.here hx rfl (pc0 := 52) (pc' := 56) rfl (hb hby at_52) (by decide) (by decide) ?_
        exact hshd4
    show Steps p.tables e below (T2.setTop (mkF m 56 #[.val (.int u0), .val (.int u1), .val (.int u2), .val (.int u3), .val (.int u4), .val (.int u5), .val (.int dd), .val (.ref b1), .val (.int v0), .unset, .unset, .unset, .unset, .unset, .unset, .unset] [(.int (osel (decide ((u5 &&& (2 : Int32)) = (0 : Int32))) u1 (u1 + dd)))])) _
    rw [hv1]
    show Steps p.tables e below (T2.setTop (mkF m 56 #[.val (.int u0), .val (.int u1), .val (.int u2), .val (.int u3), .val (.int u4), .val (.int u5), .val (.int dd), .val (.ref b1), .val (.int v0), .unset, .unset, .unset, .unset, .unset, .unset, .unset] [(.int v1)])) _
    refine XS.istore X2.here hx rfl (hb hby at_56) rfl (l' := #[.val (.int u0), .val (.int u1), .val (.int u2), .val (.int u3), .val (.int u4), .val (.int u5), .val (.int dd), .val (.ref b1), .val (.int v0), .val (.int v1), .unset, .unset, .unset, .unset, .unset, .unset]) rfl ?_
    refine XS.iload X2.here hx rfl (hb hby at_58) rfl ?_
    refine XS.iconst X2.here hx rfl (hb hby at_60) ?_
    show Steps p.tables e below (T2.setTop (mkF m 61 #[.val (.int u0), .val (.int u1), .val (.int u2), .val (.int u3), .val (.int u4), .val (.int u5), .val (.int dd), .val (.ref b1), .val (.int v0), .val (.int v1), .unset, .unset, .unset, .unset, .unset, .unset] [(.int (4 : Int32)), (.int u5)])) _
    refine XS.iand X2.here hx rfl (hb hby at_61) rfl ?_
    show Steps p.tables e below (T2.setTop (mkF m 62 #[.val (.int u0), .val (.int u1), .val (.int u2), .val (.int u3), .val (.int u4), .val (.int u5), .val (.int dd), .val (.ref b1), .val (.int v0), .val (.int v1), .unset, .unset, .unset, .unset, .unset, .unset] [(.int (u5 &&& (4 : Int32)))])) _
    suffices hshd5 : Steps p.tables e below (T2.setTop (mkF m 73 #[.val (.int u0), .val (.int u1), .val (.int u2), .val (.int u3), .val (.int u4), .val (.int u5), .val (.int dd), .val (.ref b1), .val (.int v0), .val (.int v1), .unset, .unset, .unset, .unset, .unset, .unset] [(.int (osel (decide ((u5 &&& (4 : Int32)) = (0 : Int32))) u2 (u2 + dd)))])) (T13.setFrames fs) by
      by_cases hd5 : (u5 &&& (4 : Int32)) = (0 : Int32)
      · rw [show (osel (decide ((u5 &&& (4 : Int32)) = (0 : Int32))) u2 (u2 + dd)) = u2 from if_pos (decide_eq_true hd5)] at hshd5
        refine XS.ifYes X2.here hx rfl (pc0 := 62) (pc' := 72) rfl (hb hby at_62) rfl ((if0 _ _).trans (teq hd5).1) (by decide) (by decide) ?_
        show Steps p.tables e below (T2.setTop (mkF m 72 #[.val (.int u0), .val (.int u1), .val (.int u2), .val (.int u3), .val (.int u4), .val (.int u5), .val (.int dd), .val (.ref b1), .val (.int v0), .val (.int v1), .unset, .unset, .unset, .unset, .unset, .unset] [])) _
        refine XS.iloadN X2.here hx rfl (hb hby at_72) rfl ?_
        exact hshd5
      · rw [show (osel (decide ((u5 &&& (4 : Int32)) = (0 : Int32))) u2 (u2 + dd)) = (u2 + dd) from if_neg (fun hh => absurd (of_decide_eq_true hh) hd5)] at hshd5
        refine XS.ifNo X2.here hx rfl (hb hby at_62) rfl ((if0 _ _).trans (feq hd5).1) ?_
        show Steps p.tables e below (T2.setTop (mkF m 65 #[.val (.int u0), .val (.int u1), .val (.int u2), .val (.int u3), .val (.int u4), .val (.int u5), .val (.int dd), .val (.ref b1), .val (.int v0), .val (.int v1), .unset, .unset, .unset, .unset, .unset, .unset] [])) _
        refine XS.iloadN X2.here hx rfl (hb hby at_65) rfl ?_
        show Steps p.tables e below (T2.setTop (mkF m 66 #[.val (.int u0), .val (.int u1), .val (.int u2), .val (.int u3), .val (.int u4), .val (.int u5), .val (.int dd), .val (.ref b1), .val (.int v0), .val (.int v1), .unset, .unset, .unset, .unset, .unset, .unset] [(.int u2)])) _
        refine XS.iload X2.here hx rfl (hb hby at_66) rfl ?_
        show Steps p.tables e below (T2.setTop (mkF m 68 #[.val (.int u0), .val (.int u1), .val (.int u2), .val (.int u3), .val (.int u4), .val (.int u5), .val (.int dd), .val (.ref b1), .val (.int v0), .val (.int v1), .unset, .unset, .unset, .unset, .unset, .unset] [(.int dd), (.int u2)])) _
        refine XS.iadd X2.here hx rfl (hb hby at_68) rfl ?_
        show Steps p.tables e below (T2.setTop (mkF m 69 #[.val (.int u0), .val (.int u1), .val (.int u2), .val (.int u3), .val (.int u4), .val (.int u5), .val (.int dd), .val (.ref b1), .val (.int v0), .val (.int v1), .unset, .unset, .unset, .unset, .unset, .unset] [(.int (u2 + dd))])) _
        refine XS.goto X2.here hx rfl (pc0 := 69) (pc' := 73) rfl (hb hby at_69) (by decide) (by decide) ?_
        exact hshd5
    show Steps p.tables e below (T2.setTop (mkF m 73 #[.val (.int u0), .val (.int u1), .val (.int u2), .val (.int u3), .val (.int u4), .val (.int u5), .val (.int dd), .val (.ref b1), .val (.int v0), .val (.int v1), .unset, .unset, .unset, .unset, .unset, .unset] [(.int (osel (decide ((u5 &&& (4 : Int32)) = (0 : Int32))) u2 (u2 + dd)))])) _
    rw [hv2]
    show Steps p.tables e below (T2.setTop (mkF m 73 #[.val (.int u0), .val (.int u1), .val (.int u2), .val (.int u3), .val (.int u4), .val (.int u5), .val (.int dd), .val (.ref b1), .val (.int v0), .val (.int v1), .unset, .unset, .unset, .unset, .unset, .unset] [(.int v2)])) _
    refine XS.istore X2.here hx rfl (hb hby at_73) rfl (l' := #[.val (.int u0), .val (.int u1), .val (.int u2), .val (.int u3), .val (.int u4), .val (.int u5), .val (.int dd), .val (.ref b1), .val (.int v0), .val (.int v1), .val (.int v2), .unset, .unset, .unset, .unset, .unset]) rfl ?_
    refine XS.iload X2.here hx rfl (hb hby at_75) rfl ?_
    refine XS.bipush X2.here hx rfl (hb hby at_77) ?_
    show Steps p.tables e below (T2.setTop (mkF m 79 #[.val (.int u0), .val (.int u1), .val (.int u2), .val (.int u3), .val (.int u4), .val (.int u5), .val (.int dd), .val (.ref b1), .val (.int v0), .val (.int v1), .val (.int v2), .unset, .unset, .unset, .unset, .unset] [(.int (8 : Int32)), (.int u5)])) _
    refine XS.iand X2.here hx rfl (hb hby at_79) rfl ?_
    show Steps p.tables e below (T2.setTop (mkF m 80 #[.val (.int u0), .val (.int u1), .val (.int u2), .val (.int u3), .val (.int u4), .val (.int u5), .val (.int dd), .val (.ref b1), .val (.int v0), .val (.int v1), .val (.int v2), .unset, .unset, .unset, .unset, .unset] [(.int (u5 &&& (8 : Int32)))])) _
    suffices hshd6 : Steps p.tables e below (T2.setTop (mkF m 91 #[.val (.int u0), .val (.int u1), .val (.int u2), .val (.int u3), .val (.int u4), .val (.int u5), .val (.int dd), .val (.ref b1), .val (.int v0), .val (.int v1), .val (.int v2), .unset, .unset, .unset, .unset, .unset] [(.int (osel (decide ((u5 &&& (8 : Int32)) = (0 : Int32))) u3 (u3 + dd)))])) (T13.setFrames fs) by
      by_cases hd6 : (u5 &&& (8 : Int32)) = (0 : Int32)
      · rw [show (osel (decide ((u5 &&& (8 : Int32)) = (0 : Int32))) u3 (u3 + dd)) = u3 from if_pos (decide_eq_true hd6)] at hshd6
        refine XS.ifYes X2.here hx rfl (pc0 := 80) (pc' := 90) rfl (hb hby at_80) rfl ((if0 _ _).trans (teq hd6).1) (by decide) (by decide) ?_
        show Steps p.tables e below (T2.setTop (mkF m 90 #[.val (.int u0), .val (.int u1), .val (.int u2), .val (.int u3), .val (.int u4), .val (.int u5), .val (.int dd), .val (.ref b1), .val (.int v0), .val (.int v1), .val (.int v2), .unset, .unset, .unset, .unset, .unset] [])) _
        refine XS.iloadN X2.here hx rfl (hb hby at_90) rfl ?_
        exact hshd6
      · rw [show (osel (decide ((u5 &&& (8 : Int32)) = (0 : Int32))) u3 (u3 + dd)) = (u3 + dd) from if_neg (fun hh => absurd (of_decide_eq_true hh) hd6)] at hshd6
        refine XS.ifNo X2.here hx rfl (hb hby at_80) rfl ((if0 _ _).trans (feq hd6).1) ?_
        show Steps p.tables e below (T2.setTop (mkF m 83 #[.val (.int u0), .val (.int u1), .val (.int u2), .val (.int u3), .val (.int u4), .val (.int u5), .val (.int dd), .val (.ref b1), .val (.int v0), .val (.int v1), .val (.int v2), .unset, .unset, .unset, .unset, .unset] [])) _
        refine XS.iloadN X2.here hx rfl (hb hby at_83) rfl ?_
        show Steps p.tables e below (T2.setTop (mkF m 84 #[.val (.int u0), .val (.int u1), .val (.int u2), .val (.int u3), .val (.int u4), .val (.int u5), .val (.int dd), .val (.ref b1), .val (.int v0), .val (.int v1), .val (.int v2), .unset, .unset, .unset, .unset, .unset] [(.int u3)])) _
        refine XS.iload X2.here hx rfl (hb hby at_84) rfl ?_
        show Steps p.tables e below (T2.setTop (mkF m 86 #[.val (.int u0), .val (.int u1), .val (.int u2), .val (.int u3), .val (.int u4), .val (.int u5), .val (.int dd), .val (.ref b1), .val (.int v0), .val (.int v1), .val (.int v2), .unset, .unset, .unset, .unset, .unset] [(.int dd), (.int u3)])) _
        refine XS.iadd X2.here hx rfl (hb hby at_86) rfl ?_
        show Steps p.tables e below (T2.setTop (mkF m 87 #[.val (.int u0), .val (.int u1), .val (.int u2), .val (.int u3), .val (.int u4), .val (.int u5), .val (.int dd), .val (.ref b1), .val (.int v0), .val (.int v1), .val (.int v2), .unset, .unset, .unset, .unset, .unset] [(.int (u3 + dd))])) _
        refine XS.goto X2.here hx rfl (pc0 := 87) (pc' := 91) rfl (hb hby at_87) (by decide) (by decide) ?_
        exact hshd6
    show Steps p.tables e below (T2.setTop (mkF m 91 #[.val (.int u0), .val (.int u1), .val (.int u2), .val (.int u3), .val (.int u4), .val (.int u5), .val (.int dd), .val (.ref b1), .val (.int v0), .val (.int v1), .val (.int v2), .unset, .unset, .unset, .unset, .unset] [(.int (osel (decide ((u5 &&& (8 : Int32)) = (0 : Int32))) u3 (u3 + dd)))])) _
    rw [hv3]
    show Steps p.tables e below (T2.setTop (mkF m 91 #[.val (.int u0), .val (.int u1), .val (.int u2), .val (.int u3), .val (.int u4), .val (.int u5), .val (.int dd), .val (.ref b1), .val (.int v0), .val (.int v1), .val (.int v2), .unset, .unset, .unset, .unset, .unset] [(.int v3)])) _
    refine XS.istore X2.here hx rfl (hb hby at_91) rfl (l' := #[.val (.int u0), .val (.int u1), .val (.int u2), .val (.int u3), .val (.int u4), .val (.int u5), .val (.int dd), .val (.ref b1), .val (.int v0), .val (.int v1), .val (.int v2), .val (.int v3), .unset, .unset, .unset, .unset]) rfl ?_
    refine XS.iload X2.here hx rfl (hb hby at_93) rfl ?_
    refine XS.bipush X2.here hx rfl (hb hby at_95) ?_
    show Steps p.tables e below (T2.setTop (mkF m 97 #[.val (.int u0), .val (.int u1), .val (.int u2), .val (.int u3), .val (.int u4), .val (.int u5), .val (.int dd), .val (.ref b1), .val (.int v0), .val (.int v1), .val (.int v2), .val (.int v3), .unset, .unset, .unset, .unset] [(.int (16 : Int32)), (.int u5)])) _
    refine XS.iand X2.here hx rfl (hb hby at_97) rfl ?_
    show Steps p.tables e below (T2.setTop (mkF m 98 #[.val (.int u0), .val (.int u1), .val (.int u2), .val (.int u3), .val (.int u4), .val (.int u5), .val (.int dd), .val (.ref b1), .val (.int v0), .val (.int v1), .val (.int v2), .val (.int v3), .unset, .unset, .unset, .unset] [(.int (u5 &&& (16 : Int32)))])) _
    suffices hshd7 : Steps p.tables e below (T2.setTop (mkF m 111 #[.val (.int u0), .val (.int u1), .val (.int u2), .val (.int u3), .val (.int u4), .val (.int u5), .val (.int dd), .val (.ref b1), .val (.int v0), .val (.int v1), .val (.int v2), .val (.int v3), .unset, .unset, .unset, .unset] [(.int (osel (decide ((u5 &&& (16 : Int32)) = (0 : Int32))) u4 (u4 + dd)))])) (T13.setFrames fs) by
      by_cases hd7 : (u5 &&& (16 : Int32)) = (0 : Int32)
      · rw [show (osel (decide ((u5 &&& (16 : Int32)) = (0 : Int32))) u4 (u4 + dd)) = u4 from if_pos (decide_eq_true hd7)] at hshd7
        refine XS.ifYes X2.here hx rfl (pc0 := 98) (pc' := 109) rfl (hb hby at_98) rfl ((if0 _ _).trans (teq hd7).1) (by decide) (by decide) ?_
        show Steps p.tables e below (T2.setTop (mkF m 109 #[.val (.int u0), .val (.int u1), .val (.int u2), .val (.int u3), .val (.int u4), .val (.int u5), .val (.int dd), .val (.ref b1), .val (.int v0), .val (.int v1), .val (.int v2), .val (.int v3), .unset, .unset, .unset, .unset] [])) _
        refine XS.iload X2.here hx rfl (hb hby at_109) rfl ?_
        exact hshd7
      · rw [show (osel (decide ((u5 &&& (16 : Int32)) = (0 : Int32))) u4 (u4 + dd)) = (u4 + dd) from if_neg (fun hh => absurd (of_decide_eq_true hh) hd7)] at hshd7
        refine XS.ifNo X2.here hx rfl (hb hby at_98) rfl ((if0 _ _).trans (feq hd7).1) ?_
        show Steps p.tables e below (T2.setTop (mkF m 101 #[.val (.int u0), .val (.int u1), .val (.int u2), .val (.int u3), .val (.int u4), .val (.int u5), .val (.int dd), .val (.ref b1), .val (.int v0), .val (.int v1), .val (.int v2), .val (.int v3), .unset, .unset, .unset, .unset] [])) _
        refine XS.iload X2.here hx rfl (hb hby at_101) rfl ?_
        show Steps p.tables e below (T2.setTop (mkF m 103 #[.val (.int u0), .val (.int u1), .val (.int u2), .val (.int u3), .val (.int u4), .val (.int u5), .val (.int dd), .val (.ref b1), .val (.int v0), .val (.int v1), .val (.int v2), .val (.int v3), .unset, .unset, .unset, .unset] [(.int u4)])) _
        refine XS.iload X2.here hx rfl (hb hby at_103) rfl ?_
        show Steps p.tables e below (T2.setTop (mkF m 105 #[.val (.int u0), .val (.int u1), .val (.int u2), .val (.int u3), .val (.int u4), .val (.int u5), .val (.int dd), .val (.ref b1), .val (.int v0), .val (.int v1), .val (.int v2), .val (.int v3), .unset, .unset, .unset, .unset] [(.int dd), (.int u4)])) _
        refine XS.iadd X2.here hx rfl (hb hby at_105) rfl ?_
        show Steps p.tables e below (T2.setTop (mkF m 106 #[.val (.int u0), .val (.int u1), .val (.int u2), .val (.int u3), .val (.int u4), .val (.int u5), .val (.int dd), .val (.ref b1), .val (.int v0), .val (.int v1), .val (.int v2), .val (.int v3), .unset, .unset, .unset, .unset] [(.int (u4 + dd))])) _
        refine XS.goto X2.here hx rfl (pc0 := 106) (pc' := 111) rfl (hb hby at_106) (by decide) (by decide) ?_
        exact hshd7
    show Steps p.tables e below (T2.setTop (mkF m 111 #[.val (.int u0), .val (.int u1), .val (.int u2), .val (.int u3), .val (.int u4), .val (.int u5), .val (.int dd), .val (.ref b1), .val (.int v0), .val (.int v1), .val (.int v2), .val (.int v3), .unset, .unset, .unset, .unset] [(.int (osel (decide ((u5 &&& (16 : Int32)) = (0 : Int32))) u4 (u4 + dd)))])) _
    rw [hv4]
    show Steps p.tables e below (T2.setTop (mkF m 111 #[.val (.int u0), .val (.int u1), .val (.int u2), .val (.int u3), .val (.int u4), .val (.int u5), .val (.int dd), .val (.ref b1), .val (.int v0), .val (.int v1), .val (.int v2), .val (.int v3), .unset, .unset, .unset, .unset] [(.int v4)])) _
    refine XS.istore X2.here hx rfl (hb hby at_111) rfl (l' := #[.val (.int u0), .val (.int u1), .val (.int u2), .val (.int u3), .val (.int u4), .val (.int u5), .val (.int dd), .val (.ref b1), .val (.int v0), .val (.int v1), .val (.int v2), .val (.int v3), .val (.int v4), .unset, .unset, .unset]) rfl ?_
    refine st8 _ ?_
    refine XS.dup X8.here hx rfl (hb hby at_116) rfl rfl ?_
    show Steps p.tables e below (T8.setTop (mkF m 117 #[.val (.int u0), .val (.int u1), .val (.int u2), .val (.int u3), .val (.int u4), .val (.int u5), .val (.int dd), .val (.ref b1), .val (.int v0), .val (.int v1), .val (.int v2), .val (.int v3), .val (.int v4), .unset, .unset, .unset] [(.ref b2), (.ref b2)])) _
    refine XS.iload X8.here hx rfl (hb hby at_117) rfl ?_
    refine XS.iload X8.here hx rfl (hb hby at_119) rfl ?_
    refine XS.iload X8.here hx rfl (hb hby at_121) rfl ?_
    show Steps p.tables e below (T8.setTop (mkF m 123 #[.val (.int u0), .val (.int u1), .val (.int u2), .val (.int u3), .val (.int u4), .val (.int u5), .val (.int dd), .val (.ref b1), .val (.int v0), .val (.int v1), .val (.int v2), .val (.int v3), .val (.int v4), .unset, .unset, .unset] [(.int v2), (.int v1), (.int v0), (.ref b2), (.ref b2)])) _
    refine XS.iload X8.here hx rfl (hb hby at_123) rfl ?_
    refine XS.iload X8.here hx rfl (hb hby at_125) rfl ?_
    refine st9.trans ?_
    show Steps p.tables e below (T9.setTop (mkF m 130 #[.val (.int u0), .val (.int u1), .val (.int u2), .val (.int u3), .val (.int u4), .val (.int u5), .val (.int dd), .val (.ref b1), .val (.int v0), .val (.int v1), .val (.int v2), .val (.int v3), .val (.int v4), .unset, .unset, .unset] [(.ref b2)])) _
    refine XS.astore X9.here hx rfl (hb hby at_130) rfl rfl (l' := #[.val (.int u0), .val (.int u1), .val (.int u2), .val (.int u3), .val (.int u4), .val (.int u5), .val (.int dd), .val (.ref b1), .val (.int v0), .val (.int v1), .val (.int v2), .val (.int v3), .val (.int v4), .val (.ref b2), .unset, .unset]) rfl ?_
    refine XS.iload X9.here hx rfl (hb hby at_132) rfl ?_
    refine XS.bipush X9.here hx rfl (hb hby at_134) ?_
    show Steps p.tables e below (T9.setTop (mkF m 136 #[.val (.int u0), .val (.int u1), .val (.int u2), .val (.int u3), .val (.int u4), .val (.int u5), .val (.int dd), .val (.ref b1), .val (.int v0), .val (.int v1), .val (.int v2), .val (.int v3), .val (.int v4), .val (.ref b2), .unset, .unset] [(.int (31 : Int32)), (.int u5)])) _
    refine XS.iand X9.here hx rfl (hb hby at_136) rfl ?_
    show Steps p.tables e below (T9.setTop (mkF m 137 #[.val (.int u0), .val (.int u1), .val (.int u2), .val (.int u3), .val (.int u4), .val (.int u5), .val (.int dd), .val (.ref b1), .val (.int v0), .val (.int v1), .val (.int v2), .val (.int v3), .val (.int v4), .val (.ref b2), .unset, .unset] [(.int (u5 &&& (31 : Int32)))])) _
    suffices hshd10 : Steps p.tables e below (T9.setTop (mkF m 145 #[.val (.int u0), .val (.int u1), .val (.int u2), .val (.int u3), .val (.int u4), .val (.int u5), .val (.int dd), .val (.ref b1), .val (.int v0), .val (.int v1), .val (.int v2), .val (.int v3), .val (.int v4), .val (.ref b2), .unset, .unset] [(.int (osel (decide ((u5 &&& (31 : Int32)) = (0 : Int32))) (1 : Int32) (0 : Int32)))])) (T13.setFrames fs) by
      by_cases hd10 : (u5 &&& (31 : Int32)) = (0 : Int32)
      · rw [show (osel (decide ((u5 &&& (31 : Int32)) = (0 : Int32))) (1 : Int32) (0 : Int32)) = (1 : Int32) from if_pos (decide_eq_true hd10)] at hshd10
        refine XS.ifNo X9.here hx rfl (hb hby at_137) rfl ((if0 _ _).trans (teq hd10).2) ?_
        show Steps p.tables e below (T9.setTop (mkF m 140 #[.val (.int u0), .val (.int u1), .val (.int u2), .val (.int u3), .val (.int u4), .val (.int u5), .val (.int dd), .val (.ref b1), .val (.int v0), .val (.int v1), .val (.int v2), .val (.int v3), .val (.int v4), .val (.ref b2), .unset, .unset] [])) _
        refine XS.iconst X9.here hx rfl (hb hby at_140) ?_
        show Steps p.tables e below (T9.setTop (mkF m 141 #[.val (.int u0), .val (.int u1), .val (.int u2), .val (.int u3), .val (.int u4), .val (.int u5), .val (.int dd), .val (.ref b1), .val (.int v0), .val (.int v1), .val (.int v2), .val (.int v3), .val (.int v4), .val (.ref b2), .unset, .unset] [(.int (1 : Int32))])) _
        refine XS.goto X9.here hx rfl (pc0 := 141) (pc' := 145) rfl (hb hby at_141) (by decide) (by decide) ?_
        exact hshd10
      · rw [show (osel (decide ((u5 &&& (31 : Int32)) = (0 : Int32))) (1 : Int32) (0 : Int32)) = (0 : Int32) from if_neg (fun hh => absurd (of_decide_eq_true hh) hd10)] at hshd10
        refine XS.ifYes X9.here hx rfl (pc0 := 137) (pc' := 144) rfl (hb hby at_137) rfl ((if0 _ _).trans (feq hd10).2) (by decide) (by decide) ?_
        show Steps p.tables e below (T9.setTop (mkF m 144 #[.val (.int u0), .val (.int u1), .val (.int u2), .val (.int u3), .val (.int u4), .val (.int u5), .val (.int dd), .val (.ref b1), .val (.int v0), .val (.int v1), .val (.int v2), .val (.int v3), .val (.int v4), .val (.ref b2), .unset, .unset] [])) _
        refine XS.iconst X9.here hx rfl (hb hby at_144) ?_
        exact hshd10
    show Steps p.tables e below (T9.setTop (mkF m 145 #[.val (.int u0), .val (.int u1), .val (.int u2), .val (.int u3), .val (.int u4), .val (.int u5), .val (.int dd), .val (.ref b1), .val (.int v0), .val (.int v1), .val (.int v2), .val (.int v3), .val (.int v4), .val (.ref b2), .unset, .unset] [(.int (osel (decide ((u5 &&& (31 : Int32)) = (0 : Int32))) (1 : Int32) (0 : Int32)))])) _
    rw [hsm]
    show Steps p.tables e below (T9.setTop (mkF m 145 #[.val (.int u0), .val (.int u1), .val (.int u2), .val (.int u3), .val (.int u4), .val (.int u5), .val (.int dd), .val (.ref b1), .val (.int v0), .val (.int v1), .val (.int v2), .val (.int v3), .val (.int v4), .val (.ref b2), .unset, .unset] [(.int sm)])) _
    refine XS.istore X9.here hx rfl (hb hby at_145) rfl (l' := #[.val (.int u0), .val (.int u1), .val (.int u2), .val (.int u3), .val (.int u4), .val (.int u5), .val (.int dd), .val (.ref b1), .val (.int v0), .val (.int v1), .val (.int v2), .val (.int v3), .val (.int v4), .val (.ref b2), .val (.int sm), .unset]) rfl ?_
    refine XS.iload X9.here hx rfl (hb hby at_147) rfl ?_
    refine XS.iconst X9.here hx rfl (hb hby at_149) ?_
    show Steps p.tables e below (T9.setTop (mkF m 150 #[.val (.int u0), .val (.int u1), .val (.int u2), .val (.int u3), .val (.int u4), .val (.int u5), .val (.int dd), .val (.ref b1), .val (.int v0), .val (.int v1), .val (.int v2), .val (.int v3), .val (.int v4), .val (.ref b2), .val (.int sm), .unset] [(.int (5 : Int32)), (.int u5)])) _
    refine XS.ishr X9.here hx rfl (hb hby at_150) rfl ?_
    refine XS.iconst X9.here hx rfl (hb hby at_151) ?_
    refine XS.iand X9.here hx rfl (hb hby at_152) rfl ?_
    show Steps p.tables e below (T9.setTop (mkF m 153 #[.val (.int u0), .val (.int u1), .val (.int u2), .val (.int u3), .val (.int u4), .val (.int u5), .val (.int dd), .val (.ref b1), .val (.int v0), .val (.int v1), .val (.int v2), .val (.int v3), .val (.int v4), .val (.ref b2), .val (.int sm), .unset] [(.int ((u5 >>> ((5 : Int32) &&& 31)) &&& (3 : Int32)))])) _
    refine XS.istore X9.here hx rfl (hb hby at_153) rfl (l' := #[.val (.int u0), .val (.int u1), .val (.int u2), .val (.int u3), .val (.int u4), .val (.int u5), .val (.int dd), .val (.ref b1), .val (.int v0), .val (.int v1), .val (.int v2), .val (.int v3), .val (.int v4), .val (.ref b2), .val (.int sm), .val (.int ((u5 >>> ((5 : Int32) &&& 31)) &&& (3 : Int32)))]) rfl ?_
    refine XS.iload X9.here hx rfl (hb hby at_155) rfl ?_
    refine XS.iconst X9.here hx rfl (hb hby at_157) ?_
    show Steps p.tables e below (T9.setTop (mkF m 158 #[.val (.int u0), .val (.int u1), .val (.int u2), .val (.int u3), .val (.int u4), .val (.int u5), .val (.int dd), .val (.ref b1), .val (.int v0), .val (.int v1), .val (.int v2), .val (.int v3), .val (.int v4), .val (.ref b2), .val (.int sm), .val (.int ((u5 >>> ((5 : Int32) &&& 31)) &&& (3 : Int32)))] [(.int (1 : Int32)), (.int ((u5 >>> ((5 : Int32) &&& 31)) &&& (3 : Int32)))])) _
    refine XS.icmpYes X9.here hx rfl (pc0 := 158) (pc' := 186) rfl (hb hby at_158) rfl (feq hf1).2 (by decide) (by decide) ?_
    refine XS.iload X9.here hx rfl (hb hby at_186) rfl ?_
    refine XS.iconst X9.here hx rfl (hb hby at_188) ?_
    show Steps p.tables e below (T9.setTop (mkF m 189 #[.val (.int u0), .val (.int u1), .val (.int u2), .val (.int u3), .val (.int u4), .val (.int u5), .val (.int dd), .val (.ref b1), .val (.int v0), .val (.int v1), .val (.int v2), .val (.int v3), .val (.int v4), .val (.ref b2), .val (.int sm), .val (.int ((u5 >>> ((5 : Int32) &&& 31)) &&& (3 : Int32)))] [(.int (2 : Int32)), (.int ((u5 >>> ((5 : Int32) &&& 31)) &&& (3 : Int32)))])) _
    refine XS.icmpYes X9.here hx rfl (pc0 := 189) (pc' := 220) rfl (hb hby at_189) rfl (feq hf2).2 (by decide) (by decide) ?_
    refine XS.aload X9.here hx rfl (hb hby at_220) rfl rfl ?_
    refine XS.aload X9.here hx rfl (hb hby at_222) rfl rfl ?_
    show Steps p.tables e below (T9.setTop (mkF m 224 #[.val (.int u0), .val (.int u1), .val (.int u2), .val (.int u3), .val (.int u4), .val (.int u5), .val (.int dd), .val (.ref b1), .val (.int v0), .val (.int v1), .val (.int v2), .val (.int v3), .val (.int v4), .val (.ref b2), .val (.int sm), .val (.int ((u5 >>> ((5 : Int32) &&& 31)) &&& (3 : Int32)))] [(.ref b2), (.ref b1)])) _
    refine st11.trans ?_
    refine XS.iload X11.here hx rfl (hb hby at_227) rfl ?_
    refine XS.icmpNo X11.here hx rfl (hb hby at_229) rfl (teq hf13).2 ?_
    show Steps p.tables e below (T11.setTop (mkF m 232 #[.val (.int u0), .val (.int u1), .val (.int u2), .val (.int u3), .val (.int u4), .val (.int u5), .val (.int dd), .val (.ref b1), .val (.int v0), .val (.int v1), .val (.int v2), .val (.int v3), .val (.int v4), .val (.ref b2), .val (.int sm), .val (.int ((u5 >>> ((5 : Int32) &&& 31)) &&& (3 : Int32)))] [])) _
    refine XS.aload X11.here hx rfl (hb hby at_232) rfl rfl ?_
    refine XS.aload X11.here hx rfl (hb hby at_234) rfl rfl ?_
    refine st12.trans ?_
    show Steps p.tables e below (T12.setTop (mkF m 239 #[.val (.int u0), .val (.int u1), .val (.int u2), .val (.int u3), .val (.int u4), .val (.int u5), .val (.int dd), .val (.ref b1), .val (.int v0), .val (.int v1), .val (.int v2), .val (.int v3), .val (.int v4), .val (.ref b2), .val (.int sm), .val (.int ((u5 >>> ((5 : Int32) &&& 31)) &&& (3 : Int32)))] [(.int (0 : Int32))])) _
    refine XS.iload X12.here hx rfl (hb hby at_239) rfl ?_
    refine XS.icmpNo X12.here hx rfl (hb hby at_241) rfl (teq hf13).2 ?_
    refine XS.aload X12.here hx rfl (hb hby at_244) rfl rfl ?_
    show Steps p.tables e below (T12.setTop (mkF m 246 #[.val (.int u0), .val (.int u1), .val (.int u2), .val (.int u3), .val (.int u4), .val (.int u5), .val (.int dd), .val (.ref b1), .val (.int v0), .val (.int v1), .val (.int v2), .val (.int v3), .val (.int v4), .val (.ref b2), .val (.int sm), .val (.int ((u5 >>> ((5 : Int32) &&& 31)) &&& (3 : Int32)))] [(.ref b1)])) _
    refine XS.aload X12.here hx rfl (hb hby at_246) rfl rfl ?_
    refine st13.trans ?_
    refine XS.ifNo X13.here hx rfl (hb hby at_251) rfl ((if0 _ _).trans (feq (by decide : ¬ ((1 : Int32) = (0 : Int32)))).1) ?_
    show Steps p.tables e below (T13.setTop (mkF m 254 #[.val (.int u0), .val (.int u1), .val (.int u2), .val (.int u3), .val (.int u4), .val (.int u5), .val (.int dd), .val (.ref b1), .val (.int v0), .val (.int v1), .val (.int v2), .val (.int v3), .val (.int v4), .val (.ref b2), .val (.int sm), .val (.int ((u5 >>> ((5 : Int32) &&& 31)) &&& (3 : Int32)))] [])) _
    refine XS.iconst X13.here hx rfl (hb hby at_254) ?_
    refine XS.goto X13.here hx rfl (pc0 := 255) (pc' := 259) rfl (hb hby at_255) (by decide) (by decide) ?_
    show Steps p.tables e below (T13.setTop (mkF m 259 #[.val (.int u0), .val (.int u1), .val (.int u2), .val (.int u3), .val (.int u4), .val (.int u5), .val (.int dd), .val (.ref b1), .val (.int v0), .val (.int v1), .val (.int v2), .val (.int v3), .val (.int v4), .val (.ref b2), .val (.int sm), .val (.int ((u5 >>> ((5 : Int32) &&& 31)) &&& (3 : Int32)))] [(.int (1 : Int32))])) _
    exact retN X13 hx (t := .boolean) Bd.returns (by simp) (hb hby at_259) hr
  · exact ⟨rfl, N13⟩
set_option maxRecDepth 65536 in
set_option maxHeartbeats 40000000 in
theorem rm_equals_29 (l : Launch) (Z : State) (a0 : Array Value) (hw : ∀ d ∈ tables_1, d.before a0 Z = true) (w : Nat → Addr) (κ : Nat → ClassId) (h0 : Heap) (n0 : Nat) (Z0 : n0 ≤ h0.size) (K : Kon Z h0 w κ) (u0 u1 u2 u3 u4 u5 dd v0 v1 v2 v3 v4 sm : Int32) (b1 : Addr) (b2 : Addr) (hf5 : u0 = v0) (hf6 : ¬ (u1 = v1)) (fF_b1_com_example_bot_workflow_runner_botworkflowrunner_model_Progress_total : Fld Z h0 b1 "com/example/bot_workflow_runner/botworkflowrunner/model/Progress" "total" "I" (.int u0)) (fF_b1_com_example_bot_workflow_runner_botworkflowrunner_model_Progress_completed : Fld Z h0 b1 "com/example/bot_workflow_runner/botworkflowrunner/model/Progress" "completed" "I" (.int u1)) (fE_b2 : Exa Z h0 b2 "com/example/bot_workflow_runner/botworkflowrunner/model/Progress") (fF_b2_com_example_bot_workflow_runner_botworkflowrunner_model_Progress_total : Fld Z h0 b2 "com/example/bot_workflow_runner/botworkflowrunner/model/Progress" "total" "I" (.int v0)) (fF_b2_com_example_bot_workflow_runner_botworkflowrunner_model_Progress_completed : Fld Z h0 b2 "com/example/bot_workflow_runner/botworkflowrunner/model/Progress" "completed" "I" (.int v1)) :
    OM l Z (⟨"com/example/bot_workflow_runner/botworkflowrunner/model/Progress", "equals", "(Ljava/lang/Object;)Z"⟩ : MethodName) prog_31_method_10_code 3 (some .boolean) [] ({ frames := 0, cells := 0, slots := 0, locals := 0 } : Room) #[(.ref b1), (.ref b2)] h0 (OP (some (.int (0 : Int32))) n0 h0) := by
  refine MetFree.of_bodySF (plainFor_of_name pn_com_example_bot_workflow_runner_botworkflowrunner_model_Progress) hisR ?_
  intro p e s m args below meth c s₁ Bd hml0 hP hK
  obtain ⟨rfl, hZ, hh⟩ := hP
  have hx := Bd.exec
  have hby := Bd.bytes
  have hml : c.maxLocals = 3 := hml0
  have hown : s.vm.findClass "com/example/bot_workflow_runner/botworkflowrunner/model/Progress" = some m.cls := findClass_of_methodNamed Bd.named
  have hnm := (name_of_methodNamed Bd.named Bd.method).1
  have X0 : Stand p l e ({ frames := 0, cells := 0, slots := 0, locals := 0 } : Room) s m #[(.ref b1), (.ref b2)] below meth c s₁ [] 0 0 := Stand.of_body Bd
  have e0 : s₁.heap = h0 := by rw [← hh, Bd.state]; rfl
  have N0 := Fr.nil n0
  have pre0 : ∀ t, Steps p.tables e below (s₁.setTop (mkF m 0 #[.val (.ref b1), .val (.ref b2), .unset] [])) t → Steps p.tables e below (s₁.setTop (entryFrame m #[(.ref b1), (.ref b2)] 3)) t := fun t k => castTop (ef_prog_31_method_10_code_RR m b1 b2) k
  obtain ⟨T1, X1, e1, st1⟩ := instY X0 hx hZ hown (hw _ (List.mem_of_getElem? (i := 24) rfl)) e0 (Ins.self fE_b2) (g := (mkF m 1 #[.val (.ref b1), .val (.ref b2), .unset] [(.ref b2)])) rfl rfl (hb hby d_prog_31_method_10_code_1)
  obtain ⟨T2, X2, e2, st2⟩ := castY X1 hx hZ hown (hw _ (List.mem_of_getElem? (i := 24) rfl)) e1 (Ins.self fE_b2) (g := (mkF m 10 #[.val (.ref b1), .val (.ref b2), .unset] [(.ref b2)])) rfl rfl (hb hby d_prog_31_method_10_code_10)
  obtain ⟨T3, X3, e3, st3⟩ := getF X2 hx hZ hown (host := "") (Or.inl (hw _ (List.mem_of_getElem? (i := 9) rfl))) Via.refl e2 fF_b1_com_example_bot_workflow_runner_botworkflowrunner_model_Progress_total (g := (mkF m 15 #[.val (.ref b1), .val (.ref b2), .val (.ref b2)] [(.ref b1)])) rfl rfl (hb hby d_prog_31_method_10_code_15)
  obtain ⟨T4, X4, e4, st4⟩ := getF X3 hx hZ hown (host := "") (Or.inl (hw _ (List.mem_of_getElem? (i := 9) rfl))) Via.refl e3 fF_b2_com_example_bot_workflow_runner_botworkflowrunner_model_Progress_total (g := (mkF m 19 #[.val (.ref b1), .val (.ref b2), .val (.ref b2)] [(.ref b2), (.int u0)])) rfl rfl (hb hby d_prog_31_method_10_code_19)
  obtain ⟨T5, X5, e5, st5⟩ := getF X4 hx hZ hown (host := "") (Or.inl (hw _ (List.mem_of_getElem? (i := 11) rfl))) Via.refl e4 fF_b1_com_example_bot_workflow_runner_botworkflowrunner_model_Progress_completed (g := (mkF m 26 #[.val (.ref b1), .val (.ref b2), .val (.ref b2)] [(.ref b1)])) rfl rfl (hb hby d_prog_31_method_10_code_26)
  obtain ⟨T6, X6, e6, st6⟩ := getF X5 hx hZ hown (host := "") (Or.inl (hw _ (List.mem_of_getElem? (i := 11) rfl))) Via.refl e5 fF_b2_com_example_bot_workflow_runner_botworkflowrunner_model_Progress_completed (g := (mkF m 30 #[.val (.ref b1), .val (.ref b2), .val (.ref b2)] [(.ref b2), (.int u1)])) rfl rfl (hb hby d_prog_31_method_10_code_30)
  obtain ⟨fs, hr, hrun, hended, hW, hsame⟩ := X6.leave (v := (some (.int (0 : Int32)))) (fun h => by rw [Bd.returns] at h; cases h)
  refine ⟨_, _, pre0 _ ?_, hrun, hended, _, _, rfl, ?_, ⟨_, rfl⟩, hW, hsame.mono (by decide) (by decide)⟩
  · show Steps p.tables e below (s₁.setTop (mkF m 0 #[.val (.ref b1), .val (.ref b2), .unset] [])) _
    refine XS.aloadN X0.here hx rfl (hb hby d_prog_31_method_10_code_0) rfl rfl ?_
    refine st1 _ ?_
    refine XS.ifYes X1.here hx rfl (pc0 := 4) (pc' := 9) rfl (hb hby d_prog_31_method_10_code_4) rfl ((if0 _ _).trans (feq (by decide : ¬ ((1 : Int32) = (0 : Int32)))).2) (by decide) (by decide) ?_
    show Steps p.tables e below (T1.setTop (mkF m 9 #[.val (.ref b1), .val (.ref b2), .unset] [])) _
    refine XS.aloadN X1.here hx rfl (hb hby d_prog_31_method_10_code_9) rfl rfl ?_
    refine st2 _ ?_
    refine XS.astoreN X2.here hx rfl (hb hby d_prog_31_method_10_code_13) rfl rfl (l' := #[.val (.ref b1), .val (.ref b2), .val (.ref b2)]) rfl ?_
    show Steps p.tables e below (T2.setTop (mkF m 14 #[.val (.ref b1), .val (.ref b2), .val (.ref b2)] [])) _
    refine XS.aloadN X2.here hx rfl (hb hby d_prog_31_method_10_code_14) rfl rfl ?_
    refine st3 _ ?_
    refine XS.aloadN X3.here hx rfl (hb hby d_prog_31_method_10_code_18) rfl rfl ?_
    show Steps p.tables e below (T3.setTop (mkF m 19 #[.val (.ref b1), .val (.ref b2), .val (.ref b2)] [(.ref b2), (.int u0)])) _
    refine st4 _ ?_
    refine XS.icmpNo X4.here hx rfl (hb hby d_prog_31_method_10_code_22) rfl (teq hf5).2 ?_
    refine XS.aloadN X4.here hx rfl (hb hby d_prog_31_method_10_code_25) rfl rfl ?_
    show Steps p.tables e below (T4.setTop (mkF m 26 #[.val (.ref b1), .val (.ref b2), .val (.ref b2)] [(.ref b1)])) _
    refine st5 _ ?_
    refine XS.aloadN X5.here hx rfl (hb hby d_prog_31_method_10_code_29) rfl rfl ?_
    refine st6 _ ?_
    show Steps p.tables e below (T6.setTop (mkF m 33 #[.val (.ref b1), .val (.ref b2), .val (.ref b2)] [(.int v1), (.int u1)])) _
    refine XS.icmpYes X6.here hx rfl (pc0 := 33) (pc' := 73) rfl (hb hby d_prog_31_method_10_code_33) rfl (feq hf6).2 (by decide) (by decide) ?_
    refine XS.iconst X6.here hx rfl (hb hby d_prog_31_method_10_code_73) ?_
    show Steps p.tables e below (T6.setTop (mkF m 74 #[.val (.ref b1), .val (.ref b2), .val (.ref b2)] [(.int (0 : Int32))])) _
    exact retN X6 hx (t := .boolean) Bd.returns (by simp) (hb hby d_prog_31_method_10_code_74) hr
  · exact ⟨rfl, N0, e6⟩
set_option maxRecDepth 65536 in
set_option maxHeartbeats 40000000 in
theorem rm_equals_30 (l : Launch) (Z : State) (a0 : Array Value) (hw : ∀ d ∈ tables_1, d.before a0 Z = true) (w : Nat → Addr) (κ : Nat → ClassId) (h0 : Heap) (n0 : Nat) (Z0 : n0 ≤ h0.size) (K : Kon Z h0 w κ) (u0 u1 u2 u3 u4 u5 dd v0 v1 v2 v3 v4 sm : Int32) (b1 : Addr) (b2 : Addr) (hf5 : u0 = v0) (hf6 : ¬ (u1 = v1)) (hv0 : (osel (decide ((u5 &&& (1 : Int32)) = (0 : Int32))) u0 (u0 + dd)) = v0) (hv1 : (osel (decide ((u5 &&& (2 : Int32)) = (0 : Int32))) u1 (u1 + dd)) = v1) (fE_b1 : Exa Z h0 b1 "com/example/bot_workflow_runner/botworkflowrunner/model/Progress") (fF_b1_com_example_bot_workflow_runner_botworkflowrunner_model_Progress_total : Fld Z h0 b1 "com/example/bot_workflow_runner/botworkflowrunner/model/Progress" "total" "I" (.int u0)) (fF_b1_com_example_bot_workflow_runner_botworkflowrunner_model_Progress_completed : Fld Z h0 b1 "com/example/bot_workflow_runner/botworkflowrunner/model/Progress" "completed" "I" (.int u1)) (fF_b2_com_example_bot_workflow_runner_botworkflowrunner_model_Progress_total : Fld Z h0 b2 "com/example/bot_workflow_runner/botworkflowrunner/model/Progress" "total" "I" (.int v0)) (fF_b2_com_example_bot_workflow_runner_botworkflowrunner_model_Progress_completed : Fld Z h0 b2 "com/example/bot_workflow_runner/botworkflowrunner/model/Progress" "completed" "I" (.int v1)) :
    OM l Z (⟨"com/example/bot_workflow_runner/botworkflowrunner/model/Progress", "equals", "(Ljava/lang/Object;)Z"⟩ : MethodName) prog_31_method_10_code 3 (some .boolean) [] ({ frames := 0, cells := 0, slots := 0, locals := 0 } : Room) #[(.ref b2), (.ref b1)] h0 (OP (some (.int (0 : Int32))) n0 h0) := by
  refine MetFree.of_bodySF (plainFor_of_name pn_com_example_bot_workflow_runner_botworkflowrunner_model_Progress) hisR ?_
  intro p e s m args below meth c s₁ Bd hml0 hP hK
  obtain ⟨rfl, hZ, hh⟩ := hP
  have hx := Bd.exec
  have hby := Bd.bytes
  have hml : c.maxLocals = 3 := hml0
  have hown : s.vm.findClass "com/example/bot_workflow_runner/botworkflowrunner/model/Progress" = some m.cls := findClass_of_methodNamed Bd.named
  have hnm := (name_of_methodNamed Bd.named Bd.method).1
  have X0 : Stand p l e ({ frames := 0, cells := 0, slots := 0, locals := 0 } : Room) s m #[(.ref b2), (.ref b1)] below meth c s₁ [] 0 0 := Stand.of_body Bd
  have e0 : s₁.heap = h0 := by rw [← hh, Bd.state]; rfl
  have N0 := Fr.nil n0
  have pre0 : ∀ t, Steps p.tables e below (s₁.setTop (mkF m 0 #[.val (.ref b2), .val (.ref b1), .unset] [])) t → Steps p.tables e below (s₁.setTop (entryFrame m #[(.ref b2), (.ref b1)] 3)) t := fun t k => castTop (ef_prog_31_method_10_code_RR m b2 b1) k
  obtain ⟨T1, X1, e1, st1⟩ := instY X0 hx hZ hown (hw _ (List.mem_of_getElem? (i := 24) rfl)) e0 (Ins.self fE_b1) (g := (mkF m 1 #[.val (.ref b2), .val (.ref b1), .unset] [(.ref b1)])) rfl rfl (hb hby d_prog_31_method_10_code_1)
  obtain ⟨T2, X2, e2, st2⟩ := castY X1 hx hZ hown (hw _ (List.mem_of_getElem? (i := 24) rfl)) e1 (Ins.self fE_b1) (g := (mkF m 10 #[.val (.ref b2), .val (.ref b1), .unset] [(.ref b1)])) rfl rfl (hb hby d_prog_31_method_10_code_10)
  obtain ⟨T3, X3, e3, st3⟩ := getF X2 hx hZ hown (host := "") (Or.inl (hw _ (List.mem_of_getElem? (i := 9) rfl))) Via.refl e2 fF_b2_com_example_bot_workflow_runner_botworkflowrunner_model_Progress_total (g := (mkF m 15 #[.val (.ref b2), .val (.ref b1), .val (.ref b1)] [(.ref b2)])) rfl rfl (hb hby d_prog_31_method_10_code_15)
  obtain ⟨T4, X4, e4, st4⟩ := getF X3 hx hZ hown (host := "") (Or.inl (hw _ (List.mem_of_getElem? (i := 9) rfl))) Via.refl e3 fF_b1_com_example_bot_workflow_runner_botworkflowrunner_model_Progress_total (g := (mkF m 19 #[.val (.ref b2), .val (.ref b1), .val (.ref b1)] [(.ref b1), (.int v0)])) rfl rfl (hb hby d_prog_31_method_10_code_19)
  obtain ⟨T5, X5, e5, st5⟩ := getF X4 hx hZ hown (host := "") (Or.inl (hw _ (List.mem_of_getElem? (i := 11) rfl))) Via.refl e4 fF_b2_com_example_bot_workflow_runner_botworkflowrunner_model_Progress_completed (g := (mkF m 26 #[.val (.ref b2), .val (.ref b1), .val (.ref b1)] [(.ref b2)])) rfl rfl (hb hby d_prog_31_method_10_code_26)
  obtain ⟨T6, X6, e6, st6⟩ := getF X5 hx hZ hown (host := "") (Or.inl (hw _ (List.mem_of_getElem? (i := 11) rfl))) Via.refl e5 fF_b1_com_example_bot_workflow_runner_botworkflowrunner_model_Progress_completed (g := (mkF m 30 #[.val (.ref b2), .val (.ref b1), .val (.ref b1)] [(.ref b1), (.int v1)])) rfl rfl (hb hby d_prog_31_method_10_code_30)
  obtain ⟨fs, hr, hrun, hended, hW, hsame⟩ := X6.leave (v := (some (.int (0 : Int32)))) (fun h => by rw [Bd.returns] at h; cases h)
  refine ⟨_, _, pre0 _ ?_, hrun, hended, _, _, rfl, ?_, ⟨_, rfl⟩, hW, hsame.mono (by decide) (by decide)⟩
  · show Steps p.tables e below (s₁.setTop (mkF m 0 #[.val (.ref b2), .val (.ref b1), .unset] [])) _
    refine XS.aloadN X0.here hx rfl (hb hby d_prog_31_method_10_code_0) rfl rfl ?_
    refine st1 _ ?_
    refine XS.ifYes X1.here hx rfl (pc0 := 4) (pc' := 9) rfl (hb hby d_prog_31_method_10_code_4) rfl ((if0 _ _).trans (feq (by decide : ¬ ((1 : Int32) = (0 : Int32)))).2) (by decide) (by decide) ?_
    show Steps p.tables e below (T1.setTop (mkF m 9 #[.val (.ref b2), .val (.ref b1), .unset] [])) _
    refine XS.aloadN X1.here hx rfl (hb hby d_prog_31_method_10_code_9) rfl rfl ?_
    refine st2 _ ?_
    refine XS.astoreN X2.here hx rfl (hb hby d_prog_31_method_10_code_13) rfl rfl (l' := #[.val (.ref b2), .val (.ref b1), .val (.ref b1)]) rfl ?_
    show Steps p.tables e below (T2.setTop (mkF m 14 #[.val (.ref b2), .val (.ref b1), .val (.ref b1)] [])) _
    refine XS.aloadN X2.here hx rfl (hb hby d_prog_31_method_10_code_14) rfl rfl ?_
    refine st3 _ ?_
    refine XS.aloadN X3.here hx rfl (hb hby d_prog_31_method_10_code_18) rfl rfl ?_
    show Steps p.tables e below (T3.setTop (mkF m 19 #[.val (.ref b2), .val (.ref b1), .val (.ref b1)] [(.ref b1), (.int v0)])) _
    refine st4 _ ?_
    refine XS.icmpNo X4.here hx rfl (hb hby d_prog_31_method_10_code_22) rfl (teq (by have z0 := congrArg Int32.toInt hv0; have z1 := congrArg Int32.toInt hf5; have r0 := rng32 v0; have r1 := rng32 u0; exact Int32.toInt_inj.mp (by omega) : v0 = u0)).2 ?_
    refine XS.aloadN X4.here hx rfl (hb hby d_prog_31_method_10_code_25) rfl rfl ?_
    show Steps p.tables e below (T4.setTop (mkF m 26 #[.val (.ref b2), .val (.ref b1), .val (.ref b1)] [(.ref b2)])) _
    refine st5 _ ?_
    refine XS.aloadN X5.here hx rfl (hb hby d_prog_31_method_10_code_29) rfl rfl ?_
    refine st6 _ ?_
    show Steps p.tables e below (T6.setTop (mkF m 33 #[.val (.ref b2), .val (.ref b1), .val (.ref b1)] [(.int u1), (.int v1)])) _
    refine XS.icmpYes X6.here hx rfl (pc0 := 33) (pc' := 73) rfl (hb hby d_prog_31_method_10_code_33) rfl (feq (by have z0 := congrArg Int32.toInt hv1; have z1 := mt Int32.toInt_inj.mp hf6; have r0 := rng32 v1; have r1 := rng32 u1; exact fun hh => absurd (congrArg Int32.toInt hh) (by omega) : ¬ (v1 = u1))).2 (by decide) (by decide) ?_
    refine XS.iconst X6.here hx rfl (hb hby d_prog_31_method_10_code_73) ?_
    show Steps p.tables e below (T6.setTop (mkF m 74 #[.val (.ref b2), .val (.ref b1), .val (.ref b1)] [(.int (0 : Int32))])) _
    exact retN X6 hx (t := .boolean) Bd.returns (by simp) (hb hby d_prog_31_method_10_code_74) hr
  · exact ⟨rfl, N0, e6⟩
set_option maxRecDepth 65536 in
set_option maxHeartbeats 40000000 in
theorem rm0_31 (l : Launch) (Z : State) (a0 : Array Value) (hw : ∀ d ∈ tables_1, d.before a0 Z = true) (w : Nat → Addr) (κ : Nat → ClassId) (h0 : Heap) (n0 : Nat) (Z0 : n0 ≤ h0.size) (K : Kon Z h0 w κ) (u0 u1 u2 u3 u4 u5 dd v0 v1 v2 v3 v4 sm : Int32) (hdd : ((u5 >>> ((8 : Int32) &&& 31)) ||| (1 : Int32)) = dd) (hf1 : ¬ (((u5 >>> ((5 : Int32) &&& 31)) &&& (3 : Int32)) = (1 : Int32))) (hf14 : (0 : Int32) = sm) (hf2 : ¬ (((u5 >>> ((5 : Int32) &&& 31)) &&& (3 : Int32)) = (2 : Int32))) (hf5 : u0 = v0) (hf6 : ¬ (u1 = v1)) (hsm : (osel (decide ((u5 &&& (31 : Int32)) = (0 : Int32))) (1 : Int32) (0 : Int32)) = sm) (hv0 : (osel (decide ((u5 &&& (1 : Int32)) = (0 : Int32))) u0 (u0 + dd)) = v0) (hv1 : (osel (decide ((u5 &&& (2 : Int32)) = (0 : Int32))) u1 (u1 + dd)) = v1) (hv2 : (osel (decide ((u5 &&& (4 : Int32)) = (0 : Int32))) u2 (u2 + dd)) = v2) (hv3 : (osel (decide ((u5 &&& (8 : Int32)) = (0 : Int32))) u3 (u3 + dd)) = v3) (hv4 : (osel (decide ((u5 &&& (16 : Int32)) = (0 : Int32))) u4 (u4 + dd)) = v4) :
    OM l Z x code maxLocals ret tables_1 room_1 #[(.int u0), (.int u1), (.int u2), (.int u3), (.int u4), (.int u5)] h0 (OF (some (.int (1 : Int32))) n0) := by
  refine MetFree.of_bodySF (plainFor_of_name pn_com_example_bot_workflow_runner_botworkflowrunner_model_ProgressEqualsPinLaw) hisR ?_
  intro p e s m args below meth c s₁ Bd hml0 hP hK
  obtain ⟨rfl, hZ, hh⟩ := hP
  have hx := Bd.exec
  have hby := Bd.bytes
  have hml : c.maxLocals = 16 := hml0
  have hown : s.vm.findClass "com/example/bot_workflow_runner/botworkflowrunner/model/ProgressEqualsPinLaw" = some m.cls := findClass_of_methodNamed Bd.named
  have hnm := (name_of_methodNamed Bd.named Bd.method).1
  have X0 : Stand p l e room_1 s m #[(.int u0), (.int u1), (.int u2), (.int u3), (.int u4), (.int u5)] below meth c s₁ [] 0 0 := Stand.of_body Bd
  have e0 : s₁.heap = h0 := by rw [← hh, Bd.state]; rfl
  have N0 := Fr.nil n0
  have pre0 : ∀ t, Steps p.tables e below (s₁.setTop (mkF m 0 #[.val (.int u0), .val (.int u1), .val (.int u2), .val (.int u3), .val (.int u4), .val (.int u5), .unset, .unset, .unset, .unset, .unset, .unset, .unset, .unset, .unset, .unset] [])) t → Steps p.tables e below (s₁.setTop (entryFrame m #[(.int u0), (.int u1), (.int u2), (.int u3), (.int u4), (.int u5)] maxLocals)) t := fun t k => castTop (ef_code_IIIIII m u0 u1 u2 u3 u4 u5) k
  obtain ⟨T1, h1, X1, e1, E1, A1, D1, -, st1⟩ := newO X0 hx hZ hown (hw _ (List.mem_of_getElem? (i := 0) rfl)) (hw _ (List.mem_of_getElem? (i := 1) rfl)) (hw _ (List.mem_of_getElem? (i := 2) rfl)) e0 (g := (mkF m 9 #[.val (.int u0), .val (.int u1), .val (.int u2), .val (.int u3), .val (.int u4), .val (.int u5), .val (.int dd), .unset, .unset, .unset, .unset, .unset, .unset, .unset, .unset, .unset] [])) rfl (hb hby at_9) (by decide) (by decide)
  obtain ⟨b1, g1⟩ : ∃ z, z = h0.size := ⟨_, rfl⟩
  rw [← g1] at A1 D1 st1
  have hG1 : n0 ≤ b1 := Nat.le_trans Z0 (Nat.le_of_eq g1.symm)
  have hKN1 : ∀ i, i < 1 → w i ≠ b1 := fun i hi => by rw [g1]; exact Nat.ne_of_lt (K.lt i hi)
  have K1 := K.ext E1
  have Z1 : n0 ≤ h1.size := Nat.le_trans Z0 E1.1
  have f1_total : Fld Z h1 b1 "com/example/bot_workflow_runner/botworkflowrunner/model/Progress" "total" "I" (.int (0 : Int32)) := D1 (Or.inr (hw _ (List.mem_of_getElem? (i := 10) rfl))) (ty := .int) (by decide)
  have f1_completed : Fld Z h1 b1 "com/example/bot_workflow_runner/botworkflowrunner/model/Progress" "completed" "I" (.int (0 : Int32)) := D1 (Or.inr (hw _ (List.mem_of_getElem? (i := 12) rfl))) (ty := .int) (by decide)
  have f1_running : Fld Z h1 b1 "com/example/bot_workflow_runner/botworkflowrunner/model/Progress" "running" "I" (.int (0 : Int32)) := D1 (Or.inr (hw _ (List.mem_of_getElem? (i := 14) rfl))) (ty := .int) (by decide)
  have f1_failed : Fld Z h1 b1 "com/example/bot_workflow_runner/botworkflowrunner/model/Progress" "failed" "I" (.int (0 : Int32)) := D1 (Or.inr (hw _ (List.mem_of_getElem? (i := 16) rfl))) (ty := .int) (by decide)
  have f1_skipped : Fld Z h1 b1 "com/example/bot_workflow_runner/botworkflowrunner/model/Progress" "skipped" "I" (.int (0 : Int32)) := D1 (Or.inr (hw _ (List.mem_of_getElem? (i := 18) rfl))) (ty := .int) (by decide)
  obtain ⟨_, _, ⟨T2, L2, kk2, n2⟩, -, X2, ⟨Lc2, hQ2, l2, y2, z2⟩, st2⟩ := Jvm.Stand.specialBack X1 hx (y := (⟨"com/example/bot_workflow_runner/botworkflowrunner/model/Progress", "<init>", "(IIIII)V"⟩ : MethodName)) rfl hown (mvT hZ (hw _ (List.mem_of_getElem? (i := 3) rfl))) (mvT hZ (hw _ (List.mem_of_getElem? (i := 4) rfl))) (mvT hZ (hw _ (List.mem_of_getElem? (i := 5) rfl))) (by decide) (backOf (W := 1) (rm__init__1 l Z a0 hw w κ h1 n0 Z1 K1 u0 u1 u2 u3 u4 u5 dd v0 v1 v2 v3 v4 sm b1 A1 f1_total f1_completed f1_running f1_failed f1_skipped hG1 hKN1) hZ (hw _ (List.mem_of_getElem? (i := 5) rfl)) (hw _ (List.mem_of_getElem? (i := 2) rfl)) (by decide) (by decide)) (g := (mkF m 19 #[.val (.int u0), .val (.int u1), .val (.int u2), .val (.int u3), .val (.int u4), .val (.int u5), .val (.int dd), .unset, .unset, .unset, .unset, .unset, .unset, .unset, .unset, .unset] [(.int u4), (.int u3), (.int u2), (.int u1), (.int u0), (.ref b1), (.ref b1)])) rfl (by rw [hml]; rfl) (Steps.refl _) (a := b1) (argsL := [(.int u0), (.int u1), (.int u2), (.int u3), (.int u4)]) (rest := [(.ref b1)]) (lenOf pd_28IIIII29V rfl) rfl (by show 2 * 0 + _ ≤ _; exact Nat.le_of_eq rfl) (hb hby at_19) (fun _ _ => ⟨rfl, e1, (by decide : 1 + 0 ≤ _), (by decide : 5 + 0 ≤ _)⟩)
  dsimp only [Pt.U, Pt.locs, Pt.cells, Pt.slots] at X2 l2 y2 z2 st2 hQ2
  subst l2 y2 z2
  obtain ⟨rfl, N2q, Z2, K2, f2_0, f2_1, f2_2, f2_3, f2_4, f2_5⟩ := hQ2
  have N2 := Fr.app N0 N2q
  obtain ⟨T8, h8, X8, e8, E8, A8, D8, -, st8⟩ := newO X2 hx hZ hown (hw _ (List.mem_of_getElem? (i := 0) rfl)) (hw _ (List.mem_of_getElem? (i := 1) rfl)) (hw _ (List.mem_of_getElem? (i := 2) rfl)) rfl (g := (mkF m 113 #[.val (.int u0), .val (.int u1), .val (.int u2), .val (.int u3), .val (.int u4), .val (.int u5), .val (.int dd), .val (.ref b1), .val (.int v0), .val (.int v1), .val (.int v2), .val (.int v3), .val (.int v4), .unset, .unset, .unset] [])) rfl (hb hby at_113) (by decide) (by decide)
  obtain ⟨b2, g8⟩ : ∃ z, z = T2.heap.size := ⟨_, rfl⟩
  rw [← g8] at A8 D8 st8
  have hG8 : n0 ≤ b2 := Nat.le_trans Z2 (Nat.le_of_eq g8.symm)
  have hN8_0 : b1 ≠ b2 := by rw [g8]; exact Nat.ne_of_lt f2_0.lt
  have hKN8 : ∀ i, i < 1 → w i ≠ b2 := fun i hi => by rw [g8]; exact Nat.ne_of_lt (K2.lt i hi)
  have f8_fE_b1 := f2_0.ext E8
  have f8_fF_b1_com_example_bot_workflow_runner_botworkflowrunner_model_Progress_total := f2_1.ext E8
  have f8_fF_b1_com_example_bot_workflow_runner_botworkflowrunner_model_Progress_completed := f2_2.ext E8
  have f8_fF_b1_com_example_bot_workflow_runner_botworkflowrunner_model_Progress_running := f2_3.ext E8
  have f8_fF_b1_com_example_bot_workflow_runner_botworkflowrunner_model_Progress_failed := f2_4.ext E8
  have f8_fF_b1_com_example_bot_workflow_runner_botworkflowrunner_model_Progress_skipped := f2_5.ext E8
  have K8 := K2.ext E8
  have Z8 : n0 ≤ h8.size := Nat.le_trans Z2 E8.1
  have f8_total : Fld Z h8 b2 "com/example/bot_workflow_runner/botworkflowrunner/model/Progress" "total" "I" (.int (0 : Int32)) := D8 (Or.inr (hw _ (List.mem_of_getElem? (i := 10) rfl))) (ty := .int) (by decide)
  have f8_completed : Fld Z h8 b2 "com/example/bot_workflow_runner/botworkflowrunner/model/Progress" "completed" "I" (.int (0 : Int32)) := D8 (Or.inr (hw _ (List.mem_of_getElem? (i := 12) rfl))) (ty := .int) (by decide)
  have f8_running : Fld Z h8 b2 "com/example/bot_workflow_runner/botworkflowrunner/model/Progress" "running" "I" (.int (0 : Int32)) := D8 (Or.inr (hw _ (List.mem_of_getElem? (i := 14) rfl))) (ty := .int) (by decide)
  have f8_failed : Fld Z h8 b2 "com/example/bot_workflow_runner/botworkflowrunner/model/Progress" "failed" "I" (.int (0 : Int32)) := D8 (Or.inr (hw _ (List.mem_of_getElem? (i := 16) rfl))) (ty := .int) (by decide)
  have f8_skipped : Fld Z h8 b2 "com/example/bot_workflow_runner/botworkflowrunner/model/Progress" "skipped" "I" (.int (0 : Int32)) := D8 (Or.inr (hw _ (List.mem_of_getElem? (i := 18) rfl))) (ty := .int) (by decide)
  obtain ⟨_, _, ⟨T9, L9, kk9, n9⟩, -, X9, ⟨Lc9, hQ9, l9, y9, z9⟩, st9⟩ := Jvm.Stand.specialBack X8 hx (y := (⟨"com/example/bot_workflow_runner/botworkflowrunner/model/Progress", "<init>", "(IIIII)V"⟩ : MethodName)) rfl hown (mvT hZ (hw _ (List.mem_of_getElem? (i := 3) rfl))) (mvT hZ (hw _ (List.mem_of_getElem? (i := 4) rfl))) (mvT hZ (hw _ (List.mem_of_getElem? (i := 5) rfl))) (by decide) (backOf (W := 1) (rm__init__2 l Z a0 hw w κ h8 n0 Z8 K8 u0 u1 u2 u3 u4 u5 dd v0 v1 v2 v3 v4 sm b1 b2 f8_fE_b1 f8_fF_b1_com_example_bot_workflow_runner_botworkflowrunner_model_Progress_total f8_fF_b1_com_example_bot_workflow_runner_botworkflowrunner_model_Progress_completed f8_fF_b1_com_example_bot_workflow_runner_botworkflowrunner_model_Progress_running f8_fF_b1_com_example_bot_workflow_runner_botworkflowrunner_model_Progress_failed f8_fF_b1_com_example_bot_workflow_runner_botworkflowrunner_model_Progress_skipped A8 f8_total f8_completed f8_running f8_failed f8_skipped hG1 hKN1 hG8 hN8_0 hKN8) hZ (hw _ (List.mem_of_getElem? (i := 5) rfl)) (hw _ (List.mem_of_getElem? (i := 2) rfl)) (by decide) (by decide)) (g := (mkF m 127 #[.val (.int u0), .val (.int u1), .val (.int u2), .val (.int u3), .val (.int u4), .val (.int u5), .val (.int dd), .val (.ref b1), .val (.int v0), .val (.int v1), .val (.int v2), .val (.int v3), .val (.int v4), .unset, .unset, .unset] [(.int v4), (.int v3), (.int v2), (.int v1), (.int v0), (.ref b2), (.ref b2)])) rfl (by rw [hml]; rfl) (Steps.refl _) (a := b2) (argsL := [(.int v0), (.int v1), (.int v2), (.int v3), (.int v4)]) (rest := [(.ref b2)]) (lenOf pd_28IIIII29V rfl) rfl (by show 2 * 0 + _ ≤ _; exact Nat.le_of_eq rfl) (hb hby at_127) (fun _ _ => ⟨rfl, e8, (by decide : 2 + 0 ≤ _), (by decide : 10 + 0 ≤ _)⟩)
  dsimp only [Pt.U, Pt.locs, Pt.cells, Pt.slots] at X9 l9 y9 z9 st9 hQ9
  subst l9 y9 z9
  obtain ⟨rfl, N9q, Z9, K9, f9_0, f9_1, f9_2, f9_3, f9_4, f9_5, f9_6, f9_7, f9_8, f9_9, f9_10, f9_11⟩ := hQ9
  have N9 := Fr.app N2 N9q
  obtain ⟨cq11, kq11, qa11, qb11, qc11⟩ := isOf hZ rfl f9_0
  obtain ⟨_, _, ⟨T11, L11, kk11, n11⟩, -, X11, ⟨Lc11, hQ11, l11, y11, z11⟩, st11⟩ := X9.virtualBack hx (y := (⟨"com/example/bot_workflow_runner/botworkflowrunner/model/Progress", "equals", "(Ljava/lang/Object;)Z"⟩ : MethodName)) (z := (⟨"com/example/bot_workflow_runner/botworkflowrunner/model/Progress", "equals", "(Ljava/lang/Object;)Z"⟩ : MethodName)) hown (mvT hZ (hw _ (List.mem_of_getElem? (i := 19) rfl))) (mvT hZ (hw _ (List.mem_of_getElem? (i := 20) rfl))) (notFace_of_selects (args := #[]) (mvT hZ (hw _ (List.mem_of_getElem? (i := 22) rfl)))) (mvT hZ (hw _ (List.mem_of_getElem? (i := 22) rfl))) (mvT hZ (hw _ (List.mem_of_getElem? (i := 21) rfl))) (by decide) (backOf (W := 0) (rm_equals_29 l Z a0 hw w κ T9.heap n0 Z9 K9 u0 u1 u2 u3 u4 u5 dd v0 v1 v2 v3 v4 sm b1 b2 hf5 hf6 f9_1 f9_2 f9_6 f9_7 f9_8) hZ (hw _ (List.mem_of_getElem? (i := 23) rfl)) (hw _ (List.mem_of_getElem? (i := 2) rfl)) (by decide) (by decide)) qa11 qc11 (g := (mkF m 224 #[.val (.int u0), .val (.int u1), .val (.int u2), .val (.int u3), .val (.int u4), .val (.int u5), .val (.int dd), .val (.ref b1), .val (.int v0), .val (.int v1), .val (.int v2), .val (.int v3), .val (.int v4), .val (.ref b2), .val (.int sm), .val (.int ((u5 >>> ((5 : Int32) &&& 31)) &&& (3 : Int32)))] [(.ref b2), (.ref b1)])) rfl (by rw [hml]; rfl) (Steps.refl _) (argsL := [(.ref b2)]) (rest := []) (lenOf pd_28Ljava2flang2fObject3b29Z rfl) rfl (by show 2 * 0 + _ ≤ _; exact Nat.le_of_eq rfl) (hb hby at_224) (fun _ _ => ⟨rfl, rfl, (by decide : 2 + 0 ≤ _), (by decide : 10 + 0 ≤ _)⟩)
  dsimp only [Pt.U, Pt.locs, Pt.cells, Pt.slots] at X11 l11 y11 z11 st11 hQ11
  subst l11 y11 z11
  obtain ⟨rfl, N11q, e11⟩ := hQ11
  have N11 := Fr.app N9 N11q
  obtain ⟨cq12, kq12, qa12, qb12, qc12⟩ := isOf hZ e11 f9_6
  obtain ⟨_, _, ⟨T12, L12, kk12, n12⟩, -, X12, ⟨Lc12, hQ12, l12, y12, z12⟩, st12⟩ := X11.virtualBack hx (y := (⟨"com/example/bot_workflow_runner/botworkflowrunner/model/Progress", "equals", "(Ljava/lang/Object;)Z"⟩ : MethodName)) (z := (⟨"com/example/bot_workflow_runner/botworkflowrunner/model/Progress", "equals", "(Ljava/lang/Object;)Z"⟩ : MethodName)) hown (mvT hZ (hw _ (List.mem_of_getElem? (i := 19) rfl))) (mvT hZ (hw _ (List.mem_of_getElem? (i := 20) rfl))) (notFace_of_selects (args := #[]) (mvT hZ (hw _ (List.mem_of_getElem? (i := 22) rfl)))) (mvT hZ (hw _ (List.mem_of_getElem? (i := 22) rfl))) (mvT hZ (hw _ (List.mem_of_getElem? (i := 21) rfl))) (by decide) (backOf (W := 0) (rm_equals_30 l Z a0 hw w κ T9.heap n0 Z9 K9 u0 u1 u2 u3 u4 u5 dd v0 v1 v2 v3 v4 sm b1 b2 hf5 hf6 hv0 hv1 f9_0 f9_1 f9_2 f9_7 f9_8) hZ (hw _ (List.mem_of_getElem? (i := 23) rfl)) (hw _ (List.mem_of_getElem? (i := 2) rfl)) (by decide) (by decide)) qa12 qc12 (g := (mkF m 236 #[.val (.int u0), .val (.int u1), .val (.int u2), .val (.int u3), .val (.int u4), .val (.int u5), .val (.int dd), .val (.ref b1), .val (.int v0), .val (.int v1), .val (.int v2), .val (.int v3), .val (.int v4), .val (.ref b2), .val (.int sm), .val (.int ((u5 >>> ((5 : Int32) &&& 31)) &&& (3 : Int32)))] [(.ref b1), (.ref b2)])) rfl (by rw [hml]; rfl) (Steps.refl _) (argsL := [(.ref b1)]) (rest := []) (lenOf pd_28Ljava2flang2fObject3b29Z rfl) rfl (by show 2 * 0 + _ ≤ _; exact Nat.le_of_eq rfl) (hb hby at_236) (fun _ _ => ⟨rfl, e11, (by decide : 2 + 0 ≤ _), (by decide : 10 + 0 ≤ _)⟩)
  dsimp only [Pt.U, Pt.locs, Pt.cells, Pt.slots] at X12 l12 y12 z12 st12 hQ12
  subst l12 y12 z12
  obtain ⟨rfl, N12q, e12⟩ := hQ12
  have N12 := Fr.app N11 N12q
  obtain ⟨cq13, kq13, qa13, qb13, qc13⟩ := isOf hZ e12 f9_0
  obtain ⟨_, _, ⟨T13, L13, kk13, n13⟩, -, X13, ⟨Lc13, hQ13, l13, y13, z13⟩, st13⟩ := X12.virtualBack hx (y := (⟨"com/example/bot_workflow_runner/botworkflowrunner/model/Progress", "equals", "(Ljava/lang/Object;)Z"⟩ : MethodName)) (z := (⟨"com/example/bot_workflow_runner/botworkflowrunner/model/Progress", "equals", "(Ljava/lang/Object;)Z"⟩ : MethodName)) hown (mvT hZ (hw _ (List.mem_of_getElem? (i := 19) rfl))) (mvT hZ (hw _ (List.mem_of_getElem? (i := 20) rfl))) (notFace_of_selects (args := #[]) (mvT hZ (hw _ (List.mem_of_getElem? (i := 22) rfl)))) (mvT hZ (hw _ (List.mem_of_getElem? (i := 22) rfl))) (mvT hZ (hw _ (List.mem_of_getElem? (i := 21) rfl))) (by decide) (backOf (W := 0) (rm_equals_4 l Z a0 hw w κ T9.heap n0 Z9 K9 u0 u1 u2 u3 u4 u5 dd v0 v1 v2 v3 v4 sm b1 b2 f9_0 f9_1 f9_2 f9_3 f9_4 f9_5) hZ (hw _ (List.mem_of_getElem? (i := 23) rfl)) (hw _ (List.mem_of_getElem? (i := 2) rfl)) (by decide) (by decide)) qa13 qc13 (g := (mkF m 248 #[.val (.int u0), .val (.int u1), .val (.int u2), .val (.int u3), .val (.int u4), .val (.int u5), .val (.int dd), .val (.ref b1), .val (.int v0), .val (.int v1), .val (.int v2), .val (.int v3), .val (.int v4), .val (.ref b2), .val (.int sm), .val (.int ((u5 >>> ((5 : Int32) &&& 31)) &&& (3 : Int32)))] [(.ref b1), (.ref b1)])) rfl (by rw [hml]; rfl) (Steps.refl _) (argsL := [(.ref b1)]) (rest := []) (lenOf pd_28Ljava2flang2fObject3b29Z rfl) rfl (by show 2 * 0 + _ ≤ _; exact Nat.le_of_eq rfl) (hb hby at_248) (fun _ _ => ⟨rfl, e12, (by decide : 2 + 0 ≤ _), (by decide : 10 + 0 ≤ _)⟩)
  dsimp only [Pt.U, Pt.locs, Pt.cells, Pt.slots] at X13 l13 y13 z13 st13 hQ13
  subst l13 y13 z13
  obtain ⟨rfl, N13q, e13⟩ := hQ13
  have N13 := Fr.app N12 N13q
  obtain ⟨fs, hr, hrun, hended, hW, hsame⟩ := X13.leave (v := (some (.int (1 : Int32)))) (fun h => by rw [Bd.returns] at h; cases h)
  refine ⟨_, _, pre0 _ ?_, hrun, hended, _, _, rfl, ?_, ⟨_, rfl⟩, hW, hsame.mono (by decide) (by decide)⟩
  · show Steps p.tables e below (s₁.setTop (mkF m 0 #[.val (.int u0), .val (.int u1), .val (.int u2), .val (.int u3), .val (.int u4), .val (.int u5), .unset, .unset, .unset, .unset, .unset, .unset, .unset, .unset, .unset, .unset] [])) _
    refine XS.iload X0.here hx rfl (hb hby at_0) rfl ?_
    refine XS.bipush X0.here hx rfl (hb hby at_2) ?_
    refine XS.ishr X0.here hx rfl (hb hby at_4) rfl ?_
    show Steps p.tables e below (s₁.setTop (mkF m 5 #[.val (.int u0), .val (.int u1), .val (.int u2), .val (.int u3), .val (.int u4), .val (.int u5), .unset, .unset, .unset, .unset, .unset, .unset, .unset, .unset, .unset, .unset] [(.int (u5 >>> ((8 : Int32) &&& 31)))])) _
    refine XS.iconst X0.here hx rfl (hb hby at_5) ?_
    refine XS.ior X0.here hx rfl (hb hby at_6) rfl ?_
    show Steps p.tables e below (s₁.setTop (mkF m 7 #[.val (.int u0), .val (.int u1), .val (.int u2), .val (.int u3), .val (.int u4), .val (.int u5), .unset, .unset, .unset, .unset, .unset, .unset, .unset, .unset, .unset, .unset] [(.int ((u5 >>> ((8 : Int32) &&& 31)) ||| (1 : Int32)))])) _
    rw [hdd]
    show Steps p.tables e below (s₁.setTop (mkF m 7 #[.val (.int u0), .val (.int u1), .val (.int u2), .val (.int u3), .val (.int u4), .val (.int u5), .unset, .unset, .unset, .unset, .unset, .unset, .unset, .unset, .unset, .unset] [(.int dd)])) _
    refine XS.istore X0.here hx rfl (hb hby at_7) rfl (l' := #[.val (.int u0), .val (.int u1), .val (.int u2), .val (.int u3), .val (.int u4), .val (.int u5), .val (.int dd), .unset, .unset, .unset, .unset, .unset, .unset, .unset, .unset, .unset]) rfl ?_
    refine st1 _ ?_
    refine XS.dup X1.here hx rfl (hb hby at_12) rfl rfl ?_
    show Steps p.tables e below (T1.setTop (mkF m 13 #[.val (.int u0), .val (.int u1), .val (.int u2), .val (.int u3), .val (.int u4), .val (.int u5), .val (.int dd), .unset, .unset, .unset, .unset, .unset, .unset, .unset, .unset, .unset] [(.ref b1), (.ref b1)])) _
    refine XS.iloadN X1.here hx rfl (hb hby at_13) rfl ?_
    refine XS.iloadN X1.here hx rfl (hb hby at_14) rfl ?_
    refine XS.iloadN X1.here hx rfl (hb hby at_15) rfl ?_
    show Steps p.tables e below (T1.setTop (mkF m 16 #[.val (.int u0), .val (.int u1), .val (.int u2), .val (.int u3), .val (.int u4), .val (.int u5), .val (.int dd), .unset, .unset, .unset, .unset, .unset, .unset, .unset, .unset, .unset] [(.int u2), (.int u1), (.int u0), (.ref b1), (.ref b1)])) _
    refine XS.iloadN X1.here hx rfl (hb hby at_16) rfl ?_
    refine XS.iload X1.here hx rfl (hb hby at_17) rfl ?_
    refine st2.trans ?_
    show Steps p.tables e below (T2.setTop (mkF m 22 #[.val (.int u0), .val (.int u1), .val (.int u2), .val (.int u3), .val (.int u4), .val (.int u5), .val (.int dd), .unset, .unset, .unset, .unset, .unset, .unset, .unset, .unset, .unset] [(.ref b1)])) _
    refine XS.astore X2.here hx rfl (hb hby at_22) rfl rfl (l' := #[.val (.int u0), .val (.int u1), .val (.int u2), .val (.int u3), .val (.int u4), .val (.int u5), .val (.int dd), .val (.ref b1), .unset, .unset, .unset, .unset, .unset, .unset, .unset, .unset]) rfl ?_
    refine XS.iload X2.here hx rfl (hb hby at_24) rfl ?_
    refine XS.iconst X2.here hx rfl (hb hby at_26) ?_
    show Steps p.tables e below (T2.setTop (mkF m 27 #[.val (.int u0), .val (.int u1), .val (.int u2), .val (.int u3), .val (.int u4), .val (.int u5), .val (.int dd), .val (.ref b1), .unset, .unset, .unset, .unset, .unset, .unset, .unset, .unset] [(.int (1 : Int32)), (.int u5)])) _
    refine XS.iand X2.here hx rfl (hb hby at_27) rfl ?_
    show Steps p.tables e below (T2.setTop (mkF m 28 #[.val (.int u0), .val (.int u1), .val (.int u2), .val (.int u3), .val (.int u4), .val (.int u5), .val (.int dd), .val (.ref b1), .unset, .unset, .unset, .unset, .unset, .unset, .unset, .unset] [(.int (u5 &&& (1 : Int32)))])) _
    suffices hshd3 : Steps p.tables e below (T2.setTop (mkF m 39 #[.val (.int u0), .val (.int u1), .val (.int u2), .val (.int u3), .val (.int u4), .val (.int u5), .val (.int dd), .val (.ref b1), .unset, .unset, .unset, .unset, .unset, .unset, .unset, .unset] [(.int (osel (decide ((u5 &&& (1 : Int32)) = (0 : Int32))) u0 (u0 + dd)))])) (T13.setFrames fs) by
      by_cases hd3 : (u5 &&& (1 : Int32)) = (0 : Int32)
      · rw [show (osel (decide ((u5 &&& (1 : Int32)) = (0 : Int32))) u0 (u0 + dd)) = u0 from if_pos (decide_eq_true hd3)] at hshd3
        refine XS.ifYes X2.here hx rfl (pc0 := 28) (pc' := 38) rfl (hb hby at_28) rfl ((if0 _ _).trans (teq hd3).1) (by decide) (by decide) ?_
        show Steps p.tables e below (T2.setTop (mkF m 38 #[.val (.int u0), .val (.int u1), .val (.int u2), .val (.int u3), .val (.int u4), .val (.int u5), .val (.int dd), .val (.ref b1), .unset, .unset, .unset, .unset, .unset, .unset, .unset, .unset] [])) _
        refine XS.iloadN X2.here hx rfl (hb hby at_38) rfl ?_
        exact hshd3
      · rw [show (osel (decide ((u5 &&& (1 : Int32)) = (0 : Int32))) u0 (u0 + dd)) = (u0 + dd) from if_neg (fun hh => absurd (of_decide_eq_true hh) hd3)] at hshd3
        refine XS.ifNo X2.here hx rfl (hb hby at_28) rfl ((if0 _ _).trans (feq hd3).1) ?_
        show Steps p.tables e below (T2.setTop (mkF m 31 #[.val (.int u0), .val (.int u1), .val (.int u2), .val (.int u3), .val (.int u4), .val (.int u5), .val (.int dd), .val (.ref b1), .unset, .unset, .unset, .unset, .unset, .unset, .unset, .unset] [])) _
        refine XS.iloadN X2.here hx rfl (hb hby at_31) rfl ?_
        show Steps p.tables e below (T2.setTop (mkF m 32 #[.val (.int u0), .val (.int u1), .val (.int u2), .val (.int u3), .val (.int u4), .val (.int u5), .val (.int dd), .val (.ref b1), .unset, .unset, .unset, .unset, .unset, .unset, .unset, .unset] [(.int u0)])) _
        refine XS.iload X2.here hx rfl (hb hby at_32) rfl ?_
        show Steps p.tables e below (T2.setTop (mkF m 34 #[.val (.int u0), .val (.int u1), .val (.int u2), .val (.int u3), .val (.int u4), .val (.int u5), .val (.int dd), .val (.ref b1), .unset, .unset, .unset, .unset, .unset, .unset, .unset, .unset] [(.int dd), (.int u0)])) _
        refine XS.iadd X2.here hx rfl (hb hby at_34) rfl ?_
        show Steps p.tables e below (T2.setTop (mkF m 35 #[.val (.int u0), .val (.int u1), .val (.int u2), .val (.int u3), .val (.int u4), .val (.int u5), .val (.int dd), .val (.ref b1), .unset, .unset, .unset, .unset, .unset, .unset, .unset, .unset] [(.int (u0 + dd))])) _
        refine XS.goto X2.here hx rfl (pc0 := 35) (pc' := 39) rfl (hb hby at_35) (by decide) (by decide) ?_
        exact hshd3
    show Steps p.tables e below (T2.setTop (mkF m 39 #[.val (.int u0), .val (.int u1), .val (.int u2), .val (.int u3), .val (.int u4), .val (.int u5), .val (.int dd), .val (.ref b1), .unset, .unset, .unset, .unset, .unset, .unset, .unset, .unset] [(.int (osel (decide ((u5 &&& (1 : Int32)) = (0 : Int32))) u0 (u0 + dd)))])) _
    rw [hv0]
    show Steps p.tables e below (T2.setTop (mkF m 39 #[.val (.int u0), .val (.int u1), .val (.int u2), .val (.int u3), .val (.int u4), .val (.int u5), .val (.int dd), .val (.ref b1), .unset, .unset, .unset, .unset, .unset, .unset, .unset, .unset] [(.int v0)])) _
    refine XS.istore X2.here hx rfl (hb hby at_39) rfl (l' := #[.val (.int u0), .val (.int u1), .val (.int u2), .val (.int u3), .val (.int u4), .val (.int u5), .val (.int dd), .val (.ref b1), .val (.int v0), .unset, .unset, .unset, .unset, .unset, .unset, .unset]) rfl ?_
    refine XS.iload X2.here hx rfl (hb hby at_41) rfl ?_
    refine XS.iconst X2.here hx rfl (hb hby at_43) ?_
    show Steps p.tables e below (T2.setTop (mkF m 44 #[.val (.int u0), .val (.int u1), .val (.int u2), .val (.int u3), .val (.int u4), .val (.int u5), .val (.int dd), .val (.ref b1), .val (.int v0), .unset, .unset, .unset, .unset, .unset, .unset, .unset] [(.int (2 : Int32)), (.int u5)])) _
    refine XS.iand X2.here hx rfl (hb hby at_44) rfl ?_
    show Steps p.tables e below (T2.setTop (mkF m 45 #[.val (.int u0), .val (.int u1), .val (.int u2), .val (.int u3), .val (.int u4), .val (.int u5), .val (.int dd), .val (.ref b1), .val (.int v0), .unset, .unset, .unset, .unset, .unset, .unset, .unset] [(.int (u5 &&& (2 : Int32)))])) _
    suffices hshd4 : Steps p.tables e below (T2.setTop (mkF m 56 #[.val (.int u0), .val (.int u1), .val (.int u2), .val (.int u3), .val (.int u4), .val (.int u5), .val (.int dd), .val (.ref b1), .val (.int v0), .unset, .unset, .unset, .unset, .unset, .unset, .unset] [(.int (osel (decide ((u5 &&& (2 : Int32)) = (0 : Int32))) u1 (u1 + dd)))])) (T13.setFrames fs) by
      by_cases hd4 : (u5 &&& (2 : Int32)) = (0 : Int32)
      · rw [show (osel (decide ((u5 &&& (2 : Int32)) = (0 : Int32))) u1 (u1 + dd)) = u1 from if_pos (decide_eq_true hd4)] at hshd4
        refine XS.ifYes X2.here hx rfl (pc0 := 45) (pc' := 55) rfl (hb hby at_45) rfl ((if0 _ _).trans (teq hd4).1) (by decide) (by decide) ?_
        show Steps p.tables e below (T2.setTop (mkF m 55 #[.val (.int u0), .val (.int u1), .val (.int u2), .val (.int u3), .val (.int u4), .val (.int u5), .val (.int dd), .val (.ref b1), .val (.int v0), .unset, .unset, .unset, .unset, .unset, .unset, .unset] [])) _
        refine XS.iloadN X2.here hx rfl (hb hby at_55) rfl ?_
        exact hshd4
      · rw [show (osel (decide ((u5 &&& (2 : Int32)) = (0 : Int32))) u1 (u1 + dd)) = (u1 + dd) from if_neg (fun hh => absurd (of_decide_eq_true hh) hd4)] at hshd4
        refine XS.ifNo X2.here hx rfl (hb hby at_45) rfl ((if0 _ _).trans (feq hd4).1) ?_
        show Steps p.tables e below (T2.setTop (mkF m 48 #[.val (.int u0), .val (.int u1), .val (.int u2), .val (.int u3), .val (.int u4), .val (.int u5), .val (.int dd), .val (.ref b1), .val (.int v0), .unset, .unset, .unset, .unset, .unset, .unset, .unset] [])) _
        refine XS.iloadN X2.here hx rfl (hb hby at_48) rfl ?_
        show Steps p.tables e below (T2.setTop (mkF m 49 #[.val (.int u0), .val (.int u1), .val (.int u2), .val (.int u3), .val (.int u4), .val (.int u5), .val (.int dd), .val (.ref b1), .val (.int v0), .unset, .unset, .unset, .unset, .unset, .unset, .unset] [(.int u1)])) _
        refine XS.iload X2.here hx rfl (hb hby at_49) rfl ?_
        show Steps p.tables e below (T2.setTop (mkF m 51 #[.val (.int u0), .val (.int u1), .val (.int u2), .val (.int u3), .val (.int u4), .val (.int u5), .val (.int dd), .val (.ref b1), .val (.int v0), .unset, .unset, .unset, .unset, .unset, .unset, .unset] [(.int dd), (.int u1)])) _
        refine XS.iadd X2.here hx rfl (hb hby at_51) rfl ?_
        show Steps p.tables e below (T2.setTop (mkF m 52 #[.val (.int u0), .val (.int u1), .val (.int u2), .val (.int u3), .val (.int u4), .val (.int u5), .val (.int dd), .val (.ref b1), .val (.int v0), .unset, .unset, .unset, .unset, .unset, .unset, .unset] [(.int (u1 + dd))])) _
        refine XS.goto X2.here hx rfl (pc0 := 52) (pc' := 56) rfl (hb hby at_52) (by decide) (by decide) ?_
        exact hshd4
    show Steps p.tables e below (T2.setTop (mkF m 56 #[.val (.int u0), .val (.int u1), .val (.int u2), .val (.int u3), .val (.int u4), .val (.int u5), .val (.int dd), .val (.ref b1), .val (.int v0), .unset, .unset, .unset, .unset, .unset, .unset, .unset] [(.int (osel (decide ((u5 &&& (2 : Int32)) = (0 : Int32))) u1 (u1 + dd)))])) _
    rw [hv1]
    show Steps p.tables e below (T2.setTop (mkF m 56 #[.val (.int u0), .val (.int u1), .val (.int u2), .val (.int u3), .val (.int u4), .val (.int u5), .val (.int dd), .val (.ref b1), .val (.int v0), .unset, .unset, .unset, .unset, .unset, .unset, .unset] [(.int v1)])) _
    refine XS.istore X2.here hx rfl (hb hby at_56) rfl (l' := #[.val (.int u0), .val (.int u1), .val (.int u2), .val (.int u3), .val (.int u4), .val (.int u5), .val (.int dd), .val (.ref b1), .val (.int v0), .val (.int v1), .unset, .unset, .unset, .unset, .unset, .unset]) rfl ?_
    refine XS.iload X2.here hx rfl (hb hby at_58) rfl ?_
    refine XS.iconst X2.here hx rfl (hb hby at_60) ?_
    show Steps p.tables e below (T2.setTop (mkF m 61 #[.val (.int u0), .val (.int u1), .val (.int u2), .val (.int u3), .val (.int u4), .val (.int u5), .val (.int dd), .val (.ref b1), .val (.int v0), .val (.int v1), .unset, .unset, .unset, .unset, .unset, .unset] [(.int (4 : Int32)), (.int u5)])) _
    refine XS.iand X2.here hx rfl (hb hby at_61) rfl ?_
    show Steps p.tables e below (T2.setTop (mkF m 62 #[.val (.int u0), .val (.int u1), .val (.int u2), .val (.int u3), .val (.int u4), .val (.int u5), .val (.int dd), .val (.ref b1), .val (.int v0), .val (.int v1), .unset, .unset, .unset, .unset, .unset, .unset] [(.int (u5 &&& (4 : Int32)))])) _
    suffices hshd5 : Steps p.tables e below (T2.setTop (mkF m 73 #[.val (.int u0), .val (.int u1), .val (.int u2), .val (.int u3), .val (.int u4), .val (.int u5), .val (.int dd), .val (.ref b1), .val (.int v0), .val (.int v1), .unset, .unset, .unset, .unset, .unset, .unset] [(.int (osel (decide ((u5 &&& (4 : Int32)) = (0 : Int32))) u2 (u2 + dd)))])) (T13.setFrames fs) by
      by_cases hd5 : (u5 &&& (4 : Int32)) = (0 : Int32)
      · rw [show (osel (decide ((u5 &&& (4 : Int32)) = (0 : Int32))) u2 (u2 + dd)) = u2 from if_pos (decide_eq_true hd5)] at hshd5
        refine XS.ifYes X2.here hx rfl (pc0 := 62) (pc' := 72) rfl (hb hby at_62) rfl ((if0 _ _).trans (teq hd5).1) (by decide) (by decide) ?_
        show Steps p.tables e below (T2.setTop (mkF m 72 #[.val (.int u0), .val (.int u1), .val (.int u2), .val (.int u3), .val (.int u4), .val (.int u5), .val (.int dd), .val (.ref b1), .val (.int v0), .val (.int v1), .unset, .unset, .unset, .unset, .unset, .unset] [])) _
        refine XS.iloadN X2.here hx rfl (hb hby at_72) rfl ?_
        exact hshd5
      · rw [show (osel (decide ((u5 &&& (4 : Int32)) = (0 : Int32))) u2 (u2 + dd)) = (u2 + dd) from if_neg (fun hh => absurd (of_decide_eq_true hh) hd5)] at hshd5
        refine XS.ifNo X2.here hx rfl (hb hby at_62) rfl ((if0 _ _).trans (feq hd5).1) ?_
        show Steps p.tables e below (T2.setTop (mkF m 65 #[.val (.int u0), .val (.int u1), .val (.int u2), .val (.int u3), .val (.int u4), .val (.int u5), .val (.int dd), .val (.ref b1), .val (.int v0), .val (.int v1), .unset, .unset, .unset, .unset, .unset, .unset] [])) _
        refine XS.iloadN X2.here hx rfl (hb hby at_65) rfl ?_
        show Steps p.tables e below (T2.setTop (mkF m 66 #[.val (.int u0), .val (.int u1), .val (.int u2), .val (.int u3), .val (.int u4), .val (.int u5), .val (.int dd), .val (.ref b1), .val (.int v0), .val (.int v1), .unset, .unset, .unset, .unset, .unset, .unset] [(.int u2)])) _
        refine XS.iload X2.here hx rfl (hb hby at_66) rfl ?_
        show Steps p.tables e below (T2.setTop (mkF m 68 #[.val (.int u0), .val (.int u1), .val (.int u2), .val (.int u3), .val (.int u4), .val (.int u5), .val (.int dd), .val (.ref b1), .val (.int v0), .val (.int v1), .unset, .unset, .unset, .unset, .unset, .unset] [(.int dd), (.int u2)])) _
        refine XS.iadd X2.here hx rfl (hb hby at_68) rfl ?_
        show Steps p.tables e below (T2.setTop (mkF m 69 #[.val (.int u0), .val (.int u1), .val (.int u2), .val (.int u3), .val (.int u4), .val (.int u5), .val (.int dd), .val (.ref b1), .val (.int v0), .val (.int v1), .unset, .unset, .unset, .unset, .unset, .unset] [(.int (u2 + dd))])) _
        refine XS.goto X2.here hx rfl (pc0 := 69) (pc' := 73) rfl (hb hby at_69) (by decide) (by decide) ?_
        exact hshd5
    show Steps p.tables e below (T2.setTop (mkF m 73 #[.val (.int u0), .val (.int u1), .val (.int u2), .val (.int u3), .val (.int u4), .val (.int u5), .val (.int dd), .val (.ref b1), .val (.int v0), .val (.int v1), .unset, .unset, .unset, .unset, .unset, .unset] [(.int (osel (decide ((u5 &&& (4 : Int32)) = (0 : Int32))) u2 (u2 + dd)))])) _
    rw [hv2]
    show Steps p.tables e below (T2.setTop (mkF m 73 #[.val (.int u0), .val (.int u1), .val (.int u2), .val (.int u3), .val (.int u4), .val (.int u5), .val (.int dd), .val (.ref b1), .val (.int v0), .val (.int v1), .unset, .unset, .unset, .unset, .unset, .unset] [(.int v2)])) _
    refine XS.istore X2.here hx rfl (hb hby at_73) rfl (l' := #[.val (.int u0), .val (.int u1), .val (.int u2), .val (.int u3), .val (.int u4), .val (.int u5), .val (.int dd), .val (.ref b1), .val (.int v0), .val (.int v1), .val (.int v2), .unset, .unset, .unset, .unset, .unset]) rfl ?_
    refine XS.iload X2.here hx rfl (hb hby at_75) rfl ?_
    refine XS.bipush X2.here hx rfl (hb hby at_77) ?_
    show Steps p.tables e below (T2.setTop (mkF m 79 #[.val (.int u0), .val (.int u1), .val (.int u2), .val (.int u3), .val (.int u4), .val (.int u5), .val (.int dd), .val (.ref b1), .val (.int v0), .val (.int v1), .val (.int v2), .unset, .unset, .unset, .unset, .unset] [(.int (8 : Int32)), (.int u5)])) _
    refine XS.iand X2.here hx rfl (hb hby at_79) rfl ?_
    show Steps p.tables e below (T2.setTop (mkF m 80 #[.val (.int u0), .val (.int u1), .val (.int u2), .val (.int u3), .val (.int u4), .val (.int u5), .val (.int dd), .val (.ref b1), .val (.int v0), .val (.int v1), .val (.int v2), .unset, .unset, .unset, .unset, .unset] [(.int (u5 &&& (8 : Int32)))])) _
    suffices hshd6 : Steps p.tables e below (T2.setTop (mkF m 91 #[.val (.int u0), .val (.int u1), .val (.int u2), .val (.int u3), .val (.int u4), .val (.int u5), .val (.int dd), .val (.ref b1), .val (.int v0), .val (.int v1), .val (.int v2), .unset, .unset, .unset, .unset, .unset] [(.int (osel (decide ((u5 &&& (8 : Int32)) = (0 : Int32))) u3 (u3 + dd)))])) (T13.setFrames fs) by
      by_cases hd6 : (u5 &&& (8 : Int32)) = (0 : Int32)
      · rw [show (osel (decide ((u5 &&& (8 : Int32)) = (0 : Int32))) u3 (u3 + dd)) = u3 from if_pos (decide_eq_true hd6)] at hshd6
        refine XS.ifYes X2.here hx rfl (pc0 := 80) (pc' := 90) rfl (hb hby at_80) rfl ((if0 _ _).trans (teq hd6).1) (by decide) (by decide) ?_
        show Steps p.tables e below (T2.setTop (mkF m 90 #[.val (.int u0), .val (.int u1), .val (.int u2), .val (.int u3), .val (.int u4), .val (.int u5), .val (.int dd), .val (.ref b1), .val (.int v0), .val (.int v1), .val (.int v2), .unset, .unset, .unset, .unset, .unset] [])) _
        refine XS.iloadN X2.here hx rfl (hb hby at_90) rfl ?_
        exact hshd6
      · rw [show (osel (decide ((u5 &&& (8 : Int32)) = (0 : Int32))) u3 (u3 + dd)) = (u3 + dd) from if_neg (fun hh => absurd (of_decide_eq_true hh) hd6)] at hshd6
        refine XS.ifNo X2.here hx rfl (hb hby at_80) rfl ((if0 _ _).trans (feq hd6).1) ?_
        show Steps p.tables e below (T2.setTop (mkF m 83 #[.val (.int u0), .val (.int u1), .val (.int u2), .val (.int u3), .val (.int u4), .val (.int u5), .val (.int dd), .val (.ref b1), .val (.int v0), .val (.int v1), .val (.int v2), .unset, .unset, .unset, .unset, .unset] [])) _
        refine XS.iloadN X2.here hx rfl (hb hby at_83) rfl ?_
        show Steps p.tables e below (T2.setTop (mkF m 84 #[.val (.int u0), .val (.int u1), .val (.int u2), .val (.int u3), .val (.int u4), .val (.int u5), .val (.int dd), .val (.ref b1), .val (.int v0), .val (.int v1), .val (.int v2), .unset, .unset, .unset, .unset, .unset] [(.int u3)])) _
        refine XS.iload X2.here hx rfl (hb hby at_84) rfl ?_
        show Steps p.tables e below (T2.setTop (mkF m 86 #[.val (.int u0), .val (.int u1), .val (.int u2), .val (.int u3), .val (.int u4), .val (.int u5), .val (.int dd), .val (.ref b1), .val (.int v0), .val (.int v1), .val (.int v2), .unset, .unset, .unset, .unset, .unset] [(.int dd), (.int u3)])) _
        refine XS.iadd X2.here hx rfl (hb hby at_86) rfl ?_
        show Steps p.tables e below (T2.setTop (mkF m 87 #[.val (.int u0), .val (.int u1), .val (.int u2), .val (.int u3), .val (.int u4), .val (.int u5), .val (.int dd), .val (.ref b1), .val (.int v0), .val (.int v1), .val (.int v2), .unset, .unset, .unset, .unset, .unset] [(.int (u3 + dd))])) _
        refine XS.goto X2.here hx rfl (pc0 := 87) (pc' := 91) rfl (hb hby at_87) (by decide) (by decide) ?_
        exact hshd6
    show Steps p.tables e below (T2.setTop (mkF m 91 #[.val (.int u0), .val (.int u1), .val (.int u2), .val (.int u3), .val (.int u4), .val (.int u5), .val (.int dd), .val (.ref b1), .val (.int v0), .val (.int v1), .val (.int v2), .unset, .unset, .unset, .unset, .unset] [(.int (osel (decide ((u5 &&& (8 : Int32)) = (0 : Int32))) u3 (u3 + dd)))])) _
    rw [hv3]
    show Steps p.tables e below (T2.setTop (mkF m 91 #[.val (.int u0), .val (.int u1), .val (.int u2), .val (.int u3), .val (.int u4), .val (.int u5), .val (.int dd), .val (.ref b1), .val (.int v0), .val (.int v1), .val (.int v2), .unset, .unset, .unset, .unset, .unset] [(.int v3)])) _
    refine XS.istore X2.here hx rfl (hb hby at_91) rfl (l' := #[.val (.int u0), .val (.int u1), .val (.int u2), .val (.int u3), .val (.int u4), .val (.int u5), .val (.int dd), .val (.ref b1), .val (.int v0), .val (.int v1), .val (.int v2), .val (.int v3), .unset, .unset, .unset, .unset]) rfl ?_
    refine XS.iload X2.here hx rfl (hb hby at_93) rfl ?_
    refine XS.bipush X2.here hx rfl (hb hby at_95) ?_
    show Steps p.tables e below (T2.setTop (mkF m 97 #[.val (.int u0), .val (.int u1), .val (.int u2), .val (.int u3), .val (.int u4), .val (.int u5), .val (.int dd), .val (.ref b1), .val (.int v0), .val (.int v1), .val (.int v2), .val (.int v3), .unset, .unset, .unset, .unset] [(.int (16 : Int32)), (.int u5)])) _
    refine XS.iand X2.here hx rfl (hb hby at_97) rfl ?_
    show Steps p.tables e below (T2.setTop (mkF m 98 #[.val (.int u0), .val (.int u1), .val (.int u2), .val (.int u3), .val (.int u4), .val (.int u5), .val (.int dd), .val (.ref b1), .val (.int v0), .val (.int v1), .val (.int v2), .val (.int v3), .unset, .unset, .unset, .unset] [(.int (u5 &&& (16 : Int32)))])) _
    suffices hshd7 : Steps p.tables e below (T2.setTop (mkF m 111 #[.val (.int u0), .val (.int u1), .val (.int u2), .val (.int u3), .val (.int u4), .val (.int u5), .val (.int dd), .val (.ref b1), .val (.int v0), .val (.int v1), .val (.int v2), .val (.int v3), .unset, .unset, .unset, .unset] [(.int (osel (decide ((u5 &&& (16 : Int32)) = (0 : Int32))) u4 (u4 + dd)))])) (T13.setFrames fs) by
      by_cases hd7 : (u5 &&& (16 : Int32)) = (0 : Int32)
      · rw [show (osel (decide ((u5 &&& (16 : Int32)) = (0 : Int32))) u4 (u4 + dd)) = u4 from if_pos (decide_eq_true hd7)] at hshd7
        refine XS.ifYes X2.here hx rfl (pc0 := 98) (pc' := 109) rfl (hb hby at_98) rfl ((if0 _ _).trans (teq hd7).1) (by decide) (by decide) ?_
        show Steps p.tables e below (T2.setTop (mkF m 109 #[.val (.int u0), .val (.int u1), .val (.int u2), .val (.int u3), .val (.int u4), .val (.int u5), .val (.int dd), .val (.ref b1), .val (.int v0), .val (.int v1), .val (.int v2), .val (.int v3), .unset, .unset, .unset, .unset] [])) _
        refine XS.iload X2.here hx rfl (hb hby at_109) rfl ?_
        exact hshd7
      · rw [show (osel (decide ((u5 &&& (16 : Int32)) = (0 : Int32))) u4 (u4 + dd)) = (u4 + dd) from if_neg (fun hh => absurd (of_decide_eq_true hh) hd7)] at hshd7
        refine XS.ifNo X2.here hx rfl (hb hby at_98) rfl ((if0 _ _).trans (feq hd7).1) ?_
        show Steps p.tables e below (T2.setTop (mkF m 101 #[.val (.int u0), .val (.int u1), .val (.int u2), .val (.int u3), .val (.int u4), .val (.int u5), .val (.int dd), .val (.ref b1), .val (.int v0), .val (.int v1), .val (.int v2), .val (.int v3), .unset, .unset, .unset, .unset] [])) _
        refine XS.iload X2.here hx rfl (hb hby at_101) rfl ?_
        show Steps p.tables e below (T2.setTop (mkF m 103 #[.val (.int u0), .val (.int u1), .val (.int u2), .val (.int u3), .val (.int u4), .val (.int u5), .val (.int dd), .val (.ref b1), .val (.int v0), .val (.int v1), .val (.int v2), .val (.int v3), .unset, .unset, .unset, .unset] [(.int u4)])) _
        refine XS.iload X2.here hx rfl (hb hby at_103) rfl ?_
        show Steps p.tables e below (T2.setTop (mkF m 105 #[.val (.int u0), .val (.int u1), .val (.int u2), .val (.int u3), .val (.int u4), .val (.int u5), .val (.int dd), .val (.ref b1), .val (.int v0), .val (.int v1), .val (.int v2), .val (.int v3), .unset, .unset, .unset, .unset] [(.int dd), (.int u4)])) _
        refine XS.iadd X2.here hx rfl (hb hby at_105) rfl ?_
        show Steps p.tables e below (T2.setTop (mkF m 106 #[.val (.int u0), .val (.int u1), .val (.int u2), .val (.int u3), .val (.int u4), .val (.int u5), .val (.int dd), .val (.ref b1), .val (.int v0), .val (.int v1), .val (.int v2), .val (.int v3), .unset, .unset, .unset, .unset] [(.int (u4 + dd))])) _
        refine XS.goto X2.here hx rfl (pc0 := 106) (pc' := 111) rfl (hb hby at_106) (by decide) (by decide) ?_
        exact hshd7
    show Steps p.tables e below (T2.setTop (mkF m 111 #[.val (.int u0), .val (.int u1), .val (.int u2), .val (.int u3), .val (.int u4), .val (.int u5), .val (.int dd), .val (.ref b1), .val (.int v0), .val (.int v1), .val (.int v2), .val (.int v3), .unset, .unset, .unset, .unset] [(.int (osel (decide ((u5 &&& (16 : Int32)) = (0 : Int32))) u4 (u4 + dd)))])) _
    rw [hv4]
    show Steps p.tables e below (T2.setTop (mkF m 111 #[.val (.int u0), .val (.int u1), .val (.int u2), .val (.int u3), .val (.int u4), .val (.int u5), .val (.int dd), .val (.ref b1), .val (.int v0), .val (.int v1), .val (.int v2), .val (.int v3), .unset, .unset, .unset, .unset] [(.int v4)])) _
    refine XS.istore X2.here hx rfl (hb hby at_111) rfl (l' := #[.val (.int u0), .val (.int u1), .val (.int u2), .val (.int u3), .val (.int u4), .val (.int u5), .val (.int dd), .val (.ref b1), .val (.int v0), .val (.int v1), .val (.int v2), .val (.int v3), .val (.int v4), .unset, .unset, .unset]) rfl ?_
    refine st8 _ ?_
    refine XS.dup X8.here hx rfl (hb hby at_116) rfl rfl ?_
    show Steps p.tables e below (T8.setTop (mkF m 117 #[.val (.int u0), .val (.int u1), .val (.int u2), .val (.int u3), .val (.int u4), .val (.int u5), .val (.int dd), .val (.ref b1), .val (.int v0), .val (.int v1), .val (.int v2), .val (.int v3), .val (.int v4), .unset, .unset, .unset] [(.ref b2), (.ref b2)])) _
    refine XS.iload X8.here hx rfl (hb hby at_117) rfl ?_
    refine XS.iload X8.here hx rfl (hb hby at_119) rfl ?_
    refine XS.iload X8.here hx rfl (hb hby at_121) rfl ?_
    show Steps p.tables e below (T8.setTop (mkF m 123 #[.val (.int u0), .val (.int u1), .val (.int u2), .val (.int u3), .val (.int u4), .val (.int u5), .val (.int dd), .val (.ref b1), .val (.int v0), .val (.int v1), .val (.int v2), .val (.int v3), .val (.int v4), .unset, .unset, .unset] [(.int v2), (.int v1), (.int v0), (.ref b2), (.ref b2)])) _
    refine XS.iload X8.here hx rfl (hb hby at_123) rfl ?_
    refine XS.iload X8.here hx rfl (hb hby at_125) rfl ?_
    refine st9.trans ?_
    show Steps p.tables e below (T9.setTop (mkF m 130 #[.val (.int u0), .val (.int u1), .val (.int u2), .val (.int u3), .val (.int u4), .val (.int u5), .val (.int dd), .val (.ref b1), .val (.int v0), .val (.int v1), .val (.int v2), .val (.int v3), .val (.int v4), .unset, .unset, .unset] [(.ref b2)])) _
    refine XS.astore X9.here hx rfl (hb hby at_130) rfl rfl (l' := #[.val (.int u0), .val (.int u1), .val (.int u2), .val (.int u3), .val (.int u4), .val (.int u5), .val (.int dd), .val (.ref b1), .val (.int v0), .val (.int v1), .val (.int v2), .val (.int v3), .val (.int v4), .val (.ref b2), .unset, .unset]) rfl ?_
    refine XS.iload X9.here hx rfl (hb hby at_132) rfl ?_
    refine XS.bipush X9.here hx rfl (hb hby at_134) ?_
    show Steps p.tables e below (T9.setTop (mkF m 136 #[.val (.int u0), .val (.int u1), .val (.int u2), .val (.int u3), .val (.int u4), .val (.int u5), .val (.int dd), .val (.ref b1), .val (.int v0), .val (.int v1), .val (.int v2), .val (.int v3), .val (.int v4), .val (.ref b2), .unset, .unset] [(.int (31 : Int32)), (.int u5)])) _
    refine XS.iand X9.here hx rfl (hb hby at_136) rfl ?_
    show Steps p.tables e below (T9.setTop (mkF m 137 #[.val (.int u0), .val (.int u1), .val (.int u2), .val (.int u3), .val (.int u4), .val (.int u5), .val (.int dd), .val (.ref b1), .val (.int v0), .val (.int v1), .val (.int v2), .val (.int v3), .val (.int v4), .val (.ref b2), .unset, .unset] [(.int (u5 &&& (31 : Int32)))])) _
    suffices hshd10 : Steps p.tables e below (T9.setTop (mkF m 145 #[.val (.int u0), .val (.int u1), .val (.int u2), .val (.int u3), .val (.int u4), .val (.int u5), .val (.int dd), .val (.ref b1), .val (.int v0), .val (.int v1), .val (.int v2), .val (.int v3), .val (.int v4), .val (.ref b2), .unset, .unset] [(.int (osel (decide ((u5 &&& (31 : Int32)) = (0 : Int32))) (1 : Int32) (0 : Int32)))])) (T13.setFrames fs) by
      by_cases hd10 : (u5 &&& (31 : Int32)) = (0 : Int32)
      · rw [show (osel (decide ((u5 &&& (31 : Int32)) = (0 : Int32))) (1 : Int32) (0 : Int32)) = (1 : Int32) from if_pos (decide_eq_true hd10)] at hshd10
        refine XS.ifNo X9.here hx rfl (hb hby at_137) rfl ((if0 _ _).trans (teq hd10).2) ?_
        show Steps p.tables e below (T9.setTop (mkF m 140 #[.val (.int u0), .val (.int u1), .val (.int u2), .val (.int u3), .val (.int u4), .val (.int u5), .val (.int dd), .val (.ref b1), .val (.int v0), .val (.int v1), .val (.int v2), .val (.int v3), .val (.int v4), .val (.ref b2), .unset, .unset] [])) _
        refine XS.iconst X9.here hx rfl (hb hby at_140) ?_
        show Steps p.tables e below (T9.setTop (mkF m 141 #[.val (.int u0), .val (.int u1), .val (.int u2), .val (.int u3), .val (.int u4), .val (.int u5), .val (.int dd), .val (.ref b1), .val (.int v0), .val (.int v1), .val (.int v2), .val (.int v3), .val (.int v4), .val (.ref b2), .unset, .unset] [(.int (1 : Int32))])) _
        refine XS.goto X9.here hx rfl (pc0 := 141) (pc' := 145) rfl (hb hby at_141) (by decide) (by decide) ?_
        exact hshd10
      · rw [show (osel (decide ((u5 &&& (31 : Int32)) = (0 : Int32))) (1 : Int32) (0 : Int32)) = (0 : Int32) from if_neg (fun hh => absurd (of_decide_eq_true hh) hd10)] at hshd10
        refine XS.ifYes X9.here hx rfl (pc0 := 137) (pc' := 144) rfl (hb hby at_137) rfl ((if0 _ _).trans (feq hd10).2) (by decide) (by decide) ?_
        show Steps p.tables e below (T9.setTop (mkF m 144 #[.val (.int u0), .val (.int u1), .val (.int u2), .val (.int u3), .val (.int u4), .val (.int u5), .val (.int dd), .val (.ref b1), .val (.int v0), .val (.int v1), .val (.int v2), .val (.int v3), .val (.int v4), .val (.ref b2), .unset, .unset] [])) _
        refine XS.iconst X9.here hx rfl (hb hby at_144) ?_
        exact hshd10
    show Steps p.tables e below (T9.setTop (mkF m 145 #[.val (.int u0), .val (.int u1), .val (.int u2), .val (.int u3), .val (.int u4), .val (.int u5), .val (.int dd), .val (.ref b1), .val (.int v0), .val (.int v1), .val (.int v2), .val (.int v3), .val (.int v4), .val (.ref b2), .unset, .unset] [(.int (osel (decide ((u5 &&& (31 : Int32)) = (0 : Int32))) (1 : Int32) (0 : Int32)))])) _
    rw [hsm]
    show Steps p.tables e below (T9.setTop (mkF m 145 #[.val (.int u0), .val (.int u1), .val (.int u2), .val (.int u3), .val (.int u4), .val (.int u5), .val (.int dd), .val (.ref b1), .val (.int v0), .val (.int v1), .val (.int v2), .val (.int v3), .val (.int v4), .val (.ref b2), .unset, .unset] [(.int sm)])) _
    refine XS.istore X9.here hx rfl (hb hby at_145) rfl (l' := #[.val (.int u0), .val (.int u1), .val (.int u2), .val (.int u3), .val (.int u4), .val (.int u5), .val (.int dd), .val (.ref b1), .val (.int v0), .val (.int v1), .val (.int v2), .val (.int v3), .val (.int v4), .val (.ref b2), .val (.int sm), .unset]) rfl ?_
    refine XS.iload X9.here hx rfl (hb hby at_147) rfl ?_
    refine XS.iconst X9.here hx rfl (hb hby at_149) ?_
    show Steps p.tables e below (T9.setTop (mkF m 150 #[.val (.int u0), .val (.int u1), .val (.int u2), .val (.int u3), .val (.int u4), .val (.int u5), .val (.int dd), .val (.ref b1), .val (.int v0), .val (.int v1), .val (.int v2), .val (.int v3), .val (.int v4), .val (.ref b2), .val (.int sm), .unset] [(.int (5 : Int32)), (.int u5)])) _
    refine XS.ishr X9.here hx rfl (hb hby at_150) rfl ?_
    refine XS.iconst X9.here hx rfl (hb hby at_151) ?_
    refine XS.iand X9.here hx rfl (hb hby at_152) rfl ?_
    show Steps p.tables e below (T9.setTop (mkF m 153 #[.val (.int u0), .val (.int u1), .val (.int u2), .val (.int u3), .val (.int u4), .val (.int u5), .val (.int dd), .val (.ref b1), .val (.int v0), .val (.int v1), .val (.int v2), .val (.int v3), .val (.int v4), .val (.ref b2), .val (.int sm), .unset] [(.int ((u5 >>> ((5 : Int32) &&& 31)) &&& (3 : Int32)))])) _
    refine XS.istore X9.here hx rfl (hb hby at_153) rfl (l' := #[.val (.int u0), .val (.int u1), .val (.int u2), .val (.int u3), .val (.int u4), .val (.int u5), .val (.int dd), .val (.ref b1), .val (.int v0), .val (.int v1), .val (.int v2), .val (.int v3), .val (.int v4), .val (.ref b2), .val (.int sm), .val (.int ((u5 >>> ((5 : Int32) &&& 31)) &&& (3 : Int32)))]) rfl ?_
    refine XS.iload X9.here hx rfl (hb hby at_155) rfl ?_
    refine XS.iconst X9.here hx rfl (hb hby at_157) ?_
    show Steps p.tables e below (T9.setTop (mkF m 158 #[.val (.int u0), .val (.int u1), .val (.int u2), .val (.int u3), .val (.int u4), .val (.int u5), .val (.int dd), .val (.ref b1), .val (.int v0), .val (.int v1), .val (.int v2), .val (.int v3), .val (.int v4), .val (.ref b2), .val (.int sm), .val (.int ((u5 >>> ((5 : Int32) &&& 31)) &&& (3 : Int32)))] [(.int (1 : Int32)), (.int ((u5 >>> ((5 : Int32) &&& 31)) &&& (3 : Int32)))])) _
    refine XS.icmpYes X9.here hx rfl (pc0 := 158) (pc' := 186) rfl (hb hby at_158) rfl (feq hf1).2 (by decide) (by decide) ?_
    refine XS.iload X9.here hx rfl (hb hby at_186) rfl ?_
    refine XS.iconst X9.here hx rfl (hb hby at_188) ?_
    show Steps p.tables e below (T9.setTop (mkF m 189 #[.val (.int u0), .val (.int u1), .val (.int u2), .val (.int u3), .val (.int u4), .val (.int u5), .val (.int dd), .val (.ref b1), .val (.int v0), .val (.int v1), .val (.int v2), .val (.int v3), .val (.int v4), .val (.ref b2), .val (.int sm), .val (.int ((u5 >>> ((5 : Int32) &&& 31)) &&& (3 : Int32)))] [(.int (2 : Int32)), (.int ((u5 >>> ((5 : Int32) &&& 31)) &&& (3 : Int32)))])) _
    refine XS.icmpYes X9.here hx rfl (pc0 := 189) (pc' := 220) rfl (hb hby at_189) rfl (feq hf2).2 (by decide) (by decide) ?_
    refine XS.aload X9.here hx rfl (hb hby at_220) rfl rfl ?_
    refine XS.aload X9.here hx rfl (hb hby at_222) rfl rfl ?_
    show Steps p.tables e below (T9.setTop (mkF m 224 #[.val (.int u0), .val (.int u1), .val (.int u2), .val (.int u3), .val (.int u4), .val (.int u5), .val (.int dd), .val (.ref b1), .val (.int v0), .val (.int v1), .val (.int v2), .val (.int v3), .val (.int v4), .val (.ref b2), .val (.int sm), .val (.int ((u5 >>> ((5 : Int32) &&& 31)) &&& (3 : Int32)))] [(.ref b2), (.ref b1)])) _
    refine st11.trans ?_
    refine XS.iload X11.here hx rfl (hb hby at_227) rfl ?_
    refine XS.icmpNo X11.here hx rfl (hb hby at_229) rfl (teq hf14).2 ?_
    show Steps p.tables e below (T11.setTop (mkF m 232 #[.val (.int u0), .val (.int u1), .val (.int u2), .val (.int u3), .val (.int u4), .val (.int u5), .val (.int dd), .val (.ref b1), .val (.int v0), .val (.int v1), .val (.int v2), .val (.int v3), .val (.int v4), .val (.ref b2), .val (.int sm), .val (.int ((u5 >>> ((5 : Int32) &&& 31)) &&& (3 : Int32)))] [])) _
    refine XS.aload X11.here hx rfl (hb hby at_232) rfl rfl ?_
    refine XS.aload X11.here hx rfl (hb hby at_234) rfl rfl ?_
    refine st12.trans ?_
    show Steps p.tables e below (T12.setTop (mkF m 239 #[.val (.int u0), .val (.int u1), .val (.int u2), .val (.int u3), .val (.int u4), .val (.int u5), .val (.int dd), .val (.ref b1), .val (.int v0), .val (.int v1), .val (.int v2), .val (.int v3), .val (.int v4), .val (.ref b2), .val (.int sm), .val (.int ((u5 >>> ((5 : Int32) &&& 31)) &&& (3 : Int32)))] [(.int (0 : Int32))])) _
    refine XS.iload X12.here hx rfl (hb hby at_239) rfl ?_
    refine XS.icmpNo X12.here hx rfl (hb hby at_241) rfl (teq hf14).2 ?_
    refine XS.aload X12.here hx rfl (hb hby at_244) rfl rfl ?_
    show Steps p.tables e below (T12.setTop (mkF m 246 #[.val (.int u0), .val (.int u1), .val (.int u2), .val (.int u3), .val (.int u4), .val (.int u5), .val (.int dd), .val (.ref b1), .val (.int v0), .val (.int v1), .val (.int v2), .val (.int v3), .val (.int v4), .val (.ref b2), .val (.int sm), .val (.int ((u5 >>> ((5 : Int32) &&& 31)) &&& (3 : Int32)))] [(.ref b1)])) _
    refine XS.aload X12.here hx rfl (hb hby at_246) rfl rfl ?_
    refine st13.trans ?_
    refine XS.ifNo X13.here hx rfl (hb hby at_251) rfl ((if0 _ _).trans (feq (by decide : ¬ ((1 : Int32) = (0 : Int32)))).1) ?_
    show Steps p.tables e below (T13.setTop (mkF m 254 #[.val (.int u0), .val (.int u1), .val (.int u2), .val (.int u3), .val (.int u4), .val (.int u5), .val (.int dd), .val (.ref b1), .val (.int v0), .val (.int v1), .val (.int v2), .val (.int v3), .val (.int v4), .val (.ref b2), .val (.int sm), .val (.int ((u5 >>> ((5 : Int32) &&& 31)) &&& (3 : Int32)))] [])) _
    refine XS.iconst X13.here hx rfl (hb hby at_254) ?_
    refine XS.goto X13.here hx rfl (pc0 := 255) (pc' := 259) rfl (hb hby at_255) (by decide) (by decide) ?_
    show Steps p.tables e below (T13.setTop (mkF m 259 #[.val (.int u0), .val (.int u1), .val (.int u2), .val (.int u3), .val (.int u4), .val (.int u5), .val (.int dd), .val (.ref b1), .val (.int v0), .val (.int v1), .val (.int v2), .val (.int v3), .val (.int v4), .val (.ref b2), .val (.int sm), .val (.int ((u5 >>> ((5 : Int32) &&& 31)) &&& (3 : Int32)))] [(.int (1 : Int32))])) _
    exact retN X13 hx (t := .boolean) Bd.returns (by simp) (hb hby at_259) hr
  · exact ⟨rfl, N13⟩
set_option maxRecDepth 65536 in
set_option maxHeartbeats 40000000 in
theorem rm_equals_32 (l : Launch) (Z : State) (a0 : Array Value) (hw : ∀ d ∈ tables_1, d.before a0 Z = true) (w : Nat → Addr) (κ : Nat → ClassId) (h0 : Heap) (n0 : Nat) (Z0 : n0 ≤ h0.size) (K : Kon Z h0 w κ) (u0 u1 u2 u3 u4 u5 dd v0 v1 v2 v3 v4 sm : Int32) (b1 : Addr) (b2 : Addr) (hf5 : ¬ (u0 = v0)) (fF_b1_com_example_bot_workflow_runner_botworkflowrunner_model_Progress_total : Fld Z h0 b1 "com/example/bot_workflow_runner/botworkflowrunner/model/Progress" "total" "I" (.int u0)) (fE_b2 : Exa Z h0 b2 "com/example/bot_workflow_runner/botworkflowrunner/model/Progress") (fF_b2_com_example_bot_workflow_runner_botworkflowrunner_model_Progress_total : Fld Z h0 b2 "com/example/bot_workflow_runner/botworkflowrunner/model/Progress" "total" "I" (.int v0)) :
    OM l Z (⟨"com/example/bot_workflow_runner/botworkflowrunner/model/Progress", "equals", "(Ljava/lang/Object;)Z"⟩ : MethodName) prog_31_method_10_code 3 (some .boolean) [] ({ frames := 0, cells := 0, slots := 0, locals := 0 } : Room) #[(.ref b1), (.ref b2)] h0 (OP (some (.int (0 : Int32))) n0 h0) := by
  refine MetFree.of_bodySF (plainFor_of_name pn_com_example_bot_workflow_runner_botworkflowrunner_model_Progress) hisR ?_
  intro p e s m args below meth c s₁ Bd hml0 hP hK
  obtain ⟨rfl, hZ, hh⟩ := hP
  have hx := Bd.exec
  have hby := Bd.bytes
  have hml : c.maxLocals = 3 := hml0
  have hown : s.vm.findClass "com/example/bot_workflow_runner/botworkflowrunner/model/Progress" = some m.cls := findClass_of_methodNamed Bd.named
  have hnm := (name_of_methodNamed Bd.named Bd.method).1
  have X0 : Stand p l e ({ frames := 0, cells := 0, slots := 0, locals := 0 } : Room) s m #[(.ref b1), (.ref b2)] below meth c s₁ [] 0 0 := Stand.of_body Bd
  have e0 : s₁.heap = h0 := by rw [← hh, Bd.state]; rfl
  have N0 := Fr.nil n0
  have pre0 : ∀ t, Steps p.tables e below (s₁.setTop (mkF m 0 #[.val (.ref b1), .val (.ref b2), .unset] [])) t → Steps p.tables e below (s₁.setTop (entryFrame m #[(.ref b1), (.ref b2)] 3)) t := fun t k => castTop (ef_prog_31_method_10_code_RR m b1 b2) k
  obtain ⟨T1, X1, e1, st1⟩ := instY X0 hx hZ hown (hw _ (List.mem_of_getElem? (i := 24) rfl)) e0 (Ins.self fE_b2) (g := (mkF m 1 #[.val (.ref b1), .val (.ref b2), .unset] [(.ref b2)])) rfl rfl (hb hby d_prog_31_method_10_code_1)
  obtain ⟨T2, X2, e2, st2⟩ := castY X1 hx hZ hown (hw _ (List.mem_of_getElem? (i := 24) rfl)) e1 (Ins.self fE_b2) (g := (mkF m 10 #[.val (.ref b1), .val (.ref b2), .unset] [(.ref b2)])) rfl rfl (hb hby d_prog_31_method_10_code_10)
  obtain ⟨T3, X3, e3, st3⟩ := getF X2 hx hZ hown (host := "") (Or.inl (hw _ (List.mem_of_getElem? (i := 9) rfl))) Via.refl e2 fF_b1_com_example_bot_workflow_runner_botworkflowrunner_model_Progress_total (g := (mkF m 15 #[.val (.ref b1), .val (.ref b2), .val (.ref b2)] [(.ref b1)])) rfl rfl (hb hby d_prog_31_method_10_code_15)
  obtain ⟨T4, X4, e4, st4⟩ := getF X3 hx hZ hown (host := "") (Or.inl (hw _ (List.mem_of_getElem? (i := 9) rfl))) Via.refl e3 fF_b2_com_example_bot_workflow_runner_botworkflowrunner_model_Progress_total (g := (mkF m 19 #[.val (.ref b1), .val (.ref b2), .val (.ref b2)] [(.ref b2), (.int u0)])) rfl rfl (hb hby d_prog_31_method_10_code_19)
  obtain ⟨fs, hr, hrun, hended, hW, hsame⟩ := X4.leave (v := (some (.int (0 : Int32)))) (fun h => by rw [Bd.returns] at h; cases h)
  refine ⟨_, _, pre0 _ ?_, hrun, hended, _, _, rfl, ?_, ⟨_, rfl⟩, hW, hsame.mono (by decide) (by decide)⟩
  · show Steps p.tables e below (s₁.setTop (mkF m 0 #[.val (.ref b1), .val (.ref b2), .unset] [])) _
    refine XS.aloadN X0.here hx rfl (hb hby d_prog_31_method_10_code_0) rfl rfl ?_
    refine st1 _ ?_
    refine XS.ifYes X1.here hx rfl (pc0 := 4) (pc' := 9) rfl (hb hby d_prog_31_method_10_code_4) rfl ((if0 _ _).trans (feq (by decide : ¬ ((1 : Int32) = (0 : Int32)))).2) (by decide) (by decide) ?_
    show Steps p.tables e below (T1.setTop (mkF m 9 #[.val (.ref b1), .val (.ref b2), .unset] [])) _
    refine XS.aloadN X1.here hx rfl (hb hby d_prog_31_method_10_code_9) rfl rfl ?_
    refine st2 _ ?_
    refine XS.astoreN X2.here hx rfl (hb hby d_prog_31_method_10_code_13) rfl rfl (l' := #[.val (.ref b1), .val (.ref b2), .val (.ref b2)]) rfl ?_
    show Steps p.tables e below (T2.setTop (mkF m 14 #[.val (.ref b1), .val (.ref b2), .val (.ref b2)] [])) _
    refine XS.aloadN X2.here hx rfl (hb hby d_prog_31_method_10_code_14) rfl rfl ?_
    refine st3 _ ?_
    refine XS.aloadN X3.here hx rfl (hb hby d_prog_31_method_10_code_18) rfl rfl ?_
    show Steps p.tables e below (T3.setTop (mkF m 19 #[.val (.ref b1), .val (.ref b2), .val (.ref b2)] [(.ref b2), (.int u0)])) _
    refine st4 _ ?_
    refine XS.icmpYes X4.here hx rfl (pc0 := 22) (pc' := 73) rfl (hb hby d_prog_31_method_10_code_22) rfl (feq hf5).2 (by decide) (by decide) ?_
    refine XS.iconst X4.here hx rfl (hb hby d_prog_31_method_10_code_73) ?_
    show Steps p.tables e below (T4.setTop (mkF m 74 #[.val (.ref b1), .val (.ref b2), .val (.ref b2)] [(.int (0 : Int32))])) _
    exact retN X4 hx (t := .boolean) Bd.returns (by simp) (hb hby d_prog_31_method_10_code_74) hr
  · exact ⟨rfl, N0, e4⟩
set_option maxRecDepth 65536 in
set_option maxHeartbeats 40000000 in
theorem rm_equals_33 (l : Launch) (Z : State) (a0 : Array Value) (hw : ∀ d ∈ tables_1, d.before a0 Z = true) (w : Nat → Addr) (κ : Nat → ClassId) (h0 : Heap) (n0 : Nat) (Z0 : n0 ≤ h0.size) (K : Kon Z h0 w κ) (u0 u1 u2 u3 u4 u5 dd v0 v1 v2 v3 v4 sm : Int32) (b1 : Addr) (b2 : Addr) (hf5 : ¬ (u0 = v0)) (hv0 : (osel (decide ((u5 &&& (1 : Int32)) = (0 : Int32))) u0 (u0 + dd)) = v0) (fE_b1 : Exa Z h0 b1 "com/example/bot_workflow_runner/botworkflowrunner/model/Progress") (fF_b1_com_example_bot_workflow_runner_botworkflowrunner_model_Progress_total : Fld Z h0 b1 "com/example/bot_workflow_runner/botworkflowrunner/model/Progress" "total" "I" (.int u0)) (fF_b2_com_example_bot_workflow_runner_botworkflowrunner_model_Progress_total : Fld Z h0 b2 "com/example/bot_workflow_runner/botworkflowrunner/model/Progress" "total" "I" (.int v0)) :
    OM l Z (⟨"com/example/bot_workflow_runner/botworkflowrunner/model/Progress", "equals", "(Ljava/lang/Object;)Z"⟩ : MethodName) prog_31_method_10_code 3 (some .boolean) [] ({ frames := 0, cells := 0, slots := 0, locals := 0 } : Room) #[(.ref b2), (.ref b1)] h0 (OP (some (.int (0 : Int32))) n0 h0) := by
  refine MetFree.of_bodySF (plainFor_of_name pn_com_example_bot_workflow_runner_botworkflowrunner_model_Progress) hisR ?_
  intro p e s m args below meth c s₁ Bd hml0 hP hK
  obtain ⟨rfl, hZ, hh⟩ := hP
  have hx := Bd.exec
  have hby := Bd.bytes
  have hml : c.maxLocals = 3 := hml0
  have hown : s.vm.findClass "com/example/bot_workflow_runner/botworkflowrunner/model/Progress" = some m.cls := findClass_of_methodNamed Bd.named
  have hnm := (name_of_methodNamed Bd.named Bd.method).1
  have X0 : Stand p l e ({ frames := 0, cells := 0, slots := 0, locals := 0 } : Room) s m #[(.ref b2), (.ref b1)] below meth c s₁ [] 0 0 := Stand.of_body Bd
  have e0 : s₁.heap = h0 := by rw [← hh, Bd.state]; rfl
  have N0 := Fr.nil n0
  have pre0 : ∀ t, Steps p.tables e below (s₁.setTop (mkF m 0 #[.val (.ref b2), .val (.ref b1), .unset] [])) t → Steps p.tables e below (s₁.setTop (entryFrame m #[(.ref b2), (.ref b1)] 3)) t := fun t k => castTop (ef_prog_31_method_10_code_RR m b2 b1) k
  obtain ⟨T1, X1, e1, st1⟩ := instY X0 hx hZ hown (hw _ (List.mem_of_getElem? (i := 24) rfl)) e0 (Ins.self fE_b1) (g := (mkF m 1 #[.val (.ref b2), .val (.ref b1), .unset] [(.ref b1)])) rfl rfl (hb hby d_prog_31_method_10_code_1)
  obtain ⟨T2, X2, e2, st2⟩ := castY X1 hx hZ hown (hw _ (List.mem_of_getElem? (i := 24) rfl)) e1 (Ins.self fE_b1) (g := (mkF m 10 #[.val (.ref b2), .val (.ref b1), .unset] [(.ref b1)])) rfl rfl (hb hby d_prog_31_method_10_code_10)
  obtain ⟨T3, X3, e3, st3⟩ := getF X2 hx hZ hown (host := "") (Or.inl (hw _ (List.mem_of_getElem? (i := 9) rfl))) Via.refl e2 fF_b2_com_example_bot_workflow_runner_botworkflowrunner_model_Progress_total (g := (mkF m 15 #[.val (.ref b2), .val (.ref b1), .val (.ref b1)] [(.ref b2)])) rfl rfl (hb hby d_prog_31_method_10_code_15)
  obtain ⟨T4, X4, e4, st4⟩ := getF X3 hx hZ hown (host := "") (Or.inl (hw _ (List.mem_of_getElem? (i := 9) rfl))) Via.refl e3 fF_b1_com_example_bot_workflow_runner_botworkflowrunner_model_Progress_total (g := (mkF m 19 #[.val (.ref b2), .val (.ref b1), .val (.ref b1)] [(.ref b1), (.int v0)])) rfl rfl (hb hby d_prog_31_method_10_code_19)
  obtain ⟨fs, hr, hrun, hended, hW, hsame⟩ := X4.leave (v := (some (.int (0 : Int32)))) (fun h => by rw [Bd.returns] at h; cases h)
  refine ⟨_, _, pre0 _ ?_, hrun, hended, _, _, rfl, ?_, ⟨_, rfl⟩, hW, hsame.mono (by decide) (by decide)⟩
  · show Steps p.tables e below (s₁.setTop (mkF m 0 #[.val (.ref b2), .val (.ref b1), .unset] [])) _
    refine XS.aloadN X0.here hx rfl (hb hby d_prog_31_method_10_code_0) rfl rfl ?_
    refine st1 _ ?_
    refine XS.ifYes X1.here hx rfl (pc0 := 4) (pc' := 9) rfl (hb hby d_prog_31_method_10_code_4) rfl ((if0 _ _).trans (feq (by decide : ¬ ((1 : Int32) = (0 : Int32)))).2) (by decide) (by decide) ?_
    show Steps p.tables e below (T1.setTop (mkF m 9 #[.val (.ref b2), .val (.ref b1), .unset] [])) _
    refine XS.aloadN X1.here hx rfl (hb hby d_prog_31_method_10_code_9) rfl rfl ?_
    refine st2 _ ?_
    refine XS.astoreN X2.here hx rfl (hb hby d_prog_31_method_10_code_13) rfl rfl (l' := #[.val (.ref b2), .val (.ref b1), .val (.ref b1)]) rfl ?_
    show Steps p.tables e below (T2.setTop (mkF m 14 #[.val (.ref b2), .val (.ref b1), .val (.ref b1)] [])) _
    refine XS.aloadN X2.here hx rfl (hb hby d_prog_31_method_10_code_14) rfl rfl ?_
    refine st3 _ ?_
    refine XS.aloadN X3.here hx rfl (hb hby d_prog_31_method_10_code_18) rfl rfl ?_
    show Steps p.tables e below (T3.setTop (mkF m 19 #[.val (.ref b2), .val (.ref b1), .val (.ref b1)] [(.ref b1), (.int v0)])) _
    refine st4 _ ?_
    refine XS.icmpYes X4.here hx rfl (pc0 := 22) (pc' := 73) rfl (hb hby d_prog_31_method_10_code_22) rfl (feq (by have z0 := congrArg Int32.toInt hv0; have z1 := mt Int32.toInt_inj.mp hf5; have r0 := rng32 v0; have r1 := rng32 u0; exact fun hh => absurd (congrArg Int32.toInt hh) (by omega) : ¬ (v0 = u0))).2 (by decide) (by decide) ?_
    refine XS.iconst X4.here hx rfl (hb hby d_prog_31_method_10_code_73) ?_
    show Steps p.tables e below (T4.setTop (mkF m 74 #[.val (.ref b2), .val (.ref b1), .val (.ref b1)] [(.int (0 : Int32))])) _
    exact retN X4 hx (t := .boolean) Bd.returns (by simp) (hb hby d_prog_31_method_10_code_74) hr
  · exact ⟨rfl, N0, e4⟩
set_option maxRecDepth 65536 in
set_option maxHeartbeats 40000000 in
theorem rm0_34 (l : Launch) (Z : State) (a0 : Array Value) (hw : ∀ d ∈ tables_1, d.before a0 Z = true) (w : Nat → Addr) (κ : Nat → ClassId) (h0 : Heap) (n0 : Nat) (Z0 : n0 ≤ h0.size) (K : Kon Z h0 w κ) (u0 u1 u2 u3 u4 u5 dd v0 v1 v2 v3 v4 sm : Int32) (hdd : ((u5 >>> ((8 : Int32) &&& 31)) ||| (1 : Int32)) = dd) (hf1 : ¬ (((u5 >>> ((5 : Int32) &&& 31)) &&& (3 : Int32)) = (1 : Int32))) (hf15 : (0 : Int32) = sm) (hf2 : ¬ (((u5 >>> ((5 : Int32) &&& 31)) &&& (3 : Int32)) = (2 : Int32))) (hf5 : ¬ (u0 = v0)) (hsm : (osel (decide ((u5 &&& (31 : Int32)) = (0 : Int32))) (1 : Int32) (0 : Int32)) = sm) (hv0 : (osel (decide ((u5 &&& (1 : Int32)) = (0 : Int32))) u0 (u0 + dd)) = v0) (hv1 : (osel (decide ((u5 &&& (2 : Int32)) = (0 : Int32))) u1 (u1 + dd)) = v1) (hv2 : (osel (decide ((u5 &&& (4 : Int32)) = (0 : Int32))) u2 (u2 + dd)) = v2) (hv3 : (osel (decide ((u5 &&& (8 : Int32)) = (0 : Int32))) u3 (u3 + dd)) = v3) (hv4 : (osel (decide ((u5 &&& (16 : Int32)) = (0 : Int32))) u4 (u4 + dd)) = v4) :
    OM l Z x code maxLocals ret tables_1 room_1 #[(.int u0), (.int u1), (.int u2), (.int u3), (.int u4), (.int u5)] h0 (OF (some (.int (1 : Int32))) n0) := by
  refine MetFree.of_bodySF (plainFor_of_name pn_com_example_bot_workflow_runner_botworkflowrunner_model_ProgressEqualsPinLaw) hisR ?_
  intro p e s m args below meth c s₁ Bd hml0 hP hK
  obtain ⟨rfl, hZ, hh⟩ := hP
  have hx := Bd.exec
  have hby := Bd.bytes
  have hml : c.maxLocals = 16 := hml0
  have hown : s.vm.findClass "com/example/bot_workflow_runner/botworkflowrunner/model/ProgressEqualsPinLaw" = some m.cls := findClass_of_methodNamed Bd.named
  have hnm := (name_of_methodNamed Bd.named Bd.method).1
  have X0 : Stand p l e room_1 s m #[(.int u0), (.int u1), (.int u2), (.int u3), (.int u4), (.int u5)] below meth c s₁ [] 0 0 := Stand.of_body Bd
  have e0 : s₁.heap = h0 := by rw [← hh, Bd.state]; rfl
  have N0 := Fr.nil n0
  have pre0 : ∀ t, Steps p.tables e below (s₁.setTop (mkF m 0 #[.val (.int u0), .val (.int u1), .val (.int u2), .val (.int u3), .val (.int u4), .val (.int u5), .unset, .unset, .unset, .unset, .unset, .unset, .unset, .unset, .unset, .unset] [])) t → Steps p.tables e below (s₁.setTop (entryFrame m #[(.int u0), (.int u1), (.int u2), (.int u3), (.int u4), (.int u5)] maxLocals)) t := fun t k => castTop (ef_code_IIIIII m u0 u1 u2 u3 u4 u5) k
  obtain ⟨T1, h1, X1, e1, E1, A1, D1, -, st1⟩ := newO X0 hx hZ hown (hw _ (List.mem_of_getElem? (i := 0) rfl)) (hw _ (List.mem_of_getElem? (i := 1) rfl)) (hw _ (List.mem_of_getElem? (i := 2) rfl)) e0 (g := (mkF m 9 #[.val (.int u0), .val (.int u1), .val (.int u2), .val (.int u3), .val (.int u4), .val (.int u5), .val (.int dd), .unset, .unset, .unset, .unset, .unset, .unset, .unset, .unset, .unset] [])) rfl (hb hby at_9) (by decide) (by decide)
  obtain ⟨b1, g1⟩ : ∃ z, z = h0.size := ⟨_, rfl⟩
  rw [← g1] at A1 D1 st1
  have hG1 : n0 ≤ b1 := Nat.le_trans Z0 (Nat.le_of_eq g1.symm)
  have hKN1 : ∀ i, i < 1 → w i ≠ b1 := fun i hi => by rw [g1]; exact Nat.ne_of_lt (K.lt i hi)
  have K1 := K.ext E1
  have Z1 : n0 ≤ h1.size := Nat.le_trans Z0 E1.1
  have f1_total : Fld Z h1 b1 "com/example/bot_workflow_runner/botworkflowrunner/model/Progress" "total" "I" (.int (0 : Int32)) := D1 (Or.inr (hw _ (List.mem_of_getElem? (i := 10) rfl))) (ty := .int) (by decide)
  have f1_completed : Fld Z h1 b1 "com/example/bot_workflow_runner/botworkflowrunner/model/Progress" "completed" "I" (.int (0 : Int32)) := D1 (Or.inr (hw _ (List.mem_of_getElem? (i := 12) rfl))) (ty := .int) (by decide)
  have f1_running : Fld Z h1 b1 "com/example/bot_workflow_runner/botworkflowrunner/model/Progress" "running" "I" (.int (0 : Int32)) := D1 (Or.inr (hw _ (List.mem_of_getElem? (i := 14) rfl))) (ty := .int) (by decide)
  have f1_failed : Fld Z h1 b1 "com/example/bot_workflow_runner/botworkflowrunner/model/Progress" "failed" "I" (.int (0 : Int32)) := D1 (Or.inr (hw _ (List.mem_of_getElem? (i := 16) rfl))) (ty := .int) (by decide)
  have f1_skipped : Fld Z h1 b1 "com/example/bot_workflow_runner/botworkflowrunner/model/Progress" "skipped" "I" (.int (0 : Int32)) := D1 (Or.inr (hw _ (List.mem_of_getElem? (i := 18) rfl))) (ty := .int) (by decide)
  obtain ⟨_, _, ⟨T2, L2, kk2, n2⟩, -, X2, ⟨Lc2, hQ2, l2, y2, z2⟩, st2⟩ := Jvm.Stand.specialBack X1 hx (y := (⟨"com/example/bot_workflow_runner/botworkflowrunner/model/Progress", "<init>", "(IIIII)V"⟩ : MethodName)) rfl hown (mvT hZ (hw _ (List.mem_of_getElem? (i := 3) rfl))) (mvT hZ (hw _ (List.mem_of_getElem? (i := 4) rfl))) (mvT hZ (hw _ (List.mem_of_getElem? (i := 5) rfl))) (by decide) (backOf (W := 1) (rm__init__1 l Z a0 hw w κ h1 n0 Z1 K1 u0 u1 u2 u3 u4 u5 dd v0 v1 v2 v3 v4 sm b1 A1 f1_total f1_completed f1_running f1_failed f1_skipped hG1 hKN1) hZ (hw _ (List.mem_of_getElem? (i := 5) rfl)) (hw _ (List.mem_of_getElem? (i := 2) rfl)) (by decide) (by decide)) (g := (mkF m 19 #[.val (.int u0), .val (.int u1), .val (.int u2), .val (.int u3), .val (.int u4), .val (.int u5), .val (.int dd), .unset, .unset, .unset, .unset, .unset, .unset, .unset, .unset, .unset] [(.int u4), (.int u3), (.int u2), (.int u1), (.int u0), (.ref b1), (.ref b1)])) rfl (by rw [hml]; rfl) (Steps.refl _) (a := b1) (argsL := [(.int u0), (.int u1), (.int u2), (.int u3), (.int u4)]) (rest := [(.ref b1)]) (lenOf pd_28IIIII29V rfl) rfl (by show 2 * 0 + _ ≤ _; exact Nat.le_of_eq rfl) (hb hby at_19) (fun _ _ => ⟨rfl, e1, (by decide : 1 + 0 ≤ _), (by decide : 5 + 0 ≤ _)⟩)
  dsimp only [Pt.U, Pt.locs, Pt.cells, Pt.slots] at X2 l2 y2 z2 st2 hQ2
  subst l2 y2 z2
  obtain ⟨rfl, N2q, Z2, K2, f2_0, f2_1, f2_2, f2_3, f2_4, f2_5⟩ := hQ2
  have N2 := Fr.app N0 N2q
  obtain ⟨T8, h8, X8, e8, E8, A8, D8, -, st8⟩ := newO X2 hx hZ hown (hw _ (List.mem_of_getElem? (i := 0) rfl)) (hw _ (List.mem_of_getElem? (i := 1) rfl)) (hw _ (List.mem_of_getElem? (i := 2) rfl)) rfl (g := (mkF m 113 #[.val (.int u0), .val (.int u1), .val (.int u2), .val (.int u3), .val (.int u4), .val (.int u5), .val (.int dd), .val (.ref b1), .val (.int v0), .val (.int v1), .val (.int v2), .val (.int v3), .val (.int v4), .unset, .unset, .unset] [])) rfl (hb hby at_113) (by decide) (by decide)
  obtain ⟨b2, g8⟩ : ∃ z, z = T2.heap.size := ⟨_, rfl⟩
  rw [← g8] at A8 D8 st8
  have hG8 : n0 ≤ b2 := Nat.le_trans Z2 (Nat.le_of_eq g8.symm)
  have hN8_0 : b1 ≠ b2 := by rw [g8]; exact Nat.ne_of_lt f2_0.lt
  have hKN8 : ∀ i, i < 1 → w i ≠ b2 := fun i hi => by rw [g8]; exact Nat.ne_of_lt (K2.lt i hi)
  have f8_fE_b1 := f2_0.ext E8
  have f8_fF_b1_com_example_bot_workflow_runner_botworkflowrunner_model_Progress_total := f2_1.ext E8
  have f8_fF_b1_com_example_bot_workflow_runner_botworkflowrunner_model_Progress_completed := f2_2.ext E8
  have f8_fF_b1_com_example_bot_workflow_runner_botworkflowrunner_model_Progress_running := f2_3.ext E8
  have f8_fF_b1_com_example_bot_workflow_runner_botworkflowrunner_model_Progress_failed := f2_4.ext E8
  have f8_fF_b1_com_example_bot_workflow_runner_botworkflowrunner_model_Progress_skipped := f2_5.ext E8
  have K8 := K2.ext E8
  have Z8 : n0 ≤ h8.size := Nat.le_trans Z2 E8.1
  have f8_total : Fld Z h8 b2 "com/example/bot_workflow_runner/botworkflowrunner/model/Progress" "total" "I" (.int (0 : Int32)) := D8 (Or.inr (hw _ (List.mem_of_getElem? (i := 10) rfl))) (ty := .int) (by decide)
  have f8_completed : Fld Z h8 b2 "com/example/bot_workflow_runner/botworkflowrunner/model/Progress" "completed" "I" (.int (0 : Int32)) := D8 (Or.inr (hw _ (List.mem_of_getElem? (i := 12) rfl))) (ty := .int) (by decide)
  have f8_running : Fld Z h8 b2 "com/example/bot_workflow_runner/botworkflowrunner/model/Progress" "running" "I" (.int (0 : Int32)) := D8 (Or.inr (hw _ (List.mem_of_getElem? (i := 14) rfl))) (ty := .int) (by decide)
  have f8_failed : Fld Z h8 b2 "com/example/bot_workflow_runner/botworkflowrunner/model/Progress" "failed" "I" (.int (0 : Int32)) := D8 (Or.inr (hw _ (List.mem_of_getElem? (i := 16) rfl))) (ty := .int) (by decide)
  have f8_skipped : Fld Z h8 b2 "com/example/bot_workflow_runner/botworkflowrunner/model/Progress" "skipped" "I" (.int (0 : Int32)) := D8 (Or.inr (hw _ (List.mem_of_getElem? (i := 18) rfl))) (ty := .int) (by decide)
  obtain ⟨_, _, ⟨T9, L9, kk9, n9⟩, -, X9, ⟨Lc9, hQ9, l9, y9, z9⟩, st9⟩ := Jvm.Stand.specialBack X8 hx (y := (⟨"com/example/bot_workflow_runner/botworkflowrunner/model/Progress", "<init>", "(IIIII)V"⟩ : MethodName)) rfl hown (mvT hZ (hw _ (List.mem_of_getElem? (i := 3) rfl))) (mvT hZ (hw _ (List.mem_of_getElem? (i := 4) rfl))) (mvT hZ (hw _ (List.mem_of_getElem? (i := 5) rfl))) (by decide) (backOf (W := 1) (rm__init__2 l Z a0 hw w κ h8 n0 Z8 K8 u0 u1 u2 u3 u4 u5 dd v0 v1 v2 v3 v4 sm b1 b2 f8_fE_b1 f8_fF_b1_com_example_bot_workflow_runner_botworkflowrunner_model_Progress_total f8_fF_b1_com_example_bot_workflow_runner_botworkflowrunner_model_Progress_completed f8_fF_b1_com_example_bot_workflow_runner_botworkflowrunner_model_Progress_running f8_fF_b1_com_example_bot_workflow_runner_botworkflowrunner_model_Progress_failed f8_fF_b1_com_example_bot_workflow_runner_botworkflowrunner_model_Progress_skipped A8 f8_total f8_completed f8_running f8_failed f8_skipped hG1 hKN1 hG8 hN8_0 hKN8) hZ (hw _ (List.mem_of_getElem? (i := 5) rfl)) (hw _ (List.mem_of_getElem? (i := 2) rfl)) (by decide) (by decide)) (g := (mkF m 127 #[.val (.int u0), .val (.int u1), .val (.int u2), .val (.int u3), .val (.int u4), .val (.int u5), .val (.int dd), .val (.ref b1), .val (.int v0), .val (.int v1), .val (.int v2), .val (.int v3), .val (.int v4), .unset, .unset, .unset] [(.int v4), (.int v3), (.int v2), (.int v1), (.int v0), (.ref b2), (.ref b2)])) rfl (by rw [hml]; rfl) (Steps.refl _) (a := b2) (argsL := [(.int v0), (.int v1), (.int v2), (.int v3), (.int v4)]) (rest := [(.ref b2)]) (lenOf pd_28IIIII29V rfl) rfl (by show 2 * 0 + _ ≤ _; exact Nat.le_of_eq rfl) (hb hby at_127) (fun _ _ => ⟨rfl, e8, (by decide : 2 + 0 ≤ _), (by decide : 10 + 0 ≤ _)⟩)
  dsimp only [Pt.U, Pt.locs, Pt.cells, Pt.slots] at X9 l9 y9 z9 st9 hQ9
  subst l9 y9 z9
  obtain ⟨rfl, N9q, Z9, K9, f9_0, f9_1, f9_2, f9_3, f9_4, f9_5, f9_6, f9_7, f9_8, f9_9, f9_10, f9_11⟩ := hQ9
  have N9 := Fr.app N2 N9q
  obtain ⟨cq11, kq11, qa11, qb11, qc11⟩ := isOf hZ rfl f9_0
  obtain ⟨_, _, ⟨T11, L11, kk11, n11⟩, -, X11, ⟨Lc11, hQ11, l11, y11, z11⟩, st11⟩ := X9.virtualBack hx (y := (⟨"com/example/bot_workflow_runner/botworkflowrunner/model/Progress", "equals", "(Ljava/lang/Object;)Z"⟩ : MethodName)) (z := (⟨"com/example/bot_workflow_runner/botworkflowrunner/model/Progress", "equals", "(Ljava/lang/Object;)Z"⟩ : MethodName)) hown (mvT hZ (hw _ (List.mem_of_getElem? (i := 19) rfl))) (mvT hZ (hw _ (List.mem_of_getElem? (i := 20) rfl))) (notFace_of_selects (args := #[]) (mvT hZ (hw _ (List.mem_of_getElem? (i := 22) rfl)))) (mvT hZ (hw _ (List.mem_of_getElem? (i := 22) rfl))) (mvT hZ (hw _ (List.mem_of_getElem? (i := 21) rfl))) (by decide) (backOf (W := 0) (rm_equals_32 l Z a0 hw w κ T9.heap n0 Z9 K9 u0 u1 u2 u3 u4 u5 dd v0 v1 v2 v3 v4 sm b1 b2 hf5 f9_1 f9_6 f9_7) hZ (hw _ (List.mem_of_getElem? (i := 23) rfl)) (hw _ (List.mem_of_getElem? (i := 2) rfl)) (by decide) (by decide)) qa11 qc11 (g := (mkF m 224 #[.val (.int u0), .val (.int u1), .val (.int u2), .val (.int u3), .val (.int u4), .val (.int u5), .val (.int dd), .val (.ref b1), .val (.int v0), .val (.int v1), .val (.int v2), .val (.int v3), .val (.int v4), .val (.ref b2), .val (.int sm), .val (.int ((u5 >>> ((5 : Int32) &&& 31)) &&& (3 : Int32)))] [(.ref b2), (.ref b1)])) rfl (by rw [hml]; rfl) (Steps.refl _) (argsL := [(.ref b2)]) (rest := []) (lenOf pd_28Ljava2flang2fObject3b29Z rfl) rfl (by show 2 * 0 + _ ≤ _; exact Nat.le_of_eq rfl) (hb hby at_224) (fun _ _ => ⟨rfl, rfl, (by decide : 2 + 0 ≤ _), (by decide : 10 + 0 ≤ _)⟩)
  dsimp only [Pt.U, Pt.locs, Pt.cells, Pt.slots] at X11 l11 y11 z11 st11 hQ11
  subst l11 y11 z11
  obtain ⟨rfl, N11q, e11⟩ := hQ11
  have N11 := Fr.app N9 N11q
  obtain ⟨cq12, kq12, qa12, qb12, qc12⟩ := isOf hZ e11 f9_6
  obtain ⟨_, _, ⟨T12, L12, kk12, n12⟩, -, X12, ⟨Lc12, hQ12, l12, y12, z12⟩, st12⟩ := X11.virtualBack hx (y := (⟨"com/example/bot_workflow_runner/botworkflowrunner/model/Progress", "equals", "(Ljava/lang/Object;)Z"⟩ : MethodName)) (z := (⟨"com/example/bot_workflow_runner/botworkflowrunner/model/Progress", "equals", "(Ljava/lang/Object;)Z"⟩ : MethodName)) hown (mvT hZ (hw _ (List.mem_of_getElem? (i := 19) rfl))) (mvT hZ (hw _ (List.mem_of_getElem? (i := 20) rfl))) (notFace_of_selects (args := #[]) (mvT hZ (hw _ (List.mem_of_getElem? (i := 22) rfl)))) (mvT hZ (hw _ (List.mem_of_getElem? (i := 22) rfl))) (mvT hZ (hw _ (List.mem_of_getElem? (i := 21) rfl))) (by decide) (backOf (W := 0) (rm_equals_33 l Z a0 hw w κ T9.heap n0 Z9 K9 u0 u1 u2 u3 u4 u5 dd v0 v1 v2 v3 v4 sm b1 b2 hf5 hv0 f9_0 f9_1 f9_7) hZ (hw _ (List.mem_of_getElem? (i := 23) rfl)) (hw _ (List.mem_of_getElem? (i := 2) rfl)) (by decide) (by decide)) qa12 qc12 (g := (mkF m 236 #[.val (.int u0), .val (.int u1), .val (.int u2), .val (.int u3), .val (.int u4), .val (.int u5), .val (.int dd), .val (.ref b1), .val (.int v0), .val (.int v1), .val (.int v2), .val (.int v3), .val (.int v4), .val (.ref b2), .val (.int sm), .val (.int ((u5 >>> ((5 : Int32) &&& 31)) &&& (3 : Int32)))] [(.ref b1), (.ref b2)])) rfl (by rw [hml]; rfl) (Steps.refl _) (argsL := [(.ref b1)]) (rest := []) (lenOf pd_28Ljava2flang2fObject3b29Z rfl) rfl (by show 2 * 0 + _ ≤ _; exact Nat.le_of_eq rfl) (hb hby at_236) (fun _ _ => ⟨rfl, e11, (by decide : 2 + 0 ≤ _), (by decide : 10 + 0 ≤ _)⟩)
  dsimp only [Pt.U, Pt.locs, Pt.cells, Pt.slots] at X12 l12 y12 z12 st12 hQ12
  subst l12 y12 z12
  obtain ⟨rfl, N12q, e12⟩ := hQ12
  have N12 := Fr.app N11 N12q
  obtain ⟨cq13, kq13, qa13, qb13, qc13⟩ := isOf hZ e12 f9_0
  obtain ⟨_, _, ⟨T13, L13, kk13, n13⟩, -, X13, ⟨Lc13, hQ13, l13, y13, z13⟩, st13⟩ := X12.virtualBack hx (y := (⟨"com/example/bot_workflow_runner/botworkflowrunner/model/Progress", "equals", "(Ljava/lang/Object;)Z"⟩ : MethodName)) (z := (⟨"com/example/bot_workflow_runner/botworkflowrunner/model/Progress", "equals", "(Ljava/lang/Object;)Z"⟩ : MethodName)) hown (mvT hZ (hw _ (List.mem_of_getElem? (i := 19) rfl))) (mvT hZ (hw _ (List.mem_of_getElem? (i := 20) rfl))) (notFace_of_selects (args := #[]) (mvT hZ (hw _ (List.mem_of_getElem? (i := 22) rfl)))) (mvT hZ (hw _ (List.mem_of_getElem? (i := 22) rfl))) (mvT hZ (hw _ (List.mem_of_getElem? (i := 21) rfl))) (by decide) (backOf (W := 0) (rm_equals_4 l Z a0 hw w κ T9.heap n0 Z9 K9 u0 u1 u2 u3 u4 u5 dd v0 v1 v2 v3 v4 sm b1 b2 f9_0 f9_1 f9_2 f9_3 f9_4 f9_5) hZ (hw _ (List.mem_of_getElem? (i := 23) rfl)) (hw _ (List.mem_of_getElem? (i := 2) rfl)) (by decide) (by decide)) qa13 qc13 (g := (mkF m 248 #[.val (.int u0), .val (.int u1), .val (.int u2), .val (.int u3), .val (.int u4), .val (.int u5), .val (.int dd), .val (.ref b1), .val (.int v0), .val (.int v1), .val (.int v2), .val (.int v3), .val (.int v4), .val (.ref b2), .val (.int sm), .val (.int ((u5 >>> ((5 : Int32) &&& 31)) &&& (3 : Int32)))] [(.ref b1), (.ref b1)])) rfl (by rw [hml]; rfl) (Steps.refl _) (argsL := [(.ref b1)]) (rest := []) (lenOf pd_28Ljava2flang2fObject3b29Z rfl) rfl (by show 2 * 0 + _ ≤ _; exact Nat.le_of_eq rfl) (hb hby at_248) (fun _ _ => ⟨rfl, e12, (by decide : 2 + 0 ≤ _), (by decide : 10 + 0 ≤ _)⟩)
  dsimp only [Pt.U, Pt.locs, Pt.cells, Pt.slots] at X13 l13 y13 z13 st13 hQ13
  subst l13 y13 z13
  obtain ⟨rfl, N13q, e13⟩ := hQ13
  have N13 := Fr.app N12 N13q
  obtain ⟨fs, hr, hrun, hended, hW, hsame⟩ := X13.leave (v := (some (.int (1 : Int32)))) (fun h => by rw [Bd.returns] at h; cases h)
  refine ⟨_, _, pre0 _ ?_, hrun, hended, _, _, rfl, ?_, ⟨_, rfl⟩, hW, hsame.mono (by decide) (by decide)⟩
  · show Steps p.tables e below (s₁.setTop (mkF m 0 #[.val (.int u0), .val (.int u1), .val (.int u2), .val (.int u3), .val (.int u4), .val (.int u5), .unset, .unset, .unset, .unset, .unset, .unset, .unset, .unset, .unset, .unset] [])) _
    refine XS.iload X0.here hx rfl (hb hby at_0) rfl ?_
    refine XS.bipush X0.here hx rfl (hb hby at_2) ?_
    refine XS.ishr X0.here hx rfl (hb hby at_4) rfl ?_
    show Steps p.tables e below (s₁.setTop (mkF m 5 #[.val (.int u0), .val (.int u1), .val (.int u2), .val (.int u3), .val (.int u4), .val (.int u5), .unset, .unset, .unset, .unset, .unset, .unset, .unset, .unset, .unset, .unset] [(.int (u5 >>> ((8 : Int32) &&& 31)))])) _
    refine XS.iconst X0.here hx rfl (hb hby at_5) ?_
    refine XS.ior X0.here hx rfl (hb hby at_6) rfl ?_
    show Steps p.tables e below (s₁.setTop (mkF m 7 #[.val (.int u0), .val (.int u1), .val (.int u2), .val (.int u3), .val (.int u4), .val (.int u5), .unset, .unset, .unset, .unset, .unset, .unset, .unset, .unset, .unset, .unset] [(.int ((u5 >>> ((8 : Int32) &&& 31)) ||| (1 : Int32)))])) _
    rw [hdd]
    show Steps p.tables e below (s₁.setTop (mkF m 7 #[.val (.int u0), .val (.int u1), .val (.int u2), .val (.int u3), .val (.int u4), .val (.int u5), .unset, .unset, .unset, .unset, .unset, .unset, .unset, .unset, .unset, .unset] [(.int dd)])) _
    refine XS.istore X0.here hx rfl (hb hby at_7) rfl (l' := #[.val (.int u0), .val (.int u1), .val (.int u2), .val (.int u3), .val (.int u4), .val (.int u5), .val (.int dd), .unset, .unset, .unset, .unset, .unset, .unset, .unset, .unset, .unset]) rfl ?_
    refine st1 _ ?_
    refine XS.dup X1.here hx rfl (hb hby at_12) rfl rfl ?_
    show Steps p.tables e below (T1.setTop (mkF m 13 #[.val (.int u0), .val (.int u1), .val (.int u2), .val (.int u3), .val (.int u4), .val (.int u5), .val (.int dd), .unset, .unset, .unset, .unset, .unset, .unset, .unset, .unset, .unset] [(.ref b1), (.ref b1)])) _
    refine XS.iloadN X1.here hx rfl (hb hby at_13) rfl ?_
    refine XS.iloadN X1.here hx rfl (hb hby at_14) rfl ?_
    refine XS.iloadN X1.here hx rfl (hb hby at_15) rfl ?_
    show Steps p.tables e below (T1.setTop (mkF m 16 #[.val (.int u0), .val (.int u1), .val (.int u2), .val (.int u3), .val (.int u4), .val (.int u5), .val (.int dd), .unset, .unset, .unset, .unset, .unset, .unset, .unset, .unset, .unset] [(.int u2), (.int u1), (.int u0), (.ref b1), (.ref b1)])) _
    refine XS.iloadN X1.here hx rfl (hb hby at_16) rfl ?_
    refine XS.iload X1.here hx rfl (hb hby at_17) rfl ?_
    refine st2.trans ?_
    show Steps p.tables e below (T2.setTop (mkF m 22 #[.val (.int u0), .val (.int u1), .val (.int u2), .val (.int u3), .val (.int u4), .val (.int u5), .val (.int dd), .unset, .unset, .unset, .unset, .unset, .unset, .unset, .unset, .unset] [(.ref b1)])) _
    refine XS.astore X2.here hx rfl (hb hby at_22) rfl rfl (l' := #[.val (.int u0), .val (.int u1), .val (.int u2), .val (.int u3), .val (.int u4), .val (.int u5), .val (.int dd), .val (.ref b1), .unset, .unset, .unset, .unset, .unset, .unset, .unset, .unset]) rfl ?_
    refine XS.iload X2.here hx rfl (hb hby at_24) rfl ?_
    refine XS.iconst X2.here hx rfl (hb hby at_26) ?_
    show Steps p.tables e below (T2.setTop (mkF m 27 #[.val (.int u0), .val (.int u1), .val (.int u2), .val (.int u3), .val (.int u4), .val (.int u5), .val (.int dd), .val (.ref b1), .unset, .unset, .unset, .unset, .unset, .unset, .unset, .unset] [(.int (1 : Int32)), (.int u5)])) _
    refine XS.iand X2.here hx rfl (hb hby at_27) rfl ?_
    show Steps p.tables e below (T2.setTop (mkF m 28 #[.val (.int u0), .val (.int u1), .val (.int u2), .val (.int u3), .val (.int u4), .val (.int u5), .val (.int dd), .val (.ref b1), .unset, .unset, .unset, .unset, .unset, .unset, .unset, .unset] [(.int (u5 &&& (1 : Int32)))])) _
    suffices hshd3 : Steps p.tables e below (T2.setTop (mkF m 39 #[.val (.int u0), .val (.int u1), .val (.int u2), .val (.int u3), .val (.int u4), .val (.int u5), .val (.int dd), .val (.ref b1), .unset, .unset, .unset, .unset, .unset, .unset, .unset, .unset] [(.int (osel (decide ((u5 &&& (1 : Int32)) = (0 : Int32))) u0 (u0 + dd)))])) (T13.setFrames fs) by
      by_cases hd3 : (u5 &&& (1 : Int32)) = (0 : Int32)
      · rw [show (osel (decide ((u5 &&& (1 : Int32)) = (0 : Int32))) u0 (u0 + dd)) = u0 from if_pos (decide_eq_true hd3)] at hshd3
        refine XS.ifYes X2.here hx rfl (pc0 := 28) (pc' := 38) rfl (hb hby at_28) rfl ((if0 _ _).trans (teq hd3).1) (by decide) (by decide) ?_
        show Steps p.tables e below (T2.setTop (mkF m 38 #[.val (.int u0), .val (.int u1), .val (.int u2), .val (.int u3), .val (.int u4), .val (.int u5), .val (.int dd), .val (.ref b1), .unset, .unset, .unset, .unset, .unset, .unset, .unset, .unset] [])) _
        refine XS.iloadN X2.here hx rfl (hb hby at_38) rfl ?_
        exact hshd3
      · rw [show (osel (decide ((u5 &&& (1 : Int32)) = (0 : Int32))) u0 (u0 + dd)) = (u0 + dd) from if_neg (fun hh => absurd (of_decide_eq_true hh) hd3)] at hshd3
        refine XS.ifNo X2.here hx rfl (hb hby at_28) rfl ((if0 _ _).trans (feq hd3).1) ?_
        show Steps p.tables e below (T2.setTop (mkF m 31 #[.val (.int u0), .val (.int u1), .val (.int u2), .val (.int u3), .val (.int u4), .val (.int u5), .val (.int dd), .val (.ref b1), .unset, .unset, .unset, .unset, .unset, .unset, .unset, .unset] [])) _
        refine XS.iloadN X2.here hx rfl (hb hby at_31) rfl ?_
        show Steps p.tables e below (T2.setTop (mkF m 32 #[.val (.int u0), .val (.int u1), .val (.int u2), .val (.int u3), .val (.int u4), .val (.int u5), .val (.int dd), .val (.ref b1), .unset, .unset, .unset, .unset, .unset, .unset, .unset, .unset] [(.int u0)])) _
        refine XS.iload X2.here hx rfl (hb hby at_32) rfl ?_
        show Steps p.tables e below (T2.setTop (mkF m 34 #[.val (.int u0), .val (.int u1), .val (.int u2), .val (.int u3), .val (.int u4), .val (.int u5), .val (.int dd), .val (.ref b1), .unset, .unset, .unset, .unset, .unset, .unset, .unset, .unset] [(.int dd), (.int u0)])) _
        refine XS.iadd X2.here hx rfl (hb hby at_34) rfl ?_
        show Steps p.tables e below (T2.setTop (mkF m 35 #[.val (.int u0), .val (.int u1), .val (.int u2), .val (.int u3), .val (.int u4), .val (.int u5), .val (.int dd), .val (.ref b1), .unset, .unset, .unset, .unset, .unset, .unset, .unset, .unset] [(.int (u0 + dd))])) _
        refine XS.goto X2.here hx rfl (pc0 := 35) (pc' := 39) rfl (hb hby at_35) (by decide) (by decide) ?_
        exact hshd3
    show Steps p.tables e below (T2.setTop (mkF m 39 #[.val (.int u0), .val (.int u1), .val (.int u2), .val (.int u3), .val (.int u4), .val (.int u5), .val (.int dd), .val (.ref b1), .unset, .unset, .unset, .unset, .unset, .unset, .unset, .unset] [(.int (osel (decide ((u5 &&& (1 : Int32)) = (0 : Int32))) u0 (u0 + dd)))])) _
    rw [hv0]
    show Steps p.tables e below (T2.setTop (mkF m 39 #[.val (.int u0), .val (.int u1), .val (.int u2), .val (.int u3), .val (.int u4), .val (.int u5), .val (.int dd), .val (.ref b1), .unset, .unset, .unset, .unset, .unset, .unset, .unset, .unset] [(.int v0)])) _
    refine XS.istore X2.here hx rfl (hb hby at_39) rfl (l' := #[.val (.int u0), .val (.int u1), .val (.int u2), .val (.int u3), .val (.int u4), .val (.int u5), .val (.int dd), .val (.ref b1), .val (.int v0), .unset, .unset, .unset, .unset, .unset, .unset, .unset]) rfl ?_
    refine XS.iload X2.here hx rfl (hb hby at_41) rfl ?_
    refine XS.iconst X2.here hx rfl (hb hby at_43) ?_
    show Steps p.tables e below (T2.setTop (mkF m 44 #[.val (.int u0), .val (.int u1), .val (.int u2), .val (.int u3), .val (.int u4), .val (.int u5), .val (.int dd), .val (.ref b1), .val (.int v0), .unset, .unset, .unset, .unset, .unset, .unset, .unset] [(.int (2 : Int32)), (.int u5)])) _
    refine XS.iand X2.here hx rfl (hb hby at_44) rfl ?_
    show Steps p.tables e below (T2.setTop (mkF m 45 #[.val (.int u0), .val (.int u1), .val (.int u2), .val (.int u3), .val (.int u4), .val (.int u5), .val (.int dd), .val (.ref b1), .val (.int v0), .unset, .unset, .unset, .unset, .unset, .unset, .unset] [(.int (u5 &&& (2 : Int32)))])) _
    suffices hshd4 : Steps p.tables e below (T2.setTop (mkF m 56 #[.val (.int u0), .val (.int u1), .val (.int u2), .val (.int u3), .val (.int u4), .val (.int u5), .val (.int dd), .val (.ref b1), .val (.int v0), .unset, .unset, .unset, .unset, .unset, .unset, .unset] [(.int (osel (decide ((u5 &&& (2 : Int32)) = (0 : Int32))) u1 (u1 + dd)))])) (T13.setFrames fs) by
      by_cases hd4 : (u5 &&& (2 : Int32)) = (0 : Int32)
      · rw [show (osel (decide ((u5 &&& (2 : Int32)) = (0 : Int32))) u1 (u1 + dd)) = u1 from if_pos (decide_eq_true hd4)] at hshd4
        refine XS.ifYes X2.here hx rfl (pc0 := 45) (pc' := 55) rfl (hb hby at_45) rfl ((if0 _ _).trans (teq hd4).1) (by decide) (by decide) ?_
        show Steps p.tables e below (T2.setTop (mkF m 55 #[.val (.int u0), .val (.int u1), .val (.int u2), .val (.int u3), .val (.int u4), .val (.int u5), .val (.int dd), .val (.ref b1), .val (.int v0), .unset, .unset, .unset, .unset, .unset, .unset, .unset] [])) _
        refine XS.iloadN X2.here hx rfl (hb hby at_55) rfl ?_
        exact hshd4
      · rw [show (osel (decide ((u5 &&& (2 : Int32)) = (0 : Int32))) u1 (u1 + dd)) = (u1 + dd) from if_neg (fun hh => absurd (of_decide_eq_true hh) hd4)] at hshd4
        refine XS.ifNo X2.here hx rfl (hb hby at_45) rfl ((if0 _ _).trans (feq hd4).1) ?_
        show Steps p.tables e below (T2.setTop (mkF m 48 #[.val (.int u0), .val (.int u1), .val (.int u2), .val (.int u3), .val (.int u4), .val (.int u5), .val (.int dd), .val (.ref b1), .val (.int v0), .unset, .unset, .unset, .unset, .unset, .unset, .unset] [])) _
        refine XS.iloadN X2.here hx rfl (hb hby at_48) rfl ?_
        show Steps p.tables e below (T2.setTop (mkF m 49 #[.val (.int u0), .val (.int u1), .val (.int u2), .val (.int u3), .val (.int u4), .val (.int u5), .val (.int dd), .val (.ref b1), .val (.int v0), .unset, .unset, .unset, .unset, .unset, .unset, .unset] [(.int u1)])) _
        refine XS.iload X2.here hx rfl (hb hby at_49) rfl ?_
        show Steps p.tables e below (T2.setTop (mkF m 51 #[.val (.int u0), .val (.int u1), .val (.int u2), .val (.int u3), .val (.int u4), .val (.int u5), .val (.int dd), .val (.ref b1), .val (.int v0), .unset, .unset, .unset, .unset, .unset, .unset, .unset] [(.int dd), (.int u1)])) _
        refine XS.iadd X2.here hx rfl (hb hby at_51) rfl ?_
        show Steps p.tables e below (T2.setTop (mkF m 52 #[.val (.int u0), .val (.int u1), .val (.int u2), .val (.int u3), .val (.int u4), .val (.int u5), .val (.int dd), .val (.ref b1), .val (.int v0), .unset, .unset, .unset, .unset, .unset, .unset, .unset] [(.int (u1 + dd))])) _
        refine XS.goto X2.here hx rfl (pc0 := 52) (pc' := 56) rfl (hb hby at_52) (by decide) (by decide) ?_
        exact hshd4
    show Steps p.tables e below (T2.setTop (mkF m 56 #[.val (.int u0), .val (.int u1), .val (.int u2), .val (.int u3), .val (.int u4), .val (.int u5), .val (.int dd), .val (.ref b1), .val (.int v0), .unset, .unset, .unset, .unset, .unset, .unset, .unset] [(.int (osel (decide ((u5 &&& (2 : Int32)) = (0 : Int32))) u1 (u1 + dd)))])) _
    rw [hv1]
    show Steps p.tables e below (T2.setTop (mkF m 56 #[.val (.int u0), .val (.int u1), .val (.int u2), .val (.int u3), .val (.int u4), .val (.int u5), .val (.int dd), .val (.ref b1), .val (.int v0), .unset, .unset, .unset, .unset, .unset, .unset, .unset] [(.int v1)])) _
    refine XS.istore X2.here hx rfl (hb hby at_56) rfl (l' := #[.val (.int u0), .val (.int u1), .val (.int u2), .val (.int u3), .val (.int u4), .val (.int u5), .val (.int dd), .val (.ref b1), .val (.int v0), .val (.int v1), .unset, .unset, .unset, .unset, .unset, .unset]) rfl ?_
    refine XS.iload X2.here hx rfl (hb hby at_58) rfl ?_
    refine XS.iconst X2.here hx rfl (hb hby at_60) ?_
    show Steps p.tables e below (T2.setTop (mkF m 61 #[.val (.int u0), .val (.int u1), .val (.int u2), .val (.int u3), .val (.int u4), .val (.int u5), .val (.int dd), .val (.ref b1), .val (.int v0), .val (.int v1), .unset, .unset, .unset, .unset, .unset, .unset] [(.int (4 : Int32)), (.int u5)])) _
    refine XS.iand X2.here hx rfl (hb hby at_61) rfl ?_
    show Steps p.tables e below (T2.setTop (mkF m 62 #[.val (.int u0), .val (.int u1), .val (.int u2), .val (.int u3), .val (.int u4), .val (.int u5), .val (.int dd), .val (.ref b1), .val (.int v0), .val (.int v1), .unset, .unset, .unset, .unset, .unset, .unset] [(.int (u5 &&& (4 : Int32)))])) _
    suffices hshd5 : Steps p.tables e below (T2.setTop (mkF m 73 #[.val (.int u0), .val (.int u1), .val (.int u2), .val (.int u3), .val (.int u4), .val (.int u5), .val (.int dd), .val (.ref b1), .val (.int v0), .val (.int v1), .unset, .unset, .unset, .unset, .unset, .unset] [(.int (osel (decide ((u5 &&& (4 : Int32)) = (0 : Int32))) u2 (u2 + dd)))])) (T13.setFrames fs) by
      by_cases hd5 : (u5 &&& (4 : Int32)) = (0 : Int32)
      · rw [show (osel (decide ((u5 &&& (4 : Int32)) = (0 : Int32))) u2 (u2 + dd)) = u2 from if_pos (decide_eq_true hd5)] at hshd5
        refine XS.ifYes X2.here hx rfl (pc0 := 62) (pc' := 72) rfl (hb hby at_62) rfl ((if0 _ _).trans (teq hd5).1) (by decide) (by decide) ?_
        show Steps p.tables e below (T2.setTop (mkF m 72 #[.val (.int u0), .val (.int u1), .val (.int u2), .val (.int u3), .val (.int u4), .val (.int u5), .val (.int dd), .val (.ref b1), .val (.int v0), .val (.int v1), .unset, .unset, .unset, .unset, .unset, .unset] [])) _
        refine XS.iloadN X2.here hx rfl (hb hby at_72) rfl ?_
        exact hshd5
      · rw [show (osel (decide ((u5 &&& (4 : Int32)) = (0 : Int32))) u2 (u2 + dd)) = (u2 + dd) from if_neg (fun hh => absurd (of_decide_eq_true hh) hd5)] at hshd5
        refine XS.ifNo X2.here hx rfl (hb hby at_62) rfl ((if0 _ _).trans (feq hd5).1) ?_
        show Steps p.tables e below (T2.setTop (mkF m 65 #[.val (.int u0), .val (.int u1), .val (.int u2), .val (.int u3), .val (.int u4), .val (.int u5), .val (.int dd), .val (.ref b1), .val (.int v0), .val (.int v1), .unset, .unset, .unset, .unset, .unset, .unset] [])) _
        refine XS.iloadN X2.here hx rfl (hb hby at_65) rfl ?_
        show Steps p.tables e below (T2.setTop (mkF m 66 #[.val (.int u0), .val (.int u1), .val (.int u2), .val (.int u3), .val (.int u4), .val (.int u5), .val (.int dd), .val (.ref b1), .val (.int v0), .val (.int v1), .unset, .unset, .unset, .unset, .unset, .unset] [(.int u2)])) _
        refine XS.iload X2.here hx rfl (hb hby at_66) rfl ?_
        show Steps p.tables e below (T2.setTop (mkF m 68 #[.val (.int u0), .val (.int u1), .val (.int u2), .val (.int u3), .val (.int u4), .val (.int u5), .val (.int dd), .val (.ref b1), .val (.int v0), .val (.int v1), .unset, .unset, .unset, .unset, .unset, .unset] [(.int dd), (.int u2)])) _
        refine XS.iadd X2.here hx rfl (hb hby at_68) rfl ?_
        show Steps p.tables e below (T2.setTop (mkF m 69 #[.val (.int u0), .val (.int u1), .val (.int u2), .val (.int u3), .val (.int u4), .val (.int u5), .val (.int dd), .val (.ref b1), .val (.int v0), .val (.int v1), .unset, .unset, .unset, .unset, .unset, .unset] [(.int (u2 + dd))])) _
        refine XS.goto X2.here hx rfl (pc0 := 69) (pc' := 73) rfl (hb hby at_69) (by decide) (by decide) ?_
        exact hshd5
    show Steps p.tables e below (T2.setTop (mkF m 73 #[.val (.int u0), .val (.int u1), .val (.int u2), .val (.int u3), .val (.int u4), .val (.int u5), .val (.int dd), .val (.ref b1), .val (.int v0), .val (.int v1), .unset, .unset, .unset, .unset, .unset, .unset] [(.int (osel (decide ((u5 &&& (4 : Int32)) = (0 : Int32))) u2 (u2 + dd)))])) _
    rw [hv2]
    show Steps p.tables e below (T2.setTop (mkF m 73 #[.val (.int u0), .val (.int u1), .val (.int u2), .val (.int u3), .val (.int u4), .val (.int u5), .val (.int dd), .val (.ref b1), .val (.int v0), .val (.int v1), .unset, .unset, .unset, .unset, .unset, .unset] [(.int v2)])) _
    refine XS.istore X2.here hx rfl (hb hby at_73) rfl (l' := #[.val (.int u0), .val (.int u1), .val (.int u2), .val (.int u3), .val (.int u4), .val (.int u5), .val (.int dd), .val (.ref b1), .val (.int v0), .val (.int v1), .val (.int v2), .unset, .unset, .unset, .unset, .unset]) rfl ?_
    refine XS.iload X2.here hx rfl (hb hby at_75) rfl ?_
    refine XS.bipush X2.here hx rfl (hb hby at_77) ?_
    show Steps p.tables e below (T2.setTop (mkF m 79 #[.val (.int u0), .val (.int u1), .val (.int u2), .val (.int u3), .val (.int u4), .val (.int u5), .val (.int dd), .val (.ref b1), .val (.int v0), .val (.int v1), .val (.int v2), .unset, .unset, .unset, .unset, .unset] [(.int (8 : Int32)), (.int u5)])) _
    refine XS.iand X2.here hx rfl (hb hby at_79) rfl ?_
    show Steps p.tables e below (T2.setTop (mkF m 80 #[.val (.int u0), .val (.int u1), .val (.int u2), .val (.int u3), .val (.int u4), .val (.int u5), .val (.int dd), .val (.ref b1), .val (.int v0), .val (.int v1), .val (.int v2), .unset, .unset, .unset, .unset, .unset] [(.int (u5 &&& (8 : Int32)))])) _
    suffices hshd6 : Steps p.tables e below (T2.setTop (mkF m 91 #[.val (.int u0), .val (.int u1), .val (.int u2), .val (.int u3), .val (.int u4), .val (.int u5), .val (.int dd), .val (.ref b1), .val (.int v0), .val (.int v1), .val (.int v2), .unset, .unset, .unset, .unset, .unset] [(.int (osel (decide ((u5 &&& (8 : Int32)) = (0 : Int32))) u3 (u3 + dd)))])) (T13.setFrames fs) by
      by_cases hd6 : (u5 &&& (8 : Int32)) = (0 : Int32)
      · rw [show (osel (decide ((u5 &&& (8 : Int32)) = (0 : Int32))) u3 (u3 + dd)) = u3 from if_pos (decide_eq_true hd6)] at hshd6
        refine XS.ifYes X2.here hx rfl (pc0 := 80) (pc' := 90) rfl (hb hby at_80) rfl ((if0 _ _).trans (teq hd6).1) (by decide) (by decide) ?_
        show Steps p.tables e below (T2.setTop (mkF m 90 #[.val (.int u0), .val (.int u1), .val (.int u2), .val (.int u3), .val (.int u4), .val (.int u5), .val (.int dd), .val (.ref b1), .val (.int v0), .val (.int v1), .val (.int v2), .unset, .unset, .unset, .unset, .unset] [])) _
        refine XS.iloadN X2.here hx rfl (hb hby at_90) rfl ?_
        exact hshd6
      · rw [show (osel (decide ((u5 &&& (8 : Int32)) = (0 : Int32))) u3 (u3 + dd)) = (u3 + dd) from if_neg (fun hh => absurd (of_decide_eq_true hh) hd6)] at hshd6
        refine XS.ifNo X2.here hx rfl (hb hby at_80) rfl ((if0 _ _).trans (feq hd6).1) ?_
        show Steps p.tables e below (T2.setTop (mkF m 83 #[.val (.int u0), .val (.int u1), .val (.int u2), .val (.int u3), .val (.int u4), .val (.int u5), .val (.int dd), .val (.ref b1), .val (.int v0), .val (.int v1), .val (.int v2), .unset, .unset, .unset, .unset, .unset] [])) _
        refine XS.iloadN X2.here hx rfl (hb hby at_83) rfl ?_
        show Steps p.tables e below (T2.setTop (mkF m 84 #[.val (.int u0), .val (.int u1), .val (.int u2), .val (.int u3), .val (.int u4), .val (.int u5), .val (.int dd), .val (.ref b1), .val (.int v0), .val (.int v1), .val (.int v2), .unset, .unset, .unset, .unset, .unset] [(.int u3)])) _
        refine XS.iload X2.here hx rfl (hb hby at_84) rfl ?_
        show Steps p.tables e below (T2.setTop (mkF m 86 #[.val (.int u0), .val (.int u1), .val (.int u2), .val (.int u3), .val (.int u4), .val (.int u5), .val (.int dd), .val (.ref b1), .val (.int v0), .val (.int v1), .val (.int v2), .unset, .unset, .unset, .unset, .unset] [(.int dd), (.int u3)])) _
        refine XS.iadd X2.here hx rfl (hb hby at_86) rfl ?_
        show Steps p.tables e below (T2.setTop (mkF m 87 #[.val (.int u0), .val (.int u1), .val (.int u2), .val (.int u3), .val (.int u4), .val (.int u5), .val (.int dd), .val (.ref b1), .val (.int v0), .val (.int v1), .val (.int v2), .unset, .unset, .unset, .unset, .unset] [(.int (u3 + dd))])) _
        refine XS.goto X2.here hx rfl (pc0 := 87) (pc' := 91) rfl (hb hby at_87) (by decide) (by decide) ?_
        exact hshd6
    show Steps p.tables e below (T2.setTop (mkF m 91 #[.val (.int u0), .val (.int u1), .val (.int u2), .val (.int u3), .val (.int u4), .val (.int u5), .val (.int dd), .val (.ref b1), .val (.int v0), .val (.int v1), .val (.int v2), .unset, .unset, .unset, .unset, .unset] [(.int (osel (decide ((u5 &&& (8 : Int32)) = (0 : Int32))) u3 (u3 + dd)))])) _
    rw [hv3]
    show Steps p.tables e below (T2.setTop (mkF m 91 #[.val (.int u0), .val (.int u1), .val (.int u2), .val (.int u3), .val (.int u4), .val (.int u5), .val (.int dd), .val (.ref b1), .val (.int v0), .val (.int v1), .val (.int v2), .unset, .unset, .unset, .unset, .unset] [(.int v3)])) _
    refine XS.istore X2.here hx rfl (hb hby at_91) rfl (l' := #[.val (.int u0), .val (.int u1), .val (.int u2), .val (.int u3), .val (.int u4), .val (.int u5), .val (.int dd), .val (.ref b1), .val (.int v0), .val (.int v1), .val (.int v2), .val (.int v3), .unset, .unset, .unset, .unset]) rfl ?_
    refine XS.iload X2.here hx rfl (hb hby at_93) rfl ?_
    refine XS.bipush X2.here hx rfl (hb hby at_95) ?_
    show Steps p.tables e below (T2.setTop (mkF m 97 #[.val (.int u0), .val (.int u1), .val (.int u2), .val (.int u3), .val (.int u4), .val (.int u5), .val (.int dd), .val (.ref b1), .val (.int v0), .val (.int v1), .val (.int v2), .val (.int v3), .unset, .unset, .unset, .unset] [(.int (16 : Int32)), (.int u5)])) _
    refine XS.iand X2.here hx rfl (hb hby at_97) rfl ?_
    show Steps p.tables e below (T2.setTop (mkF m 98 #[.val (.int u0), .val (.int u1), .val (.int u2), .val (.int u3), .val (.int u4), .val (.int u5), .val (.int dd), .val (.ref b1), .val (.int v0), .val (.int v1), .val (.int v2), .val (.int v3), .unset, .unset, .unset, .unset] [(.int (u5 &&& (16 : Int32)))])) _
    suffices hshd7 : Steps p.tables e below (T2.setTop (mkF m 111 #[.val (.int u0), .val (.int u1), .val (.int u2), .val (.int u3), .val (.int u4), .val (.int u5), .val (.int dd), .val (.ref b1), .val (.int v0), .val (.int v1), .val (.int v2), .val (.int v3), .unset, .unset, .unset, .unset] [(.int (osel (decide ((u5 &&& (16 : Int32)) = (0 : Int32))) u4 (u4 + dd)))])) (T13.setFrames fs) by
      by_cases hd7 : (u5 &&& (16 : Int32)) = (0 : Int32)
      · rw [show (osel (decide ((u5 &&& (16 : Int32)) = (0 : Int32))) u4 (u4 + dd)) = u4 from if_pos (decide_eq_true hd7)] at hshd7
        refine XS.ifYes X2.here hx rfl (pc0 := 98) (pc' := 109) rfl (hb hby at_98) rfl ((if0 _ _).trans (teq hd7).1) (by decide) (by decide) ?_
        show Steps p.tables e below (T2.setTop (mkF m 109 #[.val (.int u0), .val (.int u1), .val (.int u2), .val (.int u3), .val (.int u4), .val (.int u5), .val (.int dd), .val (.ref b1), .val (.int v0), .val (.int v1), .val (.int v2), .val (.int v3), .unset, .unset, .unset, .unset] [])) _
        refine XS.iload X2.here hx rfl (hb hby at_109) rfl ?_
        exact hshd7
      · rw [show (osel (decide ((u5 &&& (16 : Int32)) = (0 : Int32))) u4 (u4 + dd)) = (u4 + dd) from if_neg (fun hh => absurd (of_decide_eq_true hh) hd7)] at hshd7
        refine XS.ifNo X2.here hx rfl (hb hby at_98) rfl ((if0 _ _).trans (feq hd7).1) ?_
        show Steps p.tables e below (T2.setTop (mkF m 101 #[.val (.int u0), .val (.int u1), .val (.int u2), .val (.int u3), .val (.int u4), .val (.int u5), .val (.int dd), .val (.ref b1), .val (.int v0), .val (.int v1), .val (.int v2), .val (.int v3), .unset, .unset, .unset, .unset] [])) _
        refine XS.iload X2.here hx rfl (hb hby at_101) rfl ?_
        show Steps p.tables e below (T2.setTop (mkF m 103 #[.val (.int u0), .val (.int u1), .val (.int u2), .val (.int u3), .val (.int u4), .val (.int u5), .val (.int dd), .val (.ref b1), .val (.int v0), .val (.int v1), .val (.int v2), .val (.int v3), .unset, .unset, .unset, .unset] [(.int u4)])) _
        refine XS.iload X2.here hx rfl (hb hby at_103) rfl ?_
        show Steps p.tables e below (T2.setTop (mkF m 105 #[.val (.int u0), .val (.int u1), .val (.int u2), .val (.int u3), .val (.int u4), .val (.int u5), .val (.int dd), .val (.ref b1), .val (.int v0), .val (.int v1), .val (.int v2), .val (.int v3), .unset, .unset, .unset, .unset] [(.int dd), (.int u4)])) _
        refine XS.iadd X2.here hx rfl (hb hby at_105) rfl ?_
        show Steps p.tables e below (T2.setTop (mkF m 106 #[.val (.int u0), .val (.int u1), .val (.int u2), .val (.int u3), .val (.int u4), .val (.int u5), .val (.int dd), .val (.ref b1), .val (.int v0), .val (.int v1), .val (.int v2), .val (.int v3), .unset, .unset, .unset, .unset] [(.int (u4 + dd))])) _
        refine XS.goto X2.here hx rfl (pc0 := 106) (pc' := 111) rfl (hb hby at_106) (by decide) (by decide) ?_
        exact hshd7
    show Steps p.tables e below (T2.setTop (mkF m 111 #[.val (.int u0), .val (.int u1), .val (.int u2), .val (.int u3), .val (.int u4), .val (.int u5), .val (.int dd), .val (.ref b1), .val (.int v0), .val (.int v1), .val (.int v2), .val (.int v3), .unset, .unset, .unset, .unset] [(.int (osel (decide ((u5 &&& (16 : Int32)) = (0 : Int32))) u4 (u4 + dd)))])) _
    rw [hv4]
    show Steps p.tables e below (T2.setTop (mkF m 111 #[.val (.int u0), .val (.int u1), .val (.int u2), .val (.int u3), .val (.int u4), .val (.int u5), .val (.int dd), .val (.ref b1), .val (.int v0), .val (.int v1), .val (.int v2), .val (.int v3), .unset, .unset, .unset, .unset] [(.int v4)])) _
    refine XS.istore X2.here hx rfl (hb hby at_111) rfl (l' := #[.val (.int u0), .val (.int u1), .val (.int u2), .val (.int u3), .val (.int u4), .val (.int u5), .val (.int dd), .val (.ref b1), .val (.int v0), .val (.int v1), .val (.int v2), .val (.int v3), .val (.int v4), .unset, .unset, .unset]) rfl ?_
    refine st8 _ ?_
    refine XS.dup X8.here hx rfl (hb hby at_116) rfl rfl ?_
    show Steps p.tables e below (T8.setTop (mkF m 117 #[.val (.int u0), .val (.int u1), .val (.int u2), .val (.int u3), .val (.int u4), .val (.int u5), .val (.int dd), .val (.ref b1), .val (.int v0), .val (.int v1), .val (.int v2), .val (.int v3), .val (.int v4), .unset, .unset, .unset] [(.ref b2), (.ref b2)])) _
    refine XS.iload X8.here hx rfl (hb hby at_117) rfl ?_
    refine XS.iload X8.here hx rfl (hb hby at_119) rfl ?_
    refine XS.iload X8.here hx rfl (hb hby at_121) rfl ?_
    show Steps p.tables e below (T8.setTop (mkF m 123 #[.val (.int u0), .val (.int u1), .val (.int u2), .val (.int u3), .val (.int u4), .val (.int u5), .val (.int dd), .val (.ref b1), .val (.int v0), .val (.int v1), .val (.int v2), .val (.int v3), .val (.int v4), .unset, .unset, .unset] [(.int v2), (.int v1), (.int v0), (.ref b2), (.ref b2)])) _
    refine XS.iload X8.here hx rfl (hb hby at_123) rfl ?_
    refine XS.iload X8.here hx rfl (hb hby at_125) rfl ?_
    refine st9.trans ?_
    show Steps p.tables e below (T9.setTop (mkF m 130 #[.val (.int u0), .val (.int u1), .val (.int u2), .val (.int u3), .val (.int u4), .val (.int u5), .val (.int dd), .val (.ref b1), .val (.int v0), .val (.int v1), .val (.int v2), .val (.int v3), .val (.int v4), .unset, .unset, .unset] [(.ref b2)])) _
    refine XS.astore X9.here hx rfl (hb hby at_130) rfl rfl (l' := #[.val (.int u0), .val (.int u1), .val (.int u2), .val (.int u3), .val (.int u4), .val (.int u5), .val (.int dd), .val (.ref b1), .val (.int v0), .val (.int v1), .val (.int v2), .val (.int v3), .val (.int v4), .val (.ref b2), .unset, .unset]) rfl ?_
    refine XS.iload X9.here hx rfl (hb hby at_132) rfl ?_
    refine XS.bipush X9.here hx rfl (hb hby at_134) ?_
    show Steps p.tables e below (T9.setTop (mkF m 136 #[.val (.int u0), .val (.int u1), .val (.int u2), .val (.int u3), .val (.int u4), .val (.int u5), .val (.int dd), .val (.ref b1), .val (.int v0), .val (.int v1), .val (.int v2), .val (.int v3), .val (.int v4), .val (.ref b2), .unset, .unset] [(.int (31 : Int32)), (.int u5)])) _
    refine XS.iand X9.here hx rfl (hb hby at_136) rfl ?_
    show Steps p.tables e below (T9.setTop (mkF m 137 #[.val (.int u0), .val (.int u1), .val (.int u2), .val (.int u3), .val (.int u4), .val (.int u5), .val (.int dd), .val (.ref b1), .val (.int v0), .val (.int v1), .val (.int v2), .val (.int v3), .val (.int v4), .val (.ref b2), .unset, .unset] [(.int (u5 &&& (31 : Int32)))])) _
    suffices hshd10 : Steps p.tables e below (T9.setTop (mkF m 145 #[.val (.int u0), .val (.int u1), .val (.int u2), .val (.int u3), .val (.int u4), .val (.int u5), .val (.int dd), .val (.ref b1), .val (.int v0), .val (.int v1), .val (.int v2), .val (.int v3), .val (.int v4), .val (.ref b2), .unset, .unset] [(.int (osel (decide ((u5 &&& (31 : Int32)) = (0 : Int32))) (1 : Int32) (0 : Int32)))])) (T13.setFrames fs) by
      by_cases hd10 : (u5 &&& (31 : Int32)) = (0 : Int32)
      · rw [show (osel (decide ((u5 &&& (31 : Int32)) = (0 : Int32))) (1 : Int32) (0 : Int32)) = (1 : Int32) from if_pos (decide_eq_true hd10)] at hshd10
        refine XS.ifNo X9.here hx rfl (hb hby at_137) rfl ((if0 _ _).trans (teq hd10).2) ?_
        show Steps p.tables e below (T9.setTop (mkF m 140 #[.val (.int u0), .val (.int u1), .val (.int u2), .val (.int u3), .val (.int u4), .val (.int u5), .val (.int dd), .val (.ref b1), .val (.int v0), .val (.int v1), .val (.int v2), .val (.int v3), .val (.int v4), .val (.ref b2), .unset, .unset] [])) _
        refine XS.iconst X9.here hx rfl (hb hby at_140) ?_
        show Steps p.tables e below (T9.setTop (mkF m 141 #[.val (.int u0), .val (.int u1), .val (.int u2), .val (.int u3), .val (.int u4), .val (.int u5), .val (.int dd), .val (.ref b1), .val (.int v0), .val (.int v1), .val (.int v2), .val (.int v3), .val (.int v4), .val (.ref b2), .unset, .unset] [(.int (1 : Int32))])) _
        refine XS.goto X9.here hx rfl (pc0 := 141) (pc' := 145) rfl (hb hby at_141) (by decide) (by decide) ?_
        exact hshd10
      · rw [show (osel (decide ((u5 &&& (31 : Int32)) = (0 : Int32))) (1 : Int32) (0 : Int32)) = (0 : Int32) from if_neg (fun hh => absurd (of_decide_eq_true hh) hd10)] at hshd10
        refine XS.ifYes X9.here hx rfl (pc0 := 137) (pc' := 144) rfl (hb hby at_137) rfl ((if0 _ _).trans (feq hd10).2) (by decide) (by decide) ?_
        show Steps p.tables e below (T9.setTop (mkF m 144 #[.val (.int u0), .val (.int u1), .val (.int u2), .val (.int u3), .val (.int u4), .val (.int u5), .val (.int dd), .val (.ref b1), .val (.int v0), .val (.int v1), .val (.int v2), .val (.int v3), .val (.int v4), .val (.ref b2), .unset, .unset] [])) _
        refine XS.iconst X9.here hx rfl (hb hby at_144) ?_
        exact hshd10
    show Steps p.tables e below (T9.setTop (mkF m 145 #[.val (.int u0), .val (.int u1), .val (.int u2), .val (.int u3), .val (.int u4), .val (.int u5), .val (.int dd), .val (.ref b1), .val (.int v0), .val (.int v1), .val (.int v2), .val (.int v3), .val (.int v4), .val (.ref b2), .unset, .unset] [(.int (osel (decide ((u5 &&& (31 : Int32)) = (0 : Int32))) (1 : Int32) (0 : Int32)))])) _
    rw [hsm]
    show Steps p.tables e below (T9.setTop (mkF m 145 #[.val (.int u0), .val (.int u1), .val (.int u2), .val (.int u3), .val (.int u4), .val (.int u5), .val (.int dd), .val (.ref b1), .val (.int v0), .val (.int v1), .val (.int v2), .val (.int v3), .val (.int v4), .val (.ref b2), .unset, .unset] [(.int sm)])) _
    refine XS.istore X9.here hx rfl (hb hby at_145) rfl (l' := #[.val (.int u0), .val (.int u1), .val (.int u2), .val (.int u3), .val (.int u4), .val (.int u5), .val (.int dd), .val (.ref b1), .val (.int v0), .val (.int v1), .val (.int v2), .val (.int v3), .val (.int v4), .val (.ref b2), .val (.int sm), .unset]) rfl ?_
    refine XS.iload X9.here hx rfl (hb hby at_147) rfl ?_
    refine XS.iconst X9.here hx rfl (hb hby at_149) ?_
    show Steps p.tables e below (T9.setTop (mkF m 150 #[.val (.int u0), .val (.int u1), .val (.int u2), .val (.int u3), .val (.int u4), .val (.int u5), .val (.int dd), .val (.ref b1), .val (.int v0), .val (.int v1), .val (.int v2), .val (.int v3), .val (.int v4), .val (.ref b2), .val (.int sm), .unset] [(.int (5 : Int32)), (.int u5)])) _
    refine XS.ishr X9.here hx rfl (hb hby at_150) rfl ?_
    refine XS.iconst X9.here hx rfl (hb hby at_151) ?_
    refine XS.iand X9.here hx rfl (hb hby at_152) rfl ?_
    show Steps p.tables e below (T9.setTop (mkF m 153 #[.val (.int u0), .val (.int u1), .val (.int u2), .val (.int u3), .val (.int u4), .val (.int u5), .val (.int dd), .val (.ref b1), .val (.int v0), .val (.int v1), .val (.int v2), .val (.int v3), .val (.int v4), .val (.ref b2), .val (.int sm), .unset] [(.int ((u5 >>> ((5 : Int32) &&& 31)) &&& (3 : Int32)))])) _
    refine XS.istore X9.here hx rfl (hb hby at_153) rfl (l' := #[.val (.int u0), .val (.int u1), .val (.int u2), .val (.int u3), .val (.int u4), .val (.int u5), .val (.int dd), .val (.ref b1), .val (.int v0), .val (.int v1), .val (.int v2), .val (.int v3), .val (.int v4), .val (.ref b2), .val (.int sm), .val (.int ((u5 >>> ((5 : Int32) &&& 31)) &&& (3 : Int32)))]) rfl ?_
    refine XS.iload X9.here hx rfl (hb hby at_155) rfl ?_
    refine XS.iconst X9.here hx rfl (hb hby at_157) ?_
    show Steps p.tables e below (T9.setTop (mkF m 158 #[.val (.int u0), .val (.int u1), .val (.int u2), .val (.int u3), .val (.int u4), .val (.int u5), .val (.int dd), .val (.ref b1), .val (.int v0), .val (.int v1), .val (.int v2), .val (.int v3), .val (.int v4), .val (.ref b2), .val (.int sm), .val (.int ((u5 >>> ((5 : Int32) &&& 31)) &&& (3 : Int32)))] [(.int (1 : Int32)), (.int ((u5 >>> ((5 : Int32) &&& 31)) &&& (3 : Int32)))])) _
    refine XS.icmpYes X9.here hx rfl (pc0 := 158) (pc' := 186) rfl (hb hby at_158) rfl (feq hf1).2 (by decide) (by decide) ?_
    refine XS.iload X9.here hx rfl (hb hby at_186) rfl ?_
    refine XS.iconst X9.here hx rfl (hb hby at_188) ?_
    show Steps p.tables e below (T9.setTop (mkF m 189 #[.val (.int u0), .val (.int u1), .val (.int u2), .val (.int u3), .val (.int u4), .val (.int u5), .val (.int dd), .val (.ref b1), .val (.int v0), .val (.int v1), .val (.int v2), .val (.int v3), .val (.int v4), .val (.ref b2), .val (.int sm), .val (.int ((u5 >>> ((5 : Int32) &&& 31)) &&& (3 : Int32)))] [(.int (2 : Int32)), (.int ((u5 >>> ((5 : Int32) &&& 31)) &&& (3 : Int32)))])) _
    refine XS.icmpYes X9.here hx rfl (pc0 := 189) (pc' := 220) rfl (hb hby at_189) rfl (feq hf2).2 (by decide) (by decide) ?_
    refine XS.aload X9.here hx rfl (hb hby at_220) rfl rfl ?_
    refine XS.aload X9.here hx rfl (hb hby at_222) rfl rfl ?_
    show Steps p.tables e below (T9.setTop (mkF m 224 #[.val (.int u0), .val (.int u1), .val (.int u2), .val (.int u3), .val (.int u4), .val (.int u5), .val (.int dd), .val (.ref b1), .val (.int v0), .val (.int v1), .val (.int v2), .val (.int v3), .val (.int v4), .val (.ref b2), .val (.int sm), .val (.int ((u5 >>> ((5 : Int32) &&& 31)) &&& (3 : Int32)))] [(.ref b2), (.ref b1)])) _
    refine st11.trans ?_
    refine XS.iload X11.here hx rfl (hb hby at_227) rfl ?_
    refine XS.icmpNo X11.here hx rfl (hb hby at_229) rfl (teq hf15).2 ?_
    show Steps p.tables e below (T11.setTop (mkF m 232 #[.val (.int u0), .val (.int u1), .val (.int u2), .val (.int u3), .val (.int u4), .val (.int u5), .val (.int dd), .val (.ref b1), .val (.int v0), .val (.int v1), .val (.int v2), .val (.int v3), .val (.int v4), .val (.ref b2), .val (.int sm), .val (.int ((u5 >>> ((5 : Int32) &&& 31)) &&& (3 : Int32)))] [])) _
    refine XS.aload X11.here hx rfl (hb hby at_232) rfl rfl ?_
    refine XS.aload X11.here hx rfl (hb hby at_234) rfl rfl ?_
    refine st12.trans ?_
    show Steps p.tables e below (T12.setTop (mkF m 239 #[.val (.int u0), .val (.int u1), .val (.int u2), .val (.int u3), .val (.int u4), .val (.int u5), .val (.int dd), .val (.ref b1), .val (.int v0), .val (.int v1), .val (.int v2), .val (.int v3), .val (.int v4), .val (.ref b2), .val (.int sm), .val (.int ((u5 >>> ((5 : Int32) &&& 31)) &&& (3 : Int32)))] [(.int (0 : Int32))])) _
    refine XS.iload X12.here hx rfl (hb hby at_239) rfl ?_
    refine XS.icmpNo X12.here hx rfl (hb hby at_241) rfl (teq hf15).2 ?_
    refine XS.aload X12.here hx rfl (hb hby at_244) rfl rfl ?_
    show Steps p.tables e below (T12.setTop (mkF m 246 #[.val (.int u0), .val (.int u1), .val (.int u2), .val (.int u3), .val (.int u4), .val (.int u5), .val (.int dd), .val (.ref b1), .val (.int v0), .val (.int v1), .val (.int v2), .val (.int v3), .val (.int v4), .val (.ref b2), .val (.int sm), .val (.int ((u5 >>> ((5 : Int32) &&& 31)) &&& (3 : Int32)))] [(.ref b1)])) _
    refine XS.aload X12.here hx rfl (hb hby at_246) rfl rfl ?_
    refine st13.trans ?_
    refine XS.ifNo X13.here hx rfl (hb hby at_251) rfl ((if0 _ _).trans (feq (by decide : ¬ ((1 : Int32) = (0 : Int32)))).1) ?_
    show Steps p.tables e below (T13.setTop (mkF m 254 #[.val (.int u0), .val (.int u1), .val (.int u2), .val (.int u3), .val (.int u4), .val (.int u5), .val (.int dd), .val (.ref b1), .val (.int v0), .val (.int v1), .val (.int v2), .val (.int v3), .val (.int v4), .val (.ref b2), .val (.int sm), .val (.int ((u5 >>> ((5 : Int32) &&& 31)) &&& (3 : Int32)))] [])) _
    refine XS.iconst X13.here hx rfl (hb hby at_254) ?_
    refine XS.goto X13.here hx rfl (pc0 := 255) (pc' := 259) rfl (hb hby at_255) (by decide) (by decide) ?_
    show Steps p.tables e below (T13.setTop (mkF m 259 #[.val (.int u0), .val (.int u1), .val (.int u2), .val (.int u3), .val (.int u4), .val (.int u5), .val (.int dd), .val (.ref b1), .val (.int v0), .val (.int v1), .val (.int v2), .val (.int v3), .val (.int v4), .val (.ref b2), .val (.int sm), .val (.int ((u5 >>> ((5 : Int32) &&& 31)) &&& (3 : Int32)))] [(.int (1 : Int32))])) _
    exact retN X13 hx (t := .boolean) Bd.returns (by simp) (hb hby at_259) hr
  · exact ⟨rfl, N13⟩
theorem rm0 (l : Launch) (Z : State) (a0 : Array Value) (hw : ∀ d ∈ tables_1, d.before a0 Z = true) (w : Nat → Addr) (κ : Nat → ClassId) (h0 : Heap) (n0 : Nat) (Z0 : n0 ≤ h0.size) (K : Kon Z h0 w κ) (u0 u1 u2 u3 u4 u5 : Int32) :
    OM l Z x code maxLocals ret tables_1 room_1 #[(.int u0), (.int u1), (.int u2), (.int u3), (.int u4), (.int u5)] h0 (OF (some (.int (1 : Int32))) n0) := by
  obtain ⟨dd, hdd⟩ : ∃ z, ((u5 >>> ((8 : Int32) &&& 31)) ||| (1 : Int32)) = z := ⟨_, rfl⟩
  obtain ⟨v0, hv0⟩ : ∃ z, (osel (decide ((u5 &&& (1 : Int32)) = (0 : Int32))) u0 (u0 + dd)) = z := ⟨_, rfl⟩
  obtain ⟨v1, hv1⟩ : ∃ z, (osel (decide ((u5 &&& (2 : Int32)) = (0 : Int32))) u1 (u1 + dd)) = z := ⟨_, rfl⟩
  obtain ⟨v2, hv2⟩ : ∃ z, (osel (decide ((u5 &&& (4 : Int32)) = (0 : Int32))) u2 (u2 + dd)) = z := ⟨_, rfl⟩
  obtain ⟨v3, hv3⟩ : ∃ z, (osel (decide ((u5 &&& (8 : Int32)) = (0 : Int32))) u3 (u3 + dd)) = z := ⟨_, rfl⟩
  obtain ⟨v4, hv4⟩ : ∃ z, (osel (decide ((u5 &&& (16 : Int32)) = (0 : Int32))) u4 (u4 + dd)) = z := ⟨_, rfl⟩
  obtain ⟨sm, hsm⟩ : ∃ z, (osel (decide ((u5 &&& (31 : Int32)) = (0 : Int32))) (1 : Int32) (0 : Int32)) = z := ⟨_, rfl⟩
  by_cases hf1 : ((u5 >>> ((5 : Int32) &&& 31)) &&& (3 : Int32)) = (1 : Int32)
  · exact rm0_5 l Z a0 hw w κ h0 n0 Z0 K u0 u1 u2 u3 u4 u5 dd v0 v1 v2 v3 v4 sm hdd hf1 hsm hv0 hv1 hv2 hv3 hv4
  · by_cases hf2 : ((u5 >>> ((5 : Int32) &&& 31)) &&& (3 : Int32)) = (2 : Int32)
    · by_cases hf3 : u0 < (-128 : Int32)
      · exact rm0_11 l Z a0 hw w κ h0 n0 Z0 K u0 u1 u2 u3 u4 u5 dd v0 v1 v2 v3 v4 sm hdd hf1 hf2 hf3 hsm hv0 hv1 hv2 hv3 hv4
      · by_cases hf4 : (127 : Int32) < u0
        · exact rm0_13 l Z a0 hw w κ h0 n0 Z0 K u0 u1 u2 u3 u4 u5 dd v0 v1 v2 v3 v4 sm hdd hf1 hf2 hf3 hf4 hsm hv0 hv1 hv2 hv3 hv4
        · exact rm0_16 l Z a0 hw w κ h0 n0 Z0 K u0 u1 u2 u3 u4 u5 dd v0 v1 v2 v3 v4 sm hdd hf1 hf2 hf3 hf4 hsm hv0 hv1 hv2 hv3 hv4
    · by_cases hf5 : u0 = v0
      · by_cases hf6 : u1 = v1
        · by_cases hf7 : u2 = v2
          · by_cases hf8 : u3 = v3
            · by_cases hf9 : u4 = v4
              · by_cases hf10 : (1 : Int32) = sm
                · exact rm0_19 l Z a0 hw w κ h0 n0 Z0 K u0 u1 u2 u3 u4 u5 dd v0 v1 v2 v3 v4 sm hdd hf1 hf10 hf2 hf5 hf6 hf7 hf8 hf9 hsm hv0 hv1 hv2 hv3 hv4
                · exact (hf10 (own_all hdd hv0 hv1 hv2 hv3 hv4 hsm hf5 hf6 hf7 hf8 hf9)).elim
              · by_cases hf11 : (0 : Int32) = sm
                · exact rm0_22 l Z a0 hw w κ h0 n0 Z0 K u0 u1 u2 u3 u4 u5 dd v0 v1 v2 v3 v4 sm hdd hf1 hf11 hf2 hf5 hf6 hf7 hf8 hf9 hsm hv0 hv1 hv2 hv3 hv4
                · exact (hf11 (own_not4 hdd hv4 hsm hf9)).elim
            · by_cases hf12 : (0 : Int32) = sm
              · exact rm0_25 l Z a0 hw w κ h0 n0 Z0 K u0 u1 u2 u3 u4 u5 dd v0 v1 v2 v3 v4 sm hdd hf1 hf12 hf2 hf5 hf6 hf7 hf8 hsm hv0 hv1 hv2 hv3 hv4
              · exact (hf12 (own_not3 hdd hv3 hsm hf8)).elim
          · by_cases hf13 : (0 : Int32) = sm
            · exact rm0_28 l Z a0 hw w κ h0 n0 Z0 K u0 u1 u2 u3 u4 u5 dd v0 v1 v2 v3 v4 sm hdd hf1 hf13 hf2 hf5 hf6 hf7 hsm hv0 hv1 hv2 hv3 hv4
            · exact (hf13 (own_not2 hdd hv2 hsm hf7)).elim
        · by_cases hf14 : (0 : Int32) = sm
          · exact rm0_31 l Z a0 hw w κ h0 n0 Z0 K u0 u1 u2 u3 u4 u5 dd v0 v1 v2 v3 v4 sm hdd hf1 hf14 hf2 hf5 hf6 hsm hv0 hv1 hv2 hv3 hv4
          · exact (hf14 (own_not1 hdd hv1 hsm hf6)).elim
      · by_cases hf15 : (0 : Int32) = sm
        · exact rm0_34 l Z a0 hw w κ h0 n0 Z0 K u0 u1 u2 u3 u4 u5 dd v0 v1 v2 v3 v4 sm hdd hf1 hf15 hf2 hf5 hsm hv0 hv1 hv2 hv3 hv4
        · exact (hf15 (own_not0 hdd hv0 hsm hf5)).elim
set_option maxRecDepth 65536 in
set_option maxHeartbeats 40000000 in
theorem comes_1 {Post : Tables → Env → Array Value → State → Outcome → State → Prop} (hpost : ∀ tb e args s v u, (limb_1_1.after args s (.returned v) u = true ∧ limb_1_2.after args s (.returned v) u = true ∧ True) → FrameEnd s (.returned v) u (Jvm.fieldLocs frame_1_writes args s ++ Jvm.arrayLocs frame_1_arrays args s ++ Jvm.staticLocs frame_1_statics s) 16 128 → Post tb e args s (.returned v) u) :
    ArmFor flags0 classFile x code maxLocals ret World_1 tables_1 room_1 Calls_1 rest_1 Pre_1 Post := by
  intro l hfl _ _ p e ha hc hk s m args below hf hA hF happ hP
  obtain ⟨hcalls, hrest, hpre⟩ := hP
  obtain ⟨-, -, -, hnamed, -, -, -, hat⟩ := (Spec.applies_iff hf).mp happ
  obtain ⟨hg, hn⟩ := and_e (Cond.before_iff.mp (show (Jvm.Cond.and given_1 narrow_1).before args s = true from hpre))
  obtain ⟨g1a, g1b⟩ := and_e hg
  obtain ⟨g2a, g2b⟩ := and_e g1b
  obtain ⟨g3a, g3b⟩ := and_e g2b
  obtain ⟨g4a, g4b⟩ := and_e g3b
  obtain ⟨g5a, g5b⟩ := and_e g4b
  obtain ⟨g6a, g6b⟩ := and_e g5b
  obtain ⟨v0, v1, v2, v3, v4, v5, rfl⟩ : ∃ v0 v1 v2 v3 v4 v5 : Value, args = #[v0, v1, v2, v3, v4, v5] := by
    have hs : args.size = 6 := by simpa [Cond.value, given_1] using g1a
    obtain ⟨L⟩ := args
    match L, hs with
    | [v0, v1, v2, v3, v4, v5], _ => exact ⟨v0, v1, v2, v3, v4, v5, rfl⟩
  have hw := fun d (hd : d ∈ tables_1) => atoms_spec (ws := Jvm.Cond.code x code maxLocals ret :: tables_1) hat d (List.mem_cons_of_mem _ hd)
  have hfit : Fit s := fun {y c} hc i hi => by
    obtain ⟨ha, rfl⟩ := Array.getElem?_eq_some_iff.mp hc
    have q := List.all_eq_true.mp ((Array.all_eq_true_iff_forall_mem.mp hF) _ (Array.getElem_mem ha)) i (List.mem_range.mpr hi)
    simpa [Array.getElem?_eq_getElem hi] using q
  obtain ⟨hsets, hown0⟩ := atoms_of _ (rest_1_c_eq ▸ (show rest_1_c.before _ s = true from hrest))
  obtain ⟨i0, ei0⟩ := is_v g2a
  obtain rfl : v0 = (.int i0) := Option.some.inj ei0
  obtain ⟨i1, ei1⟩ := is_v g3a
  obtain rfl : v1 = (.int i1) := Option.some.inj ei1
  obtain ⟨i2, ei2⟩ := is_v g4a
  obtain rfl : v2 = (.int i2) := Option.some.inj ei2
  obtain ⟨i3, ei3⟩ := is_v g5a
  obtain rfl : v3 = (.int i3) := Option.some.inj ei3
  obtain ⟨i4, ei4⟩ := is_v g6a
  obtain rfl : v4 = (.int i4) := Option.some.inj ei4
  obtain ⟨i5, ei5⟩ := is_v g6b
  obtain rfl : v5 = (.int i5) := Option.some.inj ei5
  obtain ⟨b0, ev0⟩ := arr_v (Cond.before_iff.mp (hsets _ (List.mem_of_getElem? (i := 4) rfl)))
  obtain ⟨u1, u2, evh, e2, k1, k2⟩ := cmp_v (Or.inl (Cond.before_iff.mp (hsets _ (List.mem_of_getElem? (i := 3) rfl))))
  have q2 : u2 = .int 127 := (Option.some.inj e2).symm
  subst q2
  obtain ⟨z1, rfl⟩ := k2
  have q3 := gotT (Jvm.Cond.eq_ints evh e2) (Cond.before_iff.mp (hsets _ (List.mem_of_getElem? (i := 3) rfl)))
  subst q3
  have S0 : Sta s s.heap "java/lang/Integer$IntegerCache" "high" "I" (.int (127 : Int32)) := Sta.start evh (Or.inl (hsets _ (List.mem_of_getElem? (i := 1) rfl)))
  have S1 : Sta s s.heap "java/lang/Integer$IntegerCache" "cache" "[Ljava/lang/Integer;" (.ref b0) := Sta.start ev0 (Or.inr ⟨(hw _ (List.mem_of_getElem? (i := 31) rfl)), (hsets _ (List.mem_of_getElem? (i := 2) rfl))⟩)
  have C0 := own_cch (fun _ => ev0) (Cond.before_iff.mp (hsets _ (List.mem_of_getElem? (i := 4) rfl))) (Cond.before_iff.mp (hsets _ (List.mem_of_getElem? (i := 6) rfl))) (Cond.before_iff.mp (hsets _ (List.mem_of_getElem? (i := 7) rfl)))
  have K : Kon s s.heap (fun i => ([b0] : List Addr).getD i 0) (fun _ => 0) := ⟨S0, S1, C0⟩
  obtain ⟨n, o, h1, h2, h3, _, L, rfl, ⟨rfl, N⟩, hq⟩ := rm0 l s _ hw _ _ s.heap s.heap.size (Nat.le_refl _) K i0 i1 i2 i3 i4 i5 p e ha hc hk s m _ below hf ((Spec.applies_iff_loose hf).mp happ).1 ⟨rfl, State.Warmed39.refl s, rfl⟩ trivial
  refine ⟨n, _, h1, h2, h3, hpost _ _ _ _ _ _ ⟨Cond.after_iff.mpr rfl, Cond.after_iff.mpr (eq_i res_at (Term.int_eval (1)) rfl), trivial⟩ ⟨hq.1, hq.2.1, (hq.2.2.sift fun y hy => Or.inr (N y hy)).mono (by decide) (by decide)⟩⟩
theorem main_1_1 : Claimed_1_1 := comes_1 fun _ _ _ _ _ _ h hF => ⟨h.1, hF⟩
theorem main_1_2 : Claimed_1_2 := comes_1 fun _ _ _ _ _ _ h hF => ⟨h.2.1, hF⟩
end Jvm.Pilot.@@N@@
namespace Jvm.Pilot.@@N@@
open Jvm Jvm.ClassFile Sem Op Lib Jvm.Free Jvm.Stand Jvm.Pilot.@@N@@.Jvm.D
/-! MADE BY PROGRAM (witnessworld.py) out of the Statement's table words and the real class files: 16 classes; the members and pool entries that the words name. The judged class is class 1, her method 1. -/
namespace start1
open Jvm.ClassFile
def u (s : String) : CpInfo := .utf8 (stringToUtf16 s)
/-- a pool by its gaps: so many unusable entries, then the entry; so many at the end -/
def gap : Nat → List CpInfo → List CpInfo
  | 0, r => r
  | n + 1, r => .unusable :: gap n r
def poolList (es : List (Nat × CpInfo)) (last : Nat) : List CpInfo := es.foldr (fun e r => gap e.1 (e.2 :: r)) (gap last [])
def pool (es : List (Nat × CpInfo)) (last : Nat) : Array CpInfo := ⟨poolList es last⟩
def fileOf (pool : Array CpInfo) (this : Nat) (attrs : Array Attribute := #[]) (ms : Array MethodInfo := #[]) (fl : Nat := 33) (sup : Nat := 0) (ifs : Array Nat := #[]) (fds : Array FieldInfo := #[]) : ClassFile where
  minorVersion := 0
  majorVersion := 65
  constantPool := pool
  accessFlags := fl
  thisClass := this
  superClass := sup
  interfaces := ifs
  fields := fds
  methods := ms
  attributes := attrs
def plain (name : String) (sup : Option ClassId) : Class where
  name := name
  kind := .ordinary
  loader := none
  accessFlags := 33
  super := sup
  interfaces := #[]
  cf := none
  fields := #[]
  methods := #[]
  instanceTypes := #[]
  staticTypes := #[]
  resolved := #[]
  callSites := []
  init := .initialized
  statics := none
  mirror := none

def pool0 : Array CpInfo := pool [(5, u "<init>"), (0, u "()V"), (1, .class_ 10), (1, u "java/lang/Object")] 113

def k0c0 : Code := { maxStack := 0, maxLocals := 1, code := object_method_1_code, exceptionTable := #[], attributes := #[] }
def k0m0 : Method := { name := "<init>", desc := "()V", sig := { parameters := [], returnType := none }, accessFlags := 1, code := some k0c0 }
/-- java/lang/Object -/
def k0 : Class := { plain "java/lang/Object" none with
  accessFlags := 33
  interfaces := #[]
  cf := some (fileOf pool0 8 #[] #[{ accessFlags := 1, nameIndex := 5, descriptorIndex := 6, attributes := #[] }] 33 0 #[] #[])
  fields := #[]
  methods := #[k0m0]
  instanceTypes := #[]
  staticTypes := #[]
  resolved := Array.replicate 124 none
  statics := none }

def pool1 : Array CpInfo := pool [(2, .class_ 4), (1, u "java/lang/Object"), (0, u "<init>"), (0, u "()V"), (0, .class_ 8), (0, u "com/example/bot_workflow_runner/botworkflowrunner/model/Progress"), (0, .methodref 7 10), (0, .nameAndType 5 11), (0, u "(IIIII)V"), (0, .methodref 7 13), (0, .nameAndType 14 15), (0, u "equals"), (0, u "(Ljava/lang/Object;)Z"), (0, .methodref 17 18), (0, .class_ 19), (0, .nameAndType 20 21), (0, u "java/lang/Integer"), (0, u "valueOf"), (0, u "(I)Ljava/lang/Integer;"), (0, .class_ 23), (0, u "com/example/bot_workflow_runner/botworkflowrunner/model/ProgressEqualsPinLaw"), (2, u "law"), (0, u "(IIIIII)Z")] 3

def k1m0 : Method := { name := "<init>", desc := "()V", sig := { parameters := [], returnType := none }, accessFlags := 2, code := none }
def k1c1 : Code := { maxStack := 7, maxLocals := 16, code := code, exceptionTable := #[], attributes := #[] }
def k1m1 : Method := { name := "law", desc := "(IIIIII)Z", sig := { parameters := [.int, .int, .int, .int, .int, .int], returnType := some .boolean }, accessFlags := 9, code := some k1c1 }
/-- com/example/bot_workflow_runner/botworkflowrunner/model/ProgressEqualsPinLaw -/
def k1 : Class := { plain "com/example/bot_workflow_runner/botworkflowrunner/model/ProgressEqualsPinLaw" (some 0) with
  accessFlags := 49
  interfaces := #[]
  cf := some (fileOf pool1 22 #[] #[{ accessFlags := 2, nameIndex := 5, descriptorIndex := 6, attributes := #[] }, { accessFlags := 9, nameIndex := 26, descriptorIndex := 27, attributes := #[] }] 49 2 #[] #[])
  fields := #[]
  methods := #[k1m0, k1m1]
  instanceTypes := #[]
  staticTypes := #[]
  resolved := Array.replicate 31 none
  statics := none }

def pool2 : Array CpInfo := pool [(1, .methodref 2 3), (0, .class_ 4), (0, .nameAndType 5 6), (0, u "java/lang/Object"), (0, u "<init>"), (0, u "()V"), (0, .fieldref 8 9), (0, .class_ 10), (0, .nameAndType 11 12), (0, u "com/example/bot_workflow_runner/botworkflowrunner/model/Progress"), (0, u "total"), (0, u "I"), (0, .fieldref 8 14), (0, .nameAndType 15 12), (0, u "completed"), (0, .fieldref 8 17), (0, .nameAndType 18 12), (0, u "running"), (0, .fieldref 8 20), (0, .nameAndType 21 12), (0, u "failed"), (0, .fieldref 8 23), (0, .nameAndType 24 12), (0, u "skipped"), (73, u "(IIIII)V"), (36, u "equals"), (0, u "(Ljava/lang/Object;)Z")] 35

def k2c0 : Code := { maxStack := 2, maxLocals := 6, code := prog_31_method_1_code, exceptionTable := #[], attributes := #[] }
def k2m0 : Method := { name := "<init>", desc := "(IIIII)V", sig := { parameters := [.int, .int, .int, .int, .int], returnType := none }, accessFlags := 1, code := some k2c0 }
def k2c1 : Code := { maxStack := 2, maxLocals := 3, code := prog_31_method_10_code, exceptionTable := #[], attributes := #[] }
def k2m1 : Method := { name := "equals", desc := "(Ljava/lang/Object;)Z", sig := { parameters := [(.object "java/lang/Object")], returnType := some .boolean }, accessFlags := 1, code := some k2c1 }
/-- com/example/bot_workflow_runner/botworkflowrunner/model/Progress -/
def k2 : Class := { plain "com/example/bot_workflow_runner/botworkflowrunner/model/Progress" (some 0) with
  accessFlags := 49
  interfaces := #[]
  cf := some (fileOf pool2 8 #[] #[{ accessFlags := 1, nameIndex := 5, descriptorIndex := 98, attributes := #[] }, { accessFlags := 1, nameIndex := 135, descriptorIndex := 136, attributes := #[] }] 49 2 #[] #[{ accessFlags := 18, nameIndex := 11, descriptorIndex := 12, attributes := #[] }, { accessFlags := 18, nameIndex := 15, descriptorIndex := 12, attributes := #[] }, { accessFlags := 18, nameIndex := 18, descriptorIndex := 12, attributes := #[] }, { accessFlags := 18, nameIndex := 21, descriptorIndex := 12, attributes := #[] }, { accessFlags := 18, nameIndex := 24, descriptorIndex := 12, attributes := #[] }])
  fields := #[{ name := "total", type := .int, accessFlags := 18, slot := 0, constantValue := 0 }, { name := "completed", type := .int, accessFlags := 18, slot := 1, constantValue := 0 }, { name := "running", type := .int, accessFlags := 18, slot := 2, constantValue := 0 }, { name := "failed", type := .int, accessFlags := 18, slot := 3, constantValue := 0 }, { name := "skipped", type := .int, accessFlags := 18, slot := 4, constantValue := 0 }]
  methods := #[k2m0, k2m1]
  instanceTypes := #[.int, .int, .int, .int, .int]
  staticTypes := #[]
  resolved := Array.replicate 172 none
  statics := none }

def pool3 : Array CpInfo := pool [(1, .class_ 2), (0, u "java/io/Serializable"), (0, .class_ 4), (0, u "java/lang/Object")] 2

/-- java/io/Serializable -/
def k3 : Class := { plain "java/io/Serializable" (some 0) with
  accessFlags := 1537
  interfaces := #[]
  cf := some (fileOf pool3 1 #[] #[] 1537 3 #[] #[])
  fields := #[]
  methods := #[]
  instanceTypes := #[]
  staticTypes := #[]
  resolved := Array.replicate 7 none
  statics := none }

def pool4 : Array CpInfo := pool [(1, .methodref 2 3), (0, .class_ 4), (0, .nameAndType 5 6), (0, u "java/lang/Object"), (0, u "<init>"), (0, u "()V"), (1, .class_ 10), (1, u "java/lang/Number"), (2, .class_ 14), (0, u "java/io/Serializable"), (0, u "serialVersionUID"), (0, u "J")] 20

def k4c0 : Code := { maxStack := 1, maxLocals := 1, code := jdk_18_method_1_code, exceptionTable := #[], attributes := #[] }
def k4m0 : Method := { name := "<init>", desc := "()V", sig := { parameters := [], returnType := none }, accessFlags := 1, code := some k4c0 }
/-- java/lang/Number -/
def k4 : Class := { plain "java/lang/Number" (some 0) with
  accessFlags := 1057
  interfaces := #[3]
  cf := some (fileOf pool4 8 #[] #[{ accessFlags := 1, nameIndex := 5, descriptorIndex := 6, attributes := #[] }] 1057 2 #[13] #[{ accessFlags := 26, nameIndex := 15, descriptorIndex := 16, attributes := #[] }])
  fields := #[{ name := "serialVersionUID", type := .long, accessFlags := 26, slot := 0, constantValue := 0 }]
  methods := #[k4m0]
  instanceTypes := #[]
  staticTypes := #[.long]
  resolved := Array.replicate 37 none
  statics := none }

def pool5 : Array CpInfo := pool [(1, .class_ 2), (0, u "java/lang/Comparable"), (0, .class_ 4), (0, u "java/lang/Object")] 7

/-- java/lang/Comparable -/
def k5 : Class := { plain "java/lang/Comparable" (some 0) with
  accessFlags := 1537
  interfaces := #[]
  cf := some (fileOf pool5 1 #[] #[] 1537 3 #[] #[])
  fields := #[]
  methods := #[]
  instanceTypes := #[]
  staticTypes := #[]
  resolved := Array.replicate 12 none
  statics := none }

def pool6 : Array CpInfo := pool [(1, .class_ 2), (0, u "java/lang/constant/Constable"), (0, .class_ 4), (0, u "java/lang/Object")] 6

/-- java/lang/constant/Constable -/
def k6 : Class := { plain "java/lang/constant/Constable" (some 0) with
  accessFlags := 1537
  interfaces := #[]
  cf := some (fileOf pool6 1 #[] #[] 1537 3 #[] #[])
  fields := #[]
  methods := #[]
  instanceTypes := #[]
  staticTypes := #[]
  resolved := Array.replicate 11 none
  statics := none }

def pool7 : Array CpInfo := pool [(1, .class_ 2), (0, u "java/lang/constant/ConstantDesc"), (0, .class_ 4), (0, u "java/lang/Object")] 32

/-- java/lang/constant/ConstantDesc -/
def k7 : Class := { plain "java/lang/constant/ConstantDesc" (some 0) with
  accessFlags := 1537
  interfaces := #[]
  cf := some (fileOf pool7 1 #[] #[] 1537 3 #[] #[])
  fields := #[]
  methods := #[]
  instanceTypes := #[]
  staticTypes := #[]
  resolved := Array.replicate 37 none
  statics := none }

def pool8 : Array CpInfo := pool [(1, .class_ 2), (0, u "java/lang/Integer"), (16, u "digits"), (0, u "[C"), (46, u "<init>"), (17, u "DigitOnes"), (0, u "[B"), (2, u "DigitTens"), (10, .nameAndType 67 101), (0, u "()V"), (85, u "valueOf"), (0, u "(I)Ljava/lang/Integer;"), (0, .class_ 190), (0, u "java/lang/Integer$IntegerCache"), (0, .fieldref 189 192), (0, .nameAndType 193 194), (0, u "high"), (0, u "I"), (0, .fieldref 189 196), (0, .nameAndType 197 198), (0, u "cache"), (0, u "[Ljava/lang/Integer;"), (0, .methodref 1 200), (0, .nameAndType 67 201), (0, u "(I)V"), (0, .methodref 203 100), (0, .class_ 204), (0, u "java/lang/Number"), (0, .fieldref 1 206), (0, .nameAndType 207 194), (0, u "value"), (94, u "TYPE"), (0, u "Ljava/lang/Class;"), (0, .class_ 305), (0, u "java/lang/Comparable"), (0, .class_ 307), (0, u "java/lang/constant/Constable"), (0, .class_ 309), (0, u "java/lang/constant/ConstantDesc"), (0, u "MIN_VALUE"), (1, u "MAX_VALUE"), (3, u "SIZE"), (1, u "BYTES"), (1, u "serialVersionUID"), (0, u "J")] 131

def k8c0 : Code := { maxStack := 3, maxLocals := 1, code := jdk_33_method_22_code, exceptionTable := #[], attributes := #[] }
def k8m0 : Method := { name := "valueOf", desc := "(I)Ljava/lang/Integer;", sig := { parameters := [.int], returnType := some (.object "java/lang/Integer") }, accessFlags := 9, code := some k8c0 }
def k8c1 : Code := { maxStack := 2, maxLocals := 2, code := jdk_33_method_23_code, exceptionTable := #[], attributes := #[] }
def k8m1 : Method := { name := "<init>", desc := "(I)V", sig := { parameters := [.int], returnType := none }, accessFlags := 1, code := some k8c1 }
/-- java/lang/Integer -/
def k8 : Class := { plain "java/lang/Integer" (some 4) with
  accessFlags := 49
  interfaces := #[5, 6, 7]
  cf := some (fileOf pool8 1 #[.nestMembers #[189]] #[{ accessFlags := 9, nameIndex := 187, descriptorIndex := 188, attributes := #[] }, { accessFlags := 1, nameIndex := 67, descriptorIndex := 201, attributes := #[] }] 49 203 #[304, 306, 308] #[{ accessFlags := 25, nameIndex := 310, descriptorIndex := 194, attributes := #[] }, { accessFlags := 25, nameIndex := 312, descriptorIndex := 194, attributes := #[] }, { accessFlags := 25, nameIndex := 302, descriptorIndex := 303, attributes := #[] }, { accessFlags := 24, nameIndex := 19, descriptorIndex := 20, attributes := #[] }, { accessFlags := 24, nameIndex := 89, descriptorIndex := 86, attributes := #[] }, { accessFlags := 24, nameIndex := 85, descriptorIndex := 86, attributes := #[] }, { accessFlags := 18, nameIndex := 207, descriptorIndex := 194, attributes := #[] }, { accessFlags := 25, nameIndex := 316, descriptorIndex := 194, attributes := #[] }, { accessFlags := 25, nameIndex := 318, descriptorIndex := 194, attributes := #[] }, { accessFlags := 26, nameIndex := 320, descriptorIndex := 321, attributes := #[] }])
  fields := #[{ name := "MIN_VALUE", type := .int, accessFlags := 25, slot := 0, constantValue := 0 }, { name := "MAX_VALUE", type := .int, accessFlags := 25, slot := 1, constantValue := 0 }, { name := "TYPE", type := (.object "java/lang/Class"), accessFlags := 25, slot := 2, constantValue := 0 }, { name := "digits", type := (.array .char), accessFlags := 24, slot := 3, constantValue := 0 }, { name := "DigitTens", type := (.array .byte), accessFlags := 24, slot := 4, constantValue := 0 }, { name := "DigitOnes", type := (.array .byte), accessFlags := 24, slot := 5, constantValue := 0 }, { name := "value", type := .int, accessFlags := 18, slot := 0, constantValue := 0 }, { name := "SIZE", type := .int, accessFlags := 25, slot := 6, constantValue := 0 }, { name := "BYTES", type := .int, accessFlags := 25, slot := 7, constantValue := 0 }, { name := "serialVersionUID", type := .long, accessFlags := 26, slot := 8, constantValue := 0 }]
  methods := #[k8m0, k8m1]
  instanceTypes := #[.int]
  staticTypes := #[.int, .int, (.object "java/lang/Class"), (.array .char), (.array .byte), (.array .byte), .int, .int, .long]
  resolved := Array.replicate 453 none
  statics := none }

def pool9 : Array CpInfo := pool [(2, .class_ 4), (1, u "java/lang/Object"), (0, u "<init>"), (0, u "()V"), (0, .class_ 8), (0, u "java/lang/Integer"), (7, .class_ 18), (1, u "java/lang/Integer$IntegerCache"), (0, u "$assertionsDisabled"), (0, u "Z"), (26, u "high"), (0, u "I"), (8, u "archivedCache"), (0, u "[Ljava/lang/Integer;"), (12, u "cache"), (0, u "low")] 27

def k9m0 : Method := { name := "<init>", desc := "()V", sig := { parameters := [], returnType := none }, accessFlags := 2, code := none }
/-- java/lang/Integer$IntegerCache -/
def k9 : Class := { plain "java/lang/Integer$IntegerCache" (some 0) with
  accessFlags := 48
  interfaces := #[]
  cf := some (fileOf pool9 16 #[.nestHost 7] #[{ accessFlags := 2, nameIndex := 5, descriptorIndex := 6, attributes := #[] }] 48 2 #[] #[{ accessFlags := 24, nameIndex := 72, descriptorIndex := 48, attributes := #[] }, { accessFlags := 24, nameIndex := 47, descriptorIndex := 48, attributes := #[] }, { accessFlags := 24, nameIndex := 71, descriptorIndex := 58, attributes := #[] }, { accessFlags := 8, nameIndex := 57, descriptorIndex := 58, attributes := #[] }, { accessFlags := 4120, nameIndex := 19, descriptorIndex := 20, attributes := #[] }])
  fields := #[{ name := "low", type := .int, accessFlags := 24, slot := 0, constantValue := 0 }, { name := "high", type := .int, accessFlags := 24, slot := 1, constantValue := 0 }, { name := "cache", type := (.array (.object "java/lang/Integer")), accessFlags := 24, slot := 2, constantValue := 0 }, { name := "archivedCache", type := (.array (.object "java/lang/Integer")), accessFlags := 8, slot := 3, constantValue := 0 }, { name := "$assertionsDisabled", type := .boolean, accessFlags := 4120, slot := 4, constantValue := 0 }]
  methods := #[k9m0]
  instanceTypes := #[]
  staticTypes := #[.int, .int, (.array (.object "java/lang/Integer")), (.array (.object "java/lang/Integer")), .boolean]
  resolved := Array.replicate 100 none
  statics := some 0 }

def pool10 : Array CpInfo := pool [(1, u "java/lang/Cloneable"), (0, .class_ 1), (0, u "java/lang/Object"), (0, .class_ 3)] 3

/-- java/lang/Cloneable -/
def k10 : Class := { plain "java/lang/Cloneable" (some 0) with
  accessFlags := 1537
  interfaces := #[]
  cf := some (fileOf pool10 2 #[] #[] 1537 4 #[] #[])
  fields := #[]
  methods := #[]
  instanceTypes := #[]
  staticTypes := #[]
  resolved := Array.replicate 8 none
  statics := none }

/-- the primitive byte -/
def k11 : Class := { plain "byte" none with kind := .primitive 'B', accessFlags := 0x411 }
/-- [B -/
def k12 : Class := { plain "[B" (some 0) with kind := .array 11 .byte, interfaces := #[10, 3], accessFlags := 1041 }

/-- the primitive int -/
def k13 : Class := { plain "int" none with kind := .primitive 'I', accessFlags := 0x411 }
/-- [I -/
def k14 : Class := { plain "[I" (some 0) with kind := .array 13 .int, interfaces := #[10, 3], accessFlags := 1041 }

/-- [Ljava/lang/Integer; -/
def k15 : Class := { plain "[Ljava/lang/Integer;" (some 0) with kind := .array 8 (.object "java/lang/Integer"), interfaces := #[10, 3], accessFlags := 1041 }

def heap : Heap := #[{ cls := 9, slots := #[.int 0, .int 127, .ref 1, .null, .int 0], vm := .statics 9 },
  { cls := 15, slots := #[.ref 2, .ref 3, .ref 4, .ref 5, .ref 6, .ref 7, .ref 8, .ref 9, .ref 10, .ref 11, .ref 12, .ref 13, .ref 14, .ref 15, .ref 16, .ref 17, .ref 18, .ref 19, .ref 20, .ref 21, .ref 22, .ref 23, .ref 24, .ref 25, .ref 26, .ref 27, .ref 28, .ref 29, .ref 30, .ref 31, .ref 32, .ref 33, .ref 34, .ref 35, .ref 36, .ref 37, .ref 38, .ref 39, .ref 40, .ref 41, .ref 42, .ref 43, .ref 44, .ref 45, .ref 46, .ref 47, .ref 48, .ref 49, .ref 50, .ref 51, .ref 52, .ref 53, .ref 54, .ref 55, .ref 56, .ref 57, .ref 58, .ref 59, .ref 60, .ref 61, .ref 62, .ref 63, .ref 64, .ref 65, .ref 66, .ref 67, .ref 68, .ref 69, .ref 70, .ref 71, .ref 72, .ref 73, .ref 74, .ref 75, .ref 76, .ref 77, .ref 78, .ref 79, .ref 80, .ref 81, .ref 82, .ref 83, .ref 84, .ref 85, .ref 86, .ref 87, .ref 88, .ref 89, .ref 90, .ref 91, .ref 92, .ref 93, .ref 94, .ref 95, .ref 96, .ref 97, .ref 98, .ref 99, .ref 100, .ref 101, .ref 102, .ref 103, .ref 104, .ref 105, .ref 106, .ref 107, .ref 108, .ref 109, .ref 110, .ref 111, .ref 112, .ref 113, .ref 114, .ref 115, .ref 116, .ref 117, .ref 118, .ref 119, .ref 120, .ref 121, .ref 122, .ref 123, .ref 124, .ref 125, .ref 126, .ref 127, .ref 128, .ref 129, .ref 130, .ref 131, .ref 132, .ref 133, .ref 134, .ref 135, .ref 136, .ref 137, .ref 138, .ref 139, .ref 140, .ref 141, .ref 142, .ref 143, .ref 144, .ref 145, .ref 146, .ref 147, .ref 148, .ref 149, .ref 150, .ref 151, .ref 152, .ref 153, .ref 154, .ref 155, .ref 156, .ref 157, .ref 158, .ref 159, .ref 160, .ref 161, .ref 162, .ref 163, .ref 164, .ref 165, .ref 166, .ref 167, .ref 168, .ref 169, .ref 170, .ref 171, .ref 172, .ref 173, .ref 174, .ref 175, .ref 176, .ref 177, .ref 178, .ref 179, .ref 180, .ref 181, .ref 182, .ref 183, .ref 184, .ref 185, .ref 186, .ref 187, .ref 188, .ref 189, .ref 190, .ref 191, .ref 192, .ref 193, .ref 194, .ref 195, .ref 196, .ref 197, .ref 198, .ref 199, .ref 200, .ref 201, .ref 202, .ref 203, .ref 204, .ref 205, .ref 206, .ref 207, .ref 208, .ref 209, .ref 210, .ref 211, .ref 212, .ref 213, .ref 214, .ref 215, .ref 216, .ref 217, .ref 218, .ref 219, .ref 220, .ref 221, .ref 222, .ref 223, .ref 224, .ref 225, .ref 226, .ref 227, .ref 228, .ref 229, .ref 230, .ref 231, .ref 232, .ref 233, .ref 234, .ref 235, .ref 236, .ref 237, .ref 238, .ref 239, .ref 240, .ref 241, .ref 242, .ref 243, .ref 244, .ref 245, .ref 246, .ref 247, .ref 248, .ref 249, .ref 250, .ref 251, .ref 252, .ref 253, .ref 254, .ref 255, .ref 256, .ref 257], vm := .none },
  { cls := 8, slots := #[.int (-128)], vm := .none },
  { cls := 8, slots := #[.int (-127)], vm := .none },
  { cls := 8, slots := #[.int (-126)], vm := .none },
  { cls := 8, slots := #[.int (-125)], vm := .none },
  { cls := 8, slots := #[.int (-124)], vm := .none },
  { cls := 8, slots := #[.int (-123)], vm := .none },
  { cls := 8, slots := #[.int (-122)], vm := .none },
  { cls := 8, slots := #[.int (-121)], vm := .none },
  { cls := 8, slots := #[.int (-120)], vm := .none },
  { cls := 8, slots := #[.int (-119)], vm := .none },
  { cls := 8, slots := #[.int (-118)], vm := .none },
  { cls := 8, slots := #[.int (-117)], vm := .none },
  { cls := 8, slots := #[.int (-116)], vm := .none },
  { cls := 8, slots := #[.int (-115)], vm := .none },
  { cls := 8, slots := #[.int (-114)], vm := .none },
  { cls := 8, slots := #[.int (-113)], vm := .none },
  { cls := 8, slots := #[.int (-112)], vm := .none },
  { cls := 8, slots := #[.int (-111)], vm := .none },
  { cls := 8, slots := #[.int (-110)], vm := .none },
  { cls := 8, slots := #[.int (-109)], vm := .none },
  { cls := 8, slots := #[.int (-108)], vm := .none },
  { cls := 8, slots := #[.int (-107)], vm := .none },
  { cls := 8, slots := #[.int (-106)], vm := .none },
  { cls := 8, slots := #[.int (-105)], vm := .none },
  { cls := 8, slots := #[.int (-104)], vm := .none },
  { cls := 8, slots := #[.int (-103)], vm := .none },
  { cls := 8, slots := #[.int (-102)], vm := .none },
  { cls := 8, slots := #[.int (-101)], vm := .none },
  { cls := 8, slots := #[.int (-100)], vm := .none },
  { cls := 8, slots := #[.int (-99)], vm := .none },
  { cls := 8, slots := #[.int (-98)], vm := .none },
  { cls := 8, slots := #[.int (-97)], vm := .none },
  { cls := 8, slots := #[.int (-96)], vm := .none },
  { cls := 8, slots := #[.int (-95)], vm := .none },
  { cls := 8, slots := #[.int (-94)], vm := .none },
  { cls := 8, slots := #[.int (-93)], vm := .none },
  { cls := 8, slots := #[.int (-92)], vm := .none },
  { cls := 8, slots := #[.int (-91)], vm := .none },
  { cls := 8, slots := #[.int (-90)], vm := .none },
  { cls := 8, slots := #[.int (-89)], vm := .none },
  { cls := 8, slots := #[.int (-88)], vm := .none },
  { cls := 8, slots := #[.int (-87)], vm := .none },
  { cls := 8, slots := #[.int (-86)], vm := .none },
  { cls := 8, slots := #[.int (-85)], vm := .none },
  { cls := 8, slots := #[.int (-84)], vm := .none },
  { cls := 8, slots := #[.int (-83)], vm := .none },
  { cls := 8, slots := #[.int (-82)], vm := .none },
  { cls := 8, slots := #[.int (-81)], vm := .none },
  { cls := 8, slots := #[.int (-80)], vm := .none },
  { cls := 8, slots := #[.int (-79)], vm := .none },
  { cls := 8, slots := #[.int (-78)], vm := .none },
  { cls := 8, slots := #[.int (-77)], vm := .none },
  { cls := 8, slots := #[.int (-76)], vm := .none },
  { cls := 8, slots := #[.int (-75)], vm := .none },
  { cls := 8, slots := #[.int (-74)], vm := .none },
  { cls := 8, slots := #[.int (-73)], vm := .none },
  { cls := 8, slots := #[.int (-72)], vm := .none },
  { cls := 8, slots := #[.int (-71)], vm := .none },
  { cls := 8, slots := #[.int (-70)], vm := .none },
  { cls := 8, slots := #[.int (-69)], vm := .none },
  { cls := 8, slots := #[.int (-68)], vm := .none },
  { cls := 8, slots := #[.int (-67)], vm := .none },
  { cls := 8, slots := #[.int (-66)], vm := .none },
  { cls := 8, slots := #[.int (-65)], vm := .none },
  { cls := 8, slots := #[.int (-64)], vm := .none },
  { cls := 8, slots := #[.int (-63)], vm := .none },
  { cls := 8, slots := #[.int (-62)], vm := .none },
  { cls := 8, slots := #[.int (-61)], vm := .none },
  { cls := 8, slots := #[.int (-60)], vm := .none },
  { cls := 8, slots := #[.int (-59)], vm := .none },
  { cls := 8, slots := #[.int (-58)], vm := .none },
  { cls := 8, slots := #[.int (-57)], vm := .none },
  { cls := 8, slots := #[.int (-56)], vm := .none },
  { cls := 8, slots := #[.int (-55)], vm := .none },
  { cls := 8, slots := #[.int (-54)], vm := .none },
  { cls := 8, slots := #[.int (-53)], vm := .none },
  { cls := 8, slots := #[.int (-52)], vm := .none },
  { cls := 8, slots := #[.int (-51)], vm := .none },
  { cls := 8, slots := #[.int (-50)], vm := .none },
  { cls := 8, slots := #[.int (-49)], vm := .none },
  { cls := 8, slots := #[.int (-48)], vm := .none },
  { cls := 8, slots := #[.int (-47)], vm := .none },
  { cls := 8, slots := #[.int (-46)], vm := .none },
  { cls := 8, slots := #[.int (-45)], vm := .none },
  { cls := 8, slots := #[.int (-44)], vm := .none },
  { cls := 8, slots := #[.int (-43)], vm := .none },
  { cls := 8, slots := #[.int (-42)], vm := .none },
  { cls := 8, slots := #[.int (-41)], vm := .none },
  { cls := 8, slots := #[.int (-40)], vm := .none },
  { cls := 8, slots := #[.int (-39)], vm := .none },
  { cls := 8, slots := #[.int (-38)], vm := .none },
  { cls := 8, slots := #[.int (-37)], vm := .none },
  { cls := 8, slots := #[.int (-36)], vm := .none },
  { cls := 8, slots := #[.int (-35)], vm := .none },
  { cls := 8, slots := #[.int (-34)], vm := .none },
  { cls := 8, slots := #[.int (-33)], vm := .none },
  { cls := 8, slots := #[.int (-32)], vm := .none },
  { cls := 8, slots := #[.int (-31)], vm := .none },
  { cls := 8, slots := #[.int (-30)], vm := .none },
  { cls := 8, slots := #[.int (-29)], vm := .none },
  { cls := 8, slots := #[.int (-28)], vm := .none },
  { cls := 8, slots := #[.int (-27)], vm := .none },
  { cls := 8, slots := #[.int (-26)], vm := .none },
  { cls := 8, slots := #[.int (-25)], vm := .none },
  { cls := 8, slots := #[.int (-24)], vm := .none },
  { cls := 8, slots := #[.int (-23)], vm := .none },
  { cls := 8, slots := #[.int (-22)], vm := .none },
  { cls := 8, slots := #[.int (-21)], vm := .none },
  { cls := 8, slots := #[.int (-20)], vm := .none },
  { cls := 8, slots := #[.int (-19)], vm := .none },
  { cls := 8, slots := #[.int (-18)], vm := .none },
  { cls := 8, slots := #[.int (-17)], vm := .none },
  { cls := 8, slots := #[.int (-16)], vm := .none },
  { cls := 8, slots := #[.int (-15)], vm := .none },
  { cls := 8, slots := #[.int (-14)], vm := .none },
  { cls := 8, slots := #[.int (-13)], vm := .none },
  { cls := 8, slots := #[.int (-12)], vm := .none },
  { cls := 8, slots := #[.int (-11)], vm := .none },
  { cls := 8, slots := #[.int (-10)], vm := .none },
  { cls := 8, slots := #[.int (-9)], vm := .none },
  { cls := 8, slots := #[.int (-8)], vm := .none },
  { cls := 8, slots := #[.int (-7)], vm := .none },
  { cls := 8, slots := #[.int (-6)], vm := .none },
  { cls := 8, slots := #[.int (-5)], vm := .none },
  { cls := 8, slots := #[.int (-4)], vm := .none },
  { cls := 8, slots := #[.int (-3)], vm := .none },
  { cls := 8, slots := #[.int (-2)], vm := .none },
  { cls := 8, slots := #[.int (-1)], vm := .none },
  { cls := 8, slots := #[.int 0], vm := .none },
  { cls := 8, slots := #[.int 1], vm := .none },
  { cls := 8, slots := #[.int 2], vm := .none },
  { cls := 8, slots := #[.int 3], vm := .none },
  { cls := 8, slots := #[.int 4], vm := .none },
  { cls := 8, slots := #[.int 5], vm := .none },
  { cls := 8, slots := #[.int 6], vm := .none },
  { cls := 8, slots := #[.int 7], vm := .none },
  { cls := 8, slots := #[.int 8], vm := .none },
  { cls := 8, slots := #[.int 9], vm := .none },
  { cls := 8, slots := #[.int 10], vm := .none },
  { cls := 8, slots := #[.int 11], vm := .none },
  { cls := 8, slots := #[.int 12], vm := .none },
  { cls := 8, slots := #[.int 13], vm := .none },
  { cls := 8, slots := #[.int 14], vm := .none },
  { cls := 8, slots := #[.int 15], vm := .none },
  { cls := 8, slots := #[.int 16], vm := .none },
  { cls := 8, slots := #[.int 17], vm := .none },
  { cls := 8, slots := #[.int 18], vm := .none },
  { cls := 8, slots := #[.int 19], vm := .none },
  { cls := 8, slots := #[.int 20], vm := .none },
  { cls := 8, slots := #[.int 21], vm := .none },
  { cls := 8, slots := #[.int 22], vm := .none },
  { cls := 8, slots := #[.int 23], vm := .none },
  { cls := 8, slots := #[.int 24], vm := .none },
  { cls := 8, slots := #[.int 25], vm := .none },
  { cls := 8, slots := #[.int 26], vm := .none },
  { cls := 8, slots := #[.int 27], vm := .none },
  { cls := 8, slots := #[.int 28], vm := .none },
  { cls := 8, slots := #[.int 29], vm := .none },
  { cls := 8, slots := #[.int 30], vm := .none },
  { cls := 8, slots := #[.int 31], vm := .none },
  { cls := 8, slots := #[.int 32], vm := .none },
  { cls := 8, slots := #[.int 33], vm := .none },
  { cls := 8, slots := #[.int 34], vm := .none },
  { cls := 8, slots := #[.int 35], vm := .none },
  { cls := 8, slots := #[.int 36], vm := .none },
  { cls := 8, slots := #[.int 37], vm := .none },
  { cls := 8, slots := #[.int 38], vm := .none },
  { cls := 8, slots := #[.int 39], vm := .none },
  { cls := 8, slots := #[.int 40], vm := .none },
  { cls := 8, slots := #[.int 41], vm := .none },
  { cls := 8, slots := #[.int 42], vm := .none },
  { cls := 8, slots := #[.int 43], vm := .none },
  { cls := 8, slots := #[.int 44], vm := .none },
  { cls := 8, slots := #[.int 45], vm := .none },
  { cls := 8, slots := #[.int 46], vm := .none },
  { cls := 8, slots := #[.int 47], vm := .none },
  { cls := 8, slots := #[.int 48], vm := .none },
  { cls := 8, slots := #[.int 49], vm := .none },
  { cls := 8, slots := #[.int 50], vm := .none },
  { cls := 8, slots := #[.int 51], vm := .none },
  { cls := 8, slots := #[.int 52], vm := .none },
  { cls := 8, slots := #[.int 53], vm := .none },
  { cls := 8, slots := #[.int 54], vm := .none },
  { cls := 8, slots := #[.int 55], vm := .none },
  { cls := 8, slots := #[.int 56], vm := .none },
  { cls := 8, slots := #[.int 57], vm := .none },
  { cls := 8, slots := #[.int 58], vm := .none },
  { cls := 8, slots := #[.int 59], vm := .none },
  { cls := 8, slots := #[.int 60], vm := .none },
  { cls := 8, slots := #[.int 61], vm := .none },
  { cls := 8, slots := #[.int 62], vm := .none },
  { cls := 8, slots := #[.int 63], vm := .none },
  { cls := 8, slots := #[.int 64], vm := .none },
  { cls := 8, slots := #[.int 65], vm := .none },
  { cls := 8, slots := #[.int 66], vm := .none },
  { cls := 8, slots := #[.int 67], vm := .none },
  { cls := 8, slots := #[.int 68], vm := .none },
  { cls := 8, slots := #[.int 69], vm := .none },
  { cls := 8, slots := #[.int 70], vm := .none },
  { cls := 8, slots := #[.int 71], vm := .none },
  { cls := 8, slots := #[.int 72], vm := .none },
  { cls := 8, slots := #[.int 73], vm := .none },
  { cls := 8, slots := #[.int 74], vm := .none },
  { cls := 8, slots := #[.int 75], vm := .none },
  { cls := 8, slots := #[.int 76], vm := .none },
  { cls := 8, slots := #[.int 77], vm := .none },
  { cls := 8, slots := #[.int 78], vm := .none },
  { cls := 8, slots := #[.int 79], vm := .none },
  { cls := 8, slots := #[.int 80], vm := .none },
  { cls := 8, slots := #[.int 81], vm := .none },
  { cls := 8, slots := #[.int 82], vm := .none },
  { cls := 8, slots := #[.int 83], vm := .none },
  { cls := 8, slots := #[.int 84], vm := .none },
  { cls := 8, slots := #[.int 85], vm := .none },
  { cls := 8, slots := #[.int 86], vm := .none },
  { cls := 8, slots := #[.int 87], vm := .none },
  { cls := 8, slots := #[.int 88], vm := .none },
  { cls := 8, slots := #[.int 89], vm := .none },
  { cls := 8, slots := #[.int 90], vm := .none },
  { cls := 8, slots := #[.int 91], vm := .none },
  { cls := 8, slots := #[.int 92], vm := .none },
  { cls := 8, slots := #[.int 93], vm := .none },
  { cls := 8, slots := #[.int 94], vm := .none },
  { cls := 8, slots := #[.int 95], vm := .none },
  { cls := 8, slots := #[.int 96], vm := .none },
  { cls := 8, slots := #[.int 97], vm := .none },
  { cls := 8, slots := #[.int 98], vm := .none },
  { cls := 8, slots := #[.int 99], vm := .none },
  { cls := 8, slots := #[.int 100], vm := .none },
  { cls := 8, slots := #[.int 101], vm := .none },
  { cls := 8, slots := #[.int 102], vm := .none },
  { cls := 8, slots := #[.int 103], vm := .none },
  { cls := 8, slots := #[.int 104], vm := .none },
  { cls := 8, slots := #[.int 105], vm := .none },
  { cls := 8, slots := #[.int 106], vm := .none },
  { cls := 8, slots := #[.int 107], vm := .none },
  { cls := 8, slots := #[.int 108], vm := .none },
  { cls := 8, slots := #[.int 109], vm := .none },
  { cls := 8, slots := #[.int 110], vm := .none },
  { cls := 8, slots := #[.int 111], vm := .none },
  { cls := 8, slots := #[.int 112], vm := .none },
  { cls := 8, slots := #[.int 113], vm := .none },
  { cls := 8, slots := #[.int 114], vm := .none },
  { cls := 8, slots := #[.int 115], vm := .none },
  { cls := 8, slots := #[.int 116], vm := .none },
  { cls := 8, slots := #[.int 117], vm := .none },
  { cls := 8, slots := #[.int 118], vm := .none },
  { cls := 8, slots := #[.int 119], vm := .none },
  { cls := 8, slots := #[.int 120], vm := .none },
  { cls := 8, slots := #[.int 121], vm := .none },
  { cls := 8, slots := #[.int 122], vm := .none },
  { cls := 8, slots := #[.int 123], vm := .none },
  { cls := 8, slots := #[.int 124], vm := .none },
  { cls := 8, slots := #[.int 125], vm := .none },
  { cls := 8, slots := #[.int 126], vm := .none },
  { cls := 8, slots := #[.int 127], vm := .none }]
def classes : Array Class := #[k0, k1, k2, k3, k4, k5, k6, k7, k8, k9, k10, k11, k12, k13, k14, k15]
def interned : List (Array UInt16 × Addr) := []
def slotsUsed : Nat := 517
def theMethod : MethodId := ⟨1, 1⟩
def args0 : Array Value := #[.int 1, .int 2, .int 3, .int 4, .int 5, .int 6]
def aboutOver (below : List Frame) : State where
  vm := { classes := classes, interned := interned.toArray }
  heap := heap
  slotsUsed := slotsUsed
  threads := #[{ frames := .invoking theMethod args0 :: below }]
def below0 : List Frame := [.native { method := ⟨0, 0⟩, args := #[] }]
def about1 : State := aboutOver below0
def p0 : Program := .bare "" "" ""
def e0 : Env := launch0.env 0 0 0
theorem w_frames : about1.frames = Frame.invoking theMethod args0 :: below0 := rfl
set_option maxRecDepth 65536 in
theorem w_args : argsFit about1.vm theMethod args0 = true := by decide +kernel
set_option maxRecDepth 65536 in
theorem w_heap : heapFits about1 = true := by decide +kernel
set_option maxRecDepth 65536 in
theorem w_runnable : about1.curStatus? = some .runnable := by decide +kernel
set_option maxRecDepth 65536 in
theorem w_alone : about1.alone = true := by decide +kernel
set_option maxRecDepth 65536 in
theorem w_named : about1.methodNamed? x = some theMethod := by decide +kernel
set_option maxRecDepth 65536 in
theorem w_hears : about1.hears theMethod below0 = true := by decide +kernel
set_option maxRecDepth 65536 in
theorem w_ripe : about1.ripe theMethod args0 below0 = true := by decide +kernel
theorem w_running : about1.status = .running := rfl
set_option maxRecDepth 65536 in
theorem w_room : about1.hasRoom e0.platform room_1 = true :=
  launch0.hasRoom_least _ room_1 (by decide +kernel) (by decide +kernel) (by decide +kernel) (by decide +kernel) (by decide +kernel) (by decide +kernel)
theorem allAtoms_all (ts : List Jvm.Cond) (a : Array Jvm.Value) (st : Jvm.State) : (allAtoms ts).before a st = ts.all (fun c => c.before a st) := by
  induction ts with
  | nil => rfl
  | cons c t ih =>
    show (Jvm.Cond.and c (allAtoms t)).before a st = _
    rw [Jvm.Cond.before_and, ih, List.all_cons]
def words1 : List Jvm.Cond := Jvm.Cond.code x code maxLocals ret :: tables_1
/-- a 'code' word, met by the world's own term for the bytes: nothing is compared byte by byte -/
theorem code_word {y : MethodName} {bytes : ByteArray} {mx : Nat} {rt : Option FieldType} {a : Array Value} {s : State} {m : MethodId} {meth : Method} {c : Code} (h1 : s.methodNamed? y = some m) (h2 : s.vm.method? m = some meth) (h3 : meth.code = some c) (h4 : c.code = bytes)
    (h5 : (c.maxLocals == mx && c.exceptionTable.isEmpty && decide (c.maxStack ≤ mostOperands) && decide (meth.sig.returnType = rt) && !meth.locks && decide (parseMethodDescriptor y.desc = some meth.sig)) = true) : (Jvm.Cond.code y bytes mx rt).before a s = true := by
  simp only [Bool.and_eq_true, beq_iff_eq, Bool.not_eq_true', decide_eq_true_eq] at h5
  obtain ⟨⟨⟨⟨⟨g1, g2⟩, g3⟩, g4⟩, g5⟩, g6⟩ := h5
  simp [Cond.before, Cond.holds, Cond.value, h1, h2, h3, h4, g1, g2, g3, g4, g5, g6]
def isCode : Jvm.Cond → Bool
  | .code _ _ _ _ => true
  | _ => false
theorem all_split {L : List Jvm.Cond} {P : Jvm.Cond → Bool} (h1 : L.all (fun c => isCode c || P c) = true) (h2 : ∀ c ∈ L.filter isCode, P c = true) : L.all P = true := by
  refine List.all_eq_true.mpr fun c hc => ?_
  have h := List.all_eq_true.mp h1 c hc
  rcases Bool.eq_false_or_eq_true (isCode c) with hi | hi
  · exact h2 c (List.mem_filter.mpr ⟨hc, hi⟩)
  · simpa [hi] using h
set_option maxRecDepth 65536 in
theorem w_c0 : (Jvm.Cond.code x code maxLocals ret).before args0 about1 = true := code_word (m := ⟨1, 1⟩) (meth := k1m1) (c := k1c1) (by decide +kernel) rfl rfl rfl (by decide +kernel)
set_option maxRecDepth 65536 in
theorem w_c1 : (Jvm.Cond.code ({ cls := "com/example/bot_workflow_runner/botworkflowrunner/model/Progress", name := "<init>", desc := "(IIIII)V" } : Jvm.MethodName) prog_31_method_1_code (6 : Nat) (Option.none : Option Jvm.ClassFile.FieldType)).before args0 about1 = true := code_word (m := ⟨2, 0⟩) (meth := k2m0) (c := k2c0) (by decide +kernel) rfl rfl rfl (by decide +kernel)
set_option maxRecDepth 65536 in
theorem w_c2 : (Jvm.Cond.code ({ cls := "java/lang/Object", name := "<init>", desc := "()V" } : Jvm.MethodName) object_method_1_code (1 : Nat) (Option.none : Option Jvm.ClassFile.FieldType)).before args0 about1 = true := code_word (m := ⟨0, 0⟩) (meth := k0m0) (c := k0c0) (by decide +kernel) rfl rfl rfl (by decide +kernel)
set_option maxRecDepth 65536 in
theorem w_c3 : (Jvm.Cond.code ({ cls := "com/example/bot_workflow_runner/botworkflowrunner/model/Progress", name := "equals", desc := "(Ljava/lang/Object;)Z" } : Jvm.MethodName) prog_31_method_10_code (3 : Nat) (Option.some Jvm.ClassFile.FieldType.boolean)).before args0 about1 = true := code_word (m := ⟨2, 1⟩) (meth := k2m1) (c := k2c1) (by decide +kernel) rfl rfl rfl (by decide +kernel)
set_option maxRecDepth 65536 in
theorem w_c4 : (Jvm.Cond.code ({ cls := "java/lang/Integer", name := "valueOf", desc := "(I)Ljava/lang/Integer;" } : Jvm.MethodName) jdk_33_method_22_code (1 : Nat) (Option.some (Jvm.ClassFile.FieldType.object "java/lang/Integer"))).before args0 about1 = true := code_word (m := ⟨8, 0⟩) (meth := k8m0) (c := k8c0) (by decide +kernel) rfl rfl rfl (by decide +kernel)
set_option maxRecDepth 65536 in
theorem w_c5 : (Jvm.Cond.code ({ cls := "java/lang/Integer", name := "<init>", desc := "(I)V" } : Jvm.MethodName) jdk_33_method_23_code (2 : Nat) (Option.none : Option Jvm.ClassFile.FieldType)).before args0 about1 = true := code_word (m := ⟨8, 1⟩) (meth := k8m1) (c := k8c1) (by decide +kernel) rfl rfl rfl (by decide +kernel)
set_option maxRecDepth 65536 in
theorem w_c6 : (Jvm.Cond.code ({ cls := "java/lang/Number", name := "<init>", desc := "()V" } : Jvm.MethodName) jdk_18_method_1_code (1 : Nat) (Option.none : Option Jvm.ClassFile.FieldType)).before args0 about1 = true := code_word (m := ⟨4, 0⟩) (meth := k4m0) (c := k4c0) (by decide +kernel) rfl rfl rfl (by decide +kernel)
def codes1 : List Jvm.Cond := [Jvm.Cond.code x code maxLocals ret, Jvm.Cond.code ({ cls := "com/example/bot_workflow_runner/botworkflowrunner/model/Progress", name := "<init>", desc := "(IIIII)V" } : Jvm.MethodName) prog_31_method_1_code (6 : Nat) (Option.none : Option Jvm.ClassFile.FieldType), Jvm.Cond.code ({ cls := "java/lang/Object", name := "<init>", desc := "()V" } : Jvm.MethodName) object_method_1_code (1 : Nat) (Option.none : Option Jvm.ClassFile.FieldType), Jvm.Cond.code ({ cls := "com/example/bot_workflow_runner/botworkflowrunner/model/Progress", name := "equals", desc := "(Ljava/lang/Object;)Z" } : Jvm.MethodName) prog_31_method_10_code (3 : Nat) (Option.some Jvm.ClassFile.FieldType.boolean), Jvm.Cond.code ({ cls := "java/lang/Integer", name := "valueOf", desc := "(I)Ljava/lang/Integer;" } : Jvm.MethodName) jdk_33_method_22_code (1 : Nat) (Option.some (Jvm.ClassFile.FieldType.object "java/lang/Integer")), Jvm.Cond.code ({ cls := "java/lang/Integer", name := "<init>", desc := "(I)V" } : Jvm.MethodName) jdk_33_method_23_code (2 : Nat) (Option.none : Option Jvm.ClassFile.FieldType), Jvm.Cond.code ({ cls := "java/lang/Number", name := "<init>", desc := "()V" } : Jvm.MethodName) jdk_18_method_1_code (1 : Nat) (Option.none : Option Jvm.ClassFile.FieldType)]
set_option maxRecDepth 65536 in
theorem codes_eq : words1.filter isCode = codes1 := rfl
theorem w_codes : ∀ c ∈ words1.filter isCode, c.before args0 about1 = true := by
  rw [codes_eq]
  intro c hc
  simp only [codes1, List.mem_cons, List.not_mem_nil, or_false] at hc
  rcases hc with rfl | rfl | rfl | rfl | rfl | rfl | rfl
  · exact w_c0
  · exact w_c1
  · exact w_c2
  · exact w_c3
  · exact w_c4
  · exact w_c5
  · exact w_c6
set_option maxRecDepth 65536 in
theorem w_t1 : (words1.take 24).all (fun c => isCode c || c.before args0 about1) = true := by decide +kernel
set_option maxRecDepth 65536 in
theorem w_t2 : ((words1.drop 24).take 24).all (fun c => isCode c || c.before args0 about1) = true := by decide +kernel
set_option maxRecDepth 65536 in
theorem w_t3 : ((words1.drop 24).drop 24).all (fun c => isCode c || c.before args0 about1) = true := by decide +kernel
theorem w_tables : (allAtoms (Jvm.Cond.code x code maxLocals ret :: tables_1)).before args0 about1 = true := by
  rw [allAtoms_all]
  show words1.all (fun c => c.before args0 about1) = true
  refine all_split ?_ w_codes
  rw [← List.take_append_drop 24 words1, List.all_append, w_t1, ← List.take_append_drop 24 (words1.drop 24), List.all_append, w_t2, w_t3]
  rfl
set_option maxRecDepth 65536 in
theorem w_rest : rest_1_c.before args0 about1 = true := by decide +kernel
set_option maxRecDepth 65536 in
theorem w_case : (Jvm.Cond.and given_1 narrow_1).before args0 about1 = true := by decide +kernel
theorem w_applies : (headSpec (Jvm.Cond.code x code maxLocals ret :: tables_1) room_1).applies x e0.platform about1 = true :=
  (Spec.applies_iff w_frames).mpr ⟨w_running, w_runnable, w_alone, w_named, w_hears, w_ripe, w_room, w_tables⟩
theorem atStart : AtStart classFile x code maxLocals ret World_1 tables_1 room_1 Calls_1 rest_1 Pre_1 launch0 p0 e0 about1 theMethod args0 below0 :=
  ⟨lists_1, trivial, launch0.admits_env _ _ _, launch0.least_env, fairChoices_fair.cas, fairChoices_fair.clock, w_frames, w_args, w_heap, w_applies, trivial, w_rest, w_case⟩
end start1
theorem witness_1 : WitnessClaimed_1 := ⟨start1.p0, start1.e0, start1.about1, start1.theMethod, start1.args0, start1.below0, start1.atStart⟩
end Jvm.Pilot.@@N@@
