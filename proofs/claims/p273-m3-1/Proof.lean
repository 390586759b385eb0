import JvmDerived
import JvmDerived.Pilot.@@N@@Statement
import JvmDerived.Pilot.@@N@@Code
set_option linter.unusedVariables false
set_option linter.unusedSimpArgs false
namespace Jvm.RoadKit
open Sem ClassFile Op Lib Jvm.Stand Jvm.Free Jvm.LawKit
section New
variable {p : Program} {l : Launch} {e : Env} {R : Room} {s : State} {m : MethodId} {args : Array Value} {below : List Frame} {meth : Method} {c : Code} {T : State} {locs : List Loc} {cells slots : Nat}
theorem retI (X : Stand p l e R s m args below meth c T locs cells slots) (hx : p.tables.exec = Jvm.exec) {pc : Nat} {Ls : Array Slot} {z : Int32} {rest : List Value} (hret : meth.sig.returnType = some .int) (hd : decode c.code pc = .ok (.ireturn, 1)) {fs : List Frame}
    (hl : ∀ (f : JFrame) (acts : List Action), f.method = m → f.locked = none → f.entered = [] → (doReturn e (T.setTop f) acts (some (.int z))).1 = T.setFrames fs) : Steps p.tables e below (T.setTop (mkF m pc Ls (.int z :: rest))) (T.setFrames fs) := by
  have hm' : T.vm.method? m = some meth := X.method'
  have hn : narrow .int (.int z) = .int z := rfl
  show Steps p.tables e below (T.setTop { method := m, pc := pc, locals := Ls, stack := _ :: rest, locked := none }) _
  jvm_step X.here [X.here.top, hx, hd, hm', hret, hn]
  first | (intro acts; rw [hl _ acts rfl rfl rfl]) | rw [hl _ _ rfl rfl rfl]
  exact Steps.refl _
end New
end Jvm.RoadKit
namespace Jvm.Pilot.@@N@@
open Jvm Jvm.ClassFile Sem Op Lib Jvm.Free Jvm.Stand Jvm.LawKit Jvm.RoadKit Bundle Jvm.Pilot.@@N@@.Jvm.D
abbrev OM (l : Launch) (Z : State) (y : MethodName) (cd : ByteArray) (mL : Nat) (rt : Option FieldType) (ws : List Jvm.Cond) (rm : Room) (as' : Array Value) (h0 : Heap) (Q : Option Value → Heap → List Loc → Prop) : Prop :=
  MetFree l y (head1 (Jvm.Cond.code y cd mL rt :: ws) rm) (fun a U => a = as' ∧ Z.Warmed39 U.vm ∧ U.heap = h0) (fun _ _ _ _ _ => True) (fun _ U o U' => ∃ v L, o = .returned v ∧ Q v U'.heap L ∧ FrameEnd U o U' L rm.cells rm.slots)
/-- what a body that writes nothing leaves: its value, the heap as it was -/
def OP (r : Option Value) (n0 : Nat) (h0 : Heap) (v : Option Value) (h : Heap) (L : List Loc) : Prop := v = r ∧ Fr n0 L ∧ h = h0
theorem own_fld {s : State} {args : Array Value} {t : Term} {x : Addr} {C n d : String} {k : Int32} (ht : t.eval args s none [] s = some (.ref x)) (h : (Jvm.Cond.eq (.field t C n d) (.int k)).value args s none s [] = some true) : Fld s s.heap x C n d (.int k) := by
  obtain ⟨u, v, h1, h2, h3, h4⟩ := cmp_v (Or.inl h)
  have e2 : v = .int k := (Option.some.inj h2).symm
  subst e2
  obtain ⟨z, rfl⟩ := h4
  have e3 := gotT (Jvm.Cond.eq_ints h1 h2) h
  subst e3
  exact Fld.start (by rw [← fld_at ht]; exact h1)
/-- what a body leaves that speaks of its result alone -/
def OF (r : Option Value) (n0 : Nat) (v : Option Value) (h : Heap) (L : List Loc) : Prop := v = r ∧ Fr n0 L
abbrev osel (c : Bool) (a b : Int32) : Int32 := if c then a else b
def imax (a b : Int32) : Int32 := if a < b then b else a
theorem own_imax (a b : Int32) : imax (imax 0 a) b = imax 0 (imax a b) := by
  simp only [imax, Int32.lt_iff_toInt_lt]
  repeat' split
  all_goals (first | rfl | (exfalso; omega) | (apply Int32.toInt_inj.mp; omega))
theorem own_sta_keep {Z : State} {h h' : Heap} {C n d : String} {u : Value} {b : Addr} {k : ClassId} {ty : FieldType} {z : Int32} {vs : List Value} {dv : Value} (F : Sta Z h C n d u) (Kp : Keep h h' [b]) (A : Arv Z h b k ty z vs dv) : Sta Z h' C n d u := by
  obtain ⟨cf, i, kc, f, st, cell, h1, h2, h3, h4, h5, h6, h7⟩ := F
  obtain ⟨c, Ar, -⟩ := A
  have ne : st ≠ b := fun e => by
    subst e
    cases h5.symm.trans Ar.1
    rw [Ar.plain] at h6
    cases h6
  exact ⟨cf, i, kc, f, st, cell, h1, h2, h3, h4, Kp.2.1 st cell h5 (ninS ne nin0), h6, h7⟩
theorem own_arv {s : State} {args : Array Value} {t : Term} {x : Addr} {ty : FieldType} {dv : Value} (hf : Fit s) (ht : t.eval args s none [] s = some (.ref x)) (h1 : (Jvm.Cond.arrayOf t ty).value args s none s [] = some true) (h2 : (Jvm.Cond.eq (.length t) (.int 0)).value args s none s [] = some true) : ∃ k : ClassId, Arv s s.heap x k ty (0 : Int32) [] dv := by
  obtain ⟨c, A⟩ := Arr.start ht h1
  obtain ⟨u, v, e1, e2, k1, k2⟩ := cmp_v (Or.inl h2)
  have q2 : v = .int 0 := (Option.some.inj e2).symm
  subst q2
  obtain ⟨z, rfl⟩ := k2
  have q3 := gotT (Jvm.Cond.eq_ints e1 e2) h2
  subst q3
  have ha : s.arrayAt? x = some c := A.fin (Vm.Alike.refl _)
  have hl : c.slots.size < 2 ^ 31 ∧ c.slots.size.toInt32 = 0 := by
    simp only [Term.eval, ht, Option.bind_eq_bind, Option.bind_some, ha] at e1
    split at e1
    · rename_i q; exact ⟨q, by simpa using e1⟩
    · cases e1
  exact ⟨c.cls, Arv.start hf A hl.1 hl.2 (by decide) rfl trivial⟩
def Kon (Z : State) (h : Heap) (w : Nat → Addr) (κ : Nat → ClassId) : Prop :=
  (Sta Z h "com/example/licon/licon/search/Operator" "EQ" "Lcom/example/licon/licon/search/Operator;" (.ref (w 0))) ∧
  (Sta Z h "com/example/licon/licon/search/Operator" "NEQ" "Lcom/example/licon/licon/search/Operator;" (.ref (w 1))) ∧
  (Sta Z h "com/example/licon/licon/search/Operator" "SW" "Lcom/example/licon/licon/search/Operator;" (.ref (w 2))) ∧
  (Sta Z h "com/example/licon/licon/search/Operator" "CONTAINS" "Lcom/example/licon/licon/search/Operator;" (.ref (w 3))) ∧
  (Sta Z h "com/example/licon/licon/search/Operator" "IN" "Lcom/example/licon/licon/search/Operator;" (.ref (w 4))) ∧
  (Sta Z h "com/example/licon/licon/search/Operator" "NIN" "Lcom/example/licon/licon/search/Operator;" (.ref (w 5))) ∧
  (Sta Z h "com/example/licon/licon/search/Operator" "IS_EMPTY" "Lcom/example/licon/licon/search/Operator;" (.ref (w 6))) ∧
  (Sta Z h "com/example/licon/licon/search/Operator" "NOT_EMPTY" "Lcom/example/licon/licon/search/Operator;" (.ref (w 7))) ∧
  (Exa Z h (w 0) "com/example/licon/licon/search/Operator") ∧
  (Exa Z h (w 1) "com/example/licon/licon/search/Operator") ∧
  (Exa Z h (w 2) "com/example/licon/licon/search/Operator") ∧
  (Exa Z h (w 3) "com/example/licon/licon/search/Operator") ∧
  (Exa Z h (w 4) "com/example/licon/licon/search/Operator") ∧
  (Exa Z h (w 5) "com/example/licon/licon/search/Operator") ∧
  (Exa Z h (w 6) "com/example/licon/licon/search/Operator") ∧
  (Exa Z h (w 7) "com/example/licon/licon/search/Operator") ∧
  (Fld Z h (w 0) "java/lang/Enum" "ordinal" "I" (.int (0 : Int32))) ∧
  (Fld Z h (w 2) "java/lang/Enum" "ordinal" "I" (.int (2 : Int32))) ∧
  (Fld Z h (w 3) "java/lang/Enum" "ordinal" "I" (.int (3 : Int32))) ∧
  (Fld Z h (w 3) "com/example/licon/licon/search/Operator" "fewestValues" "I" (.int (1 : Int32))) ∧
  (Fld Z h (w 3) "com/example/licon/licon/search/Operator" "mostValues" "I" (.int (1 : Int32))) ∧
  (Fld Z h (w 3) "com/example/licon/licon/search/Operator" "negated" "Z" (.int (0 : Int32))) ∧
  (Fld Z h (w 6) "java/lang/Enum" "ordinal" "I" (.int (6 : Int32))) ∧
  (Fld Z h (w 7) "java/lang/Enum" "ordinal" "I" (.int (7 : Int32))) ∧
  (Fld Z h (w 2) "com/example/licon/licon/search/Operator" "fewestValues" "I" (.int (1 : Int32))) ∧
  (Fld Z h (w 2) "com/example/licon/licon/search/Operator" "mostValues" "I" (.int (1 : Int32))) ∧
  (Fld Z h (w 2) "com/example/licon/licon/search/Operator" "negated" "Z" (.int (0 : Int32))) ∧
  (Fld Z h (w 1) "java/lang/Enum" "ordinal" "I" (.int (1 : Int32))) ∧
  (Fld Z h (w 4) "java/lang/Enum" "ordinal" "I" (.int (4 : Int32))) ∧
  (Fld Z h (w 5) "java/lang/Enum" "ordinal" "I" (.int (5 : Int32))) ∧
  (Fld Z h (w 0) "com/example/licon/licon/search/Operator" "fewestValues" "I" (.int (1 : Int32))) ∧
  (Fld Z h (w 0) "com/example/licon/licon/search/Operator" "mostValues" "I" (.int (1 : Int32))) ∧
  (Fld Z h (w 0) "com/example/licon/licon/search/Operator" "negated" "Z" (.int (0 : Int32))) ∧
  (Fld Z h (w 1) "com/example/licon/licon/search/Operator" "fewestValues" "I" (.int (1 : Int32))) ∧
  (Fld Z h (w 1) "com/example/licon/licon/search/Operator" "mostValues" "I" (.int (1 : Int32))) ∧
  (Fld Z h (w 1) "com/example/licon/licon/search/Operator" "negated" "Z" (.int (1 : Int32))) ∧
  (Fld Z h (w 4) "com/example/licon/licon/search/Operator" "fewestValues" "I" (.int (1 : Int32))) ∧
  (Fld Z h (w 4) "com/example/licon/licon/search/Operator" "mostValues" "I" (.int (2147483647 : Int32))) ∧
  (Fld Z h (w 4) "com/example/licon/licon/search/Operator" "negated" "Z" (.int (0 : Int32))) ∧
  (Fld Z h (w 5) "com/example/licon/licon/search/Operator" "fewestValues" "I" (.int (1 : Int32))) ∧
  (Fld Z h (w 5) "com/example/licon/licon/search/Operator" "mostValues" "I" (.int (2147483647 : Int32))) ∧
  (Fld Z h (w 5) "com/example/licon/licon/search/Operator" "negated" "Z" (.int (1 : Int32))) ∧
  (Fld Z h (w 6) "com/example/licon/licon/search/Operator" "fewestValues" "I" (.int (0 : Int32))) ∧
  (Fld Z h (w 6) "com/example/licon/licon/search/Operator" "mostValues" "I" (.int (0 : Int32))) ∧
  (Fld Z h (w 6) "com/example/licon/licon/search/Operator" "negated" "Z" (.int (1 : Int32))) ∧
  (Fld Z h (w 7) "com/example/licon/licon/search/Operator" "fewestValues" "I" (.int (0 : Int32))) ∧
  (Fld Z h (w 7) "com/example/licon/licon/search/Operator" "mostValues" "I" (.int (0 : Int32))) ∧
  (Fld Z h (w 7) "com/example/licon/licon/search/Operator" "negated" "Z" (.int (0 : Int32)))
theorem Kon.ext {Z : State} {h h' : Heap} {w : Nat → Addr} {κ : Nat → ClassId} (K : Kon Z h w κ) (E : Ext h h') : Kon Z h' w κ := ⟨K.1.ext E, K.2.1.ext E, K.2.2.1.ext E, K.2.2.2.1.ext E, K.2.2.2.2.1.ext E, K.2.2.2.2.2.1.ext E, K.2.2.2.2.2.2.1.ext E, K.2.2.2.2.2.2.2.1.ext E, K.2.2.2.2.2.2.2.2.1.ext E, K.2.2.2.2.2.2.2.2.2.1.ext E, K.2.2.2.2.2.2.2.2.2.2.1.ext E, K.2.2.2.2.2.2.2.2.2.2.2.1.ext E, K.2.2.2.2.2.2.2.2.2.2.2.2.1.ext E, K.2.2.2.2.2.2.2.2.2.2.2.2.2.1.ext E, K.2.2.2.2.2.2.2.2.2.2.2.2.2.2.1.ext E, K.2.2.2.2.2.2.2.2.2.2.2.2.2.2.2.1.ext E, K.2.2.2.2.2.2.2.2.2.2.2.2.2.2.2.2.1.ext E, K.2.2.2.2.2.2.2.2.2.2.2.2.2.2.2.2.2.1.ext E, K.2.2.2.2.2.2.2.2.2.2.2.2.2.2.2.2.2.2.1.ext E, K.2.2.2.2.2.2.2.2.2.2.2.2.2.2.2.2.2.2.2.1.ext E, K.2.2.2.2.2.2.2.2.2.2.2.2.2.2.2.2.2.2.2.2.1.ext E, K.2.2.2.2.2.2.2.2.2.2.2.2.2.2.2.2.2.2.2.2.2.1.ext E, K.2.2.2.2.2.2.2.2.2.2.2.2.2.2.2.2.2.2.2.2.2.2.1.ext E, K.2.2.2.2.2.2.2.2.2.2.2.2.2.2.2.2.2.2.2.2.2.2.2.1.ext E, K.2.2.2.2.2.2.2.2.2.2.2.2.2.2.2.2.2.2.2.2.2.2.2.2.1.ext E, K.2.2.2.2.2.2.2.2.2.2.2.2.2.2.2.2.2.2.2.2.2.2.2.2.2.1.ext E, K.2.2.2.2.2.2.2.2.2.2.2.2.2.2.2.2.2.2.2.2.2.2.2.2.2.2.1.ext E, K.2.2.2.2.2.2.2.2.2.2.2.2.2.2.2.2.2.2.2.2.2.2.2.2.2.2.2.1.ext E, K.2.2.2.2.2.2.2.2.2.2.2.2.2.2.2.2.2.2.2.2.2.2.2.2.2.2.2.2.1.ext E, K.2.2.2.2.2.2.2.2.2.2.2.2.2.2.2.2.2.2.2.2.2.2.2.2.2.2.2.2.2.1.ext E, K.2.2.2.2.2.2.2.2.2.2.2.2.2.2.2.2.2.2.2.2.2.2.2.2.2.2.2.2.2.2.1.ext E, K.2.2.2.2.2.2.2.2.2.2.2.2.2.2.2.2.2.2.2.2.2.2.2.2.2.2.2.2.2.2.2.1.ext E, K.2.2.2.2.2.2.2.2.2.2.2.2.2.2.2.2.2.2.2.2.2.2.2.2.2.2.2.2.2.2.2.2.1.ext E, K.2.2.2.2.2.2.2.2.2.2.2.2.2.2.2.2.2.2.2.2.2.2.2.2.2.2.2.2.2.2.2.2.2.1.ext E, K.2.2.2.2.2.2.2.2.2.2.2.2.2.2.2.2.2.2.2.2.2.2.2.2.2.2.2.2.2.2.2.2.2.2.1.ext E, K.2.2.2.2.2.2.2.2.2.2.2.2.2.2.2.2.2.2.2.2.2.2.2.2.2.2.2.2.2.2.2.2.2.2.2.1.ext E, K.2.2.2.2.2.2.2.2.2.2.2.2.2.2.2.2.2.2.2.2.2.2.2.2.2.2.2.2.2.2.2.2.2.2.2.2.1.ext E, K.2.2.2.2.2.2.2.2.2.2.2.2.2.2.2.2.2.2.2.2.2.2.2.2.2.2.2.2.2.2.2.2.2.2.2.2.2.1.ext E, K.2.2.2.2.2.2.2.2.2.2.2.2.2.2.2.2.2.2.2.2.2.2.2.2.2.2.2.2.2.2.2.2.2.2.2.2.2.2.1.ext E, K.2.2.2.2.2.2.2.2.2.2.2.2.2.2.2.2.2.2.2.2.2.2.2.2.2.2.2.2.2.2.2.2.2.2.2.2.2.2.2.1.ext E, K.2.2.2.2.2.2.2.2.2.2.2.2.2.2.2.2.2.2.2.2.2.2.2.2.2.2.2.2.2.2.2.2.2.2.2.2.2.2.2.2.1.ext E, K.2.2.2.2.2.2.2.2.2.2.2.2.2.2.2.2.2.2.2.2.2.2.2.2.2.2.2.2.2.2.2.2.2.2.2.2.2.2.2.2.2.1.ext E, K.2.2.2.2.2.2.2.2.2.2.2.2.2.2.2.2.2.2.2.2.2.2.2.2.2.2.2.2.2.2.2.2.2.2.2.2.2.2.2.2.2.2.1.ext E, K.2.2.2.2.2.2.2.2.2.2.2.2.2.2.2.2.2.2.2.2.2.2.2.2.2.2.2.2.2.2.2.2.2.2.2.2.2.2.2.2.2.2.2.1.ext E, K.2.2.2.2.2.2.2.2.2.2.2.2.2.2.2.2.2.2.2.2.2.2.2.2.2.2.2.2.2.2.2.2.2.2.2.2.2.2.2.2.2.2.2.2.1.ext E, K.2.2.2.2.2.2.2.2.2.2.2.2.2.2.2.2.2.2.2.2.2.2.2.2.2.2.2.2.2.2.2.2.2.2.2.2.2.2.2.2.2.2.2.2.2.1.ext E, K.2.2.2.2.2.2.2.2.2.2.2.2.2.2.2.2.2.2.2.2.2.2.2.2.2.2.2.2.2.2.2.2.2.2.2.2.2.2.2.2.2.2.2.2.2.2.1.ext E, K.2.2.2.2.2.2.2.2.2.2.2.2.2.2.2.2.2.2.2.2.2.2.2.2.2.2.2.2.2.2.2.2.2.2.2.2.2.2.2.2.2.2.2.2.2.2.2.ext E⟩
theorem Kon.wr {Z : State} {h h' : Heap} {w : Nat → Addr} {κ : Nat → ClassId} (K : Kon Z h w κ) {a : Addr} {sl : Nat} {v : Value} (W : Wr h h' a sl v) (q : ∀ i, i < 8 → w i ≠ a) : Kon Z h' w κ := ⟨K.1.wr W, K.2.1.wr W, K.2.2.1.wr W, K.2.2.2.1.wr W, K.2.2.2.2.1.wr W, K.2.2.2.2.2.1.wr W, K.2.2.2.2.2.2.1.wr W, K.2.2.2.2.2.2.2.1.wr W, K.2.2.2.2.2.2.2.2.1.wr W, K.2.2.2.2.2.2.2.2.2.1.wr W, K.2.2.2.2.2.2.2.2.2.2.1.wr W, K.2.2.2.2.2.2.2.2.2.2.2.1.wr W, K.2.2.2.2.2.2.2.2.2.2.2.2.1.wr W, K.2.2.2.2.2.2.2.2.2.2.2.2.2.1.wr W, K.2.2.2.2.2.2.2.2.2.2.2.2.2.2.1.wr W, K.2.2.2.2.2.2.2.2.2.2.2.2.2.2.2.1.wr W, K.2.2.2.2.2.2.2.2.2.2.2.2.2.2.2.2.1.other W (Or.inl (q 0 (by decide))), K.2.2.2.2.2.2.2.2.2.2.2.2.2.2.2.2.2.1.other W (Or.inl (q 2 (by decide))), K.2.2.2.2.2.2.2.2.2.2.2.2.2.2.2.2.2.2.1.other W (Or.inl (q 3 (by decide))), K.2.2.2.2.2.2.2.2.2.2.2.2.2.2.2.2.2.2.2.1.other W (Or.inl (q 3 (by decide))), K.2.2.2.2.2.2.2.2.2.2.2.2.2.2.2.2.2.2.2.2.1.other W (Or.inl (q 3 (by decide))), K.2.2.2.2.2.2.2.2.2.2.2.2.2.2.2.2.2.2.2.2.2.1.other W (Or.inl (q 3 (by decide))), K.2.2.2.2.2.2.2.2.2.2.2.2.2.2.2.2.2.2.2.2.2.2.1.other W (Or.inl (q 6 (by decide))), K.2.2.2.2.2.2.2.2.2.2.2.2.2.2.2.2.2.2.2.2.2.2.2.1.other W (Or.inl (q 7 (by decide))), K.2.2.2.2.2.2.2.2.2.2.2.2.2.2.2.2.2.2.2.2.2.2.2.2.1.other W (Or.inl (q 2 (by decide))), K.2.2.2.2.2.2.2.2.2.2.2.2.2.2.2.2.2.2.2.2.2.2.2.2.2.1.other W (Or.inl (q 2 (by decide))), K.2.2.2.2.2.2.2.2.2.2.2.2.2.2.2.2.2.2.2.2.2.2.2.2.2.2.1.other W (Or.inl (q 2 (by decide))), K.2.2.2.2.2.2.2.2.2.2.2.2.2.2.2.2.2.2.2.2.2.2.2.2.2.2.2.1.other W (Or.inl (q 1 (by decide))), K.2.2.2.2.2.2.2.2.2.2.2.2.2.2.2.2.2.2.2.2.2.2.2.2.2.2.2.2.1.other W (Or.inl (q 4 (by decide))), K.2.2.2.2.2.2.2.2.2.2.2.2.2.2.2.2.2.2.2.2.2.2.2.2.2.2.2.2.2.1.other W (Or.inl (q 5 (by decide))), K.2.2.2.2.2.2.2.2.2.2.2.2.2.2.2.2.2.2.2.2.2.2.2.2.2.2.2.2.2.2.1.other W (Or.inl (q 0 (by decide))), K.2.2.2.2.2.2.2.2.2.2.2.2.2.2.2.2.2.2.2.2.2.2.2.2.2.2.2.2.2.2.2.1.other W (Or.inl (q 0 (by decide))), K.2.2.2.2.2.2.2.2.2.2.2.2.2.2.2.2.2.2.2.2.2.2.2.2.2.2.2.2.2.2.2.2.1.other W (Or.inl (q 0 (by decide))), K.2.2.2.2.2.2.2.2.2.2.2.2.2.2.2.2.2.2.2.2.2.2.2.2.2.2.2.2.2.2.2.2.2.1.other W (Or.inl (q 1 (by decide))), K.2.2.2.2.2.2.2.2.2.2.2.2.2.2.2.2.2.2.2.2.2.2.2.2.2.2.2.2.2.2.2.2.2.2.1.other W (Or.inl (q 1 (by decide))), K.2.2.2.2.2.2.2.2.2.2.2.2.2.2.2.2.2.2.2.2.2.2.2.2.2.2.2.2.2.2.2.2.2.2.2.1.other W (Or.inl (q 1 (by decide))), K.2.2.2.2.2.2.2.2.2.2.2.2.2.2.2.2.2.2.2.2.2.2.2.2.2.2.2.2.2.2.2.2.2.2.2.2.1.other W (Or.inl (q 4 (by decide))), K.2.2.2.2.2.2.2.2.2.2.2.2.2.2.2.2.2.2.2.2.2.2.2.2.2.2.2.2.2.2.2.2.2.2.2.2.2.1.other W (Or.inl (q 4 (by decide))), K.2.2.2.2.2.2.2.2.2.2.2.2.2.2.2.2.2.2.2.2.2.2.2.2.2.2.2.2.2.2.2.2.2.2.2.2.2.2.1.other W (Or.inl (q 4 (by decide))), K.2.2.2.2.2.2.2.2.2.2.2.2.2.2.2.2.2.2.2.2.2.2.2.2.2.2.2.2.2.2.2.2.2.2.2.2.2.2.2.1.other W (Or.inl (q 5 (by decide))), K.2.2.2.2.2.2.2.2.2.2.2.2.2.2.2.2.2.2.2.2.2.2.2.2.2.2.2.2.2.2.2.2.2.2.2.2.2.2.2.2.1.other W (Or.inl (q 5 (by decide))), K.2.2.2.2.2.2.2.2.2.2.2.2.2.2.2.2.2.2.2.2.2.2.2.2.2.2.2.2.2.2.2.2.2.2.2.2.2.2.2.2.2.1.other W (Or.inl (q 5 (by decide))), K.2.2.2.2.2.2.2.2.2.2.2.2.2.2.2.2.2.2.2.2.2.2.2.2.2.2.2.2.2.2.2.2.2.2.2.2.2.2.2.2.2.2.1.other W (Or.inl (q 6 (by decide))), K.2.2.2.2.2.2.2.2.2.2.2.2.2.2.2.2.2.2.2.2.2.2.2.2.2.2.2.2.2.2.2.2.2.2.2.2.2.2.2.2.2.2.2.1.other W (Or.inl (q 6 (by decide))), K.2.2.2.2.2.2.2.2.2.2.2.2.2.2.2.2.2.2.2.2.2.2.2.2.2.2.2.2.2.2.2.2.2.2.2.2.2.2.2.2.2.2.2.2.1.other W (Or.inl (q 6 (by decide))), K.2.2.2.2.2.2.2.2.2.2.2.2.2.2.2.2.2.2.2.2.2.2.2.2.2.2.2.2.2.2.2.2.2.2.2.2.2.2.2.2.2.2.2.2.2.1.other W (Or.inl (q 7 (by decide))), K.2.2.2.2.2.2.2.2.2.2.2.2.2.2.2.2.2.2.2.2.2.2.2.2.2.2.2.2.2.2.2.2.2.2.2.2.2.2.2.2.2.2.2.2.2.2.1.other W (Or.inl (q 7 (by decide))), K.2.2.2.2.2.2.2.2.2.2.2.2.2.2.2.2.2.2.2.2.2.2.2.2.2.2.2.2.2.2.2.2.2.2.2.2.2.2.2.2.2.2.2.2.2.2.2.other W (Or.inl (q 7 (by decide)))⟩
theorem Kon.keep {Z : State} {h h' : Heap} {w : Nat → Addr} {κ : Nat → ClassId} (K : Kon Z h w κ) {b : Addr} {k : ClassId} {ty : FieldType} {z : Int32} {vs : List Value} {dv : Value} (Kp : Keep h h' [b]) (A : Arv Z h b k ty z vs dv) (q : ∀ i, i < 8 → w i ≠ b) : Kon Z h' w κ := ⟨own_sta_keep K.1 Kp A, own_sta_keep K.2.1 Kp A, own_sta_keep K.2.2.1 Kp A, own_sta_keep K.2.2.2.1 Kp A, own_sta_keep K.2.2.2.2.1 Kp A, own_sta_keep K.2.2.2.2.2.1 Kp A, own_sta_keep K.2.2.2.2.2.2.1 Kp A, own_sta_keep K.2.2.2.2.2.2.2.1 Kp A, K.2.2.2.2.2.2.2.2.1.keep Kp, K.2.2.2.2.2.2.2.2.2.1.keep Kp, K.2.2.2.2.2.2.2.2.2.2.1.keep Kp, K.2.2.2.2.2.2.2.2.2.2.2.1.keep Kp, K.2.2.2.2.2.2.2.2.2.2.2.2.1.keep Kp, K.2.2.2.2.2.2.2.2.2.2.2.2.2.1.keep Kp, K.2.2.2.2.2.2.2.2.2.2.2.2.2.2.1.keep Kp, K.2.2.2.2.2.2.2.2.2.2.2.2.2.2.2.1.keep Kp, K.2.2.2.2.2.2.2.2.2.2.2.2.2.2.2.2.1.keep Kp (ninS (q 0 (by decide)) nin0), K.2.2.2.2.2.2.2.2.2.2.2.2.2.2.2.2.2.1.keep Kp (ninS (q 2 (by decide)) nin0), K.2.2.2.2.2.2.2.2.2.2.2.2.2.2.2.2.2.2.1.keep Kp (ninS (q 3 (by decide)) nin0), K.2.2.2.2.2.2.2.2.2.2.2.2.2.2.2.2.2.2.2.1.keep Kp (ninS (q 3 (by decide)) nin0), K.2.2.2.2.2.2.2.2.2.2.2.2.2.2.2.2.2.2.2.2.1.keep Kp (ninS (q 3 (by decide)) nin0), K.2.2.2.2.2.2.2.2.2.2.2.2.2.2.2.2.2.2.2.2.2.1.keep Kp (ninS (q 3 (by decide)) nin0), K.2.2.2.2.2.2.2.2.2.2.2.2.2.2.2.2.2.2.2.2.2.2.1.keep Kp (ninS (q 6 (by decide)) nin0), K.2.2.2.2.2.2.2.2.2.2.2.2.2.2.2.2.2.2.2.2.2.2.2.1.keep Kp (ninS (q 7 (by decide)) nin0), K.2.2.2.2.2.2.2.2.2.2.2.2.2.2.2.2.2.2.2.2.2.2.2.2.1.keep Kp (ninS (q 2 (by decide)) nin0), K.2.2.2.2.2.2.2.2.2.2.2.2.2.2.2.2.2.2.2.2.2.2.2.2.2.1.keep Kp (ninS (q 2 (by decide)) nin0), K.2.2.2.2.2.2.2.2.2.2.2.2.2.2.2.2.2.2.2.2.2.2.2.2.2.2.1.keep Kp (ninS (q 2 (by decide)) nin0), K.2.2.2.2.2.2.2.2.2.2.2.2.2.2.2.2.2.2.2.2.2.2.2.2.2.2.2.1.keep Kp (ninS (q 1 (by decide)) nin0), K.2.2.2.2.2.2.2.2.2.2.2.2.2.2.2.2.2.2.2.2.2.2.2.2.2.2.2.2.1.keep Kp (ninS (q 4 (by decide)) nin0), K.2.2.2.2.2.2.2.2.2.2.2.2.2.2.2.2.2.2.2.2.2.2.2.2.2.2.2.2.2.1.keep Kp (ninS (q 5 (by decide)) nin0), K.2.2.2.2.2.2.2.2.2.2.2.2.2.2.2.2.2.2.2.2.2.2.2.2.2.2.2.2.2.2.1.keep Kp (ninS (q 0 (by decide)) nin0), K.2.2.2.2.2.2.2.2.2.2.2.2.2.2.2.2.2.2.2.2.2.2.2.2.2.2.2.2.2.2.2.1.keep Kp (ninS (q 0 (by decide)) nin0), K.2.2.2.2.2.2.2.2.2.2.2.2.2.2.2.2.2.2.2.2.2.2.2.2.2.2.2.2.2.2.2.2.1.keep Kp (ninS (q 0 (by decide)) nin0), K.2.2.2.2.2.2.2.2.2.2.2.2.2.2.2.2.2.2.2.2.2.2.2.2.2.2.2.2.2.2.2.2.2.1.keep Kp (ninS (q 1 (by decide)) nin0), K.2.2.2.2.2.2.2.2.2.2.2.2.2.2.2.2.2.2.2.2.2.2.2.2.2.2.2.2.2.2.2.2.2.2.1.keep Kp (ninS (q 1 (by decide)) nin0), K.2.2.2.2.2.2.2.2.2.2.2.2.2.2.2.2.2.2.2.2.2.2.2.2.2.2.2.2.2.2.2.2.2.2.2.1.keep Kp (ninS (q 1 (by decide)) nin0), K.2.2.2.2.2.2.2.2.2.2.2.2.2.2.2.2.2.2.2.2.2.2.2.2.2.2.2.2.2.2.2.2.2.2.2.2.1.keep Kp (ninS (q 4 (by decide)) nin0), K.2.2.2.2.2.2.2.2.2.2.2.2.2.2.2.2.2.2.2.2.2.2.2.2.2.2.2.2.2.2.2.2.2.2.2.2.2.1.keep Kp (ninS (q 4 (by decide)) nin0), K.2.2.2.2.2.2.2.2.2.2.2.2.2.2.2.2.2.2.2.2.2.2.2.2.2.2.2.2.2.2.2.2.2.2.2.2.2.2.1.keep Kp (ninS (q 4 (by decide)) nin0), K.2.2.2.2.2.2.2.2.2.2.2.2.2.2.2.2.2.2.2.2.2.2.2.2.2.2.2.2.2.2.2.2.2.2.2.2.2.2.2.1.keep Kp (ninS (q 5 (by decide)) nin0), K.2.2.2.2.2.2.2.2.2.2.2.2.2.2.2.2.2.2.2.2.2.2.2.2.2.2.2.2.2.2.2.2.2.2.2.2.2.2.2.2.1.keep Kp (ninS (q 5 (by decide)) nin0), K.2.2.2.2.2.2.2.2.2.2.2.2.2.2.2.2.2.2.2.2.2.2.2.2.2.2.2.2.2.2.2.2.2.2.2.2.2.2.2.2.2.1.keep Kp (ninS (q 5 (by decide)) nin0), K.2.2.2.2.2.2.2.2.2.2.2.2.2.2.2.2.2.2.2.2.2.2.2.2.2.2.2.2.2.2.2.2.2.2.2.2.2.2.2.2.2.2.1.keep Kp (ninS (q 6 (by decide)) nin0), K.2.2.2.2.2.2.2.2.2.2.2.2.2.2.2.2.2.2.2.2.2.2.2.2.2.2.2.2.2.2.2.2.2.2.2.2.2.2.2.2.2.2.2.1.keep Kp (ninS (q 6 (by decide)) nin0), K.2.2.2.2.2.2.2.2.2.2.2.2.2.2.2.2.2.2.2.2.2.2.2.2.2.2.2.2.2.2.2.2.2.2.2.2.2.2.2.2.2.2.2.2.1.keep Kp (ninS (q 6 (by decide)) nin0), K.2.2.2.2.2.2.2.2.2.2.2.2.2.2.2.2.2.2.2.2.2.2.2.2.2.2.2.2.2.2.2.2.2.2.2.2.2.2.2.2.2.2.2.2.2.1.keep Kp (ninS (q 7 (by decide)) nin0), K.2.2.2.2.2.2.2.2.2.2.2.2.2.2.2.2.2.2.2.2.2.2.2.2.2.2.2.2.2.2.2.2.2.2.2.2.2.2.2.2.2.2.2.2.2.2.1.keep Kp (ninS (q 7 (by decide)) nin0), K.2.2.2.2.2.2.2.2.2.2.2.2.2.2.2.2.2.2.2.2.2.2.2.2.2.2.2.2.2.2.2.2.2.2.2.2.2.2.2.2.2.2.2.2.2.2.2.keep Kp (ninS (q 7 (by decide)) nin0)⟩
theorem Kon.lt {Z : State} {h : Heap} {w : Nat → Addr} {κ : Nat → ClassId} (K : Kon Z h w κ) : ∀ i, i < 8 → w i < h.size := fun i hi => by
  have q : i = 0 ∨ i = 1 ∨ i = 2 ∨ i = 3 ∨ i = 4 ∨ i = 5 ∨ i = 6 ∨ i = 7 := by omega
  rcases q with rfl | rfl | rfl | rfl | rfl | rfl | rfl | rfl
  · exact K.2.2.2.2.2.2.2.2.1.lt
  · exact K.2.2.2.2.2.2.2.2.2.1.lt
  · exact K.2.2.2.2.2.2.2.2.2.2.1.lt
  · exact K.2.2.2.2.2.2.2.2.2.2.2.1.lt
  · exact K.2.2.2.2.2.2.2.2.2.2.2.2.1.lt
  · exact K.2.2.2.2.2.2.2.2.2.2.2.2.2.1.lt
  · exact K.2.2.2.2.2.2.2.2.2.2.2.2.2.2.1.lt
  · exact K.2.2.2.2.2.2.2.2.2.2.2.2.2.2.2.1.lt
theorem own_lt_8 (t : Int32) (h0 : 0 ≤ t.toInt) (h1 : t.toInt < 8) : t = (0 : Int32) ∨ t = (1 : Int32) ∨ t = (2 : Int32) ∨ t = (3 : Int32) ∨ t = (4 : Int32) ∨ t = (5 : Int32) ∨ t = (6 : Int32) ∨ t = (7 : Int32) := by
  have q : t.toInt = 0 ∨ t.toInt = 1 ∨ t.toInt = 2 ∨ t.toInt = 3 ∨ t.toInt = 4 ∨ t.toInt = 5 ∨ t.toInt = 6 ∨ t.toInt = 7 := by omega
  rcases q with q | q | q | q | q | q | q | q
  · exact Or.inl (Int32.toInt_inj.mp (q.trans (by decide)))
  · exact Or.inr (Or.inl (Int32.toInt_inj.mp (q.trans (by decide))))
  · exact Or.inr (Or.inr (Or.inl (Int32.toInt_inj.mp (q.trans (by decide)))))
  · exact Or.inr (Or.inr (Or.inr (Or.inl (Int32.toInt_inj.mp (q.trans (by decide))))))
  · exact Or.inr (Or.inr (Or.inr (Or.inr (Or.inl (Int32.toInt_inj.mp (q.trans (by decide)))))))
  · exact Or.inr (Or.inr (Or.inr (Or.inr (Or.inr (Or.inl (Int32.toInt_inj.mp (q.trans (by decide))))))))
  · exact Or.inr (Or.inr (Or.inr (Or.inr (Or.inr (Or.inr (Or.inl (Int32.toInt_inj.mp (q.trans (by decide)))))))))
  · exact Or.inr (Or.inr (Or.inr (Or.inr (Or.inr (Or.inr (Or.inr (Int32.toInt_inj.mp (q.trans (by decide)))))))))
theorem own_mask_8 (u : Int32) : (u &&& (7 : Int32)) = (0 : Int32) ∨ (u &&& (7 : Int32)) = (1 : Int32) ∨ (u &&& (7 : Int32)) = (2 : Int32) ∨ (u &&& (7 : Int32)) = (3 : Int32) ∨ (u &&& (7 : Int32)) = (4 : Int32) ∨ (u &&& (7 : Int32)) = (5 : Int32) ∨ (u &&& (7 : Int32)) = (6 : Int32) ∨ (u &&& (7 : Int32)) = (7 : Int32) := by
  have h1 := c_and u 7 (by decide)
  have h2 : (7 : Int32).toInt = 7 := rfl
  exact own_lt_8 _ h1.1 (by omega)
theorem d_prog_9_method_6_code_0 : decode prog_9_method_6_code 0 = .ok (.aload_n 0, 1) := by decide +kernel
theorem d_prog_9_method_6_code_1 : decode prog_9_method_6_code 1 = .ok (.getstatic 10, 3) := by decide +kernel
theorem d_prog_9_method_6_code_4 : decode prog_9_method_6_code 4 = .ok (.if_acmp .eq 10, 3) := by decide +kernel
theorem d_prog_9_method_6_code_7 : decode prog_9_method_6_code 7 = .ok (.aload_n 0, 1) := by decide +kernel
theorem d_prog_9_method_6_code_8 : decode prog_9_method_6_code 8 = .ok (.getstatic 13, 3) := by decide +kernel
theorem d_prog_9_method_6_code_11 : decode prog_9_method_6_code 11 = .ok (.if_acmp .ne 7, 3) := by decide +kernel
theorem d_prog_9_method_6_code_18 : decode prog_9_method_6_code 18 = .ok (.iconst 0, 1) := by decide +kernel
theorem d_prog_9_method_6_code_19 : decode prog_9_method_6_code 19 = .ok (.ireturn, 1) := by decide +kernel
theorem pn_com_example_licon_licon_search_Operator : plainName "com/example/licon/licon/search/Operator" = true := by first | (simp [plainName, overriddenIn]; done) | decide +kernel
set_option maxRecDepth 65536 in
set_option maxHeartbeats 40000000 in
theorem rm_comparesText_1 (l : Launch) (Z : State) (a0 : Array Value) (hw : ∀ d ∈ tables_1, d.before a0 Z = true) (w : Nat → Addr) (κ : Nat → ClassId) (h0 : Heap) (n0 : Nat) (Z0 : n0 ≤ h0.size) (K : Kon Z h0 w κ) (u0 : Int32) (b1 : Addr) (k1 : ClassId) :
    OM l Z (⟨"com/example/licon/licon/search/Operator", "comparesText", "()Z"⟩ : MethodName) prog_9_method_6_code 1 (some .boolean) [] ({ frames := 0, cells := 0, slots := 0, locals := 0 } : Room) #[(.ref (w 0))] h0 (OP (some (.int (0 : Int32))) n0 h0) := by
  refine MetFree.of_bodySF (plainFor_of_name pn_com_example_licon_licon_search_Operator) hisR ?_
  intro p e s m args below meth c s₁ Bd hml0 hP hK
  obtain ⟨rfl, hZ, hh⟩ := hP
  have hx := Bd.exec
  have hby := Bd.bytes
  have hml : c.maxLocals = 1 := hml0
  have hown : s.vm.findClass "com/example/licon/licon/search/Operator" = some m.cls := findClass_of_methodNamed Bd.named
  have hnm := (name_of_methodNamed Bd.named Bd.method).1
  have X0 : Stand p l e ({ frames := 0, cells := 0, slots := 0, locals := 0 } : Room) s m #[(.ref (w 0))] below meth c s₁ [] 0 0 := Stand.of_body Bd
  have e0 : s₁.heap = h0 := by rw [← hh, Bd.state]; rfl
  have N0 := Fr.nil n0
  have pre0 : ∀ t, Steps p.tables e below (s₁.setTop (mkF m 0 #[.val (.ref (w 0))] [])) t → Steps p.tables e below (s₁.setTop (entryFrame m #[(.ref (w 0))] 1)) t := fun t k => castTop (by first | rfl | simp [entryFrame, mkF, argsToLocals, Value.category]) k
  obtain ⟨T1, X1, e1, st1⟩ := getS2 X0 hx hZ hown (host := "") (Or.inl (hw _ (List.mem_of_getElem? (i := 25) rfl))) Via.refl e0 K.2.2.1 (g := (mkF m 1 #[.val (.ref (w 0))] [(.ref (w 0))])) rfl (hb hby d_prog_9_method_6_code_1)
  obtain ⟨T2, X2, e2, st2⟩ := getS2 X1 hx hZ hown (host := "") (Or.inl (hw _ (List.mem_of_getElem? (i := 26) rfl))) Via.refl e1 K.2.2.2.1 (g := (mkF m 8 #[.val (.ref (w 0))] [(.ref (w 0))])) rfl (hb hby d_prog_9_method_6_code_8)
  obtain ⟨fs, hr, hrun, hended, hW, hsame⟩ := X2.leave (v := (some (.int (0 : Int32)))) (fun h => by rw [Bd.returns] at h; cases h)
  refine ⟨_, _, pre0 _ ?_, hrun, hended, _, _, rfl, ?_, ⟨_, rfl⟩, hW, hsame.mono (by decide) (by decide)⟩
  · show Steps p.tables e below (s₁.setTop (mkF m 0 #[.val (.ref (w 0))] [])) _
    refine XS.aloadN X0.here hx rfl (hb hby d_prog_9_method_6_code_0) rfl rfl ?_
    show Steps p.tables e below (s₁.setTop (mkF m 1 #[.val (.ref (w 0))] [(.ref (w 0))])) _
    refine st1 _ ?_
    show Steps p.tables e below (T1.setTop (mkF m 4 #[.val (.ref (w 0))] [(.ref (w 2)), (.ref (w 0))])) _
    refine Jvm.RoadKit.acmp (g := (mkF m 4 #[.val (.ref (w 0))] [(.ref (w 2)), (.ref (w 0))])) X1 hx rfl rfl rfl (pc0 := 4) (pc' := 7) (same := false) rfl (hb hby d_prog_9_method_6_code_4) rfl (decide_eq_false fun q => (K.2.2.2.2.2.2.2.2.2.2.2.2.2.2.2.2.1.ne K.2.2.2.2.2.2.2.2.2.2.2.2.2.2.2.2.2.1 (by decide)) (Value.ref.inj q)) (by decide) (by decide) ?_
    show Steps p.tables e below (T1.setTop (mkF m 7 #[.val (.ref (w 0))] [])) _
    refine XS.aloadN X1.here hx rfl (hb hby d_prog_9_method_6_code_7) rfl rfl ?_
    show Steps p.tables e below (T1.setTop (mkF m 8 #[.val (.ref (w 0))] [(.ref (w 0))])) _
    refine st2 _ ?_
    show Steps p.tables e below (T2.setTop (mkF m 11 #[.val (.ref (w 0))] [(.ref (w 3)), (.ref (w 0))])) _
    refine Jvm.RoadKit.acmp (g := (mkF m 11 #[.val (.ref (w 0))] [(.ref (w 3)), (.ref (w 0))])) X2 hx rfl rfl rfl (pc0 := 11) (pc' := 18) (same := false) rfl (hb hby d_prog_9_method_6_code_11) rfl (decide_eq_false fun q => (K.2.2.2.2.2.2.2.2.2.2.2.2.2.2.2.2.1.ne K.2.2.2.2.2.2.2.2.2.2.2.2.2.2.2.2.2.2.1 (by decide)) (Value.ref.inj q)) (by decide) (by decide) ?_
    show Steps p.tables e below (T2.setTop (mkF m 18 #[.val (.ref (w 0))] [])) _
    refine XS.iconst X2.here hx rfl (hb hby d_prog_9_method_6_code_18) ?_
    show Steps p.tables e below (T2.setTop (mkF m 19 #[.val (.ref (w 0))] [(.int (0 : Int32))])) _
    exact retN X2 hx (t := .boolean) Bd.returns (by simp) (hb hby d_prog_9_method_6_code_19) hr
  · exact ⟨rfl, N0, e2⟩
theorem pd_2829Z : parseMethodDescriptor "()Z" = some ⟨[], some .boolean⟩ := by decide +kernel
theorem pn_com_example_licon_licon_search_OperatorComparesTextPinLaw : plainName "com/example/licon/licon/search/OperatorComparesTextPinLaw" = true := by first | (simp [plainName, overriddenIn]; done) | decide +kernel
set_option maxRecDepth 65536 in
set_option maxHeartbeats 40000000 in
theorem rm0_2 (l : Launch) (Z : State) (a0 : Array Value) (hw : ∀ d ∈ tables_1, d.before a0 Z = true) (w : Nat → Addr) (κ : Nat → ClassId) (h0 : Heap) (n0 : Nat) (Z0 : n0 ≤ h0.size) (K : Kon Z h0 w κ) (u0 : Int32) (hk0 : (u0 &&& (7 : Int32)) = (0 : Int32)) :
    OM l Z x code maxLocals ret tables_1 room_1 #[(.int u0)] h0 (OF (some (.int (1 : Int32))) n0) := by
  refine MetFree.of_bodySF (plainFor_of_name pn_com_example_licon_licon_search_OperatorComparesTextPinLaw) hisR ?_
  intro p e s m args below meth c s₁ Bd hml0 hP hK
  obtain ⟨rfl, hZ, hh⟩ := hP
  have hx := Bd.exec
  have hby := Bd.bytes
  have hml : c.maxLocals = 6 := hml0
  have hown : s.vm.findClass "com/example/licon/licon/search/OperatorComparesTextPinLaw" = some m.cls := findClass_of_methodNamed Bd.named
  have hnm := (name_of_methodNamed Bd.named Bd.method).1
  have X0 : Stand p l e room_1 s m #[(.int u0)] below meth c s₁ [] 0 0 := Stand.of_body Bd
  have e0 : s₁.heap = h0 := by rw [← hh, Bd.state]; rfl
  have N0 := Fr.nil n0
  have pre0 : ∀ t, Steps p.tables e below (s₁.setTop (mkF m 0 #[.val (.int u0), .unset, .unset, .unset, .unset, .unset] [])) t → Steps p.tables e below (s₁.setTop (entryFrame m #[(.int u0)] maxLocals)) t := fun t k => castTop (by first | rfl | simp [entryFrame, mkF, argsToLocals, Value.category, maxLocals]) k
  obtain ⟨T1, h1, k1, X1, e1, E1, A1, O1, st1⟩ := newR X0 hx hZ hown (hw _ (List.mem_of_getElem? (i := 0) rfl)) (hw _ (List.mem_of_getElem? (i := 1) rfl)) e0 (g := (mkF m 2 #[.val (.int u0), .unset, .unset, .unset, .unset, .unset] [(.int (8 : Int32))])) rfl (hb hby at_2) rfl (by decide) (cap := 8) (by decide) (by decide) (by decide) (by decide)
  obtain ⟨b1, g1⟩ : ∃ z, z = h0.size := ⟨_, rfl⟩
  rw [← g1] at A1 st1
  have hG1 : n0 ≤ b1 := Nat.le_trans Z0 (Nat.le_of_eq g1.symm)
  have hKN1 : ∀ i, i < 8 → w i ≠ b1 := fun i hi => by rw [g1]; exact Nat.ne_of_lt (K.lt i hi)
  have K1 := K.ext E1
  have Z1 : n0 ≤ h1.size := Nat.le_trans Z0 E1.1
  have V1 : Arv Z h1 b1 k1 (.object "com/example/licon/licon/search/Operator") (8 : Int32) [.null, .null, .null, .null, .null, .null, .null, .null] .null := (Arv.new A1 (by decide)).pad (pad_rep [] .null 8)
  obtain ⟨T2, X2, e2, st2⟩ := getS2 X1 hx hZ hown (host := "") (Or.inl (hw _ (List.mem_of_getElem? (i := 2) rfl))) Via.refl e1 K1.1 (g := (mkF m 7 #[.val (.int u0), .unset, .unset, .unset, .unset, .unset] [(.int (0 : Int32)), (.ref b1), (.ref b1)])) rfl (hb hby at_7)
  obtain ⟨cl3, Ar3, qa3, Sz3, Nn3, Ha3, Ga3⟩ := id V1
  have hin3 : ¬ ((0 : Int32) < 0 ∨ cl3.slots.size ≤ ((0 : Int32)).toNatClampNeg) := inb_of Sz3 ⟨by decide, by decide⟩
  obtain ⟨T3, h3, X3, e3, W3, st3⟩ := stR X2 hx hZ e2 Ar3 (j := (0 : Int32)) hin3 rfl (Sto.ofV Ar3 qa3 O1 (Ins.self K1.2.2.2.2.2.2.2.2.1)) (g := (mkF m 10 #[.val (.int u0), .unset, .unset, .unset, .unset, .unset] [(.ref (w 0)), (.int (0 : Int32)), (.ref b1), (.ref b1)])) rfl rfl (hb hby at_10)
  have f3_fA_b1 : Arv Z h3 b1 k1 (.object "com/example/licon/licon/search/Operator") (8 : Int32) [(.ref (w 0)), .null, .null, .null, .null, .null, .null, .null] .null := Arv.set Ar3 qa3 Sz3 Nn3 Ha3 Ga3 rfl W3 0 rfl (Nat.le_of_ble_eq_true rfl)
  have K3 := K1.wr W3 hKN1
  have Z3 : n0 ≤ h3.size := Nat.le_trans Z1 (Nat.le_of_eq W3.size.symm)
  have N3 := Fr.snoc X3 N0 hG1
  obtain ⟨T4, X4, e4, st4⟩ := getS2 X3 hx hZ hown (host := "") (Or.inl (hw _ (List.mem_of_getElem? (i := 6) rfl))) Via.refl e3 K3.2.1 (g := (mkF m 13 #[.val (.int u0), .unset, .unset, .unset, .unset, .unset] [(.int (1 : Int32)), (.ref b1), (.ref b1)])) rfl (hb hby at_13)
  obtain ⟨cl5, Ar5, qa5, Sz5, Nn5, Ha5, Ga5⟩ := id f3_fA_b1
  have hin5 : ¬ ((1 : Int32) < 0 ∨ cl5.slots.size ≤ ((1 : Int32)).toNatClampNeg) := inb_of Sz5 ⟨by decide, by decide⟩
  obtain ⟨T5, h5, X5, e5, W5, st5⟩ := stR X4 hx hZ e4 Ar5 (j := (1 : Int32)) hin5 rfl (Sto.ofV Ar5 qa5 O1 (Ins.self K3.2.2.2.2.2.2.2.2.2.1)) (g := (mkF m 16 #[.val (.int u0), .unset, .unset, .unset, .unset, .unset] [(.ref (w 1)), (.int (1 : Int32)), (.ref b1), (.ref b1)])) rfl rfl (hb hby at_16)
  have f5_fA_b1 : Arv Z h5 b1 k1 (.object "com/example/licon/licon/search/Operator") (8 : Int32) [(.ref (w 0)), (.ref (w 1)), .null, .null, .null, .null, .null, .null] .null := Arv.set Ar5 qa5 Sz5 Nn5 Ha5 Ga5 rfl W5 1 rfl (Nat.le_of_ble_eq_true rfl)
  have K5 := K3.wr W5 hKN1
  have Z5 : n0 ≤ h5.size := Nat.le_trans Z3 (Nat.le_of_eq W5.size.symm)
  have N5 := Fr.snoc X5 N3 hG1
  obtain ⟨T6, X6, e6, st6⟩ := getS2 X5 hx hZ hown (host := "") (Or.inl (hw _ (List.mem_of_getElem? (i := 8) rfl))) Via.refl e5 K5.2.2.1 (g := (mkF m 19 #[.val (.int u0), .unset, .unset, .unset, .unset, .unset] [(.int (2 : Int32)), (.ref b1), (.ref b1)])) rfl (hb hby at_19)
  obtain ⟨cl7, Ar7, qa7, Sz7, Nn7, Ha7, Ga7⟩ := id f5_fA_b1
  have hin7 : ¬ ((2 : Int32) < 0 ∨ cl7.slots.size ≤ ((2 : Int32)).toNatClampNeg) := inb_of Sz7 ⟨by decide, by decide⟩
  obtain ⟨T7, h7, X7, e7, W7, st7⟩ := stR X6 hx hZ e6 Ar7 (j := (2 : Int32)) hin7 rfl (Sto.ofV Ar7 qa7 O1 (Ins.self K5.2.2.2.2.2.2.2.2.2.2.1)) (g := (mkF m 22 #[.val (.int u0), .unset, .unset, .unset, .unset, .unset] [(.ref (w 2)), (.int (2 : Int32)), (.ref b1), (.ref b1)])) rfl rfl (hb hby at_22)
  have f7_fA_b1 : Arv Z h7 b1 k1 (.object "com/example/licon/licon/search/Operator") (8 : Int32) [(.ref (w 0)), (.ref (w 1)), (.ref (w 2)), .null, .null, .null, .null, .null] .null := Arv.set Ar7 qa7 Sz7 Nn7 Ha7 Ga7 rfl W7 2 rfl (Nat.le_of_ble_eq_true rfl)
  have K7 := K5.wr W7 hKN1
  have Z7 : n0 ≤ h7.size := Nat.le_trans Z5 (Nat.le_of_eq W7.size.symm)
  have N7 := Fr.snoc X7 N5 hG1
  obtain ⟨T8, X8, e8, st8⟩ := getS2 X7 hx hZ hown (host := "") (Or.inl (hw _ (List.mem_of_getElem? (i := 10) rfl))) Via.refl e7 K7.2.2.2.1 (g := (mkF m 25 #[.val (.int u0), .unset, .unset, .unset, .unset, .unset] [(.int (3 : Int32)), (.ref b1), (.ref b1)])) rfl (hb hby at_25)
  obtain ⟨cl9, Ar9, qa9, Sz9, Nn9, Ha9, Ga9⟩ := id f7_fA_b1
  have hin9 : ¬ ((3 : Int32) < 0 ∨ cl9.slots.size ≤ ((3 : Int32)).toNatClampNeg) := inb_of Sz9 ⟨by decide, by decide⟩
  obtain ⟨T9, h9, X9, e9, W9, st9⟩ := stR X8 hx hZ e8 Ar9 (j := (3 : Int32)) hin9 rfl (Sto.ofV Ar9 qa9 O1 (Ins.self K7.2.2.2.2.2.2.2.2.2.2.2.1)) (g := (mkF m 28 #[.val (.int u0), .unset, .unset, .unset, .unset, .unset] [(.ref (w 3)), (.int (3 : Int32)), (.ref b1), (.ref b1)])) rfl rfl (hb hby at_28)
  have f9_fA_b1 : Arv Z h9 b1 k1 (.object "com/example/licon/licon/search/Operator") (8 : Int32) [(.ref (w 0)), (.ref (w 1)), (.ref (w 2)), (.ref (w 3)), .null, .null, .null, .null] .null := Arv.set Ar9 qa9 Sz9 Nn9 Ha9 Ga9 rfl W9 3 rfl (Nat.le_of_ble_eq_true rfl)
  have K9 := K7.wr W9 hKN1
  have Z9 : n0 ≤ h9.size := Nat.le_trans Z7 (Nat.le_of_eq W9.size.symm)
  have N9 := Fr.snoc X9 N7 hG1
  obtain ⟨T10, X10, e10, st10⟩ := getS2 X9 hx hZ hown (host := "") (Or.inl (hw _ (List.mem_of_getElem? (i := 12) rfl))) Via.refl e9 K9.2.2.2.2.1 (g := (mkF m 31 #[.val (.int u0), .unset, .unset, .unset, .unset, .unset] [(.int (4 : Int32)), (.ref b1), (.ref b1)])) rfl (hb hby at_31)
  obtain ⟨cl11, Ar11, qa11, Sz11, Nn11, Ha11, Ga11⟩ := id f9_fA_b1
  have hin11 : ¬ ((4 : Int32) < 0 ∨ cl11.slots.size ≤ ((4 : Int32)).toNatClampNeg) := inb_of Sz11 ⟨by decide, by decide⟩
  obtain ⟨T11, h11, X11, e11, W11, st11⟩ := stR X10 hx hZ e10 Ar11 (j := (4 : Int32)) hin11 rfl (Sto.ofV Ar11 qa11 O1 (Ins.self K9.2.2.2.2.2.2.2.2.2.2.2.2.1)) (g := (mkF m 34 #[.val (.int u0), .unset, .unset, .unset, .unset, .unset] [(.ref (w 4)), (.int (4 : Int32)), (.ref b1), (.ref b1)])) rfl rfl (hb hby at_34)
  have f11_fA_b1 : Arv Z h11 b1 k1 (.object "com/example/licon/licon/search/Operator") (8 : Int32) [(.ref (w 0)), (.ref (w 1)), (.ref (w 2)), (.ref (w 3)), (.ref (w 4)), .null, .null, .null] .null := Arv.set Ar11 qa11 Sz11 Nn11 Ha11 Ga11 rfl W11 4 rfl (Nat.le_of_ble_eq_true rfl)
  have K11 := K9.wr W11 hKN1
  have Z11 : n0 ≤ h11.size := Nat.le_trans Z9 (Nat.le_of_eq W11.size.symm)
  have N11 := Fr.snoc X11 N9 hG1
  obtain ⟨T12, X12, e12, st12⟩ := getS2 X11 hx hZ hown (host := "") (Or.inl (hw _ (List.mem_of_getElem? (i := 14) rfl))) Via.refl e11 K11.2.2.2.2.2.1 (g := (mkF m 37 #[.val (.int u0), .unset, .unset, .unset, .unset, .unset] [(.int (5 : Int32)), (.ref b1), (.ref b1)])) rfl (hb hby at_37)
  obtain ⟨cl13, Ar13, qa13, Sz13, Nn13, Ha13, Ga13⟩ := id f11_fA_b1
  have hin13 : ¬ ((5 : Int32) < 0 ∨ cl13.slots.size ≤ ((5 : Int32)).toNatClampNeg) := inb_of Sz13 ⟨by decide, by decide⟩
  obtain ⟨T13, h13, X13, e13, W13, st13⟩ := stR X12 hx hZ e12 Ar13 (j := (5 : Int32)) hin13 rfl (Sto.ofV Ar13 qa13 O1 (Ins.self K11.2.2.2.2.2.2.2.2.2.2.2.2.2.1)) (g := (mkF m 40 #[.val (.int u0), .unset, .unset, .unset, .unset, .unset] [(.ref (w 5)), (.int (5 : Int32)), (.ref b1), (.ref b1)])) rfl rfl (hb hby at_40)
  have f13_fA_b1 : Arv Z h13 b1 k1 (.object "com/example/licon/licon/search/Operator") (8 : Int32) [(.ref (w 0)), (.ref (w 1)), (.ref (w 2)), (.ref (w 3)), (.ref (w 4)), (.ref (w 5)), .null, .null] .null := Arv.set Ar13 qa13 Sz13 Nn13 Ha13 Ga13 rfl W13 5 rfl (Nat.le_of_ble_eq_true rfl)
  have K13 := K11.wr W13 hKN1
  have Z13 : n0 ≤ h13.size := Nat.le_trans Z11 (Nat.le_of_eq W13.size.symm)
  have N13 := Fr.snoc X13 N11 hG1
  obtain ⟨T14, X14, e14, st14⟩ := getS2 X13 hx hZ hown (host := "") (Or.inl (hw _ (List.mem_of_getElem? (i := 16) rfl))) Via.refl e13 K13.2.2.2.2.2.2.1 (g := (mkF m 44 #[.val (.int u0), .unset, .unset, .unset, .unset, .unset] [(.int (6 : Int32)), (.ref b1), (.ref b1)])) rfl (hb hby at_44)
  obtain ⟨cl15, Ar15, qa15, Sz15, Nn15, Ha15, Ga15⟩ := id f13_fA_b1
  have hin15 : ¬ ((6 : Int32) < 0 ∨ cl15.slots.size ≤ ((6 : Int32)).toNatClampNeg) := inb_of Sz15 ⟨by decide, by decide⟩
  obtain ⟨T15, h15, X15, e15, W15, st15⟩ := stR X14 hx hZ e14 Ar15 (j := (6 : Int32)) hin15 rfl (Sto.ofV Ar15 qa15 O1 (Ins.self K13.2.2.2.2.2.2.2.2.2.2.2.2.2.2.1)) (g := (mkF m 47 #[.val (.int u0), .unset, .unset, .unset, .unset, .unset] [(.ref (w 6)), (.int (6 : Int32)), (.ref b1), (.ref b1)])) rfl rfl (hb hby at_47)
  have f15_fA_b1 : Arv Z h15 b1 k1 (.object "com/example/licon/licon/search/Operator") (8 : Int32) [(.ref (w 0)), (.ref (w 1)), (.ref (w 2)), (.ref (w 3)), (.ref (w 4)), (.ref (w 5)), (.ref (w 6)), .null] .null := Arv.set Ar15 qa15 Sz15 Nn15 Ha15 Ga15 rfl W15 6 rfl (Nat.le_of_ble_eq_true rfl)
  have K15 := K13.wr W15 hKN1
  have Z15 : n0 ≤ h15.size := Nat.le_trans Z13 (Nat.le_of_eq W15.size.symm)
  have N15 := Fr.snoc X15 N13 hG1
  obtain ⟨T16, X16, e16, st16⟩ := getS2 X15 hx hZ hown (host := "") (Or.inl (hw _ (List.mem_of_getElem? (i := 18) rfl))) Via.refl e15 K15.2.2.2.2.2.2.2.1 (g := (mkF m 51 #[.val (.int u0), .unset, .unset, .unset, .unset, .unset] [(.int (7 : Int32)), (.ref b1), (.ref b1)])) rfl (hb hby at_51)
  obtain ⟨cl17, Ar17, qa17, Sz17, Nn17, Ha17, Ga17⟩ := id f15_fA_b1
  have hin17 : ¬ ((7 : Int32) < 0 ∨ cl17.slots.size ≤ ((7 : Int32)).toNatClampNeg) := inb_of Sz17 ⟨by decide, by decide⟩
  obtain ⟨T17, h17, X17, e17, W17, st17⟩ := stR X16 hx hZ e16 Ar17 (j := (7 : Int32)) hin17 rfl (Sto.ofV Ar17 qa17 O1 (Ins.self K15.2.2.2.2.2.2.2.2.2.2.2.2.2.2.2.1)) (g := (mkF m 54 #[.val (.int u0), .unset, .unset, .unset, .unset, .unset] [(.ref (w 7)), (.int (7 : Int32)), (.ref b1), (.ref b1)])) rfl rfl (hb hby at_54)
  have f17_fA_b1 : Arv Z h17 b1 k1 (.object "com/example/licon/licon/search/Operator") (8 : Int32) [(.ref (w 0)), (.ref (w 1)), (.ref (w 2)), (.ref (w 3)), (.ref (w 4)), (.ref (w 5)), (.ref (w 6)), (.ref (w 7))] .null := Arv.set Ar17 qa17 Sz17 Nn17 Ha17 Ga17 rfl W17 7 rfl (Nat.le_of_ble_eq_true rfl)
  have K17 := K15.wr W17 hKN1
  have Z17 : n0 ≤ h17.size := Nat.le_trans Z15 (Nat.le_of_eq W17.size.symm)
  have N17 := Fr.snoc X17 N15 hG1
  obtain ⟨cl18, Ar18, qa18, Sz18, Nn18, Ha18, Ga18⟩ := id f17_fA_b1
  have hin18 : ¬ ((0 : Int32) < 0 ∨ cl18.slots.size ≤ ((0 : Int32)).toNatClampNeg) := inb_of Sz18 ⟨by decide, by decide⟩
  have hat18 : cl18.slots[((0 : Int32)).toNatClampNeg]? = some (.ref (w 0)) := Has.at Ha18 hin18 rfl
  obtain ⟨cq19, kq19, qa19, qb19, qc19⟩ := isOf hZ e17 K17.2.2.2.2.2.2.2.2.1
  obtain ⟨_, _, ⟨T19, L19, kk19, n19⟩, -, X19, ⟨Lc19, hQ19, l19, y19, z19⟩, st19⟩ := X17.virtualBack hx (y := (⟨"com/example/licon/licon/search/Operator", "comparesText", "()Z"⟩ : MethodName)) (z := (⟨"com/example/licon/licon/search/Operator", "comparesText", "()Z"⟩ : MethodName)) hown (mvT hZ (hw _ (List.mem_of_getElem? (i := 20) rfl))) (mvT hZ (hw _ (List.mem_of_getElem? (i := 21) rfl))) (notFace_of_selects (args := #[]) (mvT hZ (hw _ (List.mem_of_getElem? (i := 23) rfl)))) (mvT hZ (hw _ (List.mem_of_getElem? (i := 23) rfl))) (mvT hZ (hw _ (List.mem_of_getElem? (i := 22) rfl))) (by decide) (backOf (W := 0) (rm_comparesText_1 l Z a0 hw w κ h17 n0 Z17 K17 u0 b1 k1) hZ (hw _ (List.mem_of_getElem? (i := 24) rfl)) (hw _ (List.mem_of_getElem? (i := 3) rfl)) (by decide) (by decide)) qa19 qc19 (g := (mkF m 83 #[.val (.int u0), .val (.ref b1), .val (.int (0 : Int32)), .val (.ref (w 0)), .val (.int (0 : Int32)), .unset] [(.ref (w 0))])) rfl (by rw [hml]; rfl) (Steps.refl _) (argsL := []) (rest := []) (lenOf pd_2829Z rfl) rfl (by show 2 * 0 + _ ≤ _; exact Nat.le_of_eq rfl) (hb hby at_83) (fun _ _ => ⟨rfl, e17, (by decide : 1 + 0 ≤ _), (by decide : 8 + 0 ≤ _)⟩)
  dsimp only [Pt.U, Pt.locs, Pt.cells, Pt.slots] at X19 l19 y19 z19 st19 hQ19
  subst l19 y19 z19
  obtain ⟨rfl, N19q, e19⟩ := hQ19
  have N19 := Fr.app N17 N19q
  obtain ⟨fs, hr, hrun, hended, hW, hsame⟩ := X19.leave (v := (some (.int (1 : Int32)))) (fun h => by rw [Bd.returns] at h; cases h)
  refine ⟨_, _, pre0 _ ?_, hrun, hended, _, _, rfl, ?_, ⟨_, rfl⟩, hW, hsame.mono (by decide) (by decide)⟩
  · show Steps p.tables e below (s₁.setTop (mkF m 0 #[.val (.int u0), .unset, .unset, .unset, .unset, .unset] [])) _
    refine XS.bipush X0.here hx rfl (hb hby at_0) ?_
    show Steps p.tables e below (s₁.setTop (mkF m 2 #[.val (.int u0), .unset, .unset, .unset, .unset, .unset] [(.int (8 : Int32))])) _
    refine st1 _ ?_
    show Steps p.tables e below (T1.setTop (mkF m 5 #[.val (.int u0), .unset, .unset, .unset, .unset, .unset] [(.ref b1)])) _
    refine XS.dup X1.here hx rfl (hb hby at_5) rfl rfl ?_
    show Steps p.tables e below (T1.setTop (mkF m 6 #[.val (.int u0), .unset, .unset, .unset, .unset, .unset] [(.ref b1), (.ref b1)])) _
    refine XS.iconst X1.here hx rfl (hb hby at_6) ?_
    show Steps p.tables e below (T1.setTop (mkF m 7 #[.val (.int u0), .unset, .unset, .unset, .unset, .unset] [(.int (0 : Int32)), (.ref b1), (.ref b1)])) _
    refine st2 _ ?_
    show Steps p.tables e below (T2.setTop (mkF m 10 #[.val (.int u0), .unset, .unset, .unset, .unset, .unset] [(.ref (w 0)), (.int (0 : Int32)), (.ref b1), (.ref b1)])) _
    refine st3 _ ?_
    show Steps p.tables e below (T3.setTop (mkF m 11 #[.val (.int u0), .unset, .unset, .unset, .unset, .unset] [(.ref b1)])) _
    refine XS.dup X3.here hx rfl (hb hby at_11) rfl rfl ?_
    show Steps p.tables e below (T3.setTop (mkF m 12 #[.val (.int u0), .unset, .unset, .unset, .unset, .unset] [(.ref b1), (.ref b1)])) _
    refine XS.iconst X3.here hx rfl (hb hby at_12) ?_
    show Steps p.tables e below (T3.setTop (mkF m 13 #[.val (.int u0), .unset, .unset, .unset, .unset, .unset] [(.int (1 : Int32)), (.ref b1), (.ref b1)])) _
    refine st4 _ ?_
    show Steps p.tables e below (T4.setTop (mkF m 16 #[.val (.int u0), .unset, .unset, .unset, .unset, .unset] [(.ref (w 1)), (.int (1 : Int32)), (.ref b1), (.ref b1)])) _
    refine st5 _ ?_
    show Steps p.tables e below (T5.setTop (mkF m 17 #[.val (.int u0), .unset, .unset, .unset, .unset, .unset] [(.ref b1)])) _
    refine XS.dup X5.here hx rfl (hb hby at_17) rfl rfl ?_
    show Steps p.tables e below (T5.setTop (mkF m 18 #[.val (.int u0), .unset, .unset, .unset, .unset, .unset] [(.ref b1), (.ref b1)])) _
    refine XS.iconst X5.here hx rfl (hb hby at_18) ?_
    show Steps p.tables e below (T5.setTop (mkF m 19 #[.val (.int u0), .unset, .unset, .unset, .unset, .unset] [(.int (2 : Int32)), (.ref b1), (.ref b1)])) _
    refine st6 _ ?_
    show Steps p.tables e below (T6.setTop (mkF m 22 #[.val (.int u0), .unset, .unset, .unset, .unset, .unset] [(.ref (w 2)), (.int (2 : Int32)), (.ref b1), (.ref b1)])) _
    refine st7 _ ?_
    show Steps p.tables e below (T7.setTop (mkF m 23 #[.val (.int u0), .unset, .unset, .unset, .unset, .unset] [(.ref b1)])) _
    refine XS.dup X7.here hx rfl (hb hby at_23) rfl rfl ?_
    show Steps p.tables e below (T7.setTop (mkF m 24 #[.val (.int u0), .unset, .unset, .unset, .unset, .unset] [(.ref b1), (.ref b1)])) _
    refine XS.iconst X7.here hx rfl (hb hby at_24) ?_
    show Steps p.tables e below (T7.setTop (mkF m 25 #[.val (.int u0), .unset, .unset, .unset, .unset, .unset] [(.int (3 : Int32)), (.ref b1), (.ref b1)])) _
    refine st8 _ ?_
    show Steps p.tables e below (T8.setTop (mkF m 28 #[.val (.int u0), .unset, .unset, .unset, .unset, .unset] [(.ref (w 3)), (.int (3 : Int32)), (.ref b1), (.ref b1)])) _
    refine st9 _ ?_
    show Steps p.tables e below (T9.setTop (mkF m 29 #[.val (.int u0), .unset, .unset, .unset, .unset, .unset] [(.ref b1)])) _
    refine XS.dup X9.here hx rfl (hb hby at_29) rfl rfl ?_
    show Steps p.tables e below (T9.setTop (mkF m 30 #[.val (.int u0), .unset, .unset, .unset, .unset, .unset] [(.ref b1), (.ref b1)])) _
    refine XS.iconst X9.here hx rfl (hb hby at_30) ?_
    show Steps p.tables e below (T9.setTop (mkF m 31 #[.val (.int u0), .unset, .unset, .unset, .unset, .unset] [(.int (4 : Int32)), (.ref b1), (.ref b1)])) _
    refine st10 _ ?_
    show Steps p.tables e below (T10.setTop (mkF m 34 #[.val (.int u0), .unset, .unset, .unset, .unset, .unset] [(.ref (w 4)), (.int (4 : Int32)), (.ref b1), (.ref b1)])) _
    refine st11 _ ?_
    show Steps p.tables e below (T11.setTop (mkF m 35 #[.val (.int u0), .unset, .unset, .unset, .unset, .unset] [(.ref b1)])) _
    refine XS.dup X11.here hx rfl (hb hby at_35) rfl rfl ?_
    show Steps p.tables e below (T11.setTop (mkF m 36 #[.val (.int u0), .unset, .unset, .unset, .unset, .unset] [(.ref b1), (.ref b1)])) _
    refine XS.iconst X11.here hx rfl (hb hby at_36) ?_
    show Steps p.tables e below (T11.setTop (mkF m 37 #[.val (.int u0), .unset, .unset, .unset, .unset, .unset] [(.int (5 : Int32)), (.ref b1), (.ref b1)])) _
    refine st12 _ ?_
    show Steps p.tables e below (T12.setTop (mkF m 40 #[.val (.int u0), .unset, .unset, .unset, .unset, .unset] [(.ref (w 5)), (.int (5 : Int32)), (.ref b1), (.ref b1)])) _
    refine st13 _ ?_
    show Steps p.tables e below (T13.setTop (mkF m 41 #[.val (.int u0), .unset, .unset, .unset, .unset, .unset] [(.ref b1)])) _
    refine XS.dup X13.here hx rfl (hb hby at_41) rfl rfl ?_
    show Steps p.tables e below (T13.setTop (mkF m 42 #[.val (.int u0), .unset, .unset, .unset, .unset, .unset] [(.ref b1), (.ref b1)])) _
    refine XS.bipush X13.here hx rfl (hb hby at_42) ?_
    show Steps p.tables e below (T13.setTop (mkF m 44 #[.val (.int u0), .unset, .unset, .unset, .unset, .unset] [(.int (6 : Int32)), (.ref b1), (.ref b1)])) _
    refine st14 _ ?_
    show Steps p.tables e below (T14.setTop (mkF m 47 #[.val (.int u0), .unset, .unset, .unset, .unset, .unset] [(.ref (w 6)), (.int (6 : Int32)), (.ref b1), (.ref b1)])) _
    refine st15 _ ?_
    show Steps p.tables e below (T15.setTop (mkF m 48 #[.val (.int u0), .unset, .unset, .unset, .unset, .unset] [(.ref b1)])) _
    refine XS.dup X15.here hx rfl (hb hby at_48) rfl rfl ?_
    show Steps p.tables e below (T15.setTop (mkF m 49 #[.val (.int u0), .unset, .unset, .unset, .unset, .unset] [(.ref b1), (.ref b1)])) _
    refine XS.bipush X15.here hx rfl (hb hby at_49) ?_
    show Steps p.tables e below (T15.setTop (mkF m 51 #[.val (.int u0), .unset, .unset, .unset, .unset, .unset] [(.int (7 : Int32)), (.ref b1), (.ref b1)])) _
    refine st16 _ ?_
    show Steps p.tables e below (T16.setTop (mkF m 54 #[.val (.int u0), .unset, .unset, .unset, .unset, .unset] [(.ref (w 7)), (.int (7 : Int32)), (.ref b1), (.ref b1)])) _
    refine st17 _ ?_
    show Steps p.tables e below (T17.setTop (mkF m 55 #[.val (.int u0), .unset, .unset, .unset, .unset, .unset] [(.ref b1)])) _
    refine XS.astoreN X17.here hx rfl (hb hby at_55) rfl rfl (l' := #[.val (.int u0), .val (.ref b1), .unset, .unset, .unset, .unset]) rfl ?_
    show Steps p.tables e below (T17.setTop (mkF m 56 #[.val (.int u0), .val (.ref b1), .unset, .unset, .unset, .unset] [])) _
    refine XS.iloadN X17.here hx rfl (hb hby at_56) rfl ?_
    show Steps p.tables e below (T17.setTop (mkF m 57 #[.val (.int u0), .val (.ref b1), .unset, .unset, .unset, .unset] [(.int u0)])) _
    refine XS.bipush X17.here hx rfl (hb hby at_57) ?_
    show Steps p.tables e below (T17.setTop (mkF m 59 #[.val (.int u0), .val (.ref b1), .unset, .unset, .unset, .unset] [(.int (7 : Int32)), (.int u0)])) _
    refine XS.iand X17.here hx rfl (hb hby at_59) rfl ?_
    show Steps p.tables e below (T17.setTop (mkF m 60 #[.val (.int u0), .val (.ref b1), .unset, .unset, .unset, .unset] [(.int (u0 &&& (7 : Int32)))])) _
    rw [hk0]
    show Steps p.tables e below (T17.setTop (mkF m 60 #[.val (.int u0), .val (.ref b1), .unset, .unset, .unset, .unset] [(.int (0 : Int32))])) _
    refine XS.istoreN X17.here hx rfl (hb hby at_60) rfl (l' := #[.val (.int u0), .val (.ref b1), .val (.int (0 : Int32)), .unset, .unset, .unset]) rfl ?_
    show Steps p.tables e below (T17.setTop (mkF m 61 #[.val (.int u0), .val (.ref b1), .val (.int (0 : Int32)), .unset, .unset, .unset] [])) _
    refine XS.aloadN X17.here hx rfl (hb hby at_61) rfl rfl ?_
    show Steps p.tables e below (T17.setTop (mkF m 62 #[.val (.int u0), .val (.ref b1), .val (.int (0 : Int32)), .unset, .unset, .unset] [(.ref b1)])) _
    refine XS.iloadN X17.here hx rfl (hb hby at_62) rfl ?_
    show Steps p.tables e below (T17.setTop (mkF m 63 #[.val (.int u0), .val (.ref b1), .val (.int (0 : Int32)), .unset, .unset, .unset] [(.int (0 : Int32)), (.ref b1)])) _
    refine X17.aaload hx (j := (0 : Int32)) (v := (.ref (w 0))) (by rw [e17]; exact Ar18.1) (State.isArrayOf_alike hZ.alike Ar18.2.1) rfl Ar18.2.2 hin18 hat18 (g := (mkF m 63 #[.val (.int u0), .val (.ref b1), .val (.int (0 : Int32)), .unset, .unset, .unset] [(.int (0 : Int32)), (.ref b1)])) rfl rfl (hb hby at_63) _ ?_
    show Steps p.tables e below (T17.setTop (mkF m 64 #[.val (.int u0), .val (.ref b1), .val (.int (0 : Int32)), .unset, .unset, .unset] [(.ref (w 0))])) _
    refine XS.astoreN X17.here hx rfl (hb hby at_64) rfl rfl (l' := #[.val (.int u0), .val (.ref b1), .val (.int (0 : Int32)), .val (.ref (w 0)), .unset, .unset]) rfl ?_
    show Steps p.tables e below (T17.setTop (mkF m 65 #[.val (.int u0), .val (.ref b1), .val (.int (0 : Int32)), .val (.ref (w 0)), .unset, .unset] [])) _
    refine XS.iloadN X17.here hx rfl (hb hby at_65) rfl ?_
    show Steps p.tables e below (T17.setTop (mkF m 66 #[.val (.int u0), .val (.ref b1), .val (.int (0 : Int32)), .val (.ref (w 0)), .unset, .unset] [(.int (0 : Int32))])) _
    refine XS.iconst X17.here hx rfl (hb hby at_66) ?_
    show Steps p.tables e below (T17.setTop (mkF m 67 #[.val (.int u0), .val (.ref b1), .val (.int (0 : Int32)), .val (.ref (w 0)), .unset, .unset] [(.int (2 : Int32)), (.int (0 : Int32))])) _
    refine XS.icmpNo X17.here hx rfl (hb hby at_67) rfl (feq (by decide : ¬ ((0 : Int32) = (2 : Int32)))).1 ?_
    show Steps p.tables e below (T17.setTop (mkF m 70 #[.val (.int u0), .val (.ref b1), .val (.int (0 : Int32)), .val (.ref (w 0)), .unset, .unset] [])) _
    refine XS.iloadN X17.here hx rfl (hb hby at_70) rfl ?_
    show Steps p.tables e below (T17.setTop (mkF m 71 #[.val (.int u0), .val (.ref b1), .val (.int (0 : Int32)), .val (.ref (w 0)), .unset, .unset] [(.int (0 : Int32))])) _
    refine XS.iconst X17.here hx rfl (hb hby at_71) ?_
    show Steps p.tables e below (T17.setTop (mkF m 72 #[.val (.int u0), .val (.ref b1), .val (.int (0 : Int32)), .val (.ref (w 0)), .unset, .unset] [(.int (3 : Int32)), (.int (0 : Int32))])) _
    refine XS.icmpYes X17.here hx rfl (pc0 := 72) (pc' := 79) rfl (hb hby at_72) rfl (feq (by decide : ¬ ((0 : Int32) = (3 : Int32)))).2 (by decide) (by decide) ?_
    show Steps p.tables e below (T17.setTop (mkF m 79 #[.val (.int u0), .val (.ref b1), .val (.int (0 : Int32)), .val (.ref (w 0)), .unset, .unset] [])) _
    refine XS.iconst X17.here hx rfl (hb hby at_79) ?_
    show Steps p.tables e below (T17.setTop (mkF m 80 #[.val (.int u0), .val (.ref b1), .val (.int (0 : Int32)), .val (.ref (w 0)), .unset, .unset] [(.int (0 : Int32))])) _
    refine XS.istore X17.here hx rfl (hb hby at_80) rfl (l' := #[.val (.int u0), .val (.ref b1), .val (.int (0 : Int32)), .val (.ref (w 0)), .val (.int (0 : Int32)), .unset]) rfl ?_
    show Steps p.tables e below (T17.setTop (mkF m 82 #[.val (.int u0), .val (.ref b1), .val (.int (0 : Int32)), .val (.ref (w 0)), .val (.int (0 : Int32)), .unset] [])) _
    refine XS.aloadN X17.here hx rfl (hb hby at_82) rfl rfl ?_
    show Steps p.tables e below (T17.setTop (mkF m 83 #[.val (.int u0), .val (.ref b1), .val (.int (0 : Int32)), .val (.ref (w 0)), .val (.int (0 : Int32)), .unset] [(.ref (w 0))])) _
    refine st19.trans ?_
    show Steps p.tables e below (T19.setTop (mkF m 86 #[.val (.int u0), .val (.ref b1), .val (.int (0 : Int32)), .val (.ref (w 0)), .val (.int (0 : Int32)), .unset] [(.int (0 : Int32))])) _
    refine XS.istore X19.here hx rfl (hb hby at_86) rfl (l' := #[.val (.int u0), .val (.ref b1), .val (.int (0 : Int32)), .val (.ref (w 0)), .val (.int (0 : Int32)), .val (.int (0 : Int32))]) rfl ?_
    show Steps p.tables e below (T19.setTop (mkF m 88 #[.val (.int u0), .val (.ref b1), .val (.int (0 : Int32)), .val (.ref (w 0)), .val (.int (0 : Int32)), .val (.int (0 : Int32))] [])) _
    refine XS.iload X19.here hx rfl (hb hby at_88) rfl ?_
    show Steps p.tables e below (T19.setTop (mkF m 90 #[.val (.int u0), .val (.ref b1), .val (.int (0 : Int32)), .val (.ref (w 0)), .val (.int (0 : Int32)), .val (.int (0 : Int32))] [(.int (0 : Int32))])) _
    refine XS.iload X19.here hx rfl (hb hby at_90) rfl ?_
    show Steps p.tables e below (T19.setTop (mkF m 92 #[.val (.int u0), .val (.ref b1), .val (.int (0 : Int32)), .val (.ref (w 0)), .val (.int (0 : Int32)), .val (.int (0 : Int32))] [(.int (0 : Int32)), (.int (0 : Int32))])) _
    refine XS.icmpYes X19.here hx rfl (pc0 := 92) (pc' := 97) rfl (hb hby at_92) rfl (teq (by decide : (0 : Int32) = (0 : Int32))).1 (by decide) (by decide) ?_
    show Steps p.tables e below (T19.setTop (mkF m 97 #[.val (.int u0), .val (.ref b1), .val (.int (0 : Int32)), .val (.ref (w 0)), .val (.int (0 : Int32)), .val (.int (0 : Int32))] [])) _
    refine XS.iload X19.here hx rfl (hb hby at_97) rfl ?_
    show Steps p.tables e below (T19.setTop (mkF m 99 #[.val (.int u0), .val (.ref b1), .val (.int (0 : Int32)), .val (.ref (w 0)), .val (.int (0 : Int32)), .val (.int (0 : Int32))] [(.int (0 : Int32))])) _
    refine XS.ifYes X19.here hx rfl (pc0 := 99) (pc' := 131) rfl (hb hby at_99) rfl ((if0 _ _).trans (teq (by decide : (0 : Int32) = (0 : Int32))).1) (by decide) (by decide) ?_
    show Steps p.tables e below (T19.setTop (mkF m 131 #[.val (.int u0), .val (.ref b1), .val (.int (0 : Int32)), .val (.ref (w 0)), .val (.int (0 : Int32)), .val (.int (0 : Int32))] [])) _
    refine XS.iconst X19.here hx rfl (hb hby at_131) ?_
    show Steps p.tables e below (T19.setTop (mkF m 132 #[.val (.int u0), .val (.ref b1), .val (.int (0 : Int32)), .val (.ref (w 0)), .val (.int (0 : Int32)), .val (.int (0 : Int32))] [(.int (1 : Int32))])) _
    exact retN X19 hx (t := .boolean) Bd.returns (by simp) (hb hby at_132) hr
  · exact ⟨rfl, N19⟩
set_option maxRecDepth 65536 in
set_option maxHeartbeats 40000000 in
theorem rm_comparesText_3 (l : Launch) (Z : State) (a0 : Array Value) (hw : ∀ d ∈ tables_1, d.before a0 Z = true) (w : Nat → Addr) (κ : Nat → ClassId) (h0 : Heap) (n0 : Nat) (Z0 : n0 ≤ h0.size) (K : Kon Z h0 w κ) (u0 : Int32) (b1 : Addr) (k1 : ClassId) :
    OM l Z (⟨"com/example/licon/licon/search/Operator", "comparesText", "()Z"⟩ : MethodName) prog_9_method_6_code 1 (some .boolean) [] ({ frames := 0, cells := 0, slots := 0, locals := 0 } : Room) #[(.ref (w 1))] h0 (OP (some (.int (0 : Int32))) n0 h0) := by
  refine MetFree.of_bodySF (plainFor_of_name pn_com_example_licon_licon_search_Operator) hisR ?_
  intro p e s m args below meth c s₁ Bd hml0 hP hK
  obtain ⟨rfl, hZ, hh⟩ := hP
  have hx := Bd.exec
  have hby := Bd.bytes
  have hml : c.maxLocals = 1 := hml0
  have hown : s.vm.findClass "com/example/licon/licon/search/Operator" = some m.cls := findClass_of_methodNamed Bd.named
  have hnm := (name_of_methodNamed Bd.named Bd.method).1
  have X0 : Stand p l e ({ frames := 0, cells := 0, slots := 0, locals := 0 } : Room) s m #[(.ref (w 1))] below meth c s₁ [] 0 0 := Stand.of_body Bd
  have e0 : s₁.heap = h0 := by rw [← hh, Bd.state]; rfl
  have N0 := Fr.nil n0
  have pre0 : ∀ t, Steps p.tables e below (s₁.setTop (mkF m 0 #[.val (.ref (w 1))] [])) t → Steps p.tables e below (s₁.setTop (entryFrame m #[(.ref (w 1))] 1)) t := fun t k => castTop (by first | rfl | simp [entryFrame, mkF, argsToLocals, Value.category]) k
  obtain ⟨T1, X1, e1, st1⟩ := getS2 X0 hx hZ hown (host := "") (Or.inl (hw _ (List.mem_of_getElem? (i := 25) rfl))) Via.refl e0 K.2.2.1 (g := (mkF m 1 #[.val (.ref (w 1))] [(.ref (w 1))])) rfl (hb hby d_prog_9_method_6_code_1)
  obtain ⟨T2, X2, e2, st2⟩ := getS2 X1 hx hZ hown (host := "") (Or.inl (hw _ (List.mem_of_getElem? (i := 26) rfl))) Via.refl e1 K.2.2.2.1 (g := (mkF m 8 #[.val (.ref (w 1))] [(.ref (w 1))])) rfl (hb hby d_prog_9_method_6_code_8)
  obtain ⟨fs, hr, hrun, hended, hW, hsame⟩ := X2.leave (v := (some (.int (0 : Int32)))) (fun h => by rw [Bd.returns] at h; cases h)
  refine ⟨_, _, pre0 _ ?_, hrun, hended, _, _, rfl, ?_, ⟨_, rfl⟩, hW, hsame.mono (by decide) (by decide)⟩
  · show Steps p.tables e below (s₁.setTop (mkF m 0 #[.val (.ref (w 1))] [])) _
    refine XS.aloadN X0.here hx rfl (hb hby d_prog_9_method_6_code_0) rfl rfl ?_
    show Steps p.tables e below (s₁.setTop (mkF m 1 #[.val (.ref (w 1))] [(.ref (w 1))])) _
    refine st1 _ ?_
    show Steps p.tables e below (T1.setTop (mkF m 4 #[.val (.ref (w 1))] [(.ref (w 2)), (.ref (w 1))])) _
    refine Jvm.RoadKit.acmp (g := (mkF m 4 #[.val (.ref (w 1))] [(.ref (w 2)), (.ref (w 1))])) X1 hx rfl rfl rfl (pc0 := 4) (pc' := 7) (same := false) rfl (hb hby d_prog_9_method_6_code_4) rfl (decide_eq_false fun q => (K.2.2.2.2.2.2.2.2.2.2.2.2.2.2.2.2.2.2.2.2.2.2.2.2.2.2.2.1.ne K.2.2.2.2.2.2.2.2.2.2.2.2.2.2.2.2.2.1 (by decide)) (Value.ref.inj q)) (by decide) (by decide) ?_
    show Steps p.tables e below (T1.setTop (mkF m 7 #[.val (.ref (w 1))] [])) _
    refine XS.aloadN X1.here hx rfl (hb hby d_prog_9_method_6_code_7) rfl rfl ?_
    show Steps p.tables e below (T1.setTop (mkF m 8 #[.val (.ref (w 1))] [(.ref (w 1))])) _
    refine st2 _ ?_
    show Steps p.tables e below (T2.setTop (mkF m 11 #[.val (.ref (w 1))] [(.ref (w 3)), (.ref (w 1))])) _
    refine Jvm.RoadKit.acmp (g := (mkF m 11 #[.val (.ref (w 1))] [(.ref (w 3)), (.ref (w 1))])) X2 hx rfl rfl rfl (pc0 := 11) (pc' := 18) (same := false) rfl (hb hby d_prog_9_method_6_code_11) rfl (decide_eq_false fun q => (K.2.2.2.2.2.2.2.2.2.2.2.2.2.2.2.2.2.2.2.2.2.2.2.2.2.2.2.1.ne K.2.2.2.2.2.2.2.2.2.2.2.2.2.2.2.2.2.2.1 (by decide)) (Value.ref.inj q)) (by decide) (by decide) ?_
    show Steps p.tables e below (T2.setTop (mkF m 18 #[.val (.ref (w 1))] [])) _
    refine XS.iconst X2.here hx rfl (hb hby d_prog_9_method_6_code_18) ?_
    show Steps p.tables e below (T2.setTop (mkF m 19 #[.val (.ref (w 1))] [(.int (0 : Int32))])) _
    exact retN X2 hx (t := .boolean) Bd.returns (by simp) (hb hby d_prog_9_method_6_code_19) hr
  · exact ⟨rfl, N0, e2⟩
set_option maxRecDepth 65536 in
set_option maxHeartbeats 40000000 in
theorem rm0_4 (l : Launch) (Z : State) (a0 : Array Value) (hw : ∀ d ∈ tables_1, d.before a0 Z = true) (w : Nat → Addr) (κ : Nat → ClassId) (h0 : Heap) (n0 : Nat) (Z0 : n0 ≤ h0.size) (K : Kon Z h0 w κ) (u0 : Int32) (hk0 : (u0 &&& (7 : Int32)) = (1 : Int32)) :
    OM l Z x code maxLocals ret tables_1 room_1 #[(.int u0)] h0 (OF (some (.int (1 : Int32))) n0) := by
  refine MetFree.of_bodySF (plainFor_of_name pn_com_example_licon_licon_search_OperatorComparesTextPinLaw) hisR ?_
  intro p e s m args below meth c s₁ Bd hml0 hP hK
  obtain ⟨rfl, hZ, hh⟩ := hP
  have hx := Bd.exec
  have hby := Bd.bytes
  have hml : c.maxLocals = 6 := hml0
  have hown : s.vm.findClass "com/example/licon/licon/search/OperatorComparesTextPinLaw" = some m.cls := findClass_of_methodNamed Bd.named
  have hnm := (name_of_methodNamed Bd.named Bd.method).1
  have X0 : Stand p l e room_1 s m #[(.int u0)] below meth c s₁ [] 0 0 := Stand.of_body Bd
  have e0 : s₁.heap = h0 := by rw [← hh, Bd.state]; rfl
  have N0 := Fr.nil n0
  have pre0 : ∀ t, Steps p.tables e below (s₁.setTop (mkF m 0 #[.val (.int u0), .unset, .unset, .unset, .unset, .unset] [])) t → Steps p.tables e below (s₁.setTop (entryFrame m #[(.int u0)] maxLocals)) t := fun t k => castTop (by first | rfl | simp [entryFrame, mkF, argsToLocals, Value.category, maxLocals]) k
  obtain ⟨T1, h1, k1, X1, e1, E1, A1, O1, st1⟩ := newR X0 hx hZ hown (hw _ (List.mem_of_getElem? (i := 0) rfl)) (hw _ (List.mem_of_getElem? (i := 1) rfl)) e0 (g := (mkF m 2 #[.val (.int u0), .unset, .unset, .unset, .unset, .unset] [(.int (8 : Int32))])) rfl (hb hby at_2) rfl (by decide) (cap := 8) (by decide) (by decide) (by decide) (by decide)
  obtain ⟨b1, g1⟩ : ∃ z, z = h0.size := ⟨_, rfl⟩
  rw [← g1] at A1 st1
  have hG1 : n0 ≤ b1 := Nat.le_trans Z0 (Nat.le_of_eq g1.symm)
  have hKN1 : ∀ i, i < 8 → w i ≠ b1 := fun i hi => by rw [g1]; exact Nat.ne_of_lt (K.lt i hi)
  have K1 := K.ext E1
  have Z1 : n0 ≤ h1.size := Nat.le_trans Z0 E1.1
  have V1 : Arv Z h1 b1 k1 (.object "com/example/licon/licon/search/Operator") (8 : Int32) [.null, .null, .null, .null, .null, .null, .null, .null] .null := (Arv.new A1 (by decide)).pad (pad_rep [] .null 8)
  obtain ⟨T2, X2, e2, st2⟩ := getS2 X1 hx hZ hown (host := "") (Or.inl (hw _ (List.mem_of_getElem? (i := 2) rfl))) Via.refl e1 K1.1 (g := (mkF m 7 #[.val (.int u0), .unset, .unset, .unset, .unset, .unset] [(.int (0 : Int32)), (.ref b1), (.ref b1)])) rfl (hb hby at_7)
  obtain ⟨cl3, Ar3, qa3, Sz3, Nn3, Ha3, Ga3⟩ := id V1
  have hin3 : ¬ ((0 : Int32) < 0 ∨ cl3.slots.size ≤ ((0 : Int32)).toNatClampNeg) := inb_of Sz3 ⟨by decide, by decide⟩
  obtain ⟨T3, h3, X3, e3, W3, st3⟩ := stR X2 hx hZ e2 Ar3 (j := (0 : Int32)) hin3 rfl (Sto.ofV Ar3 qa3 O1 (Ins.self K1.2.2.2.2.2.2.2.2.1)) (g := (mkF m 10 #[.val (.int u0), .unset, .unset, .unset, .unset, .unset] [(.ref (w 0)), (.int (0 : Int32)), (.ref b1), (.ref b1)])) rfl rfl (hb hby at_10)
  have f3_fA_b1 : Arv Z h3 b1 k1 (.object "com/example/licon/licon/search/Operator") (8 : Int32) [(.ref (w 0)), .null, .null, .null, .null, .null, .null, .null] .null := Arv.set Ar3 qa3 Sz3 Nn3 Ha3 Ga3 rfl W3 0 rfl (Nat.le_of_ble_eq_true rfl)
  have K3 := K1.wr W3 hKN1
  have Z3 : n0 ≤ h3.size := Nat.le_trans Z1 (Nat.le_of_eq W3.size.symm)
  have N3 := Fr.snoc X3 N0 hG1
  obtain ⟨T4, X4, e4, st4⟩ := getS2 X3 hx hZ hown (host := "") (Or.inl (hw _ (List.mem_of_getElem? (i := 6) rfl))) Via.refl e3 K3.2.1 (g := (mkF m 13 #[.val (.int u0), .unset, .unset, .unset, .unset, .unset] [(.int (1 : Int32)), (.ref b1), (.ref b1)])) rfl (hb hby at_13)
  obtain ⟨cl5, Ar5, qa5, Sz5, Nn5, Ha5, Ga5⟩ := id f3_fA_b1
  have hin5 : ¬ ((1 : Int32) < 0 ∨ cl5.slots.size ≤ ((1 : Int32)).toNatClampNeg) := inb_of Sz5 ⟨by decide, by decide⟩
  obtain ⟨T5, h5, X5, e5, W5, st5⟩ := stR X4 hx hZ e4 Ar5 (j := (1 : Int32)) hin5 rfl (Sto.ofV Ar5 qa5 O1 (Ins.self K3.2.2.2.2.2.2.2.2.2.1)) (g := (mkF m 16 #[.val (.int u0), .unset, .unset, .unset, .unset, .unset] [(.ref (w 1)), (.int (1 : Int32)), (.ref b1), (.ref b1)])) rfl rfl (hb hby at_16)
  have f5_fA_b1 : Arv Z h5 b1 k1 (.object "com/example/licon/licon/search/Operator") (8 : Int32) [(.ref (w 0)), (.ref (w 1)), .null, .null, .null, .null, .null, .null] .null := Arv.set Ar5 qa5 Sz5 Nn5 Ha5 Ga5 rfl W5 1 rfl (Nat.le_of_ble_eq_true rfl)
  have K5 := K3.wr W5 hKN1
  have Z5 : n0 ≤ h5.size := Nat.le_trans Z3 (Nat.le_of_eq W5.size.symm)
  have N5 := Fr.snoc X5 N3 hG1
  obtain ⟨T6, X6, e6, st6⟩ := getS2 X5 hx hZ hown (host := "") (Or.inl (hw _ (List.mem_of_getElem? (i := 8) rfl))) Via.refl e5 K5.2.2.1 (g := (mkF m 19 #[.val (.int u0), .unset, .unset, .unset, .unset, .unset] [(.int (2 : Int32)), (.ref b1), (.ref b1)])) rfl (hb hby at_19)
  obtain ⟨cl7, Ar7, qa7, Sz7, Nn7, Ha7, Ga7⟩ := id f5_fA_b1
  have hin7 : ¬ ((2 : Int32) < 0 ∨ cl7.slots.size ≤ ((2 : Int32)).toNatClampNeg) := inb_of Sz7 ⟨by decide, by decide⟩
  obtain ⟨T7, h7, X7, e7, W7, st7⟩ := stR X6 hx hZ e6 Ar7 (j := (2 : Int32)) hin7 rfl (Sto.ofV Ar7 qa7 O1 (Ins.self K5.2.2.2.2.2.2.2.2.2.2.1)) (g := (mkF m 22 #[.val (.int u0), .unset, .unset, .unset, .unset, .unset] [(.ref (w 2)), (.int (2 : Int32)), (.ref b1), (.ref b1)])) rfl rfl (hb hby at_22)
  have f7_fA_b1 : Arv Z h7 b1 k1 (.object "com/example/licon/licon/search/Operator") (8 : Int32) [(.ref (w 0)), (.ref (w 1)), (.ref (w 2)), .null, .null, .null, .null, .null] .null := Arv.set Ar7 qa7 Sz7 Nn7 Ha7 Ga7 rfl W7 2 rfl (Nat.le_of_ble_eq_true rfl)
  have K7 := K5.wr W7 hKN1
  have Z7 : n0 ≤ h7.size := Nat.le_trans Z5 (Nat.le_of_eq W7.size.symm)
  have N7 := Fr.snoc X7 N5 hG1
  obtain ⟨T8, X8, e8, st8⟩ := getS2 X7 hx hZ hown (host := "") (Or.inl (hw _ (List.mem_of_getElem? (i := 10) rfl))) Via.refl e7 K7.2.2.2.1 (g := (mkF m 25 #[.val (.int u0), .unset, .unset, .unset, .unset, .unset] [(.int (3 : Int32)), (.ref b1), (.ref b1)])) rfl (hb hby at_25)
  obtain ⟨cl9, Ar9, qa9, Sz9, Nn9, Ha9, Ga9⟩ := id f7_fA_b1
  have hin9 : ¬ ((3 : Int32) < 0 ∨ cl9.slots.size ≤ ((3 : Int32)).toNatClampNeg) := inb_of Sz9 ⟨by decide, by decide⟩
  obtain ⟨T9, h9, X9, e9, W9, st9⟩ := stR X8 hx hZ e8 Ar9 (j := (3 : Int32)) hin9 rfl (Sto.ofV Ar9 qa9 O1 (Ins.self K7.2.2.2.2.2.2.2.2.2.2.2.1)) (g := (mkF m 28 #[.val (.int u0), .unset, .unset, .unset, .unset, .unset] [(.ref (w 3)), (.int (3 : Int32)), (.ref b1), (.ref b1)])) rfl rfl (hb hby at_28)
  have f9_fA_b1 : Arv Z h9 b1 k1 (.object "com/example/licon/licon/search/Operator") (8 : Int32) [(.ref (w 0)), (.ref (w 1)), (.ref (w 2)), (.ref (w 3)), .null, .null, .null, .null] .null := Arv.set Ar9 qa9 Sz9 Nn9 Ha9 Ga9 rfl W9 3 rfl (Nat.le_of_ble_eq_true rfl)
  have K9 := K7.wr W9 hKN1
  have Z9 : n0 ≤ h9.size := Nat.le_trans Z7 (Nat.le_of_eq W9.size.symm)
  have N9 := Fr.snoc X9 N7 hG1
  obtain ⟨T10, X10, e10, st10⟩ := getS2 X9 hx hZ hown (host := "") (Or.inl (hw _ (List.mem_of_getElem? (i := 12) rfl))) Via.refl e9 K9.2.2.2.2.1 (g := (mkF m 31 #[.val (.int u0), .unset, .unset, .unset, .unset, .unset] [(.int (4 : Int32)), (.ref b1), (.ref b1)])) rfl (hb hby at_31)
  obtain ⟨cl11, Ar11, qa11, Sz11, Nn11, Ha11, Ga11⟩ := id f9_fA_b1
  have hin11 : ¬ ((4 : Int32) < 0 ∨ cl11.slots.size ≤ ((4 : Int32)).toNatClampNeg) := inb_of Sz11 ⟨by decide, by decide⟩
  obtain ⟨T11, h11, X11, e11, W11, st11⟩ := stR X10 hx hZ e10 Ar11 (j := (4 : Int32)) hin11 rfl (Sto.ofV Ar11 qa11 O1 (Ins.self K9.2.2.2.2.2.2.2.2.2.2.2.2.1)) (g := (mkF m 34 #[.val (.int u0), .unset, .unset, .unset, .unset, .unset] [(.ref (w 4)), (.int (4 : Int32)), (.ref b1), (.ref b1)])) rfl rfl (hb hby at_34)
  have f11_fA_b1 : Arv Z h11 b1 k1 (.object "com/example/licon/licon/search/Operator") (8 : Int32) [(.ref (w 0)), (.ref (w 1)), (.ref (w 2)), (.ref (w 3)), (.ref (w 4)), .null, .null, .null] .null := Arv.set Ar11 qa11 Sz11 Nn11 Ha11 Ga11 rfl W11 4 rfl (Nat.le_of_ble_eq_true rfl)
  have K11 := K9.wr W11 hKN1
  have Z11 : n0 ≤ h11.size := Nat.le_trans Z9 (Nat.le_of_eq W11.size.symm)
  have N11 := Fr.snoc X11 N9 hG1
  obtain ⟨T12, X12, e12, st12⟩ := getS2 X11 hx hZ hown (host := "") (Or.inl (hw _ (List.mem_of_getElem? (i := 14) rfl))) Via.refl e11 K11.2.2.2.2.2.1 (g := (mkF m 37 #[.val (.int u0), .unset, .unset, .unset, .unset, .unset] [(.int (5 : Int32)), (.ref b1), (.ref b1)])) rfl (hb hby at_37)
  obtain ⟨cl13, Ar13, qa13, Sz13, Nn13, Ha13, Ga13⟩ := id f11_fA_b1
  have hin13 : ¬ ((5 : Int32) < 0 ∨ cl13.slots.size ≤ ((5 : Int32)).toNatClampNeg) := inb_of Sz13 ⟨by decide, by decide⟩
  obtain ⟨T13, h13, X13, e13, W13, st13⟩ := stR X12 hx hZ e12 Ar13 (j := (5 : Int32)) hin13 rfl (Sto.ofV Ar13 qa13 O1 (Ins.self K11.2.2.2.2.2.2.2.2.2.2.2.2.2.1)) (g := (mkF m 40 #[.val (.int u0), .unset, .unset, .unset, .unset, .unset] [(.ref (w 5)), (.int (5 : Int32)), (.ref b1), (.ref b1)])) rfl rfl (hb hby at_40)
  have f13_fA_b1 : Arv Z h13 b1 k1 (.object "com/example/licon/licon/search/Operator") (8 : Int32) [(.ref (w 0)), (.ref (w 1)), (.ref (w 2)), (.ref (w 3)), (.ref (w 4)), (.ref (w 5)), .null, .null] .null := Arv.set Ar13 qa13 Sz13 Nn13 Ha13 Ga13 rfl W13 5 rfl (Nat.le_of_ble_eq_true rfl)
  have K13 := K11.wr W13 hKN1
  have Z13 : n0 ≤ h13.size := Nat.le_trans Z11 (Nat.le_of_eq W13.size.symm)
  have N13 := Fr.snoc X13 N11 hG1
  obtain ⟨T14, X14, e14, st14⟩ := getS2 X13 hx hZ hown (host := "") (Or.inl (hw _ (List.mem_of_getElem? (i := 16) rfl))) Via.refl e13 K13.2.2.2.2.2.2.1 (g := (mkF m 44 #[.val (.int u0), .unset, .unset, .unset, .unset, .unset] [(.int (6 : Int32)), (.ref b1), (.ref b1)])) rfl (hb hby at_44)
  obtain ⟨cl15, Ar15, qa15, Sz15, Nn15, Ha15, Ga15⟩ := id f13_fA_b1
  have hin15 : ¬ ((6 : Int32) < 0 ∨ cl15.slots.size ≤ ((6 : Int32)).toNatClampNeg) := inb_of Sz15 ⟨by decide, by decide⟩
  obtain ⟨T15, h15, X15, e15, W15, st15⟩ := stR X14 hx hZ e14 Ar15 (j := (6 : Int32)) hin15 rfl (Sto.ofV Ar15 qa15 O1 (Ins.self K13.2.2.2.2.2.2.2.2.2.2.2.2.2.2.1)) (g := (mkF m 47 #[.val (.int u0), .unset, .unset, .unset, .unset, .unset] [(.ref (w 6)), (.int (6 : Int32)), (.ref b1), (.ref b1)])) rfl rfl (hb hby at_47)
  have f15_fA_b1 : Arv Z h15 b1 k1 (.object "com/example/licon/licon/search/Operator") (8 : Int32) [(.ref (w 0)), (.ref (w 1)), (.ref (w 2)), (.ref (w 3)), (.ref (w 4)), (.ref (w 5)), (.ref (w 6)), .null] .null := Arv.set Ar15 qa15 Sz15 Nn15 Ha15 Ga15 rfl W15 6 rfl (Nat.le_of_ble_eq_true rfl)
  have K15 := K13.wr W15 hKN1
  have Z15 : n0 ≤ h15.size := Nat.le_trans Z13 (Nat.le_of_eq W15.size.symm)
  have N15 := Fr.snoc X15 N13 hG1
  obtain ⟨T16, X16, e16, st16⟩ := getS2 X15 hx hZ hown (host := "") (Or.inl (hw _ (List.mem_of_getElem? (i := 18) rfl))) Via.refl e15 K15.2.2.2.2.2.2.2.1 (g := (mkF m 51 #[.val (.int u0), .unset, .unset, .unset, .unset, .unset] [(.int (7 : Int32)), (.ref b1), (.ref b1)])) rfl (hb hby at_51)
  obtain ⟨cl17, Ar17, qa17, Sz17, Nn17, Ha17, Ga17⟩ := id f15_fA_b1
  have hin17 : ¬ ((7 : Int32) < 0 ∨ cl17.slots.size ≤ ((7 : Int32)).toNatClampNeg) := inb_of Sz17 ⟨by decide, by decide⟩
  obtain ⟨T17, h17, X17, e17, W17, st17⟩ := stR X16 hx hZ e16 Ar17 (j := (7 : Int32)) hin17 rfl (Sto.ofV Ar17 qa17 O1 (Ins.self K15.2.2.2.2.2.2.2.2.2.2.2.2.2.2.2.1)) (g := (mkF m 54 #[.val (.int u0), .unset, .unset, .unset, .unset, .unset] [(.ref (w 7)), (.int (7 : Int32)), (.ref b1), (.ref b1)])) rfl rfl (hb hby at_54)
  have f17_fA_b1 : Arv Z h17 b1 k1 (.object "com/example/licon/licon/search/Operator") (8 : Int32) [(.ref (w 0)), (.ref (w 1)), (.ref (w 2)), (.ref (w 3)), (.ref (w 4)), (.ref (w 5)), (.ref (w 6)), (.ref (w 7))] .null := Arv.set Ar17 qa17 Sz17 Nn17 Ha17 Ga17 rfl W17 7 rfl (Nat.le_of_ble_eq_true rfl)
  have K17 := K15.wr W17 hKN1
  have Z17 : n0 ≤ h17.size := Nat.le_trans Z15 (Nat.le_of_eq W17.size.symm)
  have N17 := Fr.snoc X17 N15 hG1
  obtain ⟨cl18, Ar18, qa18, Sz18, Nn18, Ha18, Ga18⟩ := id f17_fA_b1
  have hin18 : ¬ ((1 : Int32) < 0 ∨ cl18.slots.size ≤ ((1 : Int32)).toNatClampNeg) := inb_of Sz18 ⟨by decide, by decide⟩
  have hat18 : cl18.slots[((1 : Int32)).toNatClampNeg]? = some (.ref (w 1)) := Has.at Ha18 hin18 rfl
  obtain ⟨cq19, kq19, qa19, qb19, qc19⟩ := isOf hZ e17 K17.2.2.2.2.2.2.2.2.2.1
  obtain ⟨_, _, ⟨T19, L19, kk19, n19⟩, -, X19, ⟨Lc19, hQ19, l19, y19, z19⟩, st19⟩ := X17.virtualBack hx (y := (⟨"com/example/licon/licon/search/Operator", "comparesText", "()Z"⟩ : MethodName)) (z := (⟨"com/example/licon/licon/search/Operator", "comparesText", "()Z"⟩ : MethodName)) hown (mvT hZ (hw _ (List.mem_of_getElem? (i := 20) rfl))) (mvT hZ (hw _ (List.mem_of_getElem? (i := 21) rfl))) (notFace_of_selects (args := #[]) (mvT hZ (hw _ (List.mem_of_getElem? (i := 23) rfl)))) (mvT hZ (hw _ (List.mem_of_getElem? (i := 23) rfl))) (mvT hZ (hw _ (List.mem_of_getElem? (i := 22) rfl))) (by decide) (backOf (W := 0) (rm_comparesText_3 l Z a0 hw w κ h17 n0 Z17 K17 u0 b1 k1) hZ (hw _ (List.mem_of_getElem? (i := 24) rfl)) (hw _ (List.mem_of_getElem? (i := 3) rfl)) (by decide) (by decide)) qa19 qc19 (g := (mkF m 83 #[.val (.int u0), .val (.ref b1), .val (.int (1 : Int32)), .val (.ref (w 1)), .val (.int (0 : Int32)), .unset] [(.ref (w 1))])) rfl (by rw [hml]; rfl) (Steps.refl _) (argsL := []) (rest := []) (lenOf pd_2829Z rfl) rfl (by show 2 * 0 + _ ≤ _; exact Nat.le_of_eq rfl) (hb hby at_83) (fun _ _ => ⟨rfl, e17, (by decide : 1 + 0 ≤ _), (by decide : 8 + 0 ≤ _)⟩)
  dsimp only [Pt.U, Pt.locs, Pt.cells, Pt.slots] at X19 l19 y19 z19 st19 hQ19
  subst l19 y19 z19
  obtain ⟨rfl, N19q, e19⟩ := hQ19
  have N19 := Fr.app N17 N19q
  obtain ⟨fs, hr, hrun, hended, hW, hsame⟩ := X19.leave (v := (some (.int (1 : Int32)))) (fun h => by rw [Bd.returns] at h; cases h)
  refine ⟨_, _, pre0 _ ?_, hrun, hended, _, _, rfl, ?_, ⟨_, rfl⟩, hW, hsame.mono (by decide) (by decide)⟩
  · show Steps p.tables e below (s₁.setTop (mkF m 0 #[.val (.int u0), .unset, .unset, .unset, .unset, .unset] [])) _
    refine XS.bipush X0.here hx rfl (hb hby at_0) ?_
    show Steps p.tables e below (s₁.setTop (mkF m 2 #[.val (.int u0), .unset, .unset, .unset, .unset, .unset] [(.int (8 : Int32))])) _
    refine st1 _ ?_
    show Steps p.tables e below (T1.setTop (mkF m 5 #[.val (.int u0), .unset, .unset, .unset, .unset, .unset] [(.ref b1)])) _
    refine XS.dup X1.here hx rfl (hb hby at_5) rfl rfl ?_
    show Steps p.tables e below (T1.setTop (mkF m 6 #[.val (.int u0), .unset, .unset, .unset, .unset, .unset] [(.ref b1), (.ref b1)])) _
    refine XS.iconst X1.here hx rfl (hb hby at_6) ?_
    show Steps p.tables e below (T1.setTop (mkF m 7 #[.val (.int u0), .unset, .unset, .unset, .unset, .unset] [(.int (0 : Int32)), (.ref b1), (.ref b1)])) _
    refine st2 _ ?_
    show Steps p.tables e below (T2.setTop (mkF m 10 #[.val (.int u0), .unset, .unset, .unset, .unset, .unset] [(.ref (w 0)), (.int (0 : Int32)), (.ref b1), (.ref b1)])) _
    refine st3 _ ?_
    show Steps p.tables e below (T3.setTop (mkF m 11 #[.val (.int u0), .unset, .unset, .unset, .unset, .unset] [(.ref b1)])) _
    refine XS.dup X3.here hx rfl (hb hby at_11) rfl rfl ?_
    show Steps p.tables e below (T3.setTop (mkF m 12 #[.val (.int u0), .unset, .unset, .unset, .unset, .unset] [(.ref b1), (.ref b1)])) _
    refine XS.iconst X3.here hx rfl (hb hby at_12) ?_
    show Steps p.tables e below (T3.setTop (mkF m 13 #[.val (.int u0), .unset, .unset, .unset, .unset, .unset] [(.int (1 : Int32)), (.ref b1), (.ref b1)])) _
    refine st4 _ ?_
    show Steps p.tables e below (T4.setTop (mkF m 16 #[.val (.int u0), .unset, .unset, .unset, .unset, .unset] [(.ref (w 1)), (.int (1 : Int32)), (.ref b1), (.ref b1)])) _
    refine st5 _ ?_
    show Steps p.tables e below (T5.setTop (mkF m 17 #[.val (.int u0), .unset, .unset, .unset, .unset, .unset] [(.ref b1)])) _
    refine XS.dup X5.here hx rfl (hb hby at_17) rfl rfl ?_
    show Steps p.tables e below (T5.setTop (mkF m 18 #[.val (.int u0), .unset, .unset, .unset, .unset, .unset] [(.ref b1), (.ref b1)])) _
    refine XS.iconst X5.here hx rfl (hb hby at_18) ?_
    show Steps p.tables e below (T5.setTop (mkF m 19 #[.val (.int u0), .unset, .unset, .unset, .unset, .unset] [(.int (2 : Int32)), (.ref b1), (.ref b1)])) _
    refine st6 _ ?_
    show Steps p.tables e below (T6.setTop (mkF m 22 #[.val (.int u0), .unset, .unset, .unset, .unset, .unset] [(.ref (w 2)), (.int (2 : Int32)), (.ref b1), (.ref b1)])) _
    refine st7 _ ?_
    show Steps p.tables e below (T7.setTop (mkF m 23 #[.val (.int u0), .unset, .unset, .unset, .unset, .unset] [(.ref b1)])) _
    refine XS.dup X7.here hx rfl (hb hby at_23) rfl rfl ?_
    show Steps p.tables e below (T7.setTop (mkF m 24 #[.val (.int u0), .unset, .unset, .unset, .unset, .unset] [(.ref b1), (.ref b1)])) _
    refine XS.iconst X7.here hx rfl (hb hby at_24) ?_
    show Steps p.tables e below (T7.setTop (mkF m 25 #[.val (.int u0), .unset, .unset, .unset, .unset, .unset] [(.int (3 : Int32)), (.ref b1), (.ref b1)])) _
    refine st8 _ ?_
    show Steps p.tables e below (T8.setTop (mkF m 28 #[.val (.int u0), .unset, .unset, .unset, .unset, .unset] [(.ref (w 3)), (.int (3 : Int32)), (.ref b1), (.ref b1)])) _
    refine st9 _ ?_
    show Steps p.tables e below (T9.setTop (mkF m 29 #[.val (.int u0), .unset, .unset, .unset, .unset, .unset] [(.ref b1)])) _
    refine XS.dup X9.here hx rfl (hb hby at_29) rfl rfl ?_
    show Steps p.tables e below (T9.setTop (mkF m 30 #[.val (.int u0), .unset, .unset, .unset, .unset, .unset] [(.ref b1), (.ref b1)])) _
    refine XS.iconst X9.here hx rfl (hb hby at_30) ?_
    show Steps p.tables e below (T9.setTop (mkF m 31 #[.val (.int u0), .unset, .unset, .unset, .unset, .unset] [(.int (4 : Int32)), (.ref b1), (.ref b1)])) _
    refine st10 _ ?_
    show Steps p.tables e below (T10.setTop (mkF m 34 #[.val (.int u0), .unset, .unset, .unset, .unset, .unset] [(.ref (w 4)), (.int (4 : Int32)), (.ref b1), (.ref b1)])) _
    refine st11 _ ?_
    show Steps p.tables e below (T11.setTop (mkF m 35 #[.val (.int u0), .unset, .unset, .unset, .unset, .unset] [(.ref b1)])) _
    refine XS.dup X11.here hx rfl (hb hby at_35) rfl rfl ?_
    show Steps p.tables e below (T11.setTop (mkF m 36 #[.val (.int u0), .unset, .unset, .unset, .unset, .unset] [(.ref b1), (.ref b1)])) _
    refine XS.iconst X11.here hx rfl (hb hby at_36) ?_
    show Steps p.tables e below (T11.setTop (mkF m 37 #[.val (.int u0), .unset, .unset, .unset, .unset, .unset] [(.int (5 : Int32)), (.ref b1), (.ref b1)])) _
    refine st12 _ ?_
    show Steps p.tables e below (T12.setTop (mkF m 40 #[.val (.int u0), .unset, .unset, .unset, .unset, .unset] [(.ref (w 5)), (.int (5 : Int32)), (.ref b1), (.ref b1)])) _
    refine st13 _ ?_
    show Steps p.tables e below (T13.setTop (mkF m 41 #[.val (.int u0), .unset, .unset, .unset, .unset, .unset] [(.ref b1)])) _
    refine XS.dup X13.here hx rfl (hb hby at_41) rfl rfl ?_
    show Steps p.tables e below (T13.setTop (mkF m 42 #[.val (.int u0), .unset, .unset, .unset, .unset, .unset] [(.ref b1), (.ref b1)])) _
    refine XS.bipush X13.here hx rfl (hb hby at_42) ?_
    show Steps p.tables e below (T13.setTop (mkF m 44 #[.val (.int u0), .unset, .unset, .unset, .unset, .unset] [(.int (6 : Int32)), (.ref b1), (.ref b1)])) _
    refine st14 _ ?_
    show Steps p.tables e below (T14.setTop (mkF m 47 #[.val (.int u0), .unset, .unset, .unset, .unset, .unset] [(.ref (w 6)), (.int (6 : Int32)), (.ref b1), (.ref b1)])) _
    refine st15 _ ?_
    show Steps p.tables e below (T15.setTop (mkF m 48 #[.val (.int u0), .unset, .unset, .unset, .unset, .unset] [(.ref b1)])) _
    refine XS.dup X15.here hx rfl (hb hby at_48) rfl rfl ?_
    show Steps p.tables e below (T15.setTop (mkF m 49 #[.val (.int u0), .unset, .unset, .unset, .unset, .unset] [(.ref b1), (.ref b1)])) _
    refine XS.bipush X15.here hx rfl (hb hby at_49) ?_
    show Steps p.tables e below (T15.setTop (mkF m 51 #[.val (.int u0), .unset, .unset, .unset, .unset, .unset] [(.int (7 : Int32)), (.ref b1), (.ref b1)])) _
    refine st16 _ ?_
    show Steps p.tables e below (T16.setTop (mkF m 54 #[.val (.int u0), .unset, .unset, .unset, .unset, .unset] [(.ref (w 7)), (.int (7 : Int32)), (.ref b1), (.ref b1)])) _
    refine st17 _ ?_
    show Steps p.tables e below (T17.setTop (mkF m 55 #[.val (.int u0), .unset, .unset, .unset, .unset, .unset] [(.ref b1)])) _
    refine XS.astoreN X17.here hx rfl (hb hby at_55) rfl rfl (l' := #[.val (.int u0), .val (.ref b1), .unset, .unset, .unset, .unset]) rfl ?_
    show Steps p.tables e below (T17.setTop (mkF m 56 #[.val (.int u0), .val (.ref b1), .unset, .unset, .unset, .unset] [])) _
    refine XS.iloadN X17.here hx rfl (hb hby at_56) rfl ?_
    show Steps p.tables e below (T17.setTop (mkF m 57 #[.val (.int u0), .val (.ref b1), .unset, .unset, .unset, .unset] [(.int u0)])) _
    refine XS.bipush X17.here hx rfl (hb hby at_57) ?_
    show Steps p.tables e below (T17.setTop (mkF m 59 #[.val (.int u0), .val (.ref b1), .unset, .unset, .unset, .unset] [(.int (7 : Int32)), (.int u0)])) _
    refine XS.iand X17.here hx rfl (hb hby at_59) rfl ?_
    show Steps p.tables e below (T17.setTop (mkF m 60 #[.val (.int u0), .val (.ref b1), .unset, .unset, .unset, .unset] [(.int (u0 &&& (7 : Int32)))])) _
    rw [hk0]
    show Steps p.tables e below (T17.setTop (mkF m 60 #[.val (.int u0), .val (.ref b1), .unset, .unset, .unset, .unset] [(.int (1 : Int32))])) _
    refine XS.istoreN X17.here hx rfl (hb hby at_60) rfl (l' := #[.val (.int u0), .val (.ref b1), .val (.int (1 : Int32)), .unset, .unset, .unset]) rfl ?_
    show Steps p.tables e below (T17.setTop (mkF m 61 #[.val (.int u0), .val (.ref b1), .val (.int (1 : Int32)), .unset, .unset, .unset] [])) _
    refine XS.aloadN X17.here hx rfl (hb hby at_61) rfl rfl ?_
    show Steps p.tables e below (T17.setTop (mkF m 62 #[.val (.int u0), .val (.ref b1), .val (.int (1 : Int32)), .unset, .unset, .unset] [(.ref b1)])) _
    refine XS.iloadN X17.here hx rfl (hb hby at_62) rfl ?_
    show Steps p.tables e below (T17.setTop (mkF m 63 #[.val (.int u0), .val (.ref b1), .val (.int (1 : Int32)), .unset, .unset, .unset] [(.int (1 : Int32)), (.ref b1)])) _
    refine X17.aaload hx (j := (1 : Int32)) (v := (.ref (w 1))) (by rw [e17]; exact Ar18.1) (State.isArrayOf_alike hZ.alike Ar18.2.1) rfl Ar18.2.2 hin18 hat18 (g := (mkF m 63 #[.val (.int u0), .val (.ref b1), .val (.int (1 : Int32)), .unset, .unset, .unset] [(.int (1 : Int32)), (.ref b1)])) rfl rfl (hb hby at_63) _ ?_
    show Steps p.tables e below (T17.setTop (mkF m 64 #[.val (.int u0), .val (.ref b1), .val (.int (1 : Int32)), .unset, .unset, .unset] [(.ref (w 1))])) _
    refine XS.astoreN X17.here hx rfl (hb hby at_64) rfl rfl (l' := #[.val (.int u0), .val (.ref b1), .val (.int (1 : Int32)), .val (.ref (w 1)), .unset, .unset]) rfl ?_
    show Steps p.tables e below (T17.setTop (mkF m 65 #[.val (.int u0), .val (.ref b1), .val (.int (1 : Int32)), .val (.ref (w 1)), .unset, .unset] [])) _
    refine XS.iloadN X17.here hx rfl (hb hby at_65) rfl ?_
    show Steps p.tables e below (T17.setTop (mkF m 66 #[.val (.int u0), .val (.ref b1), .val (.int (1 : Int32)), .val (.ref (w 1)), .unset, .unset] [(.int (1 : Int32))])) _
    refine XS.iconst X17.here hx rfl (hb hby at_66) ?_
    show Steps p.tables e below (T17.setTop (mkF m 67 #[.val (.int u0), .val (.ref b1), .val (.int (1 : Int32)), .val (.ref (w 1)), .unset, .unset] [(.int (2 : Int32)), (.int (1 : Int32))])) _
    refine XS.icmpNo X17.here hx rfl (hb hby at_67) rfl (feq (by decide : ¬ ((1 : Int32) = (2 : Int32)))).1 ?_
    show Steps p.tables e below (T17.setTop (mkF m 70 #[.val (.int u0), .val (.ref b1), .val (.int (1 : Int32)), .val (.ref (w 1)), .unset, .unset] [])) _
    refine XS.iloadN X17.here hx rfl (hb hby at_70) rfl ?_
    show Steps p.tables e below (T17.setTop (mkF m 71 #[.val (.int u0), .val (.ref b1), .val (.int (1 : Int32)), .val (.ref (w 1)), .unset, .unset] [(.int (1 : Int32))])) _
    refine XS.iconst X17.here hx rfl (hb hby at_71) ?_
    show Steps p.tables e below (T17.setTop (mkF m 72 #[.val (.int u0), .val (.ref b1), .val (.int (1 : Int32)), .val (.ref (w 1)), .unset, .unset] [(.int (3 : Int32)), (.int (1 : Int32))])) _
    refine XS.icmpYes X17.here hx rfl (pc0 := 72) (pc' := 79) rfl (hb hby at_72) rfl (feq (by decide : ¬ ((1 : Int32) = (3 : Int32)))).2 (by decide) (by decide) ?_
    show Steps p.tables e below (T17.setTop (mkF m 79 #[.val (.int u0), .val (.ref b1), .val (.int (1 : Int32)), .val (.ref (w 1)), .unset, .unset] [])) _
    refine XS.iconst X17.here hx rfl (hb hby at_79) ?_
    show Steps p.tables e below (T17.setTop (mkF m 80 #[.val (.int u0), .val (.ref b1), .val (.int (1 : Int32)), .val (.ref (w 1)), .unset, .unset] [(.int (0 : Int32))])) _
    refine XS.istore X17.here hx rfl (hb hby at_80) rfl (l' := #[.val (.int u0), .val (.ref b1), .val (.int (1 : Int32)), .val (.ref (w 1)), .val (.int (0 : Int32)), .unset]) rfl ?_
    show Steps p.tables e below (T17.setTop (mkF m 82 #[.val (.int u0), .val (.ref b1), .val (.int (1 : Int32)), .val (.ref (w 1)), .val (.int (0 : Int32)), .unset] [])) _
    refine XS.aloadN X17.here hx rfl (hb hby at_82) rfl rfl ?_
    show Steps p.tables e below (T17.setTop (mkF m 83 #[.val (.int u0), .val (.ref b1), .val (.int (1 : Int32)), .val (.ref (w 1)), .val (.int (0 : Int32)), .unset] [(.ref (w 1))])) _
    refine st19.trans ?_
    show Steps p.tables e below (T19.setTop (mkF m 86 #[.val (.int u0), .val (.ref b1), .val (.int (1 : Int32)), .val (.ref (w 1)), .val (.int (0 : Int32)), .unset] [(.int (0 : Int32))])) _
    refine XS.istore X19.here hx rfl (hb hby at_86) rfl (l' := #[.val (.int u0), .val (.ref b1), .val (.int (1 : Int32)), .val (.ref (w 1)), .val (.int (0 : Int32)), .val (.int (0 : Int32))]) rfl ?_
    show Steps p.tables e below (T19.setTop (mkF m 88 #[.val (.int u0), .val (.ref b1), .val (.int (1 : Int32)), .val (.ref (w 1)), .val (.int (0 : Int32)), .val (.int (0 : Int32))] [])) _
    refine XS.iload X19.here hx rfl (hb hby at_88) rfl ?_
    show Steps p.tables e below (T19.setTop (mkF m 90 #[.val (.int u0), .val (.ref b1), .val (.int (1 : Int32)), .val (.ref (w 1)), .val (.int (0 : Int32)), .val (.int (0 : Int32))] [(.int (0 : Int32))])) _
    refine XS.iload X19.here hx rfl (hb hby at_90) rfl ?_
    show Steps p.tables e below (T19.setTop (mkF m 92 #[.val (.int u0), .val (.ref b1), .val (.int (1 : Int32)), .val (.ref (w 1)), .val (.int (0 : Int32)), .val (.int (0 : Int32))] [(.int (0 : Int32)), (.int (0 : Int32))])) _
    refine XS.icmpYes X19.here hx rfl (pc0 := 92) (pc' := 97) rfl (hb hby at_92) rfl (teq (by decide : (0 : Int32) = (0 : Int32))).1 (by decide) (by decide) ?_
    show Steps p.tables e below (T19.setTop (mkF m 97 #[.val (.int u0), .val (.ref b1), .val (.int (1 : Int32)), .val (.ref (w 1)), .val (.int (0 : Int32)), .val (.int (0 : Int32))] [])) _
    refine XS.iload X19.here hx rfl (hb hby at_97) rfl ?_
    show Steps p.tables e below (T19.setTop (mkF m 99 #[.val (.int u0), .val (.ref b1), .val (.int (1 : Int32)), .val (.ref (w 1)), .val (.int (0 : Int32)), .val (.int (0 : Int32))] [(.int (0 : Int32))])) _
    refine XS.ifYes X19.here hx rfl (pc0 := 99) (pc' := 131) rfl (hb hby at_99) rfl ((if0 _ _).trans (teq (by decide : (0 : Int32) = (0 : Int32))).1) (by decide) (by decide) ?_
    show Steps p.tables e below (T19.setTop (mkF m 131 #[.val (.int u0), .val (.ref b1), .val (.int (1 : Int32)), .val (.ref (w 1)), .val (.int (0 : Int32)), .val (.int (0 : Int32))] [])) _
    refine XS.iconst X19.here hx rfl (hb hby at_131) ?_
    show Steps p.tables e below (T19.setTop (mkF m 132 #[.val (.int u0), .val (.ref b1), .val (.int (1 : Int32)), .val (.ref (w 1)), .val (.int (0 : Int32)), .val (.int (0 : Int32))] [(.int (1 : Int32))])) _
    exact retN X19 hx (t := .boolean) Bd.returns (by simp) (hb hby at_132) hr
  · exact ⟨rfl, N19⟩
theorem d_prog_9_method_6_code_14 : decode prog_9_method_6_code 14 = .ok (.iconst 1, 1) := by decide +kernel
theorem d_prog_9_method_6_code_15 : decode prog_9_method_6_code 15 = .ok (.goto 4, 3) := by decide +kernel
set_option maxRecDepth 65536 in
set_option maxHeartbeats 40000000 in
theorem rm_comparesText_5 (l : Launch) (Z : State) (a0 : Array Value) (hw : ∀ d ∈ tables_1, d.before a0 Z = true) (w : Nat → Addr) (κ : Nat → ClassId) (h0 : Heap) (n0 : Nat) (Z0 : n0 ≤ h0.size) (K : Kon Z h0 w κ) (u0 : Int32) (b1 : Addr) (k1 : ClassId) :
    OM l Z (⟨"com/example/licon/licon/search/Operator", "comparesText", "()Z"⟩ : MethodName) prog_9_method_6_code 1 (some .boolean) [] ({ frames := 0, cells := 0, slots := 0, locals := 0 } : Room) #[(.ref (w 2))] h0 (OP (some (.int (1 : Int32))) n0 h0) := by
  refine MetFree.of_bodySF (plainFor_of_name pn_com_example_licon_licon_search_Operator) hisR ?_
  intro p e s m args below meth c s₁ Bd hml0 hP hK
  obtain ⟨rfl, hZ, hh⟩ := hP
  have hx := Bd.exec
  have hby := Bd.bytes
  have hml : c.maxLocals = 1 := hml0
  have hown : s.vm.findClass "com/example/licon/licon/search/Operator" = some m.cls := findClass_of_methodNamed Bd.named
  have hnm := (name_of_methodNamed Bd.named Bd.method).1
  have X0 : Stand p l e ({ frames := 0, cells := 0, slots := 0, locals := 0 } : Room) s m #[(.ref (w 2))] below meth c s₁ [] 0 0 := Stand.of_body Bd
  have e0 : s₁.heap = h0 := by rw [← hh, Bd.state]; rfl
  have N0 := Fr.nil n0
  have pre0 : ∀ t, Steps p.tables e below (s₁.setTop (mkF m 0 #[.val (.ref (w 2))] [])) t → Steps p.tables e below (s₁.setTop (entryFrame m #[(.ref (w 2))] 1)) t := fun t k => castTop (by first | rfl | simp [entryFrame, mkF, argsToLocals, Value.category]) k
  obtain ⟨T1, X1, e1, st1⟩ := getS2 X0 hx hZ hown (host := "") (Or.inl (hw _ (List.mem_of_getElem? (i := 25) rfl))) Via.refl e0 K.2.2.1 (g := (mkF m 1 #[.val (.ref (w 2))] [(.ref (w 2))])) rfl (hb hby d_prog_9_method_6_code_1)
  obtain ⟨fs, hr, hrun, hended, hW, hsame⟩ := X1.leave (v := (some (.int (1 : Int32)))) (fun h => by rw [Bd.returns] at h; cases h)
  refine ⟨_, _, pre0 _ ?_, hrun, hended, _, _, rfl, ?_, ⟨_, rfl⟩, hW, hsame.mono (by decide) (by decide)⟩
  · show Steps p.tables e below (s₁.setTop (mkF m 0 #[.val (.ref (w 2))] [])) _
    refine XS.aloadN X0.here hx rfl (hb hby d_prog_9_method_6_code_0) rfl rfl ?_
    show Steps p.tables e below (s₁.setTop (mkF m 1 #[.val (.ref (w 2))] [(.ref (w 2))])) _
    refine st1 _ ?_
    show Steps p.tables e below (T1.setTop (mkF m 4 #[.val (.ref (w 2))] [(.ref (w 2)), (.ref (w 2))])) _
    refine Jvm.RoadKit.acmp (g := (mkF m 4 #[.val (.ref (w 2))] [(.ref (w 2)), (.ref (w 2))])) X1 hx rfl rfl rfl (pc0 := 4) (pc' := 14) (same := true) rfl (hb hby d_prog_9_method_6_code_4) rfl (decide_eq_true rfl) (by decide) (by decide) ?_
    show Steps p.tables e below (T1.setTop (mkF m 14 #[.val (.ref (w 2))] [])) _
    refine XS.iconst X1.here hx rfl (hb hby d_prog_9_method_6_code_14) ?_
    show Steps p.tables e below (T1.setTop (mkF m 15 #[.val (.ref (w 2))] [(.int (1 : Int32))])) _
    refine XS.goto X1.here hx rfl (pc0 := 15) (pc' := 19) rfl (hb hby d_prog_9_method_6_code_15) (by decide) (by decide) ?_
    show Steps p.tables e below (T1.setTop (mkF m 19 #[.val (.ref (w 2))] [(.int (1 : Int32))])) _
    exact retN X1 hx (t := .boolean) Bd.returns (by simp) (hb hby d_prog_9_method_6_code_19) hr
  · exact ⟨rfl, N0, e1⟩
theorem d_prog_9_method_4_code_0 : decode prog_9_method_4_code 0 = .ok (.iload_n 1, 1) := by decide +kernel
theorem d_prog_9_method_4_code_1 : decode prog_9_method_4_code 1 = .ok (.aload_n 0, 1) := by decide +kernel
theorem d_prog_9_method_4_code_2 : decode prog_9_method_4_code 2 = .ok (.getfield 47, 3) := by decide +kernel
theorem d_prog_9_method_4_code_5 : decode prog_9_method_4_code 5 = .ok (.if_icmp .lt 15, 3) := by decide +kernel
theorem d_prog_9_method_4_code_8 : decode prog_9_method_4_code 8 = .ok (.iload_n 1, 1) := by decide +kernel
theorem d_prog_9_method_4_code_9 : decode prog_9_method_4_code 9 = .ok (.aload_n 0, 1) := by decide +kernel
theorem d_prog_9_method_4_code_10 : decode prog_9_method_4_code 10 = .ok (.getfield 51, 3) := by decide +kernel
theorem d_prog_9_method_4_code_13 : decode prog_9_method_4_code 13 = .ok (.if_icmp .gt 7, 3) := by decide +kernel
theorem d_prog_9_method_4_code_16 : decode prog_9_method_4_code 16 = .ok (.iconst 1, 1) := by decide +kernel
theorem d_prog_9_method_4_code_17 : decode prog_9_method_4_code 17 = .ok (.goto 4, 3) := by decide +kernel
theorem d_prog_9_method_4_code_21 : decode prog_9_method_4_code 21 = .ok (.ireturn, 1) := by decide +kernel
set_option maxRecDepth 65536 in
set_option maxHeartbeats 40000000 in
theorem rm_takes_6 (l : Launch) (Z : State) (a0 : Array Value) (hw : ∀ d ∈ tables_1, d.before a0 Z = true) (w : Nat → Addr) (κ : Nat → ClassId) (h0 : Heap) (n0 : Nat) (Z0 : n0 ≤ h0.size) (K : Kon Z h0 w κ) (u0 : Int32) (b1 : Addr) (k1 : ClassId) :
    OM l Z (⟨"com/example/licon/licon/search/Operator", "takes", "(I)Z"⟩ : MethodName) prog_9_method_4_code 2 (some .boolean) [] ({ frames := 0, cells := 0, slots := 0, locals := 0 } : Room) #[(.ref (w 2)), (.int (1 : Int32))] h0 (OP (some (.int (1 : Int32))) n0 h0) := by
  refine MetFree.of_bodySF (plainFor_of_name pn_com_example_licon_licon_search_Operator) hisR ?_
  intro p e s m args below meth c s₁ Bd hml0 hP hK
  obtain ⟨rfl, hZ, hh⟩ := hP
  have hx := Bd.exec
  have hby := Bd.bytes
  have hml : c.maxLocals = 2 := hml0
  have hown : s.vm.findClass "com/example/licon/licon/search/Operator" = some m.cls := findClass_of_methodNamed Bd.named
  have hnm := (name_of_methodNamed Bd.named Bd.method).1
  have X0 : Stand p l e ({ frames := 0, cells := 0, slots := 0, locals := 0 } : Room) s m #[(.ref (w 2)), (.int (1 : Int32))] below meth c s₁ [] 0 0 := Stand.of_body Bd
  have e0 : s₁.heap = h0 := by rw [← hh, Bd.state]; rfl
  have N0 := Fr.nil n0
  have pre0 : ∀ t, Steps p.tables e below (s₁.setTop (mkF m 0 #[.val (.ref (w 2)), .val (.int (1 : Int32))] [])) t → Steps p.tables e below (s₁.setTop (entryFrame m #[(.ref (w 2)), (.int (1 : Int32))] 2)) t := fun t k => castTop (by first | rfl | simp [entryFrame, mkF, argsToLocals, Value.category]) k
  obtain ⟨T1, X1, e1, st1⟩ := getF X0 hx hZ hown (host := "") (Or.inl (hw _ (List.mem_of_getElem? (i := 32) rfl))) Via.refl e0 K.2.2.2.2.2.2.2.2.2.2.2.2.2.2.2.2.2.2.2.2.2.2.2.2.1 (g := (mkF m 2 #[.val (.ref (w 2)), .val (.int (1 : Int32))] [(.ref (w 2)), (.int (1 : Int32))])) rfl rfl (hb hby d_prog_9_method_4_code_2)
  obtain ⟨T2, X2, e2, st2⟩ := getF X1 hx hZ hown (host := "") (Or.inl (hw _ (List.mem_of_getElem? (i := 34) rfl))) Via.refl e1 K.2.2.2.2.2.2.2.2.2.2.2.2.2.2.2.2.2.2.2.2.2.2.2.2.2.1 (g := (mkF m 10 #[.val (.ref (w 2)), .val (.int (1 : Int32))] [(.ref (w 2)), (.int (1 : Int32))])) rfl rfl (hb hby d_prog_9_method_4_code_10)
  obtain ⟨fs, hr, hrun, hended, hW, hsame⟩ := X2.leave (v := (some (.int (1 : Int32)))) (fun h => by rw [Bd.returns] at h; cases h)
  refine ⟨_, _, pre0 _ ?_, hrun, hended, _, _, rfl, ?_, ⟨_, rfl⟩, hW, hsame.mono (by decide) (by decide)⟩
  · show Steps p.tables e below (s₁.setTop (mkF m 0 #[.val (.ref (w 2)), .val (.int (1 : Int32))] [])) _
    refine XS.iloadN X0.here hx rfl (hb hby d_prog_9_method_4_code_0) rfl ?_
    show Steps p.tables e below (s₁.setTop (mkF m 1 #[.val (.ref (w 2)), .val (.int (1 : Int32))] [(.int (1 : Int32))])) _
    refine XS.aloadN X0.here hx rfl (hb hby d_prog_9_method_4_code_1) rfl rfl ?_
    show Steps p.tables e below (s₁.setTop (mkF m 2 #[.val (.ref (w 2)), .val (.int (1 : Int32))] [(.ref (w 2)), (.int (1 : Int32))])) _
    refine st1 _ ?_
    show Steps p.tables e below (T1.setTop (mkF m 5 #[.val (.ref (w 2)), .val (.int (1 : Int32))] [(.int (1 : Int32)), (.int (1 : Int32))])) _
    refine XS.icmpNo X1.here hx rfl (hb hby d_prog_9_method_4_code_5) rfl (flt (by decide : ¬ ((1 : Int32) < (1 : Int32)))).1 ?_
    show Steps p.tables e below (T1.setTop (mkF m 8 #[.val (.ref (w 2)), .val (.int (1 : Int32))] [])) _
    refine XS.iloadN X1.here hx rfl (hb hby d_prog_9_method_4_code_8) rfl ?_
    show Steps p.tables e below (T1.setTop (mkF m 9 #[.val (.ref (w 2)), .val (.int (1 : Int32))] [(.int (1 : Int32))])) _
    refine XS.aloadN X1.here hx rfl (hb hby d_prog_9_method_4_code_9) rfl rfl ?_
    show Steps p.tables e below (T1.setTop (mkF m 10 #[.val (.ref (w 2)), .val (.int (1 : Int32))] [(.ref (w 2)), (.int (1 : Int32))])) _
    refine st2 _ ?_
    show Steps p.tables e below (T2.setTop (mkF m 13 #[.val (.ref (w 2)), .val (.int (1 : Int32))] [(.int (1 : Int32)), (.int (1 : Int32))])) _
    refine XS.icmpNo X2.here hx rfl (hb hby d_prog_9_method_4_code_13) rfl (flt (by decide : ¬ ((1 : Int32) < (1 : Int32)))).2.2.1 ?_
    show Steps p.tables e below (T2.setTop (mkF m 16 #[.val (.ref (w 2)), .val (.int (1 : Int32))] [])) _
    refine XS.iconst X2.here hx rfl (hb hby d_prog_9_method_4_code_16) ?_
    show Steps p.tables e below (T2.setTop (mkF m 17 #[.val (.ref (w 2)), .val (.int (1 : Int32))] [(.int (1 : Int32))])) _
    refine XS.goto X2.here hx rfl (pc0 := 17) (pc' := 21) rfl (hb hby d_prog_9_method_4_code_17) (by decide) (by decide) ?_
    show Steps p.tables e below (T2.setTop (mkF m 21 #[.val (.ref (w 2)), .val (.int (1 : Int32))] [(.int (1 : Int32))])) _
    exact retN X2 hx (t := .boolean) Bd.returns (by simp) (hb hby d_prog_9_method_4_code_21) hr
  · exact ⟨rfl, N0, e2⟩
theorem pd_28I29Z : parseMethodDescriptor "(I)Z" = some ⟨[.int], some .boolean⟩ := by decide +kernel
theorem d_prog_9_method_4_code_20 : decode prog_9_method_4_code 20 = .ok (.iconst 0, 1) := by decide +kernel
set_option maxRecDepth 65536 in
set_option maxHeartbeats 40000000 in
theorem rm_takes_7 (l : Launch) (Z : State) (a0 : Array Value) (hw : ∀ d ∈ tables_1, d.before a0 Z = true) (w : Nat → Addr) (κ : Nat → ClassId) (h0 : Heap) (n0 : Nat) (Z0 : n0 ≤ h0.size) (K : Kon Z h0 w κ) (u0 : Int32) (b1 : Addr) (k1 : ClassId) :
    OM l Z (⟨"com/example/licon/licon/search/Operator", "takes", "(I)Z"⟩ : MethodName) prog_9_method_4_code 2 (some .boolean) [] ({ frames := 0, cells := 0, slots := 0, locals := 0 } : Room) #[(.ref (w 2)), (.int (2 : Int32))] h0 (OP (some (.int (0 : Int32))) n0 h0) := by
  refine MetFree.of_bodySF (plainFor_of_name pn_com_example_licon_licon_search_Operator) hisR ?_
  intro p e s m args below meth c s₁ Bd hml0 hP hK
  obtain ⟨rfl, hZ, hh⟩ := hP
  have hx := Bd.exec
  have hby := Bd.bytes
  have hml : c.maxLocals = 2 := hml0
  have hown : s.vm.findClass "com/example/licon/licon/search/Operator" = some m.cls := findClass_of_methodNamed Bd.named
  have hnm := (name_of_methodNamed Bd.named Bd.method).1
  have X0 : Stand p l e ({ frames := 0, cells := 0, slots := 0, locals := 0 } : Room) s m #[(.ref (w 2)), (.int (2 : Int32))] below meth c s₁ [] 0 0 := Stand.of_body Bd
  have e0 : s₁.heap = h0 := by rw [← hh, Bd.state]; rfl
  have N0 := Fr.nil n0
  have pre0 : ∀ t, Steps p.tables e below (s₁.setTop (mkF m 0 #[.val (.ref (w 2)), .val (.int (2 : Int32))] [])) t → Steps p.tables e below (s₁.setTop (entryFrame m #[(.ref (w 2)), (.int (2 : Int32))] 2)) t := fun t k => castTop (by first | rfl | simp [entryFrame, mkF, argsToLocals, Value.category]) k
  obtain ⟨T1, X1, e1, st1⟩ := getF X0 hx hZ hown (host := "") (Or.inl (hw _ (List.mem_of_getElem? (i := 32) rfl))) Via.refl e0 K.2.2.2.2.2.2.2.2.2.2.2.2.2.2.2.2.2.2.2.2.2.2.2.2.1 (g := (mkF m 2 #[.val (.ref (w 2)), .val (.int (2 : Int32))] [(.ref (w 2)), (.int (2 : Int32))])) rfl rfl (hb hby d_prog_9_method_4_code_2)
  obtain ⟨T2, X2, e2, st2⟩ := getF X1 hx hZ hown (host := "") (Or.inl (hw _ (List.mem_of_getElem? (i := 34) rfl))) Via.refl e1 K.2.2.2.2.2.2.2.2.2.2.2.2.2.2.2.2.2.2.2.2.2.2.2.2.2.1 (g := (mkF m 10 #[.val (.ref (w 2)), .val (.int (2 : Int32))] [(.ref (w 2)), (.int (2 : Int32))])) rfl rfl (hb hby d_prog_9_method_4_code_10)
  obtain ⟨fs, hr, hrun, hended, hW, hsame⟩ := X2.leave (v := (some (.int (0 : Int32)))) (fun h => by rw [Bd.returns] at h; cases h)
  refine ⟨_, _, pre0 _ ?_, hrun, hended, _, _, rfl, ?_, ⟨_, rfl⟩, hW, hsame.mono (by decide) (by decide)⟩
  · show Steps p.tables e below (s₁.setTop (mkF m 0 #[.val (.ref (w 2)), .val (.int (2 : Int32))] [])) _
    refine XS.iloadN X0.here hx rfl (hb hby d_prog_9_method_4_code_0) rfl ?_
    show Steps p.tables e below (s₁.setTop (mkF m 1 #[.val (.ref (w 2)), .val (.int (2 : Int32))] [(.int (2 : Int32))])) _
    refine XS.aloadN X0.here hx rfl (hb hby d_prog_9_method_4_code_1) rfl rfl ?_
    show Steps p.tables e below (s₁.setTop (mkF m 2 #[.val (.ref (w 2)), .val (.int (2 : Int32))] [(.ref (w 2)), (.int (2 : Int32))])) _
    refine st1 _ ?_
    show Steps p.tables e below (T1.setTop (mkF m 5 #[.val (.ref (w 2)), .val (.int (2 : Int32))] [(.int (1 : Int32)), (.int (2 : Int32))])) _
    refine XS.icmpNo X1.here hx rfl (hb hby d_prog_9_method_4_code_5) rfl (flt (by decide : ¬ ((2 : Int32) < (1 : Int32)))).1 ?_
    show Steps p.tables e below (T1.setTop (mkF m 8 #[.val (.ref (w 2)), .val (.int (2 : Int32))] [])) _
    refine XS.iloadN X1.here hx rfl (hb hby d_prog_9_method_4_code_8) rfl ?_
    show Steps p.tables e below (T1.setTop (mkF m 9 #[.val (.ref (w 2)), .val (.int (2 : Int32))] [(.int (2 : Int32))])) _
    refine XS.aloadN X1.here hx rfl (hb hby d_prog_9_method_4_code_9) rfl rfl ?_
    show Steps p.tables e below (T1.setTop (mkF m 10 #[.val (.ref (w 2)), .val (.int (2 : Int32))] [(.ref (w 2)), (.int (2 : Int32))])) _
    refine st2 _ ?_
    show Steps p.tables e below (T2.setTop (mkF m 13 #[.val (.ref (w 2)), .val (.int (2 : Int32))] [(.int (1 : Int32)), (.int (2 : Int32))])) _
    refine XS.icmpYes X2.here hx rfl (pc0 := 13) (pc' := 20) rfl (hb hby d_prog_9_method_4_code_13) rfl (tlt (by decide : (1 : Int32) < (2 : Int32))).2.2.1 (by decide) (by decide) ?_
    show Steps p.tables e below (T2.setTop (mkF m 20 #[.val (.ref (w 2)), .val (.int (2 : Int32))] [])) _
    refine XS.iconst X2.here hx rfl (hb hby d_prog_9_method_4_code_20) ?_
    show Steps p.tables e below (T2.setTop (mkF m 21 #[.val (.ref (w 2)), .val (.int (2 : Int32))] [(.int (0 : Int32))])) _
    exact retN X2 hx (t := .boolean) Bd.returns (by simp) (hb hby d_prog_9_method_4_code_21) hr
  · exact ⟨rfl, N0, e2⟩
theorem d_prog_9_method_7_code_0 : decode prog_9_method_7_code 0 = .ok (.aload_n 0, 1) := by decide +kernel
theorem d_prog_9_method_7_code_1 : decode prog_9_method_7_code 1 = .ok (.getfield 54, 3) := by decide +kernel
theorem d_prog_9_method_7_code_4 : decode prog_9_method_7_code 4 = .ok (.ireturn, 1) := by decide +kernel
set_option maxRecDepth 65536 in
set_option maxHeartbeats 40000000 in
theorem rm_negated_8 (l : Launch) (Z : State) (a0 : Array Value) (hw : ∀ d ∈ tables_1, d.before a0 Z = true) (w : Nat → Addr) (κ : Nat → ClassId) (h0 : Heap) (n0 : Nat) (Z0 : n0 ≤ h0.size) (K : Kon Z h0 w κ) (u0 : Int32) (b1 : Addr) (k1 : ClassId) :
    OM l Z (⟨"com/example/licon/licon/search/Operator", "negated", "()Z"⟩ : MethodName) prog_9_method_7_code 1 (some .boolean) [] ({ frames := 0, cells := 0, slots := 0, locals := 0 } : Room) #[(.ref (w 2))] h0 (OP (some (.int (0 : Int32))) n0 h0) := by
  refine MetFree.of_bodySF (plainFor_of_name pn_com_example_licon_licon_search_Operator) hisR ?_
  intro p e s m args below meth c s₁ Bd hml0 hP hK
  obtain ⟨rfl, hZ, hh⟩ := hP
  have hx := Bd.exec
  have hby := Bd.bytes
  have hml : c.maxLocals = 1 := hml0
  have hown : s.vm.findClass "com/example/licon/licon/search/Operator" = some m.cls := findClass_of_methodNamed Bd.named
  have hnm := (name_of_methodNamed Bd.named Bd.method).1
  have X0 : Stand p l e ({ frames := 0, cells := 0, slots := 0, locals := 0 } : Room) s m #[(.ref (w 2))] below meth c s₁ [] 0 0 := Stand.of_body Bd
  have e0 : s₁.heap = h0 := by rw [← hh, Bd.state]; rfl
  have N0 := Fr.nil n0
  have pre0 : ∀ t, Steps p.tables e below (s₁.setTop (mkF m 0 #[.val (.ref (w 2))] [])) t → Steps p.tables e below (s₁.setTop (entryFrame m #[(.ref (w 2))] 1)) t := fun t k => castTop (by first | rfl | simp [entryFrame, mkF, argsToLocals, Value.category]) k
  obtain ⟨T1, X1, e1, st1⟩ := getF X0 hx hZ hown (host := "") (Or.inl (hw _ (List.mem_of_getElem? (i := 41) rfl))) Via.refl e0 K.2.2.2.2.2.2.2.2.2.2.2.2.2.2.2.2.2.2.2.2.2.2.2.2.2.2.1 (g := (mkF m 1 #[.val (.ref (w 2))] [(.ref (w 2))])) rfl rfl (hb hby d_prog_9_method_7_code_1)
  obtain ⟨fs, hr, hrun, hended, hW, hsame⟩ := X1.leave (v := (some (.int (0 : Int32)))) (fun h => by rw [Bd.returns] at h; cases h)
  refine ⟨_, _, pre0 _ ?_, hrun, hended, _, _, rfl, ?_, ⟨_, rfl⟩, hW, hsame.mono (by decide) (by decide)⟩
  · show Steps p.tables e below (s₁.setTop (mkF m 0 #[.val (.ref (w 2))] [])) _
    refine XS.aloadN X0.here hx rfl (hb hby d_prog_9_method_7_code_0) rfl rfl ?_
    show Steps p.tables e below (s₁.setTop (mkF m 1 #[.val (.ref (w 2))] [(.ref (w 2))])) _
    refine st1 _ ?_
    show Steps p.tables e below (T1.setTop (mkF m 4 #[.val (.ref (w 2))] [(.int (0 : Int32))])) _
    exact retN X1 hx (t := .boolean) Bd.returns (by simp) (hb hby d_prog_9_method_7_code_4) hr
  · exact ⟨rfl, N0, e1⟩
set_option maxRecDepth 65536 in
set_option maxHeartbeats 40000000 in
theorem rm0_9 (l : Launch) (Z : State) (a0 : Array Value) (hw : ∀ d ∈ tables_1, d.before a0 Z = true) (w : Nat → Addr) (κ : Nat → ClassId) (h0 : Heap) (n0 : Nat) (Z0 : n0 ≤ h0.size) (K : Kon Z h0 w κ) (u0 : Int32) (hk0 : (u0 &&& (7 : Int32)) = (2 : Int32)) :
    OM l Z x code maxLocals ret tables_1 room_1 #[(.int u0)] h0 (OF (some (.int (1 : Int32))) n0) := by
  refine MetFree.of_bodySF (plainFor_of_name pn_com_example_licon_licon_search_OperatorComparesTextPinLaw) hisR ?_
  intro p e s m args below meth c s₁ Bd hml0 hP hK
  obtain ⟨rfl, hZ, hh⟩ := hP
  have hx := Bd.exec
  have hby := Bd.bytes
  have hml : c.maxLocals = 6 := hml0
  have hown : s.vm.findClass "com/example/licon/licon/search/OperatorComparesTextPinLaw" = some m.cls := findClass_of_methodNamed Bd.named
  have hnm := (name_of_methodNamed Bd.named Bd.method).1
  have X0 : Stand p l e room_1 s m #[(.int u0)] below meth c s₁ [] 0 0 := Stand.of_body Bd
  have e0 : s₁.heap = h0 := by rw [← hh, Bd.state]; rfl
  have N0 := Fr.nil n0
  have pre0 : ∀ t, Steps p.tables e below (s₁.setTop (mkF m 0 #[.val (.int u0), .unset, .unset, .unset, .unset, .unset] [])) t → Steps p.tables e below (s₁.setTop (entryFrame m #[(.int u0)] maxLocals)) t := fun t k => castTop (by first | rfl | simp [entryFrame, mkF, argsToLocals, Value.category, maxLocals]) k
  obtain ⟨T1, h1, k1, X1, e1, E1, A1, O1, st1⟩ := newR X0 hx hZ hown (hw _ (List.mem_of_getElem? (i := 0) rfl)) (hw _ (List.mem_of_getElem? (i := 1) rfl)) e0 (g := (mkF m 2 #[.val (.int u0), .unset, .unset, .unset, .unset, .unset] [(.int (8 : Int32))])) rfl (hb hby at_2) rfl (by decide) (cap := 8) (by decide) (by decide) (by decide) (by decide)
  obtain ⟨b1, g1⟩ : ∃ z, z = h0.size := ⟨_, rfl⟩
  rw [← g1] at A1 st1
  have hG1 : n0 ≤ b1 := Nat.le_trans Z0 (Nat.le_of_eq g1.symm)
  have hKN1 : ∀ i, i < 8 → w i ≠ b1 := fun i hi => by rw [g1]; exact Nat.ne_of_lt (K.lt i hi)
  have K1 := K.ext E1
  have Z1 : n0 ≤ h1.size := Nat.le_trans Z0 E1.1
  have V1 : Arv Z h1 b1 k1 (.object "com/example/licon/licon/search/Operator") (8 : Int32) [.null, .null, .null, .null, .null, .null, .null, .null] .null := (Arv.new A1 (by decide)).pad (pad_rep [] .null 8)
  obtain ⟨T2, X2, e2, st2⟩ := getS2 X1 hx hZ hown (host := "") (Or.inl (hw _ (List.mem_of_getElem? (i := 2) rfl))) Via.refl e1 K1.1 (g := (mkF m 7 #[.val (.int u0), .unset, .unset, .unset, .unset, .unset] [(.int (0 : Int32)), (.ref b1), (.ref b1)])) rfl (hb hby at_7)
  obtain ⟨cl3, Ar3, qa3, Sz3, Nn3, Ha3, Ga3⟩ := id V1
  have hin3 : ¬ ((0 : Int32) < 0 ∨ cl3.slots.size ≤ ((0 : Int32)).toNatClampNeg) := inb_of Sz3 ⟨by decide, by decide⟩
  obtain ⟨T3, h3, X3, e3, W3, st3⟩ := stR X2 hx hZ e2 Ar3 (j := (0 : Int32)) hin3 rfl (Sto.ofV Ar3 qa3 O1 (Ins.self K1.2.2.2.2.2.2.2.2.1)) (g := (mkF m 10 #[.val (.int u0), .unset, .unset, .unset, .unset, .unset] [(.ref (w 0)), (.int (0 : Int32)), (.ref b1), (.ref b1)])) rfl rfl (hb hby at_10)
  have f3_fA_b1 : Arv Z h3 b1 k1 (.object "com/example/licon/licon/search/Operator") (8 : Int32) [(.ref (w 0)), .null, .null, .null, .null, .null, .null, .null] .null := Arv.set Ar3 qa3 Sz3 Nn3 Ha3 Ga3 rfl W3 0 rfl (Nat.le_of_ble_eq_true rfl)
  have K3 := K1.wr W3 hKN1
  have Z3 : n0 ≤ h3.size := Nat.le_trans Z1 (Nat.le_of_eq W3.size.symm)
  have N3 := Fr.snoc X3 N0 hG1
  obtain ⟨T4, X4, e4, st4⟩ := getS2 X3 hx hZ hown (host := "") (Or.inl (hw _ (List.mem_of_getElem? (i := 6) rfl))) Via.refl e3 K3.2.1 (g := (mkF m 13 #[.val (.int u0), .unset, .unset, .unset, .unset, .unset] [(.int (1 : Int32)), (.ref b1), (.ref b1)])) rfl (hb hby at_13)
  obtain ⟨cl5, Ar5, qa5, Sz5, Nn5, Ha5, Ga5⟩ := id f3_fA_b1
  have hin5 : ¬ ((1 : Int32) < 0 ∨ cl5.slots.size ≤ ((1 : Int32)).toNatClampNeg) := inb_of Sz5 ⟨by decide, by decide⟩
  obtain ⟨T5, h5, X5, e5, W5, st5⟩ := stR X4 hx hZ e4 Ar5 (j := (1 : Int32)) hin5 rfl (Sto.ofV Ar5 qa5 O1 (Ins.self K3.2.2.2.2.2.2.2.2.2.1)) (g := (mkF m 16 #[.val (.int u0), .unset, .unset, .unset, .unset, .unset] [(.ref (w 1)), (.int (1 : Int32)), (.ref b1), (.ref b1)])) rfl rfl (hb hby at_16)
  have f5_fA_b1 : Arv Z h5 b1 k1 (.object "com/example/licon/licon/search/Operator") (8 : Int32) [(.ref (w 0)), (.ref (w 1)), .null, .null, .null, .null, .null, .null] .null := Arv.set Ar5 qa5 Sz5 Nn5 Ha5 Ga5 rfl W5 1 rfl (Nat.le_of_ble_eq_true rfl)
  have K5 := K3.wr W5 hKN1
  have Z5 : n0 ≤ h5.size := Nat.le_trans Z3 (Nat.le_of_eq W5.size.symm)
  have N5 := Fr.snoc X5 N3 hG1
  obtain ⟨T6, X6, e6, st6⟩ := getS2 X5 hx hZ hown (host := "") (Or.inl (hw _ (List.mem_of_getElem? (i := 8) rfl))) Via.refl e5 K5.2.2.1 (g := (mkF m 19 #[.val (.int u0), .unset, .unset, .unset, .unset, .unset] [(.int (2 : Int32)), (.ref b1), (.ref b1)])) rfl (hb hby at_19)
  obtain ⟨cl7, Ar7, qa7, Sz7, Nn7, Ha7, Ga7⟩ := id f5_fA_b1
  have hin7 : ¬ ((2 : Int32) < 0 ∨ cl7.slots.size ≤ ((2 : Int32)).toNatClampNeg) := inb_of Sz7 ⟨by decide, by decide⟩
  obtain ⟨T7, h7, X7, e7, W7, st7⟩ := stR X6 hx hZ e6 Ar7 (j := (2 : Int32)) hin7 rfl (Sto.ofV Ar7 qa7 O1 (Ins.self K5.2.2.2.2.2.2.2.2.2.2.1)) (g := (mkF m 22 #[.val (.int u0), .unset, .unset, .unset, .unset, .unset] [(.ref (w 2)), (.int (2 : Int32)), (.ref b1), (.ref b1)])) rfl rfl (hb hby at_22)
  have f7_fA_b1 : Arv Z h7 b1 k1 (.object "com/example/licon/licon/search/Operator") (8 : Int32) [(.ref (w 0)), (.ref (w 1)), (.ref (w 2)), .null, .null, .null, .null, .null] .null := Arv.set Ar7 qa7 Sz7 Nn7 Ha7 Ga7 rfl W7 2 rfl (Nat.le_of_ble_eq_true rfl)
  have K7 := K5.wr W7 hKN1
  have Z7 : n0 ≤ h7.size := Nat.le_trans Z5 (Nat.le_of_eq W7.size.symm)
  have N7 := Fr.snoc X7 N5 hG1
  obtain ⟨T8, X8, e8, st8⟩ := getS2 X7 hx hZ hown (host := "") (Or.inl (hw _ (List.mem_of_getElem? (i := 10) rfl))) Via.refl e7 K7.2.2.2.1 (g := (mkF m 25 #[.val (.int u0), .unset, .unset, .unset, .unset, .unset] [(.int (3 : Int32)), (.ref b1), (.ref b1)])) rfl (hb hby at_25)
  obtain ⟨cl9, Ar9, qa9, Sz9, Nn9, Ha9, Ga9⟩ := id f7_fA_b1
  have hin9 : ¬ ((3 : Int32) < 0 ∨ cl9.slots.size ≤ ((3 : Int32)).toNatClampNeg) := inb_of Sz9 ⟨by decide, by decide⟩
  obtain ⟨T9, h9, X9, e9, W9, st9⟩ := stR X8 hx hZ e8 Ar9 (j := (3 : Int32)) hin9 rfl (Sto.ofV Ar9 qa9 O1 (Ins.self K7.2.2.2.2.2.2.2.2.2.2.2.1)) (g := (mkF m 28 #[.val (.int u0), .unset, .unset, .unset, .unset, .unset] [(.ref (w 3)), (.int (3 : Int32)), (.ref b1), (.ref b1)])) rfl rfl (hb hby at_28)
  have f9_fA_b1 : Arv Z h9 b1 k1 (.object "com/example/licon/licon/search/Operator") (8 : Int32) [(.ref (w 0)), (.ref (w 1)), (.ref (w 2)), (.ref (w 3)), .null, .null, .null, .null] .null := Arv.set Ar9 qa9 Sz9 Nn9 Ha9 Ga9 rfl W9 3 rfl (Nat.le_of_ble_eq_true rfl)
  have K9 := K7.wr W9 hKN1
  have Z9 : n0 ≤ h9.size := Nat.le_trans Z7 (Nat.le_of_eq W9.size.symm)
  have N9 := Fr.snoc X9 N7 hG1
  obtain ⟨T10, X10, e10, st10⟩ := getS2 X9 hx hZ hown (host := "") (Or.inl (hw _ (List.mem_of_getElem? (i := 12) rfl))) Via.refl e9 K9.2.2.2.2.1 (g := (mkF m 31 #[.val (.int u0), .unset, .unset, .unset, .unset, .unset] [(.int (4 : Int32)), (.ref b1), (.ref b1)])) rfl (hb hby at_31)
  obtain ⟨cl11, Ar11, qa11, Sz11, Nn11, Ha11, Ga11⟩ := id f9_fA_b1
  have hin11 : ¬ ((4 : Int32) < 0 ∨ cl11.slots.size ≤ ((4 : Int32)).toNatClampNeg) := inb_of Sz11 ⟨by decide, by decide⟩
  obtain ⟨T11, h11, X11, e11, W11, st11⟩ := stR X10 hx hZ e10 Ar11 (j := (4 : Int32)) hin11 rfl (Sto.ofV Ar11 qa11 O1 (Ins.self K9.2.2.2.2.2.2.2.2.2.2.2.2.1)) (g := (mkF m 34 #[.val (.int u0), .unset, .unset, .unset, .unset, .unset] [(.ref (w 4)), (.int (4 : Int32)), (.ref b1), (.ref b1)])) rfl rfl (hb hby at_34)
  have f11_fA_b1 : Arv Z h11 b1 k1 (.object "com/example/licon/licon/search/Operator") (8 : Int32) [(.ref (w 0)), (.ref (w 1)), (.ref (w 2)), (.ref (w 3)), (.ref (w 4)), .null, .null, .null] .null := Arv.set Ar11 qa11 Sz11 Nn11 Ha11 Ga11 rfl W11 4 rfl (Nat.le_of_ble_eq_true rfl)
  have K11 := K9.wr W11 hKN1
  have Z11 : n0 ≤ h11.size := Nat.le_trans Z9 (Nat.le_of_eq W11.size.symm)
  have N11 := Fr.snoc X11 N9 hG1
  obtain ⟨T12, X12, e12, st12⟩ := getS2 X11 hx hZ hown (host := "") (Or.inl (hw _ (List.mem_of_getElem? (i := 14) rfl))) Via.refl e11 K11.2.2.2.2.2.1 (g := (mkF m 37 #[.val (.int u0), .unset, .unset, .unset, .unset, .unset] [(.int (5 : Int32)), (.ref b1), (.ref b1)])) rfl (hb hby at_37)
  obtain ⟨cl13, Ar13, qa13, Sz13, Nn13, Ha13, Ga13⟩ := id f11_fA_b1
  have hin13 : ¬ ((5 : Int32) < 0 ∨ cl13.slots.size ≤ ((5 : Int32)).toNatClampNeg) := inb_of Sz13 ⟨by decide, by decide⟩
  obtain ⟨T13, h13, X13, e13, W13, st13⟩ := stR X12 hx hZ e12 Ar13 (j := (5 : Int32)) hin13 rfl (Sto.ofV Ar13 qa13 O1 (Ins.self K11.2.2.2.2.2.2.2.2.2.2.2.2.2.1)) (g := (mkF m 40 #[.val (.int u0), .unset, .unset, .unset, .unset, .unset] [(.ref (w 5)), (.int (5 : Int32)), (.ref b1), (.ref b1)])) rfl rfl (hb hby at_40)
  have f13_fA_b1 : Arv Z h13 b1 k1 (.object "com/example/licon/licon/search/Operator") (8 : Int32) [(.ref (w 0)), (.ref (w 1)), (.ref (w 2)), (.ref (w 3)), (.ref (w 4)), (.ref (w 5)), .null, .null] .null := Arv.set Ar13 qa13 Sz13 Nn13 Ha13 Ga13 rfl W13 5 rfl (Nat.le_of_ble_eq_true rfl)
  have K13 := K11.wr W13 hKN1
  have Z13 : n0 ≤ h13.size := Nat.le_trans Z11 (Nat.le_of_eq W13.size.symm)
  have N13 := Fr.snoc X13 N11 hG1
  obtain ⟨T14, X14, e14, st14⟩ := getS2 X13 hx hZ hown (host := "") (Or.inl (hw _ (List.mem_of_getElem? (i := 16) rfl))) Via.refl e13 K13.2.2.2.2.2.2.1 (g := (mkF m 44 #[.val (.int u0), .unset, .unset, .unset, .unset, .unset] [(.int (6 : Int32)), (.ref b1), (.ref b1)])) rfl (hb hby at_44)
  obtain ⟨cl15, Ar15, qa15, Sz15, Nn15, Ha15, Ga15⟩ := id f13_fA_b1
  have hin15 : ¬ ((6 : Int32) < 0 ∨ cl15.slots.size ≤ ((6 : Int32)).toNatClampNeg) := inb_of Sz15 ⟨by decide, by decide⟩
  obtain ⟨T15, h15, X15, e15, W15, st15⟩ := stR X14 hx hZ e14 Ar15 (j := (6 : Int32)) hin15 rfl (Sto.ofV Ar15 qa15 O1 (Ins.self K13.2.2.2.2.2.2.2.2.2.2.2.2.2.2.1)) (g := (mkF m 47 #[.val (.int u0), .unset, .unset, .unset, .unset, .unset] [(.ref (w 6)), (.int (6 : Int32)), (.ref b1), (.ref b1)])) rfl rfl (hb hby at_47)
  have f15_fA_b1 : Arv Z h15 b1 k1 (.object "com/example/licon/licon/search/Operator") (8 : Int32) [(.ref (w 0)), (.ref (w 1)), (.ref (w 2)), (.ref (w 3)), (.ref (w 4)), (.ref (w 5)), (.ref (w 6)), .null] .null := Arv.set Ar15 qa15 Sz15 Nn15 Ha15 Ga15 rfl W15 6 rfl (Nat.le_of_ble_eq_true rfl)
  have K15 := K13.wr W15 hKN1
  have Z15 : n0 ≤ h15.size := Nat.le_trans Z13 (Nat.le_of_eq W15.size.symm)
  have N15 := Fr.snoc X15 N13 hG1
  obtain ⟨T16, X16, e16, st16⟩ := getS2 X15 hx hZ hown (host := "") (Or.inl (hw _ (List.mem_of_getElem? (i := 18) rfl))) Via.refl e15 K15.2.2.2.2.2.2.2.1 (g := (mkF m 51 #[.val (.int u0), .unset, .unset, .unset, .unset, .unset] [(.int (7 : Int32)), (.ref b1), (.ref b1)])) rfl (hb hby at_51)
  obtain ⟨cl17, Ar17, qa17, Sz17, Nn17, Ha17, Ga17⟩ := id f15_fA_b1
  have hin17 : ¬ ((7 : Int32) < 0 ∨ cl17.slots.size ≤ ((7 : Int32)).toNatClampNeg) := inb_of Sz17 ⟨by decide, by decide⟩
  obtain ⟨T17, h17, X17, e17, W17, st17⟩ := stR X16 hx hZ e16 Ar17 (j := (7 : Int32)) hin17 rfl (Sto.ofV Ar17 qa17 O1 (Ins.self K15.2.2.2.2.2.2.2.2.2.2.2.2.2.2.2.1)) (g := (mkF m 54 #[.val (.int u0), .unset, .unset, .unset, .unset, .unset] [(.ref (w 7)), (.int (7 : Int32)), (.ref b1), (.ref b1)])) rfl rfl (hb hby at_54)
  have f17_fA_b1 : Arv Z h17 b1 k1 (.object "com/example/licon/licon/search/Operator") (8 : Int32) [(.ref (w 0)), (.ref (w 1)), (.ref (w 2)), (.ref (w 3)), (.ref (w 4)), (.ref (w 5)), (.ref (w 6)), (.ref (w 7))] .null := Arv.set Ar17 qa17 Sz17 Nn17 Ha17 Ga17 rfl W17 7 rfl (Nat.le_of_ble_eq_true rfl)
  have K17 := K15.wr W17 hKN1
  have Z17 : n0 ≤ h17.size := Nat.le_trans Z15 (Nat.le_of_eq W17.size.symm)
  have N17 := Fr.snoc X17 N15 hG1
  obtain ⟨cl18, Ar18, qa18, Sz18, Nn18, Ha18, Ga18⟩ := id f17_fA_b1
  have hin18 : ¬ ((2 : Int32) < 0 ∨ cl18.slots.size ≤ ((2 : Int32)).toNatClampNeg) := inb_of Sz18 ⟨by decide, by decide⟩
  have hat18 : cl18.slots[((2 : Int32)).toNatClampNeg]? = some (.ref (w 2)) := Has.at Ha18 hin18 rfl
  obtain ⟨cq19, kq19, qa19, qb19, qc19⟩ := isOf hZ e17 K17.2.2.2.2.2.2.2.2.2.2.1
  obtain ⟨_, _, ⟨T19, L19, kk19, n19⟩, -, X19, ⟨Lc19, hQ19, l19, y19, z19⟩, st19⟩ := X17.virtualBack hx (y := (⟨"com/example/licon/licon/search/Operator", "comparesText", "()Z"⟩ : MethodName)) (z := (⟨"com/example/licon/licon/search/Operator", "comparesText", "()Z"⟩ : MethodName)) hown (mvT hZ (hw _ (List.mem_of_getElem? (i := 20) rfl))) (mvT hZ (hw _ (List.mem_of_getElem? (i := 21) rfl))) (notFace_of_selects (args := #[]) (mvT hZ (hw _ (List.mem_of_getElem? (i := 23) rfl)))) (mvT hZ (hw _ (List.mem_of_getElem? (i := 23) rfl))) (mvT hZ (hw _ (List.mem_of_getElem? (i := 22) rfl))) (by decide) (backOf (W := 0) (rm_comparesText_5 l Z a0 hw w κ h17 n0 Z17 K17 u0 b1 k1) hZ (hw _ (List.mem_of_getElem? (i := 24) rfl)) (hw _ (List.mem_of_getElem? (i := 3) rfl)) (by decide) (by decide)) qa19 qc19 (g := (mkF m 83 #[.val (.int u0), .val (.ref b1), .val (.int (2 : Int32)), .val (.ref (w 2)), .val (.int (1 : Int32)), .unset] [(.ref (w 2))])) rfl (by rw [hml]; rfl) (Steps.refl _) (argsL := []) (rest := []) (lenOf pd_2829Z rfl) rfl (by show 2 * 0 + _ ≤ _; exact Nat.le_of_eq rfl) (hb hby at_83) (fun _ _ => ⟨rfl, e17, (by decide : 1 + 0 ≤ _), (by decide : 8 + 0 ≤ _)⟩)
  dsimp only [Pt.U, Pt.locs, Pt.cells, Pt.slots] at X19 l19 y19 z19 st19 hQ19
  subst l19 y19 z19
  obtain ⟨rfl, N19q, e19⟩ := hQ19
  have N19 := Fr.app N17 N19q
  obtain ⟨cq20, kq20, qa20, qb20, qc20⟩ := isOf hZ e19 K17.2.2.2.2.2.2.2.2.2.2.1
  obtain ⟨_, _, ⟨T20, L20, kk20, n20⟩, -, X20, ⟨Lc20, hQ20, l20, y20, z20⟩, st20⟩ := X19.virtualBack hx (y := (⟨"com/example/licon/licon/search/Operator", "takes", "(I)Z"⟩ : MethodName)) (z := (⟨"com/example/licon/licon/search/Operator", "takes", "(I)Z"⟩ : MethodName)) hown (mvT hZ (hw _ (List.mem_of_getElem? (i := 27) rfl))) (mvT hZ (hw _ (List.mem_of_getElem? (i := 28) rfl))) (notFace_of_selects (args := #[]) (mvT hZ (hw _ (List.mem_of_getElem? (i := 30) rfl)))) (mvT hZ (hw _ (List.mem_of_getElem? (i := 30) rfl))) (mvT hZ (hw _ (List.mem_of_getElem? (i := 29) rfl))) (by decide) (backOf (W := 0) (rm_takes_6 l Z a0 hw w κ h17 n0 Z17 K17 u0 b1 k1) hZ (hw _ (List.mem_of_getElem? (i := 31) rfl)) (hw _ (List.mem_of_getElem? (i := 3) rfl)) (by decide) (by decide)) qa20 qc20 (g := (mkF m 104 #[.val (.int u0), .val (.ref b1), .val (.int (2 : Int32)), .val (.ref (w 2)), .val (.int (1 : Int32)), .val (.int (1 : Int32))] [(.int (1 : Int32)), (.ref (w 2))])) rfl (by rw [hml]; rfl) (Steps.refl _) (argsL := [(.int (1 : Int32))]) (rest := []) (lenOf pd_28I29Z rfl) rfl (by show 2 * 0 + _ ≤ _; exact Nat.le_of_eq rfl) (hb hby at_104) (fun _ _ => ⟨rfl, e19, (by decide : 1 + 0 ≤ _), (by decide : 8 + 0 ≤ _)⟩)
  dsimp only [Pt.U, Pt.locs, Pt.cells, Pt.slots] at X20 l20 y20 z20 st20 hQ20
  subst l20 y20 z20
  obtain ⟨rfl, N20q, e20⟩ := hQ20
  have N20 := Fr.app N19 N20q
  obtain ⟨cq21, kq21, qa21, qb21, qc21⟩ := isOf hZ e20 K17.2.2.2.2.2.2.2.2.2.2.1
  obtain ⟨_, _, ⟨T21, L21, kk21, n21⟩, -, X21, ⟨Lc21, hQ21, l21, y21, z21⟩, st21⟩ := X20.virtualBack hx (y := (⟨"com/example/licon/licon/search/Operator", "takes", "(I)Z"⟩ : MethodName)) (z := (⟨"com/example/licon/licon/search/Operator", "takes", "(I)Z"⟩ : MethodName)) hown (mvT hZ (hw _ (List.mem_of_getElem? (i := 27) rfl))) (mvT hZ (hw _ (List.mem_of_getElem? (i := 28) rfl))) (notFace_of_selects (args := #[]) (mvT hZ (hw _ (List.mem_of_getElem? (i := 30) rfl)))) (mvT hZ (hw _ (List.mem_of_getElem? (i := 30) rfl))) (mvT hZ (hw _ (List.mem_of_getElem? (i := 29) rfl))) (by decide) (backOf (W := 0) (rm_takes_7 l Z a0 hw w κ h17 n0 Z17 K17 u0 b1 k1) hZ (hw _ (List.mem_of_getElem? (i := 31) rfl)) (hw _ (List.mem_of_getElem? (i := 3) rfl)) (by decide) (by decide)) qa21 qc21 (g := (mkF m 112 #[.val (.int u0), .val (.ref b1), .val (.int (2 : Int32)), .val (.ref (w 2)), .val (.int (1 : Int32)), .val (.int (1 : Int32))] [(.int (2 : Int32)), (.ref (w 2))])) rfl (by rw [hml]; rfl) (Steps.refl _) (argsL := [(.int (2 : Int32))]) (rest := []) (lenOf pd_28I29Z rfl) rfl (by show 2 * 0 + _ ≤ _; exact Nat.le_of_eq rfl) (hb hby at_112) (fun _ _ => ⟨rfl, e20, (by decide : 1 + 0 ≤ _), (by decide : 8 + 0 ≤ _)⟩)
  dsimp only [Pt.U, Pt.locs, Pt.cells, Pt.slots] at X21 l21 y21 z21 st21 hQ21
  subst l21 y21 z21
  obtain ⟨rfl, N21q, e21⟩ := hQ21
  have N21 := Fr.app N20 N21q
  obtain ⟨cq22, kq22, qa22, qb22, qc22⟩ := isOf hZ e21 K17.2.2.2.2.2.2.2.2.2.2.1
  obtain ⟨_, _, ⟨T22, L22, kk22, n22⟩, -, X22, ⟨Lc22, hQ22, l22, y22, z22⟩, st22⟩ := X21.virtualBack hx (y := (⟨"com/example/licon/licon/search/Operator", "negated", "()Z"⟩ : MethodName)) (z := (⟨"com/example/licon/licon/search/Operator", "negated", "()Z"⟩ : MethodName)) hown (mvT hZ (hw _ (List.mem_of_getElem? (i := 36) rfl))) (mvT hZ (hw _ (List.mem_of_getElem? (i := 37) rfl))) (notFace_of_selects (args := #[]) (mvT hZ (hw _ (List.mem_of_getElem? (i := 39) rfl)))) (mvT hZ (hw _ (List.mem_of_getElem? (i := 39) rfl))) (mvT hZ (hw _ (List.mem_of_getElem? (i := 38) rfl))) (by decide) (backOf (W := 0) (rm_negated_8 l Z a0 hw w κ h17 n0 Z17 K17 u0 b1 k1) hZ (hw _ (List.mem_of_getElem? (i := 40) rfl)) (hw _ (List.mem_of_getElem? (i := 3) rfl)) (by decide) (by decide)) qa22 qc22 (g := (mkF m 119 #[.val (.int u0), .val (.ref b1), .val (.int (2 : Int32)), .val (.ref (w 2)), .val (.int (1 : Int32)), .val (.int (1 : Int32))] [(.ref (w 2))])) rfl (by rw [hml]; rfl) (Steps.refl _) (argsL := []) (rest := []) (lenOf pd_2829Z rfl) rfl (by show 2 * 0 + _ ≤ _; exact Nat.le_of_eq rfl) (hb hby at_119) (fun _ _ => ⟨rfl, e21, (by decide : 1 + 0 ≤ _), (by decide : 8 + 0 ≤ _)⟩)
  dsimp only [Pt.U, Pt.locs, Pt.cells, Pt.slots] at X22 l22 y22 z22 st22 hQ22
  subst l22 y22 z22
  obtain ⟨rfl, N22q, e22⟩ := hQ22
  have N22 := Fr.app N21 N22q
  obtain ⟨fs, hr, hrun, hended, hW, hsame⟩ := X22.leave (v := (some (.int (1 : Int32)))) (fun h => by rw [Bd.returns] at h; cases h)
  refine ⟨_, _, pre0 _ ?_, hrun, hended, _, _, rfl, ?_, ⟨_, rfl⟩, hW, hsame.mono (by decide) (by decide)⟩
  · show Steps p.tables e below (s₁.setTop (mkF m 0 #[.val (.int u0), .unset, .unset, .unset, .unset, .unset] [])) _
    refine XS.bipush X0.here hx rfl (hb hby at_0) ?_
    show Steps p.tables e below (s₁.setTop (mkF m 2 #[.val (.int u0), .unset, .unset, .unset, .unset, .unset] [(.int (8 : Int32))])) _
    refine st1 _ ?_
    show Steps p.tables e below (T1.setTop (mkF m 5 #[.val (.int u0), .unset, .unset, .unset, .unset, .unset] [(.ref b1)])) _
    refine XS.dup X1.here hx rfl (hb hby at_5) rfl rfl ?_
    show Steps p.tables e below (T1.setTop (mkF m 6 #[.val (.int u0), .unset, .unset, .unset, .unset, .unset] [(.ref b1), (.ref b1)])) _
    refine XS.iconst X1.here hx rfl (hb hby at_6) ?_
    show Steps p.tables e below (T1.setTop (mkF m 7 #[.val (.int u0), .unset, .unset, .unset, .unset, .unset] [(.int (0 : Int32)), (.ref b1), (.ref b1)])) _
    refine st2 _ ?_
    show Steps p.tables e below (T2.setTop (mkF m 10 #[.val (.int u0), .unset, .unset, .unset, .unset, .unset] [(.ref (w 0)), (.int (0 : Int32)), (.ref b1), (.ref b1)])) _
    refine st3 _ ?_
    show Steps p.tables e below (T3.setTop (mkF m 11 #[.val (.int u0), .unset, .unset, .unset, .unset, .unset] [(.ref b1)])) _
    refine XS.dup X3.here hx rfl (hb hby at_11) rfl rfl ?_
    show Steps p.tables e below (T3.setTop (mkF m 12 #[.val (.int u0), .unset, .unset, .unset, .unset, .unset] [(.ref b1), (.ref b1)])) _
    refine XS.iconst X3.here hx rfl (hb hby at_12) ?_
    show Steps p.tables e below (T3.setTop (mkF m 13 #[.val (.int u0), .unset, .unset, .unset, .unset, .unset] [(.int (1 : Int32)), (.ref b1), (.ref b1)])) _
    refine st4 _ ?_
    show Steps p.tables e below (T4.setTop (mkF m 16 #[.val (.int u0), .unset, .unset, .unset, .unset, .unset] [(.ref (w 1)), (.int (1 : Int32)), (.ref b1), (.ref b1)])) _
    refine st5 _ ?_
    show Steps p.tables e below (T5.setTop (mkF m 17 #[.val (.int u0), .unset, .unset, .unset, .unset, .unset] [(.ref b1)])) _
    refine XS.dup X5.here hx rfl (hb hby at_17) rfl rfl ?_
    show Steps p.tables e below (T5.setTop (mkF m 18 #[.val (.int u0), .unset, .unset, .unset, .unset, .unset] [(.ref b1), (.ref b1)])) _
    refine XS.iconst X5.here hx rfl (hb hby at_18) ?_
    show Steps p.tables e below (T5.setTop (mkF m 19 #[.val (.int u0), .unset, .unset, .unset, .unset, .unset] [(.int (2 : Int32)), (.ref b1), (.ref b1)])) _
    refine st6 _ ?_
    show Steps p.tables e below (T6.setTop (mkF m 22 #[.val (.int u0), .unset, .unset, .unset, .unset, .unset] [(.ref (w 2)), (.int (2 : Int32)), (.ref b1), (.ref b1)])) _
    refine st7 _ ?_
    show Steps p.tables e below (T7.setTop (mkF m 23 #[.val (.int u0), .unset, .unset, .unset, .unset, .unset] [(.ref b1)])) _
    refine XS.dup X7.here hx rfl (hb hby at_23) rfl rfl ?_
    show Steps p.tables e below (T7.setTop (mkF m 24 #[.val (.int u0), .unset, .unset, .unset, .unset, .unset] [(.ref b1), (.ref b1)])) _
    refine XS.iconst X7.here hx rfl (hb hby at_24) ?_
    show Steps p.tables e below (T7.setTop (mkF m 25 #[.val (.int u0), .unset, .unset, .unset, .unset, .unset] [(.int (3 : Int32)), (.ref b1), (.ref b1)])) _
    refine st8 _ ?_
    show Steps p.tables e below (T8.setTop (mkF m 28 #[.val (.int u0), .unset, .unset, .unset, .unset, .unset] [(.ref (w 3)), (.int (3 : Int32)), (.ref b1), (.ref b1)])) _
    refine st9 _ ?_
    show Steps p.tables e below (T9.setTop (mkF m 29 #[.val (.int u0), .unset, .unset, .unset, .unset, .unset] [(.ref b1)])) _
    refine XS.dup X9.here hx rfl (hb hby at_29) rfl rfl ?_
    show Steps p.tables e below (T9.setTop (mkF m 30 #[.val (.int u0), .unset, .unset, .unset, .unset, .unset] [(.ref b1), (.ref b1)])) _
    refine XS.iconst X9.here hx rfl (hb hby at_30) ?_
    show Steps p.tables e below (T9.setTop (mkF m 31 #[.val (.int u0), .unset, .unset, .unset, .unset, .unset] [(.int (4 : Int32)), (.ref b1), (.ref b1)])) _
    refine st10 _ ?_
    show Steps p.tables e below (T10.setTop (mkF m 34 #[.val (.int u0), .unset, .unset, .unset, .unset, .unset] [(.ref (w 4)), (.int (4 : Int32)), (.ref b1), (.ref b1)])) _
    refine st11 _ ?_
    show Steps p.tables e below (T11.setTop (mkF m 35 #[.val (.int u0), .unset, .unset, .unset, .unset, .unset] [(.ref b1)])) _
    refine XS.dup X11.here hx rfl (hb hby at_35) rfl rfl ?_
    show Steps p.tables e below (T11.setTop (mkF m 36 #[.val (.int u0), .unset, .unset, .unset, .unset, .unset] [(.ref b1), (.ref b1)])) _
    refine XS.iconst X11.here hx rfl (hb hby at_36) ?_
    show Steps p.tables e below (T11.setTop (mkF m 37 #[.val (.int u0), .unset, .unset, .unset, .unset, .unset] [(.int (5 : Int32)), (.ref b1), (.ref b1)])) _
    refine st12 _ ?_
    show Steps p.tables e below (T12.setTop (mkF m 40 #[.val (.int u0), .unset, .unset, .unset, .unset, .unset] [(.ref (w 5)), (.int (5 : Int32)), (.ref b1), (.ref b1)])) _
    refine st13 _ ?_
    show Steps p.tables e below (T13.setTop (mkF m 41 #[.val (.int u0), .unset, .unset, .unset, .unset, .unset] [(.ref b1)])) _
    refine XS.dup X13.here hx rfl (hb hby at_41) rfl rfl ?_
    show Steps p.tables e below (T13.setTop (mkF m 42 #[.val (.int u0), .unset, .unset, .unset, .unset, .unset] [(.ref b1), (.ref b1)])) _
    refine XS.bipush X13.here hx rfl (hb hby at_42) ?_
    show Steps p.tables e below (T13.setTop (mkF m 44 #[.val (.int u0), .unset, .unset, .unset, .unset, .unset] [(.int (6 : Int32)), (.ref b1), (.ref b1)])) _
    refine st14 _ ?_
    show Steps p.tables e below (T14.setTop (mkF m 47 #[.val (.int u0), .unset, .unset, .unset, .unset, .unset] [(.ref (w 6)), (.int (6 : Int32)), (.ref b1), (.ref b1)])) _
    refine st15 _ ?_
    show Steps p.tables e below (T15.setTop (mkF m 48 #[.val (.int u0), .unset, .unset, .unset, .unset, .unset] [(.ref b1)])) _
    refine XS.dup X15.here hx rfl (hb hby at_48) rfl rfl ?_
    show Steps p.tables e below (T15.setTop (mkF m 49 #[.val (.int u0), .unset, .unset, .unset, .unset, .unset] [(.ref b1), (.ref b1)])) _
    refine XS.bipush X15.here hx rfl (hb hby at_49) ?_
    show Steps p.tables e below (T15.setTop (mkF m 51 #[.val (.int u0), .unset, .unset, .unset, .unset, .unset] [(.int (7 : Int32)), (.ref b1), (.ref b1)])) _
    refine st16 _ ?_
    show Steps p.tables e below (T16.setTop (mkF m 54 #[.val (.int u0), .unset, .unset, .unset, .unset, .unset] [(.ref (w 7)), (.int (7 : Int32)), (.ref b1), (.ref b1)])) _
    refine st17 _ ?_
    show Steps p.tables e below (T17.setTop (mkF m 55 #[.val (.int u0), .unset, .unset, .unset, .unset, .unset] [(.ref b1)])) _
    refine XS.astoreN X17.here hx rfl (hb hby at_55) rfl rfl (l' := #[.val (.int u0), .val (.ref b1), .unset, .unset, .unset, .unset]) rfl ?_
    show Steps p.tables e below (T17.setTop (mkF m 56 #[.val (.int u0), .val (.ref b1), .unset, .unset, .unset, .unset] [])) _
    refine XS.iloadN X17.here hx rfl (hb hby at_56) rfl ?_
    show Steps p.tables e below (T17.setTop (mkF m 57 #[.val (.int u0), .val (.ref b1), .unset, .unset, .unset, .unset] [(.int u0)])) _
    refine XS.bipush X17.here hx rfl (hb hby at_57) ?_
    show Steps p.tables e below (T17.setTop (mkF m 59 #[.val (.int u0), .val (.ref b1), .unset, .unset, .unset, .unset] [(.int (7 : Int32)), (.int u0)])) _
    refine XS.iand X17.here hx rfl (hb hby at_59) rfl ?_
    show Steps p.tables e below (T17.setTop (mkF m 60 #[.val (.int u0), .val (.ref b1), .unset, .unset, .unset, .unset] [(.int (u0 &&& (7 : Int32)))])) _
    rw [hk0]
    show Steps p.tables e below (T17.setTop (mkF m 60 #[.val (.int u0), .val (.ref b1), .unset, .unset, .unset, .unset] [(.int (2 : Int32))])) _
    refine XS.istoreN X17.here hx rfl (hb hby at_60) rfl (l' := #[.val (.int u0), .val (.ref b1), .val (.int (2 : Int32)), .unset, .unset, .unset]) rfl ?_
    show Steps p.tables e below (T17.setTop (mkF m 61 #[.val (.int u0), .val (.ref b1), .val (.int (2 : Int32)), .unset, .unset, .unset] [])) _
    refine XS.aloadN X17.here hx rfl (hb hby at_61) rfl rfl ?_
    show Steps p.tables e below (T17.setTop (mkF m 62 #[.val (.int u0), .val (.ref b1), .val (.int (2 : Int32)), .unset, .unset, .unset] [(.ref b1)])) _
    refine XS.iloadN X17.here hx rfl (hb hby at_62) rfl ?_
    show Steps p.tables e below (T17.setTop (mkF m 63 #[.val (.int u0), .val (.ref b1), .val (.int (2 : Int32)), .unset, .unset, .unset] [(.int (2 : Int32)), (.ref b1)])) _
    refine X17.aaload hx (j := (2 : Int32)) (v := (.ref (w 2))) (by rw [e17]; exact Ar18.1) (State.isArrayOf_alike hZ.alike Ar18.2.1) rfl Ar18.2.2 hin18 hat18 (g := (mkF m 63 #[.val (.int u0), .val (.ref b1), .val (.int (2 : Int32)), .unset, .unset, .unset] [(.int (2 : Int32)), (.ref b1)])) rfl rfl (hb hby at_63) _ ?_
    show Steps p.tables e below (T17.setTop (mkF m 64 #[.val (.int u0), .val (.ref b1), .val (.int (2 : Int32)), .unset, .unset, .unset] [(.ref (w 2))])) _
    refine XS.astoreN X17.here hx rfl (hb hby at_64) rfl rfl (l' := #[.val (.int u0), .val (.ref b1), .val (.int (2 : Int32)), .val (.ref (w 2)), .unset, .unset]) rfl ?_
    show Steps p.tables e below (T17.setTop (mkF m 65 #[.val (.int u0), .val (.ref b1), .val (.int (2 : Int32)), .val (.ref (w 2)), .unset, .unset] [])) _
    refine XS.iloadN X17.here hx rfl (hb hby at_65) rfl ?_
    show Steps p.tables e below (T17.setTop (mkF m 66 #[.val (.int u0), .val (.ref b1), .val (.int (2 : Int32)), .val (.ref (w 2)), .unset, .unset] [(.int (2 : Int32))])) _
    refine XS.iconst X17.here hx rfl (hb hby at_66) ?_
    show Steps p.tables e below (T17.setTop (mkF m 67 #[.val (.int u0), .val (.ref b1), .val (.int (2 : Int32)), .val (.ref (w 2)), .unset, .unset] [(.int (2 : Int32)), (.int (2 : Int32))])) _
    refine XS.icmpYes X17.here hx rfl (pc0 := 67) (pc' := 75) rfl (hb hby at_67) rfl (teq (by decide : (2 : Int32) = (2 : Int32))).1 (by decide) (by decide) ?_
    show Steps p.tables e below (T17.setTop (mkF m 75 #[.val (.int u0), .val (.ref b1), .val (.int (2 : Int32)), .val (.ref (w 2)), .unset, .unset] [])) _
    refine XS.iconst X17.here hx rfl (hb hby at_75) ?_
    show Steps p.tables e below (T17.setTop (mkF m 76 #[.val (.int u0), .val (.ref b1), .val (.int (2 : Int32)), .val (.ref (w 2)), .unset, .unset] [(.int (1 : Int32))])) _
    refine XS.goto X17.here hx rfl (pc0 := 76) (pc' := 80) rfl (hb hby at_76) (by decide) (by decide) ?_
    show Steps p.tables e below (T17.setTop (mkF m 80 #[.val (.int u0), .val (.ref b1), .val (.int (2 : Int32)), .val (.ref (w 2)), .unset, .unset] [(.int (1 : Int32))])) _
    refine XS.istore X17.here hx rfl (hb hby at_80) rfl (l' := #[.val (.int u0), .val (.ref b1), .val (.int (2 : Int32)), .val (.ref (w 2)), .val (.int (1 : Int32)), .unset]) rfl ?_
    show Steps p.tables e below (T17.setTop (mkF m 82 #[.val (.int u0), .val (.ref b1), .val (.int (2 : Int32)), .val (.ref (w 2)), .val (.int (1 : Int32)), .unset] [])) _
    refine XS.aloadN X17.here hx rfl (hb hby at_82) rfl rfl ?_
    show Steps p.tables e below (T17.setTop (mkF m 83 #[.val (.int u0), .val (.ref b1), .val (.int (2 : Int32)), .val (.ref (w 2)), .val (.int (1 : Int32)), .unset] [(.ref (w 2))])) _
    refine st19.trans ?_
    show Steps p.tables e below (T19.setTop (mkF m 86 #[.val (.int u0), .val (.ref b1), .val (.int (2 : Int32)), .val (.ref (w 2)), .val (.int (1 : Int32)), .unset] [(.int (1 : Int32))])) _
    refine XS.istore X19.here hx rfl (hb hby at_86) rfl (l' := #[.val (.int u0), .val (.ref b1), .val (.int (2 : Int32)), .val (.ref (w 2)), .val (.int (1 : Int32)), .val (.int (1 : Int32))]) rfl ?_
    show Steps p.tables e below (T19.setTop (mkF m 88 #[.val (.int u0), .val (.ref b1), .val (.int (2 : Int32)), .val (.ref (w 2)), .val (.int (1 : Int32)), .val (.int (1 : Int32))] [])) _
    refine XS.iload X19.here hx rfl (hb hby at_88) rfl ?_
    show Steps p.tables e below (T19.setTop (mkF m 90 #[.val (.int u0), .val (.ref b1), .val (.int (2 : Int32)), .val (.ref (w 2)), .val (.int (1 : Int32)), .val (.int (1 : Int32))] [(.int (1 : Int32))])) _
    refine XS.iload X19.here hx rfl (hb hby at_90) rfl ?_
    show Steps p.tables e below (T19.setTop (mkF m 92 #[.val (.int u0), .val (.ref b1), .val (.int (2 : Int32)), .val (.ref (w 2)), .val (.int (1 : Int32)), .val (.int (1 : Int32))] [(.int (1 : Int32)), (.int (1 : Int32))])) _
    refine XS.icmpYes X19.here hx rfl (pc0 := 92) (pc' := 97) rfl (hb hby at_92) rfl (teq (by decide : (1 : Int32) = (1 : Int32))).1 (by decide) (by decide) ?_
    show Steps p.tables e below (T19.setTop (mkF m 97 #[.val (.int u0), .val (.ref b1), .val (.int (2 : Int32)), .val (.ref (w 2)), .val (.int (1 : Int32)), .val (.int (1 : Int32))] [])) _
    refine XS.iload X19.here hx rfl (hb hby at_97) rfl ?_
    show Steps p.tables e below (T19.setTop (mkF m 99 #[.val (.int u0), .val (.ref b1), .val (.int (2 : Int32)), .val (.ref (w 2)), .val (.int (1 : Int32)), .val (.int (1 : Int32))] [(.int (1 : Int32))])) _
    refine XS.ifNo X19.here hx rfl (hb hby at_99) rfl ((if0 _ _).trans (feq (by decide : ¬ ((1 : Int32) = (0 : Int32)))).1) ?_
    show Steps p.tables e below (T19.setTop (mkF m 102 #[.val (.int u0), .val (.ref b1), .val (.int (2 : Int32)), .val (.ref (w 2)), .val (.int (1 : Int32)), .val (.int (1 : Int32))] [])) _
    refine XS.aloadN X19.here hx rfl (hb hby at_102) rfl rfl ?_
    show Steps p.tables e below (T19.setTop (mkF m 103 #[.val (.int u0), .val (.ref b1), .val (.int (2 : Int32)), .val (.ref (w 2)), .val (.int (1 : Int32)), .val (.int (1 : Int32))] [(.ref (w 2))])) _
    refine XS.iconst X19.here hx rfl (hb hby at_103) ?_
    show Steps p.tables e below (T19.setTop (mkF m 104 #[.val (.int u0), .val (.ref b1), .val (.int (2 : Int32)), .val (.ref (w 2)), .val (.int (1 : Int32)), .val (.int (1 : Int32))] [(.int (1 : Int32)), (.ref (w 2))])) _
    refine st20.trans ?_
    show Steps p.tables e below (T20.setTop (mkF m 107 #[.val (.int u0), .val (.ref b1), .val (.int (2 : Int32)), .val (.ref (w 2)), .val (.int (1 : Int32)), .val (.int (1 : Int32))] [(.int (1 : Int32))])) _
    refine XS.ifNo X20.here hx rfl (hb hby at_107) rfl ((if0 _ _).trans (feq (by decide : ¬ ((1 : Int32) = (0 : Int32)))).1) ?_
    show Steps p.tables e below (T20.setTop (mkF m 110 #[.val (.int u0), .val (.ref b1), .val (.int (2 : Int32)), .val (.ref (w 2)), .val (.int (1 : Int32)), .val (.int (1 : Int32))] [])) _
    refine XS.aloadN X20.here hx rfl (hb hby at_110) rfl rfl ?_
    show Steps p.tables e below (T20.setTop (mkF m 111 #[.val (.int u0), .val (.ref b1), .val (.int (2 : Int32)), .val (.ref (w 2)), .val (.int (1 : Int32)), .val (.int (1 : Int32))] [(.ref (w 2))])) _
    refine XS.iconst X20.here hx rfl (hb hby at_111) ?_
    show Steps p.tables e below (T20.setTop (mkF m 112 #[.val (.int u0), .val (.ref b1), .val (.int (2 : Int32)), .val (.ref (w 2)), .val (.int (1 : Int32)), .val (.int (1 : Int32))] [(.int (2 : Int32)), (.ref (w 2))])) _
    refine st21.trans ?_
    show Steps p.tables e below (T21.setTop (mkF m 115 #[.val (.int u0), .val (.ref b1), .val (.int (2 : Int32)), .val (.ref (w 2)), .val (.int (1 : Int32)), .val (.int (1 : Int32))] [(.int (0 : Int32))])) _
    refine XS.ifNo X21.here hx rfl (hb hby at_115) rfl ((if0 _ _).trans (teq (by decide : (0 : Int32) = (0 : Int32))).2) ?_
    show Steps p.tables e below (T21.setTop (mkF m 118 #[.val (.int u0), .val (.ref b1), .val (.int (2 : Int32)), .val (.ref (w 2)), .val (.int (1 : Int32)), .val (.int (1 : Int32))] [])) _
    refine XS.aloadN X21.here hx rfl (hb hby at_118) rfl rfl ?_
    show Steps p.tables e below (T21.setTop (mkF m 119 #[.val (.int u0), .val (.ref b1), .val (.int (2 : Int32)), .val (.ref (w 2)), .val (.int (1 : Int32)), .val (.int (1 : Int32))] [(.ref (w 2))])) _
    refine st22.trans ?_
    show Steps p.tables e below (T22.setTop (mkF m 122 #[.val (.int u0), .val (.ref b1), .val (.int (2 : Int32)), .val (.ref (w 2)), .val (.int (1 : Int32)), .val (.int (1 : Int32))] [(.int (0 : Int32))])) _
    refine XS.ifNo X22.here hx rfl (hb hby at_122) rfl ((if0 _ _).trans (teq (by decide : (0 : Int32) = (0 : Int32))).2) ?_
    show Steps p.tables e below (T22.setTop (mkF m 125 #[.val (.int u0), .val (.ref b1), .val (.int (2 : Int32)), .val (.ref (w 2)), .val (.int (1 : Int32)), .val (.int (1 : Int32))] [])) _
    refine XS.iconst X22.here hx rfl (hb hby at_125) ?_
    show Steps p.tables e below (T22.setTop (mkF m 126 #[.val (.int u0), .val (.ref b1), .val (.int (2 : Int32)), .val (.ref (w 2)), .val (.int (1 : Int32)), .val (.int (1 : Int32))] [(.int (1 : Int32))])) _
    refine XS.goto X22.here hx rfl (pc0 := 126) (pc' := 130) rfl (hb hby at_126) (by decide) (by decide) ?_
    show Steps p.tables e below (T22.setTop (mkF m 130 #[.val (.int u0), .val (.ref b1), .val (.int (2 : Int32)), .val (.ref (w 2)), .val (.int (1 : Int32)), .val (.int (1 : Int32))] [(.int (1 : Int32))])) _
    exact retN X22 hx (t := .boolean) Bd.returns (by simp) (hb hby at_130) hr
  · exact ⟨rfl, N22⟩
set_option maxRecDepth 65536 in
set_option maxHeartbeats 40000000 in
theorem rm_comparesText_10 (l : Launch) (Z : State) (a0 : Array Value) (hw : ∀ d ∈ tables_1, d.before a0 Z = true) (w : Nat → Addr) (κ : Nat → ClassId) (h0 : Heap) (n0 : Nat) (Z0 : n0 ≤ h0.size) (K : Kon Z h0 w κ) (u0 : Int32) (b1 : Addr) (k1 : ClassId) :
    OM l Z (⟨"com/example/licon/licon/search/Operator", "comparesText", "()Z"⟩ : MethodName) prog_9_method_6_code 1 (some .boolean) [] ({ frames := 0, cells := 0, slots := 0, locals := 0 } : Room) #[(.ref (w 3))] h0 (OP (some (.int (1 : Int32))) n0 h0) := by
  refine MetFree.of_bodySF (plainFor_of_name pn_com_example_licon_licon_search_Operator) hisR ?_
  intro p e s m args below meth c s₁ Bd hml0 hP hK
  obtain ⟨rfl, hZ, hh⟩ := hP
  have hx := Bd.exec
  have hby := Bd.bytes
  have hml : c.maxLocals = 1 := hml0
  have hown : s.vm.findClass "com/example/licon/licon/search/Operator" = some m.cls := findClass_of_methodNamed Bd.named
  have hnm := (name_of_methodNamed Bd.named Bd.method).1
  have X0 : Stand p l e ({ frames := 0, cells := 0, slots := 0, locals := 0 } : Room) s m #[(.ref (w 3))] below meth c s₁ [] 0 0 := Stand.of_body Bd
  have e0 : s₁.heap = h0 := by rw [← hh, Bd.state]; rfl
  have N0 := Fr.nil n0
  have pre0 : ∀ t, Steps p.tables e below (s₁.setTop (mkF m 0 #[.val (.ref (w 3))] [])) t → Steps p.tables e below (s₁.setTop (entryFrame m #[(.ref (w 3))] 1)) t := fun t k => castTop (by first | rfl | simp [entryFrame, mkF, argsToLocals, Value.category]) k
  obtain ⟨T1, X1, e1, st1⟩ := getS2 X0 hx hZ hown (host := "") (Or.inl (hw _ (List.mem_of_getElem? (i := 25) rfl))) Via.refl e0 K.2.2.1 (g := (mkF m 1 #[.val (.ref (w 3))] [(.ref (w 3))])) rfl (hb hby d_prog_9_method_6_code_1)
  obtain ⟨T2, X2, e2, st2⟩ := getS2 X1 hx hZ hown (host := "") (Or.inl (hw _ (List.mem_of_getElem? (i := 26) rfl))) Via.refl e1 K.2.2.2.1 (g := (mkF m 8 #[.val (.ref (w 3))] [(.ref (w 3))])) rfl (hb hby d_prog_9_method_6_code_8)
  obtain ⟨fs, hr, hrun, hended, hW, hsame⟩ := X2.leave (v := (some (.int (1 : Int32)))) (fun h => by rw [Bd.returns] at h; cases h)
  refine ⟨_, _, pre0 _ ?_, hrun, hended, _, _, rfl, ?_, ⟨_, rfl⟩, hW, hsame.mono (by decide) (by decide)⟩
  · show Steps p.tables e below (s₁.setTop (mkF m 0 #[.val (.ref (w 3))] [])) _
    refine XS.aloadN X0.here hx rfl (hb hby d_prog_9_method_6_code_0) rfl rfl ?_
    show Steps p.tables e below (s₁.setTop (mkF m 1 #[.val (.ref (w 3))] [(.ref (w 3))])) _
    refine st1 _ ?_
    show Steps p.tables e below (T1.setTop (mkF m 4 #[.val (.ref (w 3))] [(.ref (w 2)), (.ref (w 3))])) _
    refine Jvm.RoadKit.acmp (g := (mkF m 4 #[.val (.ref (w 3))] [(.ref (w 2)), (.ref (w 3))])) X1 hx rfl rfl rfl (pc0 := 4) (pc' := 7) (same := false) rfl (hb hby d_prog_9_method_6_code_4) rfl (decide_eq_false fun q => (K.2.2.2.2.2.2.2.2.2.2.2.2.2.2.2.2.2.2.1.ne K.2.2.2.2.2.2.2.2.2.2.2.2.2.2.2.2.2.1 (by decide)) (Value.ref.inj q)) (by decide) (by decide) ?_
    show Steps p.tables e below (T1.setTop (mkF m 7 #[.val (.ref (w 3))] [])) _
    refine XS.aloadN X1.here hx rfl (hb hby d_prog_9_method_6_code_7) rfl rfl ?_
    show Steps p.tables e below (T1.setTop (mkF m 8 #[.val (.ref (w 3))] [(.ref (w 3))])) _
    refine st2 _ ?_
    show Steps p.tables e below (T2.setTop (mkF m 11 #[.val (.ref (w 3))] [(.ref (w 3)), (.ref (w 3))])) _
    refine Jvm.RoadKit.acmp (g := (mkF m 11 #[.val (.ref (w 3))] [(.ref (w 3)), (.ref (w 3))])) X2 hx rfl rfl rfl (pc0 := 11) (pc' := 14) (same := true) rfl (hb hby d_prog_9_method_6_code_11) rfl (decide_eq_true rfl) (by decide) (by decide) ?_
    show Steps p.tables e below (T2.setTop (mkF m 14 #[.val (.ref (w 3))] [])) _
    refine XS.iconst X2.here hx rfl (hb hby d_prog_9_method_6_code_14) ?_
    show Steps p.tables e below (T2.setTop (mkF m 15 #[.val (.ref (w 3))] [(.int (1 : Int32))])) _
    refine XS.goto X2.here hx rfl (pc0 := 15) (pc' := 19) rfl (hb hby d_prog_9_method_6_code_15) (by decide) (by decide) ?_
    show Steps p.tables e below (T2.setTop (mkF m 19 #[.val (.ref (w 3))] [(.int (1 : Int32))])) _
    exact retN X2 hx (t := .boolean) Bd.returns (by simp) (hb hby d_prog_9_method_6_code_19) hr
  · exact ⟨rfl, N0, e2⟩
set_option maxRecDepth 65536 in
set_option maxHeartbeats 40000000 in
theorem rm_takes_11 (l : Launch) (Z : State) (a0 : Array Value) (hw : ∀ d ∈ tables_1, d.before a0 Z = true) (w : Nat → Addr) (κ : Nat → ClassId) (h0 : Heap) (n0 : Nat) (Z0 : n0 ≤ h0.size) (K : Kon Z h0 w κ) (u0 : Int32) (b1 : Addr) (k1 : ClassId) :
    OM l Z (⟨"com/example/licon/licon/search/Operator", "takes", "(I)Z"⟩ : MethodName) prog_9_method_4_code 2 (some .boolean) [] ({ frames := 0, cells := 0, slots := 0, locals := 0 } : Room) #[(.ref (w 3)), (.int (1 : Int32))] h0 (OP (some (.int (1 : Int32))) n0 h0) := by
  refine MetFree.of_bodySF (plainFor_of_name pn_com_example_licon_licon_search_Operator) hisR ?_
  intro p e s m args below meth c s₁ Bd hml0 hP hK
  obtain ⟨rfl, hZ, hh⟩ := hP
  have hx := Bd.exec
  have hby := Bd.bytes
  have hml : c.maxLocals = 2 := hml0
  have hown : s.vm.findClass "com/example/licon/licon/search/Operator" = some m.cls := findClass_of_methodNamed Bd.named
  have hnm := (name_of_methodNamed Bd.named Bd.method).1
  have X0 : Stand p l e ({ frames := 0, cells := 0, slots := 0, locals := 0 } : Room) s m #[(.ref (w 3)), (.int (1 : Int32))] below meth c s₁ [] 0 0 := Stand.of_body Bd
  have e0 : s₁.heap = h0 := by rw [← hh, Bd.state]; rfl
  have N0 := Fr.nil n0
  have pre0 : ∀ t, Steps p.tables e below (s₁.setTop (mkF m 0 #[.val (.ref (w 3)), .val (.int (1 : Int32))] [])) t → Steps p.tables e below (s₁.setTop (entryFrame m #[(.ref (w 3)), (.int (1 : Int32))] 2)) t := fun t k => castTop (by first | rfl | simp [entryFrame, mkF, argsToLocals, Value.category]) k
  obtain ⟨T1, X1, e1, st1⟩ := getF X0 hx hZ hown (host := "") (Or.inl (hw _ (List.mem_of_getElem? (i := 32) rfl))) Via.refl e0 K.2.2.2.2.2.2.2.2.2.2.2.2.2.2.2.2.2.2.2.1 (g := (mkF m 2 #[.val (.ref (w 3)), .val (.int (1 : Int32))] [(.ref (w 3)), (.int (1 : Int32))])) rfl rfl (hb hby d_prog_9_method_4_code_2)
  obtain ⟨T2, X2, e2, st2⟩ := getF X1 hx hZ hown (host := "") (Or.inl (hw _ (List.mem_of_getElem? (i := 34) rfl))) Via.refl e1 K.2.2.2.2.2.2.2.2.2.2.2.2.2.2.2.2.2.2.2.2.1 (g := (mkF m 10 #[.val (.ref (w 3)), .val (.int (1 : Int32))] [(.ref (w 3)), (.int (1 : Int32))])) rfl rfl (hb hby d_prog_9_method_4_code_10)
  obtain ⟨fs, hr, hrun, hended, hW, hsame⟩ := X2.leave (v := (some (.int (1 : Int32)))) (fun h => by rw [Bd.returns] at h; cases h)
  refine ⟨_, _, pre0 _ ?_, hrun, hended, _, _, rfl, ?_, ⟨_, rfl⟩, hW, hsame.mono (by decide) (by decide)⟩
  · show Steps p.tables e below (s₁.setTop (mkF m 0 #[.val (.ref (w 3)), .val (.int (1 : Int32))] [])) _
    refine XS.iloadN X0.here hx rfl (hb hby d_prog_9_method_4_code_0) rfl ?_
    show Steps p.tables e below (s₁.setTop (mkF m 1 #[.val (.ref (w 3)), .val (.int (1 : Int32))] [(.int (1 : Int32))])) _
    refine XS.aloadN X0.here hx rfl (hb hby d_prog_9_method_4_code_1) rfl rfl ?_
    show Steps p.tables e below (s₁.setTop (mkF m 2 #[.val (.ref (w 3)), .val (.int (1 : Int32))] [(.ref (w 3)), (.int (1 : Int32))])) _
    refine st1 _ ?_
    show Steps p.tables e below (T1.setTop (mkF m 5 #[.val (.ref (w 3)), .val (.int (1 : Int32))] [(.int (1 : Int32)), (.int (1 : Int32))])) _
    refine XS.icmpNo X1.here hx rfl (hb hby d_prog_9_method_4_code_5) rfl (flt (by decide : ¬ ((1 : Int32) < (1 : Int32)))).1 ?_
    show Steps p.tables e below (T1.setTop (mkF m 8 #[.val (.ref (w 3)), .val (.int (1 : Int32))] [])) _
    refine XS.iloadN X1.here hx rfl (hb hby d_prog_9_method_4_code_8) rfl ?_
    show Steps p.tables e below (T1.setTop (mkF m 9 #[.val (.ref (w 3)), .val (.int (1 : Int32))] [(.int (1 : Int32))])) _
    refine XS.aloadN X1.here hx rfl (hb hby d_prog_9_method_4_code_9) rfl rfl ?_
    show Steps p.tables e below (T1.setTop (mkF m 10 #[.val (.ref (w 3)), .val (.int (1 : Int32))] [(.ref (w 3)), (.int (1 : Int32))])) _
    refine st2 _ ?_
    show Steps p.tables e below (T2.setTop (mkF m 13 #[.val (.ref (w 3)), .val (.int (1 : Int32))] [(.int (1 : Int32)), (.int (1 : Int32))])) _
    refine XS.icmpNo X2.here hx rfl (hb hby d_prog_9_method_4_code_13) rfl (flt (by decide : ¬ ((1 : Int32) < (1 : Int32)))).2.2.1 ?_
    show Steps p.tables e below (T2.setTop (mkF m 16 #[.val (.ref (w 3)), .val (.int (1 : Int32))] [])) _
    refine XS.iconst X2.here hx rfl (hb hby d_prog_9_method_4_code_16) ?_
    show Steps p.tables e below (T2.setTop (mkF m 17 #[.val (.ref (w 3)), .val (.int (1 : Int32))] [(.int (1 : Int32))])) _
    refine XS.goto X2.here hx rfl (pc0 := 17) (pc' := 21) rfl (hb hby d_prog_9_method_4_code_17) (by decide) (by decide) ?_
    show Steps p.tables e below (T2.setTop (mkF m 21 #[.val (.ref (w 3)), .val (.int (1 : Int32))] [(.int (1 : Int32))])) _
    exact retN X2 hx (t := .boolean) Bd.returns (by simp) (hb hby d_prog_9_method_4_code_21) hr
  · exact ⟨rfl, N0, e2⟩
set_option maxRecDepth 65536 in
set_option maxHeartbeats 40000000 in
theorem rm_takes_12 (l : Launch) (Z : State) (a0 : Array Value) (hw : ∀ d ∈ tables_1, d.before a0 Z = true) (w : Nat → Addr) (κ : Nat → ClassId) (h0 : Heap) (n0 : Nat) (Z0 : n0 ≤ h0.size) (K : Kon Z h0 w κ) (u0 : Int32) (b1 : Addr) (k1 : ClassId) :
    OM l Z (⟨"com/example/licon/licon/search/Operator", "takes", "(I)Z"⟩ : MethodName) prog_9_method_4_code 2 (some .boolean) [] ({ frames := 0, cells := 0, slots := 0, locals := 0 } : Room) #[(.ref (w 3)), (.int (2 : Int32))] h0 (OP (some (.int (0 : Int32))) n0 h0) := by
  refine MetFree.of_bodySF (plainFor_of_name pn_com_example_licon_licon_search_Operator) hisR ?_
  intro p e s m args below meth c s₁ Bd hml0 hP hK
  obtain ⟨rfl, hZ, hh⟩ := hP
  have hx := Bd.exec
  have hby := Bd.bytes
  have hml : c.maxLocals = 2 := hml0
  have hown : s.vm.findClass "com/example/licon/licon/search/Operator" = some m.cls := findClass_of_methodNamed Bd.named
  have hnm := (name_of_methodNamed Bd.named Bd.method).1
  have X0 : Stand p l e ({ frames := 0, cells := 0, slots := 0, locals := 0 } : Room) s m #[(.ref (w 3)), (.int (2 : Int32))] below meth c s₁ [] 0 0 := Stand.of_body Bd
  have e0 : s₁.heap = h0 := by rw [← hh, Bd.state]; rfl
  have N0 := Fr.nil n0
  have pre0 : ∀ t, Steps p.tables e below (s₁.setTop (mkF m 0 #[.val (.ref (w 3)), .val (.int (2 : Int32))] [])) t → Steps p.tables e below (s₁.setTop (entryFrame m #[(.ref (w 3)), (.int (2 : Int32))] 2)) t := fun t k => castTop (by first | rfl | simp [entryFrame, mkF, argsToLocals, Value.category]) k
  obtain ⟨T1, X1, e1, st1⟩ := getF X0 hx hZ hown (host := "") (Or.inl (hw _ (List.mem_of_getElem? (i := 32) rfl))) Via.refl e0 K.2.2.2.2.2.2.2.2.2.2.2.2.2.2.2.2.2.2.2.1 (g := (mkF m 2 #[.val (.ref (w 3)), .val (.int (2 : Int32))] [(.ref (w 3)), (.int (2 : Int32))])) rfl rfl (hb hby d_prog_9_method_4_code_2)
  obtain ⟨T2, X2, e2, st2⟩ := getF X1 hx hZ hown (host := "") (Or.inl (hw _ (List.mem_of_getElem? (i := 34) rfl))) Via.refl e1 K.2.2.2.2.2.2.2.2.2.2.2.2.2.2.2.2.2.2.2.2.1 (g := (mkF m 10 #[.val (.ref (w 3)), .val (.int (2 : Int32))] [(.ref (w 3)), (.int (2 : Int32))])) rfl rfl (hb hby d_prog_9_method_4_code_10)
  obtain ⟨fs, hr, hrun, hended, hW, hsame⟩ := X2.leave (v := (some (.int (0 : Int32)))) (fun h => by rw [Bd.returns] at h; cases h)
  refine ⟨_, _, pre0 _ ?_, hrun, hended, _, _, rfl, ?_, ⟨_, rfl⟩, hW, hsame.mono (by decide) (by decide)⟩
  · show Steps p.tables e below (s₁.setTop (mkF m 0 #[.val (.ref (w 3)), .val (.int (2 : Int32))] [])) _
    refine XS.iloadN X0.here hx rfl (hb hby d_prog_9_method_4_code_0) rfl ?_
    show Steps p.tables e below (s₁.setTop (mkF m 1 #[.val (.ref (w 3)), .val (.int (2 : Int32))] [(.int (2 : Int32))])) _
    refine XS.aloadN X0.here hx rfl (hb hby d_prog_9_method_4_code_1) rfl rfl ?_
    show Steps p.tables e below (s₁.setTop (mkF m 2 #[.val (.ref (w 3)), .val (.int (2 : Int32))] [(.ref (w 3)), (.int (2 : Int32))])) _
    refine st1 _ ?_
    show Steps p.tables e below (T1.setTop (mkF m 5 #[.val (.ref (w 3)), .val (.int (2 : Int32))] [(.int (1 : Int32)), (.int (2 : Int32))])) _
    refine XS.icmpNo X1.here hx rfl (hb hby d_prog_9_method_4_code_5) rfl (flt (by decide : ¬ ((2 : Int32) < (1 : Int32)))).1 ?_
    show Steps p.tables e below (T1.setTop (mkF m 8 #[.val (.ref (w 3)), .val (.int (2 : Int32))] [])) _
    refine XS.iloadN X1.here hx rfl (hb hby d_prog_9_method_4_code_8) rfl ?_
    show Steps p.tables e below (T1.setTop (mkF m 9 #[.val (.ref (w 3)), .val (.int (2 : Int32))] [(.int (2 : Int32))])) _
    refine XS.aloadN X1.here hx rfl (hb hby d_prog_9_method_4_code_9) rfl rfl ?_
    show Steps p.tables e below (T1.setTop (mkF m 10 #[.val (.ref (w 3)), .val (.int (2 : Int32))] [(.ref (w 3)), (.int (2 : Int32))])) _
    refine st2 _ ?_
    show Steps p.tables e below (T2.setTop (mkF m 13 #[.val (.ref (w 3)), .val (.int (2 : Int32))] [(.int (1 : Int32)), (.int (2 : Int32))])) _
    refine XS.icmpYes X2.here hx rfl (pc0 := 13) (pc' := 20) rfl (hb hby d_prog_9_method_4_code_13) rfl (tlt (by decide : (1 : Int32) < (2 : Int32))).2.2.1 (by decide) (by decide) ?_
    show Steps p.tables e below (T2.setTop (mkF m 20 #[.val (.ref (w 3)), .val (.int (2 : Int32))] [])) _
    refine XS.iconst X2.here hx rfl (hb hby d_prog_9_method_4_code_20) ?_
    show Steps p.tables e below (T2.setTop (mkF m 21 #[.val (.ref (w 3)), .val (.int (2 : Int32))] [(.int (0 : Int32))])) _
    exact retN X2 hx (t := .boolean) Bd.returns (by simp) (hb hby d_prog_9_method_4_code_21) hr
  · exact ⟨rfl, N0, e2⟩
set_option maxRecDepth 65536 in
set_option maxHeartbeats 40000000 in
theorem rm_negated_13 (l : Launch) (Z : State) (a0 : Array Value) (hw : ∀ d ∈ tables_1, d.before a0 Z = true) (w : Nat → Addr) (κ : Nat → ClassId) (h0 : Heap) (n0 : Nat) (Z0 : n0 ≤ h0.size) (K : Kon Z h0 w κ) (u0 : Int32) (b1 : Addr) (k1 : ClassId) :
    OM l Z (⟨"com/example/licon/licon/search/Operator", "negated", "()Z"⟩ : MethodName) prog_9_method_7_code 1 (some .boolean) [] ({ frames := 0, cells := 0, slots := 0, locals := 0 } : Room) #[(.ref (w 3))] h0 (OP (some (.int (0 : Int32))) n0 h0) := by
  refine MetFree.of_bodySF (plainFor_of_name pn_com_example_licon_licon_search_Operator) hisR ?_
  intro p e s m args below meth c s₁ Bd hml0 hP hK
  obtain ⟨rfl, hZ, hh⟩ := hP
  have hx := Bd.exec
  have hby := Bd.bytes
  have hml : c.maxLocals = 1 := hml0
  have hown : s.vm.findClass "com/example/licon/licon/search/Operator" = some m.cls := findClass_of_methodNamed Bd.named
  have hnm := (name_of_methodNamed Bd.named Bd.method).1
  have X0 : Stand p l e ({ frames := 0, cells := 0, slots := 0, locals := 0 } : Room) s m #[(.ref (w 3))] below meth c s₁ [] 0 0 := Stand.of_body Bd
  have e0 : s₁.heap = h0 := by rw [← hh, Bd.state]; rfl
  have N0 := Fr.nil n0
  have pre0 : ∀ t, Steps p.tables e below (s₁.setTop (mkF m 0 #[.val (.ref (w 3))] [])) t → Steps p.tables e below (s₁.setTop (entryFrame m #[(.ref (w 3))] 1)) t := fun t k => castTop (by first | rfl | simp [entryFrame, mkF, argsToLocals, Value.category]) k
  obtain ⟨T1, X1, e1, st1⟩ := getF X0 hx hZ hown (host := "") (Or.inl (hw _ (List.mem_of_getElem? (i := 41) rfl))) Via.refl e0 K.2.2.2.2.2.2.2.2.2.2.2.2.2.2.2.2.2.2.2.2.2.1 (g := (mkF m 1 #[.val (.ref (w 3))] [(.ref (w 3))])) rfl rfl (hb hby d_prog_9_method_7_code_1)
  obtain ⟨fs, hr, hrun, hended, hW, hsame⟩ := X1.leave (v := (some (.int (0 : Int32)))) (fun h => by rw [Bd.returns] at h; cases h)
  refine ⟨_, _, pre0 _ ?_, hrun, hended, _, _, rfl, ?_, ⟨_, rfl⟩, hW, hsame.mono (by decide) (by decide)⟩
  · show Steps p.tables e below (s₁.setTop (mkF m 0 #[.val (.ref (w 3))] [])) _
    refine XS.aloadN X0.here hx rfl (hb hby d_prog_9_method_7_code_0) rfl rfl ?_
    show Steps p.tables e below (s₁.setTop (mkF m 1 #[.val (.ref (w 3))] [(.ref (w 3))])) _
    refine st1 _ ?_
    show Steps p.tables e below (T1.setTop (mkF m 4 #[.val (.ref (w 3))] [(.int (0 : Int32))])) _
    exact retN X1 hx (t := .boolean) Bd.returns (by simp) (hb hby d_prog_9_method_7_code_4) hr
  · exact ⟨rfl, N0, e1⟩
set_option maxRecDepth 65536 in
set_option maxHeartbeats 40000000 in
theorem rm0_14 (l : Launch) (Z : State) (a0 : Array Value) (hw : ∀ d ∈ tables_1, d.before a0 Z = true) (w : Nat → Addr) (κ : Nat → ClassId) (h0 : Heap) (n0 : Nat) (Z0 : n0 ≤ h0.size) (K : Kon Z h0 w κ) (u0 : Int32) (hk0 : (u0 &&& (7 : Int32)) = (3 : Int32)) :
    OM l Z x code maxLocals ret tables_1 room_1 #[(.int u0)] h0 (OF (some (.int (1 : Int32))) n0) := by
  refine MetFree.of_bodySF (plainFor_of_name pn_com_example_licon_licon_search_OperatorComparesTextPinLaw) hisR ?_
  intro p e s m args below meth c s₁ Bd hml0 hP hK
  obtain ⟨rfl, hZ, hh⟩ := hP
  have hx := Bd.exec
  have hby := Bd.bytes
  have hml : c.maxLocals = 6 := hml0
  have hown : s.vm.findClass "com/example/licon/licon/search/OperatorComparesTextPinLaw" = some m.cls := findClass_of_methodNamed Bd.named
  have hnm := (name_of_methodNamed Bd.named Bd.method).1
  have X0 : Stand p l e room_1 s m #[(.int u0)] below meth c s₁ [] 0 0 := Stand.of_body Bd
  have e0 : s₁.heap = h0 := by rw [← hh, Bd.state]; rfl
  have N0 := Fr.nil n0
  have pre0 : ∀ t, Steps p.tables e below (s₁.setTop (mkF m 0 #[.val (.int u0), .unset, .unset, .unset, .unset, .unset] [])) t → Steps p.tables e below (s₁.setTop (entryFrame m #[(.int u0)] maxLocals)) t := fun t k => castTop (by first | rfl | simp [entryFrame, mkF, argsToLocals, Value.category, maxLocals]) k
  obtain ⟨T1, h1, k1, X1, e1, E1, A1, O1, st1⟩ := newR X0 hx hZ hown (hw _ (List.mem_of_getElem? (i := 0) rfl)) (hw _ (List.mem_of_getElem? (i := 1) rfl)) e0 (g := (mkF m 2 #[.val (.int u0), .unset, .unset, .unset, .unset, .unset] [(.int (8 : Int32))])) rfl (hb hby at_2) rfl (by decide) (cap := 8) (by decide) (by decide) (by decide) (by decide)
  obtain ⟨b1, g1⟩ : ∃ z, z = h0.size := ⟨_, rfl⟩
  rw [← g1] at A1 st1
  have hG1 : n0 ≤ b1 := Nat.le_trans Z0 (Nat.le_of_eq g1.symm)
  have hKN1 : ∀ i, i < 8 → w i ≠ b1 := fun i hi => by rw [g1]; exact Nat.ne_of_lt (K.lt i hi)
  have K1 := K.ext E1
  have Z1 : n0 ≤ h1.size := Nat.le_trans Z0 E1.1
  have V1 : Arv Z h1 b1 k1 (.object "com/example/licon/licon/search/Operator") (8 : Int32) [.null, .null, .null, .null, .null, .null, .null, .null] .null := (Arv.new A1 (by decide)).pad (pad_rep [] .null 8)
  obtain ⟨T2, X2, e2, st2⟩ := getS2 X1 hx hZ hown (host := "") (Or.inl (hw _ (List.mem_of_getElem? (i := 2) rfl))) Via.refl e1 K1.1 (g := (mkF m 7 #[.val (.int u0), .unset, .unset, .unset, .unset, .unset] [(.int (0 : Int32)), (.ref b1), (.ref b1)])) rfl (hb hby at_7)
  obtain ⟨cl3, Ar3, qa3, Sz3, Nn3, Ha3, Ga3⟩ := id V1
  have hin3 : ¬ ((0 : Int32) < 0 ∨ cl3.slots.size ≤ ((0 : Int32)).toNatClampNeg) := inb_of Sz3 ⟨by decide, by decide⟩
  obtain ⟨T3, h3, X3, e3, W3, st3⟩ := stR X2 hx hZ e2 Ar3 (j := (0 : Int32)) hin3 rfl (Sto.ofV Ar3 qa3 O1 (Ins.self K1.2.2.2.2.2.2.2.2.1)) (g := (mkF m 10 #[.val (.int u0), .unset, .unset, .unset, .unset, .unset] [(.ref (w 0)), (.int (0 : Int32)), (.ref b1), (.ref b1)])) rfl rfl (hb hby at_10)
  have f3_fA_b1 : Arv Z h3 b1 k1 (.object "com/example/licon/licon/search/Operator") (8 : Int32) [(.ref (w 0)), .null, .null, .null, .null, .null, .null, .null] .null := Arv.set Ar3 qa3 Sz3 Nn3 Ha3 Ga3 rfl W3 0 rfl (Nat.le_of_ble_eq_true rfl)
  have K3 := K1.wr W3 hKN1
  have Z3 : n0 ≤ h3.size := Nat.le_trans Z1 (Nat.le_of_eq W3.size.symm)
  have N3 := Fr.snoc X3 N0 hG1
  obtain ⟨T4, X4, e4, st4⟩ := getS2 X3 hx hZ hown (host := "") (Or.inl (hw _ (List.mem_of_getElem? (i := 6) rfl))) Via.refl e3 K3.2.1 (g := (mkF m 13 #[.val (.int u0), .unset, .unset, .unset, .unset, .unset] [(.int (1 : Int32)), (.ref b1), (.ref b1)])) rfl (hb hby at_13)
  obtain ⟨cl5, Ar5, qa5, Sz5, Nn5, Ha5, Ga5⟩ := id f3_fA_b1
  have hin5 : ¬ ((1 : Int32) < 0 ∨ cl5.slots.size ≤ ((1 : Int32)).toNatClampNeg) := inb_of Sz5 ⟨by decide, by decide⟩
  obtain ⟨T5, h5, X5, e5, W5, st5⟩ := stR X4 hx hZ e4 Ar5 (j := (1 : Int32)) hin5 rfl (Sto.ofV Ar5 qa5 O1 (Ins.self K3.2.2.2.2.2.2.2.2.2.1)) (g := (mkF m 16 #[.val (.int u0), .unset, .unset, .unset, .unset, .unset] [(.ref (w 1)), (.int (1 : Int32)), (.ref b1), (.ref b1)])) rfl rfl (hb hby at_16)
  have f5_fA_b1 : Arv Z h5 b1 k1 (.object "com/example/licon/licon/search/Operator") (8 : Int32) [(.ref (w 0)), (.ref (w 1)), .null, .null, .null, .null, .null, .null] .null := Arv.set Ar5 qa5 Sz5 Nn5 Ha5 Ga5 rfl W5 1 rfl (Nat.le_of_ble_eq_true rfl)
  have K5 := K3.wr W5 hKN1
  have Z5 : n0 ≤ h5.size := Nat.le_trans Z3 (Nat.le_of_eq W5.size.symm)
  have N5 := Fr.snoc X5 N3 hG1
  obtain ⟨T6, X6, e6, st6⟩ := getS2 X5 hx hZ hown (host := "") (Or.inl (hw _ (List.mem_of_getElem? (i := 8) rfl))) Via.refl e5 K5.2.2.1 (g := (mkF m 19 #[.val (.int u0), .unset, .unset, .unset, .unset, .unset] [(.int (2 : Int32)), (.ref b1), (.ref b1)])) rfl (hb hby at_19)
  obtain ⟨cl7, Ar7, qa7, Sz7, Nn7, Ha7, Ga7⟩ := id f5_fA_b1
  have hin7 : ¬ ((2 : Int32) < 0 ∨ cl7.slots.size ≤ ((2 : Int32)).toNatClampNeg) := inb_of Sz7 ⟨by decide, by decide⟩
  obtain ⟨T7, h7, X7, e7, W7, st7⟩ := stR X6 hx hZ e6 Ar7 (j := (2 : Int32)) hin7 rfl (Sto.ofV Ar7 qa7 O1 (Ins.self K5.2.2.2.2.2.2.2.2.2.2.1)) (g := (mkF m 22 #[.val (.int u0), .unset, .unset, .unset, .unset, .unset] [(.ref (w 2)), (.int (2 : Int32)), (.ref b1), (.ref b1)])) rfl rfl (hb hby at_22)
  have f7_fA_b1 : Arv Z h7 b1 k1 (.object "com/example/licon/licon/search/Operator") (8 : Int32) [(.ref (w 0)), (.ref (w 1)), (.ref (w 2)), .null, .null, .null, .null, .null] .null := Arv.set Ar7 qa7 Sz7 Nn7 Ha7 Ga7 rfl W7 2 rfl (Nat.le_of_ble_eq_true rfl)
  have K7 := K5.wr W7 hKN1
  have Z7 : n0 ≤ h7.size := Nat.le_trans Z5 (Nat.le_of_eq W7.size.symm)
  have N7 := Fr.snoc X7 N5 hG1
  obtain ⟨T8, X8, e8, st8⟩ := getS2 X7 hx hZ hown (host := "") (Or.inl (hw _ (List.mem_of_getElem? (i := 10) rfl))) Via.refl e7 K7.2.2.2.1 (g := (mkF m 25 #[.val (.int u0), .unset, .unset, .unset, .unset, .unset] [(.int (3 : Int32)), (.ref b1), (.ref b1)])) rfl (hb hby at_25)
  obtain ⟨cl9, Ar9, qa9, Sz9, Nn9, Ha9, Ga9⟩ := id f7_fA_b1
  have hin9 : ¬ ((3 : Int32) < 0 ∨ cl9.slots.size ≤ ((3 : Int32)).toNatClampNeg) := inb_of Sz9 ⟨by decide, by decide⟩
  obtain ⟨T9, h9, X9, e9, W9, st9⟩ := stR X8 hx hZ e8 Ar9 (j := (3 : Int32)) hin9 rfl (Sto.ofV Ar9 qa9 O1 (Ins.self K7.2.2.2.2.2.2.2.2.2.2.2.1)) (g := (mkF m 28 #[.val (.int u0), .unset, .unset, .unset, .unset, .unset] [(.ref (w 3)), (.int (3 : Int32)), (.ref b1), (.ref b1)])) rfl rfl (hb hby at_28)
  have f9_fA_b1 : Arv Z h9 b1 k1 (.object "com/example/licon/licon/search/Operator") (8 : Int32) [(.ref (w 0)), (.ref (w 1)), (.ref (w 2)), (.ref (w 3)), .null, .null, .null, .null] .null := Arv.set Ar9 qa9 Sz9 Nn9 Ha9 Ga9 rfl W9 3 rfl (Nat.le_of_ble_eq_true rfl)
  have K9 := K7.wr W9 hKN1
  have Z9 : n0 ≤ h9.size := Nat.le_trans Z7 (Nat.le_of_eq W9.size.symm)
  have N9 := Fr.snoc X9 N7 hG1
  obtain ⟨T10, X10, e10, st10⟩ := getS2 X9 hx hZ hown (host := "") (Or.inl (hw _ (List.mem_of_getElem? (i := 12) rfl))) Via.refl e9 K9.2.2.2.2.1 (g := (mkF m 31 #[.val (.int u0), .unset, .unset, .unset, .unset, .unset] [(.int (4 : Int32)), (.ref b1), (.ref b1)])) rfl (hb hby at_31)
  obtain ⟨cl11, Ar11, qa11, Sz11, Nn11, Ha11, Ga11⟩ := id f9_fA_b1
  have hin11 : ¬ ((4 : Int32) < 0 ∨ cl11.slots.size ≤ ((4 : Int32)).toNatClampNeg) := inb_of Sz11 ⟨by decide, by decide⟩
  obtain ⟨T11, h11, X11, e11, W11, st11⟩ := stR X10 hx hZ e10 Ar11 (j := (4 : Int32)) hin11 rfl (Sto.ofV Ar11 qa11 O1 (Ins.self K9.2.2.2.2.2.2.2.2.2.2.2.2.1)) (g := (mkF m 34 #[.val (.int u0), .unset, .unset, .unset, .unset, .unset] [(.ref (w 4)), (.int (4 : Int32)), (.ref b1), (.ref b1)])) rfl rfl (hb hby at_34)
  have f11_fA_b1 : Arv Z h11 b1 k1 (.object "com/example/licon/licon/search/Operator") (8 : Int32) [(.ref (w 0)), (.ref (w 1)), (.ref (w 2)), (.ref (w 3)), (.ref (w 4)), .null, .null, .null] .null := Arv.set Ar11 qa11 Sz11 Nn11 Ha11 Ga11 rfl W11 4 rfl (Nat.le_of_ble_eq_true rfl)
  have K11 := K9.wr W11 hKN1
  have Z11 : n0 ≤ h11.size := Nat.le_trans Z9 (Nat.le_of_eq W11.size.symm)
  have N11 := Fr.snoc X11 N9 hG1
  obtain ⟨T12, X12, e12, st12⟩ := getS2 X11 hx hZ hown (host := "") (Or.inl (hw _ (List.mem_of_getElem? (i := 14) rfl))) Via.refl e11 K11.2.2.2.2.2.1 (g := (mkF m 37 #[.val (.int u0), .unset, .unset, .unset, .unset, .unset] [(.int (5 : Int32)), (.ref b1), (.ref b1)])) rfl (hb hby at_37)
  obtain ⟨cl13, Ar13, qa13, Sz13, Nn13, Ha13, Ga13⟩ := id f11_fA_b1
  have hin13 : ¬ ((5 : Int32) < 0 ∨ cl13.slots.size ≤ ((5 : Int32)).toNatClampNeg) := inb_of Sz13 ⟨by decide, by decide⟩
  obtain ⟨T13, h13, X13, e13, W13, st13⟩ := stR X12 hx hZ e12 Ar13 (j := (5 : Int32)) hin13 rfl (Sto.ofV Ar13 qa13 O1 (Ins.self K11.2.2.2.2.2.2.2.2.2.2.2.2.2.1)) (g := (mkF m 40 #[.val (.int u0), .unset, .unset, .unset, .unset, .unset] [(.ref (w 5)), (.int (5 : Int32)), (.ref b1), (.ref b1)])) rfl rfl (hb hby at_40)
  have f13_fA_b1 : Arv Z h13 b1 k1 (.object "com/example/licon/licon/search/Operator") (8 : Int32) [(.ref (w 0)), (.ref (w 1)), (.ref (w 2)), (.ref (w 3)), (.ref (w 4)), (.ref (w 5)), .null, .null] .null := Arv.set Ar13 qa13 Sz13 Nn13 Ha13 Ga13 rfl W13 5 rfl (Nat.le_of_ble_eq_true rfl)
  have K13 := K11.wr W13 hKN1
  have Z13 : n0 ≤ h13.size := Nat.le_trans Z11 (Nat.le_of_eq W13.size.symm)
  have N13 := Fr.snoc X13 N11 hG1
  obtain ⟨T14, X14, e14, st14⟩ := getS2 X13 hx hZ hown (host := "") (Or.inl (hw _ (List.mem_of_getElem? (i := 16) rfl))) Via.refl e13 K13.2.2.2.2.2.2.1 (g := (mkF m 44 #[.val (.int u0), .unset, .unset, .unset, .unset, .unset] [(.int (6 : Int32)), (.ref b1), (.ref b1)])) rfl (hb hby at_44)
  obtain ⟨cl15, Ar15, qa15, Sz15, Nn15, Ha15, Ga15⟩ := id f13_fA_b1
  have hin15 : ¬ ((6 : Int32) < 0 ∨ cl15.slots.size ≤ ((6 : Int32)).toNatClampNeg) := inb_of Sz15 ⟨by decide, by decide⟩
  obtain ⟨T15, h15, X15, e15, W15, st15⟩ := stR X14 hx hZ e14 Ar15 (j := (6 : Int32)) hin15 rfl (Sto.ofV Ar15 qa15 O1 (Ins.self K13.2.2.2.2.2.2.2.2.2.2.2.2.2.2.1)) (g := (mkF m 47 #[.val (.int u0), .unset, .unset, .unset, .unset, .unset] [(.ref (w 6)), (.int (6 : Int32)), (.ref b1), (.ref b1)])) rfl rfl (hb hby at_47)
  have f15_fA_b1 : Arv Z h15 b1 k1 (.object "com/example/licon/licon/search/Operator") (8 : Int32) [(.ref (w 0)), (.ref (w 1)), (.ref (w 2)), (.ref (w 3)), (.ref (w 4)), (.ref (w 5)), (.ref (w 6)), .null] .null := Arv.set Ar15 qa15 Sz15 Nn15 Ha15 Ga15 rfl W15 6 rfl (Nat.le_of_ble_eq_true rfl)
  have K15 := K13.wr W15 hKN1
  have Z15 : n0 ≤ h15.size := Nat.le_trans Z13 (Nat.le_of_eq W15.size.symm)
  have N15 := Fr.snoc X15 N13 hG1
  obtain ⟨T16, X16, e16, st16⟩ := getS2 X15 hx hZ hown (host := "") (Or.inl (hw _ (List.mem_of_getElem? (i := 18) rfl))) Via.refl e15 K15.2.2.2.2.2.2.2.1 (g := (mkF m 51 #[.val (.int u0), .unset, .unset, .unset, .unset, .unset] [(.int (7 : Int32)), (.ref b1), (.ref b1)])) rfl (hb hby at_51)
  obtain ⟨cl17, Ar17, qa17, Sz17, Nn17, Ha17, Ga17⟩ := id f15_fA_b1
  have hin17 : ¬ ((7 : Int32) < 0 ∨ cl17.slots.size ≤ ((7 : Int32)).toNatClampNeg) := inb_of Sz17 ⟨by decide, by decide⟩
  obtain ⟨T17, h17, X17, e17, W17, st17⟩ := stR X16 hx hZ e16 Ar17 (j := (7 : Int32)) hin17 rfl (Sto.ofV Ar17 qa17 O1 (Ins.self K15.2.2.2.2.2.2.2.2.2.2.2.2.2.2.2.1)) (g := (mkF m 54 #[.val (.int u0), .unset, .unset, .unset, .unset, .unset] [(.ref (w 7)), (.int (7 : Int32)), (.ref b1), (.ref b1)])) rfl rfl (hb hby at_54)
  have f17_fA_b1 : Arv Z h17 b1 k1 (.object "com/example/licon/licon/search/Operator") (8 : Int32) [(.ref (w 0)), (.ref (w 1)), (.ref (w 2)), (.ref (w 3)), (.ref (w 4)), (.ref (w 5)), (.ref (w 6)), (.ref (w 7))] .null := Arv.set Ar17 qa17 Sz17 Nn17 Ha17 Ga17 rfl W17 7 rfl (Nat.le_of_ble_eq_true rfl)
  have K17 := K15.wr W17 hKN1
  have Z17 : n0 ≤ h17.size := Nat.le_trans Z15 (Nat.le_of_eq W17.size.symm)
  have N17 := Fr.snoc X17 N15 hG1
  obtain ⟨cl18, Ar18, qa18, Sz18, Nn18, Ha18, Ga18⟩ := id f17_fA_b1
  have hin18 : ¬ ((3 : Int32) < 0 ∨ cl18.slots.size ≤ ((3 : Int32)).toNatClampNeg) := inb_of Sz18 ⟨by decide, by decide⟩
  have hat18 : cl18.slots[((3 : Int32)).toNatClampNeg]? = some (.ref (w 3)) := Has.at Ha18 hin18 rfl
  obtain ⟨cq19, kq19, qa19, qb19, qc19⟩ := isOf hZ e17 K17.2.2.2.2.2.2.2.2.2.2.2.1
  obtain ⟨_, _, ⟨T19, L19, kk19, n19⟩, -, X19, ⟨Lc19, hQ19, l19, y19, z19⟩, st19⟩ := X17.virtualBack hx (y := (⟨"com/example/licon/licon/search/Operator", "comparesText", "()Z"⟩ : MethodName)) (z := (⟨"com/example/licon/licon/search/Operator", "comparesText", "()Z"⟩ : MethodName)) hown (mvT hZ (hw _ (List.mem_of_getElem? (i := 20) rfl))) (mvT hZ (hw _ (List.mem_of_getElem? (i := 21) rfl))) (notFace_of_selects (args := #[]) (mvT hZ (hw _ (List.mem_of_getElem? (i := 23) rfl)))) (mvT hZ (hw _ (List.mem_of_getElem? (i := 23) rfl))) (mvT hZ (hw _ (List.mem_of_getElem? (i := 22) rfl))) (by decide) (backOf (W := 0) (rm_comparesText_10 l Z a0 hw w κ h17 n0 Z17 K17 u0 b1 k1) hZ (hw _ (List.mem_of_getElem? (i := 24) rfl)) (hw _ (List.mem_of_getElem? (i := 3) rfl)) (by decide) (by decide)) qa19 qc19 (g := (mkF m 83 #[.val (.int u0), .val (.ref b1), .val (.int (3 : Int32)), .val (.ref (w 3)), .val (.int (1 : Int32)), .unset] [(.ref (w 3))])) rfl (by rw [hml]; rfl) (Steps.refl _) (argsL := []) (rest := []) (lenOf pd_2829Z rfl) rfl (by show 2 * 0 + _ ≤ _; exact Nat.le_of_eq rfl) (hb hby at_83) (fun _ _ => ⟨rfl, e17, (by decide : 1 + 0 ≤ _), (by decide : 8 + 0 ≤ _)⟩)
  dsimp only [Pt.U, Pt.locs, Pt.cells, Pt.slots] at X19 l19 y19 z19 st19 hQ19
  subst l19 y19 z19
  obtain ⟨rfl, N19q, e19⟩ := hQ19
  have N19 := Fr.app N17 N19q
  obtain ⟨cq20, kq20, qa20, qb20, qc20⟩ := isOf hZ e19 K17.2.2.2.2.2.2.2.2.2.2.2.1
  obtain ⟨_, _, ⟨T20, L20, kk20, n20⟩, -, X20, ⟨Lc20, hQ20, l20, y20, z20⟩, st20⟩ := X19.virtualBack hx (y := (⟨"com/example/licon/licon/search/Operator", "takes", "(I)Z"⟩ : MethodName)) (z := (⟨"com/example/licon/licon/search/Operator", "takes", "(I)Z"⟩ : MethodName)) hown (mvT hZ (hw _ (List.mem_of_getElem? (i := 27) rfl))) (mvT hZ (hw _ (List.mem_of_getElem? (i := 28) rfl))) (notFace_of_selects (args := #[]) (mvT hZ (hw _ (List.mem_of_getElem? (i := 30) rfl)))) (mvT hZ (hw _ (List.mem_of_getElem? (i := 30) rfl))) (mvT hZ (hw _ (List.mem_of_getElem? (i := 29) rfl))) (by decide) (backOf (W := 0) (rm_takes_11 l Z a0 hw w κ h17 n0 Z17 K17 u0 b1 k1) hZ (hw _ (List.mem_of_getElem? (i := 31) rfl)) (hw _ (List.mem_of_getElem? (i := 3) rfl)) (by decide) (by decide)) qa20 qc20 (g := (mkF m 104 #[.val (.int u0), .val (.ref b1), .val (.int (3 : Int32)), .val (.ref (w 3)), .val (.int (1 : Int32)), .val (.int (1 : Int32))] [(.int (1 : Int32)), (.ref (w 3))])) rfl (by rw [hml]; rfl) (Steps.refl _) (argsL := [(.int (1 : Int32))]) (rest := []) (lenOf pd_28I29Z rfl) rfl (by show 2 * 0 + _ ≤ _; exact Nat.le_of_eq rfl) (hb hby at_104) (fun _ _ => ⟨rfl, e19, (by decide : 1 + 0 ≤ _), (by decide : 8 + 0 ≤ _)⟩)
  dsimp only [Pt.U, Pt.locs, Pt.cells, Pt.slots] at X20 l20 y20 z20 st20 hQ20
  subst l20 y20 z20
  obtain ⟨rfl, N20q, e20⟩ := hQ20
  have N20 := Fr.app N19 N20q
  obtain ⟨cq21, kq21, qa21, qb21, qc21⟩ := isOf hZ e20 K17.2.2.2.2.2.2.2.2.2.2.2.1
  obtain ⟨_, _, ⟨T21, L21, kk21, n21⟩, -, X21, ⟨Lc21, hQ21, l21, y21, z21⟩, st21⟩ := X20.virtualBack hx (y := (⟨"com/example/licon/licon/search/Operator", "takes", "(I)Z"⟩ : MethodName)) (z := (⟨"com/example/licon/licon/search/Operator", "takes", "(I)Z"⟩ : MethodName)) hown (mvT hZ (hw _ (List.mem_of_getElem? (i := 27) rfl))) (mvT hZ (hw _ (List.mem_of_getElem? (i := 28) rfl))) (notFace_of_selects (args := #[]) (mvT hZ (hw _ (List.mem_of_getElem? (i := 30) rfl)))) (mvT hZ (hw _ (List.mem_of_getElem? (i := 30) rfl))) (mvT hZ (hw _ (List.mem_of_getElem? (i := 29) rfl))) (by decide) (backOf (W := 0) (rm_takes_12 l Z a0 hw w κ h17 n0 Z17 K17 u0 b1 k1) hZ (hw _ (List.mem_of_getElem? (i := 31) rfl)) (hw _ (List.mem_of_getElem? (i := 3) rfl)) (by decide) (by decide)) qa21 qc21 (g := (mkF m 112 #[.val (.int u0), .val (.ref b1), .val (.int (3 : Int32)), .val (.ref (w 3)), .val (.int (1 : Int32)), .val (.int (1 : Int32))] [(.int (2 : Int32)), (.ref (w 3))])) rfl (by rw [hml]; rfl) (Steps.refl _) (argsL := [(.int (2 : Int32))]) (rest := []) (lenOf pd_28I29Z rfl) rfl (by show 2 * 0 + _ ≤ _; exact Nat.le_of_eq rfl) (hb hby at_112) (fun _ _ => ⟨rfl, e20, (by decide : 1 + 0 ≤ _), (by decide : 8 + 0 ≤ _)⟩)
  dsimp only [Pt.U, Pt.locs, Pt.cells, Pt.slots] at X21 l21 y21 z21 st21 hQ21
  subst l21 y21 z21
  obtain ⟨rfl, N21q, e21⟩ := hQ21
  have N21 := Fr.app N20 N21q
  obtain ⟨cq22, kq22, qa22, qb22, qc22⟩ := isOf hZ e21 K17.2.2.2.2.2.2.2.2.2.2.2.1
  obtain ⟨_, _, ⟨T22, L22, kk22, n22⟩, -, X22, ⟨Lc22, hQ22, l22, y22, z22⟩, st22⟩ := X21.virtualBack hx (y := (⟨"com/example/licon/licon/search/Operator", "negated", "()Z"⟩ : MethodName)) (z := (⟨"com/example/licon/licon/search/Operator", "negated", "()Z"⟩ : MethodName)) hown (mvT hZ (hw _ (List.mem_of_getElem? (i := 36) rfl))) (mvT hZ (hw _ (List.mem_of_getElem? (i := 37) rfl))) (notFace_of_selects (args := #[]) (mvT hZ (hw _ (List.mem_of_getElem? (i := 39) rfl)))) (mvT hZ (hw _ (List.mem_of_getElem? (i := 39) rfl))) (mvT hZ (hw _ (List.mem_of_getElem? (i := 38) rfl))) (by decide) (backOf (W := 0) (rm_negated_13 l Z a0 hw w κ h17 n0 Z17 K17 u0 b1 k1) hZ (hw _ (List.mem_of_getElem? (i := 40) rfl)) (hw _ (List.mem_of_getElem? (i := 3) rfl)) (by decide) (by decide)) qa22 qc22 (g := (mkF m 119 #[.val (.int u0), .val (.ref b1), .val (.int (3 : Int32)), .val (.ref (w 3)), .val (.int (1 : Int32)), .val (.int (1 : Int32))] [(.ref (w 3))])) rfl (by rw [hml]; rfl) (Steps.refl _) (argsL := []) (rest := []) (lenOf pd_2829Z rfl) rfl (by show 2 * 0 + _ ≤ _; exact Nat.le_of_eq rfl) (hb hby at_119) (fun _ _ => ⟨rfl, e21, (by decide : 1 + 0 ≤ _), (by decide : 8 + 0 ≤ _)⟩)
  dsimp only [Pt.U, Pt.locs, Pt.cells, Pt.slots] at X22 l22 y22 z22 st22 hQ22
  subst l22 y22 z22
  obtain ⟨rfl, N22q, e22⟩ := hQ22
  have N22 := Fr.app N21 N22q
  obtain ⟨fs, hr, hrun, hended, hW, hsame⟩ := X22.leave (v := (some (.int (1 : Int32)))) (fun h => by rw [Bd.returns] at h; cases h)
  refine ⟨_, _, pre0 _ ?_, hrun, hended, _, _, rfl, ?_, ⟨_, rfl⟩, hW, hsame.mono (by decide) (by decide)⟩
  · show Steps p.tables e below (s₁.setTop (mkF m 0 #[.val (.int u0), .unset, .unset, .unset, .unset, .unset] [])) _
    refine XS.bipush X0.here hx rfl (hb hby at_0) ?_
    show Steps p.tables e below (s₁.setTop (mkF m 2 #[.val (.int u0), .unset, .unset, .unset, .unset, .unset] [(.int (8 : Int32))])) _
    refine st1 _ ?_
    show Steps p.tables e below (T1.setTop (mkF m 5 #[.val (.int u0), .unset, .unset, .unset, .unset, .unset] [(.ref b1)])) _
    refine XS.dup X1.here hx rfl (hb hby at_5) rfl rfl ?_
    show Steps p.tables e below (T1.setTop (mkF m 6 #[.val (.int u0), .unset, .unset, .unset, .unset, .unset] [(.ref b1), (.ref b1)])) _
    refine XS.iconst X1.here hx rfl (hb hby at_6) ?_
    show Steps p.tables e below (T1.setTop (mkF m 7 #[.val (.int u0), .unset, .unset, .unset, .unset, .unset] [(.int (0 : Int32)), (.ref b1), (.ref b1)])) _
    refine st2 _ ?_
    show Steps p.tables e below (T2.setTop (mkF m 10 #[.val (.int u0), .unset, .unset, .unset, .unset, .unset] [(.ref (w 0)), (.int (0 : Int32)), (.ref b1), (.ref b1)])) _
    refine st3 _ ?_
    show Steps p.tables e below (T3.setTop (mkF m 11 #[.val (.int u0), .unset, .unset, .unset, .unset, .unset] [(.ref b1)])) _
    refine XS.dup X3.here hx rfl (hb hby at_11) rfl rfl ?_
    show Steps p.tables e below (T3.setTop (mkF m 12 #[.val (.int u0), .unset, .unset, .unset, .unset, .unset] [(.ref b1), (.ref b1)])) _
    refine XS.iconst X3.here hx rfl (hb hby at_12) ?_
    show Steps p.tables e below (T3.setTop (mkF m 13 #[.val (.int u0), .unset, .unset, .unset, .unset, .unset] [(.int (1 : Int32)), (.ref b1), (.ref b1)])) _
    refine st4 _ ?_
    show Steps p.tables e below (T4.setTop (mkF m 16 #[.val (.int u0), .unset, .unset, .unset, .unset, .unset] [(.ref (w 1)), (.int (1 : Int32)), (.ref b1), (.ref b1)])) _
    refine st5 _ ?_
    show Steps p.tables e below (T5.setTop (mkF m 17 #[.val (.int u0), .unset, .unset, .unset, .unset, .unset] [(.ref b1)])) _
    refine XS.dup X5.here hx rfl (hb hby at_17) rfl rfl ?_
    show Steps p.tables e below (T5.setTop (mkF m 18 #[.val (.int u0), .unset, .unset, .unset, .unset, .unset] [(.ref b1), (.ref b1)])) _
    refine XS.iconst X5.here hx rfl (hb hby at_18) ?_
    show Steps p.tables e below (T5.setTop (mkF m 19 #[.val (.int u0), .unset, .unset, .unset, .unset, .unset] [(.int (2 : Int32)), (.ref b1), (.ref b1)])) _
    refine st6 _ ?_
    show Steps p.tables e below (T6.setTop (mkF m 22 #[.val (.int u0), .unset, .unset, .unset, .unset, .unset] [(.ref (w 2)), (.int (2 : Int32)), (.ref b1), (.ref b1)])) _
    refine st7 _ ?_
    show Steps p.tables e below (T7.setTop (mkF m 23 #[.val (.int u0), .unset, .unset, .unset, .unset, .unset] [(.ref b1)])) _
    refine XS.dup X7.here hx rfl (hb hby at_23) rfl rfl ?_
    show Steps p.tables e below (T7.setTop (mkF m 24 #[.val (.int u0), .unset, .unset, .unset, .unset, .unset] [(.ref b1), (.ref b1)])) _
    refine XS.iconst X7.here hx rfl (hb hby at_24) ?_
    show Steps p.tables e below (T7.setTop (mkF m 25 #[.val (.int u0), .unset, .unset, .unset, .unset, .unset] [(.int (3 : Int32)), (.ref b1), (.ref b1)])) _
    refine st8 _ ?_
    show Steps p.tables e below (T8.setTop (mkF m 28 #[.val (.int u0), .unset, .unset, .unset, .unset, .unset] [(.ref (w 3)), (.int (3 : Int32)), (.ref b1), (.ref b1)])) _
    refine st9 _ ?_
    show Steps p.tables e below (T9.setTop (mkF m 29 #[.val (.int u0), .unset, .unset, .unset, .unset, .unset] [(.ref b1)])) _
    refine XS.dup X9.here hx rfl (hb hby at_29) rfl rfl ?_
    show Steps p.tables e below (T9.setTop (mkF m 30 #[.val (.int u0), .unset, .unset, .unset, .unset, .unset] [(.ref b1), (.ref b1)])) _
    refine XS.iconst X9.here hx rfl (hb hby at_30) ?_
    show Steps p.tables e below (T9.setTop (mkF m 31 #[.val (.int u0), .unset, .unset, .unset, .unset, .unset] [(.int (4 : Int32)), (.ref b1), (.ref b1)])) _
    refine st10 _ ?_
    show Steps p.tables e below (T10.setTop (mkF m 34 #[.val (.int u0), .unset, .unset, .unset, .unset, .unset] [(.ref (w 4)), (.int (4 : Int32)), (.ref b1), (.ref b1)])) _
    refine st11 _ ?_
    show Steps p.tables e below (T11.setTop (mkF m 35 #[.val (.int u0), .unset, .unset, .unset, .unset, .unset] [(.ref b1)])) _
    refine XS.dup X11.here hx rfl (hb hby at_35) rfl rfl ?_
    show Steps p.tables e below (T11.setTop (mkF m 36 #[.val (.int u0), .unset, .unset, .unset, .unset, .unset] [(.ref b1), (.ref b1)])) _
    refine XS.iconst X11.here hx rfl (hb hby at_36) ?_
    show Steps p.tables e below (T11.setTop (mkF m 37 #[.val (.int u0), .unset, .unset, .unset, .unset, .unset] [(.int (5 : Int32)), (.ref b1), (.ref b1)])) _
    refine st12 _ ?_
    show Steps p.tables e below (T12.setTop (mkF m 40 #[.val (.int u0), .unset, .unset, .unset, .unset, .unset] [(.ref (w 5)), (.int (5 : Int32)), (.ref b1), (.ref b1)])) _
    refine st13 _ ?_
    show Steps p.tables e below (T13.setTop (mkF m 41 #[.val (.int u0), .unset, .unset, .unset, .unset, .unset] [(.ref b1)])) _
    refine XS.dup X13.here hx rfl (hb hby at_41) rfl rfl ?_
    show Steps p.tables e below (T13.setTop (mkF m 42 #[.val (.int u0), .unset, .unset, .unset, .unset, .unset] [(.ref b1), (.ref b1)])) _
    refine XS.bipush X13.here hx rfl (hb hby at_42) ?_
    show Steps p.tables e below (T13.setTop (mkF m 44 #[.val (.int u0), .unset, .unset, .unset, .unset, .unset] [(.int (6 : Int32)), (.ref b1), (.ref b1)])) _
    refine st14 _ ?_
    show Steps p.tables e below (T14.setTop (mkF m 47 #[.val (.int u0), .unset, .unset, .unset, .unset, .unset] [(.ref (w 6)), (.int (6 : Int32)), (.ref b1), (.ref b1)])) _
    refine st15 _ ?_
    show Steps p.tables e below (T15.setTop (mkF m 48 #[.val (.int u0), .unset, .unset, .unset, .unset, .unset] [(.ref b1)])) _
    refine XS.dup X15.here hx rfl (hb hby at_48) rfl rfl ?_
    show Steps p.tables e below (T15.setTop (mkF m 49 #[.val (.int u0), .unset, .unset, .unset, .unset, .unset] [(.ref b1), (.ref b1)])) _
    refine XS.bipush X15.here hx rfl (hb hby at_49) ?_
    show Steps p.tables e below (T15.setTop (mkF m 51 #[.val (.int u0), .unset, .unset, .unset, .unset, .unset] [(.int (7 : Int32)), (.ref b1), (.ref b1)])) _
    refine st16 _ ?_
    show Steps p.tables e below (T16.setTop (mkF m 54 #[.val (.int u0), .unset, .unset, .unset, .unset, .unset] [(.ref (w 7)), (.int (7 : Int32)), (.ref b1), (.ref b1)])) _
    refine st17 _ ?_
    show Steps p.tables e below (T17.setTop (mkF m 55 #[.val (.int u0), .unset, .unset, .unset, .unset, .unset] [(.ref b1)])) _
    refine XS.astoreN X17.here hx rfl (hb hby at_55) rfl rfl (l' := #[.val (.int u0), .val (.ref b1), .unset, .unset, .unset, .unset]) rfl ?_
    show Steps p.tables e below (T17.setTop (mkF m 56 #[.val (.int u0), .val (.ref b1), .unset, .unset, .unset, .unset] [])) _
    refine XS.iloadN X17.here hx rfl (hb hby at_56) rfl ?_
    show Steps p.tables e below (T17.setTop (mkF m 57 #[.val (.int u0), .val (.ref b1), .unset, .unset, .unset, .unset] [(.int u0)])) _
    refine XS.bipush X17.here hx rfl (hb hby at_57) ?_
    show Steps p.tables e below (T17.setTop (mkF m 59 #[.val (.int u0), .val (.ref b1), .unset, .unset, .unset, .unset] [(.int (7 : Int32)), (.int u0)])) _
    refine XS.iand X17.here hx rfl (hb hby at_59) rfl ?_
    show Steps p.tables e below (T17.setTop (mkF m 60 #[.val (.int u0), .val (.ref b1), .unset, .unset, .unset, .unset] [(.int (u0 &&& (7 : Int32)))])) _
    rw [hk0]
    show Steps p.tables e below (T17.setTop (mkF m 60 #[.val (.int u0), .val (.ref b1), .unset, .unset, .unset, .unset] [(.int (3 : Int32))])) _
    refine XS.istoreN X17.here hx rfl (hb hby at_60) rfl (l' := #[.val (.int u0), .val (.ref b1), .val (.int (3 : Int32)), .unset, .unset, .unset]) rfl ?_
    show Steps p.tables e below (T17.setTop (mkF m 61 #[.val (.int u0), .val (.ref b1), .val (.int (3 : Int32)), .unset, .unset, .unset] [])) _
    refine XS.aloadN X17.here hx rfl (hb hby at_61) rfl rfl ?_
    show Steps p.tables e below (T17.setTop (mkF m 62 #[.val (.int u0), .val (.ref b1), .val (.int (3 : Int32)), .unset, .unset, .unset] [(.ref b1)])) _
    refine XS.iloadN X17.here hx rfl (hb hby at_62) rfl ?_
    show Steps p.tables e below (T17.setTop (mkF m 63 #[.val (.int u0), .val (.ref b1), .val (.int (3 : Int32)), .unset, .unset, .unset] [(.int (3 : Int32)), (.ref b1)])) _
    refine X17.aaload hx (j := (3 : Int32)) (v := (.ref (w 3))) (by rw [e17]; exact Ar18.1) (State.isArrayOf_alike hZ.alike Ar18.2.1) rfl Ar18.2.2 hin18 hat18 (g := (mkF m 63 #[.val (.int u0), .val (.ref b1), .val (.int (3 : Int32)), .unset, .unset, .unset] [(.int (3 : Int32)), (.ref b1)])) rfl rfl (hb hby at_63) _ ?_
    show Steps p.tables e below (T17.setTop (mkF m 64 #[.val (.int u0), .val (.ref b1), .val (.int (3 : Int32)), .unset, .unset, .unset] [(.ref (w 3))])) _
    refine XS.astoreN X17.here hx rfl (hb hby at_64) rfl rfl (l' := #[.val (.int u0), .val (.ref b1), .val (.int (3 : Int32)), .val (.ref (w 3)), .unset, .unset]) rfl ?_
    show Steps p.tables e below (T17.setTop (mkF m 65 #[.val (.int u0), .val (.ref b1), .val (.int (3 : Int32)), .val (.ref (w 3)), .unset, .unset] [])) _
    refine XS.iloadN X17.here hx rfl (hb hby at_65) rfl ?_
    show Steps p.tables e below (T17.setTop (mkF m 66 #[.val (.int u0), .val (.ref b1), .val (.int (3 : Int32)), .val (.ref (w 3)), .unset, .unset] [(.int (3 : Int32))])) _
    refine XS.iconst X17.here hx rfl (hb hby at_66) ?_
    show Steps p.tables e below (T17.setTop (mkF m 67 #[.val (.int u0), .val (.ref b1), .val (.int (3 : Int32)), .val (.ref (w 3)), .unset, .unset] [(.int (2 : Int32)), (.int (3 : Int32))])) _
    refine XS.icmpNo X17.here hx rfl (hb hby at_67) rfl (feq (by decide : ¬ ((3 : Int32) = (2 : Int32)))).1 ?_
    show Steps p.tables e below (T17.setTop (mkF m 70 #[.val (.int u0), .val (.ref b1), .val (.int (3 : Int32)), .val (.ref (w 3)), .unset, .unset] [])) _
    refine XS.iloadN X17.here hx rfl (hb hby at_70) rfl ?_
    show Steps p.tables e below (T17.setTop (mkF m 71 #[.val (.int u0), .val (.ref b1), .val (.int (3 : Int32)), .val (.ref (w 3)), .unset, .unset] [(.int (3 : Int32))])) _
    refine XS.iconst X17.here hx rfl (hb hby at_71) ?_
    show Steps p.tables e below (T17.setTop (mkF m 72 #[.val (.int u0), .val (.ref b1), .val (.int (3 : Int32)), .val (.ref (w 3)), .unset, .unset] [(.int (3 : Int32)), (.int (3 : Int32))])) _
    refine XS.icmpNo X17.here hx rfl (hb hby at_72) rfl (teq (by decide : (3 : Int32) = (3 : Int32))).2 ?_
    show Steps p.tables e below (T17.setTop (mkF m 75 #[.val (.int u0), .val (.ref b1), .val (.int (3 : Int32)), .val (.ref (w 3)), .unset, .unset] [])) _
    refine XS.iconst X17.here hx rfl (hb hby at_75) ?_
    show Steps p.tables e below (T17.setTop (mkF m 76 #[.val (.int u0), .val (.ref b1), .val (.int (3 : Int32)), .val (.ref (w 3)), .unset, .unset] [(.int (1 : Int32))])) _
    refine XS.goto X17.here hx rfl (pc0 := 76) (pc' := 80) rfl (hb hby at_76) (by decide) (by decide) ?_
    show Steps p.tables e below (T17.setTop (mkF m 80 #[.val (.int u0), .val (.ref b1), .val (.int (3 : Int32)), .val (.ref (w 3)), .unset, .unset] [(.int (1 : Int32))])) _
    refine XS.istore X17.here hx rfl (hb hby at_80) rfl (l' := #[.val (.int u0), .val (.ref b1), .val (.int (3 : Int32)), .val (.ref (w 3)), .val (.int (1 : Int32)), .unset]) rfl ?_
    show Steps p.tables e below (T17.setTop (mkF m 82 #[.val (.int u0), .val (.ref b1), .val (.int (3 : Int32)), .val (.ref (w 3)), .val (.int (1 : Int32)), .unset] [])) _
    refine XS.aloadN X17.here hx rfl (hb hby at_82) rfl rfl ?_
    show Steps p.tables e below (T17.setTop (mkF m 83 #[.val (.int u0), .val (.ref b1), .val (.int (3 : Int32)), .val (.ref (w 3)), .val (.int (1 : Int32)), .unset] [(.ref (w 3))])) _
    refine st19.trans ?_
    show Steps p.tables e below (T19.setTop (mkF m 86 #[.val (.int u0), .val (.ref b1), .val (.int (3 : Int32)), .val (.ref (w 3)), .val (.int (1 : Int32)), .unset] [(.int (1 : Int32))])) _
    refine XS.istore X19.here hx rfl (hb hby at_86) rfl (l' := #[.val (.int u0), .val (.ref b1), .val (.int (3 : Int32)), .val (.ref (w 3)), .val (.int (1 : Int32)), .val (.int (1 : Int32))]) rfl ?_
    show Steps p.tables e below (T19.setTop (mkF m 88 #[.val (.int u0), .val (.ref b1), .val (.int (3 : Int32)), .val (.ref (w 3)), .val (.int (1 : Int32)), .val (.int (1 : Int32))] [])) _
    refine XS.iload X19.here hx rfl (hb hby at_88) rfl ?_
    show Steps p.tables e below (T19.setTop (mkF m 90 #[.val (.int u0), .val (.ref b1), .val (.int (3 : Int32)), .val (.ref (w 3)), .val (.int (1 : Int32)), .val (.int (1 : Int32))] [(.int (1 : Int32))])) _
    refine XS.iload X19.here hx rfl (hb hby at_90) rfl ?_
    show Steps p.tables e below (T19.setTop (mkF m 92 #[.val (.int u0), .val (.ref b1), .val (.int (3 : Int32)), .val (.ref (w 3)), .val (.int (1 : Int32)), .val (.int (1 : Int32))] [(.int (1 : Int32)), (.int (1 : Int32))])) _
    refine XS.icmpYes X19.here hx rfl (pc0 := 92) (pc' := 97) rfl (hb hby at_92) rfl (teq (by decide : (1 : Int32) = (1 : Int32))).1 (by decide) (by decide) ?_
    show Steps p.tables e below (T19.setTop (mkF m 97 #[.val (.int u0), .val (.ref b1), .val (.int (3 : Int32)), .val (.ref (w 3)), .val (.int (1 : Int32)), .val (.int (1 : Int32))] [])) _
    refine XS.iload X19.here hx rfl (hb hby at_97) rfl ?_
    show Steps p.tables e below (T19.setTop (mkF m 99 #[.val (.int u0), .val (.ref b1), .val (.int (3 : Int32)), .val (.ref (w 3)), .val (.int (1 : Int32)), .val (.int (1 : Int32))] [(.int (1 : Int32))])) _
    refine XS.ifNo X19.here hx rfl (hb hby at_99) rfl ((if0 _ _).trans (feq (by decide : ¬ ((1 : Int32) = (0 : Int32)))).1) ?_
    show Steps p.tables e below (T19.setTop (mkF m 102 #[.val (.int u0), .val (.ref b1), .val (.int (3 : Int32)), .val (.ref (w 3)), .val (.int (1 : Int32)), .val (.int (1 : Int32))] [])) _
    refine XS.aloadN X19.here hx rfl (hb hby at_102) rfl rfl ?_
    show Steps p.tables e below (T19.setTop (mkF m 103 #[.val (.int u0), .val (.ref b1), .val (.int (3 : Int32)), .val (.ref (w 3)), .val (.int (1 : Int32)), .val (.int (1 : Int32))] [(.ref (w 3))])) _
    refine XS.iconst X19.here hx rfl (hb hby at_103) ?_
    show Steps p.tables e below (T19.setTop (mkF m 104 #[.val (.int u0), .val (.ref b1), .val (.int (3 : Int32)), .val (.ref (w 3)), .val (.int (1 : Int32)), .val (.int (1 : Int32))] [(.int (1 : Int32)), (.ref (w 3))])) _
    refine st20.trans ?_
    show Steps p.tables e below (T20.setTop (mkF m 107 #[.val (.int u0), .val (.ref b1), .val (.int (3 : Int32)), .val (.ref (w 3)), .val (.int (1 : Int32)), .val (.int (1 : Int32))] [(.int (1 : Int32))])) _
    refine XS.ifNo X20.here hx rfl (hb hby at_107) rfl ((if0 _ _).trans (feq (by decide : ¬ ((1 : Int32) = (0 : Int32)))).1) ?_
    show Steps p.tables e below (T20.setTop (mkF m 110 #[.val (.int u0), .val (.ref b1), .val (.int (3 : Int32)), .val (.ref (w 3)), .val (.int (1 : Int32)), .val (.int (1 : Int32))] [])) _
    refine XS.aloadN X20.here hx rfl (hb hby at_110) rfl rfl ?_
    show Steps p.tables e below (T20.setTop (mkF m 111 #[.val (.int u0), .val (.ref b1), .val (.int (3 : Int32)), .val (.ref (w 3)), .val (.int (1 : Int32)), .val (.int (1 : Int32))] [(.ref (w 3))])) _
    refine XS.iconst X20.here hx rfl (hb hby at_111) ?_
    show Steps p.tables e below (T20.setTop (mkF m 112 #[.val (.int u0), .val (.ref b1), .val (.int (3 : Int32)), .val (.ref (w 3)), .val (.int (1 : Int32)), .val (.int (1 : Int32))] [(.int (2 : Int32)), (.ref (w 3))])) _
    refine st21.trans ?_
    show Steps p.tables e below (T21.setTop (mkF m 115 #[.val (.int u0), .val (.ref b1), .val (.int (3 : Int32)), .val (.ref (w 3)), .val (.int (1 : Int32)), .val (.int (1 : Int32))] [(.int (0 : Int32))])) _
    refine XS.ifNo X21.here hx rfl (hb hby at_115) rfl ((if0 _ _).trans (teq (by decide : (0 : Int32) = (0 : Int32))).2) ?_
    show Steps p.tables e below (T21.setTop (mkF m 118 #[.val (.int u0), .val (.ref b1), .val (.int (3 : Int32)), .val (.ref (w 3)), .val (.int (1 : Int32)), .val (.int (1 : Int32))] [])) _
    refine XS.aloadN X21.here hx rfl (hb hby at_118) rfl rfl ?_
    show Steps p.tables e below (T21.setTop (mkF m 119 #[.val (.int u0), .val (.ref b1), .val (.int (3 : Int32)), .val (.ref (w 3)), .val (.int (1 : Int32)), .val (.int (1 : Int32))] [(.ref (w 3))])) _
    refine st22.trans ?_
    show Steps p.tables e below (T22.setTop (mkF m 122 #[.val (.int u0), .val (.ref b1), .val (.int (3 : Int32)), .val (.ref (w 3)), .val (.int (1 : Int32)), .val (.int (1 : Int32))] [(.int (0 : Int32))])) _
    refine XS.ifNo X22.here hx rfl (hb hby at_122) rfl ((if0 _ _).trans (teq (by decide : (0 : Int32) = (0 : Int32))).2) ?_
    show Steps p.tables e below (T22.setTop (mkF m 125 #[.val (.int u0), .val (.ref b1), .val (.int (3 : Int32)), .val (.ref (w 3)), .val (.int (1 : Int32)), .val (.int (1 : Int32))] [])) _
    refine XS.iconst X22.here hx rfl (hb hby at_125) ?_
    show Steps p.tables e below (T22.setTop (mkF m 126 #[.val (.int u0), .val (.ref b1), .val (.int (3 : Int32)), .val (.ref (w 3)), .val (.int (1 : Int32)), .val (.int (1 : Int32))] [(.int (1 : Int32))])) _
    refine XS.goto X22.here hx rfl (pc0 := 126) (pc' := 130) rfl (hb hby at_126) (by decide) (by decide) ?_
    show Steps p.tables e below (T22.setTop (mkF m 130 #[.val (.int u0), .val (.ref b1), .val (.int (3 : Int32)), .val (.ref (w 3)), .val (.int (1 : Int32)), .val (.int (1 : Int32))] [(.int (1 : Int32))])) _
    exact retN X22 hx (t := .boolean) Bd.returns (by simp) (hb hby at_130) hr
  · exact ⟨rfl, N22⟩
set_option maxRecDepth 65536 in
set_option maxHeartbeats 40000000 in
theorem rm_comparesText_15 (l : Launch) (Z : State) (a0 : Array Value) (hw : ∀ d ∈ tables_1, d.before a0 Z = true) (w : Nat → Addr) (κ : Nat → ClassId) (h0 : Heap) (n0 : Nat) (Z0 : n0 ≤ h0.size) (K : Kon Z h0 w κ) (u0 : Int32) (b1 : Addr) (k1 : ClassId) :
    OM l Z (⟨"com/example/licon/licon/search/Operator", "comparesText", "()Z"⟩ : MethodName) prog_9_method_6_code 1 (some .boolean) [] ({ frames := 0, cells := 0, slots := 0, locals := 0 } : Room) #[(.ref (w 4))] h0 (OP (some (.int (0 : Int32))) n0 h0) := by
  refine MetFree.of_bodySF (plainFor_of_name pn_com_example_licon_licon_search_Operator) hisR ?_
  intro p e s m args below meth c s₁ Bd hml0 hP hK
  obtain ⟨rfl, hZ, hh⟩ := hP
  have hx := Bd.exec
  have hby := Bd.bytes
  have hml : c.maxLocals = 1 := hml0
  have hown : s.vm.findClass "com/example/licon/licon/search/Operator" = some m.cls := findClass_of_methodNamed Bd.named
  have hnm := (name_of_methodNamed Bd.named Bd.method).1
  have X0 : Stand p l e ({ frames := 0, cells := 0, slots := 0, locals := 0 } : Room) s m #[(.ref (w 4))] below meth c s₁ [] 0 0 := Stand.of_body Bd
  have e0 : s₁.heap = h0 := by rw [← hh, Bd.state]; rfl
  have N0 := Fr.nil n0
  have pre0 : ∀ t, Steps p.tables e below (s₁.setTop (mkF m 0 #[.val (.ref (w 4))] [])) t → Steps p.tables e below (s₁.setTop (entryFrame m #[(.ref (w 4))] 1)) t := fun t k => castTop (by first | rfl | simp [entryFrame, mkF, argsToLocals, Value.category]) k
  obtain ⟨T1, X1, e1, st1⟩ := getS2 X0 hx hZ hown (host := "") (Or.inl (hw _ (List.mem_of_getElem? (i := 25) rfl))) Via.refl e0 K.2.2.1 (g := (mkF m 1 #[.val (.ref (w 4))] [(.ref (w 4))])) rfl (hb hby d_prog_9_method_6_code_1)
  obtain ⟨T2, X2, e2, st2⟩ := getS2 X1 hx hZ hown (host := "") (Or.inl (hw _ (List.mem_of_getElem? (i := 26) rfl))) Via.refl e1 K.2.2.2.1 (g := (mkF m 8 #[.val (.ref (w 4))] [(.ref (w 4))])) rfl (hb hby d_prog_9_method_6_code_8)
  obtain ⟨fs, hr, hrun, hended, hW, hsame⟩ := X2.leave (v := (some (.int (0 : Int32)))) (fun h => by rw [Bd.returns] at h; cases h)
  refine ⟨_, _, pre0 _ ?_, hrun, hended, _, _, rfl, ?_, ⟨_, rfl⟩, hW, hsame.mono (by decide) (by decide)⟩
  · show Steps p.tables e below (s₁.setTop (mkF m 0 #[.val (.ref (w 4))] [])) _
    refine XS.aloadN X0.here hx rfl (hb hby d_prog_9_method_6_code_0) rfl rfl ?_
    show Steps p.tables e below (s₁.setTop (mkF m 1 #[.val (.ref (w 4))] [(.ref (w 4))])) _
    refine st1 _ ?_
    show Steps p.tables e below (T1.setTop (mkF m 4 #[.val (.ref (w 4))] [(.ref (w 2)), (.ref (w 4))])) _
    refine Jvm.RoadKit.acmp (g := (mkF m 4 #[.val (.ref (w 4))] [(.ref (w 2)), (.ref (w 4))])) X1 hx rfl rfl rfl (pc0 := 4) (pc' := 7) (same := false) rfl (hb hby d_prog_9_method_6_code_4) rfl (decide_eq_false fun q => (K.2.2.2.2.2.2.2.2.2.2.2.2.2.2.2.2.2.2.2.2.2.2.2.2.2.2.2.2.1.ne K.2.2.2.2.2.2.2.2.2.2.2.2.2.2.2.2.2.1 (by decide)) (Value.ref.inj q)) (by decide) (by decide) ?_
    show Steps p.tables e below (T1.setTop (mkF m 7 #[.val (.ref (w 4))] [])) _
    refine XS.aloadN X1.here hx rfl (hb hby d_prog_9_method_6_code_7) rfl rfl ?_
    show Steps p.tables e below (T1.setTop (mkF m 8 #[.val (.ref (w 4))] [(.ref (w 4))])) _
    refine st2 _ ?_
    show Steps p.tables e below (T2.setTop (mkF m 11 #[.val (.ref (w 4))] [(.ref (w 3)), (.ref (w 4))])) _
    refine Jvm.RoadKit.acmp (g := (mkF m 11 #[.val (.ref (w 4))] [(.ref (w 3)), (.ref (w 4))])) X2 hx rfl rfl rfl (pc0 := 11) (pc' := 18) (same := false) rfl (hb hby d_prog_9_method_6_code_11) rfl (decide_eq_false fun q => (K.2.2.2.2.2.2.2.2.2.2.2.2.2.2.2.2.2.2.2.2.2.2.2.2.2.2.2.2.1.ne K.2.2.2.2.2.2.2.2.2.2.2.2.2.2.2.2.2.2.1 (by decide)) (Value.ref.inj q)) (by decide) (by decide) ?_
    show Steps p.tables e below (T2.setTop (mkF m 18 #[.val (.ref (w 4))] [])) _
    refine XS.iconst X2.here hx rfl (hb hby d_prog_9_method_6_code_18) ?_
    show Steps p.tables e below (T2.setTop (mkF m 19 #[.val (.ref (w 4))] [(.int (0 : Int32))])) _
    exact retN X2 hx (t := .boolean) Bd.returns (by simp) (hb hby d_prog_9_method_6_code_19) hr
  · exact ⟨rfl, N0, e2⟩
set_option maxRecDepth 65536 in
set_option maxHeartbeats 40000000 in
theorem rm0_16 (l : Launch) (Z : State) (a0 : Array Value) (hw : ∀ d ∈ tables_1, d.before a0 Z = true) (w : Nat → Addr) (κ : Nat → ClassId) (h0 : Heap) (n0 : Nat) (Z0 : n0 ≤ h0.size) (K : Kon Z h0 w κ) (u0 : Int32) (hk0 : (u0 &&& (7 : Int32)) = (4 : Int32)) :
    OM l Z x code maxLocals ret tables_1 room_1 #[(.int u0)] h0 (OF (some (.int (1 : Int32))) n0) := by
  refine MetFree.of_bodySF (plainFor_of_name pn_com_example_licon_licon_search_OperatorComparesTextPinLaw) hisR ?_
  intro p e s m args below meth c s₁ Bd hml0 hP hK
  obtain ⟨rfl, hZ, hh⟩ := hP
  have hx := Bd.exec
  have hby := Bd.bytes
  have hml : c.maxLocals = 6 := hml0
  have hown : s.vm.findClass "com/example/licon/licon/search/OperatorComparesTextPinLaw" = some m.cls := findClass_of_methodNamed Bd.named
  have hnm := (name_of_methodNamed Bd.named Bd.method).1
  have X0 : Stand p l e room_1 s m #[(.int u0)] below meth c s₁ [] 0 0 := Stand.of_body Bd
  have e0 : s₁.heap = h0 := by rw [← hh, Bd.state]; rfl
  have N0 := Fr.nil n0
  have pre0 : ∀ t, Steps p.tables e below (s₁.setTop (mkF m 0 #[.val (.int u0), .unset, .unset, .unset, .unset, .unset] [])) t → Steps p.tables e below (s₁.setTop (entryFrame m #[(.int u0)] maxLocals)) t := fun t k => castTop (by first | rfl | simp [entryFrame, mkF, argsToLocals, Value.category, maxLocals]) k
  obtain ⟨T1, h1, k1, X1, e1, E1, A1, O1, st1⟩ := newR X0 hx hZ hown (hw _ (List.mem_of_getElem? (i := 0) rfl)) (hw _ (List.mem_of_getElem? (i := 1) rfl)) e0 (g := (mkF m 2 #[.val (.int u0), .unset, .unset, .unset, .unset, .unset] [(.int (8 : Int32))])) rfl (hb hby at_2) rfl (by decide) (cap := 8) (by decide) (by decide) (by decide) (by decide)
  obtain ⟨b1, g1⟩ : ∃ z, z = h0.size := ⟨_, rfl⟩
  rw [← g1] at A1 st1
  have hG1 : n0 ≤ b1 := Nat.le_trans Z0 (Nat.le_of_eq g1.symm)
  have hKN1 : ∀ i, i < 8 → w i ≠ b1 := fun i hi => by rw [g1]; exact Nat.ne_of_lt (K.lt i hi)
  have K1 := K.ext E1
  have Z1 : n0 ≤ h1.size := Nat.le_trans Z0 E1.1
  have V1 : Arv Z h1 b1 k1 (.object "com/example/licon/licon/search/Operator") (8 : Int32) [.null, .null, .null, .null, .null, .null, .null, .null] .null := (Arv.new A1 (by decide)).pad (pad_rep [] .null 8)
  obtain ⟨T2, X2, e2, st2⟩ := getS2 X1 hx hZ hown (host := "") (Or.inl (hw _ (List.mem_of_getElem? (i := 2) rfl))) Via.refl e1 K1.1 (g := (mkF m 7 #[.val (.int u0), .unset, .unset, .unset, .unset, .unset] [(.int (0 : Int32)), (.ref b1), (.ref b1)])) rfl (hb hby at_7)
  obtain ⟨cl3, Ar3, qa3, Sz3, Nn3, Ha3, Ga3⟩ := id V1
  have hin3 : ¬ ((0 : Int32) < 0 ∨ cl3.slots.size ≤ ((0 : Int32)).toNatClampNeg) := inb_of Sz3 ⟨by decide, by decide⟩
  obtain ⟨T3, h3, X3, e3, W3, st3⟩ := stR X2 hx hZ e2 Ar3 (j := (0 : Int32)) hin3 rfl (Sto.ofV Ar3 qa3 O1 (Ins.self K1.2.2.2.2.2.2.2.2.1)) (g := (mkF m 10 #[.val (.int u0), .unset, .unset, .unset, .unset, .unset] [(.ref (w 0)), (.int (0 : Int32)), (.ref b1), (.ref b1)])) rfl rfl (hb hby at_10)
  have f3_fA_b1 : Arv Z h3 b1 k1 (.object "com/example/licon/licon/search/Operator") (8 : Int32) [(.ref (w 0)), .null, .null, .null, .null, .null, .null, .null] .null := Arv.set Ar3 qa3 Sz3 Nn3 Ha3 Ga3 rfl W3 0 rfl (Nat.le_of_ble_eq_true rfl)
  have K3 := K1.wr W3 hKN1
  have Z3 : n0 ≤ h3.size := Nat.le_trans Z1 (Nat.le_of_eq W3.size.symm)
  have N3 := Fr.snoc X3 N0 hG1
  obtain ⟨T4, X4, e4, st4⟩ := getS2 X3 hx hZ hown (host := "") (Or.inl (hw _ (List.mem_of_getElem? (i := 6) rfl))) Via.refl e3 K3.2.1 (g := (mkF m 13 #[.val (.int u0), .unset, .unset, .unset, .unset, .unset] [(.int (1 : Int32)), (.ref b1), (.ref b1)])) rfl (hb hby at_13)
  obtain ⟨cl5, Ar5, qa5, Sz5, Nn5, Ha5, Ga5⟩ := id f3_fA_b1
  have hin5 : ¬ ((1 : Int32) < 0 ∨ cl5.slots.size ≤ ((1 : Int32)).toNatClampNeg) := inb_of Sz5 ⟨by decide, by decide⟩
  obtain ⟨T5, h5, X5, e5, W5, st5⟩ := stR X4 hx hZ e4 Ar5 (j := (1 : Int32)) hin5 rfl (Sto.ofV Ar5 qa5 O1 (Ins.self K3.2.2.2.2.2.2.2.2.2.1)) (g := (mkF m 16 #[.val (.int u0), .unset, .unset, .unset, .unset, .unset] [(.ref (w 1)), (.int (1 : Int32)), (.ref b1), (.ref b1)])) rfl rfl (hb hby at_16)
  have f5_fA_b1 : Arv Z h5 b1 k1 (.object "com/example/licon/licon/search/Operator") (8 : Int32) [(.ref (w 0)), (.ref (w 1)), .null, .null, .null, .null, .null, .null] .null := Arv.set Ar5 qa5 Sz5 Nn5 Ha5 Ga5 rfl W5 1 rfl (Nat.le_of_ble_eq_true rfl)
  have K5 := K3.wr W5 hKN1
  have Z5 : n0 ≤ h5.size := Nat.le_trans Z3 (Nat.le_of_eq W5.size.symm)
  have N5 := Fr.snoc X5 N3 hG1
  obtain ⟨T6, X6, e6, st6⟩ := getS2 X5 hx hZ hown (host := "") (Or.inl (hw _ (List.mem_of_getElem? (i := 8) rfl))) Via.refl e5 K5.2.2.1 (g := (mkF m 19 #[.val (.int u0), .unset, .unset, .unset, .unset, .unset] [(.int (2 : Int32)), (.ref b1), (.ref b1)])) rfl (hb hby at_19)
  obtain ⟨cl7, Ar7, qa7, Sz7, Nn7, Ha7, Ga7⟩ := id f5_fA_b1
  have hin7 : ¬ ((2 : Int32) < 0 ∨ cl7.slots.size ≤ ((2 : Int32)).toNatClampNeg) := inb_of Sz7 ⟨by decide, by decide⟩
  obtain ⟨T7, h7, X7, e7, W7, st7⟩ := stR X6 hx hZ e6 Ar7 (j := (2 : Int32)) hin7 rfl (Sto.ofV Ar7 qa7 O1 (Ins.self K5.2.2.2.2.2.2.2.2.2.2.1)) (g := (mkF m 22 #[.val (.int u0), .unset, .unset, .unset, .unset, .unset] [(.ref (w 2)), (.int (2 : Int32)), (.ref b1), (.ref b1)])) rfl rfl (hb hby at_22)
  have f7_fA_b1 : Arv Z h7 b1 k1 (.object "com/example/licon/licon/search/Operator") (8 : Int32) [(.ref (w 0)), (.ref (w 1)), (.ref (w 2)), .null, .null, .null, .null, .null] .null := Arv.set Ar7 qa7 Sz7 Nn7 Ha7 Ga7 rfl W7 2 rfl (Nat.le_of_ble_eq_true rfl)
  have K7 := K5.wr W7 hKN1
  have Z7 : n0 ≤ h7.size := Nat.le_trans Z5 (Nat.le_of_eq W7.size.symm)
  have N7 := Fr.snoc X7 N5 hG1
  obtain ⟨T8, X8, e8, st8⟩ := getS2 X7 hx hZ hown (host := "") (Or.inl (hw _ (List.mem_of_getElem? (i := 10) rfl))) Via.refl e7 K7.2.2.2.1 (g := (mkF m 25 #[.val (.int u0), .unset, .unset, .unset, .unset, .unset] [(.int (3 : Int32)), (.ref b1), (.ref b1)])) rfl (hb hby at_25)
  obtain ⟨cl9, Ar9, qa9, Sz9, Nn9, Ha9, Ga9⟩ := id f7_fA_b1
  have hin9 : ¬ ((3 : Int32) < 0 ∨ cl9.slots.size ≤ ((3 : Int32)).toNatClampNeg) := inb_of Sz9 ⟨by decide, by decide⟩
  obtain ⟨T9, h9, X9, e9, W9, st9⟩ := stR X8 hx hZ e8 Ar9 (j := (3 : Int32)) hin9 rfl (Sto.ofV Ar9 qa9 O1 (Ins.self K7.2.2.2.2.2.2.2.2.2.2.2.1)) (g := (mkF m 28 #[.val (.int u0), .unset, .unset, .unset, .unset, .unset] [(.ref (w 3)), (.int (3 : Int32)), (.ref b1), (.ref b1)])) rfl rfl (hb hby at_28)
  have f9_fA_b1 : Arv Z h9 b1 k1 (.object "com/example/licon/licon/search/Operator") (8 : Int32) [(.ref (w 0)), (.ref (w 1)), (.ref (w 2)), (.ref (w 3)), .null, .null, .null, .null] .null := Arv.set Ar9 qa9 Sz9 Nn9 Ha9 Ga9 rfl W9 3 rfl (Nat.le_of_ble_eq_true rfl)
  have K9 := K7.wr W9 hKN1
  have Z9 : n0 ≤ h9.size := Nat.le_trans Z7 (Nat.le_of_eq W9.size.symm)
  have N9 := Fr.snoc X9 N7 hG1
  obtain ⟨T10, X10, e10, st10⟩ := getS2 X9 hx hZ hown (host := "") (Or.inl (hw _ (List.mem_of_getElem? (i := 12) rfl))) Via.refl e9 K9.2.2.2.2.1 (g := (mkF m 31 #[.val (.int u0), .unset, .unset, .unset, .unset, .unset] [(.int (4 : Int32)), (.ref b1), (.ref b1)])) rfl (hb hby at_31)
  obtain ⟨cl11, Ar11, qa11, Sz11, Nn11, Ha11, Ga11⟩ := id f9_fA_b1
  have hin11 : ¬ ((4 : Int32) < 0 ∨ cl11.slots.size ≤ ((4 : Int32)).toNatClampNeg) := inb_of Sz11 ⟨by decide, by decide⟩
  obtain ⟨T11, h11, X11, e11, W11, st11⟩ := stR X10 hx hZ e10 Ar11 (j := (4 : Int32)) hin11 rfl (Sto.ofV Ar11 qa11 O1 (Ins.self K9.2.2.2.2.2.2.2.2.2.2.2.2.1)) (g := (mkF m 34 #[.val (.int u0), .unset, .unset, .unset, .unset, .unset] [(.ref (w 4)), (.int (4 : Int32)), (.ref b1), (.ref b1)])) rfl rfl (hb hby at_34)
  have f11_fA_b1 : Arv Z h11 b1 k1 (.object "com/example/licon/licon/search/Operator") (8 : Int32) [(.ref (w 0)), (.ref (w 1)), (.ref (w 2)), (.ref (w 3)), (.ref (w 4)), .null, .null, .null] .null := Arv.set Ar11 qa11 Sz11 Nn11 Ha11 Ga11 rfl W11 4 rfl (Nat.le_of_ble_eq_true rfl)
  have K11 := K9.wr W11 hKN1
  have Z11 : n0 ≤ h11.size := Nat.le_trans Z9 (Nat.le_of_eq W11.size.symm)
  have N11 := Fr.snoc X11 N9 hG1
  obtain ⟨T12, X12, e12, st12⟩ := getS2 X11 hx hZ hown (host := "") (Or.inl (hw _ (List.mem_of_getElem? (i := 14) rfl))) Via.refl e11 K11.2.2.2.2.2.1 (g := (mkF m 37 #[.val (.int u0), .unset, .unset, .unset, .unset, .unset] [(.int (5 : Int32)), (.ref b1), (.ref b1)])) rfl (hb hby at_37)
  obtain ⟨cl13, Ar13, qa13, Sz13, Nn13, Ha13, Ga13⟩ := id f11_fA_b1
  have hin13 : ¬ ((5 : Int32) < 0 ∨ cl13.slots.size ≤ ((5 : Int32)).toNatClampNeg) := inb_of Sz13 ⟨by decide, by decide⟩
  obtain ⟨T13, h13, X13, e13, W13, st13⟩ := stR X12 hx hZ e12 Ar13 (j := (5 : Int32)) hin13 rfl (Sto.ofV Ar13 qa13 O1 (Ins.self K11.2.2.2.2.2.2.2.2.2.2.2.2.2.1)) (g := (mkF m 40 #[.val (.int u0), .unset, .unset, .unset, .unset, .unset] [(.ref (w 5)), (.int (5 : Int32)), (.ref b1), (.ref b1)])) rfl rfl (hb hby at_40)
  have f13_fA_b1 : Arv Z h13 b1 k1 (.object "com/example/licon/licon/search/Operator") (8 : Int32) [(.ref (w 0)), (.ref (w 1)), (.ref (w 2)), (.ref (w 3)), (.ref (w 4)), (.ref (w 5)), .null, .null] .null := Arv.set Ar13 qa13 Sz13 Nn13 Ha13 Ga13 rfl W13 5 rfl (Nat.le_of_ble_eq_true rfl)
  have K13 := K11.wr W13 hKN1
  have Z13 : n0 ≤ h13.size := Nat.le_trans Z11 (Nat.le_of_eq W13.size.symm)
  have N13 := Fr.snoc X13 N11 hG1
  obtain ⟨T14, X14, e14, st14⟩ := getS2 X13 hx hZ hown (host := "") (Or.inl (hw _ (List.mem_of_getElem? (i := 16) rfl))) Via.refl e13 K13.2.2.2.2.2.2.1 (g := (mkF m 44 #[.val (.int u0), .unset, .unset, .unset, .unset, .unset] [(.int (6 : Int32)), (.ref b1), (.ref b1)])) rfl (hb hby at_44)
  obtain ⟨cl15, Ar15, qa15, Sz15, Nn15, Ha15, Ga15⟩ := id f13_fA_b1
  have hin15 : ¬ ((6 : Int32) < 0 ∨ cl15.slots.size ≤ ((6 : Int32)).toNatClampNeg) := inb_of Sz15 ⟨by decide, by decide⟩
  obtain ⟨T15, h15, X15, e15, W15, st15⟩ := stR X14 hx hZ e14 Ar15 (j := (6 : Int32)) hin15 rfl (Sto.ofV Ar15 qa15 O1 (Ins.self K13.2.2.2.2.2.2.2.2.2.2.2.2.2.2.1)) (g := (mkF m 47 #[.val (.int u0), .unset, .unset, .unset, .unset, .unset] [(.ref (w 6)), (.int (6 : Int32)), (.ref b1), (.ref b1)])) rfl rfl (hb hby at_47)
  have f15_fA_b1 : Arv Z h15 b1 k1 (.object "com/example/licon/licon/search/Operator") (8 : Int32) [(.ref (w 0)), (.ref (w 1)), (.ref (w 2)), (.ref (w 3)), (.ref (w 4)), (.ref (w 5)), (.ref (w 6)), .null] .null := Arv.set Ar15 qa15 Sz15 Nn15 Ha15 Ga15 rfl W15 6 rfl (Nat.le_of_ble_eq_true rfl)
  have K15 := K13.wr W15 hKN1
  have Z15 : n0 ≤ h15.size := Nat.le_trans Z13 (Nat.le_of_eq W15.size.symm)
  have N15 := Fr.snoc X15 N13 hG1
  obtain ⟨T16, X16, e16, st16⟩ := getS2 X15 hx hZ hown (host := "") (Or.inl (hw _ (List.mem_of_getElem? (i := 18) rfl))) Via.refl e15 K15.2.2.2.2.2.2.2.1 (g := (mkF m 51 #[.val (.int u0), .unset, .unset, .unset, .unset, .unset] [(.int (7 : Int32)), (.ref b1), (.ref b1)])) rfl (hb hby at_51)
  obtain ⟨cl17, Ar17, qa17, Sz17, Nn17, Ha17, Ga17⟩ := id f15_fA_b1
  have hin17 : ¬ ((7 : Int32) < 0 ∨ cl17.slots.size ≤ ((7 : Int32)).toNatClampNeg) := inb_of Sz17 ⟨by decide, by decide⟩
  obtain ⟨T17, h17, X17, e17, W17, st17⟩ := stR X16 hx hZ e16 Ar17 (j := (7 : Int32)) hin17 rfl (Sto.ofV Ar17 qa17 O1 (Ins.self K15.2.2.2.2.2.2.2.2.2.2.2.2.2.2.2.1)) (g := (mkF m 54 #[.val (.int u0), .unset, .unset, .unset, .unset, .unset] [(.ref (w 7)), (.int (7 : Int32)), (.ref b1), (.ref b1)])) rfl rfl (hb hby at_54)
  have f17_fA_b1 : Arv Z h17 b1 k1 (.object "com/example/licon/licon/search/Operator") (8 : Int32) [(.ref (w 0)), (.ref (w 1)), (.ref (w 2)), (.ref (w 3)), (.ref (w 4)), (.ref (w 5)), (.ref (w 6)), (.ref (w 7))] .null := Arv.set Ar17 qa17 Sz17 Nn17 Ha17 Ga17 rfl W17 7 rfl (Nat.le_of_ble_eq_true rfl)
  have K17 := K15.wr W17 hKN1
  have Z17 : n0 ≤ h17.size := Nat.le_trans Z15 (Nat.le_of_eq W17.size.symm)
  have N17 := Fr.snoc X17 N15 hG1
  obtain ⟨cl18, Ar18, qa18, Sz18, Nn18, Ha18, Ga18⟩ := id f17_fA_b1
  have hin18 : ¬ ((4 : Int32) < 0 ∨ cl18.slots.size ≤ ((4 : Int32)).toNatClampNeg) := inb_of Sz18 ⟨by decide, by decide⟩
  have hat18 : cl18.slots[((4 : Int32)).toNatClampNeg]? = some (.ref (w 4)) := Has.at Ha18 hin18 rfl
  obtain ⟨cq19, kq19, qa19, qb19, qc19⟩ := isOf hZ e17 K17.2.2.2.2.2.2.2.2.2.2.2.2.1
  obtain ⟨_, _, ⟨T19, L19, kk19, n19⟩, -, X19, ⟨Lc19, hQ19, l19, y19, z19⟩, st19⟩ := X17.virtualBack hx (y := (⟨"com/example/licon/licon/search/Operator", "comparesText", "()Z"⟩ : MethodName)) (z := (⟨"com/example/licon/licon/search/Operator", "comparesText", "()Z"⟩ : MethodName)) hown (mvT hZ (hw _ (List.mem_of_getElem? (i := 20) rfl))) (mvT hZ (hw _ (List.mem_of_getElem? (i := 21) rfl))) (notFace_of_selects (args := #[]) (mvT hZ (hw _ (List.mem_of_getElem? (i := 23) rfl)))) (mvT hZ (hw _ (List.mem_of_getElem? (i := 23) rfl))) (mvT hZ (hw _ (List.mem_of_getElem? (i := 22) rfl))) (by decide) (backOf (W := 0) (rm_comparesText_15 l Z a0 hw w κ h17 n0 Z17 K17 u0 b1 k1) hZ (hw _ (List.mem_of_getElem? (i := 24) rfl)) (hw _ (List.mem_of_getElem? (i := 3) rfl)) (by decide) (by decide)) qa19 qc19 (g := (mkF m 83 #[.val (.int u0), .val (.ref b1), .val (.int (4 : Int32)), .val (.ref (w 4)), .val (.int (0 : Int32)), .unset] [(.ref (w 4))])) rfl (by rw [hml]; rfl) (Steps.refl _) (argsL := []) (rest := []) (lenOf pd_2829Z rfl) rfl (by show 2 * 0 + _ ≤ _; exact Nat.le_of_eq rfl) (hb hby at_83) (fun _ _ => ⟨rfl, e17, (by decide : 1 + 0 ≤ _), (by decide : 8 + 0 ≤ _)⟩)
  dsimp only [Pt.U, Pt.locs, Pt.cells, Pt.slots] at X19 l19 y19 z19 st19 hQ19
  subst l19 y19 z19
  obtain ⟨rfl, N19q, e19⟩ := hQ19
  have N19 := Fr.app N17 N19q
  obtain ⟨fs, hr, hrun, hended, hW, hsame⟩ := X19.leave (v := (some (.int (1 : Int32)))) (fun h => by rw [Bd.returns] at h; cases h)
  refine ⟨_, _, pre0 _ ?_, hrun, hended, _, _, rfl, ?_, ⟨_, rfl⟩, hW, hsame.mono (by decide) (by decide)⟩
  · show Steps p.tables e below (s₁.setTop (mkF m 0 #[.val (.int u0), .unset, .unset, .unset, .unset, .unset] [])) _
    refine XS.bipush X0.here hx rfl (hb hby at_0) ?_
    show Steps p.tables e below (s₁.setTop (mkF m 2 #[.val (.int u0), .unset, .unset, .unset, .unset, .unset] [(.int (8 : Int32))])) _
    refine st1 _ ?_
    show Steps p.tables e below (T1.setTop (mkF m 5 #[.val (.int u0), .unset, .unset, .unset, .unset, .unset] [(.ref b1)])) _
    refine XS.dup X1.here hx rfl (hb hby at_5) rfl rfl ?_
    show Steps p.tables e below (T1.setTop (mkF m 6 #[.val (.int u0), .unset, .unset, .unset, .unset, .unset] [(.ref b1), (.ref b1)])) _
    refine XS.iconst X1.here hx rfl (hb hby at_6) ?_
    show Steps p.tables e below (T1.setTop (mkF m 7 #[.val (.int u0), .unset, .unset, .unset, .unset, .unset] [(.int (0 : Int32)), (.ref b1), (.ref b1)])) _
    refine st2 _ ?_
    show Steps p.tables e below (T2.setTop (mkF m 10 #[.val (.int u0), .unset, .unset, .unset, .unset, .unset] [(.ref (w 0)), (.int (0 : Int32)), (.ref b1), (.ref b1)])) _
    refine st3 _ ?_
    show Steps p.tables e below (T3.setTop (mkF m 11 #[.val (.int u0), .unset, .unset, .unset, .unset, .unset] [(.ref b1)])) _
    refine XS.dup X3.here hx rfl (hb hby at_11) rfl rfl ?_
    show Steps p.tables e below (T3.setTop (mkF m 12 #[.val (.int u0), .unset, .unset, .unset, .unset, .unset] [(.ref b1), (.ref b1)])) _
    refine XS.iconst X3.here hx rfl (hb hby at_12) ?_
    show Steps p.tables e below (T3.setTop (mkF m 13 #[.val (.int u0), .unset, .unset, .unset, .unset, .unset] [(.int (1 : Int32)), (.ref b1), (.ref b1)])) _
    refine st4 _ ?_
    show Steps p.tables e below (T4.setTop (mkF m 16 #[.val (.int u0), .unset, .unset, .unset, .unset, .unset] [(.ref (w 1)), (.int (1 : Int32)), (.ref b1), (.ref b1)])) _
    refine st5 _ ?_
    show Steps p.tables e below (T5.setTop (mkF m 17 #[.val (.int u0), .unset, .unset, .unset, .unset, .unset] [(.ref b1)])) _
    refine XS.dup X5.here hx rfl (hb hby at_17) rfl rfl ?_
    show Steps p.tables e below (T5.setTop (mkF m 18 #[.val (.int u0), .unset, .unset, .unset, .unset, .unset] [(.ref b1), (.ref b1)])) _
    refine XS.iconst X5.here hx rfl (hb hby at_18) ?_
    show Steps p.tables e below (T5.setTop (mkF m 19 #[.val (.int u0), .unset, .unset, .unset, .unset, .unset] [(.int (2 : Int32)), (.ref b1), (.ref b1)])) _
    refine st6 _ ?_
    show Steps p.tables e below (T6.setTop (mkF m 22 #[.val (.int u0), .unset, .unset, .unset, .unset, .unset] [(.ref (w 2)), (.int (2 : Int32)), (.ref b1), (.ref b1)])) _
    refine st7 _ ?_
    show Steps p.tables e below (T7.setTop (mkF m 23 #[.val (.int u0), .unset, .unset, .unset, .unset, .unset] [(.ref b1)])) _
    refine XS.dup X7.here hx rfl (hb hby at_23) rfl rfl ?_
    show Steps p.tables e below (T7.setTop (mkF m 24 #[.val (.int u0), .unset, .unset, .unset, .unset, .unset] [(.ref b1), (.ref b1)])) _
    refine XS.iconst X7.here hx rfl (hb hby at_24) ?_
    show Steps p.tables e below (T7.setTop (mkF m 25 #[.val (.int u0), .unset, .unset, .unset, .unset, .unset] [(.int (3 : Int32)), (.ref b1), (.ref b1)])) _
    refine st8 _ ?_
    show Steps p.tables e below (T8.setTop (mkF m 28 #[.val (.int u0), .unset, .unset, .unset, .unset, .unset] [(.ref (w 3)), (.int (3 : Int32)), (.ref b1), (.ref b1)])) _
    refine st9 _ ?_
    show Steps p.tables e below (T9.setTop (mkF m 29 #[.val (.int u0), .unset, .unset, .unset, .unset, .unset] [(.ref b1)])) _
    refine XS.dup X9.here hx rfl (hb hby at_29) rfl rfl ?_
    show Steps p.tables e below (T9.setTop (mkF m 30 #[.val (.int u0), .unset, .unset, .unset, .unset, .unset] [(.ref b1), (.ref b1)])) _
    refine XS.iconst X9.here hx rfl (hb hby at_30) ?_
    show Steps p.tables e below (T9.setTop (mkF m 31 #[.val (.int u0), .unset, .unset, .unset, .unset, .unset] [(.int (4 : Int32)), (.ref b1), (.ref b1)])) _
    refine st10 _ ?_
    show Steps p.tables e below (T10.setTop (mkF m 34 #[.val (.int u0), .unset, .unset, .unset, .unset, .unset] [(.ref (w 4)), (.int (4 : Int32)), (.ref b1), (.ref b1)])) _
    refine st11 _ ?_
    show Steps p.tables e below (T11.setTop (mkF m 35 #[.val (.int u0), .unset, .unset, .unset, .unset, .unset] [(.ref b1)])) _
    refine XS.dup X11.here hx rfl (hb hby at_35) rfl rfl ?_
    show Steps p.tables e below (T11.setTop (mkF m 36 #[.val (.int u0), .unset, .unset, .unset, .unset, .unset] [(.ref b1), (.ref b1)])) _
    refine XS.iconst X11.here hx rfl (hb hby at_36) ?_
    show Steps p.tables e below (T11.setTop (mkF m 37 #[.val (.int u0), .unset, .unset, .unset, .unset, .unset] [(.int (5 : Int32)), (.ref b1), (.ref b1)])) _
    refine st12 _ ?_
    show Steps p.tables e below (T12.setTop (mkF m 40 #[.val (.int u0), .unset, .unset, .unset, .unset, .unset] [(.ref (w 5)), (.int (5 : Int32)), (.ref b1), (.ref b1)])) _
    refine st13 _ ?_
    show Steps p.tables e below (T13.setTop (mkF m 41 #[.val (.int u0), .unset, .unset, .unset, .unset, .unset] [(.ref b1)])) _
    refine XS.dup X13.here hx rfl (hb hby at_41) rfl rfl ?_
    show Steps p.tables e below (T13.setTop (mkF m 42 #[.val (.int u0), .unset, .unset, .unset, .unset, .unset] [(.ref b1), (.ref b1)])) _
    refine XS.bipush X13.here hx rfl (hb hby at_42) ?_
    show Steps p.tables e below (T13.setTop (mkF m 44 #[.val (.int u0), .unset, .unset, .unset, .unset, .unset] [(.int (6 : Int32)), (.ref b1), (.ref b1)])) _
    refine st14 _ ?_
    show Steps p.tables e below (T14.setTop (mkF m 47 #[.val (.int u0), .unset, .unset, .unset, .unset, .unset] [(.ref (w 6)), (.int (6 : Int32)), (.ref b1), (.ref b1)])) _
    refine st15 _ ?_
    show Steps p.tables e below (T15.setTop (mkF m 48 #[.val (.int u0), .unset, .unset, .unset, .unset, .unset] [(.ref b1)])) _
    refine XS.dup X15.here hx rfl (hb hby at_48) rfl rfl ?_
    show Steps p.tables e below (T15.setTop (mkF m 49 #[.val (.int u0), .unset, .unset, .unset, .unset, .unset] [(.ref b1), (.ref b1)])) _
    refine XS.bipush X15.here hx rfl (hb hby at_49) ?_
    show Steps p.tables e below (T15.setTop (mkF m 51 #[.val (.int u0), .unset, .unset, .unset, .unset, .unset] [(.int (7 : Int32)), (.ref b1), (.ref b1)])) _
    refine st16 _ ?_
    show Steps p.tables e below (T16.setTop (mkF m 54 #[.val (.int u0), .unset, .unset, .unset, .unset, .unset] [(.ref (w 7)), (.int (7 : Int32)), (.ref b1), (.ref b1)])) _
    refine st17 _ ?_
    show Steps p.tables e below (T17.setTop (mkF m 55 #[.val (.int u0), .unset, .unset, .unset, .unset, .unset] [(.ref b1)])) _
    refine XS.astoreN X17.here hx rfl (hb hby at_55) rfl rfl (l' := #[.val (.int u0), .val (.ref b1), .unset, .unset, .unset, .unset]) rfl ?_
    show Steps p.tables e below (T17.setTop (mkF m 56 #[.val (.int u0), .val (.ref b1), .unset, .unset, .unset, .unset] [])) _
    refine XS.iloadN X17.here hx rfl (hb hby at_56) rfl ?_
    show Steps p.tables e below (T17.setTop (mkF m 57 #[.val (.int u0), .val (.ref b1), .unset, .unset, .unset, .unset] [(.int u0)])) _
    refine XS.bipush X17.here hx rfl (hb hby at_57) ?_
    show Steps p.tables e below (T17.setTop (mkF m 59 #[.val (.int u0), .val (.ref b1), .unset, .unset, .unset, .unset] [(.int (7 : Int32)), (.int u0)])) _
    refine XS.iand X17.here hx rfl (hb hby at_59) rfl ?_
    show Steps p.tables e below (T17.setTop (mkF m 60 #[.val (.int u0), .val (.ref b1), .unset, .unset, .unset, .unset] [(.int (u0 &&& (7 : Int32)))])) _
    rw [hk0]
    show Steps p.tables e below (T17.setTop (mkF m 60 #[.val (.int u0), .val (.ref b1), .unset, .unset, .unset, .unset] [(.int (4 : Int32))])) _
    refine XS.istoreN X17.here hx rfl (hb hby at_60) rfl (l' := #[.val (.int u0), .val (.ref b1), .val (.int (4 : Int32)), .unset, .unset, .unset]) rfl ?_
    show Steps p.tables e below (T17.setTop (mkF m 61 #[.val (.int u0), .val (.ref b1), .val (.int (4 : Int32)), .unset, .unset, .unset] [])) _
    refine XS.aloadN X17.here hx rfl (hb hby at_61) rfl rfl ?_
    show Steps p.tables e below (T17.setTop (mkF m 62 #[.val (.int u0), .val (.ref b1), .val (.int (4 : Int32)), .unset, .unset, .unset] [(.ref b1)])) _
    refine XS.iloadN X17.here hx rfl (hb hby at_62) rfl ?_
    show Steps p.tables e below (T17.setTop (mkF m 63 #[.val (.int u0), .val (.ref b1), .val (.int (4 : Int32)), .unset, .unset, .unset] [(.int (4 : Int32)), (.ref b1)])) _
    refine X17.aaload hx (j := (4 : Int32)) (v := (.ref (w 4))) (by rw [e17]; exact Ar18.1) (State.isArrayOf_alike hZ.alike Ar18.2.1) rfl Ar18.2.2 hin18 hat18 (g := (mkF m 63 #[.val (.int u0), .val (.ref b1), .val (.int (4 : Int32)), .unset, .unset, .unset] [(.int (4 : Int32)), (.ref b1)])) rfl rfl (hb hby at_63) _ ?_
    show Steps p.tables e below (T17.setTop (mkF m 64 #[.val (.int u0), .val (.ref b1), .val (.int (4 : Int32)), .unset, .unset, .unset] [(.ref (w 4))])) _
    refine XS.astoreN X17.here hx rfl (hb hby at_64) rfl rfl (l' := #[.val (.int u0), .val (.ref b1), .val (.int (4 : Int32)), .val (.ref (w 4)), .unset, .unset]) rfl ?_
    show Steps p.tables e below (T17.setTop (mkF m 65 #[.val (.int u0), .val (.ref b1), .val (.int (4 : Int32)), .val (.ref (w 4)), .unset, .unset] [])) _
    refine XS.iloadN X17.here hx rfl (hb hby at_65) rfl ?_
    show Steps p.tables e below (T17.setTop (mkF m 66 #[.val (.int u0), .val (.ref b1), .val (.int (4 : Int32)), .val (.ref (w 4)), .unset, .unset] [(.int (4 : Int32))])) _
    refine XS.iconst X17.here hx rfl (hb hby at_66) ?_
    show Steps p.tables e below (T17.setTop (mkF m 67 #[.val (.int u0), .val (.ref b1), .val (.int (4 : Int32)), .val (.ref (w 4)), .unset, .unset] [(.int (2 : Int32)), (.int (4 : Int32))])) _
    refine XS.icmpNo X17.here hx rfl (hb hby at_67) rfl (feq (by decide : ¬ ((4 : Int32) = (2 : Int32)))).1 ?_
    show Steps p.tables e below (T17.setTop (mkF m 70 #[.val (.int u0), .val (.ref b1), .val (.int (4 : Int32)), .val (.ref (w 4)), .unset, .unset] [])) _
    refine XS.iloadN X17.here hx rfl (hb hby at_70) rfl ?_
    show Steps p.tables e below (T17.setTop (mkF m 71 #[.val (.int u0), .val (.ref b1), .val (.int (4 : Int32)), .val (.ref (w 4)), .unset, .unset] [(.int (4 : Int32))])) _
    refine XS.iconst X17.here hx rfl (hb hby at_71) ?_
    show Steps p.tables e below (T17.setTop (mkF m 72 #[.val (.int u0), .val (.ref b1), .val (.int (4 : Int32)), .val (.ref (w 4)), .unset, .unset] [(.int (3 : Int32)), (.int (4 : Int32))])) _
    refine XS.icmpYes X17.here hx rfl (pc0 := 72) (pc' := 79) rfl (hb hby at_72) rfl (feq (by decide : ¬ ((4 : Int32) = (3 : Int32)))).2 (by decide) (by decide) ?_
    show Steps p.tables e below (T17.setTop (mkF m 79 #[.val (.int u0), .val (.ref b1), .val (.int (4 : Int32)), .val (.ref (w 4)), .unset, .unset] [])) _
    refine XS.iconst X17.here hx rfl (hb hby at_79) ?_
    show Steps p.tables e below (T17.setTop (mkF m 80 #[.val (.int u0), .val (.ref b1), .val (.int (4 : Int32)), .val (.ref (w 4)), .unset, .unset] [(.int (0 : Int32))])) _
    refine XS.istore X17.here hx rfl (hb hby at_80) rfl (l' := #[.val (.int u0), .val (.ref b1), .val (.int (4 : Int32)), .val (.ref (w 4)), .val (.int (0 : Int32)), .unset]) rfl ?_
    show Steps p.tables e below (T17.setTop (mkF m 82 #[.val (.int u0), .val (.ref b1), .val (.int (4 : Int32)), .val (.ref (w 4)), .val (.int (0 : Int32)), .unset] [])) _
    refine XS.aloadN X17.here hx rfl (hb hby at_82) rfl rfl ?_
    show Steps p.tables e below (T17.setTop (mkF m 83 #[.val (.int u0), .val (.ref b1), .val (.int (4 : Int32)), .val (.ref (w 4)), .val (.int (0 : Int32)), .unset] [(.ref (w 4))])) _
    refine st19.trans ?_
    show Steps p.tables e below (T19.setTop (mkF m 86 #[.val (.int u0), .val (.ref b1), .val (.int (4 : Int32)), .val (.ref (w 4)), .val (.int (0 : Int32)), .unset] [(.int (0 : Int32))])) _
    refine XS.istore X19.here hx rfl (hb hby at_86) rfl (l' := #[.val (.int u0), .val (.ref b1), .val (.int (4 : Int32)), .val (.ref (w 4)), .val (.int (0 : Int32)), .val (.int (0 : Int32))]) rfl ?_
    show Steps p.tables e below (T19.setTop (mkF m 88 #[.val (.int u0), .val (.ref b1), .val (.int (4 : Int32)), .val (.ref (w 4)), .val (.int (0 : Int32)), .val (.int (0 : Int32))] [])) _
    refine XS.iload X19.here hx rfl (hb hby at_88) rfl ?_
    show Steps p.tables e below (T19.setTop (mkF m 90 #[.val (.int u0), .val (.ref b1), .val (.int (4 : Int32)), .val (.ref (w 4)), .val (.int (0 : Int32)), .val (.int (0 : Int32))] [(.int (0 : Int32))])) _
    refine XS.iload X19.here hx rfl (hb hby at_90) rfl ?_
    show Steps p.tables e below (T19.setTop (mkF m 92 #[.val (.int u0), .val (.ref b1), .val (.int (4 : Int32)), .val (.ref (w 4)), .val (.int (0 : Int32)), .val (.int (0 : Int32))] [(.int (0 : Int32)), (.int (0 : Int32))])) _
    refine XS.icmpYes X19.here hx rfl (pc0 := 92) (pc' := 97) rfl (hb hby at_92) rfl (teq (by decide : (0 : Int32) = (0 : Int32))).1 (by decide) (by decide) ?_
    show Steps p.tables e below (T19.setTop (mkF m 97 #[.val (.int u0), .val (.ref b1), .val (.int (4 : Int32)), .val (.ref (w 4)), .val (.int (0 : Int32)), .val (.int (0 : Int32))] [])) _
    refine XS.iload X19.here hx rfl (hb hby at_97) rfl ?_
    show Steps p.tables e below (T19.setTop (mkF m 99 #[.val (.int u0), .val (.ref b1), .val (.int (4 : Int32)), .val (.ref (w 4)), .val (.int (0 : Int32)), .val (.int (0 : Int32))] [(.int (0 : Int32))])) _
    refine XS.ifYes X19.here hx rfl (pc0 := 99) (pc' := 131) rfl (hb hby at_99) rfl ((if0 _ _).trans (teq (by decide : (0 : Int32) = (0 : Int32))).1) (by decide) (by decide) ?_
    show Steps p.tables e below (T19.setTop (mkF m 131 #[.val (.int u0), .val (.ref b1), .val (.int (4 : Int32)), .val (.ref (w 4)), .val (.int (0 : Int32)), .val (.int (0 : Int32))] [])) _
    refine XS.iconst X19.here hx rfl (hb hby at_131) ?_
    show Steps p.tables e below (T19.setTop (mkF m 132 #[.val (.int u0), .val (.ref b1), .val (.int (4 : Int32)), .val (.ref (w 4)), .val (.int (0 : Int32)), .val (.int (0 : Int32))] [(.int (1 : Int32))])) _
    exact retN X19 hx (t := .boolean) Bd.returns (by simp) (hb hby at_132) hr
  · exact ⟨rfl, N19⟩
set_option maxRecDepth 65536 in
set_option maxHeartbeats 40000000 in
theorem rm_comparesText_17 (l : Launch) (Z : State) (a0 : Array Value) (hw : ∀ d ∈ tables_1, d.before a0 Z = true) (w : Nat → Addr) (κ : Nat → ClassId) (h0 : Heap) (n0 : Nat) (Z0 : n0 ≤ h0.size) (K : Kon Z h0 w κ) (u0 : Int32) (b1 : Addr) (k1 : ClassId) :
    OM l Z (⟨"com/example/licon/licon/search/Operator", "comparesText", "()Z"⟩ : MethodName) prog_9_method_6_code 1 (some .boolean) [] ({ frames := 0, cells := 0, slots := 0, locals := 0 } : Room) #[(.ref (w 5))] h0 (OP (some (.int (0 : Int32))) n0 h0) := by
  refine MetFree.of_bodySF (plainFor_of_name pn_com_example_licon_licon_search_Operator) hisR ?_
  intro p e s m args below meth c s₁ Bd hml0 hP hK
  obtain ⟨rfl, hZ, hh⟩ := hP
  have hx := Bd.exec
  have hby := Bd.bytes
  have hml : c.maxLocals = 1 := hml0
  have hown : s.vm.findClass "com/example/licon/licon/search/Operator" = some m.cls := findClass_of_methodNamed Bd.named
  have hnm := (name_of_methodNamed Bd.named Bd.method).1
  have X0 : Stand p l e ({ frames := 0, cells := 0, slots := 0, locals := 0 } : Room) s m #[(.ref (w 5))] below meth c s₁ [] 0 0 := Stand.of_body Bd
  have e0 : s₁.heap = h0 := by rw [← hh, Bd.state]; rfl
  have N0 := Fr.nil n0
  have pre0 : ∀ t, Steps p.tables e below (s₁.setTop (mkF m 0 #[.val (.ref (w 5))] [])) t → Steps p.tables e below (s₁.setTop (entryFrame m #[(.ref (w 5))] 1)) t := fun t k => castTop (by first | rfl | simp [entryFrame, mkF, argsToLocals, Value.category]) k
  obtain ⟨T1, X1, e1, st1⟩ := getS2 X0 hx hZ hown (host := "") (Or.inl (hw _ (List.mem_of_getElem? (i := 25) rfl))) Via.refl e0 K.2.2.1 (g := (mkF m 1 #[.val (.ref (w 5))] [(.ref (w 5))])) rfl (hb hby d_prog_9_method_6_code_1)
  obtain ⟨T2, X2, e2, st2⟩ := getS2 X1 hx hZ hown (host := "") (Or.inl (hw _ (List.mem_of_getElem? (i := 26) rfl))) Via.refl e1 K.2.2.2.1 (g := (mkF m 8 #[.val (.ref (w 5))] [(.ref (w 5))])) rfl (hb hby d_prog_9_method_6_code_8)
  obtain ⟨fs, hr, hrun, hended, hW, hsame⟩ := X2.leave (v := (some (.int (0 : Int32)))) (fun h => by rw [Bd.returns] at h; cases h)
  refine ⟨_, _, pre0 _ ?_, hrun, hended, _, _, rfl, ?_, ⟨_, rfl⟩, hW, hsame.mono (by decide) (by decide)⟩
  · show Steps p.tables e below (s₁.setTop (mkF m 0 #[.val (.ref (w 5))] [])) _
    refine XS.aloadN X0.here hx rfl (hb hby d_prog_9_method_6_code_0) rfl rfl ?_
    show Steps p.tables e below (s₁.setTop (mkF m 1 #[.val (.ref (w 5))] [(.ref (w 5))])) _
    refine st1 _ ?_
    show Steps p.tables e below (T1.setTop (mkF m 4 #[.val (.ref (w 5))] [(.ref (w 2)), (.ref (w 5))])) _
    refine Jvm.RoadKit.acmp (g := (mkF m 4 #[.val (.ref (w 5))] [(.ref (w 2)), (.ref (w 5))])) X1 hx rfl rfl rfl (pc0 := 4) (pc' := 7) (same := false) rfl (hb hby d_prog_9_method_6_code_4) rfl (decide_eq_false fun q => (K.2.2.2.2.2.2.2.2.2.2.2.2.2.2.2.2.2.2.2.2.2.2.2.2.2.2.2.2.2.1.ne K.2.2.2.2.2.2.2.2.2.2.2.2.2.2.2.2.2.1 (by decide)) (Value.ref.inj q)) (by decide) (by decide) ?_
    show Steps p.tables e below (T1.setTop (mkF m 7 #[.val (.ref (w 5))] [])) _
    refine XS.aloadN X1.here hx rfl (hb hby d_prog_9_method_6_code_7) rfl rfl ?_
    show Steps p.tables e below (T1.setTop (mkF m 8 #[.val (.ref (w 5))] [(.ref (w 5))])) _
    refine st2 _ ?_
    show Steps p.tables e below (T2.setTop (mkF m 11 #[.val (.ref (w 5))] [(.ref (w 3)), (.ref (w 5))])) _
    refine Jvm.RoadKit.acmp (g := (mkF m 11 #[.val (.ref (w 5))] [(.ref (w 3)), (.ref (w 5))])) X2 hx rfl rfl rfl (pc0 := 11) (pc' := 18) (same := false) rfl (hb hby d_prog_9_method_6_code_11) rfl (decide_eq_false fun q => (K.2.2.2.2.2.2.2.2.2.2.2.2.2.2.2.2.2.2.2.2.2.2.2.2.2.2.2.2.2.1.ne K.2.2.2.2.2.2.2.2.2.2.2.2.2.2.2.2.2.2.1 (by decide)) (Value.ref.inj q)) (by decide) (by decide) ?_
    show Steps p.tables e below (T2.setTop (mkF m 18 #[.val (.ref (w 5))] [])) _
    refine XS.iconst X2.here hx rfl (hb hby d_prog_9_method_6_code_18) ?_
    show Steps p.tables e below (T2.setTop (mkF m 19 #[.val (.ref (w 5))] [(.int (0 : Int32))])) _
    exact retN X2 hx (t := .boolean) Bd.returns (by simp) (hb hby d_prog_9_method_6_code_19) hr
  · exact ⟨rfl, N0, e2⟩
set_option maxRecDepth 65536 in
set_option maxHeartbeats 40000000 in
theorem rm0_18 (l : Launch) (Z : State) (a0 : Array Value) (hw : ∀ d ∈ tables_1, d.before a0 Z = true) (w : Nat → Addr) (κ : Nat → ClassId) (h0 : Heap) (n0 : Nat) (Z0 : n0 ≤ h0.size) (K : Kon Z h0 w κ) (u0 : Int32) (hk0 : (u0 &&& (7 : Int32)) = (5 : Int32)) :
    OM l Z x code maxLocals ret tables_1 room_1 #[(.int u0)] h0 (OF (some (.int (1 : Int32))) n0) := by
  refine MetFree.of_bodySF (plainFor_of_name pn_com_example_licon_licon_search_OperatorComparesTextPinLaw) hisR ?_
  intro p e s m args below meth c s₁ Bd hml0 hP hK
  obtain ⟨rfl, hZ, hh⟩ := hP
  have hx := Bd.exec
  have hby := Bd.bytes
  have hml : c.maxLocals = 6 := hml0
  have hown : s.vm.findClass "com/example/licon/licon/search/OperatorComparesTextPinLaw" = some m.cls := findClass_of_methodNamed Bd.named
  have hnm := (name_of_methodNamed Bd.named Bd.method).1
  have X0 : Stand p l e room_1 s m #[(.int u0)] below meth c s₁ [] 0 0 := Stand.of_body Bd
  have e0 : s₁.heap = h0 := by rw [← hh, Bd.state]; rfl
  have N0 := Fr.nil n0
  have pre0 : ∀ t, Steps p.tables e below (s₁.setTop (mkF m 0 #[.val (.int u0), .unset, .unset, .unset, .unset, .unset] [])) t → Steps p.tables e below (s₁.setTop (entryFrame m #[(.int u0)] maxLocals)) t := fun t k => castTop (by first | rfl | simp [entryFrame, mkF, argsToLocals, Value.category, maxLocals]) k
  obtain ⟨T1, h1, k1, X1, e1, E1, A1, O1, st1⟩ := newR X0 hx hZ hown (hw _ (List.mem_of_getElem? (i := 0) rfl)) (hw _ (List.mem_of_getElem? (i := 1) rfl)) e0 (g := (mkF m 2 #[.val (.int u0), .unset, .unset, .unset, .unset, .unset] [(.int (8 : Int32))])) rfl (hb hby at_2) rfl (by decide) (cap := 8) (by decide) (by decide) (by decide) (by decide)
  obtain ⟨b1, g1⟩ : ∃ z, z = h0.size := ⟨_, rfl⟩
  rw [← g1] at A1 st1
  have hG1 : n0 ≤ b1 := Nat.le_trans Z0 (Nat.le_of_eq g1.symm)
  have hKN1 : ∀ i, i < 8 → w i ≠ b1 := fun i hi => by rw [g1]; exact Nat.ne_of_lt (K.lt i hi)
  have K1 := K.ext E1
  have Z1 : n0 ≤ h1.size := Nat.le_trans Z0 E1.1
  have V1 : Arv Z h1 b1 k1 (.object "com/example/licon/licon/search/Operator") (8 : Int32) [.null, .null, .null, .null, .null, .null, .null, .null] .null := (Arv.new A1 (by decide)).pad (pad_rep [] .null 8)
  obtain ⟨T2, X2, e2, st2⟩ := getS2 X1 hx hZ hown (host := "") (Or.inl (hw _ (List.mem_of_getElem? (i := 2) rfl))) Via.refl e1 K1.1 (g := (mkF m 7 #[.val (.int u0), .unset, .unset, .unset, .unset, .unset] [(.int (0 : Int32)), (.ref b1), (.ref b1)])) rfl (hb hby at_7)
  obtain ⟨cl3, Ar3, qa3, Sz3, Nn3, Ha3, Ga3⟩ := id V1
  have hin3 : ¬ ((0 : Int32) < 0 ∨ cl3.slots.size ≤ ((0 : Int32)).toNatClampNeg) := inb_of Sz3 ⟨by decide, by decide⟩
  obtain ⟨T3, h3, X3, e3, W3, st3⟩ := stR X2 hx hZ e2 Ar3 (j := (0 : Int32)) hin3 rfl (Sto.ofV Ar3 qa3 O1 (Ins.self K1.2.2.2.2.2.2.2.2.1)) (g := (mkF m 10 #[.val (.int u0), .unset, .unset, .unset, .unset, .unset] [(.ref (w 0)), (.int (0 : Int32)), (.ref b1), (.ref b1)])) rfl rfl (hb hby at_10)
  have f3_fA_b1 : Arv Z h3 b1 k1 (.object "com/example/licon/licon/search/Operator") (8 : Int32) [(.ref (w 0)), .null, .null, .null, .null, .null, .null, .null] .null := Arv.set Ar3 qa3 Sz3 Nn3 Ha3 Ga3 rfl W3 0 rfl (Nat.le_of_ble_eq_true rfl)
  have K3 := K1.wr W3 hKN1
  have Z3 : n0 ≤ h3.size := Nat.le_trans Z1 (Nat.le_of_eq W3.size.symm)
  have N3 := Fr.snoc X3 N0 hG1
  obtain ⟨T4, X4, e4, st4⟩ := getS2 X3 hx hZ hown (host := "") (Or.inl (hw _ (List.mem_of_getElem? (i := 6) rfl))) Via.refl e3 K3.2.1 (g := (mkF m 13 #[.val (.int u0), .unset, .unset, .unset, .unset, .unset] [(.int (1 : Int32)), (.ref b1), (.ref b1)])) rfl (hb hby at_13)
  obtain ⟨cl5, Ar5, qa5, Sz5, Nn5, Ha5, Ga5⟩ := id f3_fA_b1
  have hin5 : ¬ ((1 : Int32) < 0 ∨ cl5.slots.size ≤ ((1 : Int32)).toNatClampNeg) := inb_of Sz5 ⟨by decide, by decide⟩
  obtain ⟨T5, h5, X5, e5, W5, st5⟩ := stR X4 hx hZ e4 Ar5 (j := (1 : Int32)) hin5 rfl (Sto.ofV Ar5 qa5 O1 (Ins.self K3.2.2.2.2.2.2.2.2.2.1)) (g := (mkF m 16 #[.val (.int u0), .unset, .unset, .unset, .unset, .unset] [(.ref (w 1)), (.int (1 : Int32)), (.ref b1), (.ref b1)])) rfl rfl (hb hby at_16)
  have f5_fA_b1 : Arv Z h5 b1 k1 (.object "com/example/licon/licon/search/Operator") (8 : Int32) [(.ref (w 0)), (.ref (w 1)), .null, .null, .null, .null, .null, .null] .null := Arv.set Ar5 qa5 Sz5 Nn5 Ha5 Ga5 rfl W5 1 rfl (Nat.le_of_ble_eq_true rfl)
  have K5 := K3.wr W5 hKN1
  have Z5 : n0 ≤ h5.size := Nat.le_trans Z3 (Nat.le_of_eq W5.size.symm)
  have N5 := Fr.snoc X5 N3 hG1
  obtain ⟨T6, X6, e6, st6⟩ := getS2 X5 hx hZ hown (host := "") (Or.inl (hw _ (List.mem_of_getElem? (i := 8) rfl))) Via.refl e5 K5.2.2.1 (g := (mkF m 19 #[.val (.int u0), .unset, .unset, .unset, .unset, .unset] [(.int (2 : Int32)), (.ref b1), (.ref b1)])) rfl (hb hby at_19)
  obtain ⟨cl7, Ar7, qa7, Sz7, Nn7, Ha7, Ga7⟩ := id f5_fA_b1
  have hin7 : ¬ ((2 : Int32) < 0 ∨ cl7.slots.size ≤ ((2 : Int32)).toNatClampNeg) := inb_of Sz7 ⟨by decide, by decide⟩
  obtain ⟨T7, h7, X7, e7, W7, st7⟩ := stR X6 hx hZ e6 Ar7 (j := (2 : Int32)) hin7 rfl (Sto.ofV Ar7 qa7 O1 (Ins.self K5.2.2.2.2.2.2.2.2.2.2.1)) (g := (mkF m 22 #[.val (.int u0), .unset, .unset, .unset, .unset, .unset] [(.ref (w 2)), (.int (2 : Int32)), (.ref b1), (.ref b1)])) rfl rfl (hb hby at_22)
  have f7_fA_b1 : Arv Z h7 b1 k1 (.object "com/example/licon/licon/search/Operator") (8 : Int32) [(.ref (w 0)), (.ref (w 1)), (.ref (w 2)), .null, .null, .null, .null, .null] .null := Arv.set Ar7 qa7 Sz7 Nn7 Ha7 Ga7 rfl W7 2 rfl (Nat.le_of_ble_eq_true rfl)
  have K7 := K5.wr W7 hKN1
  have Z7 : n0 ≤ h7.size := Nat.le_trans Z5 (Nat.le_of_eq W7.size.symm)
  have N7 := Fr.snoc X7 N5 hG1
  obtain ⟨T8, X8, e8, st8⟩ := getS2 X7 hx hZ hown (host := "") (Or.inl (hw _ (List.mem_of_getElem? (i := 10) rfl))) Via.refl e7 K7.2.2.2.1 (g := (mkF m 25 #[.val (.int u0), .unset, .unset, .unset, .unset, .unset] [(.int (3 : Int32)), (.ref b1), (.ref b1)])) rfl (hb hby at_25)
  obtain ⟨cl9, Ar9, qa9, Sz9, Nn9, Ha9, Ga9⟩ := id f7_fA_b1
  have hin9 : ¬ ((3 : Int32) < 0 ∨ cl9.slots.size ≤ ((3 : Int32)).toNatClampNeg) := inb_of Sz9 ⟨by decide, by decide⟩
  obtain ⟨T9, h9, X9, e9, W9, st9⟩ := stR X8 hx hZ e8 Ar9 (j := (3 : Int32)) hin9 rfl (Sto.ofV Ar9 qa9 O1 (Ins.self K7.2.2.2.2.2.2.2.2.2.2.2.1)) (g := (mkF m 28 #[.val (.int u0), .unset, .unset, .unset, .unset, .unset] [(.ref (w 3)), (.int (3 : Int32)), (.ref b1), (.ref b1)])) rfl rfl (hb hby at_28)
  have f9_fA_b1 : Arv Z h9 b1 k1 (.object "com/example/licon/licon/search/Operator") (8 : Int32) [(.ref (w 0)), (.ref (w 1)), (.ref (w 2)), (.ref (w 3)), .null, .null, .null, .null] .null := Arv.set Ar9 qa9 Sz9 Nn9 Ha9 Ga9 rfl W9 3 rfl (Nat.le_of_ble_eq_true rfl)
  have K9 := K7.wr W9 hKN1
  have Z9 : n0 ≤ h9.size := Nat.le_trans Z7 (Nat.le_of_eq W9.size.symm)
  have N9 := Fr.snoc X9 N7 hG1
  obtain ⟨T10, X10, e10, st10⟩ := getS2 X9 hx hZ hown (host := "") (Or.inl (hw _ (List.mem_of_getElem? (i := 12) rfl))) Via.refl e9 K9.2.2.2.2.1 (g := (mkF m 31 #[.val (.int u0), .unset, .unset, .unset, .unset, .unset] [(.int (4 : Int32)), (.ref b1), (.ref b1)])) rfl (hb hby at_31)
  obtain ⟨cl11, Ar11, qa11, Sz11, Nn11, Ha11, Ga11⟩ := id f9_fA_b1
  have hin11 : ¬ ((4 : Int32) < 0 ∨ cl11.slots.size ≤ ((4 : Int32)).toNatClampNeg) := inb_of Sz11 ⟨by decide, by decide⟩
  obtain ⟨T11, h11, X11, e11, W11, st11⟩ := stR X10 hx hZ e10 Ar11 (j := (4 : Int32)) hin11 rfl (Sto.ofV Ar11 qa11 O1 (Ins.self K9.2.2.2.2.2.2.2.2.2.2.2.2.1)) (g := (mkF m 34 #[.val (.int u0), .unset, .unset, .unset, .unset, .unset] [(.ref (w 4)), (.int (4 : Int32)), (.ref b1), (.ref b1)])) rfl rfl (hb hby at_34)
  have f11_fA_b1 : Arv Z h11 b1 k1 (.object "com/example/licon/licon/search/Operator") (8 : Int32) [(.ref (w 0)), (.ref (w 1)), (.ref (w 2)), (.ref (w 3)), (.ref (w 4)), .null, .null, .null] .null := Arv.set Ar11 qa11 Sz11 Nn11 Ha11 Ga11 rfl W11 4 rfl (Nat.le_of_ble_eq_true rfl)
  have K11 := K9.wr W11 hKN1
  have Z11 : n0 ≤ h11.size := Nat.le_trans Z9 (Nat.le_of_eq W11.size.symm)
  have N11 := Fr.snoc X11 N9 hG1
  obtain ⟨T12, X12, e12, st12⟩ := getS2 X11 hx hZ hown (host := "") (Or.inl (hw _ (List.mem_of_getElem? (i := 14) rfl))) Via.refl e11 K11.2.2.2.2.2.1 (g := (mkF m 37 #[.val (.int u0), .unset, .unset, .unset, .unset, .unset] [(.int (5 : Int32)), (.ref b1), (.ref b1)])) rfl (hb hby at_37)
  obtain ⟨cl13, Ar13, qa13, Sz13, Nn13, Ha13, Ga13⟩ := id f11_fA_b1
  have hin13 : ¬ ((5 : Int32) < 0 ∨ cl13.slots.size ≤ ((5 : Int32)).toNatClampNeg) := inb_of Sz13 ⟨by decide, by decide⟩
  obtain ⟨T13, h13, X13, e13, W13, st13⟩ := stR X12 hx hZ e12 Ar13 (j := (5 : Int32)) hin13 rfl (Sto.ofV Ar13 qa13 O1 (Ins.self K11.2.2.2.2.2.2.2.2.2.2.2.2.2.1)) (g := (mkF m 40 #[.val (.int u0), .unset, .unset, .unset, .unset, .unset] [(.ref (w 5)), (.int (5 : Int32)), (.ref b1), (.ref b1)])) rfl rfl (hb hby at_40)
  have f13_fA_b1 : Arv Z h13 b1 k1 (.object "com/example/licon/licon/search/Operator") (8 : Int32) [(.ref (w 0)), (.ref (w 1)), (.ref (w 2)), (.ref (w 3)), (.ref (w 4)), (.ref (w 5)), .null, .null] .null := Arv.set Ar13 qa13 Sz13 Nn13 Ha13 Ga13 rfl W13 5 rfl (Nat.le_of_ble_eq_true rfl)
  have K13 := K11.wr W13 hKN1
  have Z13 : n0 ≤ h13.size := Nat.le_trans Z11 (Nat.le_of_eq W13.size.symm)
  have N13 := Fr.snoc X13 N11 hG1
  obtain ⟨T14, X14, e14, st14⟩ := getS2 X13 hx hZ hown (host := "") (Or.inl (hw _ (List.mem_of_getElem? (i := 16) rfl))) Via.refl e13 K13.2.2.2.2.2.2.1 (g := (mkF m 44 #[.val (.int u0), .unset, .unset, .unset, .unset, .unset] [(.int (6 : Int32)), (.ref b1), (.ref b1)])) rfl (hb hby at_44)
  obtain ⟨cl15, Ar15, qa15, Sz15, Nn15, Ha15, Ga15⟩ := id f13_fA_b1
  have hin15 : ¬ ((6 : Int32) < 0 ∨ cl15.slots.size ≤ ((6 : Int32)).toNatClampNeg) := inb_of Sz15 ⟨by decide, by decide⟩
  obtain ⟨T15, h15, X15, e15, W15, st15⟩ := stR X14 hx hZ e14 Ar15 (j := (6 : Int32)) hin15 rfl (Sto.ofV Ar15 qa15 O1 (Ins.self K13.2.2.2.2.2.2.2.2.2.2.2.2.2.2.1)) (g := (mkF m 47 #[.val (.int u0), .unset, .unset, .unset, .unset, .unset] [(.ref (w 6)), (.int (6 : Int32)), (.ref b1), (.ref b1)])) rfl rfl (hb hby at_47)
  have f15_fA_b1 : Arv Z h15 b1 k1 (.object "com/example/licon/licon/search/Operator") (8 : Int32) [(.ref (w 0)), (.ref (w 1)), (.ref (w 2)), (.ref (w 3)), (.ref (w 4)), (.ref (w 5)), (.ref (w 6)), .null] .null := Arv.set Ar15 qa15 Sz15 Nn15 Ha15 Ga15 rfl W15 6 rfl (Nat.le_of_ble_eq_true rfl)
  have K15 := K13.wr W15 hKN1
  have Z15 : n0 ≤ h15.size := Nat.le_trans Z13 (Nat.le_of_eq W15.size.symm)
  have N15 := Fr.snoc X15 N13 hG1
  obtain ⟨T16, X16, e16, st16⟩ := getS2 X15 hx hZ hown (host := "") (Or.inl (hw _ (List.mem_of_getElem? (i := 18) rfl))) Via.refl e15 K15.2.2.2.2.2.2.2.1 (g := (mkF m 51 #[.val (.int u0), .unset, .unset, .unset, .unset, .unset] [(.int (7 : Int32)), (.ref b1), (.ref b1)])) rfl (hb hby at_51)
  obtain ⟨cl17, Ar17, qa17, Sz17, Nn17, Ha17, Ga17⟩ := id f15_fA_b1
  have hin17 : ¬ ((7 : Int32) < 0 ∨ cl17.slots.size ≤ ((7 : Int32)).toNatClampNeg) := inb_of Sz17 ⟨by decide, by decide⟩
  obtain ⟨T17, h17, X17, e17, W17, st17⟩ := stR X16 hx hZ e16 Ar17 (j := (7 : Int32)) hin17 rfl (Sto.ofV Ar17 qa17 O1 (Ins.self K15.2.2.2.2.2.2.2.2.2.2.2.2.2.2.2.1)) (g := (mkF m 54 #[.val (.int u0), .unset, .unset, .unset, .unset, .unset] [(.ref (w 7)), (.int (7 : Int32)), (.ref b1), (.ref b1)])) rfl rfl (hb hby at_54)
  have f17_fA_b1 : Arv Z h17 b1 k1 (.object "com/example/licon/licon/search/Operator") (8 : Int32) [(.ref (w 0)), (.ref (w 1)), (.ref (w 2)), (.ref (w 3)), (.ref (w 4)), (.ref (w 5)), (.ref (w 6)), (.ref (w 7))] .null := Arv.set Ar17 qa17 Sz17 Nn17 Ha17 Ga17 rfl W17 7 rfl (Nat.le_of_ble_eq_true rfl)
  have K17 := K15.wr W17 hKN1
  have Z17 : n0 ≤ h17.size := Nat.le_trans Z15 (Nat.le_of_eq W17.size.symm)
  have N17 := Fr.snoc X17 N15 hG1
  obtain ⟨cl18, Ar18, qa18, Sz18, Nn18, Ha18, Ga18⟩ := id f17_fA_b1
  have hin18 : ¬ ((5 : Int32) < 0 ∨ cl18.slots.size ≤ ((5 : Int32)).toNatClampNeg) := inb_of Sz18 ⟨by decide, by decide⟩
  have hat18 : cl18.slots[((5 : Int32)).toNatClampNeg]? = some (.ref (w 5)) := Has.at Ha18 hin18 rfl
  obtain ⟨cq19, kq19, qa19, qb19, qc19⟩ := isOf hZ e17 K17.2.2.2.2.2.2.2.2.2.2.2.2.2.1
  obtain ⟨_, _, ⟨T19, L19, kk19, n19⟩, -, X19, ⟨Lc19, hQ19, l19, y19, z19⟩, st19⟩ := X17.virtualBack hx (y := (⟨"com/example/licon/licon/search/Operator", "comparesText", "()Z"⟩ : MethodName)) (z := (⟨"com/example/licon/licon/search/Operator", "comparesText", "()Z"⟩ : MethodName)) hown (mvT hZ (hw _ (List.mem_of_getElem? (i := 20) rfl))) (mvT hZ (hw _ (List.mem_of_getElem? (i := 21) rfl))) (notFace_of_selects (args := #[]) (mvT hZ (hw _ (List.mem_of_getElem? (i := 23) rfl)))) (mvT hZ (hw _ (List.mem_of_getElem? (i := 23) rfl))) (mvT hZ (hw _ (List.mem_of_getElem? (i := 22) rfl))) (by decide) (backOf (W := 0) (rm_comparesText_17 l Z a0 hw w κ h17 n0 Z17 K17 u0 b1 k1) hZ (hw _ (List.mem_of_getElem? (i := 24) rfl)) (hw _ (List.mem_of_getElem? (i := 3) rfl)) (by decide) (by decide)) qa19 qc19 (g := (mkF m 83 #[.val (.int u0), .val (.ref b1), .val (.int (5 : Int32)), .val (.ref (w 5)), .val (.int (0 : Int32)), .unset] [(.ref (w 5))])) rfl (by rw [hml]; rfl) (Steps.refl _) (argsL := []) (rest := []) (lenOf pd_2829Z rfl) rfl (by show 2 * 0 + _ ≤ _; exact Nat.le_of_eq rfl) (hb hby at_83) (fun _ _ => ⟨rfl, e17, (by decide : 1 + 0 ≤ _), (by decide : 8 + 0 ≤ _)⟩)
  dsimp only [Pt.U, Pt.locs, Pt.cells, Pt.slots] at X19 l19 y19 z19 st19 hQ19
  subst l19 y19 z19
  obtain ⟨rfl, N19q, e19⟩ := hQ19
  have N19 := Fr.app N17 N19q
  obtain ⟨fs, hr, hrun, hended, hW, hsame⟩ := X19.leave (v := (some (.int (1 : Int32)))) (fun h => by rw [Bd.returns] at h; cases h)
  refine ⟨_, _, pre0 _ ?_, hrun, hended, _, _, rfl, ?_, ⟨_, rfl⟩, hW, hsame.mono (by decide) (by decide)⟩
  · show Steps p.tables e below (s₁.setTop (mkF m 0 #[.val (.int u0), .unset, .unset, .unset, .unset, .unset] [])) _
    refine XS.bipush X0.here hx rfl (hb hby at_0) ?_
    show Steps p.tables e below (s₁.setTop (mkF m 2 #[.val (.int u0), .unset, .unset, .unset, .unset, .unset] [(.int (8 : Int32))])) _
    refine st1 _ ?_
    show Steps p.tables e below (T1.setTop (mkF m 5 #[.val (.int u0), .unset, .unset, .unset, .unset, .unset] [(.ref b1)])) _
    refine XS.dup X1.here hx rfl (hb hby at_5) rfl rfl ?_
    show Steps p.tables e below (T1.setTop (mkF m 6 #[.val (.int u0), .unset, .unset, .unset, .unset, .unset] [(.ref b1), (.ref b1)])) _
    refine XS.iconst X1.here hx rfl (hb hby at_6) ?_
    show Steps p.tables e below (T1.setTop (mkF m 7 #[.val (.int u0), .unset, .unset, .unset, .unset, .unset] [(.int (0 : Int32)), (.ref b1), (.ref b1)])) _
    refine st2 _ ?_
    show Steps p.tables e below (T2.setTop (mkF m 10 #[.val (.int u0), .unset, .unset, .unset, .unset, .unset] [(.ref (w 0)), (.int (0 : Int32)), (.ref b1), (.ref b1)])) _
    refine st3 _ ?_
    show Steps p.tables e below (T3.setTop (mkF m 11 #[.val (.int u0), .unset, .unset, .unset, .unset, .unset] [(.ref b1)])) _
    refine XS.dup X3.here hx rfl (hb hby at_11) rfl rfl ?_
    show Steps p.tables e below (T3.setTop (mkF m 12 #[.val (.int u0), .unset, .unset, .unset, .unset, .unset] [(.ref b1), (.ref b1)])) _
    refine XS.iconst X3.here hx rfl (hb hby at_12) ?_
    show Steps p.tables e below (T3.setTop (mkF m 13 #[.val (.int u0), .unset, .unset, .unset, .unset, .unset] [(.int (1 : Int32)), (.ref b1), (.ref b1)])) _
    refine st4 _ ?_
    show Steps p.tables e below (T4.setTop (mkF m 16 #[.val (.int u0), .unset, .unset, .unset, .unset, .unset] [(.ref (w 1)), (.int (1 : Int32)), (.ref b1), (.ref b1)])) _
    refine st5 _ ?_
    show Steps p.tables e below (T5.setTop (mkF m 17 #[.val (.int u0), .unset, .unset, .unset, .unset, .unset] [(.ref b1)])) _
    refine XS.dup X5.here hx rfl (hb hby at_17) rfl rfl ?_
    show Steps p.tables e below (T5.setTop (mkF m 18 #[.val (.int u0), .unset, .unset, .unset, .unset, .unset] [(.ref b1), (.ref b1)])) _
    refine XS.iconst X5.here hx rfl (hb hby at_18) ?_
    show Steps p.tables e below (T5.setTop (mkF m 19 #[.val (.int u0), .unset, .unset, .unset, .unset, .unset] [(.int (2 : Int32)), (.ref b1), (.ref b1)])) _
    refine st6 _ ?_
    show Steps p.tables e below (T6.setTop (mkF m 22 #[.val (.int u0), .unset, .unset, .unset, .unset, .unset] [(.ref (w 2)), (.int (2 : Int32)), (.ref b1), (.ref b1)])) _
    refine st7 _ ?_
    show Steps p.tables e below (T7.setTop (mkF m 23 #[.val (.int u0), .unset, .unset, .unset, .unset, .unset] [(.ref b1)])) _
    refine XS.dup X7.here hx rfl (hb hby at_23) rfl rfl ?_
    show Steps p.tables e below (T7.setTop (mkF m 24 #[.val (.int u0), .unset, .unset, .unset, .unset, .unset] [(.ref b1), (.ref b1)])) _
    refine XS.iconst X7.here hx rfl (hb hby at_24) ?_
    show Steps p.tables e below (T7.setTop (mkF m 25 #[.val (.int u0), .unset, .unset, .unset, .unset, .unset] [(.int (3 : Int32)), (.ref b1), (.ref b1)])) _
    refine st8 _ ?_
    show Steps p.tables e below (T8.setTop (mkF m 28 #[.val (.int u0), .unset, .unset, .unset, .unset, .unset] [(.ref (w 3)), (.int (3 : Int32)), (.ref b1), (.ref b1)])) _
    refine st9 _ ?_
    show Steps p.tables e below (T9.setTop (mkF m 29 #[.val (.int u0), .unset, .unset, .unset, .unset, .unset] [(.ref b1)])) _
    refine XS.dup X9.here hx rfl (hb hby at_29) rfl rfl ?_
    show Steps p.tables e below (T9.setTop (mkF m 30 #[.val (.int u0), .unset, .unset, .unset, .unset, .unset] [(.ref b1), (.ref b1)])) _
    refine XS.iconst X9.here hx rfl (hb hby at_30) ?_
    show Steps p.tables e below (T9.setTop (mkF m 31 #[.val (.int u0), .unset, .unset, .unset, .unset, .unset] [(.int (4 : Int32)), (.ref b1), (.ref b1)])) _
    refine st10 _ ?_
    show Steps p.tables e below (T10.setTop (mkF m 34 #[.val (.int u0), .unset, .unset, .unset, .unset, .unset] [(.ref (w 4)), (.int (4 : Int32)), (.ref b1), (.ref b1)])) _
    refine st11 _ ?_
    show Steps p.tables e below (T11.setTop (mkF m 35 #[.val (.int u0), .unset, .unset, .unset, .unset, .unset] [(.ref b1)])) _
    refine XS.dup X11.here hx rfl (hb hby at_35) rfl rfl ?_
    show Steps p.tables e below (T11.setTop (mkF m 36 #[.val (.int u0), .unset, .unset, .unset, .unset, .unset] [(.ref b1), (.ref b1)])) _
    refine XS.iconst X11.here hx rfl (hb hby at_36) ?_
    show Steps p.tables e below (T11.setTop (mkF m 37 #[.val (.int u0), .unset, .unset, .unset, .unset, .unset] [(.int (5 : Int32)), (.ref b1), (.ref b1)])) _
    refine st12 _ ?_
    show Steps p.tables e below (T12.setTop (mkF m 40 #[.val (.int u0), .unset, .unset, .unset, .unset, .unset] [(.ref (w 5)), (.int (5 : Int32)), (.ref b1), (.ref b1)])) _
    refine st13 _ ?_
    show Steps p.tables e below (T13.setTop (mkF m 41 #[.val (.int u0), .unset, .unset, .unset, .unset, .unset] [(.ref b1)])) _
    refine XS.dup X13.here hx rfl (hb hby at_41) rfl rfl ?_
    show Steps p.tables e below (T13.setTop (mkF m 42 #[.val (.int u0), .unset, .unset, .unset, .unset, .unset] [(.ref b1), (.ref b1)])) _
    refine XS.bipush X13.here hx rfl (hb hby at_42) ?_
    show Steps p.tables e below (T13.setTop (mkF m 44 #[.val (.int u0), .unset, .unset, .unset, .unset, .unset] [(.int (6 : Int32)), (.ref b1), (.ref b1)])) _
    refine st14 _ ?_
    show Steps p.tables e below (T14.setTop (mkF m 47 #[.val (.int u0), .unset, .unset, .unset, .unset, .unset] [(.ref (w 6)), (.int (6 : Int32)), (.ref b1), (.ref b1)])) _
    refine st15 _ ?_
    show Steps p.tables e below (T15.setTop (mkF m 48 #[.val (.int u0), .unset, .unset, .unset, .unset, .unset] [(.ref b1)])) _
    refine XS.dup X15.here hx rfl (hb hby at_48) rfl rfl ?_
    show Steps p.tables e below (T15.setTop (mkF m 49 #[.val (.int u0), .unset, .unset, .unset, .unset, .unset] [(.ref b1), (.ref b1)])) _
    refine XS.bipush X15.here hx rfl (hb hby at_49) ?_
    show Steps p.tables e below (T15.setTop (mkF m 51 #[.val (.int u0), .unset, .unset, .unset, .unset, .unset] [(.int (7 : Int32)), (.ref b1), (.ref b1)])) _
    refine st16 _ ?_
    show Steps p.tables e below (T16.setTop (mkF m 54 #[.val (.int u0), .unset, .unset, .unset, .unset, .unset] [(.ref (w 7)), (.int (7 : Int32)), (.ref b1), (.ref b1)])) _
    refine st17 _ ?_
    show Steps p.tables e below (T17.setTop (mkF m 55 #[.val (.int u0), .unset, .unset, .unset, .unset, .unset] [(.ref b1)])) _
    refine XS.astoreN X17.here hx rfl (hb hby at_55) rfl rfl (l' := #[.val (.int u0), .val (.ref b1), .unset, .unset, .unset, .unset]) rfl ?_
    show Steps p.tables e below (T17.setTop (mkF m 56 #[.val (.int u0), .val (.ref b1), .unset, .unset, .unset, .unset] [])) _
    refine XS.iloadN X17.here hx rfl (hb hby at_56) rfl ?_
    show Steps p.tables e below (T17.setTop (mkF m 57 #[.val (.int u0), .val (.ref b1), .unset, .unset, .unset, .unset] [(.int u0)])) _
    refine XS.bipush X17.here hx rfl (hb hby at_57) ?_
    show Steps p.tables e below (T17.setTop (mkF m 59 #[.val (.int u0), .val (.ref b1), .unset, .unset, .unset, .unset] [(.int (7 : Int32)), (.int u0)])) _
    refine XS.iand X17.here hx rfl (hb hby at_59) rfl ?_
    show Steps p.tables e below (T17.setTop (mkF m 60 #[.val (.int u0), .val (.ref b1), .unset, .unset, .unset, .unset] [(.int (u0 &&& (7 : Int32)))])) _
    rw [hk0]
    show Steps p.tables e below (T17.setTop (mkF m 60 #[.val (.int u0), .val (.ref b1), .unset, .unset, .unset, .unset] [(.int (5 : Int32))])) _
    refine XS.istoreN X17.here hx rfl (hb hby at_60) rfl (l' := #[.val (.int u0), .val (.ref b1), .val (.int (5 : Int32)), .unset, .unset, .unset]) rfl ?_
    show Steps p.tables e below (T17.setTop (mkF m 61 #[.val (.int u0), .val (.ref b1), .val (.int (5 : Int32)), .unset, .unset, .unset] [])) _
    refine XS.aloadN X17.here hx rfl (hb hby at_61) rfl rfl ?_
    show Steps p.tables e below (T17.setTop (mkF m 62 #[.val (.int u0), .val (.ref b1), .val (.int (5 : Int32)), .unset, .unset, .unset] [(.ref b1)])) _
    refine XS.iloadN X17.here hx rfl (hb hby at_62) rfl ?_
    show Steps p.tables e below (T17.setTop (mkF m 63 #[.val (.int u0), .val (.ref b1), .val (.int (5 : Int32)), .unset, .unset, .unset] [(.int (5 : Int32)), (.ref b1)])) _
    refine X17.aaload hx (j := (5 : Int32)) (v := (.ref (w 5))) (by rw [e17]; exact Ar18.1) (State.isArrayOf_alike hZ.alike Ar18.2.1) rfl Ar18.2.2 hin18 hat18 (g := (mkF m 63 #[.val (.int u0), .val (.ref b1), .val (.int (5 : Int32)), .unset, .unset, .unset] [(.int (5 : Int32)), (.ref b1)])) rfl rfl (hb hby at_63) _ ?_
    show Steps p.tables e below (T17.setTop (mkF m 64 #[.val (.int u0), .val (.ref b1), .val (.int (5 : Int32)), .unset, .unset, .unset] [(.ref (w 5))])) _
    refine XS.astoreN X17.here hx rfl (hb hby at_64) rfl rfl (l' := #[.val (.int u0), .val (.ref b1), .val (.int (5 : Int32)), .val (.ref (w 5)), .unset, .unset]) rfl ?_
    show Steps p.tables e below (T17.setTop (mkF m 65 #[.val (.int u0), .val (.ref b1), .val (.int (5 : Int32)), .val (.ref (w 5)), .unset, .unset] [])) _
    refine XS.iloadN X17.here hx rfl (hb hby at_65) rfl ?_
    show Steps p.tables e below (T17.setTop (mkF m 66 #[.val (.int u0), .val (.ref b1), .val (.int (5 : Int32)), .val (.ref (w 5)), .unset, .unset] [(.int (5 : Int32))])) _
    refine XS.iconst X17.here hx rfl (hb hby at_66) ?_
    show Steps p.tables e below (T17.setTop (mkF m 67 #[.val (.int u0), .val (.ref b1), .val (.int (5 : Int32)), .val (.ref (w 5)), .unset, .unset] [(.int (2 : Int32)), (.int (5 : Int32))])) _
    refine XS.icmpNo X17.here hx rfl (hb hby at_67) rfl (feq (by decide : ¬ ((5 : Int32) = (2 : Int32)))).1 ?_
    show Steps p.tables e below (T17.setTop (mkF m 70 #[.val (.int u0), .val (.ref b1), .val (.int (5 : Int32)), .val (.ref (w 5)), .unset, .unset] [])) _
    refine XS.iloadN X17.here hx rfl (hb hby at_70) rfl ?_
    show Steps p.tables e below (T17.setTop (mkF m 71 #[.val (.int u0), .val (.ref b1), .val (.int (5 : Int32)), .val (.ref (w 5)), .unset, .unset] [(.int (5 : Int32))])) _
    refine XS.iconst X17.here hx rfl (hb hby at_71) ?_
    show Steps p.tables e below (T17.setTop (mkF m 72 #[.val (.int u0), .val (.ref b1), .val (.int (5 : Int32)), .val (.ref (w 5)), .unset, .unset] [(.int (3 : Int32)), (.int (5 : Int32))])) _
    refine XS.icmpYes X17.here hx rfl (pc0 := 72) (pc' := 79) rfl (hb hby at_72) rfl (feq (by decide : ¬ ((5 : Int32) = (3 : Int32)))).2 (by decide) (by decide) ?_
    show Steps p.tables e below (T17.setTop (mkF m 79 #[.val (.int u0), .val (.ref b1), .val (.int (5 : Int32)), .val (.ref (w 5)), .unset, .unset] [])) _
    refine XS.iconst X17.here hx rfl (hb hby at_79) ?_
    show Steps p.tables e below (T17.setTop (mkF m 80 #[.val (.int u0), .val (.ref b1), .val (.int (5 : Int32)), .val (.ref (w 5)), .unset, .unset] [(.int (0 : Int32))])) _
    refine XS.istore X17.here hx rfl (hb hby at_80) rfl (l' := #[.val (.int u0), .val (.ref b1), .val (.int (5 : Int32)), .val (.ref (w 5)), .val (.int (0 : Int32)), .unset]) rfl ?_
    show Steps p.tables e below (T17.setTop (mkF m 82 #[.val (.int u0), .val (.ref b1), .val (.int (5 : Int32)), .val (.ref (w 5)), .val (.int (0 : Int32)), .unset] [])) _
    refine XS.aloadN X17.here hx rfl (hb hby at_82) rfl rfl ?_
    show Steps p.tables e below (T17.setTop (mkF m 83 #[.val (.int u0), .val (.ref b1), .val (.int (5 : Int32)), .val (.ref (w 5)), .val (.int (0 : Int32)), .unset] [(.ref (w 5))])) _
    refine st19.trans ?_
    show Steps p.tables e below (T19.setTop (mkF m 86 #[.val (.int u0), .val (.ref b1), .val (.int (5 : Int32)), .val (.ref (w 5)), .val (.int (0 : Int32)), .unset] [(.int (0 : Int32))])) _
    refine XS.istore X19.here hx rfl (hb hby at_86) rfl (l' := #[.val (.int u0), .val (.ref b1), .val (.int (5 : Int32)), .val (.ref (w 5)), .val (.int (0 : Int32)), .val (.int (0 : Int32))]) rfl ?_
    show Steps p.tables e below (T19.setTop (mkF m 88 #[.val (.int u0), .val (.ref b1), .val (.int (5 : Int32)), .val (.ref (w 5)), .val (.int (0 : Int32)), .val (.int (0 : Int32))] [])) _
    refine XS.iload X19.here hx rfl (hb hby at_88) rfl ?_
    show Steps p.tables e below (T19.setTop (mkF m 90 #[.val (.int u0), .val (.ref b1), .val (.int (5 : Int32)), .val (.ref (w 5)), .val (.int (0 : Int32)), .val (.int (0 : Int32))] [(.int (0 : Int32))])) _
    refine XS.iload X19.here hx rfl (hb hby at_90) rfl ?_
    show Steps p.tables e below (T19.setTop (mkF m 92 #[.val (.int u0), .val (.ref b1), .val (.int (5 : Int32)), .val (.ref (w 5)), .val (.int (0 : Int32)), .val (.int (0 : Int32))] [(.int (0 : Int32)), (.int (0 : Int32))])) _
    refine XS.icmpYes X19.here hx rfl (pc0 := 92) (pc' := 97) rfl (hb hby at_92) rfl (teq (by decide : (0 : Int32) = (0 : Int32))).1 (by decide) (by decide) ?_
    show Steps p.tables e below (T19.setTop (mkF m 97 #[.val (.int u0), .val (.ref b1), .val (.int (5 : Int32)), .val (.ref (w 5)), .val (.int (0 : Int32)), .val (.int (0 : Int32))] [])) _
    refine XS.iload X19.here hx rfl (hb hby at_97) rfl ?_
    show Steps p.tables e below (T19.setTop (mkF m 99 #[.val (.int u0), .val (.ref b1), .val (.int (5 : Int32)), .val (.ref (w 5)), .val (.int (0 : Int32)), .val (.int (0 : Int32))] [(.int (0 : Int32))])) _
    refine XS.ifYes X19.here hx rfl (pc0 := 99) (pc' := 131) rfl (hb hby at_99) rfl ((if0 _ _).trans (teq (by decide : (0 : Int32) = (0 : Int32))).1) (by decide) (by decide) ?_
    show Steps p.tables e below (T19.setTop (mkF m 131 #[.val (.int u0), .val (.ref b1), .val (.int (5 : Int32)), .val (.ref (w 5)), .val (.int (0 : Int32)), .val (.int (0 : Int32))] [])) _
    refine XS.iconst X19.here hx rfl (hb hby at_131) ?_
    show Steps p.tables e below (T19.setTop (mkF m 132 #[.val (.int u0), .val (.ref b1), .val (.int (5 : Int32)), .val (.ref (w 5)), .val (.int (0 : Int32)), .val (.int (0 : Int32))] [(.int (1 : Int32))])) _
    exact retN X19 hx (t := .boolean) Bd.returns (by simp) (hb hby at_132) hr
  · exact ⟨rfl, N19⟩
set_option maxRecDepth 65536 in
set_option maxHeartbeats 40000000 in
theorem rm_comparesText_19 (l : Launch) (Z : State) (a0 : Array Value) (hw : ∀ d ∈ tables_1, d.before a0 Z = true) (w : Nat → Addr) (κ : Nat → ClassId) (h0 : Heap) (n0 : Nat) (Z0 : n0 ≤ h0.size) (K : Kon Z h0 w κ) (u0 : Int32) (b1 : Addr) (k1 : ClassId) :
    OM l Z (⟨"com/example/licon/licon/search/Operator", "comparesText", "()Z"⟩ : MethodName) prog_9_method_6_code 1 (some .boolean) [] ({ frames := 0, cells := 0, slots := 0, locals := 0 } : Room) #[(.ref (w 6))] h0 (OP (some (.int (0 : Int32))) n0 h0) := by
  refine MetFree.of_bodySF (plainFor_of_name pn_com_example_licon_licon_search_Operator) hisR ?_
  intro p e s m args below meth c s₁ Bd hml0 hP hK
  obtain ⟨rfl, hZ, hh⟩ := hP
  have hx := Bd.exec
  have hby := Bd.bytes
  have hml : c.maxLocals = 1 := hml0
  have hown : s.vm.findClass "com/example/licon/licon/search/Operator" = some m.cls := findClass_of_methodNamed Bd.named
  have hnm := (name_of_methodNamed Bd.named Bd.method).1
  have X0 : Stand p l e ({ frames := 0, cells := 0, slots := 0, locals := 0 } : Room) s m #[(.ref (w 6))] below meth c s₁ [] 0 0 := Stand.of_body Bd
  have e0 : s₁.heap = h0 := by rw [← hh, Bd.state]; rfl
  have N0 := Fr.nil n0
  have pre0 : ∀ t, Steps p.tables e below (s₁.setTop (mkF m 0 #[.val (.ref (w 6))] [])) t → Steps p.tables e below (s₁.setTop (entryFrame m #[(.ref (w 6))] 1)) t := fun t k => castTop (by first | rfl | simp [entryFrame, mkF, argsToLocals, Value.category]) k
  obtain ⟨T1, X1, e1, st1⟩ := getS2 X0 hx hZ hown (host := "") (Or.inl (hw _ (List.mem_of_getElem? (i := 25) rfl))) Via.refl e0 K.2.2.1 (g := (mkF m 1 #[.val (.ref (w 6))] [(.ref (w 6))])) rfl (hb hby d_prog_9_method_6_code_1)
  obtain ⟨T2, X2, e2, st2⟩ := getS2 X1 hx hZ hown (host := "") (Or.inl (hw _ (List.mem_of_getElem? (i := 26) rfl))) Via.refl e1 K.2.2.2.1 (g := (mkF m 8 #[.val (.ref (w 6))] [(.ref (w 6))])) rfl (hb hby d_prog_9_method_6_code_8)
  obtain ⟨fs, hr, hrun, hended, hW, hsame⟩ := X2.leave (v := (some (.int (0 : Int32)))) (fun h => by rw [Bd.returns] at h; cases h)
  refine ⟨_, _, pre0 _ ?_, hrun, hended, _, _, rfl, ?_, ⟨_, rfl⟩, hW, hsame.mono (by decide) (by decide)⟩
  · show Steps p.tables e below (s₁.setTop (mkF m 0 #[.val (.ref (w 6))] [])) _
    refine XS.aloadN X0.here hx rfl (hb hby d_prog_9_method_6_code_0) rfl rfl ?_
    show Steps p.tables e below (s₁.setTop (mkF m 1 #[.val (.ref (w 6))] [(.ref (w 6))])) _
    refine st1 _ ?_
    show Steps p.tables e below (T1.setTop (mkF m 4 #[.val (.ref (w 6))] [(.ref (w 2)), (.ref (w 6))])) _
    refine Jvm.RoadKit.acmp (g := (mkF m 4 #[.val (.ref (w 6))] [(.ref (w 2)), (.ref (w 6))])) X1 hx rfl rfl rfl (pc0 := 4) (pc' := 7) (same := false) rfl (hb hby d_prog_9_method_6_code_4) rfl (decide_eq_false fun q => (K.2.2.2.2.2.2.2.2.2.2.2.2.2.2.2.2.2.2.2.2.2.2.1.ne K.2.2.2.2.2.2.2.2.2.2.2.2.2.2.2.2.2.1 (by decide)) (Value.ref.inj q)) (by decide) (by decide) ?_
    show Steps p.tables e below (T1.setTop (mkF m 7 #[.val (.ref (w 6))] [])) _
    refine XS.aloadN X1.here hx rfl (hb hby d_prog_9_method_6_code_7) rfl rfl ?_
    show Steps p.tables e below (T1.setTop (mkF m 8 #[.val (.ref (w 6))] [(.ref (w 6))])) _
    refine st2 _ ?_
    show Steps p.tables e below (T2.setTop (mkF m 11 #[.val (.ref (w 6))] [(.ref (w 3)), (.ref (w 6))])) _
    refine Jvm.RoadKit.acmp (g := (mkF m 11 #[.val (.ref (w 6))] [(.ref (w 3)), (.ref (w 6))])) X2 hx rfl rfl rfl (pc0 := 11) (pc' := 18) (same := false) rfl (hb hby d_prog_9_method_6_code_11) rfl (decide_eq_false fun q => (K.2.2.2.2.2.2.2.2.2.2.2.2.2.2.2.2.2.2.2.2.2.2.1.ne K.2.2.2.2.2.2.2.2.2.2.2.2.2.2.2.2.2.2.1 (by decide)) (Value.ref.inj q)) (by decide) (by decide) ?_
    show Steps p.tables e below (T2.setTop (mkF m 18 #[.val (.ref (w 6))] [])) _
    refine XS.iconst X2.here hx rfl (hb hby d_prog_9_method_6_code_18) ?_
    show Steps p.tables e below (T2.setTop (mkF m 19 #[.val (.ref (w 6))] [(.int (0 : Int32))])) _
    exact retN X2 hx (t := .boolean) Bd.returns (by simp) (hb hby d_prog_9_method_6_code_19) hr
  · exact ⟨rfl, N0, e2⟩
set_option maxRecDepth 65536 in
set_option maxHeartbeats 40000000 in
theorem rm0_20 (l : Launch) (Z : State) (a0 : Array Value) (hw : ∀ d ∈ tables_1, d.before a0 Z = true) (w : Nat → Addr) (κ : Nat → ClassId) (h0 : Heap) (n0 : Nat) (Z0 : n0 ≤ h0.size) (K : Kon Z h0 w κ) (u0 : Int32) (hk0 : (u0 &&& (7 : Int32)) = (6 : Int32)) :
    OM l Z x code maxLocals ret tables_1 room_1 #[(.int u0)] h0 (OF (some (.int (1 : Int32))) n0) := by
  refine MetFree.of_bodySF (plainFor_of_name pn_com_example_licon_licon_search_OperatorComparesTextPinLaw) hisR ?_
  intro p e s m args below meth c s₁ Bd hml0 hP hK
  obtain ⟨rfl, hZ, hh⟩ := hP
  have hx := Bd.exec
  have hby := Bd.bytes
  have hml : c.maxLocals = 6 := hml0
  have hown : s.vm.findClass "com/example/licon/licon/search/OperatorComparesTextPinLaw" = some m.cls := findClass_of_methodNamed Bd.named
  have hnm := (name_of_methodNamed Bd.named Bd.method).1
  have X0 : Stand p l e room_1 s m #[(.int u0)] below meth c s₁ [] 0 0 := Stand.of_body Bd
  have e0 : s₁.heap = h0 := by rw [← hh, Bd.state]; rfl
  have N0 := Fr.nil n0
  have pre0 : ∀ t, Steps p.tables e below (s₁.setTop (mkF m 0 #[.val (.int u0), .unset, .unset, .unset, .unset, .unset] [])) t → Steps p.tables e below (s₁.setTop (entryFrame m #[(.int u0)] maxLocals)) t := fun t k => castTop (by first | rfl | simp [entryFrame, mkF, argsToLocals, Value.category, maxLocals]) k
  obtain ⟨T1, h1, k1, X1, e1, E1, A1, O1, st1⟩ := newR X0 hx hZ hown (hw _ (List.mem_of_getElem? (i := 0) rfl)) (hw _ (List.mem_of_getElem? (i := 1) rfl)) e0 (g := (mkF m 2 #[.val (.int u0), .unset, .unset, .unset, .unset, .unset] [(.int (8 : Int32))])) rfl (hb hby at_2) rfl (by decide) (cap := 8) (by decide) (by decide) (by decide) (by decide)
  obtain ⟨b1, g1⟩ : ∃ z, z = h0.size := ⟨_, rfl⟩
  rw [← g1] at A1 st1
  have hG1 : n0 ≤ b1 := Nat.le_trans Z0 (Nat.le_of_eq g1.symm)
  have hKN1 : ∀ i, i < 8 → w i ≠ b1 := fun i hi => by rw [g1]; exact Nat.ne_of_lt (K.lt i hi)
  have K1 := K.ext E1
  have Z1 : n0 ≤ h1.size := Nat.le_trans Z0 E1.1
  have V1 : Arv Z h1 b1 k1 (.object "com/example/licon/licon/search/Operator") (8 : Int32) [.null, .null, .null, .null, .null, .null, .null, .null] .null := (Arv.new A1 (by decide)).pad (pad_rep [] .null 8)
  obtain ⟨T2, X2, e2, st2⟩ := getS2 X1 hx hZ hown (host := "") (Or.inl (hw _ (List.mem_of_getElem? (i := 2) rfl))) Via.refl e1 K1.1 (g := (mkF m 7 #[.val (.int u0), .unset, .unset, .unset, .unset, .unset] [(.int (0 : Int32)), (.ref b1), (.ref b1)])) rfl (hb hby at_7)
  obtain ⟨cl3, Ar3, qa3, Sz3, Nn3, Ha3, Ga3⟩ := id V1
  have hin3 : ¬ ((0 : Int32) < 0 ∨ cl3.slots.size ≤ ((0 : Int32)).toNatClampNeg) := inb_of Sz3 ⟨by decide, by decide⟩
  obtain ⟨T3, h3, X3, e3, W3, st3⟩ := stR X2 hx hZ e2 Ar3 (j := (0 : Int32)) hin3 rfl (Sto.ofV Ar3 qa3 O1 (Ins.self K1.2.2.2.2.2.2.2.2.1)) (g := (mkF m 10 #[.val (.int u0), .unset, .unset, .unset, .unset, .unset] [(.ref (w 0)), (.int (0 : Int32)), (.ref b1), (.ref b1)])) rfl rfl (hb hby at_10)
  have f3_fA_b1 : Arv Z h3 b1 k1 (.object "com/example/licon/licon/search/Operator") (8 : Int32) [(.ref (w 0)), .null, .null, .null, .null, .null, .null, .null] .null := Arv.set Ar3 qa3 Sz3 Nn3 Ha3 Ga3 rfl W3 0 rfl (Nat.le_of_ble_eq_true rfl)
  have K3 := K1.wr W3 hKN1
  have Z3 : n0 ≤ h3.size := Nat.le_trans Z1 (Nat.le_of_eq W3.size.symm)
  have N3 := Fr.snoc X3 N0 hG1
  obtain ⟨T4, X4, e4, st4⟩ := getS2 X3 hx hZ hown (host := "") (Or.inl (hw _ (List.mem_of_getElem? (i := 6) rfl))) Via.refl e3 K3.2.1 (g := (mkF m 13 #[.val (.int u0), .unset, .unset, .unset, .unset, .unset] [(.int (1 : Int32)), (.ref b1), (.ref b1)])) rfl (hb hby at_13)
  obtain ⟨cl5, Ar5, qa5, Sz5, Nn5, Ha5, Ga5⟩ := id f3_fA_b1
  have hin5 : ¬ ((1 : Int32) < 0 ∨ cl5.slots.size ≤ ((1 : Int32)).toNatClampNeg) := inb_of Sz5 ⟨by decide, by decide⟩
  obtain ⟨T5, h5, X5, e5, W5, st5⟩ := stR X4 hx hZ e4 Ar5 (j := (1 : Int32)) hin5 rfl (Sto.ofV Ar5 qa5 O1 (Ins.self K3.2.2.2.2.2.2.2.2.2.1)) (g := (mkF m 16 #[.val (.int u0), .unset, .unset, .unset, .unset, .unset] [(.ref (w 1)), (.int (1 : Int32)), (.ref b1), (.ref b1)])) rfl rfl (hb hby at_16)
  have f5_fA_b1 : Arv Z h5 b1 k1 (.object "com/example/licon/licon/search/Operator") (8 : Int32) [(.ref (w 0)), (.ref (w 1)), .null, .null, .null, .null, .null, .null] .null := Arv.set Ar5 qa5 Sz5 Nn5 Ha5 Ga5 rfl W5 1 rfl (Nat.le_of_ble_eq_true rfl)
  have K5 := K3.wr W5 hKN1
  have Z5 : n0 ≤ h5.size := Nat.le_trans Z3 (Nat.le_of_eq W5.size.symm)
  have N5 := Fr.snoc X5 N3 hG1
  obtain ⟨T6, X6, e6, st6⟩ := getS2 X5 hx hZ hown (host := "") (Or.inl (hw _ (List.mem_of_getElem? (i := 8) rfl))) Via.refl e5 K5.2.2.1 (g := (mkF m 19 #[.val (.int u0), .unset, .unset, .unset, .unset, .unset] [(.int (2 : Int32)), (.ref b1), (.ref b1)])) rfl (hb hby at_19)
  obtain ⟨cl7, Ar7, qa7, Sz7, Nn7, Ha7, Ga7⟩ := id f5_fA_b1
  have hin7 : ¬ ((2 : Int32) < 0 ∨ cl7.slots.size ≤ ((2 : Int32)).toNatClampNeg) := inb_of Sz7 ⟨by decide, by decide⟩
  obtain ⟨T7, h7, X7, e7, W7, st7⟩ := stR X6 hx hZ e6 Ar7 (j := (2 : Int32)) hin7 rfl (Sto.ofV Ar7 qa7 O1 (Ins.self K5.2.2.2.2.2.2.2.2.2.2.1)) (g := (mkF m 22 #[.val (.int u0), .unset, .unset, .unset, .unset, .unset] [(.ref (w 2)), (.int (2 : Int32)), (.ref b1), (.ref b1)])) rfl rfl (hb hby at_22)
  have f7_fA_b1 : Arv Z h7 b1 k1 (.object "com/example/licon/licon/search/Operator") (8 : Int32) [(.ref (w 0)), (.ref (w 1)), (.ref (w 2)), .null, .null, .null, .null, .null] .null := Arv.set Ar7 qa7 Sz7 Nn7 Ha7 Ga7 rfl W7 2 rfl (Nat.le_of_ble_eq_true rfl)
  have K7 := K5.wr W7 hKN1
  have Z7 : n0 ≤ h7.size := Nat.le_trans Z5 (Nat.le_of_eq W7.size.symm)
  have N7 := Fr.snoc X7 N5 hG1
  obtain ⟨T8, X8, e8, st8⟩ := getS2 X7 hx hZ hown (host := "") (Or.inl (hw _ (List.mem_of_getElem? (i := 10) rfl))) Via.refl e7 K7.2.2.2.1 (g := (mkF m 25 #[.val (.int u0), .unset, .unset, .unset, .unset, .unset] [(.int (3 : Int32)), (.ref b1), (.ref b1)])) rfl (hb hby at_25)
  obtain ⟨cl9, Ar9, qa9, Sz9, Nn9, Ha9, Ga9⟩ := id f7_fA_b1
  have hin9 : ¬ ((3 : Int32) < 0 ∨ cl9.slots.size ≤ ((3 : Int32)).toNatClampNeg) := inb_of Sz9 ⟨by decide, by decide⟩
  obtain ⟨T9, h9, X9, e9, W9, st9⟩ := stR X8 hx hZ e8 Ar9 (j := (3 : Int32)) hin9 rfl (Sto.ofV Ar9 qa9 O1 (Ins.self K7.2.2.2.2.2.2.2.2.2.2.2.1)) (g := (mkF m 28 #[.val (.int u0), .unset, .unset, .unset, .unset, .unset] [(.ref (w 3)), (.int (3 : Int32)), (.ref b1), (.ref b1)])) rfl rfl (hb hby at_28)
  have f9_fA_b1 : Arv Z h9 b1 k1 (.object "com/example/licon/licon/search/Operator") (8 : Int32) [(.ref (w 0)), (.ref (w 1)), (.ref (w 2)), (.ref (w 3)), .null, .null, .null, .null] .null := Arv.set Ar9 qa9 Sz9 Nn9 Ha9 Ga9 rfl W9 3 rfl (Nat.le_of_ble_eq_true rfl)
  have K9 := K7.wr W9 hKN1
  have Z9 : n0 ≤ h9.size := Nat.le_trans Z7 (Nat.le_of_eq W9.size.symm)
  have N9 := Fr.snoc X9 N7 hG1
  obtain ⟨T10, X10, e10, st10⟩ := getS2 X9 hx hZ hown (host := "") (Or.inl (hw _ (List.mem_of_getElem? (i := 12) rfl))) Via.refl e9 K9.2.2.2.2.1 (g := (mkF m 31 #[.val (.int u0), .unset, .unset, .unset, .unset, .unset] [(.int (4 : Int32)), (.ref b1), (.ref b1)])) rfl (hb hby at_31)
  obtain ⟨cl11, Ar11, qa11, Sz11, Nn11, Ha11, Ga11⟩ := id f9_fA_b1
  have hin11 : ¬ ((4 : Int32) < 0 ∨ cl11.slots.size ≤ ((4 : Int32)).toNatClampNeg) := inb_of Sz11 ⟨by decide, by decide⟩
  obtain ⟨T11, h11, X11, e11, W11, st11⟩ := stR X10 hx hZ e10 Ar11 (j := (4 : Int32)) hin11 rfl (Sto.ofV Ar11 qa11 O1 (Ins.self K9.2.2.2.2.2.2.2.2.2.2.2.2.1)) (g := (mkF m 34 #[.val (.int u0), .unset, .unset, .unset, .unset, .unset] [(.ref (w 4)), (.int (4 : Int32)), (.ref b1), (.ref b1)])) rfl rfl (hb hby at_34)
  have f11_fA_b1 : Arv Z h11 b1 k1 (.object "com/example/licon/licon/search/Operator") (8 : Int32) [(.ref (w 0)), (.ref (w 1)), (.ref (w 2)), (.ref (w 3)), (.ref (w 4)), .null, .null, .null] .null := Arv.set Ar11 qa11 Sz11 Nn11 Ha11 Ga11 rfl W11 4 rfl (Nat.le_of_ble_eq_true rfl)
  have K11 := K9.wr W11 hKN1
  have Z11 : n0 ≤ h11.size := Nat.le_trans Z9 (Nat.le_of_eq W11.size.symm)
  have N11 := Fr.snoc X11 N9 hG1
  obtain ⟨T12, X12, e12, st12⟩ := getS2 X11 hx hZ hown (host := "") (Or.inl (hw _ (List.mem_of_getElem? (i := 14) rfl))) Via.refl e11 K11.2.2.2.2.2.1 (g := (mkF m 37 #[.val (.int u0), .unset, .unset, .unset, .unset, .unset] [(.int (5 : Int32)), (.ref b1), (.ref b1)])) rfl (hb hby at_37)
  obtain ⟨cl13, Ar13, qa13, Sz13, Nn13, Ha13, Ga13⟩ := id f11_fA_b1
  have hin13 : ¬ ((5 : Int32) < 0 ∨ cl13.slots.size ≤ ((5 : Int32)).toNatClampNeg) := inb_of Sz13 ⟨by decide, by decide⟩
  obtain ⟨T13, h13, X13, e13, W13, st13⟩ := stR X12 hx hZ e12 Ar13 (j := (5 : Int32)) hin13 rfl (Sto.ofV Ar13 qa13 O1 (Ins.self K11.2.2.2.2.2.2.2.2.2.2.2.2.2.1)) (g := (mkF m 40 #[.val (.int u0), .unset, .unset, .unset, .unset, .unset] [(.ref (w 5)), (.int (5 : Int32)), (.ref b1), (.ref b1)])) rfl rfl (hb hby at_40)
  have f13_fA_b1 : Arv Z h13 b1 k1 (.object "com/example/licon/licon/search/Operator") (8 : Int32) [(.ref (w 0)), (.ref (w 1)), (.ref (w 2)), (.ref (w 3)), (.ref (w 4)), (.ref (w 5)), .null, .null] .null := Arv.set Ar13 qa13 Sz13 Nn13 Ha13 Ga13 rfl W13 5 rfl (Nat.le_of_ble_eq_true rfl)
  have K13 := K11.wr W13 hKN1
  have Z13 : n0 ≤ h13.size := Nat.le_trans Z11 (Nat.le_of_eq W13.size.symm)
  have N13 := Fr.snoc X13 N11 hG1
  obtain ⟨T14, X14, e14, st14⟩ := getS2 X13 hx hZ hown (host := "") (Or.inl (hw _ (List.mem_of_getElem? (i := 16) rfl))) Via.refl e13 K13.2.2.2.2.2.2.1 (g := (mkF m 44 #[.val (.int u0), .unset, .unset, .unset, .unset, .unset] [(.int (6 : Int32)), (.ref b1), (.ref b1)])) rfl (hb hby at_44)
  obtain ⟨cl15, Ar15, qa15, Sz15, Nn15, Ha15, Ga15⟩ := id f13_fA_b1
  have hin15 : ¬ ((6 : Int32) < 0 ∨ cl15.slots.size ≤ ((6 : Int32)).toNatClampNeg) := inb_of Sz15 ⟨by decide, by decide⟩
  obtain ⟨T15, h15, X15, e15, W15, st15⟩ := stR X14 hx hZ e14 Ar15 (j := (6 : Int32)) hin15 rfl (Sto.ofV Ar15 qa15 O1 (Ins.self K13.2.2.2.2.2.2.2.2.2.2.2.2.2.2.1)) (g := (mkF m 47 #[.val (.int u0), .unset, .unset, .unset, .unset, .unset] [(.ref (w 6)), (.int (6 : Int32)), (.ref b1), (.ref b1)])) rfl rfl (hb hby at_47)
  have f15_fA_b1 : Arv Z h15 b1 k1 (.object "com/example/licon/licon/search/Operator") (8 : Int32) [(.ref (w 0)), (.ref (w 1)), (.ref (w 2)), (.ref (w 3)), (.ref (w 4)), (.ref (w 5)), (.ref (w 6)), .null] .null := Arv.set Ar15 qa15 Sz15 Nn15 Ha15 Ga15 rfl W15 6 rfl (Nat.le_of_ble_eq_true rfl)
  have K15 := K13.wr W15 hKN1
  have Z15 : n0 ≤ h15.size := Nat.le_trans Z13 (Nat.le_of_eq W15.size.symm)
  have N15 := Fr.snoc X15 N13 hG1
  obtain ⟨T16, X16, e16, st16⟩ := getS2 X15 hx hZ hown (host := "") (Or.inl (hw _ (List.mem_of_getElem? (i := 18) rfl))) Via.refl e15 K15.2.2.2.2.2.2.2.1 (g := (mkF m 51 #[.val (.int u0), .unset, .unset, .unset, .unset, .unset] [(.int (7 : Int32)), (.ref b1), (.ref b1)])) rfl (hb hby at_51)
  obtain ⟨cl17, Ar17, qa17, Sz17, Nn17, Ha17, Ga17⟩ := id f15_fA_b1
  have hin17 : ¬ ((7 : Int32) < 0 ∨ cl17.slots.size ≤ ((7 : Int32)).toNatClampNeg) := inb_of Sz17 ⟨by decide, by decide⟩
  obtain ⟨T17, h17, X17, e17, W17, st17⟩ := stR X16 hx hZ e16 Ar17 (j := (7 : Int32)) hin17 rfl (Sto.ofV Ar17 qa17 O1 (Ins.self K15.2.2.2.2.2.2.2.2.2.2.2.2.2.2.2.1)) (g := (mkF m 54 #[.val (.int u0), .unset, .unset, .unset, .unset, .unset] [(.ref (w 7)), (.int (7 : Int32)), (.ref b1), (.ref b1)])) rfl rfl (hb hby at_54)
  have f17_fA_b1 : Arv Z h17 b1 k1 (.object "com/example/licon/licon/search/Operator") (8 : Int32) [(.ref (w 0)), (.ref (w 1)), (.ref (w 2)), (.ref (w 3)), (.ref (w 4)), (.ref (w 5)), (.ref (w 6)), (.ref (w 7))] .null := Arv.set Ar17 qa17 Sz17 Nn17 Ha17 Ga17 rfl W17 7 rfl (Nat.le_of_ble_eq_true rfl)
  have K17 := K15.wr W17 hKN1
  have Z17 : n0 ≤ h17.size := Nat.le_trans Z15 (Nat.le_of_eq W17.size.symm)
  have N17 := Fr.snoc X17 N15 hG1
  obtain ⟨cl18, Ar18, qa18, Sz18, Nn18, Ha18, Ga18⟩ := id f17_fA_b1
  have hin18 : ¬ ((6 : Int32) < 0 ∨ cl18.slots.size ≤ ((6 : Int32)).toNatClampNeg) := inb_of Sz18 ⟨by decide, by decide⟩
  have hat18 : cl18.slots[((6 : Int32)).toNatClampNeg]? = some (.ref (w 6)) := Has.at Ha18 hin18 rfl
  obtain ⟨cq19, kq19, qa19, qb19, qc19⟩ := isOf hZ e17 K17.2.2.2.2.2.2.2.2.2.2.2.2.2.2.1
  obtain ⟨_, _, ⟨T19, L19, kk19, n19⟩, -, X19, ⟨Lc19, hQ19, l19, y19, z19⟩, st19⟩ := X17.virtualBack hx (y := (⟨"com/example/licon/licon/search/Operator", "comparesText", "()Z"⟩ : MethodName)) (z := (⟨"com/example/licon/licon/search/Operator", "comparesText", "()Z"⟩ : MethodName)) hown (mvT hZ (hw _ (List.mem_of_getElem? (i := 20) rfl))) (mvT hZ (hw _ (List.mem_of_getElem? (i := 21) rfl))) (notFace_of_selects (args := #[]) (mvT hZ (hw _ (List.mem_of_getElem? (i := 23) rfl)))) (mvT hZ (hw _ (List.mem_of_getElem? (i := 23) rfl))) (mvT hZ (hw _ (List.mem_of_getElem? (i := 22) rfl))) (by decide) (backOf (W := 0) (rm_comparesText_19 l Z a0 hw w κ h17 n0 Z17 K17 u0 b1 k1) hZ (hw _ (List.mem_of_getElem? (i := 24) rfl)) (hw _ (List.mem_of_getElem? (i := 3) rfl)) (by decide) (by decide)) qa19 qc19 (g := (mkF m 83 #[.val (.int u0), .val (.ref b1), .val (.int (6 : Int32)), .val (.ref (w 6)), .val (.int (0 : Int32)), .unset] [(.ref (w 6))])) rfl (by rw [hml]; rfl) (Steps.refl _) (argsL := []) (rest := []) (lenOf pd_2829Z rfl) rfl (by show 2 * 0 + _ ≤ _; exact Nat.le_of_eq rfl) (hb hby at_83) (fun _ _ => ⟨rfl, e17, (by decide : 1 + 0 ≤ _), (by decide : 8 + 0 ≤ _)⟩)
  dsimp only [Pt.U, Pt.locs, Pt.cells, Pt.slots] at X19 l19 y19 z19 st19 hQ19
  subst l19 y19 z19
  obtain ⟨rfl, N19q, e19⟩ := hQ19
  have N19 := Fr.app N17 N19q
  obtain ⟨fs, hr, hrun, hended, hW, hsame⟩ := X19.leave (v := (some (.int (1 : Int32)))) (fun h => by rw [Bd.returns] at h; cases h)
  refine ⟨_, _, pre0 _ ?_, hrun, hended, _, _, rfl, ?_, ⟨_, rfl⟩, hW, hsame.mono (by decide) (by decide)⟩
  · show Steps p.tables e below (s₁.setTop (mkF m 0 #[.val (.int u0), .unset, .unset, .unset, .unset, .unset] [])) _
    refine XS.bipush X0.here hx rfl (hb hby at_0) ?_
    show Steps p.tables e below (s₁.setTop (mkF m 2 #[.val (.int u0), .unset, .unset, .unset, .unset, .unset] [(.int (8 : Int32))])) _
    refine st1 _ ?_
    show Steps p.tables e below (T1.setTop (mkF m 5 #[.val (.int u0), .unset, .unset, .unset, .unset, .unset] [(.ref b1)])) _
    refine XS.dup X1.here hx rfl (hb hby at_5) rfl rfl ?_
    show Steps p.tables e below (T1.setTop (mkF m 6 #[.val (.int u0), .unset, .unset, .unset, .unset, .unset] [(.ref b1), (.ref b1)])) _
    refine XS.iconst X1.here hx rfl (hb hby at_6) ?_
    show Steps p.tables e below (T1.setTop (mkF m 7 #[.val (.int u0), .unset, .unset, .unset, .unset, .unset] [(.int (0 : Int32)), (.ref b1), (.ref b1)])) _
    refine st2 _ ?_
    show Steps p.tables e below (T2.setTop (mkF m 10 #[.val (.int u0), .unset, .unset, .unset, .unset, .unset] [(.ref (w 0)), (.int (0 : Int32)), (.ref b1), (.ref b1)])) _
    refine st3 _ ?_
    show Steps p.tables e below (T3.setTop (mkF m 11 #[.val (.int u0), .unset, .unset, .unset, .unset, .unset] [(.ref b1)])) _
    refine XS.dup X3.here hx rfl (hb hby at_11) rfl rfl ?_
    show Steps p.tables e below (T3.setTop (mkF m 12 #[.val (.int u0), .unset, .unset, .unset, .unset, .unset] [(.ref b1), (.ref b1)])) _
    refine XS.iconst X3.here hx rfl (hb hby at_12) ?_
    show Steps p.tables e below (T3.setTop (mkF m 13 #[.val (.int u0), .unset, .unset, .unset, .unset, .unset] [(.int (1 : Int32)), (.ref b1), (.ref b1)])) _
    refine st4 _ ?_
    show Steps p.tables e below (T4.setTop (mkF m 16 #[.val (.int u0), .unset, .unset, .unset, .unset, .unset] [(.ref (w 1)), (.int (1 : Int32)), (.ref b1), (.ref b1)])) _
    refine st5 _ ?_
    show Steps p.tables e below (T5.setTop (mkF m 17 #[.val (.int u0), .unset, .unset, .unset, .unset, .unset] [(.ref b1)])) _
    refine XS.dup X5.here hx rfl (hb hby at_17) rfl rfl ?_
    show Steps p.tables e below (T5.setTop (mkF m 18 #[.val (.int u0), .unset, .unset, .unset, .unset, .unset] [(.ref b1), (.ref b1)])) _
    refine XS.iconst X5.here hx rfl (hb hby at_18) ?_
    show Steps p.tables e below (T5.setTop (mkF m 19 #[.val (.int u0), .unset, .unset, .unset, .unset, .unset] [(.int (2 : Int32)), (.ref b1), (.ref b1)])) _
    refine st6 _ ?_
    show Steps p.tables e below (T6.setTop (mkF m 22 #[.val (.int u0), .unset, .unset, .unset, .unset, .unset] [(.ref (w 2)), (.int (2 : Int32)), (.ref b1), (.ref b1)])) _
    refine st7 _ ?_
    show Steps p.tables e below (T7.setTop (mkF m 23 #[.val (.int u0), .unset, .unset, .unset, .unset, .unset] [(.ref b1)])) _
    refine XS.dup X7.here hx rfl (hb hby at_23) rfl rfl ?_
    show Steps p.tables e below (T7.setTop (mkF m 24 #[.val (.int u0), .unset, .unset, .unset, .unset, .unset] [(.ref b1), (.ref b1)])) _
    refine XS.iconst X7.here hx rfl (hb hby at_24) ?_
    show Steps p.tables e below (T7.setTop (mkF m 25 #[.val (.int u0), .unset, .unset, .unset, .unset, .unset] [(.int (3 : Int32)), (.ref b1), (.ref b1)])) _
    refine st8 _ ?_
    show Steps p.tables e below (T8.setTop (mkF m 28 #[.val (.int u0), .unset, .unset, .unset, .unset, .unset] [(.ref (w 3)), (.int (3 : Int32)), (.ref b1), (.ref b1)])) _
    refine st9 _ ?_
    show Steps p.tables e below (T9.setTop (mkF m 29 #[.val (.int u0), .unset, .unset, .unset, .unset, .unset] [(.ref b1)])) _
    refine XS.dup X9.here hx rfl (hb hby at_29) rfl rfl ?_
    show Steps p.tables e below (T9.setTop (mkF m 30 #[.val (.int u0), .unset, .unset, .unset, .unset, .unset] [(.ref b1), (.ref b1)])) _
    refine XS.iconst X9.here hx rfl (hb hby at_30) ?_
    show Steps p.tables e below (T9.setTop (mkF m 31 #[.val (.int u0), .unset, .unset, .unset, .unset, .unset] [(.int (4 : Int32)), (.ref b1), (.ref b1)])) _
    refine st10 _ ?_
    show Steps p.tables e below (T10.setTop (mkF m 34 #[.val (.int u0), .unset, .unset, .unset, .unset, .unset] [(.ref (w 4)), (.int (4 : Int32)), (.ref b1), (.ref b1)])) _
    refine st11 _ ?_
    show Steps p.tables e below (T11.setTop (mkF m 35 #[.val (.int u0), .unset, .unset, .unset, .unset, .unset] [(.ref b1)])) _
    refine XS.dup X11.here hx rfl (hb hby at_35) rfl rfl ?_
    show Steps p.tables e below (T11.setTop (mkF m 36 #[.val (.int u0), .unset, .unset, .unset, .unset, .unset] [(.ref b1), (.ref b1)])) _
    refine XS.iconst X11.here hx rfl (hb hby at_36) ?_
    show Steps p.tables e below (T11.setTop (mkF m 37 #[.val (.int u0), .unset, .unset, .unset, .unset, .unset] [(.int (5 : Int32)), (.ref b1), (.ref b1)])) _
    refine st12 _ ?_
    show Steps p.tables e below (T12.setTop (mkF m 40 #[.val (.int u0), .unset, .unset, .unset, .unset, .unset] [(.ref (w 5)), (.int (5 : Int32)), (.ref b1), (.ref b1)])) _
    refine st13 _ ?_
    show Steps p.tables e below (T13.setTop (mkF m 41 #[.val (.int u0), .unset, .unset, .unset, .unset, .unset] [(.ref b1)])) _
    refine XS.dup X13.here hx rfl (hb hby at_41) rfl rfl ?_
    show Steps p.tables e below (T13.setTop (mkF m 42 #[.val (.int u0), .unset, .unset, .unset, .unset, .unset] [(.ref b1), (.ref b1)])) _
    refine XS.bipush X13.here hx rfl (hb hby at_42) ?_
    show Steps p.tables e below (T13.setTop (mkF m 44 #[.val (.int u0), .unset, .unset, .unset, .unset, .unset] [(.int (6 : Int32)), (.ref b1), (.ref b1)])) _
    refine st14 _ ?_
    show Steps p.tables e below (T14.setTop (mkF m 47 #[.val (.int u0), .unset, .unset, .unset, .unset, .unset] [(.ref (w 6)), (.int (6 : Int32)), (.ref b1), (.ref b1)])) _
    refine st15 _ ?_
    show Steps p.tables e below (T15.setTop (mkF m 48 #[.val (.int u0), .unset, .unset, .unset, .unset, .unset] [(.ref b1)])) _
    refine XS.dup X15.here hx rfl (hb hby at_48) rfl rfl ?_
    show Steps p.tables e below (T15.setTop (mkF m 49 #[.val (.int u0), .unset, .unset, .unset, .unset, .unset] [(.ref b1), (.ref b1)])) _
    refine XS.bipush X15.here hx rfl (hb hby at_49) ?_
    show Steps p.tables e below (T15.setTop (mkF m 51 #[.val (.int u0), .unset, .unset, .unset, .unset, .unset] [(.int (7 : Int32)), (.ref b1), (.ref b1)])) _
    refine st16 _ ?_
    show Steps p.tables e below (T16.setTop (mkF m 54 #[.val (.int u0), .unset, .unset, .unset, .unset, .unset] [(.ref (w 7)), (.int (7 : Int32)), (.ref b1), (.ref b1)])) _
    refine st17 _ ?_
    show Steps p.tables e below (T17.setTop (mkF m 55 #[.val (.int u0), .unset, .unset, .unset, .unset, .unset] [(.ref b1)])) _
    refine XS.astoreN X17.here hx rfl (hb hby at_55) rfl rfl (l' := #[.val (.int u0), .val (.ref b1), .unset, .unset, .unset, .unset]) rfl ?_
    show Steps p.tables e below (T17.setTop (mkF m 56 #[.val (.int u0), .val (.ref b1), .unset, .unset, .unset, .unset] [])) _
    refine XS.iloadN X17.here hx rfl (hb hby at_56) rfl ?_
    show Steps p.tables e below (T17.setTop (mkF m 57 #[.val (.int u0), .val (.ref b1), .unset, .unset, .unset, .unset] [(.int u0)])) _
    refine XS.bipush X17.here hx rfl (hb hby at_57) ?_
    show Steps p.tables e below (T17.setTop (mkF m 59 #[.val (.int u0), .val (.ref b1), .unset, .unset, .unset, .unset] [(.int (7 : Int32)), (.int u0)])) _
    refine XS.iand X17.here hx rfl (hb hby at_59) rfl ?_
    show Steps p.tables e below (T17.setTop (mkF m 60 #[.val (.int u0), .val (.ref b1), .unset, .unset, .unset, .unset] [(.int (u0 &&& (7 : Int32)))])) _
    rw [hk0]
    show Steps p.tables e below (T17.setTop (mkF m 60 #[.val (.int u0), .val (.ref b1), .unset, .unset, .unset, .unset] [(.int (6 : Int32))])) _
    refine XS.istoreN X17.here hx rfl (hb hby at_60) rfl (l' := #[.val (.int u0), .val (.ref b1), .val (.int (6 : Int32)), .unset, .unset, .unset]) rfl ?_
    show Steps p.tables e below (T17.setTop (mkF m 61 #[.val (.int u0), .val (.ref b1), .val (.int (6 : Int32)), .unset, .unset, .unset] [])) _
    refine XS.aloadN X17.here hx rfl (hb hby at_61) rfl rfl ?_
    show Steps p.tables e below (T17.setTop (mkF m 62 #[.val (.int u0), .val (.ref b1), .val (.int (6 : Int32)), .unset, .unset, .unset] [(.ref b1)])) _
    refine XS.iloadN X17.here hx rfl (hb hby at_62) rfl ?_
    show Steps p.tables e below (T17.setTop (mkF m 63 #[.val (.int u0), .val (.ref b1), .val (.int (6 : Int32)), .unset, .unset, .unset] [(.int (6 : Int32)), (.ref b1)])) _
    refine X17.aaload hx (j := (6 : Int32)) (v := (.ref (w 6))) (by rw [e17]; exact Ar18.1) (State.isArrayOf_alike hZ.alike Ar18.2.1) rfl Ar18.2.2 hin18 hat18 (g := (mkF m 63 #[.val (.int u0), .val (.ref b1), .val (.int (6 : Int32)), .unset, .unset, .unset] [(.int (6 : Int32)), (.ref b1)])) rfl rfl (hb hby at_63) _ ?_
    show Steps p.tables e below (T17.setTop (mkF m 64 #[.val (.int u0), .val (.ref b1), .val (.int (6 : Int32)), .unset, .unset, .unset] [(.ref (w 6))])) _
    refine XS.astoreN X17.here hx rfl (hb hby at_64) rfl rfl (l' := #[.val (.int u0), .val (.ref b1), .val (.int (6 : Int32)), .val (.ref (w 6)), .unset, .unset]) rfl ?_
    show Steps p.tables e below (T17.setTop (mkF m 65 #[.val (.int u0), .val (.ref b1), .val (.int (6 : Int32)), .val (.ref (w 6)), .unset, .unset] [])) _
    refine XS.iloadN X17.here hx rfl (hb hby at_65) rfl ?_
    show Steps p.tables e below (T17.setTop (mkF m 66 #[.val (.int u0), .val (.ref b1), .val (.int (6 : Int32)), .val (.ref (w 6)), .unset, .unset] [(.int (6 : Int32))])) _
    refine XS.iconst X17.here hx rfl (hb hby at_66) ?_
    show Steps p.tables e below (T17.setTop (mkF m 67 #[.val (.int u0), .val (.ref b1), .val (.int (6 : Int32)), .val (.ref (w 6)), .unset, .unset] [(.int (2 : Int32)), (.int (6 : Int32))])) _
    refine XS.icmpNo X17.here hx rfl (hb hby at_67) rfl (feq (by decide : ¬ ((6 : Int32) = (2 : Int32)))).1 ?_
    show Steps p.tables e below (T17.setTop (mkF m 70 #[.val (.int u0), .val (.ref b1), .val (.int (6 : Int32)), .val (.ref (w 6)), .unset, .unset] [])) _
    refine XS.iloadN X17.here hx rfl (hb hby at_70) rfl ?_
    show Steps p.tables e below (T17.setTop (mkF m 71 #[.val (.int u0), .val (.ref b1), .val (.int (6 : Int32)), .val (.ref (w 6)), .unset, .unset] [(.int (6 : Int32))])) _
    refine XS.iconst X17.here hx rfl (hb hby at_71) ?_
    show Steps p.tables e below (T17.setTop (mkF m 72 #[.val (.int u0), .val (.ref b1), .val (.int (6 : Int32)), .val (.ref (w 6)), .unset, .unset] [(.int (3 : Int32)), (.int (6 : Int32))])) _
    refine XS.icmpYes X17.here hx rfl (pc0 := 72) (pc' := 79) rfl (hb hby at_72) rfl (feq (by decide : ¬ ((6 : Int32) = (3 : Int32)))).2 (by decide) (by decide) ?_
    show Steps p.tables e below (T17.setTop (mkF m 79 #[.val (.int u0), .val (.ref b1), .val (.int (6 : Int32)), .val (.ref (w 6)), .unset, .unset] [])) _
    refine XS.iconst X17.here hx rfl (hb hby at_79) ?_
    show Steps p.tables e below (T17.setTop (mkF m 80 #[.val (.int u0), .val (.ref b1), .val (.int (6 : Int32)), .val (.ref (w 6)), .unset, .unset] [(.int (0 : Int32))])) _
    refine XS.istore X17.here hx rfl (hb hby at_80) rfl (l' := #[.val (.int u0), .val (.ref b1), .val (.int (6 : Int32)), .val (.ref (w 6)), .val (.int (0 : Int32)), .unset]) rfl ?_
    show Steps p.tables e below (T17.setTop (mkF m 82 #[.val (.int u0), .val (.ref b1), .val (.int (6 : Int32)), .val (.ref (w 6)), .val (.int (0 : Int32)), .unset] [])) _
    refine XS.aloadN X17.here hx rfl (hb hby at_82) rfl rfl ?_
    show Steps p.tables e below (T17.setTop (mkF m 83 #[.val (.int u0), .val (.ref b1), .val (.int (6 : Int32)), .val (.ref (w 6)), .val (.int (0 : Int32)), .unset] [(.ref (w 6))])) _
    refine st19.trans ?_
    show Steps p.tables e below (T19.setTop (mkF m 86 #[.val (.int u0), .val (.ref b1), .val (.int (6 : Int32)), .val (.ref (w 6)), .val (.int (0 : Int32)), .unset] [(.int (0 : Int32))])) _
    refine XS.istore X19.here hx rfl (hb hby at_86) rfl (l' := #[.val (.int u0), .val (.ref b1), .val (.int (6 : Int32)), .val (.ref (w 6)), .val (.int (0 : Int32)), .val (.int (0 : Int32))]) rfl ?_
    show Steps p.tables e below (T19.setTop (mkF m 88 #[.val (.int u0), .val (.ref b1), .val (.int (6 : Int32)), .val (.ref (w 6)), .val (.int (0 : Int32)), .val (.int (0 : Int32))] [])) _
    refine XS.iload X19.here hx rfl (hb hby at_88) rfl ?_
    show Steps p.tables e below (T19.setTop (mkF m 90 #[.val (.int u0), .val (.ref b1), .val (.int (6 : Int32)), .val (.ref (w 6)), .val (.int (0 : Int32)), .val (.int (0 : Int32))] [(.int (0 : Int32))])) _
    refine XS.iload X19.here hx rfl (hb hby at_90) rfl ?_
    show Steps p.tables e below (T19.setTop (mkF m 92 #[.val (.int u0), .val (.ref b1), .val (.int (6 : Int32)), .val (.ref (w 6)), .val (.int (0 : Int32)), .val (.int (0 : Int32))] [(.int (0 : Int32)), (.int (0 : Int32))])) _
    refine XS.icmpYes X19.here hx rfl (pc0 := 92) (pc' := 97) rfl (hb hby at_92) rfl (teq (by decide : (0 : Int32) = (0 : Int32))).1 (by decide) (by decide) ?_
    show Steps p.tables e below (T19.setTop (mkF m 97 #[.val (.int u0), .val (.ref b1), .val (.int (6 : Int32)), .val (.ref (w 6)), .val (.int (0 : Int32)), .val (.int (0 : Int32))] [])) _
    refine XS.iload X19.here hx rfl (hb hby at_97) rfl ?_
    show Steps p.tables e below (T19.setTop (mkF m 99 #[.val (.int u0), .val (.ref b1), .val (.int (6 : Int32)), .val (.ref (w 6)), .val (.int (0 : Int32)), .val (.int (0 : Int32))] [(.int (0 : Int32))])) _
    refine XS.ifYes X19.here hx rfl (pc0 := 99) (pc' := 131) rfl (hb hby at_99) rfl ((if0 _ _).trans (teq (by decide : (0 : Int32) = (0 : Int32))).1) (by decide) (by decide) ?_
    show Steps p.tables e below (T19.setTop (mkF m 131 #[.val (.int u0), .val (.ref b1), .val (.int (6 : Int32)), .val (.ref (w 6)), .val (.int (0 : Int32)), .val (.int (0 : Int32))] [])) _
    refine XS.iconst X19.here hx rfl (hb hby at_131) ?_
    show Steps p.tables e below (T19.setTop (mkF m 132 #[.val (.int u0), .val (.ref b1), .val (.int (6 : Int32)), .val (.ref (w 6)), .val (.int (0 : Int32)), .val (.int (0 : Int32))] [(.int (1 : Int32))])) _
    exact retN X19 hx (t := .boolean) Bd.returns (by simp) (hb hby at_132) hr
  · exact ⟨rfl, N19⟩
set_option maxRecDepth 65536 in
set_option maxHeartbeats 40000000 in
theorem rm_comparesText_21 (l : Launch) (Z : State) (a0 : Array Value) (hw : ∀ d ∈ tables_1, d.before a0 Z = true) (w : Nat → Addr) (κ : Nat → ClassId) (h0 : Heap) (n0 : Nat) (Z0 : n0 ≤ h0.size) (K : Kon Z h0 w κ) (u0 : Int32) (b1 : Addr) (k1 : ClassId) :
    OM l Z (⟨"com/example/licon/licon/search/Operator", "comparesText", "()Z"⟩ : MethodName) prog_9_method_6_code 1 (some .boolean) [] ({ frames := 0, cells := 0, slots := 0, locals := 0 } : Room) #[(.ref (w 7))] h0 (OP (some (.int (0 : Int32))) n0 h0) := by
  refine MetFree.of_bodySF (plainFor_of_name pn_com_example_licon_licon_search_Operator) hisR ?_
  intro p e s m args below meth c s₁ Bd hml0 hP hK
  obtain ⟨rfl, hZ, hh⟩ := hP
  have hx := Bd.exec
  have hby := Bd.bytes
  have hml : c.maxLocals = 1 := hml0
  have hown : s.vm.findClass "com/example/licon/licon/search/Operator" = some m.cls := findClass_of_methodNamed Bd.named
  have hnm := (name_of_methodNamed Bd.named Bd.method).1
  have X0 : Stand p l e ({ frames := 0, cells := 0, slots := 0, locals := 0 } : Room) s m #[(.ref (w 7))] below meth c s₁ [] 0 0 := Stand.of_body Bd
  have e0 : s₁.heap = h0 := by rw [← hh, Bd.state]; rfl
  have N0 := Fr.nil n0
  have pre0 : ∀ t, Steps p.tables e below (s₁.setTop (mkF m 0 #[.val (.ref (w 7))] [])) t → Steps p.tables e below (s₁.setTop (entryFrame m #[(.ref (w 7))] 1)) t := fun t k => castTop (by first | rfl | simp [entryFrame, mkF, argsToLocals, Value.category]) k
  obtain ⟨T1, X1, e1, st1⟩ := getS2 X0 hx hZ hown (host := "") (Or.inl (hw _ (List.mem_of_getElem? (i := 25) rfl))) Via.refl e0 K.2.2.1 (g := (mkF m 1 #[.val (.ref (w 7))] [(.ref (w 7))])) rfl (hb hby d_prog_9_method_6_code_1)
  obtain ⟨T2, X2, e2, st2⟩ := getS2 X1 hx hZ hown (host := "") (Or.inl (hw _ (List.mem_of_getElem? (i := 26) rfl))) Via.refl e1 K.2.2.2.1 (g := (mkF m 8 #[.val (.ref (w 7))] [(.ref (w 7))])) rfl (hb hby d_prog_9_method_6_code_8)
  obtain ⟨fs, hr, hrun, hended, hW, hsame⟩ := X2.leave (v := (some (.int (0 : Int32)))) (fun h => by rw [Bd.returns] at h; cases h)
  refine ⟨_, _, pre0 _ ?_, hrun, hended, _, _, rfl, ?_, ⟨_, rfl⟩, hW, hsame.mono (by decide) (by decide)⟩
  · show Steps p.tables e below (s₁.setTop (mkF m 0 #[.val (.ref (w 7))] [])) _
    refine XS.aloadN X0.here hx rfl (hb hby d_prog_9_method_6_code_0) rfl rfl ?_
    show Steps p.tables e below (s₁.setTop (mkF m 1 #[.val (.ref (w 7))] [(.ref (w 7))])) _
    refine st1 _ ?_
    show Steps p.tables e below (T1.setTop (mkF m 4 #[.val (.ref (w 7))] [(.ref (w 2)), (.ref (w 7))])) _
    refine Jvm.RoadKit.acmp (g := (mkF m 4 #[.val (.ref (w 7))] [(.ref (w 2)), (.ref (w 7))])) X1 hx rfl rfl rfl (pc0 := 4) (pc' := 7) (same := false) rfl (hb hby d_prog_9_method_6_code_4) rfl (decide_eq_false fun q => (K.2.2.2.2.2.2.2.2.2.2.2.2.2.2.2.2.2.2.2.2.2.2.2.1.ne K.2.2.2.2.2.2.2.2.2.2.2.2.2.2.2.2.2.1 (by decide)) (Value.ref.inj q)) (by decide) (by decide) ?_
    show Steps p.tables e below (T1.setTop (mkF m 7 #[.val (.ref (w 7))] [])) _
    refine XS.aloadN X1.here hx rfl (hb hby d_prog_9_method_6_code_7) rfl rfl ?_
    show Steps p.tables e below (T1.setTop (mkF m 8 #[.val (.ref (w 7))] [(.ref (w 7))])) _
    refine st2 _ ?_
    show Steps p.tables e below (T2.setTop (mkF m 11 #[.val (.ref (w 7))] [(.ref (w 3)), (.ref (w 7))])) _
    refine Jvm.RoadKit.acmp (g := (mkF m 11 #[.val (.ref (w 7))] [(.ref (w 3)), (.ref (w 7))])) X2 hx rfl rfl rfl (pc0 := 11) (pc' := 18) (same := false) rfl (hb hby d_prog_9_method_6_code_11) rfl (decide_eq_false fun q => (K.2.2.2.2.2.2.2.2.2.2.2.2.2.2.2.2.2.2.2.2.2.2.2.1.ne K.2.2.2.2.2.2.2.2.2.2.2.2.2.2.2.2.2.2.1 (by decide)) (Value.ref.inj q)) (by decide) (by decide) ?_
    show Steps p.tables e below (T2.setTop (mkF m 18 #[.val (.ref (w 7))] [])) _
    refine XS.iconst X2.here hx rfl (hb hby d_prog_9_method_6_code_18) ?_
    show Steps p.tables e below (T2.setTop (mkF m 19 #[.val (.ref (w 7))] [(.int (0 : Int32))])) _
    exact retN X2 hx (t := .boolean) Bd.returns (by simp) (hb hby d_prog_9_method_6_code_19) hr
  · exact ⟨rfl, N0, e2⟩
set_option maxRecDepth 65536 in
set_option maxHeartbeats 40000000 in
theorem rm0_22 (l : Launch) (Z : State) (a0 : Array Value) (hw : ∀ d ∈ tables_1, d.before a0 Z = true) (w : Nat → Addr) (κ : Nat → ClassId) (h0 : Heap) (n0 : Nat) (Z0 : n0 ≤ h0.size) (K : Kon Z h0 w κ) (u0 : Int32) (hk0 : (u0 &&& (7 : Int32)) = (7 : Int32)) :
    OM l Z x code maxLocals ret tables_1 room_1 #[(.int u0)] h0 (OF (some (.int (1 : Int32))) n0) := by
  refine MetFree.of_bodySF (plainFor_of_name pn_com_example_licon_licon_search_OperatorComparesTextPinLaw) hisR ?_
  intro p e s m args below meth c s₁ Bd hml0 hP hK
  obtain ⟨rfl, hZ, hh⟩ := hP
  have hx := Bd.exec
  have hby := Bd.bytes
  have hml : c.maxLocals = 6 := hml0
  have hown : s.vm.findClass "com/example/licon/licon/search/OperatorComparesTextPinLaw" = some m.cls := findClass_of_methodNamed Bd.named
  have hnm := (name_of_methodNamed Bd.named Bd.method).1
  have X0 : Stand p l e room_1 s m #[(.int u0)] below meth c s₁ [] 0 0 := Stand.of_body Bd
  have e0 : s₁.heap = h0 := by rw [← hh, Bd.state]; rfl
  have N0 := Fr.nil n0
  have pre0 : ∀ t, Steps p.tables e below (s₁.setTop (mkF m 0 #[.val (.int u0), .unset, .unset, .unset, .unset, .unset] [])) t → Steps p.tables e below (s₁.setTop (entryFrame m #[(.int u0)] maxLocals)) t := fun t k => castTop (by first | rfl | simp [entryFrame, mkF, argsToLocals, Value.category, maxLocals]) k
  obtain ⟨T1, h1, k1, X1, e1, E1, A1, O1, st1⟩ := newR X0 hx hZ hown (hw _ (List.mem_of_getElem? (i := 0) rfl)) (hw _ (List.mem_of_getElem? (i := 1) rfl)) e0 (g := (mkF m 2 #[.val (.int u0), .unset, .unset, .unset, .unset, .unset] [(.int (8 : Int32))])) rfl (hb hby at_2) rfl (by decide) (cap := 8) (by decide) (by decide) (by decide) (by decide)
  obtain ⟨b1, g1⟩ : ∃ z, z = h0.size := ⟨_, rfl⟩
  rw [← g1] at A1 st1
  have hG1 : n0 ≤ b1 := Nat.le_trans Z0 (Nat.le_of_eq g1.symm)
  have hKN1 : ∀ i, i < 8 → w i ≠ b1 := fun i hi => by rw [g1]; exact Nat.ne_of_lt (K.lt i hi)
  have K1 := K.ext E1
  have Z1 : n0 ≤ h1.size := Nat.le_trans Z0 E1.1
  have V1 : Arv Z h1 b1 k1 (.object "com/example/licon/licon/search/Operator") (8 : Int32) [.null, .null, .null, .null, .null, .null, .null, .null] .null := (Arv.new A1 (by decide)).pad (pad_rep [] .null 8)
  obtain ⟨T2, X2, e2, st2⟩ := getS2 X1 hx hZ hown (host := "") (Or.inl (hw _ (List.mem_of_getElem? (i := 2) rfl))) Via.refl e1 K1.1 (g := (mkF m 7 #[.val (.int u0), .unset, .unset, .unset, .unset, .unset] [(.int (0 : Int32)), (.ref b1), (.ref b1)])) rfl (hb hby at_7)
  obtain ⟨cl3, Ar3, qa3, Sz3, Nn3, Ha3, Ga3⟩ := id V1
  have hin3 : ¬ ((0 : Int32) < 0 ∨ cl3.slots.size ≤ ((0 : Int32)).toNatClampNeg) := inb_of Sz3 ⟨by decide, by decide⟩
  obtain ⟨T3, h3, X3, e3, W3, st3⟩ := stR X2 hx hZ e2 Ar3 (j := (0 : Int32)) hin3 rfl (Sto.ofV Ar3 qa3 O1 (Ins.self K1.2.2.2.2.2.2.2.2.1)) (g := (mkF m 10 #[.val (.int u0), .unset, .unset, .unset, .unset, .unset] [(.ref (w 0)), (.int (0 : Int32)), (.ref b1), (.ref b1)])) rfl rfl (hb hby at_10)
  have f3_fA_b1 : Arv Z h3 b1 k1 (.object "com/example/licon/licon/search/Operator") (8 : Int32) [(.ref (w 0)), .null, .null, .null, .null, .null, .null, .null] .null := Arv.set Ar3 qa3 Sz3 Nn3 Ha3 Ga3 rfl W3 0 rfl (Nat.le_of_ble_eq_true rfl)
  have K3 := K1.wr W3 hKN1
  have Z3 : n0 ≤ h3.size := Nat.le_trans Z1 (Nat.le_of_eq W3.size.symm)
  have N3 := Fr.snoc X3 N0 hG1
  obtain ⟨T4, X4, e4, st4⟩ := getS2 X3 hx hZ hown (host := "") (Or.inl (hw _ (List.mem_of_getElem? (i := 6) rfl))) Via.refl e3 K3.2.1 (g := (mkF m 13 #[.val (.int u0), .unset, .unset, .unset, .unset, .unset] [(.int (1 : Int32)), (.ref b1), (.ref b1)])) rfl (hb hby at_13)
  obtain ⟨cl5, Ar5, qa5, Sz5, Nn5, Ha5, Ga5⟩ := id f3_fA_b1
  have hin5 : ¬ ((1 : Int32) < 0 ∨ cl5.slots.size ≤ ((1 : Int32)).toNatClampNeg) := inb_of Sz5 ⟨by decide, by decide⟩
  obtain ⟨T5, h5, X5, e5, W5, st5⟩ := stR X4 hx hZ e4 Ar5 (j := (1 : Int32)) hin5 rfl (Sto.ofV Ar5 qa5 O1 (Ins.self K3.2.2.2.2.2.2.2.2.2.1)) (g := (mkF m 16 #[.val (.int u0), .unset, .unset, .unset, .unset, .unset] [(.ref (w 1)), (.int (1 : Int32)), (.ref b1), (.ref b1)])) rfl rfl (hb hby at_16)
  have f5_fA_b1 : Arv Z h5 b1 k1 (.object "com/example/licon/licon/search/Operator") (8 : Int32) [(.ref (w 0)), (.ref (w 1)), .null, .null, .null, .null, .null, .null] .null := Arv.set Ar5 qa5 Sz5 Nn5 Ha5 Ga5 rfl W5 1 rfl (Nat.le_of_ble_eq_true rfl)
  have K5 := K3.wr W5 hKN1
  have Z5 : n0 ≤ h5.size := Nat.le_trans Z3 (Nat.le_of_eq W5.size.symm)
  have N5 := Fr.snoc X5 N3 hG1
  obtain ⟨T6, X6, e6, st6⟩ := getS2 X5 hx hZ hown (host := "") (Or.inl (hw _ (List.mem_of_getElem? (i := 8) rfl))) Via.refl e5 K5.2.2.1 (g := (mkF m 19 #[.val (.int u0), .unset, .unset, .unset, .unset, .unset] [(.int (2 : Int32)), (.ref b1), (.ref b1)])) rfl (hb hby at_19)
  obtain ⟨cl7, Ar7, qa7, Sz7, Nn7, Ha7, Ga7⟩ := id f5_fA_b1
  have hin7 : ¬ ((2 : Int32) < 0 ∨ cl7.slots.size ≤ ((2 : Int32)).toNatClampNeg) := inb_of Sz7 ⟨by decide, by decide⟩
  obtain ⟨T7, h7, X7, e7, W7, st7⟩ := stR X6 hx hZ e6 Ar7 (j := (2 : Int32)) hin7 rfl (Sto.ofV Ar7 qa7 O1 (Ins.self K5.2.2.2.2.2.2.2.2.2.2.1)) (g := (mkF m 22 #[.val (.int u0), .unset, .unset, .unset, .unset, .unset] [(.ref (w 2)), (.int (2 : Int32)), (.ref b1), (.ref b1)])) rfl rfl (hb hby at_22)
  have f7_fA_b1 : Arv Z h7 b1 k1 (.object "com/example/licon/licon/search/Operator") (8 : Int32) [(.ref (w 0)), (.ref (w 1)), (.ref (w 2)), .null, .null, .null, .null, .null] .null := Arv.set Ar7 qa7 Sz7 Nn7 Ha7 Ga7 rfl W7 2 rfl (Nat.le_of_ble_eq_true rfl)
  have K7 := K5.wr W7 hKN1
  have Z7 : n0 ≤ h7.size := Nat.le_trans Z5 (Nat.le_of_eq W7.size.symm)
  have N7 := Fr.snoc X7 N5 hG1
  obtain ⟨T8, X8, e8, st8⟩ := getS2 X7 hx hZ hown (host := "") (Or.inl (hw _ (List.mem_of_getElem? (i := 10) rfl))) Via.refl e7 K7.2.2.2.1 (g := (mkF m 25 #[.val (.int u0), .unset, .unset, .unset, .unset, .unset] [(.int (3 : Int32)), (.ref b1), (.ref b1)])) rfl (hb hby at_25)
  obtain ⟨cl9, Ar9, qa9, Sz9, Nn9, Ha9, Ga9⟩ := id f7_fA_b1
  have hin9 : ¬ ((3 : Int32) < 0 ∨ cl9.slots.size ≤ ((3 : Int32)).toNatClampNeg) := inb_of Sz9 ⟨by decide, by decide⟩
  obtain ⟨T9, h9, X9, e9, W9, st9⟩ := stR X8 hx hZ e8 Ar9 (j := (3 : Int32)) hin9 rfl (Sto.ofV Ar9 qa9 O1 (Ins.self K7.2.2.2.2.2.2.2.2.2.2.2.1)) (g := (mkF m 28 #[.val (.int u0), .unset, .unset, .unset, .unset, .unset] [(.ref (w 3)), (.int (3 : Int32)), (.ref b1), (.ref b1)])) rfl rfl (hb hby at_28)
  have f9_fA_b1 : Arv Z h9 b1 k1 (.object "com/example/licon/licon/search/Operator") (8 : Int32) [(.ref (w 0)), (.ref (w 1)), (.ref (w 2)), (.ref (w 3)), .null, .null, .null, .null] .null := Arv.set Ar9 qa9 Sz9 Nn9 Ha9 Ga9 rfl W9 3 rfl (Nat.le_of_ble_eq_true rfl)
  have K9 := K7.wr W9 hKN1
  have Z9 : n0 ≤ h9.size := Nat.le_trans Z7 (Nat.le_of_eq W9.size.symm)
  have N9 := Fr.snoc X9 N7 hG1
  obtain ⟨T10, X10, e10, st10⟩ := getS2 X9 hx hZ hown (host := "") (Or.inl (hw _ (List.mem_of_getElem? (i := 12) rfl))) Via.refl e9 K9.2.2.2.2.1 (g := (mkF m 31 #[.val (.int u0), .unset, .unset, .unset, .unset, .unset] [(.int (4 : Int32)), (.ref b1), (.ref b1)])) rfl (hb hby at_31)
  obtain ⟨cl11, Ar11, qa11, Sz11, Nn11, Ha11, Ga11⟩ := id f9_fA_b1
  have hin11 : ¬ ((4 : Int32) < 0 ∨ cl11.slots.size ≤ ((4 : Int32)).toNatClampNeg) := inb_of Sz11 ⟨by decide, by decide⟩
  obtain ⟨T11, h11, X11, e11, W11, st11⟩ := stR X10 hx hZ e10 Ar11 (j := (4 : Int32)) hin11 rfl (Sto.ofV Ar11 qa11 O1 (Ins.self K9.2.2.2.2.2.2.2.2.2.2.2.2.1)) (g := (mkF m 34 #[.val (.int u0), .unset, .unset, .unset, .unset, .unset] [(.ref (w 4)), (.int (4 : Int32)), (.ref b1), (.ref b1)])) rfl rfl (hb hby at_34)
  have f11_fA_b1 : Arv Z h11 b1 k1 (.object "com/example/licon/licon/search/Operator") (8 : Int32) [(.ref (w 0)), (.ref (w 1)), (.ref (w 2)), (.ref (w 3)), (.ref (w 4)), .null, .null, .null] .null := Arv.set Ar11 qa11 Sz11 Nn11 Ha11 Ga11 rfl W11 4 rfl (Nat.le_of_ble_eq_true rfl)
  have K11 := K9.wr W11 hKN1
  have Z11 : n0 ≤ h11.size := Nat.le_trans Z9 (Nat.le_of_eq W11.size.symm)
  have N11 := Fr.snoc X11 N9 hG1
  obtain ⟨T12, X12, e12, st12⟩ := getS2 X11 hx hZ hown (host := "") (Or.inl (hw _ (List.mem_of_getElem? (i := 14) rfl))) Via.refl e11 K11.2.2.2.2.2.1 (g := (mkF m 37 #[.val (.int u0), .unset, .unset, .unset, .unset, .unset] [(.int (5 : Int32)), (.ref b1), (.ref b1)])) rfl (hb hby at_37)
  obtain ⟨cl13, Ar13, qa13, Sz13, Nn13, Ha13, Ga13⟩ := id f11_fA_b1
  have hin13 : ¬ ((5 : Int32) < 0 ∨ cl13.slots.size ≤ ((5 : Int32)).toNatClampNeg) := inb_of Sz13 ⟨by decide, by decide⟩
  obtain ⟨T13, h13, X13, e13, W13, st13⟩ := stR X12 hx hZ e12 Ar13 (j := (5 : Int32)) hin13 rfl (Sto.ofV Ar13 qa13 O1 (Ins.self K11.2.2.2.2.2.2.2.2.2.2.2.2.2.1)) (g := (mkF m 40 #[.val (.int u0), .unset, .unset, .unset, .unset, .unset] [(.ref (w 5)), (.int (5 : Int32)), (.ref b1), (.ref b1)])) rfl rfl (hb hby at_40)
  have f13_fA_b1 : Arv Z h13 b1 k1 (.object "com/example/licon/licon/search/Operator") (8 : Int32) [(.ref (w 0)), (.ref (w 1)), (.ref (w 2)), (.ref (w 3)), (.ref (w 4)), (.ref (w 5)), .null, .null] .null := Arv.set Ar13 qa13 Sz13 Nn13 Ha13 Ga13 rfl W13 5 rfl (Nat.le_of_ble_eq_true rfl)
  have K13 := K11.wr W13 hKN1
  have Z13 : n0 ≤ h13.size := Nat.le_trans Z11 (Nat.le_of_eq W13.size.symm)
  have N13 := Fr.snoc X13 N11 hG1
  obtain ⟨T14, X14, e14, st14⟩ := getS2 X13 hx hZ hown (host := "") (Or.inl (hw _ (List.mem_of_getElem? (i := 16) rfl))) Via.refl e13 K13.2.2.2.2.2.2.1 (g := (mkF m 44 #[.val (.int u0), .unset, .unset, .unset, .unset, .unset] [(.int (6 : Int32)), (.ref b1), (.ref b1)])) rfl (hb hby at_44)
  obtain ⟨cl15, Ar15, qa15, Sz15, Nn15, Ha15, Ga15⟩ := id f13_fA_b1
  have hin15 : ¬ ((6 : Int32) < 0 ∨ cl15.slots.size ≤ ((6 : Int32)).toNatClampNeg) := inb_of Sz15 ⟨by decide, by decide⟩
  obtain ⟨T15, h15, X15, e15, W15, st15⟩ := stR X14 hx hZ e14 Ar15 (j := (6 : Int32)) hin15 rfl (Sto.ofV Ar15 qa15 O1 (Ins.self K13.2.2.2.2.2.2.2.2.2.2.2.2.2.2.1)) (g := (mkF m 47 #[.val (.int u0), .unset, .unset, .unset, .unset, .unset] [(.ref (w 6)), (.int (6 : Int32)), (.ref b1), (.ref b1)])) rfl rfl (hb hby at_47)
  have f15_fA_b1 : Arv Z h15 b1 k1 (.object "com/example/licon/licon/search/Operator") (8 : Int32) [(.ref (w 0)), (.ref (w 1)), (.ref (w 2)), (.ref (w 3)), (.ref (w 4)), (.ref (w 5)), (.ref (w 6)), .null] .null := Arv.set Ar15 qa15 Sz15 Nn15 Ha15 Ga15 rfl W15 6 rfl (Nat.le_of_ble_eq_true rfl)
  have K15 := K13.wr W15 hKN1
  have Z15 : n0 ≤ h15.size := Nat.le_trans Z13 (Nat.le_of_eq W15.size.symm)
  have N15 := Fr.snoc X15 N13 hG1
  obtain ⟨T16, X16, e16, st16⟩ := getS2 X15 hx hZ hown (host := "") (Or.inl (hw _ (List.mem_of_getElem? (i := 18) rfl))) Via.refl e15 K15.2.2.2.2.2.2.2.1 (g := (mkF m 51 #[.val (.int u0), .unset, .unset, .unset, .unset, .unset] [(.int (7 : Int32)), (.ref b1), (.ref b1)])) rfl (hb hby at_51)
  obtain ⟨cl17, Ar17, qa17, Sz17, Nn17, Ha17, Ga17⟩ := id f15_fA_b1
  have hin17 : ¬ ((7 : Int32) < 0 ∨ cl17.slots.size ≤ ((7 : Int32)).toNatClampNeg) := inb_of Sz17 ⟨by decide, by decide⟩
  obtain ⟨T17, h17, X17, e17, W17, st17⟩ := stR X16 hx hZ e16 Ar17 (j := (7 : Int32)) hin17 rfl (Sto.ofV Ar17 qa17 O1 (Ins.self K15.2.2.2.2.2.2.2.2.2.2.2.2.2.2.2.1)) (g := (mkF m 54 #[.val (.int u0), .unset, .unset, .unset, .unset, .unset] [(.ref (w 7)), (.int (7 : Int32)), (.ref b1), (.ref b1)])) rfl rfl (hb hby at_54)
  have f17_fA_b1 : Arv Z h17 b1 k1 (.object "com/example/licon/licon/search/Operator") (8 : Int32) [(.ref (w 0)), (.ref (w 1)), (.ref (w 2)), (.ref (w 3)), (.ref (w 4)), (.ref (w 5)), (.ref (w 6)), (.ref (w 7))] .null := Arv.set Ar17 qa17 Sz17 Nn17 Ha17 Ga17 rfl W17 7 rfl (Nat.le_of_ble_eq_true rfl)
  have K17 := K15.wr W17 hKN1
  have Z17 : n0 ≤ h17.size := Nat.le_trans Z15 (Nat.le_of_eq W17.size.symm)
  have N17 := Fr.snoc X17 N15 hG1
  obtain ⟨cl18, Ar18, qa18, Sz18, Nn18, Ha18, Ga18⟩ := id f17_fA_b1
  have hin18 : ¬ ((7 : Int32) < 0 ∨ cl18.slots.size ≤ ((7 : Int32)).toNatClampNeg) := inb_of Sz18 ⟨by decide, by decide⟩
  have hat18 : cl18.slots[((7 : Int32)).toNatClampNeg]? = some (.ref (w 7)) := Has.at Ha18 hin18 rfl
  obtain ⟨cq19, kq19, qa19, qb19, qc19⟩ := isOf hZ e17 K17.2.2.2.2.2.2.2.2.2.2.2.2.2.2.2.1
  obtain ⟨_, _, ⟨T19, L19, kk19, n19⟩, -, X19, ⟨Lc19, hQ19, l19, y19, z19⟩, st19⟩ := X17.virtualBack hx (y := (⟨"com/example/licon/licon/search/Operator", "comparesText", "()Z"⟩ : MethodName)) (z := (⟨"com/example/licon/licon/search/Operator", "comparesText", "()Z"⟩ : MethodName)) hown (mvT hZ (hw _ (List.mem_of_getElem? (i := 20) rfl))) (mvT hZ (hw _ (List.mem_of_getElem? (i := 21) rfl))) (notFace_of_selects (args := #[]) (mvT hZ (hw _ (List.mem_of_getElem? (i := 23) rfl)))) (mvT hZ (hw _ (List.mem_of_getElem? (i := 23) rfl))) (mvT hZ (hw _ (List.mem_of_getElem? (i := 22) rfl))) (by decide) (backOf (W := 0) (rm_comparesText_21 l Z a0 hw w κ h17 n0 Z17 K17 u0 b1 k1) hZ (hw _ (List.mem_of_getElem? (i := 24) rfl)) (hw _ (List.mem_of_getElem? (i := 3) rfl)) (by decide) (by decide)) qa19 qc19 (g := (mkF m 83 #[.val (.int u0), .val (.ref b1), .val (.int (7 : Int32)), .val (.ref (w 7)), .val (.int (0 : Int32)), .unset] [(.ref (w 7))])) rfl (by rw [hml]; rfl) (Steps.refl _) (argsL := []) (rest := []) (lenOf pd_2829Z rfl) rfl (by show 2 * 0 + _ ≤ _; exact Nat.le_of_eq rfl) (hb hby at_83) (fun _ _ => ⟨rfl, e17, (by decide : 1 + 0 ≤ _), (by decide : 8 + 0 ≤ _)⟩)
  dsimp only [Pt.U, Pt.locs, Pt.cells, Pt.slots] at X19 l19 y19 z19 st19 hQ19
  subst l19 y19 z19
  obtain ⟨rfl, N19q, e19⟩ := hQ19
  have N19 := Fr.app N17 N19q
  obtain ⟨fs, hr, hrun, hended, hW, hsame⟩ := X19.leave (v := (some (.int (1 : Int32)))) (fun h => by rw [Bd.returns] at h; cases h)
  refine ⟨_, _, pre0 _ ?_, hrun, hended, _, _, rfl, ?_, ⟨_, rfl⟩, hW, hsame.mono (by decide) (by decide)⟩
  · show Steps p.tables e below (s₁.setTop (mkF m 0 #[.val (.int u0), .unset, .unset, .unset, .unset, .unset] [])) _
    refine XS.bipush X0.here hx rfl (hb hby at_0) ?_
    show Steps p.tables e below (s₁.setTop (mkF m 2 #[.val (.int u0), .unset, .unset, .unset, .unset, .unset] [(.int (8 : Int32))])) _
    refine st1 _ ?_
    show Steps p.tables e below (T1.setTop (mkF m 5 #[.val (.int u0), .unset, .unset, .unset, .unset, .unset] [(.ref b1)])) _
    refine XS.dup X1.here hx rfl (hb hby at_5) rfl rfl ?_
    show Steps p.tables e below (T1.setTop (mkF m 6 #[.val (.int u0), .unset, .unset, .unset, .unset, .unset] [(.ref b1), (.ref b1)])) _
    refine XS.iconst X1.here hx rfl (hb hby at_6) ?_
    show Steps p.tables e below (T1.setTop (mkF m 7 #[.val (.int u0), .unset, .unset, .unset, .unset, .unset] [(.int (0 : Int32)), (.ref b1), (.ref b1)])) _
    refine st2 _ ?_
    show Steps p.tables e below (T2.setTop (mkF m 10 #[.val (.int u0), .unset, .unset, .unset, .unset, .unset] [(.ref (w 0)), (.int (0 : Int32)), (.ref b1), (.ref b1)])) _
    refine st3 _ ?_
    show Steps p.tables e below (T3.setTop (mkF m 11 #[.val (.int u0), .unset, .unset, .unset, .unset, .unset] [(.ref b1)])) _
    refine XS.dup X3.here hx rfl (hb hby at_11) rfl rfl ?_
    show Steps p.tables e below (T3.setTop (mkF m 12 #[.val (.int u0), .unset, .unset, .unset, .unset, .unset] [(.ref b1), (.ref b1)])) _
    refine XS.iconst X3.here hx rfl (hb hby at_12) ?_
    show Steps p.tables e below (T3.setTop (mkF m 13 #[.val (.int u0), .unset, .unset, .unset, .unset, .unset] [(.int (1 : Int32)), (.ref b1), (.ref b1)])) _
    refine st4 _ ?_
    show Steps p.tables e below (T4.setTop (mkF m 16 #[.val (.int u0), .unset, .unset, .unset, .unset, .unset] [(.ref (w 1)), (.int (1 : Int32)), (.ref b1), (.ref b1)])) _
    refine st5 _ ?_
    show Steps p.tables e below (T5.setTop (mkF m 17 #[.val (.int u0), .unset, .unset, .unset, .unset, .unset] [(.ref b1)])) _
    refine XS.dup X5.here hx rfl (hb hby at_17) rfl rfl ?_
    show Steps p.tables e below (T5.setTop (mkF m 18 #[.val (.int u0), .unset, .unset, .unset, .unset, .unset] [(.ref b1), (.ref b1)])) _
    refine XS.iconst X5.here hx rfl (hb hby at_18) ?_
    show Steps p.tables e below (T5.setTop (mkF m 19 #[.val (.int u0), .unset, .unset, .unset, .unset, .unset] [(.int (2 : Int32)), (.ref b1), (.ref b1)])) _
    refine st6 _ ?_
    show Steps p.tables e below (T6.setTop (mkF m 22 #[.val (.int u0), .unset, .unset, .unset, .unset, .unset] [(.ref (w 2)), (.int (2 : Int32)), (.ref b1), (.ref b1)])) _
    refine st7 _ ?_
    show Steps p.tables e below (T7.setTop (mkF m 23 #[.val (.int u0), .unset, .unset, .unset, .unset, .unset] [(.ref b1)])) _
    refine XS.dup X7.here hx rfl (hb hby at_23) rfl rfl ?_
    show Steps p.tables e below (T7.setTop (mkF m 24 #[.val (.int u0), .unset, .unset, .unset, .unset, .unset] [(.ref b1), (.ref b1)])) _
    refine XS.iconst X7.here hx rfl (hb hby at_24) ?_
    show Steps p.tables e below (T7.setTop (mkF m 25 #[.val (.int u0), .unset, .unset, .unset, .unset, .unset] [(.int (3 : Int32)), (.ref b1), (.ref b1)])) _
    refine st8 _ ?_
    show Steps p.tables e below (T8.setTop (mkF m 28 #[.val (.int u0), .unset, .unset, .unset, .unset, .unset] [(.ref (w 3)), (.int (3 : Int32)), (.ref b1), (.ref b1)])) _
    refine st9 _ ?_
    show Steps p.tables e below (T9.setTop (mkF m 29 #[.val (.int u0), .unset, .unset, .unset, .unset, .unset] [(.ref b1)])) _
    refine XS.dup X9.here hx rfl (hb hby at_29) rfl rfl ?_
    show Steps p.tables e below (T9.setTop (mkF m 30 #[.val (.int u0), .unset, .unset, .unset, .unset, .unset] [(.ref b1), (.ref b1)])) _
    refine XS.iconst X9.here hx rfl (hb hby at_30) ?_
    show Steps p.tables e below (T9.setTop (mkF m 31 #[.val (.int u0), .unset, .unset, .unset, .unset, .unset] [(.int (4 : Int32)), (.ref b1), (.ref b1)])) _
    refine st10 _ ?_
    show Steps p.tables e below (T10.setTop (mkF m 34 #[.val (.int u0), .unset, .unset, .unset, .unset, .unset] [(.ref (w 4)), (.int (4 : Int32)), (.ref b1), (.ref b1)])) _
    refine st11 _ ?_
    show Steps p.tables e below (T11.setTop (mkF m 35 #[.val (.int u0), .unset, .unset, .unset, .unset, .unset] [(.ref b1)])) _
    refine XS.dup X11.here hx rfl (hb hby at_35) rfl rfl ?_
    show Steps p.tables e below (T11.setTop (mkF m 36 #[.val (.int u0), .unset, .unset, .unset, .unset, .unset] [(.ref b1), (.ref b1)])) _
    refine XS.iconst X11.here hx rfl (hb hby at_36) ?_
    show Steps p.tables e below (T11.setTop (mkF m 37 #[.val (.int u0), .unset, .unset, .unset, .unset, .unset] [(.int (5 : Int32)), (.ref b1), (.ref b1)])) _
    refine st12 _ ?_
    show Steps p.tables e below (T12.setTop (mkF m 40 #[.val (.int u0), .unset, .unset, .unset, .unset, .unset] [(.ref (w 5)), (.int (5 : Int32)), (.ref b1), (.ref b1)])) _
    refine st13 _ ?_
    show Steps p.tables e below (T13.setTop (mkF m 41 #[.val (.int u0), .unset, .unset, .unset, .unset, .unset] [(.ref b1)])) _
    refine XS.dup X13.here hx rfl (hb hby at_41) rfl rfl ?_
    show Steps p.tables e below (T13.setTop (mkF m 42 #[.val (.int u0), .unset, .unset, .unset, .unset, .unset] [(.ref b1), (.ref b1)])) _
    refine XS.bipush X13.here hx rfl (hb hby at_42) ?_
    show Steps p.tables e below (T13.setTop (mkF m 44 #[.val (.int u0), .unset, .unset, .unset, .unset, .unset] [(.int (6 : Int32)), (.ref b1), (.ref b1)])) _
    refine st14 _ ?_
    show Steps p.tables e below (T14.setTop (mkF m 47 #[.val (.int u0), .unset, .unset, .unset, .unset, .unset] [(.ref (w 6)), (.int (6 : Int32)), (.ref b1), (.ref b1)])) _
    refine st15 _ ?_
    show Steps p.tables e below (T15.setTop (mkF m 48 #[.val (.int u0), .unset, .unset, .unset, .unset, .unset] [(.ref b1)])) _
    refine XS.dup X15.here hx rfl (hb hby at_48) rfl rfl ?_
    show Steps p.tables e below (T15.setTop (mkF m 49 #[.val (.int u0), .unset, .unset, .unset, .unset, .unset] [(.ref b1), (.ref b1)])) _
    refine XS.bipush X15.here hx rfl (hb hby at_49) ?_
    show Steps p.tables e below (T15.setTop (mkF m 51 #[.val (.int u0), .unset, .unset, .unset, .unset, .unset] [(.int (7 : Int32)), (.ref b1), (.ref b1)])) _
    refine st16 _ ?_
    show Steps p.tables e below (T16.setTop (mkF m 54 #[.val (.int u0), .unset, .unset, .unset, .unset, .unset] [(.ref (w 7)), (.int (7 : Int32)), (.ref b1), (.ref b1)])) _
    refine st17 _ ?_
    show Steps p.tables e below (T17.setTop (mkF m 55 #[.val (.int u0), .unset, .unset, .unset, .unset, .unset] [(.ref b1)])) _
    refine XS.astoreN X17.here hx rfl (hb hby at_55) rfl rfl (l' := #[.val (.int u0), .val (.ref b1), .unset, .unset, .unset, .unset]) rfl ?_
    show Steps p.tables e below (T17.setTop (mkF m 56 #[.val (.int u0), .val (.ref b1), .unset, .unset, .unset, .unset] [])) _
    refine XS.iloadN X17.here hx rfl (hb hby at_56) rfl ?_
    show Steps p.tables e below (T17.setTop (mkF m 57 #[.val (.int u0), .val (.ref b1), .unset, .unset, .unset, .unset] [(.int u0)])) _
    refine XS.bipush X17.here hx rfl (hb hby at_57) ?_
    show Steps p.tables e below (T17.setTop (mkF m 59 #[.val (.int u0), .val (.ref b1), .unset, .unset, .unset, .unset] [(.int (7 : Int32)), (.int u0)])) _
    refine XS.iand X17.here hx rfl (hb hby at_59) rfl ?_
    show Steps p.tables e below (T17.setTop (mkF m 60 #[.val (.int u0), .val (.ref b1), .unset, .unset, .unset, .unset] [(.int (u0 &&& (7 : Int32)))])) _
    rw [hk0]
    show Steps p.tables e below (T17.setTop (mkF m 60 #[.val (.int u0), .val (.ref b1), .unset, .unset, .unset, .unset] [(.int (7 : Int32))])) _
    refine XS.istoreN X17.here hx rfl (hb hby at_60) rfl (l' := #[.val (.int u0), .val (.ref b1), .val (.int (7 : Int32)), .unset, .unset, .unset]) rfl ?_
    show Steps p.tables e below (T17.setTop (mkF m 61 #[.val (.int u0), .val (.ref b1), .val (.int (7 : Int32)), .unset, .unset, .unset] [])) _
    refine XS.aloadN X17.here hx rfl (hb hby at_61) rfl rfl ?_
    show Steps p.tables e below (T17.setTop (mkF m 62 #[.val (.int u0), .val (.ref b1), .val (.int (7 : Int32)), .unset, .unset, .unset] [(.ref b1)])) _
    refine XS.iloadN X17.here hx rfl (hb hby at_62) rfl ?_
    show Steps p.tables e below (T17.setTop (mkF m 63 #[.val (.int u0), .val (.ref b1), .val (.int (7 : Int32)), .unset, .unset, .unset] [(.int (7 : Int32)), (.ref b1)])) _
    refine X17.aaload hx (j := (7 : Int32)) (v := (.ref (w 7))) (by rw [e17]; exact Ar18.1) (State.isArrayOf_alike hZ.alike Ar18.2.1) rfl Ar18.2.2 hin18 hat18 (g := (mkF m 63 #[.val (.int u0), .val (.ref b1), .val (.int (7 : Int32)), .unset, .unset, .unset] [(.int (7 : Int32)), (.ref b1)])) rfl rfl (hb hby at_63) _ ?_
    show Steps p.tables e below (T17.setTop (mkF m 64 #[.val (.int u0), .val (.ref b1), .val (.int (7 : Int32)), .unset, .unset, .unset] [(.ref (w 7))])) _
    refine XS.astoreN X17.here hx rfl (hb hby at_64) rfl rfl (l' := #[.val (.int u0), .val (.ref b1), .val (.int (7 : Int32)), .val (.ref (w 7)), .unset, .unset]) rfl ?_
    show Steps p.tables e below (T17.setTop (mkF m 65 #[.val (.int u0), .val (.ref b1), .val (.int (7 : Int32)), .val (.ref (w 7)), .unset, .unset] [])) _
    refine XS.iloadN X17.here hx rfl (hb hby at_65) rfl ?_
    show Steps p.tables e below (T17.setTop (mkF m 66 #[.val (.int u0), .val (.ref b1), .val (.int (7 : Int32)), .val (.ref (w 7)), .unset, .unset] [(.int (7 : Int32))])) _
    refine XS.iconst X17.here hx rfl (hb hby at_66) ?_
    show Steps p.tables e below (T17.setTop (mkF m 67 #[.val (.int u0), .val (.ref b1), .val (.int (7 : Int32)), .val (.ref (w 7)), .unset, .unset] [(.int (2 : Int32)), (.int (7 : Int32))])) _
    refine XS.icmpNo X17.here hx rfl (hb hby at_67) rfl (feq (by decide : ¬ ((7 : Int32) = (2 : Int32)))).1 ?_
    show Steps p.tables e below (T17.setTop (mkF m 70 #[.val (.int u0), .val (.ref b1), .val (.int (7 : Int32)), .val (.ref (w 7)), .unset, .unset] [])) _
    refine XS.iloadN X17.here hx rfl (hb hby at_70) rfl ?_
    show Steps p.tables e below (T17.setTop (mkF m 71 #[.val (.int u0), .val (.ref b1), .val (.int (7 : Int32)), .val (.ref (w 7)), .unset, .unset] [(.int (7 : Int32))])) _
    refine XS.iconst X17.here hx rfl (hb hby at_71) ?_
    show Steps p.tables e below (T17.setTop (mkF m 72 #[.val (.int u0), .val (.ref b1), .val (.int (7 : Int32)), .val (.ref (w 7)), .unset, .unset] [(.int (3 : Int32)), (.int (7 : Int32))])) _
    refine XS.icmpYes X17.here hx rfl (pc0 := 72) (pc' := 79) rfl (hb hby at_72) rfl (feq (by decide : ¬ ((7 : Int32) = (3 : Int32)))).2 (by decide) (by decide) ?_
    show Steps p.tables e below (T17.setTop (mkF m 79 #[.val (.int u0), .val (.ref b1), .val (.int (7 : Int32)), .val (.ref (w 7)), .unset, .unset] [])) _
    refine XS.iconst X17.here hx rfl (hb hby at_79) ?_
    show Steps p.tables e below (T17.setTop (mkF m 80 #[.val (.int u0), .val (.ref b1), .val (.int (7 : Int32)), .val (.ref (w 7)), .unset, .unset] [(.int (0 : Int32))])) _
    refine XS.istore X17.here hx rfl (hb hby at_80) rfl (l' := #[.val (.int u0), .val (.ref b1), .val (.int (7 : Int32)), .val (.ref (w 7)), .val (.int (0 : Int32)), .unset]) rfl ?_
    show Steps p.tables e below (T17.setTop (mkF m 82 #[.val (.int u0), .val (.ref b1), .val (.int (7 : Int32)), .val (.ref (w 7)), .val (.int (0 : Int32)), .unset] [])) _
    refine XS.aloadN X17.here hx rfl (hb hby at_82) rfl rfl ?_
    show Steps p.tables e below (T17.setTop (mkF m 83 #[.val (.int u0), .val (.ref b1), .val (.int (7 : Int32)), .val (.ref (w 7)), .val (.int (0 : Int32)), .unset] [(.ref (w 7))])) _
    refine st19.trans ?_
    show Steps p.tables e below (T19.setTop (mkF m 86 #[.val (.int u0), .val (.ref b1), .val (.int (7 : Int32)), .val (.ref (w 7)), .val (.int (0 : Int32)), .unset] [(.int (0 : Int32))])) _
    refine XS.istore X19.here hx rfl (hb hby at_86) rfl (l' := #[.val (.int u0), .val (.ref b1), .val (.int (7 : Int32)), .val (.ref (w 7)), .val (.int (0 : Int32)), .val (.int (0 : Int32))]) rfl ?_
    show Steps p.tables e below (T19.setTop (mkF m 88 #[.val (.int u0), .val (.ref b1), .val (.int (7 : Int32)), .val (.ref (w 7)), .val (.int (0 : Int32)), .val (.int (0 : Int32))] [])) _
    refine XS.iload X19.here hx rfl (hb hby at_88) rfl ?_
    show Steps p.tables e below (T19.setTop (mkF m 90 #[.val (.int u0), .val (.ref b1), .val (.int (7 : Int32)), .val (.ref (w 7)), .val (.int (0 : Int32)), .val (.int (0 : Int32))] [(.int (0 : Int32))])) _
    refine XS.iload X19.here hx rfl (hb hby at_90) rfl ?_
    show Steps p.tables e below (T19.setTop (mkF m 92 #[.val (.int u0), .val (.ref b1), .val (.int (7 : Int32)), .val (.ref (w 7)), .val (.int (0 : Int32)), .val (.int (0 : Int32))] [(.int (0 : Int32)), (.int (0 : Int32))])) _
    refine XS.icmpYes X19.here hx rfl (pc0 := 92) (pc' := 97) rfl (hb hby at_92) rfl (teq (by decide : (0 : Int32) = (0 : Int32))).1 (by decide) (by decide) ?_
    show Steps p.tables e below (T19.setTop (mkF m 97 #[.val (.int u0), .val (.ref b1), .val (.int (7 : Int32)), .val (.ref (w 7)), .val (.int (0 : Int32)), .val (.int (0 : Int32))] [])) _
    refine XS.iload X19.here hx rfl (hb hby at_97) rfl ?_
    show Steps p.tables e below (T19.setTop (mkF m 99 #[.val (.int u0), .val (.ref b1), .val (.int (7 : Int32)), .val (.ref (w 7)), .val (.int (0 : Int32)), .val (.int (0 : Int32))] [(.int (0 : Int32))])) _
    refine XS.ifYes X19.here hx rfl (pc0 := 99) (pc' := 131) rfl (hb hby at_99) rfl ((if0 _ _).trans (teq (by decide : (0 : Int32) = (0 : Int32))).1) (by decide) (by decide) ?_
    show Steps p.tables e below (T19.setTop (mkF m 131 #[.val (.int u0), .val (.ref b1), .val (.int (7 : Int32)), .val (.ref (w 7)), .val (.int (0 : Int32)), .val (.int (0 : Int32))] [])) _
    refine XS.iconst X19.here hx rfl (hb hby at_131) ?_
    show Steps p.tables e below (T19.setTop (mkF m 132 #[.val (.int u0), .val (.ref b1), .val (.int (7 : Int32)), .val (.ref (w 7)), .val (.int (0 : Int32)), .val (.int (0 : Int32))] [(.int (1 : Int32))])) _
    exact retN X19 hx (t := .boolean) Bd.returns (by simp) (hb hby at_132) hr
  · exact ⟨rfl, N19⟩
theorem rm0 (l : Launch) (Z : State) (a0 : Array Value) (hw : ∀ d ∈ tables_1, d.before a0 Z = true) (w : Nat → Addr) (κ : Nat → ClassId) (h0 : Heap) (n0 : Nat) (Z0 : n0 ≤ h0.size) (K : Kon Z h0 w κ) (u0 : Int32) :
    OM l Z x code maxLocals ret tables_1 room_1 #[(.int u0)] h0 (OF (some (.int (1 : Int32))) n0) := by
  rcases own_mask_8 u0 with hk0 | hk0 | hk0 | hk0 | hk0 | hk0 | hk0 | hk0
  · exact rm0_2 l Z a0 hw w κ h0 n0 Z0 K u0 hk0
  · exact rm0_4 l Z a0 hw w κ h0 n0 Z0 K u0 hk0
  · exact rm0_9 l Z a0 hw w κ h0 n0 Z0 K u0 hk0
  · exact rm0_14 l Z a0 hw w κ h0 n0 Z0 K u0 hk0
  · exact rm0_16 l Z a0 hw w κ h0 n0 Z0 K u0 hk0
  · exact rm0_18 l Z a0 hw w κ h0 n0 Z0 K u0 hk0
  · exact rm0_20 l Z a0 hw w κ h0 n0 Z0 K u0 hk0
  · exact rm0_22 l Z a0 hw w κ h0 n0 Z0 K u0 hk0
set_option maxRecDepth 65536 in
set_option maxHeartbeats 40000000 in
theorem comes_1 {Post : Tables → Env → Array Value → State → Outcome → State → Prop} (hpost : ∀ tb e args s v u, (limb_1_1.after args s (.returned v) u = true ∧ limb_1_2.after args s (.returned v) u = true ∧ True) → FrameEnd s (.returned v) u (Jvm.fieldLocs frame_1_writes args s ++ Jvm.arrayLocs frame_1_arrays args s ++ Jvm.staticLocs frame_1_statics s) 16 128 → Post tb e args s (.returned v) u) :
    ArmFor flags0 classFile x code maxLocals ret World_1 tables_1 room_1 Calls_1 rest_1 Pre_1 Post := by
  intro l hfl _ _ p e ha hc hk s m args below hf hA hF happ hP
  obtain ⟨hcalls, hrest, hpre⟩ := hP
  obtain ⟨-, -, -, hnamed, -, -, -, hat⟩ := (Spec.applies_iff hf).mp happ
  obtain ⟨hg, hn⟩ := and_e (Cond.before_iff.mp (show (Jvm.Cond.and given_1 narrow_1).before args s = true from hpre))
  obtain ⟨g1a, g1b⟩ := and_e hg
  obtain ⟨g2a, g2b⟩ := and_e hn
  obtain ⟨g3a, g3b⟩ := and_e g2b
  obtain ⟨g4a, g4b⟩ := and_e g3b
  obtain ⟨g5a, g5b⟩ := and_e g4b
  obtain ⟨g6a, g6b⟩ := and_e g5b
  obtain ⟨g7a, g7b⟩ := and_e g6b
  obtain ⟨g8a, g8b⟩ := and_e g7b
  obtain ⟨g9a, g9b⟩ := and_e g8b
  obtain ⟨g10a, g10b⟩ := and_e g9b
  obtain ⟨g11a, g11b⟩ := and_e g10b
  obtain ⟨g12a, g12b⟩ := and_e g11b
  obtain ⟨g13a, g13b⟩ := and_e g12b
  obtain ⟨g14a, g14b⟩ := and_e g13b
  obtain ⟨g15a, g15b⟩ := and_e g14b
  obtain ⟨g16a, g16b⟩ := and_e g15b
  obtain ⟨g17a, g17b⟩ := and_e g16b
  obtain ⟨g18a, g18b⟩ := and_e g17b
  obtain ⟨g19a, g19b⟩ := and_e g18b
  obtain ⟨g20a, g20b⟩ := and_e g19b
  obtain ⟨g21a, g21b⟩ := and_e g20b
  obtain ⟨g22a, g22b⟩ := and_e g21b
  obtain ⟨g23a, g23b⟩ := and_e g22b
  obtain ⟨g24a, g24b⟩ := and_e g23b
  obtain ⟨g25a, g25b⟩ := and_e g24b
  obtain ⟨g26a, g26b⟩ := and_e g25b
  obtain ⟨g27a, g27b⟩ := and_e g26b
  obtain ⟨g28a, g28b⟩ := and_e g27b
  obtain ⟨g29a, g29b⟩ := and_e g28b
  obtain ⟨g30a, g30b⟩ := and_e g29b
  obtain ⟨g31a, g31b⟩ := and_e g30b
  obtain ⟨g32a, g32b⟩ := and_e g31b
  obtain ⟨g33a, g33b⟩ := and_e g32b
  obtain ⟨g34a, g34b⟩ := and_e g33b
  obtain ⟨g35a, g35b⟩ := and_e g34b
  obtain ⟨g36a, g36b⟩ := and_e g35b
  obtain ⟨g37a, g37b⟩ := and_e g36b
  obtain ⟨g38a, g38b⟩ := and_e g37b
  obtain ⟨g39a, g39b⟩ := and_e g38b
  obtain ⟨g40a, g40b⟩ := and_e g39b
  obtain ⟨v0, rfl⟩ : ∃ v0 : Value, args = #[v0] := by
    have hs : args.size = 1 := by simpa [Cond.value, given_1] using g1a
    obtain ⟨L⟩ := args
    match L, hs with
    | [v0], _ => exact ⟨v0, rfl⟩
  have hw := fun d (hd : d ∈ tables_1) => atoms_spec (ws := Jvm.Cond.code x code maxLocals ret :: tables_1) hat d (List.mem_cons_of_mem _ hd)
  have hfit : Fit s := fun {y c} hc i hi => by
    obtain ⟨ha, rfl⟩ := Array.getElem?_eq_some_iff.mp hc
    have q := List.all_eq_true.mp ((Array.all_eq_true_iff_forall_mem.mp hF) _ (Array.getElem_mem ha)) i (List.mem_range.mpr hi)
    simpa [Array.getElem?_eq_getElem hi] using q
  obtain ⟨i0, ei0⟩ := is_v g1b
  obtain rfl : v0 = (.int i0) := Option.some.inj ei0
  obtain ⟨b0, ev0⟩ := exa_v g2a
  obtain ⟨b1, ev1⟩ := exa_v g3a
  obtain ⟨b2, ev2⟩ := exa_v g4a
  obtain ⟨b3, ev3⟩ := exa_v g5a
  obtain ⟨b4, ev4⟩ := exa_v g6a
  obtain ⟨b5, ev5⟩ := exa_v g7a
  obtain ⟨b6, ev6⟩ := exa_v g8a
  obtain ⟨b7, ev7⟩ := exa_v g9a
  have K : Kon s s.heap (fun i => ([b0, b1, b2, b3, b4, b5, b6, b7] : List Addr).getD i 0) (fun i => ([0, 0, 0, 0, 0, 0, 0, 0] : List ClassId).getD i 0) := ⟨Sta.start ev0 (Or.inr ⟨(hw _ (List.mem_of_getElem? (i := 3) rfl)), (hw _ (List.mem_of_getElem? (i := 4) rfl))⟩), Sta.start ev1 (Or.inr ⟨(hw _ (List.mem_of_getElem? (i := 3) rfl)), (hw _ (List.mem_of_getElem? (i := 7) rfl))⟩), Sta.start ev2 (Or.inr ⟨(hw _ (List.mem_of_getElem? (i := 3) rfl)), (hw _ (List.mem_of_getElem? (i := 9) rfl))⟩), Sta.start ev3 (Or.inr ⟨(hw _ (List.mem_of_getElem? (i := 3) rfl)), (hw _ (List.mem_of_getElem? (i := 11) rfl))⟩), Sta.start ev4 (Or.inr ⟨(hw _ (List.mem_of_getElem? (i := 3) rfl)), (hw _ (List.mem_of_getElem? (i := 13) rfl))⟩), Sta.start ev5 (Or.inr ⟨(hw _ (List.mem_of_getElem? (i := 3) rfl)), (hw _ (List.mem_of_getElem? (i := 15) rfl))⟩), Sta.start ev6 (Or.inr ⟨(hw _ (List.mem_of_getElem? (i := 3) rfl)), (hw _ (List.mem_of_getElem? (i := 17) rfl))⟩), Sta.start ev7 (Or.inr ⟨(hw _ (List.mem_of_getElem? (i := 3) rfl)), (hw _ (List.mem_of_getElem? (i := 19) rfl))⟩), Exa.start ev0 g2a, Exa.start ev1 g3a, Exa.start ev2 g4a, Exa.start ev3 g5a, Exa.start ev4 g6a, Exa.start ev5 g7a, Exa.start ev6 g8a, Exa.start ev7 g9a, own_fld ev0 g10a, own_fld ev2 g11a, own_fld ev3 g12a, own_fld ev3 g13a, own_fld ev3 g14a, own_fld ev3 g15a, own_fld ev6 g16a, own_fld ev7 g17a, own_fld ev2 g18a, own_fld ev2 g19a, own_fld ev2 g20a, own_fld ev1 g21a, own_fld ev4 g22a, own_fld ev5 g23a, own_fld ev0 g24a, own_fld ev0 g25a, own_fld ev0 g26a, own_fld ev1 g27a, own_fld ev1 g28a, own_fld ev1 g29a, own_fld ev4 g30a, own_fld ev4 g31a, own_fld ev4 g32a, own_fld ev5 g33a, own_fld ev5 g34a, own_fld ev5 g35a, own_fld ev6 g36a, own_fld ev6 g37a, own_fld ev6 g38a, own_fld ev7 g39a, own_fld ev7 g40a, own_fld ev7 g40b⟩
  obtain ⟨n, o, h1, h2, h3, _, L, rfl, ⟨rfl, N⟩, hq⟩ := rm0 l s _ hw _ _ s.heap s.heap.size (Nat.le_refl _) K i0 p e ha hc hk s m _ below hf ((Spec.applies_iff_loose hf).mp happ).1 ⟨rfl, State.Warmed39.refl s, rfl⟩ trivial
  refine ⟨n, _, h1, h2, h3, hpost _ _ _ _ _ _ ⟨Cond.after_iff.mpr rfl, Cond.after_iff.mpr (eq_i res_at (Term.int_eval (1)) rfl), trivial⟩ ⟨hq.1, hq.2.1, (hq.2.2.sift fun y hy => Or.inr (N y hy)).mono (by decide) (by decide)⟩⟩
theorem main_1_1 : Claimed_1_1 := comes_1 fun _ _ _ _ _ _ h hF => ⟨h.1, hF⟩
theorem main_1_2 : Claimed_1_2 := comes_1 fun _ _ _ _ _ _ h hF => ⟨h.2.1, hF⟩
end Jvm.Pilot.@@N@@
namespace Jvm.Pilot.@@N@@
open Jvm Jvm.ClassFile Sem Op Lib Jvm.Free Jvm.Stand Jvm.Pilot.@@N@@.Jvm.D
/-! MADE BY PROGRAM (witnessworld.py) out of the Statement's table words and the real class files: 13 classes; the members and pool entries that the words name. The judged class is class 1, her method 1. -/
namespace start1
open Jvm.ClassFile
def u (s : String) : CpInfo := .utf8 (stringToUtf16 s)
/-- a pool by its gaps: so many unusable entries, then the entry; so many at the end -/
def gap : Nat → List CpInfo → List CpInfo
  | 0, r => r
  | n + 1, r => .unusable :: gap n r
def poolList (es : List (Nat × CpInfo)) (last : Nat) : List CpInfo := es.foldr (fun e r => gap e.1 (e.2 :: r)) (gap last [])
def pool (es : List (Nat × CpInfo)) (last : Nat) : Array CpInfo := ⟨poolList es last⟩
def fileOf (pool : Array CpInfo) (this : Nat) (attrs : Array Attribute := #[]) (ms : Array MethodInfo := #[]) (fl : Nat := 33) (sup : Nat := 0) (ifs : Array Nat := #[]) (fds : Array FieldInfo := #[]) : ClassFile where
  minorVersion := 0
  majorVersion := 65
  constantPool := pool
  accessFlags := fl
  thisClass := this
  superClass := sup
  interfaces := ifs
  fields := fds
  methods := ms
  attributes := attrs
def plain (name : String) (sup : Option ClassId) : Class where
  name := name
  kind := .ordinary
  loader := none
  accessFlags := 33
  super := sup
  interfaces := #[]
  cf := none
  fields := #[]
  methods := #[]
  instanceTypes := #[]
  staticTypes := #[]
  resolved := #[]
  callSites := []
  init := .initialized
  statics := none
  mirror := none

def pool0 : Array CpInfo := pool [(5, u "<init>"), (0, u "()V"), (1, .class_ 10), (1, u "java/lang/Object")] 113

def k0m0 : Method := { name := "<init>", desc := "()V", sig := { parameters := [], returnType := none }, accessFlags := 1, code := none }
/-- java/lang/Object -/
def k0 : Class := { plain "java/lang/Object" none with
  accessFlags := 33
  interfaces := #[]
  cf := some (fileOf pool0 8 #[] #[{ accessFlags := 1, nameIndex := 5, descriptorIndex := 6, attributes := #[] }] 33 0 #[] #[])
  fields := #[]
  methods := #[k0m0]
  instanceTypes := #[]
  staticTypes := #[]
  resolved := Array.replicate 124 none
  statics := none }

def pool1 : Array CpInfo := pool [(2, .class_ 4), (1, u "java/lang/Object"), (0, u "<init>"), (0, u "()V"), (0, .class_ 8), (0, u "com/example/licon/licon/search/Operator"), (0, .fieldref 7 10), (0, .nameAndType 11 12), (0, u "EQ"), (0, u "Lcom/example/licon/licon/search/Operator;"), (0, .fieldref 7 14), (0, .nameAndType 15 12), (0, u "NEQ"), (0, .fieldref 7 17), (0, .nameAndType 18 12), (0, u "SW"), (0, .fieldref 7 20), (0, .nameAndType 21 12), (0, u "CONTAINS"), (0, .fieldref 7 23), (0, .nameAndType 24 12), (0, u "IN"), (0, .fieldref 7 26), (0, .nameAndType 27 12), (0, u "NIN"), (0, .fieldref 7 29), (0, .nameAndType 30 12), (0, u "IS_EMPTY"), (0, .fieldref 7 32), (0, .nameAndType 33 12), (0, u "NOT_EMPTY"), (0, .methodref 7 35), (0, .nameAndType 36 37), (0, u "comparesText"), (0, u "()Z"), (0, .methodref 7 39), (0, .nameAndType 40 41), (0, u "takes"), (0, u "(I)Z"), (0, .methodref 7 43), (0, .nameAndType 44 37), (0, u "negated"), (0, .class_ 46), (0, u "com/example/licon/licon/search/OperatorComparesTextPinLaw"), (2, u "law")] 5

def k1m0 : Method := { name := "<init>", desc := "()V", sig := { parameters := [], returnType := none }, accessFlags := 2, code := none }
def k1c1 : Code := { maxStack := 4, maxLocals := 6, code := code, exceptionTable := #[], attributes := #[] }
def k1m1 : Method := { name := "law", desc := "(I)Z", sig := { parameters := [.int], returnType := some .boolean }, accessFlags := 9, code := some k1c1 }
/-- com/example/licon/licon/search/OperatorComparesTextPinLaw -/
def k1 : Class := { plain "com/example/licon/licon/search/OperatorComparesTextPinLaw" (some 0) with
  accessFlags := 49
  interfaces := #[]
  cf := some (fileOf pool1 45 #[] #[{ accessFlags := 2, nameIndex := 5, descriptorIndex := 6, attributes := #[] }, { accessFlags := 9, nameIndex := 49, descriptorIndex := 41, attributes := #[] }] 49 2 #[] #[])
  fields := #[]
  methods := #[k1m0, k1m1]
  instanceTypes := #[]
  staticTypes := #[]
  resolved := Array.replicate 55 none
  statics := none }

def pool2 : Array CpInfo := pool [(1, .class_ 2), (0, u "java/lang/constant/Constable"), (0, .class_ 4), (0, u "java/lang/Object")] 6

/-- java/lang/constant/Constable -/
def k2 : Class := { plain "java/lang/constant/Constable" (some 0) with
  accessFlags := 1537
  interfaces := #[]
  cf := some (fileOf pool2 1 #[] #[] 1537 3 #[] #[])
  fields := #[]
  methods := #[]
  instanceTypes := #[]
  staticTypes := #[]
  resolved := Array.replicate 11 none
  statics := none }

def pool3 : Array CpInfo := pool [(1, .class_ 2), (0, u "java/lang/Comparable"), (0, .class_ 4), (0, u "java/lang/Object")] 7

/-- java/lang/Comparable -/
def k3 : Class := { plain "java/lang/Comparable" (some 0) with
  accessFlags := 1537
  interfaces := #[]
  cf := some (fileOf pool3 1 #[] #[] 1537 3 #[] #[])
  fields := #[]
  methods := #[]
  instanceTypes := #[]
  staticTypes := #[]
  resolved := Array.replicate 12 none
  statics := none }

def pool4 : Array CpInfo := pool [(1, .class_ 2), (0, u "java/io/Serializable"), (0, .class_ 4), (0, u "java/lang/Object")] 2

/-- java/io/Serializable -/
def k4 : Class := { plain "java/io/Serializable" (some 0) with
  accessFlags := 1537
  interfaces := #[]
  cf := some (fileOf pool4 1 #[] #[] 1537 3 #[] #[])
  fields := #[]
  methods := #[]
  instanceTypes := #[]
  staticTypes := #[]
  resolved := Array.replicate 7 none
  statics := none }

def pool5 : Array CpInfo := pool [(2, .class_ 4), (1, u "java/lang/Enum"), (0, u "name"), (0, u "Ljava/lang/String;"), (2, u "ordinal"), (0, u "I"), (1, .class_ 14), (1, u "java/lang/Object"), (4, u "hash"), (86, .class_ 108), (1, u "java/lang/Enum$EnumDesc"), (2, .class_ 112), (0, u "java/lang/constant/Constable"), (0, .class_ 114), (0, u "java/lang/Comparable"), (0, .class_ 116), (0, u "java/io/Serializable")] 87

/-- java/lang/Enum -/
def k5 : Class := { plain "java/lang/Enum" (some 0) with
  accessFlags := 1057
  interfaces := #[2, 3, 4]
  cf := some (fileOf pool5 2 #[.nestMembers #[106]] #[] 1057 12 #[111, 113, 115] #[{ accessFlags := 18, nameIndex := 5, descriptorIndex := 6, attributes := #[] }, { accessFlags := 18, nameIndex := 9, descriptorIndex := 10, attributes := #[] }, { accessFlags := 2, nameIndex := 19, descriptorIndex := 10, attributes := #[] }])
  fields := #[{ name := "name", type := (.object "java/lang/String"), accessFlags := 18, slot := 0, constantValue := 0 }, { name := "ordinal", type := .int, accessFlags := 18, slot := 1, constantValue := 0 }, { name := "hash", type := .int, accessFlags := 2, slot := 2, constantValue := 0 }]
  methods := #[]
  instanceTypes := #[(.object "java/lang/String"), .int, .int]
  staticTypes := #[]
  resolved := Array.replicate 204 none
  statics := none }

def pool6 : Array CpInfo := pool [(1, .class_ 2), (0, u "com/example/licon/licon/search/Operator"), (2, u "EQ"), (0, u "Lcom/example/licon/licon/search/Operator;"), (2, u "NEQ"), (0, .fieldref 1 11), (0, .nameAndType 12 6), (0, u "SW"), (0, .fieldref 1 14), (0, .nameAndType 15 6), (0, u "CONTAINS"), (2, u "IN"), (2, u "NIN"), (2, u "IS_EMPTY"), (2, u "NOT_EMPTY"), (2, u "$VALUES"), (0, u "[Lcom/example/licon/licon/search/Operator;"), (6, .class_ 40), (1, u "java/lang/Enum"), (6, .fieldref 1 48), (0, .nameAndType 49 50), (0, u "fewestValues"), (0, u "I"), (0, .fieldref 1 52), (0, .nameAndType 53 50), (0, u "mostValues"), (0, .fieldref 1 55), (0, .nameAndType 56 57), (0, u "negated"), (0, u "Z"), (65, u "takes"), (0, u "(I)Z"), (3, u "comparesText"), (0, u "()Z")] 28

def k6c0 : Code := { maxStack := 2, maxLocals := 2, code := prog_9_method_4_code, exceptionTable := #[], attributes := #[] }
def k6m0 : Method := { name := "takes", desc := "(I)Z", sig := { parameters := [.int], returnType := some .boolean }, accessFlags := 0, code := some k6c0 }
def k6c1 : Code := { maxStack := 2, maxLocals := 1, code := prog_9_method_6_code, exceptionTable := #[], attributes := #[] }
def k6m1 : Method := { name := "comparesText", desc := "()Z", sig := { parameters := [], returnType := some .boolean }, accessFlags := 0, code := some k6c1 }
def k6c2 : Code := { maxStack := 1, maxLocals := 1, code := prog_9_method_7_code, exceptionTable := #[], attributes := #[] }
def k6m2 : Method := { name := "negated", desc := "()Z", sig := { parameters := [], returnType := some .boolean }, accessFlags := 0, code := some k6c2 }
/-- com/example/licon/licon/search/Operator -/
def k6 : Class := { plain "com/example/licon/licon/search/Operator" (some 5) with
  accessFlags := 16432
  interfaces := #[]
  cf := some (fileOf pool6 1 #[] #[{ accessFlags := 0, nameIndex := 123, descriptorIndex := 124, attributes := #[] }, { accessFlags := 0, nameIndex := 128, descriptorIndex := 129, attributes := #[] }, { accessFlags := 0, nameIndex := 56, descriptorIndex := 129, attributes := #[] }] 16432 38 #[] #[{ accessFlags := 16409, nameIndex := 5, descriptorIndex := 6, attributes := #[] }, { accessFlags := 16409, nameIndex := 9, descriptorIndex := 6, attributes := #[] }, { accessFlags := 16409, nameIndex := 12, descriptorIndex := 6, attributes := #[] }, { accessFlags := 16409, nameIndex := 15, descriptorIndex := 6, attributes := #[] }, { accessFlags := 16409, nameIndex := 18, descriptorIndex := 6, attributes := #[] }, { accessFlags := 16409, nameIndex := 21, descriptorIndex := 6, attributes := #[] }, { accessFlags := 16409, nameIndex := 24, descriptorIndex := 6, attributes := #[] }, { accessFlags := 16409, nameIndex := 27, descriptorIndex := 6, attributes := #[] }, { accessFlags := 18, nameIndex := 49, descriptorIndex := 50, attributes := #[] }, { accessFlags := 18, nameIndex := 53, descriptorIndex := 50, attributes := #[] }, { accessFlags := 18, nameIndex := 56, descriptorIndex := 57, attributes := #[] }, { accessFlags := 4122, nameIndex := 30, descriptorIndex := 31, attributes := #[] }])
  fields := #[{ name := "EQ", type := (.object "com/example/licon/licon/search/Operator"), accessFlags := 16409, slot := 0, constantValue := 0 }, { name := "NEQ", type := (.object "com/example/licon/licon/search/Operator"), accessFlags := 16409, slot := 1, constantValue := 0 }, { name := "SW", type := (.object "com/example/licon/licon/search/Operator"), accessFlags := 16409, slot := 2, constantValue := 0 }, { name := "CONTAINS", type := (.object "com/example/licon/licon/search/Operator"), accessFlags := 16409, slot := 3, constantValue := 0 }, { name := "IN", type := (.object "com/example/licon/licon/search/Operator"), accessFlags := 16409, slot := 4, constantValue := 0 }, { name := "NIN", type := (.object "com/example/licon/licon/search/Operator"), accessFlags := 16409, slot := 5, constantValue := 0 }, { name := "IS_EMPTY", type := (.object "com/example/licon/licon/search/Operator"), accessFlags := 16409, slot := 6, constantValue := 0 }, { name := "NOT_EMPTY", type := (.object "com/example/licon/licon/search/Operator"), accessFlags := 16409, slot := 7, constantValue := 0 }, { name := "fewestValues", type := .int, accessFlags := 18, slot := 3, constantValue := 0 }, { name := "mostValues", type := .int, accessFlags := 18, slot := 4, constantValue := 0 }, { name := "negated", type := .boolean, accessFlags := 18, slot := 5, constantValue := 0 }, { name := "$VALUES", type := (.array (.object "com/example/licon/licon/search/Operator")), accessFlags := 4122, slot := 8, constantValue := 0 }]
  methods := #[k6m0, k6m1, k6m2]
  instanceTypes := #[(.object "java/lang/String"), .int, .int, .int, .int, .boolean]
  staticTypes := #[(.object "com/example/licon/licon/search/Operator"), (.object "com/example/licon/licon/search/Operator"), (.object "com/example/licon/licon/search/Operator"), (.object "com/example/licon/licon/search/Operator"), (.object "com/example/licon/licon/search/Operator"), (.object "com/example/licon/licon/search/Operator"), (.object "com/example/licon/licon/search/Operator"), (.object "com/example/licon/licon/search/Operator"), (.array (.object "com/example/licon/licon/search/Operator"))]
  resolved := Array.replicate 158 none
  statics := some 0 }

def pool7 : Array CpInfo := pool [(1, u "java/lang/Cloneable"), (0, .class_ 1), (0, u "java/lang/Object"), (0, .class_ 3)] 3

/-- java/lang/Cloneable -/
def k7 : Class := { plain "java/lang/Cloneable" (some 0) with
  accessFlags := 1537
  interfaces := #[]
  cf := some (fileOf pool7 2 #[] #[] 1537 4 #[] #[])
  fields := #[]
  methods := #[]
  instanceTypes := #[]
  staticTypes := #[]
  resolved := Array.replicate 8 none
  statics := none }

/-- the primitive byte -/
def k8 : Class := { plain "byte" none with kind := .primitive 'B', accessFlags := 0x411 }
/-- [B -/
def k9 : Class := { plain "[B" (some 0) with kind := .array 8 .byte, interfaces := #[7, 4], accessFlags := 1041 }

/-- the primitive int -/
def k10 : Class := { plain "int" none with kind := .primitive 'I', accessFlags := 0x411 }
/-- [I -/
def k11 : Class := { plain "[I" (some 0) with kind := .array 10 .int, interfaces := #[7, 4], accessFlags := 1041 }

/-- [Lcom/example/licon/licon/search/Operator; -/
def k12 : Class := { plain "[Lcom/example/licon/licon/search/Operator;" (some 0) with kind := .array 6 (.object "com/example/licon/licon/search/Operator"), interfaces := #[7, 4], accessFlags := 1041 }

def heap : Heap := #[{ cls := 6, slots := #[.ref 1, .ref 2, .ref 3, .ref 4, .ref 5, .ref 6, .ref 7, .ref 8, .null], vm := .statics 6 },
  { cls := 6, slots := #[.null, .int 0, .int 0, .int 1, .int 1, .int 0], vm := .none },
  { cls := 6, slots := #[.null, .int 1, .int 0, .int 1, .int 1, .int 1], vm := .none },
  { cls := 6, slots := #[.null, .int 2, .int 0, .int 1, .int 1, .int 0], vm := .none },
  { cls := 6, slots := #[.null, .int 3, .int 0, .int 1, .int 1, .int 0], vm := .none },
  { cls := 6, slots := #[.null, .int 4, .int 0, .int 1, .int 2147483647, .int 0], vm := .none },
  { cls := 6, slots := #[.null, .int 5, .int 0, .int 1, .int 2147483647, .int 1], vm := .none },
  { cls := 6, slots := #[.null, .int 6, .int 0, .int 0, .int 0, .int 1], vm := .none },
  { cls := 6, slots := #[.null, .int 7, .int 0, .int 0, .int 0, .int 0], vm := .none }]
def classes : Array Class := #[k0, k1, k2, k3, k4, k5, k6, k7, k8, k9, k10, k11, k12]
def interned : List (Array UInt16 × Addr) := []
def slotsUsed : Nat := 57
def theMethod : MethodId := ⟨1, 1⟩
def args0 : Array Value := #[.int 5]
def aboutOver (below : List Frame) : State where
  vm := { classes := classes, interned := interned.toArray }
  heap := heap
  slotsUsed := slotsUsed
  threads := #[{ frames := .invoking theMethod args0 :: below }]
def below0 : List Frame := [.native { method := ⟨0, 0⟩, args := #[] }]
def about1 : State := aboutOver below0
def p0 : Program := .bare "" "" ""
def e0 : Env := launch0.env 0 0 0
theorem w_frames : about1.frames = Frame.invoking theMethod args0 :: below0 := rfl
set_option maxRecDepth 65536 in
theorem w_args : argsFit about1.vm theMethod args0 = true := by decide +kernel
set_option maxRecDepth 65536 in
theorem w_heap : heapFits about1 = true := by decide +kernel
set_option maxRecDepth 65536 in
theorem w_runnable : about1.curStatus? = some .runnable := by decide +kernel
set_option maxRecDepth 65536 in
theorem w_alone : about1.alone = true := by decide +kernel
set_option maxRecDepth 65536 in
theorem w_named : about1.methodNamed? x = some theMethod := by decide +kernel
set_option maxRecDepth 65536 in
theorem w_hears : about1.hears theMethod below0 = true := by decide +kernel
set_option maxRecDepth 65536 in
theorem w_ripe : about1.ripe theMethod args0 below0 = true := by decide +kernel
theorem w_running : about1.status = .running := rfl
set_option maxRecDepth 65536 in
theorem w_room : about1.hasRoom e0.platform room_1 = true :=
  launch0.hasRoom_least _ room_1 (by decide +kernel) (by decide +kernel) (by decide +kernel) (by decide +kernel) (by decide +kernel) (by decide +kernel)
theorem allAtoms_all (ts : List Jvm.Cond) (a : Array Jvm.Value) (st : Jvm.State) : (allAtoms ts).before a st = ts.all (fun c => c.before a st) := by
  induction ts with
  | nil => rfl
  | cons c t ih =>
    show (Jvm.Cond.and c (allAtoms t)).before a st = _
    rw [Jvm.Cond.before_and, ih, List.all_cons]
def words1 : List Jvm.Cond := Jvm.Cond.code x code maxLocals ret :: tables_1
/-- a 'code' word, met by the world's own term for the bytes: nothing is compared byte by byte -/
theorem code_word {y : MethodName} {bytes : ByteArray} {mx : Nat} {rt : Option FieldType} {a : Array Value} {s : State} {m : MethodId} {meth : Method} {c : Code} (h1 : s.methodNamed? y = some m) (h2 : s.vm.method? m = some meth) (h3 : meth.code = some c) (h4 : c.code = bytes)
    (h5 : (c.maxLocals == mx && c.exceptionTable.isEmpty && decide (c.maxStack ≤ mostOperands) && decide (meth.sig.returnType = rt) && !meth.locks && decide (parseMethodDescriptor y.desc = some meth.sig)) = true) : (Jvm.Cond.code y bytes mx rt).before a s = true := by
  simp only [Bool.and_eq_true, beq_iff_eq, Bool.not_eq_true', decide_eq_true_eq] at h5
  obtain ⟨⟨⟨⟨⟨g1, g2⟩, g3⟩, g4⟩, g5⟩, g6⟩ := h5
  simp [Cond.before, Cond.holds, Cond.value, h1, h2, h3, h4, g1, g2, g3, g4, g5, g6]
def isCode : Jvm.Cond → Bool
  | .code _ _ _ _ => true
  | _ => false
theorem all_split {L : List Jvm.Cond} {P : Jvm.Cond → Bool} (h1 : L.all (fun c => isCode c || P c) = true) (h2 : ∀ c ∈ L.filter isCode, P c = true) : L.all P = true := by
  refine List.all_eq_true.mpr fun c hc => ?_
  have h := List.all_eq_true.mp h1 c hc
  rcases Bool.eq_false_or_eq_true (isCode c) with hi | hi
  · exact h2 c (List.mem_filter.mpr ⟨hc, hi⟩)
  · simpa [hi] using h
set_option maxRecDepth 65536 in
theorem w_c0 : (Jvm.Cond.code x code maxLocals ret).before args0 about1 = true := code_word (m := ⟨1, 1⟩) (meth := k1m1) (c := k1c1) (by decide +kernel) rfl rfl rfl (by decide +kernel)
set_option maxRecDepth 65536 in
theorem w_c1 : (Jvm.Cond.code ({ cls := "com/example/licon/licon/search/Operator", name := "comparesText", desc := "()Z" } : Jvm.MethodName) prog_9_method_6_code (1 : Nat) (Option.some Jvm.ClassFile.FieldType.boolean)).before args0 about1 = true := code_word (m := ⟨6, 1⟩) (meth := k6m1) (c := k6c1) (by decide +kernel) rfl rfl rfl (by decide +kernel)
set_option maxRecDepth 65536 in
theorem w_c2 : (Jvm.Cond.code ({ cls := "com/example/licon/licon/search/Operator", name := "takes", desc := "(I)Z" } : Jvm.MethodName) prog_9_method_4_code (2 : Nat) (Option.some Jvm.ClassFile.FieldType.boolean)).before args0 about1 = true := code_word (m := ⟨6, 0⟩) (meth := k6m0) (c := k6c0) (by decide +kernel) rfl rfl rfl (by decide +kernel)
set_option maxRecDepth 65536 in
theorem w_c3 : (Jvm.Cond.code ({ cls := "com/example/licon/licon/search/Operator", name := "negated", desc := "()Z" } : Jvm.MethodName) prog_9_method_7_code (1 : Nat) (Option.some Jvm.ClassFile.FieldType.boolean)).before args0 about1 = true := code_word (m := ⟨6, 2⟩) (meth := k6m2) (c := k6c2) (by decide +kernel) rfl rfl rfl (by decide +kernel)
def codes1 : List Jvm.Cond := [Jvm.Cond.code x code maxLocals ret, Jvm.Cond.code ({ cls := "com/example/licon/licon/search/Operator", name := "comparesText", desc := "()Z" } : Jvm.MethodName) prog_9_method_6_code (1 : Nat) (Option.some Jvm.ClassFile.FieldType.boolean), Jvm.Cond.code ({ cls := "com/example/licon/licon/search/Operator", name := "takes", desc := "(I)Z" } : Jvm.MethodName) prog_9_method_4_code (2 : Nat) (Option.some Jvm.ClassFile.FieldType.boolean), Jvm.Cond.code ({ cls := "com/example/licon/licon/search/Operator", name := "negated", desc := "()Z" } : Jvm.MethodName) prog_9_method_7_code (1 : Nat) (Option.some Jvm.ClassFile.FieldType.boolean)]
set_option maxRecDepth 65536 in
theorem codes_eq : words1.filter isCode = codes1 := rfl
theorem w_codes : ∀ c ∈ words1.filter isCode, c.before args0 about1 = true := by
  rw [codes_eq]
  intro c hc
  simp only [codes1, List.mem_cons, List.not_mem_nil, or_false] at hc
  rcases hc with rfl | rfl | rfl | rfl
  · exact w_c0
  · exact w_c1
  · exact w_c2
  · exact w_c3
set_option maxRecDepth 65536 in
theorem w_t1 : (words1.take 24).all (fun c => isCode c || c.before args0 about1) = true := by decide +kernel
set_option maxRecDepth 65536 in
theorem w_t2 : (words1.drop 24).all (fun c => isCode c || c.before args0 about1) = true := by decide +kernel
theorem w_tables : (allAtoms (Jvm.Cond.code x code maxLocals ret :: tables_1)).before args0 about1 = true := by
  rw [allAtoms_all]
  show words1.all (fun c => c.before args0 about1) = true
  refine all_split ?_ w_codes
  rw [← List.take_append_drop 24 words1, List.all_append, w_t1, w_t2]
  rfl
set_option maxRecDepth 65536 in
theorem w_case : (Jvm.Cond.and given_1 narrow_1).before args0 about1 = true := by decide +kernel
theorem w_applies : (headSpec (Jvm.Cond.code x code maxLocals ret :: tables_1) room_1).applies x e0.platform about1 = true :=
  (Spec.applies_iff w_frames).mpr ⟨w_running, w_runnable, w_alone, w_named, w_hears, w_ripe, w_room, w_tables⟩
theorem atStart : AtStart classFile x code maxLocals ret World_1 tables_1 room_1 Calls_1 rest_1 Pre_1 launch0 p0 e0 about1 theMethod args0 below0 :=
  ⟨lists_1, trivial, launch0.admits_env _ _ _, launch0.least_env, fairChoices_fair.cas, fairChoices_fair.clock, w_frames, w_args, w_heap, w_applies, trivial, trivial, w_case⟩
end start1
theorem witness_1 : WitnessClaimed_1 := ⟨start1.p0, start1.e0, start1.about1, start1.theMethod, start1.args0, start1.below0, start1.atStart⟩
end Jvm.Pilot.@@N@@
