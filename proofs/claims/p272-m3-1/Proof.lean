import JvmDerived
import JvmDerived.Pilot.@@N@@Statement
import JvmDerived.Pilot.@@N@@Code
set_option linter.unusedVariables false
set_option linter.unusedSimpArgs false
namespace Jvm.RoadKit
open Sem ClassFile Op Lib Jvm.Stand Jvm.Free Jvm.LawKit
section New
variable {p : Program} {l : Launch} {e : Env} {R : Room} {s : State} {m : MethodId} {args : Array Value} {below : List Frame} {meth : Method} {c : Code} {T : State} {locs : List Loc} {cells slots : Nat}
theorem retI (X : Stand p l e R s m args below meth c T locs cells slots) (hx : p.tables.exec = Jvm.exec) {pc : Nat} {Ls : Array Slot} {z : Int32} {rest : List Value} (hret : meth.sig.returnType = some .int) (hd : decode c.code pc = .ok (.ireturn, 1)) {fs : List Frame}
    (hl : ∀ (f : JFrame) (acts : List Action), f.method = m → f.locked = none → f.entered = [] → (doReturn e (T.setTop f) acts (some (.int z))).1 = T.setFrames fs) : Steps p.tables e below (T.setTop (mkF m pc Ls (.int z :: rest))) (T.setFrames fs) := by
  have hm' : T.vm.method? m = some meth := X.method'
  have hn : narrow .int (.int z) = .int z := rfl
  show Steps p.tables e below (T.setTop { method := m, pc := pc, locals := Ls, stack := _ :: rest, locked := none }) _
  jvm_step X.here [X.here.top, hx, hd, hm', hret, hn]
  first | (intro acts; rw [hl _ acts rfl rfl rfl]) | rw [hl _ _ rfl rfl rfl]
  exact Steps.refl _
end New
end Jvm.RoadKit
namespace Jvm.Pilot.@@N@@
open Jvm Jvm.ClassFile Sem Op Lib Jvm.Free Jvm.Stand Jvm.LawKit Jvm.RoadKit Bundle Jvm.Pilot.@@N@@.Jvm.D
abbrev OM (l : Launch) (Z : State) (y : MethodName) (cd : ByteArray) (mL : Nat) (rt : Option FieldType) (ws : List Jvm.Cond) (rm : Room) (as' : Array Value) (h0 : Heap) (Q : Option Value → Heap → List Loc → Prop) : Prop :=
  MetFree l y (head1 (Jvm.Cond.code y cd mL rt :: ws) rm) (fun a U => a = as' ∧ Z.Warmed39 U.vm ∧ U.heap = h0) (fun _ _ _ _ _ => True) (fun _ U o U' => ∃ v L, o = .returned v ∧ Q v U'.heap L ∧ FrameEnd U o U' L rm.cells rm.slots)
/-- what a body that writes nothing leaves: its value, the heap as it was -/
def OP (r : Option Value) (n0 : Nat) (h0 : Heap) (v : Option Value) (h : Heap) (L : List Loc) : Prop := v = r ∧ Fr n0 L ∧ h = h0
theorem own_fld {s : State} {args : Array Value} {t : Term} {x : Addr} {C n d : String} {k : Int32} (ht : t.eval args s none [] s = some (.ref x)) (h : (Jvm.Cond.eq (.field t C n d) (.int k)).value args s none s [] = some true) : Fld s s.heap x C n d (.int k) := by
  obtain ⟨u, v, h1, h2, h3, h4⟩ := cmp_v (Or.inl h)
  have e2 : v = .int k := (Option.some.inj h2).symm
  subst e2
  obtain ⟨z, rfl⟩ := h4
  have e3 := gotT (Jvm.Cond.eq_ints h1 h2) h
  subst e3
  exact Fld.start (by rw [← fld_at ht]; exact h1)
/-- what a body leaves that speaks of its result alone -/
def OF (r : Option Value) (n0 : Nat) (v : Option Value) (h : Heap) (L : List Loc) : Prop := v = r ∧ Fr n0 L
abbrev osel (c : Bool) (a b : Int32) : Int32 := if c then a else b
def imax (a b : Int32) : Int32 := if a < b then b else a
theorem own_imax (a b : Int32) : imax (imax 0 a) b = imax 0 (imax a b) := by
  simp only [imax, Int32.lt_iff_toInt_lt]
  repeat' split
  all_goals (first | rfl | (exfalso; omega) | (apply Int32.toInt_inj.mp; omega))
theorem own_sta_keep {Z : State} {h h' : Heap} {C n d : String} {u : Value} {b : Addr} {k : ClassId} {ty : FieldType} {z : Int32} {vs : List Value} {dv : Value} (F : Sta Z h C n d u) (Kp : Keep h h' [b]) (A : Arv Z h b k ty z vs dv) : Sta Z h' C n d u := by
  obtain ⟨cf, i, kc, f, st, cell, h1, h2, h3, h4, h5, h6, h7⟩ := F
  obtain ⟨c, Ar, -⟩ := A
  have ne : st ≠ b := fun e => by
    subst e
    cases h5.symm.trans Ar.1
    rw [Ar.plain] at h6
    cases h6
  exact ⟨cf, i, kc, f, st, cell, h1, h2, h3, h4, Kp.2.1 st cell h5 (ninS ne nin0), h6, h7⟩
theorem own_arv {s : State} {args : Array Value} {t : Term} {x : Addr} {ty : FieldType} {dv : Value} (hf : Fit s) (ht : t.eval args s none [] s = some (.ref x)) (h1 : (Jvm.Cond.arrayOf t ty).value args s none s [] = some true) (h2 : (Jvm.Cond.eq (.length t) (.int 0)).value args s none s [] = some true) : ∃ k : ClassId, Arv s s.heap x k ty (0 : Int32) [] dv := by
  obtain ⟨c, A⟩ := Arr.start ht h1
  obtain ⟨u, v, e1, e2, k1, k2⟩ := cmp_v (Or.inl h2)
  have q2 : v = .int 0 := (Option.some.inj e2).symm
  subst q2
  obtain ⟨z, rfl⟩ := k2
  have q3 := gotT (Jvm.Cond.eq_ints e1 e2) h2
  subst q3
  have ha : s.arrayAt? x = some c := A.fin (Vm.Alike.refl _)
  have hl : c.slots.size < 2 ^ 31 ∧ c.slots.size.toInt32 = 0 := by
    simp only [Term.eval, ht, Option.bind_eq_bind, Option.bind_some, ha] at e1
    split at e1
    · rename_i q; exact ⟨q, by simpa using e1⟩
    · cases e1
  exact ⟨c.cls, Arv.start hf A hl.1 hl.2 (by decide) rfl trivial⟩
def Kon (Z : State) (h : Heap) (w : Nat → Addr) (κ : Nat → ClassId) : Prop :=
  (Sta Z h "com/example/trestleyard/trestleyard/subscription/Truth" "TRUE" "Lcom/example/trestleyard/trestleyard/subscription/Truth;" (.ref (w 0))) ∧
  (Sta Z h "com/example/trestleyard/trestleyard/subscription/Truth" "FALSE" "Lcom/example/trestleyard/trestleyard/subscription/Truth;" (.ref (w 1))) ∧
  (Sta Z h "com/example/trestleyard/trestleyard/subscription/Truth" "BOTTOM" "Lcom/example/trestleyard/trestleyard/subscription/Truth;" (.ref (w 2))) ∧
  (Exa Z h (w 0) "com/example/trestleyard/trestleyard/subscription/Truth") ∧
  (Exa Z h (w 1) "com/example/trestleyard/trestleyard/subscription/Truth") ∧
  (Exa Z h (w 2) "com/example/trestleyard/trestleyard/subscription/Truth") ∧
  (Fld Z h (w 2) "java/lang/Enum" "ordinal" "I" (.int (2 : Int32))) ∧
  (Fld Z h (w 0) "java/lang/Enum" "ordinal" "I" (.int (0 : Int32))) ∧
  (Fld Z h (w 1) "java/lang/Enum" "ordinal" "I" (.int (1 : Int32)))
theorem Kon.ext {Z : State} {h h' : Heap} {w : Nat → Addr} {κ : Nat → ClassId} (K : Kon Z h w κ) (E : Ext h h') : Kon Z h' w κ := ⟨K.1.ext E, K.2.1.ext E, K.2.2.1.ext E, K.2.2.2.1.ext E, K.2.2.2.2.1.ext E, K.2.2.2.2.2.1.ext E, K.2.2.2.2.2.2.1.ext E, K.2.2.2.2.2.2.2.1.ext E, K.2.2.2.2.2.2.2.2.ext E⟩
theorem Kon.wr {Z : State} {h h' : Heap} {w : Nat → Addr} {κ : Nat → ClassId} (K : Kon Z h w κ) {a : Addr} {sl : Nat} {v : Value} (W : Wr h h' a sl v) (q : ∀ i, i < 3 → w i ≠ a) : Kon Z h' w κ := ⟨K.1.wr W, K.2.1.wr W, K.2.2.1.wr W, K.2.2.2.1.wr W, K.2.2.2.2.1.wr W, K.2.2.2.2.2.1.wr W, K.2.2.2.2.2.2.1.other W (Or.inl (q 2 (by decide))), K.2.2.2.2.2.2.2.1.other W (Or.inl (q 0 (by decide))), K.2.2.2.2.2.2.2.2.other W (Or.inl (q 1 (by decide)))⟩
theorem Kon.keep {Z : State} {h h' : Heap} {w : Nat → Addr} {κ : Nat → ClassId} (K : Kon Z h w κ) {b : Addr} {k : ClassId} {ty : FieldType} {z : Int32} {vs : List Value} {dv : Value} (Kp : Keep h h' [b]) (A : Arv Z h b k ty z vs dv) (q : ∀ i, i < 3 → w i ≠ b) : Kon Z h' w κ := ⟨own_sta_keep K.1 Kp A, own_sta_keep K.2.1 Kp A, own_sta_keep K.2.2.1 Kp A, K.2.2.2.1.keep Kp, K.2.2.2.2.1.keep Kp, K.2.2.2.2.2.1.keep Kp, K.2.2.2.2.2.2.1.keep Kp (ninS (q 2 (by decide)) nin0), K.2.2.2.2.2.2.2.1.keep Kp (ninS (q 0 (by decide)) nin0), K.2.2.2.2.2.2.2.2.keep Kp (ninS (q 1 (by decide)) nin0)⟩
theorem Kon.lt {Z : State} {h : Heap} {w : Nat → Addr} {κ : Nat → ClassId} (K : Kon Z h w κ) : ∀ i, i < 3 → w i < h.size := fun i hi => by
  have q : i = 0 ∨ i = 1 ∨ i = 2 := by omega
  rcases q with rfl | rfl | rfl
  · exact K.2.2.2.1.lt
  · exact K.2.2.2.2.1.lt
  · exact K.2.2.2.2.2.1.lt
theorem own_lt_3 (t : Int32) (h0 : 0 ≤ t.toInt) (h1 : t.toInt < 3) : t = (0 : Int32) ∨ t = (1 : Int32) ∨ t = (2 : Int32) := by
  have q : t.toInt = 0 ∨ t.toInt = 1 ∨ t.toInt = 2 := by omega
  rcases q with q | q | q
  · exact Or.inl (Int32.toInt_inj.mp (q.trans (by decide)))
  · exact Or.inr (Or.inl (Int32.toInt_inj.mp (q.trans (by decide))))
  · exact Or.inr (Or.inr (Int32.toInt_inj.mp (q.trans (by decide))))
theorem own_mod_3 (u : Int32) : ((u &&& (2147483647 : Int32)) % (3 : Int32)) = (0 : Int32) ∨ ((u &&& (2147483647 : Int32)) % (3 : Int32)) = (1 : Int32) ∨ ((u &&& (2147483647 : Int32)) % (3 : Int32)) = (2 : Int32) := by
  have h1 : 0 ≤ (u &&& (2147483647 : Int32)).toInt := (c_and u 2147483647 (by decide)).1
  have h2 := (c_irem (u &&& (2147483647 : Int32)) (3 : Int32) 3 (by decide)).1 h1
  exact own_lt_3 _ (by rw [h2]; omega) (by rw [h2]; omega)
theorem d_prog_137_method_5_code_0 : decode prog_137_method_5_code 0 = .ok (.aload_n 0, 1) := by decide +kernel
theorem d_prog_137_method_5_code_1 : decode prog_137_method_5_code 1 = .ok (.getstatic 3, 3) := by decide +kernel
theorem d_prog_137_method_5_code_4 : decode prog_137_method_5_code 4 = .ok (.if_acmp .ne 10, 3) := by decide +kernel
theorem d_prog_137_method_5_code_7 : decode prog_137_method_5_code 7 = .ok (.getstatic 7, 3) := by decide +kernel
theorem d_prog_137_method_5_code_10 : decode prog_137_method_5_code 10 = .ok (.astore_n 1, 1) := by decide +kernel
theorem d_prog_137_method_5_code_11 : decode prog_137_method_5_code 11 = .ok (.goto 21, 3) := by decide +kernel
theorem d_prog_137_method_5_code_32 : decode prog_137_method_5_code 32 = .ok (.aload_n 1, 1) := by decide +kernel
theorem d_prog_137_method_5_code_33 : decode prog_137_method_5_code 33 = .ok (.areturn, 1) := by decide +kernel
theorem pn_com_example_trestleyard_trestleyard_subscription_Truth : plainName "com/example/trestleyard/trestleyard/subscription/Truth" = true := by first | (simp [plainName, overriddenIn]; done) | decide +kernel
set_option maxRecDepth 65536 in
set_option maxHeartbeats 40000000 in
theorem rm_not_1 (l : Launch) (Z : State) (a0 : Array Value) (hw : ∀ d ∈ tables_1, d.before a0 Z = true) (w : Nat → Addr) (κ : Nat → ClassId) (h0 : Heap) (n0 : Nat) (Z0 : n0 ≤ h0.size) (K : Kon Z h0 w κ) (u0 : Int32) (b1 : Addr) (k1 : ClassId) :
    OM l Z (⟨"com/example/trestleyard/trestleyard/subscription/Truth", "not", "()Lcom/example/trestleyard/trestleyard/subscription/Truth;"⟩ : MethodName) prog_137_method_5_code 2 (some (.object "com/example/trestleyard/trestleyard/subscription/Truth")) [] ({ frames := 0, cells := 0, slots := 0, locals := 0 } : Room) #[(.ref (w 0))] h0 (OP (some (.ref (w 1))) n0 h0) := by
  refine MetFree.of_bodySF (plainFor_of_name pn_com_example_trestleyard_trestleyard_subscription_Truth) hisR ?_
  intro p e s m args below meth c s₁ Bd hml0 hP hK
  obtain ⟨rfl, hZ, hh⟩ := hP
  have hx := Bd.exec
  have hby := Bd.bytes
  have hml : c.maxLocals = 2 := hml0
  have hown : s.vm.findClass "com/example/trestleyard/trestleyard/subscription/Truth" = some m.cls := findClass_of_methodNamed Bd.named
  have hnm := (name_of_methodNamed Bd.named Bd.method).1
  have X0 : Stand p l e ({ frames := 0, cells := 0, slots := 0, locals := 0 } : Room) s m #[(.ref (w 0))] below meth c s₁ [] 0 0 := Stand.of_body Bd
  have e0 : s₁.heap = h0 := by rw [← hh, Bd.state]; rfl
  have N0 := Fr.nil n0
  have pre0 : ∀ t, Steps p.tables e below (s₁.setTop (mkF m 0 #[.val (.ref (w 0)), .unset] [])) t → Steps p.tables e below (s₁.setTop (entryFrame m #[(.ref (w 0))] 2)) t := fun t k => castTop (by first | rfl | simp [entryFrame, mkF, argsToLocals, Value.category]) k
  obtain ⟨T1, X1, e1, st1⟩ := getS2 X0 hx hZ hown (host := "") (Or.inl (hw _ (List.mem_of_getElem? (i := 16) rfl))) Via.refl e0 K.1 (g := (mkF m 1 #[.val (.ref (w 0)), .unset] [(.ref (w 0))])) rfl (hb hby d_prog_137_method_5_code_1)
  obtain ⟨T2, X2, e2, st2⟩ := getS2 X1 hx hZ hown (host := "") (Or.inl (hw _ (List.mem_of_getElem? (i := 17) rfl))) Via.refl e1 K.2.1 (g := (mkF m 7 #[.val (.ref (w 0)), .unset] [])) rfl (hb hby d_prog_137_method_5_code_7)
  obtain ⟨fs, hr, hrun, hended, hW, hsame⟩ := X2.leave (v := (some (.ref (w 1)))) (fun h => by rw [Bd.returns] at h; cases h)
  refine ⟨_, _, pre0 _ ?_, hrun, hended, _, _, rfl, ?_, ⟨_, rfl⟩, hW, hsame.mono (by decide) (by decide)⟩
  · show Steps p.tables e below (s₁.setTop (mkF m 0 #[.val (.ref (w 0)), .unset] [])) _
    refine XS.aloadN X0.here hx rfl (hb hby d_prog_137_method_5_code_0) rfl rfl ?_
    show Steps p.tables e below (s₁.setTop (mkF m 1 #[.val (.ref (w 0)), .unset] [(.ref (w 0))])) _
    refine st1 _ ?_
    show Steps p.tables e below (T1.setTop (mkF m 4 #[.val (.ref (w 0)), .unset] [(.ref (w 0)), (.ref (w 0))])) _
    refine Jvm.RoadKit.acmp (g := (mkF m 4 #[.val (.ref (w 0)), .unset] [(.ref (w 0)), (.ref (w 0))])) X1 hx rfl rfl rfl (pc0 := 4) (pc' := 7) (same := true) rfl (hb hby d_prog_137_method_5_code_4) rfl (decide_eq_true rfl) (by decide) (by decide) ?_
    show Steps p.tables e below (T1.setTop (mkF m 7 #[.val (.ref (w 0)), .unset] [])) _
    refine st2 _ ?_
    show Steps p.tables e below (T2.setTop (mkF m 10 #[.val (.ref (w 0)), .unset] [(.ref (w 1))])) _
    refine XS.astoreN X2.here hx rfl (hb hby d_prog_137_method_5_code_10) rfl rfl (l' := #[.val (.ref (w 0)), .val (.ref (w 1))]) rfl ?_
    show Steps p.tables e below (T2.setTop (mkF m 11 #[.val (.ref (w 0)), .val (.ref (w 1))] [])) _
    refine XS.goto X2.here hx rfl (pc0 := 11) (pc' := 32) rfl (hb hby d_prog_137_method_5_code_11) (by decide) (by decide) ?_
    show Steps p.tables e below (T2.setTop (mkF m 32 #[.val (.ref (w 0)), .val (.ref (w 1))] [])) _
    refine XS.aloadN X2.here hx rfl (hb hby d_prog_137_method_5_code_32) rfl rfl ?_
    show Steps p.tables e below (T2.setTop (mkF m 33 #[.val (.ref (w 0)), .val (.ref (w 1))] [(.ref (w 1))])) _
    jvm_step X2.here [X2.here.top, hx, (hb hby d_prog_137_method_5_code_33), X2.method', Bd.returns, Value.isRef, FieldType.isReference]
    first | (intro acts; rw [hr _ acts rfl rfl rfl]) | rw [hr _ _ rfl rfl rfl]
    exact Steps.refl _
  · exact ⟨rfl, N0, e2⟩
theorem pd_2829Lcom2fexample2ftrestleyard2ftrestleyard2fsubscription2fTruth3b : parseMethodDescriptor "()Lcom/example/trestleyard/trestleyard/subscription/Truth;" = some ⟨[], some (.object "com/example/trestleyard/trestleyard/subscription/Truth")⟩ := by decide +kernel
theorem pn_com_example_trestleyard_trestleyard_subscription_TruthNotPinLaw : plainName "com/example/trestleyard/trestleyard/subscription/TruthNotPinLaw" = true := by first | (simp [plainName, overriddenIn]; done) | decide +kernel
set_option maxRecDepth 65536 in
set_option maxHeartbeats 40000000 in
theorem rm0_2 (l : Launch) (Z : State) (a0 : Array Value) (hw : ∀ d ∈ tables_1, d.before a0 Z = true) (w : Nat → Addr) (κ : Nat → ClassId) (h0 : Heap) (n0 : Nat) (Z0 : n0 ≤ h0.size) (K : Kon Z h0 w κ) (u0 : Int32) (hk0 : ((u0 &&& (2147483647 : Int32)) % (3 : Int32)) = (0 : Int32)) :
    OM l Z x code maxLocals ret tables_1 room_1 #[(.int u0)] h0 (OF (some (.int (1 : Int32))) n0) := by
  refine MetFree.of_bodySF (plainFor_of_name pn_com_example_trestleyard_trestleyard_subscription_TruthNotPinLaw) hisR ?_
  intro p e s m args below meth c s₁ Bd hml0 hP hK
  obtain ⟨rfl, hZ, hh⟩ := hP
  have hx := Bd.exec
  have hby := Bd.bytes
  have hml : c.maxLocals = 6 := hml0
  have hown : s.vm.findClass "com/example/trestleyard/trestleyard/subscription/TruthNotPinLaw" = some m.cls := findClass_of_methodNamed Bd.named
  have hnm := (name_of_methodNamed Bd.named Bd.method).1
  have X0 : Stand p l e room_1 s m #[(.int u0)] below meth c s₁ [] 0 0 := Stand.of_body Bd
  have e0 : s₁.heap = h0 := by rw [← hh, Bd.state]; rfl
  have N0 := Fr.nil n0
  have pre0 : ∀ t, Steps p.tables e below (s₁.setTop (mkF m 0 #[.val (.int u0), .unset, .unset, .unset, .unset, .unset] [])) t → Steps p.tables e below (s₁.setTop (entryFrame m #[(.int u0)] maxLocals)) t := fun t k => castTop (by first | rfl | simp [entryFrame, mkF, argsToLocals, Value.category, maxLocals]) k
  obtain ⟨T1, h1, k1, X1, e1, E1, A1, O1, st1⟩ := newR X0 hx hZ hown (hw _ (List.mem_of_getElem? (i := 0) rfl)) (hw _ (List.mem_of_getElem? (i := 1) rfl)) e0 (g := (mkF m 1 #[.val (.int u0), .unset, .unset, .unset, .unset, .unset] [(.int (3 : Int32))])) rfl (hb hby at_1) rfl (by decide) (cap := 3) (by decide) (by decide) (by decide) (by decide)
  obtain ⟨b1, g1⟩ : ∃ z, z = h0.size := ⟨_, rfl⟩
  rw [← g1] at A1 st1
  have hG1 : n0 ≤ b1 := Nat.le_trans Z0 (Nat.le_of_eq g1.symm)
  have hKN1 : ∀ i, i < 3 → w i ≠ b1 := fun i hi => by rw [g1]; exact Nat.ne_of_lt (K.lt i hi)
  have K1 := K.ext E1
  have Z1 : n0 ≤ h1.size := Nat.le_trans Z0 E1.1
  have V1 : Arv Z h1 b1 k1 (.object "com/example/trestleyard/trestleyard/subscription/Truth") (3 : Int32) [.null, .null, .null] .null := (Arv.new A1 (by decide)).pad (pad_rep [] .null 3)
  obtain ⟨T2, X2, e2, st2⟩ := getS2 X1 hx hZ hown (host := "") (Or.inl (hw _ (List.mem_of_getElem? (i := 2) rfl))) Via.refl e1 K1.1 (g := (mkF m 6 #[.val (.int u0), .unset, .unset, .unset, .unset, .unset] [(.int (0 : Int32)), (.ref b1), (.ref b1)])) rfl (hb hby at_6)
  obtain ⟨cl3, Ar3, qa3, Sz3, Nn3, Ha3, Ga3⟩ := id V1
  have hin3 : ¬ ((0 : Int32) < 0 ∨ cl3.slots.size ≤ ((0 : Int32)).toNatClampNeg) := inb_of Sz3 ⟨by decide, by decide⟩
  obtain ⟨T3, h3, X3, e3, W3, st3⟩ := stR X2 hx hZ e2 Ar3 (j := (0 : Int32)) hin3 rfl (Sto.ofV Ar3 qa3 O1 (Ins.self K1.2.2.2.1)) (g := (mkF m 9 #[.val (.int u0), .unset, .unset, .unset, .unset, .unset] [(.ref (w 0)), (.int (0 : Int32)), (.ref b1), (.ref b1)])) rfl rfl (hb hby at_9)
  have f3_fA_b1 : Arv Z h3 b1 k1 (.object "com/example/trestleyard/trestleyard/subscription/Truth") (3 : Int32) [(.ref (w 0)), .null, .null] .null := Arv.set Ar3 qa3 Sz3 Nn3 Ha3 Ga3 rfl W3 0 rfl (Nat.le_of_ble_eq_true rfl)
  have K3 := K1.wr W3 hKN1
  have Z3 : n0 ≤ h3.size := Nat.le_trans Z1 (Nat.le_of_eq W3.size.symm)
  have N3 := Fr.snoc X3 N0 hG1
  obtain ⟨T4, X4, e4, st4⟩ := getS2 X3 hx hZ hown (host := "") (Or.inl (hw _ (List.mem_of_getElem? (i := 6) rfl))) Via.refl e3 K3.2.1 (g := (mkF m 12 #[.val (.int u0), .unset, .unset, .unset, .unset, .unset] [(.int (1 : Int32)), (.ref b1), (.ref b1)])) rfl (hb hby at_12)
  obtain ⟨cl5, Ar5, qa5, Sz5, Nn5, Ha5, Ga5⟩ := id f3_fA_b1
  have hin5 : ¬ ((1 : Int32) < 0 ∨ cl5.slots.size ≤ ((1 : Int32)).toNatClampNeg) := inb_of Sz5 ⟨by decide, by decide⟩
  obtain ⟨T5, h5, X5, e5, W5, st5⟩ := stR X4 hx hZ e4 Ar5 (j := (1 : Int32)) hin5 rfl (Sto.ofV Ar5 qa5 O1 (Ins.self K3.2.2.2.2.1)) (g := (mkF m 15 #[.val (.int u0), .unset, .unset, .unset, .unset, .unset] [(.ref (w 1)), (.int (1 : Int32)), (.ref b1), (.ref b1)])) rfl rfl (hb hby at_15)
  have f5_fA_b1 : Arv Z h5 b1 k1 (.object "com/example/trestleyard/trestleyard/subscription/Truth") (3 : Int32) [(.ref (w 0)), (.ref (w 1)), .null] .null := Arv.set Ar5 qa5 Sz5 Nn5 Ha5 Ga5 rfl W5 1 rfl (Nat.le_of_ble_eq_true rfl)
  have K5 := K3.wr W5 hKN1
  have Z5 : n0 ≤ h5.size := Nat.le_trans Z3 (Nat.le_of_eq W5.size.symm)
  have N5 := Fr.snoc X5 N3 hG1
  obtain ⟨T6, X6, e6, st6⟩ := getS2 X5 hx hZ hown (host := "") (Or.inl (hw _ (List.mem_of_getElem? (i := 8) rfl))) Via.refl e5 K5.2.2.1 (g := (mkF m 18 #[.val (.int u0), .unset, .unset, .unset, .unset, .unset] [(.int (2 : Int32)), (.ref b1), (.ref b1)])) rfl (hb hby at_18)
  obtain ⟨cl7, Ar7, qa7, Sz7, Nn7, Ha7, Ga7⟩ := id f5_fA_b1
  have hin7 : ¬ ((2 : Int32) < 0 ∨ cl7.slots.size ≤ ((2 : Int32)).toNatClampNeg) := inb_of Sz7 ⟨by decide, by decide⟩
  obtain ⟨T7, h7, X7, e7, W7, st7⟩ := stR X6 hx hZ e6 Ar7 (j := (2 : Int32)) hin7 rfl (Sto.ofV Ar7 qa7 O1 (Ins.self K5.2.2.2.2.2.1)) (g := (mkF m 21 #[.val (.int u0), .unset, .unset, .unset, .unset, .unset] [(.ref (w 2)), (.int (2 : Int32)), (.ref b1), (.ref b1)])) rfl rfl (hb hby at_21)
  have f7_fA_b1 : Arv Z h7 b1 k1 (.object "com/example/trestleyard/trestleyard/subscription/Truth") (3 : Int32) [(.ref (w 0)), (.ref (w 1)), (.ref (w 2))] .null := Arv.set Ar7 qa7 Sz7 Nn7 Ha7 Ga7 rfl W7 2 rfl (Nat.le_of_ble_eq_true rfl)
  have K7 := K5.wr W7 hKN1
  have Z7 : n0 ≤ h7.size := Nat.le_trans Z5 (Nat.le_of_eq W7.size.symm)
  have N7 := Fr.snoc X7 N5 hG1
  obtain ⟨cl8, Ar8, qa8, Sz8, Nn8, Ha8, Ga8⟩ := id f7_fA_b1
  have hin8 : ¬ ((0 : Int32) < 0 ∨ cl8.slots.size ≤ ((0 : Int32)).toNatClampNeg) := inb_of Sz8 ⟨by decide, by decide⟩
  have hat8 : cl8.slots[((0 : Int32)).toNatClampNeg]? = some (.ref (w 0)) := Has.at Ha8 hin8 rfl
  obtain ⟨cq9, kq9, qa9, qb9, qc9⟩ := isOf hZ e7 K7.2.2.2.1
  obtain ⟨_, _, ⟨T9, L9, kk9, n9⟩, -, X9, ⟨Lc9, hQ9, l9, y9, z9⟩, st9⟩ := X7.virtualBack hx (y := (⟨"com/example/trestleyard/trestleyard/subscription/Truth", "not", "()Lcom/example/trestleyard/trestleyard/subscription/Truth;"⟩ : MethodName)) (z := (⟨"com/example/trestleyard/trestleyard/subscription/Truth", "not", "()Lcom/example/trestleyard/trestleyard/subscription/Truth;"⟩ : MethodName)) hown (mvT hZ (hw _ (List.mem_of_getElem? (i := 11) rfl))) (mvT hZ (hw _ (List.mem_of_getElem? (i := 12) rfl))) (notFace_of_selects (args := #[]) (mvT hZ (hw _ (List.mem_of_getElem? (i := 14) rfl)))) (mvT hZ (hw _ (List.mem_of_getElem? (i := 14) rfl))) (mvT hZ (hw _ (List.mem_of_getElem? (i := 13) rfl))) (by decide) (backOf (W := 0) (rm_not_1 l Z a0 hw w κ h7 n0 Z7 K7 u0 b1 k1) hZ (hw _ (List.mem_of_getElem? (i := 15) rfl)) (hw _ (List.mem_of_getElem? (i := 3) rfl)) (by decide) (by decide)) qa9 qc9 (g := (mkF m 35 #[.val (.int u0), .val (.ref b1), .val (.int (0 : Int32)), .val (.ref (w 0)), .unset, .unset] [(.ref (w 0))])) rfl (by rw [hml]; rfl) (Steps.refl _) (argsL := []) (rest := []) (lenOf pd_2829Lcom2fexample2ftrestleyard2ftrestleyard2fsubscription2fTruth3b rfl) rfl (by show 2 * 0 + _ ≤ _; exact Nat.le_of_eq rfl) (hb hby at_35) (fun _ _ => ⟨rfl, e7, (by decide : 1 + 0 ≤ _), (by decide : 3 + 0 ≤ _)⟩)
  dsimp only [Pt.U, Pt.locs, Pt.cells, Pt.slots] at X9 l9 y9 z9 st9 hQ9
  subst l9 y9 z9
  obtain ⟨rfl, N9q, e9⟩ := hQ9
  have N9 := Fr.app N7 N9q
  obtain ⟨cl10, Ar10, qa10, Sz10, Nn10, Ha10, Ga10⟩ := id f7_fA_b1
  have hin10 : ¬ ((1 : Int32) < 0 ∨ cl10.slots.size ≤ ((1 : Int32)).toNatClampNeg) := inb_of Sz10 ⟨by decide, by decide⟩
  have hat10 : cl10.slots[((1 : Int32)).toNatClampNeg]? = some (.ref (w 1)) := Has.at Ha10 hin10 rfl
  obtain ⟨fs, hr, hrun, hended, hW, hsame⟩ := X9.leave (v := (some (.int (1 : Int32)))) (fun h => by rw [Bd.returns] at h; cases h)
  refine ⟨_, _, pre0 _ ?_, hrun, hended, _, _, rfl, ?_, ⟨_, rfl⟩, hW, hsame.mono (by decide) (by decide)⟩
  · show Steps p.tables e below (s₁.setTop (mkF m 0 #[.val (.int u0), .unset, .unset, .unset, .unset, .unset] [])) _
    refine XS.iconst X0.here hx rfl (hb hby at_0) ?_
    show Steps p.tables e below (s₁.setTop (mkF m 1 #[.val (.int u0), .unset, .unset, .unset, .unset, .unset] [(.int (3 : Int32))])) _
    refine st1 _ ?_
    show Steps p.tables e below (T1.setTop (mkF m 4 #[.val (.int u0), .unset, .unset, .unset, .unset, .unset] [(.ref b1)])) _
    refine XS.dup X1.here hx rfl (hb hby at_4) rfl rfl ?_
    show Steps p.tables e below (T1.setTop (mkF m 5 #[.val (.int u0), .unset, .unset, .unset, .unset, .unset] [(.ref b1), (.ref b1)])) _
    refine XS.iconst X1.here hx rfl (hb hby at_5) ?_
    show Steps p.tables e below (T1.setTop (mkF m 6 #[.val (.int u0), .unset, .unset, .unset, .unset, .unset] [(.int (0 : Int32)), (.ref b1), (.ref b1)])) _
    refine st2 _ ?_
    show Steps p.tables e below (T2.setTop (mkF m 9 #[.val (.int u0), .unset, .unset, .unset, .unset, .unset] [(.ref (w 0)), (.int (0 : Int32)), (.ref b1), (.ref b1)])) _
    refine st3 _ ?_
    show Steps p.tables e below (T3.setTop (mkF m 10 #[.val (.int u0), .unset, .unset, .unset, .unset, .unset] [(.ref b1)])) _
    refine XS.dup X3.here hx rfl (hb hby at_10) rfl rfl ?_
    show Steps p.tables e below (T3.setTop (mkF m 11 #[.val (.int u0), .unset, .unset, .unset, .unset, .unset] [(.ref b1), (.ref b1)])) _
    refine XS.iconst X3.here hx rfl (hb hby at_11) ?_
    show Steps p.tables e below (T3.setTop (mkF m 12 #[.val (.int u0), .unset, .unset, .unset, .unset, .unset] [(.int (1 : Int32)), (.ref b1), (.ref b1)])) _
    refine st4 _ ?_
    show Steps p.tables e below (T4.setTop (mkF m 15 #[.val (.int u0), .unset, .unset, .unset, .unset, .unset] [(.ref (w 1)), (.int (1 : Int32)), (.ref b1), (.ref b1)])) _
    refine st5 _ ?_
    show Steps p.tables e below (T5.setTop (mkF m 16 #[.val (.int u0), .unset, .unset, .unset, .unset, .unset] [(.ref b1)])) _
    refine XS.dup X5.here hx rfl (hb hby at_16) rfl rfl ?_
    show Steps p.tables e below (T5.setTop (mkF m 17 #[.val (.int u0), .unset, .unset, .unset, .unset, .unset] [(.ref b1), (.ref b1)])) _
    refine XS.iconst X5.here hx rfl (hb hby at_17) ?_
    show Steps p.tables e below (T5.setTop (mkF m 18 #[.val (.int u0), .unset, .unset, .unset, .unset, .unset] [(.int (2 : Int32)), (.ref b1), (.ref b1)])) _
    refine st6 _ ?_
    show Steps p.tables e below (T6.setTop (mkF m 21 #[.val (.int u0), .unset, .unset, .unset, .unset, .unset] [(.ref (w 2)), (.int (2 : Int32)), (.ref b1), (.ref b1)])) _
    refine st7 _ ?_
    show Steps p.tables e below (T7.setTop (mkF m 22 #[.val (.int u0), .unset, .unset, .unset, .unset, .unset] [(.ref b1)])) _
    refine XS.astoreN X7.here hx rfl (hb hby at_22) rfl rfl (l' := #[.val (.int u0), .val (.ref b1), .unset, .unset, .unset, .unset]) rfl ?_
    show Steps p.tables e below (T7.setTop (mkF m 23 #[.val (.int u0), .val (.ref b1), .unset, .unset, .unset, .unset] [])) _
    refine XS.iloadN X7.here hx rfl (hb hby at_23) rfl ?_
    show Steps p.tables e below (T7.setTop (mkF m 24 #[.val (.int u0), .val (.ref b1), .unset, .unset, .unset, .unset] [(.int u0)])) _
    refine X7.ldcInt hx hown (mvT hZ (hw _ (List.mem_of_getElem? (i := 10) rfl))) (g := (mkF m 24 #[.val (.int u0), .val (.ref b1), .unset, .unset, .unset, .unset] [(.int u0)])) rfl (hb hby at_24) _ ?_
    show Steps p.tables e below (T7.setTop (mkF m 26 #[.val (.int u0), .val (.ref b1), .unset, .unset, .unset, .unset] [(.int (2147483647 : Int32)), (.int u0)])) _
    refine XS.iand X7.here hx rfl (hb hby at_26) rfl ?_
    show Steps p.tables e below (T7.setTop (mkF m 27 #[.val (.int u0), .val (.ref b1), .unset, .unset, .unset, .unset] [(.int (u0 &&& (2147483647 : Int32)))])) _
    refine XS.iconst X7.here hx rfl (hb hby at_27) ?_
    show Steps p.tables e below (T7.setTop (mkF m 28 #[.val (.int u0), .val (.ref b1), .unset, .unset, .unset, .unset] [(.int (3 : Int32)), (.int (u0 &&& (2147483647 : Int32)))])) _
    refine iremM X7 hx rfl (hb hby at_28) rfl (by decide : ¬ ((3 : Int32) = (0 : Int32))) ?_
    show Steps p.tables e below (T7.setTop (mkF m 29 #[.val (.int u0), .val (.ref b1), .unset, .unset, .unset, .unset] [(.int ((u0 &&& (2147483647 : Int32)) % (3 : Int32)))])) _
    rw [hk0]
    show Steps p.tables e below (T7.setTop (mkF m 29 #[.val (.int u0), .val (.ref b1), .unset, .unset, .unset, .unset] [(.int (0 : Int32))])) _
    refine XS.istoreN X7.here hx rfl (hb hby at_29) rfl (l' := #[.val (.int u0), .val (.ref b1), .val (.int (0 : Int32)), .unset, .unset, .unset]) rfl ?_
    show Steps p.tables e below (T7.setTop (mkF m 30 #[.val (.int u0), .val (.ref b1), .val (.int (0 : Int32)), .unset, .unset, .unset] [])) _
    refine XS.aloadN X7.here hx rfl (hb hby at_30) rfl rfl ?_
    show Steps p.tables e below (T7.setTop (mkF m 31 #[.val (.int u0), .val (.ref b1), .val (.int (0 : Int32)), .unset, .unset, .unset] [(.ref b1)])) _
    refine XS.iloadN X7.here hx rfl (hb hby at_31) rfl ?_
    show Steps p.tables e below (T7.setTop (mkF m 32 #[.val (.int u0), .val (.ref b1), .val (.int (0 : Int32)), .unset, .unset, .unset] [(.int (0 : Int32)), (.ref b1)])) _
    refine X7.aaload hx (j := (0 : Int32)) (v := (.ref (w 0))) (by rw [e7]; exact Ar8.1) (State.isArrayOf_alike hZ.alike Ar8.2.1) rfl Ar8.2.2 hin8 hat8 (g := (mkF m 32 #[.val (.int u0), .val (.ref b1), .val (.int (0 : Int32)), .unset, .unset, .unset] [(.int (0 : Int32)), (.ref b1)])) rfl rfl (hb hby at_32) _ ?_
    show Steps p.tables e below (T7.setTop (mkF m 33 #[.val (.int u0), .val (.ref b1), .val (.int (0 : Int32)), .unset, .unset, .unset] [(.ref (w 0))])) _
    refine XS.astoreN X7.here hx rfl (hb hby at_33) rfl rfl (l' := #[.val (.int u0), .val (.ref b1), .val (.int (0 : Int32)), .val (.ref (w 0)), .unset, .unset]) rfl ?_
    show Steps p.tables e below (T7.setTop (mkF m 34 #[.val (.int u0), .val (.ref b1), .val (.int (0 : Int32)), .val (.ref (w 0)), .unset, .unset] [])) _
    refine XS.aloadN X7.here hx rfl (hb hby at_34) rfl rfl ?_
    show Steps p.tables e below (T7.setTop (mkF m 35 #[.val (.int u0), .val (.ref b1), .val (.int (0 : Int32)), .val (.ref (w 0)), .unset, .unset] [(.ref (w 0))])) _
    refine st9.trans ?_
    show Steps p.tables e below (T9.setTop (mkF m 38 #[.val (.int u0), .val (.ref b1), .val (.int (0 : Int32)), .val (.ref (w 0)), .unset, .unset] [(.ref (w 1))])) _
    refine XS.astore X9.here hx rfl (hb hby at_38) rfl rfl (l' := #[.val (.int u0), .val (.ref b1), .val (.int (0 : Int32)), .val (.ref (w 0)), .val (.ref (w 1)), .unset]) rfl ?_
    show Steps p.tables e below (T9.setTop (mkF m 40 #[.val (.int u0), .val (.ref b1), .val (.int (0 : Int32)), .val (.ref (w 0)), .val (.ref (w 1)), .unset] [])) _
    refine XS.iloadN X9.here hx rfl (hb hby at_40) rfl ?_
    show Steps p.tables e below (T9.setTop (mkF m 41 #[.val (.int u0), .val (.ref b1), .val (.int (0 : Int32)), .val (.ref (w 0)), .val (.ref (w 1)), .unset] [(.int (0 : Int32))])) _
    refine XS.iconst X9.here hx rfl (hb hby at_41) ?_
    show Steps p.tables e below (T9.setTop (mkF m 42 #[.val (.int u0), .val (.ref b1), .val (.int (0 : Int32)), .val (.ref (w 0)), .val (.ref (w 1)), .unset] [(.int (2 : Int32)), (.int (0 : Int32))])) _
    refine XS.icmpYes X9.here hx rfl (pc0 := 42) (pc' := 51) rfl (hb hby at_42) rfl (feq (by decide : ¬ ((0 : Int32) = (2 : Int32)))).2 (by decide) (by decide) ?_
    show Steps p.tables e below (T9.setTop (mkF m 51 #[.val (.int u0), .val (.ref b1), .val (.int (0 : Int32)), .val (.ref (w 0)), .val (.ref (w 1)), .unset] [])) _
    refine XS.iconst X9.here hx rfl (hb hby at_51) ?_
    show Steps p.tables e below (T9.setTop (mkF m 52 #[.val (.int u0), .val (.ref b1), .val (.int (0 : Int32)), .val (.ref (w 0)), .val (.ref (w 1)), .unset] [(.int (1 : Int32))])) _
    refine XS.iloadN X9.here hx rfl (hb hby at_52) rfl ?_
    show Steps p.tables e below (T9.setTop (mkF m 53 #[.val (.int u0), .val (.ref b1), .val (.int (0 : Int32)), .val (.ref (w 0)), .val (.ref (w 1)), .unset] [(.int (0 : Int32)), (.int (1 : Int32))])) _
    refine XS.isub X9.here hx rfl (hb hby at_53) rfl ?_
    show Steps p.tables e below (T9.setTop (mkF m 54 #[.val (.int u0), .val (.ref b1), .val (.int (0 : Int32)), .val (.ref (w 0)), .val (.ref (w 1)), .unset] [(.int ((1 : Int32) - (0 : Int32)))])) _
    rw [(by decide : ((1 : Int32) - (0 : Int32)) = (1 : Int32))]
    show Steps p.tables e below (T9.setTop (mkF m 54 #[.val (.int u0), .val (.ref b1), .val (.int (0 : Int32)), .val (.ref (w 0)), .val (.ref (w 1)), .unset] [(.int (1 : Int32))])) _
    refine XS.istore X9.here hx rfl (hb hby at_54) rfl (l' := #[.val (.int u0), .val (.ref b1), .val (.int (0 : Int32)), .val (.ref (w 0)), .val (.ref (w 1)), .val (.int (1 : Int32))]) rfl ?_
    show Steps p.tables e below (T9.setTop (mkF m 56 #[.val (.int u0), .val (.ref b1), .val (.int (0 : Int32)), .val (.ref (w 0)), .val (.ref (w 1)), .val (.int (1 : Int32))] [])) _
    refine XS.aload X9.here hx rfl (hb hby at_56) rfl rfl ?_
    show Steps p.tables e below (T9.setTop (mkF m 58 #[.val (.int u0), .val (.ref b1), .val (.int (0 : Int32)), .val (.ref (w 0)), .val (.ref (w 1)), .val (.int (1 : Int32))] [(.ref (w 1))])) _
    refine XS.aloadN X9.here hx rfl (hb hby at_58) rfl rfl ?_
    show Steps p.tables e below (T9.setTop (mkF m 59 #[.val (.int u0), .val (.ref b1), .val (.int (0 : Int32)), .val (.ref (w 0)), .val (.ref (w 1)), .val (.int (1 : Int32))] [(.ref b1), (.ref (w 1))])) _
    refine XS.iload X9.here hx rfl (hb hby at_59) rfl ?_
    show Steps p.tables e below (T9.setTop (mkF m 61 #[.val (.int u0), .val (.ref b1), .val (.int (0 : Int32)), .val (.ref (w 0)), .val (.ref (w 1)), .val (.int (1 : Int32))] [(.int (1 : Int32)), (.ref b1), (.ref (w 1))])) _
    refine X9.aaload hx (j := (1 : Int32)) (v := (.ref (w 1))) (by rw [e9]; exact Ar10.1) (State.isArrayOf_alike hZ.alike Ar10.2.1) rfl Ar10.2.2 hin10 hat10 (g := (mkF m 61 #[.val (.int u0), .val (.ref b1), .val (.int (0 : Int32)), .val (.ref (w 0)), .val (.ref (w 1)), .val (.int (1 : Int32))] [(.int (1 : Int32)), (.ref b1), (.ref (w 1))])) rfl rfl (hb hby at_61) _ ?_
    show Steps p.tables e below (T9.setTop (mkF m 62 #[.val (.int u0), .val (.ref b1), .val (.int (0 : Int32)), .val (.ref (w 0)), .val (.ref (w 1)), .val (.int (1 : Int32))] [(.ref (w 1)), (.ref (w 1))])) _
    refine Jvm.RoadKit.acmp (g := (mkF m 62 #[.val (.int u0), .val (.ref b1), .val (.int (0 : Int32)), .val (.ref (w 0)), .val (.ref (w 1)), .val (.int (1 : Int32))] [(.ref (w 1)), (.ref (w 1))])) X9 hx rfl rfl rfl (pc0 := 62) (pc' := 65) (same := true) rfl (hb hby at_62) rfl (decide_eq_true rfl) (by decide) (by decide) ?_
    show Steps p.tables e below (T9.setTop (mkF m 65 #[.val (.int u0), .val (.ref b1), .val (.int (0 : Int32)), .val (.ref (w 0)), .val (.ref (w 1)), .val (.int (1 : Int32))] [])) _
    refine XS.iconst X9.here hx rfl (hb hby at_65) ?_
    show Steps p.tables e below (T9.setTop (mkF m 66 #[.val (.int u0), .val (.ref b1), .val (.int (0 : Int32)), .val (.ref (w 0)), .val (.ref (w 1)), .val (.int (1 : Int32))] [(.int (1 : Int32))])) _
    refine XS.goto X9.here hx rfl (pc0 := 66) (pc' := 70) rfl (hb hby at_66) (by decide) (by decide) ?_
    show Steps p.tables e below (T9.setTop (mkF m 70 #[.val (.int u0), .val (.ref b1), .val (.int (0 : Int32)), .val (.ref (w 0)), .val (.ref (w 1)), .val (.int (1 : Int32))] [(.int (1 : Int32))])) _
    exact retN X9 hx (t := .boolean) Bd.returns (by simp) (hb hby at_70) hr
  · exact ⟨rfl, N9⟩
theorem d_prog_137_method_5_code_14 : decode prog_137_method_5_code 14 = .ok (.aload_n 0, 1) := by decide +kernel
theorem d_prog_137_method_5_code_15 : decode prog_137_method_5_code 15 = .ok (.getstatic 7, 3) := by decide +kernel
theorem d_prog_137_method_5_code_18 : decode prog_137_method_5_code 18 = .ok (.if_acmp .ne 10, 3) := by decide +kernel
theorem d_prog_137_method_5_code_21 : decode prog_137_method_5_code 21 = .ok (.getstatic 3, 3) := by decide +kernel
theorem d_prog_137_method_5_code_24 : decode prog_137_method_5_code 24 = .ok (.astore_n 1, 1) := by decide +kernel
theorem d_prog_137_method_5_code_25 : decode prog_137_method_5_code 25 = .ok (.goto 7, 3) := by decide +kernel
set_option maxRecDepth 65536 in
set_option maxHeartbeats 40000000 in
theorem rm_not_3 (l : Launch) (Z : State) (a0 : Array Value) (hw : ∀ d ∈ tables_1, d.before a0 Z = true) (w : Nat → Addr) (κ : Nat → ClassId) (h0 : Heap) (n0 : Nat) (Z0 : n0 ≤ h0.size) (K : Kon Z h0 w κ) (u0 : Int32) (b1 : Addr) (k1 : ClassId) :
    OM l Z (⟨"com/example/trestleyard/trestleyard/subscription/Truth", "not", "()Lcom/example/trestleyard/trestleyard/subscription/Truth;"⟩ : MethodName) prog_137_method_5_code 2 (some (.object "com/example/trestleyard/trestleyard/subscription/Truth")) [] ({ frames := 0, cells := 0, slots := 0, locals := 0 } : Room) #[(.ref (w 1))] h0 (OP (some (.ref (w 0))) n0 h0) := by
  refine MetFree.of_bodySF (plainFor_of_name pn_com_example_trestleyard_trestleyard_subscription_Truth) hisR ?_
  intro p e s m args below meth c s₁ Bd hml0 hP hK
  obtain ⟨rfl, hZ, hh⟩ := hP
  have hx := Bd.exec
  have hby := Bd.bytes
  have hml : c.maxLocals = 2 := hml0
  have hown : s.vm.findClass "com/example/trestleyard/trestleyard/subscription/Truth" = some m.cls := findClass_of_methodNamed Bd.named
  have hnm := (name_of_methodNamed Bd.named Bd.method).1
  have X0 : Stand p l e ({ frames := 0, cells := 0, slots := 0, locals := 0 } : Room) s m #[(.ref (w 1))] below meth c s₁ [] 0 0 := Stand.of_body Bd
  have e0 : s₁.heap = h0 := by rw [← hh, Bd.state]; rfl
  have N0 := Fr.nil n0
  have pre0 : ∀ t, Steps p.tables e below (s₁.setTop (mkF m 0 #[.val (.ref (w 1)), .unset] [])) t → Steps p.tables e below (s₁.setTop (entryFrame m #[(.ref (w 1))] 2)) t := fun t k => castTop (by first | rfl | simp [entryFrame, mkF, argsToLocals, Value.category]) k
  obtain ⟨T1, X1, e1, st1⟩ := getS2 X0 hx hZ hown (host := "") (Or.inl (hw _ (List.mem_of_getElem? (i := 16) rfl))) Via.refl e0 K.1 (g := (mkF m 1 #[.val (.ref (w 1)), .unset] [(.ref (w 1))])) rfl (hb hby d_prog_137_method_5_code_1)
  obtain ⟨T2, X2, e2, st2⟩ := getS2 X1 hx hZ hown (host := "") (Or.inl (hw _ (List.mem_of_getElem? (i := 17) rfl))) Via.refl e1 K.2.1 (g := (mkF m 15 #[.val (.ref (w 1)), .unset] [(.ref (w 1))])) rfl (hb hby d_prog_137_method_5_code_15)
  obtain ⟨T3, X3, e3, st3⟩ := getS2 X2 hx hZ hown (host := "") (Or.inl (hw _ (List.mem_of_getElem? (i := 16) rfl))) Via.refl e2 K.1 (g := (mkF m 21 #[.val (.ref (w 1)), .unset] [])) rfl (hb hby d_prog_137_method_5_code_21)
  obtain ⟨fs, hr, hrun, hended, hW, hsame⟩ := X3.leave (v := (some (.ref (w 0)))) (fun h => by rw [Bd.returns] at h; cases h)
  refine ⟨_, _, pre0 _ ?_, hrun, hended, _, _, rfl, ?_, ⟨_, rfl⟩, hW, hsame.mono (by decide) (by decide)⟩
  · show Steps p.tables e below (s₁.setTop (mkF m 0 #[.val (.ref (w 1)), .unset] [])) _
    refine XS.aloadN X0.here hx rfl (hb hby d_prog_137_method_5_code_0) rfl rfl ?_
    show Steps p.tables e below (s₁.setTop (mkF m 1 #[.val (.ref (w 1)), .unset] [(.ref (w 1))])) _
    refine st1 _ ?_
    show Steps p.tables e below (T1.setTop (mkF m 4 #[.val (.ref (w 1)), .unset] [(.ref (w 0)), (.ref (w 1))])) _
    refine Jvm.RoadKit.acmp (g := (mkF m 4 #[.val (.ref (w 1)), .unset] [(.ref (w 0)), (.ref (w 1))])) X1 hx rfl rfl rfl (pc0 := 4) (pc' := 14) (same := false) rfl (hb hby d_prog_137_method_5_code_4) rfl (decide_eq_false fun q => (K.2.2.2.2.2.2.2.2.ne K.2.2.2.2.2.2.2.1 (by decide)) (Value.ref.inj q)) (by decide) (by decide) ?_
    show Steps p.tables e below (T1.setTop (mkF m 14 #[.val (.ref (w 1)), .unset] [])) _
    refine XS.aloadN X1.here hx rfl (hb hby d_prog_137_method_5_code_14) rfl rfl ?_
    show Steps p.tables e below (T1.setTop (mkF m 15 #[.val (.ref (w 1)), .unset] [(.ref (w 1))])) _
    refine st2 _ ?_
    show Steps p.tables e below (T2.setTop (mkF m 18 #[.val (.ref (w 1)), .unset] [(.ref (w 1)), (.ref (w 1))])) _
    refine Jvm.RoadKit.acmp (g := (mkF m 18 #[.val (.ref (w 1)), .unset] [(.ref (w 1)), (.ref (w 1))])) X2 hx rfl rfl rfl (pc0 := 18) (pc' := 21) (same := true) rfl (hb hby d_prog_137_method_5_code_18) rfl (decide_eq_true rfl) (by decide) (by decide) ?_
    show Steps p.tables e below (T2.setTop (mkF m 21 #[.val (.ref (w 1)), .unset] [])) _
    refine st3 _ ?_
    show Steps p.tables e below (T3.setTop (mkF m 24 #[.val (.ref (w 1)), .unset] [(.ref (w 0))])) _
    refine XS.astoreN X3.here hx rfl (hb hby d_prog_137_method_5_code_24) rfl rfl (l' := #[.val (.ref (w 1)), .val (.ref (w 0))]) rfl ?_
    show Steps p.tables e below (T3.setTop (mkF m 25 #[.val (.ref (w 1)), .val (.ref (w 0))] [])) _
    refine XS.goto X3.here hx rfl (pc0 := 25) (pc' := 32) rfl (hb hby d_prog_137_method_5_code_25) (by decide) (by decide) ?_
    show Steps p.tables e below (T3.setTop (mkF m 32 #[.val (.ref (w 1)), .val (.ref (w 0))] [])) _
    refine XS.aloadN X3.here hx rfl (hb hby d_prog_137_method_5_code_32) rfl rfl ?_
    show Steps p.tables e below (T3.setTop (mkF m 33 #[.val (.ref (w 1)), .val (.ref (w 0))] [(.ref (w 0))])) _
    jvm_step X3.here [X3.here.top, hx, (hb hby d_prog_137_method_5_code_33), X3.method', Bd.returns, Value.isRef, FieldType.isReference]
    first | (intro acts; rw [hr _ acts rfl rfl rfl]) | rw [hr _ _ rfl rfl rfl]
    exact Steps.refl _
  · exact ⟨rfl, N0, e3⟩
set_option maxRecDepth 65536 in
set_option maxHeartbeats 40000000 in
theorem rm0_4 (l : Launch) (Z : State) (a0 : Array Value) (hw : ∀ d ∈ tables_1, d.before a0 Z = true) (w : Nat → Addr) (κ : Nat → ClassId) (h0 : Heap) (n0 : Nat) (Z0 : n0 ≤ h0.size) (K : Kon Z h0 w κ) (u0 : Int32) (hk0 : ((u0 &&& (2147483647 : Int32)) % (3 : Int32)) = (1 : Int32)) :
    OM l Z x code maxLocals ret tables_1 room_1 #[(.int u0)] h0 (OF (some (.int (1 : Int32))) n0) := by
  refine MetFree.of_bodySF (plainFor_of_name pn_com_example_trestleyard_trestleyard_subscription_TruthNotPinLaw) hisR ?_
  intro p e s m args below meth c s₁ Bd hml0 hP hK
  obtain ⟨rfl, hZ, hh⟩ := hP
  have hx := Bd.exec
  have hby := Bd.bytes
  have hml : c.maxLocals = 6 := hml0
  have hown : s.vm.findClass "com/example/trestleyard/trestleyard/subscription/TruthNotPinLaw" = some m.cls := findClass_of_methodNamed Bd.named
  have hnm := (name_of_methodNamed Bd.named Bd.method).1
  have X0 : Stand p l e room_1 s m #[(.int u0)] below meth c s₁ [] 0 0 := Stand.of_body Bd
  have e0 : s₁.heap = h0 := by rw [← hh, Bd.state]; rfl
  have N0 := Fr.nil n0
  have pre0 : ∀ t, Steps p.tables e below (s₁.setTop (mkF m 0 #[.val (.int u0), .unset, .unset, .unset, .unset, .unset] [])) t → Steps p.tables e below (s₁.setTop (entryFrame m #[(.int u0)] maxLocals)) t := fun t k => castTop (by first | rfl | simp [entryFrame, mkF, argsToLocals, Value.category, maxLocals]) k
  obtain ⟨T1, h1, k1, X1, e1, E1, A1, O1, st1⟩ := newR X0 hx hZ hown (hw _ (List.mem_of_getElem? (i := 0) rfl)) (hw _ (List.mem_of_getElem? (i := 1) rfl)) e0 (g := (mkF m 1 #[.val (.int u0), .unset, .unset, .unset, .unset, .unset] [(.int (3 : Int32))])) rfl (hb hby at_1) rfl (by decide) (cap := 3) (by decide) (by decide) (by decide) (by decide)
  obtain ⟨b1, g1⟩ : ∃ z, z = h0.size := ⟨_, rfl⟩
  rw [← g1] at A1 st1
  have hG1 : n0 ≤ b1 := Nat.le_trans Z0 (Nat.le_of_eq g1.symm)
  have hKN1 : ∀ i, i < 3 → w i ≠ b1 := fun i hi => by rw [g1]; exact Nat.ne_of_lt (K.lt i hi)
  have K1 := K.ext E1
  have Z1 : n0 ≤ h1.size := Nat.le_trans Z0 E1.1
  have V1 : Arv Z h1 b1 k1 (.object "com/example/trestleyard/trestleyard/subscription/Truth") (3 : Int32) [.null, .null, .null] .null := (Arv.new A1 (by decide)).pad (pad_rep [] .null 3)
  obtain ⟨T2, X2, e2, st2⟩ := getS2 X1 hx hZ hown (host := "") (Or.inl (hw _ (List.mem_of_getElem? (i := 2) rfl))) Via.refl e1 K1.1 (g := (mkF m 6 #[.val (.int u0), .unset, .unset, .unset, .unset, .unset] [(.int (0 : Int32)), (.ref b1), (.ref b1)])) rfl (hb hby at_6)
  obtain ⟨cl3, Ar3, qa3, Sz3, Nn3, Ha3, Ga3⟩ := id V1
  have hin3 : ¬ ((0 : Int32) < 0 ∨ cl3.slots.size ≤ ((0 : Int32)).toNatClampNeg) := inb_of Sz3 ⟨by decide, by decide⟩
  obtain ⟨T3, h3, X3, e3, W3, st3⟩ := stR X2 hx hZ e2 Ar3 (j := (0 : Int32)) hin3 rfl (Sto.ofV Ar3 qa3 O1 (Ins.self K1.2.2.2.1)) (g := (mkF m 9 #[.val (.int u0), .unset, .unset, .unset, .unset, .unset] [(.ref (w 0)), (.int (0 : Int32)), (.ref b1), (.ref b1)])) rfl rfl (hb hby at_9)
  have f3_fA_b1 : Arv Z h3 b1 k1 (.object "com/example/trestleyard/trestleyard/subscription/Truth") (3 : Int32) [(.ref (w 0)), .null, .null] .null := Arv.set Ar3 qa3 Sz3 Nn3 Ha3 Ga3 rfl W3 0 rfl (Nat.le_of_ble_eq_true rfl)
  have K3 := K1.wr W3 hKN1
  have Z3 : n0 ≤ h3.size := Nat.le_trans Z1 (Nat.le_of_eq W3.size.symm)
  have N3 := Fr.snoc X3 N0 hG1
  obtain ⟨T4, X4, e4, st4⟩ := getS2 X3 hx hZ hown (host := "") (Or.inl (hw _ (List.mem_of_getElem? (i := 6) rfl))) Via.refl e3 K3.2.1 (g := (mkF m 12 #[.val (.int u0), .unset, .unset, .unset, .unset, .unset] [(.int (1 : Int32)), (.ref b1), (.ref b1)])) rfl (hb hby at_12)
  obtain ⟨cl5, Ar5, qa5, Sz5, Nn5, Ha5, Ga5⟩ := id f3_fA_b1
  have hin5 : ¬ ((1 : Int32) < 0 ∨ cl5.slots.size ≤ ((1 : Int32)).toNatClampNeg) := inb_of Sz5 ⟨by decide, by decide⟩
  obtain ⟨T5, h5, X5, e5, W5, st5⟩ := stR X4 hx hZ e4 Ar5 (j := (1 : Int32)) hin5 rfl (Sto.ofV Ar5 qa5 O1 (Ins.self K3.2.2.2.2.1)) (g := (mkF m 15 #[.val (.int u0), .unset, .unset, .unset, .unset, .unset] [(.ref (w 1)), (.int (1 : Int32)), (.ref b1), (.ref b1)])) rfl rfl (hb hby at_15)
  have f5_fA_b1 : Arv Z h5 b1 k1 (.object "com/example/trestleyard/trestleyard/subscription/Truth") (3 : Int32) [(.ref (w 0)), (.ref (w 1)), .null] .null := Arv.set Ar5 qa5 Sz5 Nn5 Ha5 Ga5 rfl W5 1 rfl (Nat.le_of_ble_eq_true rfl)
  have K5 := K3.wr W5 hKN1
  have Z5 : n0 ≤ h5.size := Nat.le_trans Z3 (Nat.le_of_eq W5.size.symm)
  have N5 := Fr.snoc X5 N3 hG1
  obtain ⟨T6, X6, e6, st6⟩ := getS2 X5 hx hZ hown (host := "") (Or.inl (hw _ (List.mem_of_getElem? (i := 8) rfl))) Via.refl e5 K5.2.2.1 (g := (mkF m 18 #[.val (.int u0), .unset, .unset, .unset, .unset, .unset] [(.int (2 : Int32)), (.ref b1), (.ref b1)])) rfl (hb hby at_18)
  obtain ⟨cl7, Ar7, qa7, Sz7, Nn7, Ha7, Ga7⟩ := id f5_fA_b1
  have hin7 : ¬ ((2 : Int32) < 0 ∨ cl7.slots.size ≤ ((2 : Int32)).toNatClampNeg) := inb_of Sz7 ⟨by decide, by decide⟩
  obtain ⟨T7, h7, X7, e7, W7, st7⟩ := stR X6 hx hZ e6 Ar7 (j := (2 : Int32)) hin7 rfl (Sto.ofV Ar7 qa7 O1 (Ins.self K5.2.2.2.2.2.1)) (g := (mkF m 21 #[.val (.int u0), .unset, .unset, .unset, .unset, .unset] [(.ref (w 2)), (.int (2 : Int32)), (.ref b1), (.ref b1)])) rfl rfl (hb hby at_21)
  have f7_fA_b1 : Arv Z h7 b1 k1 (.object "com/example/trestleyard/trestleyard/subscription/Truth") (3 : Int32) [(.ref (w 0)), (.ref (w 1)), (.ref (w 2))] .null := Arv.set Ar7 qa7 Sz7 Nn7 Ha7 Ga7 rfl W7 2 rfl (Nat.le_of_ble_eq_true rfl)
  have K7 := K5.wr W7 hKN1
  have Z7 : n0 ≤ h7.size := Nat.le_trans Z5 (Nat.le_of_eq W7.size.symm)
  have N7 := Fr.snoc X7 N5 hG1
  obtain ⟨cl8, Ar8, qa8, Sz8, Nn8, Ha8, Ga8⟩ := id f7_fA_b1
  have hin8 : ¬ ((1 : Int32) < 0 ∨ cl8.slots.size ≤ ((1 : Int32)).toNatClampNeg) := inb_of Sz8 ⟨by decide, by decide⟩
  have hat8 : cl8.slots[((1 : Int32)).toNatClampNeg]? = some (.ref (w 1)) := Has.at Ha8 hin8 rfl
  obtain ⟨cq9, kq9, qa9, qb9, qc9⟩ := isOf hZ e7 K7.2.2.2.2.1
  obtain ⟨_, _, ⟨T9, L9, kk9, n9⟩, -, X9, ⟨Lc9, hQ9, l9, y9, z9⟩, st9⟩ := X7.virtualBack hx (y := (⟨"com/example/trestleyard/trestleyard/subscription/Truth", "not", "()Lcom/example/trestleyard/trestleyard/subscription/Truth;"⟩ : MethodName)) (z := (⟨"com/example/trestleyard/trestleyard/subscription/Truth", "not", "()Lcom/example/trestleyard/trestleyard/subscription/Truth;"⟩ : MethodName)) hown (mvT hZ (hw _ (List.mem_of_getElem? (i := 11) rfl))) (mvT hZ (hw _ (List.mem_of_getElem? (i := 12) rfl))) (notFace_of_selects (args := #[]) (mvT hZ (hw _ (List.mem_of_getElem? (i := 14) rfl)))) (mvT hZ (hw _ (List.mem_of_getElem? (i := 14) rfl))) (mvT hZ (hw _ (List.mem_of_getElem? (i := 13) rfl))) (by decide) (backOf (W := 0) (rm_not_3 l Z a0 hw w κ h7 n0 Z7 K7 u0 b1 k1) hZ (hw _ (List.mem_of_getElem? (i := 15) rfl)) (hw _ (List.mem_of_getElem? (i := 3) rfl)) (by decide) (by decide)) qa9 qc9 (g := (mkF m 35 #[.val (.int u0), .val (.ref b1), .val (.int (1 : Int32)), .val (.ref (w 1)), .unset, .unset] [(.ref (w 1))])) rfl (by rw [hml]; rfl) (Steps.refl _) (argsL := []) (rest := []) (lenOf pd_2829Lcom2fexample2ftrestleyard2ftrestleyard2fsubscription2fTruth3b rfl) rfl (by show 2 * 0 + _ ≤ _; exact Nat.le_of_eq rfl) (hb hby at_35) (fun _ _ => ⟨rfl, e7, (by decide : 1 + 0 ≤ _), (by decide : 3 + 0 ≤ _)⟩)
  dsimp only [Pt.U, Pt.locs, Pt.cells, Pt.slots] at X9 l9 y9 z9 st9 hQ9
  subst l9 y9 z9
  obtain ⟨rfl, N9q, e9⟩ := hQ9
  have N9 := Fr.app N7 N9q
  obtain ⟨cl10, Ar10, qa10, Sz10, Nn10, Ha10, Ga10⟩ := id f7_fA_b1
  have hin10 : ¬ ((0 : Int32) < 0 ∨ cl10.slots.size ≤ ((0 : Int32)).toNatClampNeg) := inb_of Sz10 ⟨by decide, by decide⟩
  have hat10 : cl10.slots[((0 : Int32)).toNatClampNeg]? = some (.ref (w 0)) := Has.at Ha10 hin10 rfl
  obtain ⟨fs, hr, hrun, hended, hW, hsame⟩ := X9.leave (v := (some (.int (1 : Int32)))) (fun h => by rw [Bd.returns] at h; cases h)
  refine ⟨_, _, pre0 _ ?_, hrun, hended, _, _, rfl, ?_, ⟨_, rfl⟩, hW, hsame.mono (by decide) (by decide)⟩
  · show Steps p.tables e below (s₁.setTop (mkF m 0 #[.val (.int u0), .unset, .unset, .unset, .unset, .unset] [])) _
    refine XS.iconst X0.here hx rfl (hb hby at_0) ?_
    show Steps p.tables e below (s₁.setTop (mkF m 1 #[.val (.int u0), .unset, .unset, .unset, .unset, .unset] [(.int (3 : Int32))])) _
    refine st1 _ ?_
    show Steps p.tables e below (T1.setTop (mkF m 4 #[.val (.int u0), .unset, .unset, .unset, .unset, .unset] [(.ref b1)])) _
    refine XS.dup X1.here hx rfl (hb hby at_4) rfl rfl ?_
    show Steps p.tables e below (T1.setTop (mkF m 5 #[.val (.int u0), .unset, .unset, .unset, .unset, .unset] [(.ref b1), (.ref b1)])) _
    refine XS.iconst X1.here hx rfl (hb hby at_5) ?_
    show Steps p.tables e below (T1.setTop (mkF m 6 #[.val (.int u0), .unset, .unset, .unset, .unset, .unset] [(.int (0 : Int32)), (.ref b1), (.ref b1)])) _
    refine st2 _ ?_
    show Steps p.tables e below (T2.setTop (mkF m 9 #[.val (.int u0), .unset, .unset, .unset, .unset, .unset] [(.ref (w 0)), (.int (0 : Int32)), (.ref b1), (.ref b1)])) _
    refine st3 _ ?_
    show Steps p.tables e below (T3.setTop (mkF m 10 #[.val (.int u0), .unset, .unset, .unset, .unset, .unset] [(.ref b1)])) _
    refine XS.dup X3.here hx rfl (hb hby at_10) rfl rfl ?_
    show Steps p.tables e below (T3.setTop (mkF m 11 #[.val (.int u0), .unset, .unset, .unset, .unset, .unset] [(.ref b1), (.ref b1)])) _
    refine XS.iconst X3.here hx rfl (hb hby at_11) ?_
    show Steps p.tables e below (T3.setTop (mkF m 12 #[.val (.int u0), .unset, .unset, .unset, .unset, .unset] [(.int (1 : Int32)), (.ref b1), (.ref b1)])) _
    refine st4 _ ?_
    show Steps p.tables e below (T4.setTop (mkF m 15 #[.val (.int u0), .unset, .unset, .unset, .unset, .unset] [(.ref (w 1)), (.int (1 : Int32)), (.ref b1), (.ref b1)])) _
    refine st5 _ ?_
    show Steps p.tables e below (T5.setTop (mkF m 16 #[.val (.int u0), .unset, .unset, .unset, .unset, .unset] [(.ref b1)])) _
    refine XS.dup X5.here hx rfl (hb hby at_16) rfl rfl ?_
    show Steps p.tables e below (T5.setTop (mkF m 17 #[.val (.int u0), .unset, .unset, .unset, .unset, .unset] [(.ref b1), (.ref b1)])) _
    refine XS.iconst X5.here hx rfl (hb hby at_17) ?_
    show Steps p.tables e below (T5.setTop (mkF m 18 #[.val (.int u0), .unset, .unset, .unset, .unset, .unset] [(.int (2 : Int32)), (.ref b1), (.ref b1)])) _
    refine st6 _ ?_
    show Steps p.tables e below (T6.setTop (mkF m 21 #[.val (.int u0), .unset, .unset, .unset, .unset, .unset] [(.ref (w 2)), (.int (2 : Int32)), (.ref b1), (.ref b1)])) _
    refine st7 _ ?_
    show Steps p.tables e below (T7.setTop (mkF m 22 #[.val (.int u0), .unset, .unset, .unset, .unset, .unset] [(.ref b1)])) _
    refine XS.astoreN X7.here hx rfl (hb hby at_22) rfl rfl (l' := #[.val (.int u0), .val (.ref b1), .unset, .unset, .unset, .unset]) rfl ?_
    show Steps p.tables e below (T7.setTop (mkF m 23 #[.val (.int u0), .val (.ref b1), .unset, .unset, .unset, .unset] [])) _
    refine XS.iloadN X7.here hx rfl (hb hby at_23) rfl ?_
    show Steps p.tables e below (T7.setTop (mkF m 24 #[.val (.int u0), .val (.ref b1), .unset, .unset, .unset, .unset] [(.int u0)])) _
    refine X7.ldcInt hx hown (mvT hZ (hw _ (List.mem_of_getElem? (i := 10) rfl))) (g := (mkF m 24 #[.val (.int u0), .val (.ref b1), .unset, .unset, .unset, .unset] [(.int u0)])) rfl (hb hby at_24) _ ?_
    show Steps p.tables e below (T7.setTop (mkF m 26 #[.val (.int u0), .val (.ref b1), .unset, .unset, .unset, .unset] [(.int (2147483647 : Int32)), (.int u0)])) _
    refine XS.iand X7.here hx rfl (hb hby at_26) rfl ?_
    show Steps p.tables e below (T7.setTop (mkF m 27 #[.val (.int u0), .val (.ref b1), .unset, .unset, .unset, .unset] [(.int (u0 &&& (2147483647 : Int32)))])) _
    refine XS.iconst X7.here hx rfl (hb hby at_27) ?_
    show Steps p.tables e below (T7.setTop (mkF m 28 #[.val (.int u0), .val (.ref b1), .unset, .unset, .unset, .unset] [(.int (3 : Int32)), (.int (u0 &&& (2147483647 : Int32)))])) _
    refine iremM X7 hx rfl (hb hby at_28) rfl (by decide : ¬ ((3 : Int32) = (0 : Int32))) ?_
    show Steps p.tables e below (T7.setTop (mkF m 29 #[.val (.int u0), .val (.ref b1), .unset, .unset, .unset, .unset] [(.int ((u0 &&& (2147483647 : Int32)) % (3 : Int32)))])) _
    rw [hk0]
    show Steps p.tables e below (T7.setTop (mkF m 29 #[.val (.int u0), .val (.ref b1), .unset, .unset, .unset, .unset] [(.int (1 : Int32))])) _
    refine XS.istoreN X7.here hx rfl (hb hby at_29) rfl (l' := #[.val (.int u0), .val (.ref b1), .val (.int (1 : Int32)), .unset, .unset, .unset]) rfl ?_
    show Steps p.tables e below (T7.setTop (mkF m 30 #[.val (.int u0), .val (.ref b1), .val (.int (1 : Int32)), .unset, .unset, .unset] [])) _
    refine XS.aloadN X7.here hx rfl (hb hby at_30) rfl rfl ?_
    show Steps p.tables e below (T7.setTop (mkF m 31 #[.val (.int u0), .val (.ref b1), .val (.int (1 : Int32)), .unset, .unset, .unset] [(.ref b1)])) _
    refine XS.iloadN X7.here hx rfl (hb hby at_31) rfl ?_
    show Steps p.tables e below (T7.setTop (mkF m 32 #[.val (.int u0), .val (.ref b1), .val (.int (1 : Int32)), .unset, .unset, .unset] [(.int (1 : Int32)), (.ref b1)])) _
    refine X7.aaload hx (j := (1 : Int32)) (v := (.ref (w 1))) (by rw [e7]; exact Ar8.1) (State.isArrayOf_alike hZ.alike Ar8.2.1) rfl Ar8.2.2 hin8 hat8 (g := (mkF m 32 #[.val (.int u0), .val (.ref b1), .val (.int (1 : Int32)), .unset, .unset, .unset] [(.int (1 : Int32)), (.ref b1)])) rfl rfl (hb hby at_32) _ ?_
    show Steps p.tables e below (T7.setTop (mkF m 33 #[.val (.int u0), .val (.ref b1), .val (.int (1 : Int32)), .unset, .unset, .unset] [(.ref (w 1))])) _
    refine XS.astoreN X7.here hx rfl (hb hby at_33) rfl rfl (l' := #[.val (.int u0), .val (.ref b1), .val (.int (1 : Int32)), .val (.ref (w 1)), .unset, .unset]) rfl ?_
    show Steps p.tables e below (T7.setTop (mkF m 34 #[.val (.int u0), .val (.ref b1), .val (.int (1 : Int32)), .val (.ref (w 1)), .unset, .unset] [])) _
    refine XS.aloadN X7.here hx rfl (hb hby at_34) rfl rfl ?_
    show Steps p.tables e below (T7.setTop (mkF m 35 #[.val (.int u0), .val (.ref b1), .val (.int (1 : Int32)), .val (.ref (w 1)), .unset, .unset] [(.ref (w 1))])) _
    refine st9.trans ?_
    show Steps p.tables e below (T9.setTop (mkF m 38 #[.val (.int u0), .val (.ref b1), .val (.int (1 : Int32)), .val (.ref (w 1)), .unset, .unset] [(.ref (w 0))])) _
    refine XS.astore X9.here hx rfl (hb hby at_38) rfl rfl (l' := #[.val (.int u0), .val (.ref b1), .val (.int (1 : Int32)), .val (.ref (w 1)), .val (.ref (w 0)), .unset]) rfl ?_
    show Steps p.tables e below (T9.setTop (mkF m 40 #[.val (.int u0), .val (.ref b1), .val (.int (1 : Int32)), .val (.ref (w 1)), .val (.ref (w 0)), .unset] [])) _
    refine XS.iloadN X9.here hx rfl (hb hby at_40) rfl ?_
    show Steps p.tables e below (T9.setTop (mkF m 41 #[.val (.int u0), .val (.ref b1), .val (.int (1 : Int32)), .val (.ref (w 1)), .val (.ref (w 0)), .unset] [(.int (1 : Int32))])) _
    refine XS.iconst X9.here hx rfl (hb hby at_41) ?_
    show Steps p.tables e below (T9.setTop (mkF m 42 #[.val (.int u0), .val (.ref b1), .val (.int (1 : Int32)), .val (.ref (w 1)), .val (.ref (w 0)), .unset] [(.int (2 : Int32)), (.int (1 : Int32))])) _
    refine XS.icmpYes X9.here hx rfl (pc0 := 42) (pc' := 51) rfl (hb hby at_42) rfl (feq (by decide : ¬ ((1 : Int32) = (2 : Int32)))).2 (by decide) (by decide) ?_
    show Steps p.tables e below (T9.setTop (mkF m 51 #[.val (.int u0), .val (.ref b1), .val (.int (1 : Int32)), .val (.ref (w 1)), .val (.ref (w 0)), .unset] [])) _
    refine XS.iconst X9.here hx rfl (hb hby at_51) ?_
    show Steps p.tables e below (T9.setTop (mkF m 52 #[.val (.int u0), .val (.ref b1), .val (.int (1 : Int32)), .val (.ref (w 1)), .val (.ref (w 0)), .unset] [(.int (1 : Int32))])) _
    refine XS.iloadN X9.here hx rfl (hb hby at_52) rfl ?_
    show Steps p.tables e below (T9.setTop (mkF m 53 #[.val (.int u0), .val (.ref b1), .val (.int (1 : Int32)), .val (.ref (w 1)), .val (.ref (w 0)), .unset] [(.int (1 : Int32)), (.int (1 : Int32))])) _
    refine XS.isub X9.here hx rfl (hb hby at_53) rfl ?_
    show Steps p.tables e below (T9.setTop (mkF m 54 #[.val (.int u0), .val (.ref b1), .val (.int (1 : Int32)), .val (.ref (w 1)), .val (.ref (w 0)), .unset] [(.int ((1 : Int32) - (1 : Int32)))])) _
    rw [(by decide : ((1 : Int32) - (1 : Int32)) = (0 : Int32))]
    show Steps p.tables e below (T9.setTop (mkF m 54 #[.val (.int u0), .val (.ref b1), .val (.int (1 : Int32)), .val (.ref (w 1)), .val (.ref (w 0)), .unset] [(.int (0 : Int32))])) _
    refine XS.istore X9.here hx rfl (hb hby at_54) rfl (l' := #[.val (.int u0), .val (.ref b1), .val (.int (1 : Int32)), .val (.ref (w 1)), .val (.ref (w 0)), .val (.int (0 : Int32))]) rfl ?_
    show Steps p.tables e below (T9.setTop (mkF m 56 #[.val (.int u0), .val (.ref b1), .val (.int (1 : Int32)), .val (.ref (w 1)), .val (.ref (w 0)), .val (.int (0 : Int32))] [])) _
    refine XS.aload X9.here hx rfl (hb hby at_56) rfl rfl ?_
    show Steps p.tables e below (T9.setTop (mkF m 58 #[.val (.int u0), .val (.ref b1), .val (.int (1 : Int32)), .val (.ref (w 1)), .val (.ref (w 0)), .val (.int (0 : Int32))] [(.ref (w 0))])) _
    refine XS.aloadN X9.here hx rfl (hb hby at_58) rfl rfl ?_
    show Steps p.tables e below (T9.setTop (mkF m 59 #[.val (.int u0), .val (.ref b1), .val (.int (1 : Int32)), .val (.ref (w 1)), .val (.ref (w 0)), .val (.int (0 : Int32))] [(.ref b1), (.ref (w 0))])) _
    refine XS.iload X9.here hx rfl (hb hby at_59) rfl ?_
    show Steps p.tables e below (T9.setTop (mkF m 61 #[.val (.int u0), .val (.ref b1), .val (.int (1 : Int32)), .val (.ref (w 1)), .val (.ref (w 0)), .val (.int (0 : Int32))] [(.int (0 : Int32)), (.ref b1), (.ref (w 0))])) _
    refine X9.aaload hx (j := (0 : Int32)) (v := (.ref (w 0))) (by rw [e9]; exact Ar10.1) (State.isArrayOf_alike hZ.alike Ar10.2.1) rfl Ar10.2.2 hin10 hat10 (g := (mkF m 61 #[.val (.int u0), .val (.ref b1), .val (.int (1 : Int32)), .val (.ref (w 1)), .val (.ref (w 0)), .val (.int (0 : Int32))] [(.int (0 : Int32)), (.ref b1), (.ref (w 0))])) rfl rfl (hb hby at_61) _ ?_
    show Steps p.tables e below (T9.setTop (mkF m 62 #[.val (.int u0), .val (.ref b1), .val (.int (1 : Int32)), .val (.ref (w 1)), .val (.ref (w 0)), .val (.int (0 : Int32))] [(.ref (w 0)), (.ref (w 0))])) _
    refine Jvm.RoadKit.acmp (g := (mkF m 62 #[.val (.int u0), .val (.ref b1), .val (.int (1 : Int32)), .val (.ref (w 1)), .val (.ref (w 0)), .val (.int (0 : Int32))] [(.ref (w 0)), (.ref (w 0))])) X9 hx rfl rfl rfl (pc0 := 62) (pc' := 65) (same := true) rfl (hb hby at_62) rfl (decide_eq_true rfl) (by decide) (by decide) ?_
    show Steps p.tables e below (T9.setTop (mkF m 65 #[.val (.int u0), .val (.ref b1), .val (.int (1 : Int32)), .val (.ref (w 1)), .val (.ref (w 0)), .val (.int (0 : Int32))] [])) _
    refine XS.iconst X9.here hx rfl (hb hby at_65) ?_
    show Steps p.tables e below (T9.setTop (mkF m 66 #[.val (.int u0), .val (.ref b1), .val (.int (1 : Int32)), .val (.ref (w 1)), .val (.ref (w 0)), .val (.int (0 : Int32))] [(.int (1 : Int32))])) _
    refine XS.goto X9.here hx rfl (pc0 := 66) (pc' := 70) rfl (hb hby at_66) (by decide) (by decide) ?_
    show Steps p.tables e below (T9.setTop (mkF m 70 #[.val (.int u0), .val (.ref b1), .val (.int (1 : Int32)), .val (.ref (w 1)), .val (.ref (w 0)), .val (.int (0 : Int32))] [(.int (1 : Int32))])) _
    exact retN X9 hx (t := .boolean) Bd.returns (by simp) (hb hby at_70) hr
  · exact ⟨rfl, N9⟩
theorem d_prog_137_method_5_code_28 : decode prog_137_method_5_code 28 = .ok (.getstatic 10, 3) := by decide +kernel
theorem d_prog_137_method_5_code_31 : decode prog_137_method_5_code 31 = .ok (.astore_n 1, 1) := by decide +kernel
set_option maxRecDepth 65536 in
set_option maxHeartbeats 40000000 in
theorem rm_not_5 (l : Launch) (Z : State) (a0 : Array Value) (hw : ∀ d ∈ tables_1, d.before a0 Z = true) (w : Nat → Addr) (κ : Nat → ClassId) (h0 : Heap) (n0 : Nat) (Z0 : n0 ≤ h0.size) (K : Kon Z h0 w κ) (u0 : Int32) (b1 : Addr) (k1 : ClassId) :
    OM l Z (⟨"com/example/trestleyard/trestleyard/subscription/Truth", "not", "()Lcom/example/trestleyard/trestleyard/subscription/Truth;"⟩ : MethodName) prog_137_method_5_code 2 (some (.object "com/example/trestleyard/trestleyard/subscription/Truth")) [] ({ frames := 0, cells := 0, slots := 0, locals := 0 } : Room) #[(.ref (w 2))] h0 (OP (some (.ref (w 2))) n0 h0) := by
  refine MetFree.of_bodySF (plainFor_of_name pn_com_example_trestleyard_trestleyard_subscription_Truth) hisR ?_
  intro p e s m args below meth c s₁ Bd hml0 hP hK
  obtain ⟨rfl, hZ, hh⟩ := hP
  have hx := Bd.exec
  have hby := Bd.bytes
  have hml : c.maxLocals = 2 := hml0
  have hown : s.vm.findClass "com/example/trestleyard/trestleyard/subscription/Truth" = some m.cls := findClass_of_methodNamed Bd.named
  have hnm := (name_of_methodNamed Bd.named Bd.method).1
  have X0 : Stand p l e ({ frames := 0, cells := 0, slots := 0, locals := 0 } : Room) s m #[(.ref (w 2))] below meth c s₁ [] 0 0 := Stand.of_body Bd
  have e0 : s₁.heap = h0 := by rw [← hh, Bd.state]; rfl
  have N0 := Fr.nil n0
  have pre0 : ∀ t, Steps p.tables e below (s₁.setTop (mkF m 0 #[.val (.ref (w 2)), .unset] [])) t → Steps p.tables e below (s₁.setTop (entryFrame m #[(.ref (w 2))] 2)) t := fun t k => castTop (by first | rfl | simp [entryFrame, mkF, argsToLocals, Value.category]) k
  obtain ⟨T1, X1, e1, st1⟩ := getS2 X0 hx hZ hown (host := "") (Or.inl (hw _ (List.mem_of_getElem? (i := 16) rfl))) Via.refl e0 K.1 (g := (mkF m 1 #[.val (.ref (w 2)), .unset] [(.ref (w 2))])) rfl (hb hby d_prog_137_method_5_code_1)
  obtain ⟨T2, X2, e2, st2⟩ := getS2 X1 hx hZ hown (host := "") (Or.inl (hw _ (List.mem_of_getElem? (i := 17) rfl))) Via.refl e1 K.2.1 (g := (mkF m 15 #[.val (.ref (w 2)), .unset] [(.ref (w 2))])) rfl (hb hby d_prog_137_method_5_code_15)
  obtain ⟨T3, X3, e3, st3⟩ := getS2 X2 hx hZ hown (host := "") (Or.inl (hw _ (List.mem_of_getElem? (i := 18) rfl))) Via.refl e2 K.2.2.1 (g := (mkF m 28 #[.val (.ref (w 2)), .unset] [])) rfl (hb hby d_prog_137_method_5_code_28)
  obtain ⟨fs, hr, hrun, hended, hW, hsame⟩ := X3.leave (v := (some (.ref (w 2)))) (fun h => by rw [Bd.returns] at h; cases h)
  refine ⟨_, _, pre0 _ ?_, hrun, hended, _, _, rfl, ?_, ⟨_, rfl⟩, hW, hsame.mono (by decide) (by decide)⟩
  · show Steps p.tables e below (s₁.setTop (mkF m 0 #[.val (.ref (w 2)), .unset] [])) _
    refine XS.aloadN X0.here hx rfl (hb hby d_prog_137_method_5_code_0) rfl rfl ?_
    show Steps p.tables e below (s₁.setTop (mkF m 1 #[.val (.ref (w 2)), .unset] [(.ref (w 2))])) _
    refine st1 _ ?_
    show Steps p.tables e below (T1.setTop (mkF m 4 #[.val (.ref (w 2)), .unset] [(.ref (w 0)), (.ref (w 2))])) _
    refine Jvm.RoadKit.acmp (g := (mkF m 4 #[.val (.ref (w 2)), .unset] [(.ref (w 0)), (.ref (w 2))])) X1 hx rfl rfl rfl (pc0 := 4) (pc' := 14) (same := false) rfl (hb hby d_prog_137_method_5_code_4) rfl (decide_eq_false fun q => (K.2.2.2.2.2.2.1.ne K.2.2.2.2.2.2.2.1 (by decide)) (Value.ref.inj q)) (by decide) (by decide) ?_
    show Steps p.tables e below (T1.setTop (mkF m 14 #[.val (.ref (w 2)), .unset] [])) _
    refine XS.aloadN X1.here hx rfl (hb hby d_prog_137_method_5_code_14) rfl rfl ?_
    show Steps p.tables e below (T1.setTop (mkF m 15 #[.val (.ref (w 2)), .unset] [(.ref (w 2))])) _
    refine st2 _ ?_
    show Steps p.tables e below (T2.setTop (mkF m 18 #[.val (.ref (w 2)), .unset] [(.ref (w 1)), (.ref (w 2))])) _
    refine Jvm.RoadKit.acmp (g := (mkF m 18 #[.val (.ref (w 2)), .unset] [(.ref (w 1)), (.ref (w 2))])) X2 hx rfl rfl rfl (pc0 := 18) (pc' := 28) (same := false) rfl (hb hby d_prog_137_method_5_code_18) rfl (decide_eq_false fun q => (K.2.2.2.2.2.2.1.ne K.2.2.2.2.2.2.2.2 (by decide)) (Value.ref.inj q)) (by decide) (by decide) ?_
    show Steps p.tables e below (T2.setTop (mkF m 28 #[.val (.ref (w 2)), .unset] [])) _
    refine st3 _ ?_
    show Steps p.tables e below (T3.setTop (mkF m 31 #[.val (.ref (w 2)), .unset] [(.ref (w 2))])) _
    refine XS.astoreN X3.here hx rfl (hb hby d_prog_137_method_5_code_31) rfl rfl (l' := #[.val (.ref (w 2)), .val (.ref (w 2))]) rfl ?_
    show Steps p.tables e below (T3.setTop (mkF m 32 #[.val (.ref (w 2)), .val (.ref (w 2))] [])) _
    refine XS.aloadN X3.here hx rfl (hb hby d_prog_137_method_5_code_32) rfl rfl ?_
    show Steps p.tables e below (T3.setTop (mkF m 33 #[.val (.ref (w 2)), .val (.ref (w 2))] [(.ref (w 2))])) _
    jvm_step X3.here [X3.here.top, hx, (hb hby d_prog_137_method_5_code_33), X3.method', Bd.returns, Value.isRef, FieldType.isReference]
    first | (intro acts; rw [hr _ acts rfl rfl rfl]) | rw [hr _ _ rfl rfl rfl]
    exact Steps.refl _
  · exact ⟨rfl, N0, e3⟩
set_option maxRecDepth 65536 in
set_option maxHeartbeats 40000000 in
theorem rm0_6 (l : Launch) (Z : State) (a0 : Array Value) (hw : ∀ d ∈ tables_1, d.before a0 Z = true) (w : Nat → Addr) (κ : Nat → ClassId) (h0 : Heap) (n0 : Nat) (Z0 : n0 ≤ h0.size) (K : Kon Z h0 w κ) (u0 : Int32) (hk0 : ((u0 &&& (2147483647 : Int32)) % (3 : Int32)) = (2 : Int32)) :
    OM l Z x code maxLocals ret tables_1 room_1 #[(.int u0)] h0 (OF (some (.int (1 : Int32))) n0) := by
  refine MetFree.of_bodySF (plainFor_of_name pn_com_example_trestleyard_trestleyard_subscription_TruthNotPinLaw) hisR ?_
  intro p e s m args below meth c s₁ Bd hml0 hP hK
  obtain ⟨rfl, hZ, hh⟩ := hP
  have hx := Bd.exec
  have hby := Bd.bytes
  have hml : c.maxLocals = 6 := hml0
  have hown : s.vm.findClass "com/example/trestleyard/trestleyard/subscription/TruthNotPinLaw" = some m.cls := findClass_of_methodNamed Bd.named
  have hnm := (name_of_methodNamed Bd.named Bd.method).1
  have X0 : Stand p l e room_1 s m #[(.int u0)] below meth c s₁ [] 0 0 := Stand.of_body Bd
  have e0 : s₁.heap = h0 := by rw [← hh, Bd.state]; rfl
  have N0 := Fr.nil n0
  have pre0 : ∀ t, Steps p.tables e below (s₁.setTop (mkF m 0 #[.val (.int u0), .unset, .unset, .unset, .unset, .unset] [])) t → Steps p.tables e below (s₁.setTop (entryFrame m #[(.int u0)] maxLocals)) t := fun t k => castTop (by first | rfl | simp [entryFrame, mkF, argsToLocals, Value.category, maxLocals]) k
  obtain ⟨T1, h1, k1, X1, e1, E1, A1, O1, st1⟩ := newR X0 hx hZ hown (hw _ (List.mem_of_getElem? (i := 0) rfl)) (hw _ (List.mem_of_getElem? (i := 1) rfl)) e0 (g := (mkF m 1 #[.val (.int u0), .unset, .unset, .unset, .unset, .unset] [(.int (3 : Int32))])) rfl (hb hby at_1) rfl (by decide) (cap := 3) (by decide) (by decide) (by decide) (by decide)
  obtain ⟨b1, g1⟩ : ∃ z, z = h0.size := ⟨_, rfl⟩
  rw [← g1] at A1 st1
  have hG1 : n0 ≤ b1 := Nat.le_trans Z0 (Nat.le_of_eq g1.symm)
  have hKN1 : ∀ i, i < 3 → w i ≠ b1 := fun i hi => by rw [g1]; exact Nat.ne_of_lt (K.lt i hi)
  have K1 := K.ext E1
  have Z1 : n0 ≤ h1.size := Nat.le_trans Z0 E1.1
  have V1 : Arv Z h1 b1 k1 (.object "com/example/trestleyard/trestleyard/subscription/Truth") (3 : Int32) [.null, .null, .null] .null := (Arv.new A1 (by decide)).pad (pad_rep [] .null 3)
  obtain ⟨T2, X2, e2, st2⟩ := getS2 X1 hx hZ hown (host := "") (Or.inl (hw _ (List.mem_of_getElem? (i := 2) rfl))) Via.refl e1 K1.1 (g := (mkF m 6 #[.val (.int u0), .unset, .unset, .unset, .unset, .unset] [(.int (0 : Int32)), (.ref b1), (.ref b1)])) rfl (hb hby at_6)
  obtain ⟨cl3, Ar3, qa3, Sz3, Nn3, Ha3, Ga3⟩ := id V1
  have hin3 : ¬ ((0 : Int32) < 0 ∨ cl3.slots.size ≤ ((0 : Int32)).toNatClampNeg) := inb_of Sz3 ⟨by decide, by decide⟩
  obtain ⟨T3, h3, X3, e3, W3, st3⟩ := stR X2 hx hZ e2 Ar3 (j := (0 : Int32)) hin3 rfl (Sto.ofV Ar3 qa3 O1 (Ins.self K1.2.2.2.1)) (g := (mkF m 9 #[.val (.int u0), .unset, .unset, .unset, .unset, .unset] [(.ref (w 0)), (.int (0 : Int32)), (.ref b1), (.ref b1)])) rfl rfl (hb hby at_9)
  have f3_fA_b1 : Arv Z h3 b1 k1 (.object "com/example/trestleyard/trestleyard/subscription/Truth") (3 : Int32) [(.ref (w 0)), .null, .null] .null := Arv.set Ar3 qa3 Sz3 Nn3 Ha3 Ga3 rfl W3 0 rfl (Nat.le_of_ble_eq_true rfl)
  have K3 := K1.wr W3 hKN1
  have Z3 : n0 ≤ h3.size := Nat.le_trans Z1 (Nat.le_of_eq W3.size.symm)
  have N3 := Fr.snoc X3 N0 hG1
  obtain ⟨T4, X4, e4, st4⟩ := getS2 X3 hx hZ hown (host := "") (Or.inl (hw _ (List.mem_of_getElem? (i := 6) rfl))) Via.refl e3 K3.2.1 (g := (mkF m 12 #[.val (.int u0), .unset, .unset, .unset, .unset, .unset] [(.int (1 : Int32)), (.ref b1), (.ref b1)])) rfl (hb hby at_12)
  obtain ⟨cl5, Ar5, qa5, Sz5, Nn5, Ha5, Ga5⟩ := id f3_fA_b1
  have hin5 : ¬ ((1 : Int32) < 0 ∨ cl5.slots.size ≤ ((1 : Int32)).toNatClampNeg) := inb_of Sz5 ⟨by decide, by decide⟩
  obtain ⟨T5, h5, X5, e5, W5, st5⟩ := stR X4 hx hZ e4 Ar5 (j := (1 : Int32)) hin5 rfl (Sto.ofV Ar5 qa5 O1 (Ins.self K3.2.2.2.2.1)) (g := (mkF m 15 #[.val (.int u0), .unset, .unset, .unset, .unset, .unset] [(.ref (w 1)), (.int (1 : Int32)), (.ref b1), (.ref b1)])) rfl rfl (hb hby at_15)
  have f5_fA_b1 : Arv Z h5 b1 k1 (.object "com/example/trestleyard/trestleyard/subscription/Truth") (3 : Int32) [(.ref (w 0)), (.ref (w 1)), .null] .null := Arv.set Ar5 qa5 Sz5 Nn5 Ha5 Ga5 rfl W5 1 rfl (Nat.le_of_ble_eq_true rfl)
  have K5 := K3.wr W5 hKN1
  have Z5 : n0 ≤ h5.size := Nat.le_trans Z3 (Nat.le_of_eq W5.size.symm)
  have N5 := Fr.snoc X5 N3 hG1
  obtain ⟨T6, X6, e6, st6⟩ := getS2 X5 hx hZ hown (host := "") (Or.inl (hw _ (List.mem_of_getElem? (i := 8) rfl))) Via.refl e5 K5.2.2.1 (g := (mkF m 18 #[.val (.int u0), .unset, .unset, .unset, .unset, .unset] [(.int (2 : Int32)), (.ref b1), (.ref b1)])) rfl (hb hby at_18)
  obtain ⟨cl7, Ar7, qa7, Sz7, Nn7, Ha7, Ga7⟩ := id f5_fA_b1
  have hin7 : ¬ ((2 : Int32) < 0 ∨ cl7.slots.size ≤ ((2 : Int32)).toNatClampNeg) := inb_of Sz7 ⟨by decide, by decide⟩
  obtain ⟨T7, h7, X7, e7, W7, st7⟩ := stR X6 hx hZ e6 Ar7 (j := (2 : Int32)) hin7 rfl (Sto.ofV Ar7 qa7 O1 (Ins.self K5.2.2.2.2.2.1)) (g := (mkF m 21 #[.val (.int u0), .unset, .unset, .unset, .unset, .unset] [(.ref (w 2)), (.int (2 : Int32)), (.ref b1), (.ref b1)])) rfl rfl (hb hby at_21)
  have f7_fA_b1 : Arv Z h7 b1 k1 (.object "com/example/trestleyard/trestleyard/subscription/Truth") (3 : Int32) [(.ref (w 0)), (.ref (w 1)), (.ref (w 2))] .null := Arv.set Ar7 qa7 Sz7 Nn7 Ha7 Ga7 rfl W7 2 rfl (Nat.le_of_ble_eq_true rfl)
  have K7 := K5.wr W7 hKN1
  have Z7 : n0 ≤ h7.size := Nat.le_trans Z5 (Nat.le_of_eq W7.size.symm)
  have N7 := Fr.snoc X7 N5 hG1
  obtain ⟨cl8, Ar8, qa8, Sz8, Nn8, Ha8, Ga8⟩ := id f7_fA_b1
  have hin8 : ¬ ((2 : Int32) < 0 ∨ cl8.slots.size ≤ ((2 : Int32)).toNatClampNeg) := inb_of Sz8 ⟨by decide, by decide⟩
  have hat8 : cl8.slots[((2 : Int32)).toNatClampNeg]? = some (.ref (w 2)) := Has.at Ha8 hin8 rfl
  obtain ⟨cq9, kq9, qa9, qb9, qc9⟩ := isOf hZ e7 K7.2.2.2.2.2.1
  obtain ⟨_, _, ⟨T9, L9, kk9, n9⟩, -, X9, ⟨Lc9, hQ9, l9, y9, z9⟩, st9⟩ := X7.virtualBack hx (y := (⟨"com/example/trestleyard/trestleyard/subscription/Truth", "not", "()Lcom/example/trestleyard/trestleyard/subscription/Truth;"⟩ : MethodName)) (z := (⟨"com/example/trestleyard/trestleyard/subscription/Truth", "not", "()Lcom/example/trestleyard/trestleyard/subscription/Truth;"⟩ : MethodName)) hown (mvT hZ (hw _ (List.mem_of_getElem? (i := 11) rfl))) (mvT hZ (hw _ (List.mem_of_getElem? (i := 12) rfl))) (notFace_of_selects (args := #[]) (mvT hZ (hw _ (List.mem_of_getElem? (i := 14) rfl)))) (mvT hZ (hw _ (List.mem_of_getElem? (i := 14) rfl))) (mvT hZ (hw _ (List.mem_of_getElem? (i := 13) rfl))) (by decide) (backOf (W := 0) (rm_not_5 l Z a0 hw w κ h7 n0 Z7 K7 u0 b1 k1) hZ (hw _ (List.mem_of_getElem? (i := 15) rfl)) (hw _ (List.mem_of_getElem? (i := 3) rfl)) (by decide) (by decide)) qa9 qc9 (g := (mkF m 35 #[.val (.int u0), .val (.ref b1), .val (.int (2 : Int32)), .val (.ref (w 2)), .unset, .unset] [(.ref (w 2))])) rfl (by rw [hml]; rfl) (Steps.refl _) (argsL := []) (rest := []) (lenOf pd_2829Lcom2fexample2ftrestleyard2ftrestleyard2fsubscription2fTruth3b rfl) rfl (by show 2 * 0 + _ ≤ _; exact Nat.le_of_eq rfl) (hb hby at_35) (fun _ _ => ⟨rfl, e7, (by decide : 1 + 0 ≤ _), (by decide : 3 + 0 ≤ _)⟩)
  dsimp only [Pt.U, Pt.locs, Pt.cells, Pt.slots] at X9 l9 y9 z9 st9 hQ9
  subst l9 y9 z9
  obtain ⟨rfl, N9q, e9⟩ := hQ9
  have N9 := Fr.app N7 N9q
  obtain ⟨cl10, Ar10, qa10, Sz10, Nn10, Ha10, Ga10⟩ := id f7_fA_b1
  have hin10 : ¬ ((2 : Int32) < 0 ∨ cl10.slots.size ≤ ((2 : Int32)).toNatClampNeg) := inb_of Sz10 ⟨by decide, by decide⟩
  have hat10 : cl10.slots[((2 : Int32)).toNatClampNeg]? = some (.ref (w 2)) := Has.at Ha10 hin10 rfl
  obtain ⟨fs, hr, hrun, hended, hW, hsame⟩ := X9.leave (v := (some (.int (1 : Int32)))) (fun h => by rw [Bd.returns] at h; cases h)
  refine ⟨_, _, pre0 _ ?_, hrun, hended, _, _, rfl, ?_, ⟨_, rfl⟩, hW, hsame.mono (by decide) (by decide)⟩
  · show Steps p.tables e below (s₁.setTop (mkF m 0 #[.val (.int u0), .unset, .unset, .unset, .unset, .unset] [])) _
    refine XS.iconst X0.here hx rfl (hb hby at_0) ?_
    show Steps p.tables e below (s₁.setTop (mkF m 1 #[.val (.int u0), .unset, .unset, .unset, .unset, .unset] [(.int (3 : Int32))])) _
    refine st1 _ ?_
    show Steps p.tables e below (T1.setTop (mkF m 4 #[.val (.int u0), .unset, .unset, .unset, .unset, .unset] [(.ref b1)])) _
    refine XS.dup X1.here hx rfl (hb hby at_4) rfl rfl ?_
    show Steps p.tables e below (T1.setTop (mkF m 5 #[.val (.int u0), .unset, .unset, .unset, .unset, .unset] [(.ref b1), (.ref b1)])) _
    refine XS.iconst X1.here hx rfl (hb hby at_5) ?_
    show Steps p.tables e below (T1.setTop (mkF m 6 #[.val (.int u0), .unset, .unset, .unset, .unset, .unset] [(.int (0 : Int32)), (.ref b1), (.ref b1)])) _
    refine st2 _ ?_
    show Steps p.tables e below (T2.setTop (mkF m 9 #[.val (.int u0), .unset, .unset, .unset, .unset, .unset] [(.ref (w 0)), (.int (0 : Int32)), (.ref b1), (.ref b1)])) _
    refine st3 _ ?_
    show Steps p.tables e below (T3.setTop (mkF m 10 #[.val (.int u0), .unset, .unset, .unset, .unset, .unset] [(.ref b1)])) _
    refine XS.dup X3.here hx rfl (hb hby at_10) rfl rfl ?_
    show Steps p.tables e below (T3.setTop (mkF m 11 #[.val (.int u0), .unset, .unset, .unset, .unset, .unset] [(.ref b1), (.ref b1)])) _
    refine XS.iconst X3.here hx rfl (hb hby at_11) ?_
    show Steps p.tables e below (T3.setTop (mkF m 12 #[.val (.int u0), .unset, .unset, .unset, .unset, .unset] [(.int (1 : Int32)), (.ref b1), (.ref b1)])) _
    refine st4 _ ?_
    show Steps p.tables e below (T4.setTop (mkF m 15 #[.val (.int u0), .unset, .unset, .unset, .unset, .unset] [(.ref (w 1)), (.int (1 : Int32)), (.ref b1), (.ref b1)])) _
    refine st5 _ ?_
    show Steps p.tables e below (T5.setTop (mkF m 16 #[.val (.int u0), .unset, .unset, .unset, .unset, .unset] [(.ref b1)])) _
    refine XS.dup X5.here hx rfl (hb hby at_16) rfl rfl ?_
    show Steps p.tables e below (T5.setTop (mkF m 17 #[.val (.int u0), .unset, .unset, .unset, .unset, .unset] [(.ref b1), (.ref b1)])) _
    refine XS.iconst X5.here hx rfl (hb hby at_17) ?_
    show Steps p.tables e below (T5.setTop (mkF m 18 #[.val (.int u0), .unset, .unset, .unset, .unset, .unset] [(.int (2 : Int32)), (.ref b1), (.ref b1)])) _
    refine st6 _ ?_
    show Steps p.tables e below (T6.setTop (mkF m 21 #[.val (.int u0), .unset, .unset, .unset, .unset, .unset] [(.ref (w 2)), (.int (2 : Int32)), (.ref b1), (.ref b1)])) _
    refine st7 _ ?_
    show Steps p.tables e below (T7.setTop (mkF m 22 #[.val (.int u0), .unset, .unset, .unset, .unset, .unset] [(.ref b1)])) _
    refine XS.astoreN X7.here hx rfl (hb hby at_22) rfl rfl (l' := #[.val (.int u0), .val (.ref b1), .unset, .unset, .unset, .unset]) rfl ?_
    show Steps p.tables e below (T7.setTop (mkF m 23 #[.val (.int u0), .val (.ref b1), .unset, .unset, .unset, .unset] [])) _
    refine XS.iloadN X7.here hx rfl (hb hby at_23) rfl ?_
    show Steps p.tables e below (T7.setTop (mkF m 24 #[.val (.int u0), .val (.ref b1), .unset, .unset, .unset, .unset] [(.int u0)])) _
    refine X7.ldcInt hx hown (mvT hZ (hw _ (List.mem_of_getElem? (i := 10) rfl))) (g := (mkF m 24 #[.val (.int u0), .val (.ref b1), .unset, .unset, .unset, .unset] [(.int u0)])) rfl (hb hby at_24) _ ?_
    show Steps p.tables e below (T7.setTop (mkF m 26 #[.val (.int u0), .val (.ref b1), .unset, .unset, .unset, .unset] [(.int (2147483647 : Int32)), (.int u0)])) _
    refine XS.iand X7.here hx rfl (hb hby at_26) rfl ?_
    show Steps p.tables e below (T7.setTop (mkF m 27 #[.val (.int u0), .val (.ref b1), .unset, .unset, .unset, .unset] [(.int (u0 &&& (2147483647 : Int32)))])) _
    refine XS.iconst X7.here hx rfl (hb hby at_27) ?_
    show Steps p.tables e below (T7.setTop (mkF m 28 #[.val (.int u0), .val (.ref b1), .unset, .unset, .unset, .unset] [(.int (3 : Int32)), (.int (u0 &&& (2147483647 : Int32)))])) _
    refine iremM X7 hx rfl (hb hby at_28) rfl (by decide : ¬ ((3 : Int32) = (0 : Int32))) ?_
    show Steps p.tables e below (T7.setTop (mkF m 29 #[.val (.int u0), .val (.ref b1), .unset, .unset, .unset, .unset] [(.int ((u0 &&& (2147483647 : Int32)) % (3 : Int32)))])) _
    rw [hk0]
    show Steps p.tables e below (T7.setTop (mkF m 29 #[.val (.int u0), .val (.ref b1), .unset, .unset, .unset, .unset] [(.int (2 : Int32))])) _
    refine XS.istoreN X7.here hx rfl (hb hby at_29) rfl (l' := #[.val (.int u0), .val (.ref b1), .val (.int (2 : Int32)), .unset, .unset, .unset]) rfl ?_
    show Steps p.tables e below (T7.setTop (mkF m 30 #[.val (.int u0), .val (.ref b1), .val (.int (2 : Int32)), .unset, .unset, .unset] [])) _
    refine XS.aloadN X7.here hx rfl (hb hby at_30) rfl rfl ?_
    show Steps p.tables e below (T7.setTop (mkF m 31 #[.val (.int u0), .val (.ref b1), .val (.int (2 : Int32)), .unset, .unset, .unset] [(.ref b1)])) _
    refine XS.iloadN X7.here hx rfl (hb hby at_31) rfl ?_
    show Steps p.tables e below (T7.setTop (mkF m 32 #[.val (.int u0), .val (.ref b1), .val (.int (2 : Int32)), .unset, .unset, .unset] [(.int (2 : Int32)), (.ref b1)])) _
    refine X7.aaload hx (j := (2 : Int32)) (v := (.ref (w 2))) (by rw [e7]; exact Ar8.1) (State.isArrayOf_alike hZ.alike Ar8.2.1) rfl Ar8.2.2 hin8 hat8 (g := (mkF m 32 #[.val (.int u0), .val (.ref b1), .val (.int (2 : Int32)), .unset, .unset, .unset] [(.int (2 : Int32)), (.ref b1)])) rfl rfl (hb hby at_32) _ ?_
    show Steps p.tables e below (T7.setTop (mkF m 33 #[.val (.int u0), .val (.ref b1), .val (.int (2 : Int32)), .unset, .unset, .unset] [(.ref (w 2))])) _
    refine XS.astoreN X7.here hx rfl (hb hby at_33) rfl rfl (l' := #[.val (.int u0), .val (.ref b1), .val (.int (2 : Int32)), .val (.ref (w 2)), .unset, .unset]) rfl ?_
    show Steps p.tables e below (T7.setTop (mkF m 34 #[.val (.int u0), .val (.ref b1), .val (.int (2 : Int32)), .val (.ref (w 2)), .unset, .unset] [])) _
    refine XS.aloadN X7.here hx rfl (hb hby at_34) rfl rfl ?_
    show Steps p.tables e below (T7.setTop (mkF m 35 #[.val (.int u0), .val (.ref b1), .val (.int (2 : Int32)), .val (.ref (w 2)), .unset, .unset] [(.ref (w 2))])) _
    refine st9.trans ?_
    show Steps p.tables e below (T9.setTop (mkF m 38 #[.val (.int u0), .val (.ref b1), .val (.int (2 : Int32)), .val (.ref (w 2)), .unset, .unset] [(.ref (w 2))])) _
    refine XS.astore X9.here hx rfl (hb hby at_38) rfl rfl (l' := #[.val (.int u0), .val (.ref b1), .val (.int (2 : Int32)), .val (.ref (w 2)), .val (.ref (w 2)), .unset]) rfl ?_
    show Steps p.tables e below (T9.setTop (mkF m 40 #[.val (.int u0), .val (.ref b1), .val (.int (2 : Int32)), .val (.ref (w 2)), .val (.ref (w 2)), .unset] [])) _
    refine XS.iloadN X9.here hx rfl (hb hby at_40) rfl ?_
    show Steps p.tables e below (T9.setTop (mkF m 41 #[.val (.int u0), .val (.ref b1), .val (.int (2 : Int32)), .val (.ref (w 2)), .val (.ref (w 2)), .unset] [(.int (2 : Int32))])) _
    refine XS.iconst X9.here hx rfl (hb hby at_41) ?_
    show Steps p.tables e below (T9.setTop (mkF m 42 #[.val (.int u0), .val (.ref b1), .val (.int (2 : Int32)), .val (.ref (w 2)), .val (.ref (w 2)), .unset] [(.int (2 : Int32)), (.int (2 : Int32))])) _
    refine XS.icmpNo X9.here hx rfl (hb hby at_42) rfl (teq (by decide : (2 : Int32) = (2 : Int32))).2 ?_
    show Steps p.tables e below (T9.setTop (mkF m 45 #[.val (.int u0), .val (.ref b1), .val (.int (2 : Int32)), .val (.ref (w 2)), .val (.ref (w 2)), .unset] [])) _
    refine XS.iconst X9.here hx rfl (hb hby at_45) ?_
    show Steps p.tables e below (T9.setTop (mkF m 46 #[.val (.int u0), .val (.ref b1), .val (.int (2 : Int32)), .val (.ref (w 2)), .val (.ref (w 2)), .unset] [(.int (2 : Int32))])) _
    refine XS.istore X9.here hx rfl (hb hby at_46) rfl (l' := #[.val (.int u0), .val (.ref b1), .val (.int (2 : Int32)), .val (.ref (w 2)), .val (.ref (w 2)), .val (.int (2 : Int32))]) rfl ?_
    show Steps p.tables e below (T9.setTop (mkF m 48 #[.val (.int u0), .val (.ref b1), .val (.int (2 : Int32)), .val (.ref (w 2)), .val (.ref (w 2)), .val (.int (2 : Int32))] [])) _
    refine XS.goto X9.here hx rfl (pc0 := 48) (pc' := 56) rfl (hb hby at_48) (by decide) (by decide) ?_
    show Steps p.tables e below (T9.setTop (mkF m 56 #[.val (.int u0), .val (.ref b1), .val (.int (2 : Int32)), .val (.ref (w 2)), .val (.ref (w 2)), .val (.int (2 : Int32))] [])) _
    refine XS.aload X9.here hx rfl (hb hby at_56) rfl rfl ?_
    show Steps p.tables e below (T9.setTop (mkF m 58 #[.val (.int u0), .val (.ref b1), .val (.int (2 : Int32)), .val (.ref (w 2)), .val (.ref (w 2)), .val (.int (2 : Int32))] [(.ref (w 2))])) _
    refine XS.aloadN X9.here hx rfl (hb hby at_58) rfl rfl ?_
    show Steps p.tables e below (T9.setTop (mkF m 59 #[.val (.int u0), .val (.ref b1), .val (.int (2 : Int32)), .val (.ref (w 2)), .val (.ref (w 2)), .val (.int (2 : Int32))] [(.ref b1), (.ref (w 2))])) _
    refine XS.iload X9.here hx rfl (hb hby at_59) rfl ?_
    show Steps p.tables e below (T9.setTop (mkF m 61 #[.val (.int u0), .val (.ref b1), .val (.int (2 : Int32)), .val (.ref (w 2)), .val (.ref (w 2)), .val (.int (2 : Int32))] [(.int (2 : Int32)), (.ref b1), (.ref (w 2))])) _
    refine X9.aaload hx (j := (2 : Int32)) (v := (.ref (w 2))) (by rw [e9]; exact Ar10.1) (State.isArrayOf_alike hZ.alike Ar10.2.1) rfl Ar10.2.2 hin10 hat10 (g := (mkF m 61 #[.val (.int u0), .val (.ref b1), .val (.int (2 : Int32)), .val (.ref (w 2)), .val (.ref (w 2)), .val (.int (2 : Int32))] [(.int (2 : Int32)), (.ref b1), (.ref (w 2))])) rfl rfl (hb hby at_61) _ ?_
    show Steps p.tables e below (T9.setTop (mkF m 62 #[.val (.int u0), .val (.ref b1), .val (.int (2 : Int32)), .val (.ref (w 2)), .val (.ref (w 2)), .val (.int (2 : Int32))] [(.ref (w 2)), (.ref (w 2))])) _
    refine Jvm.RoadKit.acmp (g := (mkF m 62 #[.val (.int u0), .val (.ref b1), .val (.int (2 : Int32)), .val (.ref (w 2)), .val (.ref (w 2)), .val (.int (2 : Int32))] [(.ref (w 2)), (.ref (w 2))])) X9 hx rfl rfl rfl (pc0 := 62) (pc' := 65) (same := true) rfl (hb hby at_62) rfl (decide_eq_true rfl) (by decide) (by decide) ?_
    show Steps p.tables e below (T9.setTop (mkF m 65 #[.val (.int u0), .val (.ref b1), .val (.int (2 : Int32)), .val (.ref (w 2)), .val (.ref (w 2)), .val (.int (2 : Int32))] [])) _
    refine XS.iconst X9.here hx rfl (hb hby at_65) ?_
    show Steps p.tables e below (T9.setTop (mkF m 66 #[.val (.int u0), .val (.ref b1), .val (.int (2 : Int32)), .val (.ref (w 2)), .val (.ref (w 2)), .val (.int (2 : Int32))] [(.int (1 : Int32))])) _
    refine XS.goto X9.here hx rfl (pc0 := 66) (pc' := 70) rfl (hb hby at_66) (by decide) (by decide) ?_
    show Steps p.tables e below (T9.setTop (mkF m 70 #[.val (.int u0), .val (.ref b1), .val (.int (2 : Int32)), .val (.ref (w 2)), .val (.ref (w 2)), .val (.int (2 : Int32))] [(.int (1 : Int32))])) _
    exact retN X9 hx (t := .boolean) Bd.returns (by simp) (hb hby at_70) hr
  · exact ⟨rfl, N9⟩
theorem rm0 (l : Launch) (Z : State) (a0 : Array Value) (hw : ∀ d ∈ tables_1, d.before a0 Z = true) (w : Nat → Addr) (κ : Nat → ClassId) (h0 : Heap) (n0 : Nat) (Z0 : n0 ≤ h0.size) (K : Kon Z h0 w κ) (u0 : Int32) :
    OM l Z x code maxLocals ret tables_1 room_1 #[(.int u0)] h0 (OF (some (.int (1 : Int32))) n0) := by
  rcases own_mod_3 u0 with hk0 | hk0 | hk0
  · exact rm0_2 l Z a0 hw w κ h0 n0 Z0 K u0 hk0
  · exact rm0_4 l Z a0 hw w κ h0 n0 Z0 K u0 hk0
  · exact rm0_6 l Z a0 hw w κ h0 n0 Z0 K u0 hk0
set_option maxRecDepth 65536 in
set_option maxHeartbeats 40000000 in
theorem comes_1 {Post : Tables → Env → Array Value → State → Outcome → State → Prop} (hpost : ∀ tb e args s v u, (limb_1_1.after args s (.returned v) u = true ∧ limb_1_2.after args s (.returned v) u = true ∧ True) → FrameEnd s (.returned v) u (Jvm.fieldLocs frame_1_writes args s ++ Jvm.arrayLocs frame_1_arrays args s ++ Jvm.staticLocs frame_1_statics s) 16 128 → Post tb e args s (.returned v) u) :
    ArmFor flags0 classFile x code maxLocals ret World_1 tables_1 room_1 Calls_1 rest_1 Pre_1 Post := by
  intro l hfl _ _ p e ha hc hk s m args below hf hA hF happ hP
  obtain ⟨hcalls, hrest, hpre⟩ := hP
  obtain ⟨-, -, -, hnamed, -, -, -, hat⟩ := (Spec.applies_iff hf).mp happ
  obtain ⟨hg, hn⟩ := and_e (Cond.before_iff.mp (show (Jvm.Cond.and given_1 narrow_1).before args s = true from hpre))
  obtain ⟨g1a, g1b⟩ := and_e hg
  obtain ⟨g2a, g2b⟩ := and_e hn
  obtain ⟨g3a, g3b⟩ := and_e g2b
  obtain ⟨g4a, g4b⟩ := and_e g3b
  obtain ⟨g5a, g5b⟩ := and_e g4b
  obtain ⟨g6a, g6b⟩ := and_e g5b
  obtain ⟨v0, rfl⟩ : ∃ v0 : Value, args = #[v0] := by
    have hs : args.size = 1 := by simpa [Cond.value, given_1] using g1a
    obtain ⟨L⟩ := args
    match L, hs with
    | [v0], _ => exact ⟨v0, rfl⟩
  have hw := fun d (hd : d ∈ tables_1) => atoms_spec (ws := Jvm.Cond.code x code maxLocals ret :: tables_1) hat d (List.mem_cons_of_mem _ hd)
  have hfit : Fit s := fun {y c} hc i hi => by
    obtain ⟨ha, rfl⟩ := Array.getElem?_eq_some_iff.mp hc
    have q := List.all_eq_true.mp ((Array.all_eq_true_iff_forall_mem.mp hF) _ (Array.getElem_mem ha)) i (List.mem_range.mpr hi)
    simpa [Array.getElem?_eq_getElem hi] using q
  obtain ⟨i0, ei0⟩ := is_v g1b
  obtain rfl : v0 = (.int i0) := Option.some.inj ei0
  obtain ⟨b0, ev0⟩ := exa_v g2a
  obtain ⟨b1, ev1⟩ := exa_v g3a
  obtain ⟨b2, ev2⟩ := exa_v g4a
  have K : Kon s s.heap (fun i => ([b0, b1, b2] : List Addr).getD i 0) (fun i => ([0, 0, 0] : List ClassId).getD i 0) := ⟨Sta.start ev0 (Or.inr ⟨(hw _ (List.mem_of_getElem? (i := 3) rfl)), (hw _ (List.mem_of_getElem? (i := 4) rfl))⟩), Sta.start ev1 (Or.inr ⟨(hw _ (List.mem_of_getElem? (i := 3) rfl)), (hw _ (List.mem_of_getElem? (i := 7) rfl))⟩), Sta.start ev2 (Or.inr ⟨(hw _ (List.mem_of_getElem? (i := 3) rfl)), (hw _ (List.mem_of_getElem? (i := 9) rfl))⟩), Exa.start ev0 g2a, Exa.start ev1 g3a, Exa.start ev2 g4a, own_fld ev2 g5a, own_fld ev0 g6a, own_fld ev1 g6b⟩
  obtain ⟨n, o, h1, h2, h3, _, L, rfl, ⟨rfl, N⟩, hq⟩ := rm0 l s _ hw _ _ s.heap s.heap.size (Nat.le_refl _) K i0 p e ha hc hk s m _ below hf ((Spec.applies_iff_loose hf).mp happ).1 ⟨rfl, State.Warmed39.refl s, rfl⟩ trivial
  refine ⟨n, _, h1, h2, h3, hpost _ _ _ _ _ _ ⟨Cond.after_iff.mpr rfl, Cond.after_iff.mpr (eq_i res_at (Term.int_eval (1)) rfl), trivial⟩ ⟨hq.1, hq.2.1, (hq.2.2.sift fun y hy => Or.inr (N y hy)).mono (by decide) (by decide)⟩⟩
theorem main_1_1 : Claimed_1_1 := comes_1 fun _ _ _ _ _ _ h hF => ⟨h.1, hF⟩
theorem main_1_2 : Claimed_1_2 := comes_1 fun _ _ _ _ _ _ h hF => ⟨h.2.1, hF⟩
end Jvm.Pilot.@@N@@
namespace Jvm.Pilot.@@N@@
open Jvm Jvm.ClassFile Sem Op Lib Jvm.Free Jvm.Stand Jvm.Pilot.@@N@@.Jvm.D
/-! MADE BY PROGRAM (witnessworld.py) out of the Statement's table words and the real class files: 13 classes; the members and pool entries that the words name. The judged class is class 1, her method 1. -/
namespace start1
open Jvm.ClassFile
def u (s : String) : CpInfo := .utf8 (stringToUtf16 s)
/-- a pool by its gaps: so many unusable entries, then the entry; so many at the end -/
def gap : Nat → List CpInfo → List CpInfo
  | 0, r => r
  | n + 1, r => .unusable :: gap n r
def poolList (es : List (Nat × CpInfo)) (last : Nat) : List CpInfo := es.foldr (fun e r => gap e.1 (e.2 :: r)) (gap last [])
def pool (es : List (Nat × CpInfo)) (last : Nat) : Array CpInfo := ⟨poolList es last⟩
def fileOf (pool : Array CpInfo) (this : Nat) (attrs : Array Attribute := #[]) (ms : Array MethodInfo := #[]) (fl : Nat := 33) (sup : Nat := 0) (ifs : Array Nat := #[]) (fds : Array FieldInfo := #[]) : ClassFile where
  minorVersion := 0
  majorVersion := 65
  constantPool := pool
  accessFlags := fl
  thisClass := this
  superClass := sup
  interfaces := ifs
  fields := fds
  methods := ms
  attributes := attrs
def plain (name : String) (sup : Option ClassId) : Class where
  name := name
  kind := .ordinary
  loader := none
  accessFlags := 33
  super := sup
  interfaces := #[]
  cf := none
  fields := #[]
  methods := #[]
  instanceTypes := #[]
  staticTypes := #[]
  resolved := #[]
  callSites := []
  init := .initialized
  statics := none
  mirror := none

def pool0 : Array CpInfo := pool [(5, u "<init>"), (0, u "()V"), (1, .class_ 10), (1, u "java/lang/Object")] 113

def k0m0 : Method := { name := "<init>", desc := "()V", sig := { parameters := [], returnType := none }, accessFlags := 1, code := none }
/-- java/lang/Object -/
def k0 : Class := { plain "java/lang/Object" none with
  accessFlags := 33
  interfaces := #[]
  cf := some (fileOf pool0 8 #[] #[{ accessFlags := 1, nameIndex := 5, descriptorIndex := 6, attributes := #[] }] 33 0 #[] #[])
  fields := #[]
  methods := #[k0m0]
  instanceTypes := #[]
  staticTypes := #[]
  resolved := Array.replicate 124 none
  statics := none }

def pool1 : Array CpInfo := pool [(2, .class_ 4), (1, u "java/lang/Object"), (0, u "<init>"), (0, u "()V"), (0, .class_ 8), (0, u "com/example/trestleyard/trestleyard/subscription/Truth"), (0, .fieldref 7 10), (0, .nameAndType 11 12), (0, u "TRUE"), (0, u "Lcom/example/trestleyard/trestleyard/subscription/Truth;"), (0, .fieldref 7 14), (0, .nameAndType 15 12), (0, u "FALSE"), (0, .fieldref 7 17), (0, .nameAndType 18 12), (0, u "BOTTOM"), (0, .integer 2147483647), (0, .methodref 7 21), (0, .nameAndType 22 23), (0, u "not"), (0, u "()Lcom/example/trestleyard/trestleyard/subscription/Truth;"), (0, .class_ 25), (0, u "com/example/trestleyard/trestleyard/subscription/TruthNotPinLaw"), (2, u "law"), (0, u "(I)Z")] 5

def k1m0 : Method := { name := "<init>", desc := "()V", sig := { parameters := [], returnType := none }, accessFlags := 1, code := none }
def k1c1 : Code := { maxStack := 4, maxLocals := 6, code := code, exceptionTable := #[], attributes := #[] }
def k1m1 : Method := { name := "law", desc := "(I)Z", sig := { parameters := [.int], returnType := some .boolean }, accessFlags := 9, code := some k1c1 }
/-- com/example/trestleyard/trestleyard/subscription/TruthNotPinLaw -/
def k1 : Class := { plain "com/example/trestleyard/trestleyard/subscription/TruthNotPinLaw" (some 0) with
  accessFlags := 49
  interfaces := #[]
  cf := some (fileOf pool1 24 #[] #[{ accessFlags := 1, nameIndex := 5, descriptorIndex := 6, attributes := #[] }, { accessFlags := 9, nameIndex := 28, descriptorIndex := 29, attributes := #[] }] 49 2 #[] #[])
  fields := #[]
  methods := #[k1m0, k1m1]
  instanceTypes := #[]
  staticTypes := #[]
  resolved := Array.replicate 35 none
  statics := none }

def pool2 : Array CpInfo := pool [(1, .class_ 2), (0, u "java/lang/constant/Constable"), (0, .class_ 4), (0, u "java/lang/Object")] 6

/-- java/lang/constant/Constable -/
def k2 : Class := { plain "java/lang/constant/Constable" (some 0) with
  accessFlags := 1537
  interfaces := #[]
  cf := some (fileOf pool2 1 #[] #[] 1537 3 #[] #[])
  fields := #[]
  methods := #[]
  instanceTypes := #[]
  staticTypes := #[]
  resolved := Array.replicate 11 none
  statics := none }

def pool3 : Array CpInfo := pool [(1, .class_ 2), (0, u "java/lang/Comparable"), (0, .class_ 4), (0, u "java/lang/Object")] 7

/-- java/lang/Comparable -/
def k3 : Class := { plain "java/lang/Comparable" (some 0) with
  accessFlags := 1537
  interfaces := #[]
  cf := some (fileOf pool3 1 #[] #[] 1537 3 #[] #[])
  fields := #[]
  methods := #[]
  instanceTypes := #[]
  staticTypes := #[]
  resolved := Array.replicate 12 none
  statics := none }

def pool4 : Array CpInfo := pool [(1, .class_ 2), (0, u "java/io/Serializable"), (0, .class_ 4), (0, u "java/lang/Object")] 2

/-- java/io/Serializable -/
def k4 : Class := { plain "java/io/Serializable" (some 0) with
  accessFlags := 1537
  interfaces := #[]
  cf := some (fileOf pool4 1 #[] #[] 1537 3 #[] #[])
  fields := #[]
  methods := #[]
  instanceTypes := #[]
  staticTypes := #[]
  resolved := Array.replicate 7 none
  statics := none }

def pool5 : Array CpInfo := pool [(2, .class_ 4), (1, u "java/lang/Enum"), (0, u "name"), (0, u "Ljava/lang/String;"), (2, u "ordinal"), (0, u "I"), (1, .class_ 14), (1, u "java/lang/Object"), (4, u "hash"), (86, .class_ 108), (1, u "java/lang/Enum$EnumDesc"), (2, .class_ 112), (0, u "java/lang/constant/Constable"), (0, .class_ 114), (0, u "java/lang/Comparable"), (0, .class_ 116), (0, u "java/io/Serializable")] 87

/-- java/lang/Enum -/
def k5 : Class := { plain "java/lang/Enum" (some 0) with
  accessFlags := 1057
  interfaces := #[2, 3, 4]
  cf := some (fileOf pool5 2 #[.nestMembers #[106]] #[] 1057 12 #[111, 113, 115] #[{ accessFlags := 18, nameIndex := 5, descriptorIndex := 6, attributes := #[] }, { accessFlags := 18, nameIndex := 9, descriptorIndex := 10, attributes := #[] }, { accessFlags := 2, nameIndex := 19, descriptorIndex := 10, attributes := #[] }])
  fields := #[{ name := "name", type := (.object "java/lang/String"), accessFlags := 18, slot := 0, constantValue := 0 }, { name := "ordinal", type := .int, accessFlags := 18, slot := 1, constantValue := 0 }, { name := "hash", type := .int, accessFlags := 2, slot := 2, constantValue := 0 }]
  methods := #[]
  instanceTypes := #[(.object "java/lang/String"), .int, .int]
  staticTypes := #[]
  resolved := Array.replicate 204 none
  statics := none }

def pool6 : Array CpInfo := pool [(1, .class_ 2), (0, u "com/example/trestleyard/trestleyard/subscription/Truth"), (0, .fieldref 1 4), (0, .nameAndType 5 6), (0, u "TRUE"), (0, u "Lcom/example/trestleyard/trestleyard/subscription/Truth;"), (0, .fieldref 1 8), (0, .nameAndType 9 6), (0, u "FALSE"), (0, .fieldref 1 11), (0, .nameAndType 12 6), (0, u "BOTTOM"), (2, u "$VALUES"), (0, u "[Lcom/example/trestleyard/trestleyard/subscription/Truth;"), (6, .class_ 25), (1, u "java/lang/Enum"), (26, u "not"), (0, u "()Lcom/example/trestleyard/trestleyard/subscription/Truth;")] 8

def k6c0 : Code := { maxStack := 2, maxLocals := 2, code := prog_137_method_5_code, exceptionTable := #[], attributes := #[] }
def k6m0 : Method := { name := "not", desc := "()Lcom/example/trestleyard/trestleyard/subscription/Truth;", sig := { parameters := [], returnType := some (.object "com/example/trestleyard/trestleyard/subscription/Truth") }, accessFlags := 1, code := some k6c0 }
/-- com/example/trestleyard/trestleyard/subscription/Truth -/
def k6 : Class := { plain "com/example/trestleyard/trestleyard/subscription/Truth" (some 5) with
  accessFlags := 16433
  interfaces := #[]
  cf := some (fileOf pool6 1 #[] #[{ accessFlags := 1, nameIndex := 52, descriptorIndex := 53, attributes := #[] }] 16433 23 #[] #[{ accessFlags := 16409, nameIndex := 5, descriptorIndex := 6, attributes := #[] }, { accessFlags := 16409, nameIndex := 9, descriptorIndex := 6, attributes := #[] }, { accessFlags := 16409, nameIndex := 12, descriptorIndex := 6, attributes := #[] }, { accessFlags := 4122, nameIndex := 15, descriptorIndex := 16, attributes := #[] }])
  fields := #[{ name := "TRUE", type := (.object "com/example/trestleyard/trestleyard/subscription/Truth"), accessFlags := 16409, slot := 0, constantValue := 0 }, { name := "FALSE", type := (.object "com/example/trestleyard/trestleyard/subscription/Truth"), accessFlags := 16409, slot := 1, constantValue := 0 }, { name := "BOTTOM", type := (.object "com/example/trestleyard/trestleyard/subscription/Truth"), accessFlags := 16409, slot := 2, constantValue := 0 }, { name := "$VALUES", type := (.array (.object "com/example/trestleyard/trestleyard/subscription/Truth")), accessFlags := 4122, slot := 3, constantValue := 0 }]
  methods := #[k6m0]
  instanceTypes := #[(.object "java/lang/String"), .int, .int]
  staticTypes := #[(.object "com/example/trestleyard/trestleyard/subscription/Truth"), (.object "com/example/trestleyard/trestleyard/subscription/Truth"), (.object "com/example/trestleyard/trestleyard/subscription/Truth"), (.array (.object "com/example/trestleyard/trestleyard/subscription/Truth"))]
  resolved := Array.replicate 62 none
  statics := some 0 }

def pool7 : Array CpInfo := pool [(1, u "java/lang/Cloneable"), (0, .class_ 1), (0, u "java/lang/Object"), (0, .class_ 3)] 3

/-- java/lang/Cloneable -/
def k7 : Class := { plain "java/lang/Cloneable" (some 0) with
  accessFlags := 1537
  interfaces := #[]
  cf := some (fileOf pool7 2 #[] #[] 1537 4 #[] #[])
  fields := #[]
  methods := #[]
  instanceTypes := #[]
  staticTypes := #[]
  resolved := Array.replicate 8 none
  statics := none }

/-- the primitive byte -/
def k8 : Class := { plain "byte" none with kind := .primitive 'B', accessFlags := 0x411 }
/-- [B -/
def k9 : Class := { plain "[B" (some 0) with kind := .array 8 .byte, interfaces := #[7, 4], accessFlags := 1041 }

/-- the primitive int -/
def k10 : Class := { plain "int" none with kind := .primitive 'I', accessFlags := 0x411 }
/-- [I -/
def k11 : Class := { plain "[I" (some 0) with kind := .array 10 .int, interfaces := #[7, 4], accessFlags := 1041 }

/-- [Lcom/example/trestleyard/trestleyard/subscription/Truth; -/
def k12 : Class := { plain "[Lcom/example/trestleyard/trestleyard/subscription/Truth;" (some 0) with kind := .array 6 (.object "com/example/trestleyard/trestleyard/subscription/Truth"), interfaces := #[7, 4], accessFlags := 1041 }

def heap : Heap := #[{ cls := 6, slots := #[.ref 1, .ref 2, .ref 3, .null], vm := .statics 6 },
  { cls := 6, slots := #[.null, .int 0, .int 0], vm := .none },
  { cls := 6, slots := #[.null, .int 1, .int 0], vm := .none },
  { cls := 6, slots := #[.null, .int 2, .int 0], vm := .none }]
def classes : Array Class := #[k0, k1, k2, k3, k4, k5, k6, k7, k8, k9, k10, k11, k12]
def interned : List (Array UInt16 × Addr) := []
def slotsUsed : Nat := 13
def theMethod : MethodId := ⟨1, 1⟩
def args0 : Array Value := #[.int 5]
def aboutOver (below : List Frame) : State where
  vm := { classes := classes, interned := interned.toArray }
  heap := heap
  slotsUsed := slotsUsed
  threads := #[{ frames := .invoking theMethod args0 :: below }]
def below0 : List Frame := [.native { method := ⟨0, 0⟩, args := #[] }]
def about1 : State := aboutOver below0
def p0 : Program := .bare "" "" ""
def e0 : Env := launch0.env 0 0 0
theorem w_frames : about1.frames = Frame.invoking theMethod args0 :: below0 := rfl
set_option maxRecDepth 65536 in
theorem w_args : argsFit about1.vm theMethod args0 = true := by decide +kernel
set_option maxRecDepth 65536 in
theorem w_heap : heapFits about1 = true := by decide +kernel
set_option maxRecDepth 65536 in
theorem w_runnable : about1.curStatus? = some .runnable := by decide +kernel
set_option maxRecDepth 65536 in
theorem w_alone : about1.alone = true := by decide +kernel
set_option maxRecDepth 65536 in
theorem w_named : about1.methodNamed? x = some theMethod := by decide +kernel
set_option maxRecDepth 65536 in
theorem w_hears : about1.hears theMethod below0 = true := by decide +kernel
set_option maxRecDepth 65536 in
theorem w_ripe : about1.ripe theMethod args0 below0 = true := by decide +kernel
theorem w_running : about1.status = .running := rfl
set_option maxRecDepth 65536 in
theorem w_room : about1.hasRoom e0.platform room_1 = true :=
  launch0.hasRoom_least _ room_1 (by decide +kernel) (by decide +kernel) (by decide +kernel) (by decide +kernel) (by decide +kernel) (by decide +kernel)
theorem allAtoms_all (ts : List Jvm.Cond) (a : Array Jvm.Value) (st : Jvm.State) : (allAtoms ts).before a st = ts.all (fun c => c.before a st) := by
  induction ts with
  | nil => rfl
  | cons c t ih =>
    show (Jvm.Cond.and c (allAtoms t)).before a st = _
    rw [Jvm.Cond.before_and, ih, List.all_cons]
def words1 : List Jvm.Cond := Jvm.Cond.code x code maxLocals ret :: tables_1
/-- a 'code' word, met by the world's own term for the bytes: nothing is compared byte by byte -/
theorem code_word {y : MethodName} {bytes : ByteArray} {mx : Nat} {rt : Option FieldType} {a : Array Value} {s : State} {m : MethodId} {meth : Method} {c : Code} (h1 : s.methodNamed? y = some m) (h2 : s.vm.method? m = some meth) (h3 : meth.code = some c) (h4 : c.code = bytes)
    (h5 : (c.maxLocals == mx && c.exceptionTable.isEmpty && decide (c.maxStack ≤ mostOperands) && decide (meth.sig.returnType = rt) && !meth.locks && decide (parseMethodDescriptor y.desc = some meth.sig)) = true) : (Jvm.Cond.code y bytes mx rt).before a s = true := by
  simp only [Bool.and_eq_true, beq_iff_eq, Bool.not_eq_true', decide_eq_true_eq] at h5
  obtain ⟨⟨⟨⟨⟨g1, g2⟩, g3⟩, g4⟩, g5⟩, g6⟩ := h5
  simp [Cond.before, Cond.holds, Cond.value, h1, h2, h3, h4, g1, g2, g3, g4, g5, g6]
def isCode : Jvm.Cond → Bool
  | .code _ _ _ _ => true
  | _ => false
theorem all_split {L : List Jvm.Cond} {P : Jvm.Cond → Bool} (h1 : L.all (fun c => isCode c || P c) = true) (h2 : ∀ c ∈ L.filter isCode, P c = true) : L.all P = true := by
  refine List.all_eq_true.mpr fun c hc => ?_
  have h := List.all_eq_true.mp h1 c hc
  rcases Bool.eq_false_or_eq_true (isCode c) with hi | hi
  · exact h2 c (List.mem_filter.mpr ⟨hc, hi⟩)
  · simpa [hi] using h
set_option maxRecDepth 65536 in
theorem w_c0 : (Jvm.Cond.code x code maxLocals ret).before args0 about1 = true := code_word (m := ⟨1, 1⟩) (meth := k1m1) (c := k1c1) (by decide +kernel) rfl rfl rfl (by decide +kernel)
set_option maxRecDepth 65536 in
theorem w_c1 : (Jvm.Cond.code ({ cls := "com/example/trestleyard/trestleyard/subscription/Truth", name := "not", desc := "()Lcom/example/trestleyard/trestleyard/subscription/Truth;" } : Jvm.MethodName) prog_137_method_5_code (2 : Nat) (Option.some (Jvm.ClassFile.FieldType.object "com/example/trestleyard/trestleyard/subscription/Truth"))).before args0 about1 = true := code_word (m := ⟨6, 0⟩) (meth := k6m0) (c := k6c0) (by decide +kernel) rfl rfl rfl (by decide +kernel)
def codes1 : List Jvm.Cond := [Jvm.Cond.code x code maxLocals ret, Jvm.Cond.code ({ cls := "com/example/trestleyard/trestleyard/subscription/Truth", name := "not", desc := "()Lcom/example/trestleyard/trestleyard/subscription/Truth;" } : Jvm.MethodName) prog_137_method_5_code (2 : Nat) (Option.some (Jvm.ClassFile.FieldType.object "com/example/trestleyard/trestleyard/subscription/Truth"))]
set_option maxRecDepth 65536 in
theorem codes_eq : words1.filter isCode = codes1 := rfl
theorem w_codes : ∀ c ∈ words1.filter isCode, c.before args0 about1 = true := by
  rw [codes_eq]
  intro c hc
  simp only [codes1, List.mem_cons, List.not_mem_nil, or_false] at hc
  rcases hc with rfl | rfl
  · exact w_c0
  · exact w_c1
set_option maxRecDepth 65536 in
theorem w_t1 : words1.all (fun c => isCode c || c.before args0 about1) = true := by decide +kernel
theorem w_tables : (allAtoms (Jvm.Cond.code x code maxLocals ret :: tables_1)).before args0 about1 = true := by
  rw [allAtoms_all]
  show words1.all (fun c => c.before args0 about1) = true
  refine all_split ?_ w_codes
  rw [w_t1]
set_option maxRecDepth 65536 in
theorem w_case : (Jvm.Cond.and given_1 narrow_1).before args0 about1 = true := by decide +kernel
theorem w_applies : (headSpec (Jvm.Cond.code x code maxLocals ret :: tables_1) room_1).applies x e0.platform about1 = true :=
  (Spec.applies_iff w_frames).mpr ⟨w_running, w_runnable, w_alone, w_named, w_hears, w_ripe, w_room, w_tables⟩
theorem atStart : AtStart classFile x code maxLocals ret World_1 tables_1 room_1 Calls_1 rest_1 Pre_1 launch0 p0 e0 about1 theMethod args0 below0 :=
  ⟨lists_1, trivial, launch0.admits_env _ _ _, launch0.least_env, fairChoices_fair.cas, fairChoices_fair.clock, w_frames, w_args, w_heap, w_applies, trivial, trivial, w_case⟩
end start1
theorem witness_1 : WitnessClaimed_1 := ⟨start1.p0, start1.e0, start1.about1, start1.theMethod, start1.args0, start1.below0, start1.atStart⟩
end Jvm.Pilot.@@N@@
