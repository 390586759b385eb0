import JvmDerived
import JvmDerived.Pilot.@@N@@Statement
import JvmDerived.Pilot.@@N@@Code
set_option linter.unusedVariables false
set_option linter.unusedSimpArgs false
namespace Jvm.RoadKit
open Sem ClassFile Op Lib Jvm.Stand Jvm.Free Jvm.LawKit
section New
variable {p : Program} {l : Launch} {e : Env} {R : Room} {s : State} {m : MethodId} {args : Array Value} {below : List Frame} {meth : Method} {c : Code} {T : State} {locs : List Loc} {cells slots : Nat}
theorem retI (X : Stand p l e R s m args below meth c T locs cells slots) (hx : p.tables.exec = Jvm.exec) {pc : Nat} {Ls : Array Slot} {z : Int32} {rest : List Value} (hret : meth.sig.returnType = some .int) (hd : decode c.code pc = .ok (.ireturn, 1)) {fs : List Frame}
    (hl : ∀ (f : JFrame) (acts : List Action), f.method = m → f.locked = none → f.entered = [] → (doReturn e (T.setTop f) acts (some (.int z))).1 = T.setFrames fs) : Steps p.tables e below (T.setTop (mkF m pc Ls (.int z :: rest))) (T.setFrames fs) := by
  have hm' : T.vm.method? m = some meth := X.method'
  have hn : narrow .int (.int z) = .int z := rfl
  show Steps p.tables e below (T.setTop { method := m, pc := pc, locals := Ls, stack := _ :: rest, locked := none }) _
  jvm_step X.here [X.here.top, hx, hd, hm', hret, hn]
  first | (intro acts; rw [hl _ acts rfl rfl rfl]) | rw [hl _ _ rfl rfl rfl]
  exact Steps.refl _
end New
end Jvm.RoadKit
namespace Jvm.Pilot.@@N@@
open Jvm Jvm.ClassFile Sem Op Lib Jvm.Free Jvm.Stand Jvm.LawKit Jvm.RoadKit Bundle Jvm.Pilot.@@N@@.Jvm.D
abbrev OM (l : Launch) (Z : State) (y : MethodName) (cd : ByteArray) (mL : Nat) (rt : Option FieldType) (ws : List Jvm.Cond) (rm : Room) (as' : Array Value) (h0 : Heap) (Q : Option Value → Heap → List Loc → Prop) : Prop :=
  MetFree l y (head1 (Jvm.Cond.code y cd mL rt :: ws) rm) (fun a U => a = as' ∧ Z.Warmed39 U.vm ∧ U.heap = h0) (fun _ _ _ _ _ => True) (fun _ U o U' => ∃ v L, o = .returned v ∧ Q v U'.heap L ∧ FrameEnd U o U' L rm.cells rm.slots)
/-- what a body that writes nothing leaves: its value, the heap as it was -/
def OP (r : Option Value) (n0 : Nat) (h0 : Heap) (v : Option Value) (h : Heap) (L : List Loc) : Prop := v = r ∧ Fr n0 L ∧ h = h0
theorem own_fld {s : State} {args : Array Value} {t : Term} {x : Addr} {C n d : String} {k : Int32} (ht : t.eval args s none [] s = some (.ref x)) (h : (Jvm.Cond.eq (.field t C n d) (.int k)).value args s none s [] = some true) : Fld s s.heap x C n d (.int k) := by
  obtain ⟨u, v, h1, h2, h3, h4⟩ := cmp_v (Or.inl h)
  have e2 : v = .int k := (Option.some.inj h2).symm
  subst e2
  obtain ⟨z, rfl⟩ := h4
  have e3 := gotT (Jvm.Cond.eq_ints h1 h2) h
  subst e3
  exact Fld.start (by rw [← fld_at ht]; exact h1)
/-- what a body leaves that speaks of its result alone -/
def OF (r : Option Value) (n0 : Nat) (v : Option Value) (h : Heap) (L : List Loc) : Prop := v = r ∧ Fr n0 L
abbrev osel (c : Bool) (a b : Int32) : Int32 := if c then a else b
def imax (a b : Int32) : Int32 := if a < b then b else a
theorem own_imax (a b : Int32) : imax (imax 0 a) b = imax 0 (imax a b) := by
  simp only [imax, Int32.lt_iff_toInt_lt]
  repeat' split
  all_goals (first | rfl | (exfalso; omega) | (apply Int32.toInt_inj.mp; omega))
theorem own_sta_keep {Z : State} {h h' : Heap} {C n d : String} {u : Value} {b : Addr} {k : ClassId} {ty : FieldType} {z : Int32} {vs : List Value} {dv : Value} (F : Sta Z h C n d u) (Kp : Keep h h' [b]) (A : Arv Z h b k ty z vs dv) : Sta Z h' C n d u := by
  obtain ⟨cf, i, kc, f, st, cell, h1, h2, h3, h4, h5, h6, h7⟩ := F
  obtain ⟨c, Ar, -⟩ := A
  have ne : st ≠ b := fun e => by
    subst e
    cases h5.symm.trans Ar.1
    rw [Ar.plain] at h6
    cases h6
  exact ⟨cf, i, kc, f, st, cell, h1, h2, h3, h4, Kp.2.1 st cell h5 (ninS ne nin0), h6, h7⟩
theorem own_arv {s : State} {args : Array Value} {t : Term} {x : Addr} {ty : FieldType} {dv : Value} (hf : Fit s) (ht : t.eval args s none [] s = some (.ref x)) (h1 : (Jvm.Cond.arrayOf t ty).value args s none s [] = some true) (h2 : (Jvm.Cond.eq (.length t) (.int 0)).value args s none s [] = some true) : ∃ k : ClassId, Arv s s.heap x k ty (0 : Int32) [] dv := by
  obtain ⟨c, A⟩ := Arr.start ht h1
  obtain ⟨u, v, e1, e2, k1, k2⟩ := cmp_v (Or.inl h2)
  have q2 : v = .int 0 := (Option.some.inj e2).symm
  subst q2
  obtain ⟨z, rfl⟩ := k2
  have q3 := gotT (Jvm.Cond.eq_ints e1 e2) h2
  subst q3
  have ha : s.arrayAt? x = some c := A.fin (Vm.Alike.refl _)
  have hl : c.slots.size < 2 ^ 31 ∧ c.slots.size.toInt32 = 0 := by
    simp only [Term.eval, ht, Option.bind_eq_bind, Option.bind_some, ha] at e1
    split at e1
    · rename_i q; exact ⟨q, by simpa using e1⟩
    · cases e1
  exact ⟨c.cls, Arv.start hf A hl.1 hl.2 (by decide) rfl trivial⟩
def Kon (Z : State) (h : Heap) (w : Nat → Addr) (κ : Nat → ClassId) : Prop :=
  (Sta Z h "com/example/tight_tree/tighttree/Block" "NO_INTS" "[I" (.ref (w 0))) ∧
  (Sta Z h "com/example/tight_tree/tighttree/Block" "NO_BLOCKS" "[Lcom/example/tight_tree/tighttree/Block;" (.ref (w 1))) ∧
  (Arv Z h (w 0) (κ 0) .int (0 : Int32) [] (.int (0 : Int32))) ∧
  (Arv Z h (w 1) (κ 1) (.object "com/example/tight_tree/tighttree/Block") (0 : Int32) [] .null)
theorem Kon.ext {Z : State} {h h' : Heap} {w : Nat → Addr} {κ : Nat → ClassId} (K : Kon Z h w κ) (E : Ext h h') : Kon Z h' w κ := ⟨K.1.ext E, K.2.1.ext E, K.2.2.1.ext E, K.2.2.2.ext E⟩
theorem Kon.wr {Z : State} {h h' : Heap} {w : Nat → Addr} {κ : Nat → ClassId} (K : Kon Z h w κ) {a : Addr} {sl : Nat} {v : Value} (W : Wr h h' a sl v) (q : ∀ i, i < 2 → w i ≠ a) : Kon Z h' w κ := ⟨K.1.wr W, K.2.1.wr W, K.2.2.1.other W (q 0 (by decide)), K.2.2.2.other W (q 1 (by decide))⟩
theorem Kon.keep {Z : State} {h h' : Heap} {w : Nat → Addr} {κ : Nat → ClassId} (K : Kon Z h w κ) {b : Addr} {k : ClassId} {ty : FieldType} {z : Int32} {vs : List Value} {dv : Value} (Kp : Keep h h' [b]) (A : Arv Z h b k ty z vs dv) (q : ∀ i, i < 2 → w i ≠ b) : Kon Z h' w κ := ⟨own_sta_keep K.1 Kp A, own_sta_keep K.2.1 Kp A, K.2.2.1.keep Kp (ninS (q 0 (by decide)) nin0), K.2.2.2.keep Kp (ninS (q 1 (by decide)) nin0)⟩
theorem Kon.lt {Z : State} {h : Heap} {w : Nat → Addr} {κ : Nat → ClassId} (K : Kon Z h w κ) : ∀ i, i < 2 → w i < h.size := fun i hi => by
  have q : i = 0 ∨ i = 1 := by omega
  rcases q with rfl | rfl
  · exact K.2.2.1.lt
  · exact K.2.2.2.lt
theorem d_prog_7_method_1_code_0 : decode prog_7_method_1_code 0 = .ok (.aload_n 0, 1) := by decide +kernel
theorem d_prog_7_method_1_code_1 : decode prog_7_method_1_code 1 = .ok (.invokespecial 1, 3) := by decide +kernel
theorem d_prog_7_method_1_code_4 : decode prog_7_method_1_code 4 = .ok (.aload_n 0, 1) := by decide +kernel
theorem d_prog_7_method_1_code_5 : decode prog_7_method_1_code 5 = .ok (.getstatic 7, 3) := by decide +kernel
theorem d_prog_7_method_1_code_8 : decode prog_7_method_1_code 8 = .ok (.putfield 13, 3) := by decide +kernel
theorem d_prog_7_method_1_code_11 : decode prog_7_method_1_code 11 = .ok (.aload_n 0, 1) := by decide +kernel
theorem d_prog_7_method_1_code_12 : decode prog_7_method_1_code 12 = .ok (.getstatic 16, 3) := by decide +kernel
theorem d_prog_7_method_1_code_15 : decode prog_7_method_1_code 15 = .ok (.putfield 20, 3) := by decide +kernel
theorem d_prog_7_method_1_code_18 : decode prog_7_method_1_code 18 = .ok (.aload_n 0, 1) := by decide +kernel
theorem d_prog_7_method_1_code_19 : decode prog_7_method_1_code 19 = .ok (.getstatic 7, 3) := by decide +kernel
theorem d_prog_7_method_1_code_22 : decode prog_7_method_1_code 22 = .ok (.putfield 23, 3) := by decide +kernel
theorem d_prog_7_method_1_code_25 : decode prog_7_method_1_code 25 = .ok (.return_, 1) := by decide +kernel
def Q_rm__init__1 (Z : State) (w : Nat → Addr) (κ : Nat → ClassId) (n0 : Nat) (u0 u1 : Int32) (b1 : Addr) (v : Option Value) (h : Heap) (L : List Loc) : Prop := (v = none) ∧ (Fr n0 L) ∧ (n0 ≤ h.size) ∧ (Kon Z h w κ) ∧ (Exa Z h b1 "com/example/tight_tree/tighttree/Block") ∧ (Fld Z h b1 "com/example/tight_tree/tighttree/Block" "nodes" "[I" (.ref (w 0))) ∧ (Fld Z h b1 "com/example/tight_tree/tighttree/Block" "parts" "[Lcom/example/tight_tree/tighttree/Block;" (.ref (w 1))) ∧ (Fld Z h b1 "com/example/tight_tree/tighttree/Block" "placings" "[I" (.ref (w 0))) ∧ (Fld Z h b1 "com/example/tight_tree/tighttree/Block" "rootY" "I" (.int (0 : Int32))) ∧ (Fld Z h b1 "com/example/tight_tree/tighttree/Block" "rootX" "I" (.int (0 : Int32)))
theorem pn_com_example_tight_tree_tighttree_Block : plainName "com/example/tight_tree/tighttree/Block" = true := by first | (simp [plainName, overriddenIn]; done) | decide +kernel
set_option maxRecDepth 65536 in
set_option maxHeartbeats 40000000 in
theorem rm__init__1 (l : Launch) (Z : State) (a0 : Array Value) (hw : ∀ d ∈ tables_1, d.before a0 Z = true) (w : Nat → Addr) (κ : Nat → ClassId) (h0 : Heap) (n0 : Nat) (Z0 : n0 ≤ h0.size) (K : Kon Z h0 w κ) (u0 u1 : Int32) (b1 : Addr) (fE_b1 : Exa Z h0 b1 "com/example/tight_tree/tighttree/Block") (fF_b1_com_example_tight_tree_tighttree_Block_nodes : Fld Z h0 b1 "com/example/tight_tree/tighttree/Block" "nodes" "[I" .null) (fF_b1_com_example_tight_tree_tighttree_Block_parts : Fld Z h0 b1 "com/example/tight_tree/tighttree/Block" "parts" "[Lcom/example/tight_tree/tighttree/Block;" .null) (fF_b1_com_example_tight_tree_tighttree_Block_placings : Fld Z h0 b1 "com/example/tight_tree/tighttree/Block" "placings" "[I" .null) (fF_b1_com_example_tight_tree_tighttree_Block_rootY : Fld Z h0 b1 "com/example/tight_tree/tighttree/Block" "rootY" "I" (.int (0 : Int32))) (fF_b1_com_example_tight_tree_tighttree_Block_rootX : Fld Z h0 b1 "com/example/tight_tree/tighttree/Block" "rootX" "I" (.int (0 : Int32))) (fG_b1 : n0 ≤ b1) (fKN_b1 : ∀ i, i < 2 → w i ≠ b1) :
    OM l Z (⟨"com/example/tight_tree/tighttree/Block", "<init>", "()V"⟩ : MethodName) prog_7_method_1_code 1 none [] ({ frames := 1, cells := 0, slots := 0, locals := 12 } : Room) #[(.ref b1)] h0 (Q_rm__init__1 Z w κ n0 u0 u1 b1) := by
  refine MetFree.of_bodySF (plainFor_of_name pn_com_example_tight_tree_tighttree_Block) hisR ?_
  intro p e s m args below meth c s₁ Bd hml0 hP hK
  obtain ⟨rfl, hZ, hh⟩ := hP
  have hx := Bd.exec
  have hby := Bd.bytes
  have hml : c.maxLocals = 1 := hml0
  have hown : s.vm.findClass "com/example/tight_tree/tighttree/Block" = some m.cls := findClass_of_methodNamed Bd.named
  have hnm := (name_of_methodNamed Bd.named Bd.method).1
  have X0 : Stand p l e ({ frames := 1, cells := 0, slots := 0, locals := 12 } : Room) s m #[(.ref b1)] below meth c s₁ [] 0 0 := Stand.of_body Bd
  have e0 : s₁.heap = h0 := by rw [← hh, Bd.state]; rfl
  have N0 := Fr.nil n0
  have pre0 : ∀ t, Steps p.tables e below (s₁.setTop (mkF m 0 #[.val (.ref b1)] [])) t → Steps p.tables e below (s₁.setTop (entryFrame m #[(.ref b1)] 1)) t := fun t k => castTop (by first | rfl | simp [entryFrame, mkF, argsToLocals, Value.category]) k
  obtain ⟨T1, X1, e1, st1⟩ := initO X0 hx hZ hown (hw _ (List.mem_of_getElem? (i := 6) rfl)) (hw _ (List.mem_of_getElem? (i := 7) rfl)) (hw _ (List.mem_of_getElem? (i := 8) rfl)) e0 (g := (mkF m 1 #[.val (.ref b1)] [(.ref b1)])) rfl (by rw [hml]; rfl) rfl (hb hby d_prog_7_method_1_code_1) (by decide) (W := 0) (by show 2 * 0 + _ ≤ _; exact Nat.le_of_eq rfl) (by decide)
  obtain ⟨T2, X2, e2, st2⟩ := getS2 X1 hx hZ hown (host := "") (Or.inl (hw _ (List.mem_of_getElem? (i := 9) rfl))) Via.refl e1 K.1 (g := (mkF m 5 #[.val (.ref b1)] [(.ref b1)])) rfl (hb hby d_prog_7_method_1_code_5)
  obtain ⟨T3, h3, X3, e3, W3, st3⟩ := putF X2 hx hZ hown (host := "") (Or.inl (hw _ (List.mem_of_getElem? (i := 11) rfl))) Via.refl e2 fF_b1_com_example_tight_tree_tighttree_Block_nodes fE_b1 (Or.inl (hw _ (List.mem_of_getElem? (i := 12) rfl))) (hw _ (List.mem_of_getElem? (i := 1) rfl)) (ty := (.array .int)) (by decide) rfl rfl (g := (mkF m 8 #[.val (.ref b1)] [(.ref (w 0)), (.ref b1)])) rfl rfl (hb hby d_prog_7_method_1_code_8)
  have f3_fE_b1 : Exa Z h3 b1 "com/example/tight_tree/tighttree/Block" := fE_b1.wr W3
  have f3_fF_b1_com_example_tight_tree_tighttree_Block_nodes : Fld Z h3 b1 "com/example/tight_tree/tighttree/Block" "nodes" "[I" (.ref (w 0)) := fF_b1_com_example_tight_tree_tighttree_Block_nodes.same W3
  have f3_fF_b1_com_example_tight_tree_tighttree_Block_parts : Fld Z h3 b1 "com/example/tight_tree/tighttree/Block" "parts" "[Lcom/example/tight_tree/tighttree/Block;" .null := fF_b1_com_example_tight_tree_tighttree_Block_parts.other W3 (Or.inr (slot_ne (Or.inl (hw _ (List.mem_of_getElem? (i := 16) rfl))) (Or.inl (hw _ (List.mem_of_getElem? (i := 12) rfl))) (by decide) (t := (.array (.object "com/example/tight_tree/tighttree/Block"))) (t' := (.array .int)) (by decide) (by decide)))
  have f3_fF_b1_com_example_tight_tree_tighttree_Block_placings : Fld Z h3 b1 "com/example/tight_tree/tighttree/Block" "placings" "[I" .null := fF_b1_com_example_tight_tree_tighttree_Block_placings.other W3 (Or.inr (slot_ne (Or.inl (hw _ (List.mem_of_getElem? (i := 18) rfl))) (Or.inl (hw _ (List.mem_of_getElem? (i := 12) rfl))) (by decide) (t := (.array .int)) (t' := (.array .int)) (by decide) (by decide)))
  have f3_fF_b1_com_example_tight_tree_tighttree_Block_rootY : Fld Z h3 b1 "com/example/tight_tree/tighttree/Block" "rootY" "I" (.int (0 : Int32)) := fF_b1_com_example_tight_tree_tighttree_Block_rootY.other W3 (Or.inr (slot_ne (Or.inl (hw _ (List.mem_of_getElem? (i := 25) rfl))) (Or.inl (hw _ (List.mem_of_getElem? (i := 12) rfl))) (by decide) (t := .int) (t' := (.array .int)) (by decide) (by decide)))
  have f3_fF_b1_com_example_tight_tree_tighttree_Block_rootX : Fld Z h3 b1 "com/example/tight_tree/tighttree/Block" "rootX" "I" (.int (0 : Int32)) := fF_b1_com_example_tight_tree_tighttree_Block_rootX.other W3 (Or.inr (slot_ne (Or.inl (hw _ (List.mem_of_getElem? (i := 27) rfl))) (Or.inl (hw _ (List.mem_of_getElem? (i := 12) rfl))) (by decide) (t := .int) (t' := (.array .int)) (by decide) (by decide)))
  have K3 := K.wr W3 fKN_b1
  have Z3 : n0 ≤ h3.size := Nat.le_trans Z0 (Nat.le_of_eq W3.size.symm)
  have N3 := Fr.snoc X3 N0 fG_b1
  obtain ⟨T4, X4, e4, st4⟩ := getS2 X3 hx hZ hown (host := "") (Or.inl (hw _ (List.mem_of_getElem? (i := 13) rfl))) Via.refl e3 K3.2.1 (g := (mkF m 12 #[.val (.ref b1)] [(.ref b1)])) rfl (hb hby d_prog_7_method_1_code_12)
  obtain ⟨T5, h5, X5, e5, W5, st5⟩ := putF X4 hx hZ hown (host := "") (Or.inl (hw _ (List.mem_of_getElem? (i := 15) rfl))) Via.refl e4 f3_fF_b1_com_example_tight_tree_tighttree_Block_parts f3_fE_b1 (Or.inl (hw _ (List.mem_of_getElem? (i := 16) rfl))) (hw _ (List.mem_of_getElem? (i := 1) rfl)) (ty := (.array (.object "com/example/tight_tree/tighttree/Block"))) (by decide) rfl rfl (g := (mkF m 15 #[.val (.ref b1)] [(.ref (w 1)), (.ref b1)])) rfl rfl (hb hby d_prog_7_method_1_code_15)
  have f5_fE_b1 : Exa Z h5 b1 "com/example/tight_tree/tighttree/Block" := f3_fE_b1.wr W5
  have f5_fF_b1_com_example_tight_tree_tighttree_Block_nodes : Fld Z h5 b1 "com/example/tight_tree/tighttree/Block" "nodes" "[I" (.ref (w 0)) := f3_fF_b1_com_example_tight_tree_tighttree_Block_nodes.other W5 (Or.inr (slot_ne (Or.inl (hw _ (List.mem_of_getElem? (i := 12) rfl))) (Or.inl (hw _ (List.mem_of_getElem? (i := 16) rfl))) (by decide) (t := (.array .int)) (t' := (.array (.object "com/example/tight_tree/tighttree/Block"))) (by decide) (by decide)))
  have f5_fF_b1_com_example_tight_tree_tighttree_Block_parts : Fld Z h5 b1 "com/example/tight_tree/tighttree/Block" "parts" "[Lcom/example/tight_tree/tighttree/Block;" (.ref (w 1)) := f3_fF_b1_com_example_tight_tree_tighttree_Block_parts.same W5
  have f5_fF_b1_com_example_tight_tree_tighttree_Block_placings : Fld Z h5 b1 "com/example/tight_tree/tighttree/Block" "placings" "[I" .null := f3_fF_b1_com_example_tight_tree_tighttree_Block_placings.other W5 (Or.inr (slot_ne (Or.inl (hw _ (List.mem_of_getElem? (i := 18) rfl))) (Or.inl (hw _ (List.mem_of_getElem? (i := 16) rfl))) (by decide) (t := (.array .int)) (t' := (.array (.object "com/example/tight_tree/tighttree/Block"))) (by decide) (by decide)))
  have f5_fF_b1_com_example_tight_tree_tighttree_Block_rootY : Fld Z h5 b1 "com/example/tight_tree/tighttree/Block" "rootY" "I" (.int (0 : Int32)) := f3_fF_b1_com_example_tight_tree_tighttree_Block_rootY.other W5 (Or.inr (slot_ne (Or.inl (hw _ (List.mem_of_getElem? (i := 25) rfl))) (Or.inl (hw _ (List.mem_of_getElem? (i := 16) rfl))) (by decide) (t := .int) (t' := (.array (.object "com/example/tight_tree/tighttree/Block"))) (by decide) (by decide)))
  have f5_fF_b1_com_example_tight_tree_tighttree_Block_rootX : Fld Z h5 b1 "com/example/tight_tree/tighttree/Block" "rootX" "I" (.int (0 : Int32)) := f3_fF_b1_com_example_tight_tree_tighttree_Block_rootX.other W5 (Or.inr (slot_ne (Or.inl (hw _ (List.mem_of_getElem? (i := 27) rfl))) (Or.inl (hw _ (List.mem_of_getElem? (i := 16) rfl))) (by decide) (t := .int) (t' := (.array (.object "com/example/tight_tree/tighttree/Block"))) (by decide) (by decide)))
  have K5 := K3.wr W5 fKN_b1
  have Z5 : n0 ≤ h5.size := Nat.le_trans Z3 (Nat.le_of_eq W5.size.symm)
  have N5 := Fr.snoc X5 N3 fG_b1
  obtain ⟨T6, X6, e6, st6⟩ := getS2 X5 hx hZ hown (host := "") (Or.inl (hw _ (List.mem_of_getElem? (i := 9) rfl))) Via.refl e5 K5.1 (g := (mkF m 19 #[.val (.ref b1)] [(.ref b1)])) rfl (hb hby d_prog_7_method_1_code_19)
  obtain ⟨T7, h7, X7, e7, W7, st7⟩ := putF X6 hx hZ hown (host := "") (Or.inl (hw _ (List.mem_of_getElem? (i := 17) rfl))) Via.refl e6 f5_fF_b1_com_example_tight_tree_tighttree_Block_placings f5_fE_b1 (Or.inl (hw _ (List.mem_of_getElem? (i := 18) rfl))) (hw _ (List.mem_of_getElem? (i := 1) rfl)) (ty := (.array .int)) (by decide) rfl rfl (g := (mkF m 22 #[.val (.ref b1)] [(.ref (w 0)), (.ref b1)])) rfl rfl (hb hby d_prog_7_method_1_code_22)
  have f7_fE_b1 : Exa Z h7 b1 "com/example/tight_tree/tighttree/Block" := f5_fE_b1.wr W7
  have f7_fF_b1_com_example_tight_tree_tighttree_Block_nodes : Fld Z h7 b1 "com/example/tight_tree/tighttree/Block" "nodes" "[I" (.ref (w 0)) := f5_fF_b1_com_example_tight_tree_tighttree_Block_nodes.other W7 (Or.inr (slot_ne (Or.inl (hw _ (List.mem_of_getElem? (i := 12) rfl))) (Or.inl (hw _ (List.mem_of_getElem? (i := 18) rfl))) (by decide) (t := (.array .int)) (t' := (.array .int)) (by decide) (by decide)))
  have f7_fF_b1_com_example_tight_tree_tighttree_Block_parts : Fld Z h7 b1 "com/example/tight_tree/tighttree/Block" "parts" "[Lcom/example/tight_tree/tighttree/Block;" (.ref (w 1)) := f5_fF_b1_com_example_tight_tree_tighttree_Block_parts.other W7 (Or.inr (slot_ne (Or.inl (hw _ (List.mem_of_getElem? (i := 16) rfl))) (Or.inl (hw _ (List.mem_of_getElem? (i := 18) rfl))) (by decide) (t := (.array (.object "com/example/tight_tree/tighttree/Block"))) (t' := (.array .int)) (by decide) (by decide)))
  have f7_fF_b1_com_example_tight_tree_tighttree_Block_placings : Fld Z h7 b1 "com/example/tight_tree/tighttree/Block" "placings" "[I" (.ref (w 0)) := f5_fF_b1_com_example_tight_tree_tighttree_Block_placings.same W7
  have f7_fF_b1_com_example_tight_tree_tighttree_Block_rootY : Fld Z h7 b1 "com/example/tight_tree/tighttree/Block" "rootY" "I" (.int (0 : Int32)) := f5_fF_b1_com_example_tight_tree_tighttree_Block_rootY.other W7 (Or.inr (slot_ne (Or.inl (hw _ (List.mem_of_getElem? (i := 25) rfl))) (Or.inl (hw _ (List.mem_of_getElem? (i := 18) rfl))) (by decide) (t := .int) (t' := (.array .int)) (by decide) (by decide)))
  have f7_fF_b1_com_example_tight_tree_tighttree_Block_rootX : Fld Z h7 b1 "com/example/tight_tree/tighttree/Block" "rootX" "I" (.int (0 : Int32)) := f5_fF_b1_com_example_tight_tree_tighttree_Block_rootX.other W7 (Or.inr (slot_ne (Or.inl (hw _ (List.mem_of_getElem? (i := 27) rfl))) (Or.inl (hw _ (List.mem_of_getElem? (i := 18) rfl))) (by decide) (t := .int) (t' := (.array .int)) (by decide) (by decide)))
  have K7 := K5.wr W7 fKN_b1
  have Z7 : n0 ≤ h7.size := Nat.le_trans Z5 (Nat.le_of_eq W7.size.symm)
  have N7 := Fr.snoc X7 N5 fG_b1
  obtain ⟨fs, hr, hrun, hended, hW, hsame⟩ := X7.leave (v := none) (fun _ => rfl)
  refine ⟨_, _, pre0 _ ?_, hrun, hended, _, _, rfl, ?_, ⟨_, rfl⟩, hW, hsame.mono (by decide) (by decide)⟩
  · show Steps p.tables e below (s₁.setTop (mkF m 0 #[.val (.ref b1)] [])) _
    refine XS.aloadN X0.here hx rfl (hb hby d_prog_7_method_1_code_0) rfl rfl ?_
    show Steps p.tables e below (s₁.setTop (mkF m 1 #[.val (.ref b1)] [(.ref b1)])) _
    refine st1 _ ?_
    show Steps p.tables e below (T1.setTop (mkF m 4 #[.val (.ref b1)] [])) _
    refine XS.aloadN X1.here hx rfl (hb hby d_prog_7_method_1_code_4) rfl rfl ?_
    show Steps p.tables e below (T1.setTop (mkF m 5 #[.val (.ref b1)] [(.ref b1)])) _
    refine st2 _ ?_
    show Steps p.tables e below (T2.setTop (mkF m 8 #[.val (.ref b1)] [(.ref (w 0)), (.ref b1)])) _
    refine st3 _ ?_
    show Steps p.tables e below (T3.setTop (mkF m 11 #[.val (.ref b1)] [])) _
    refine XS.aloadN X3.here hx rfl (hb hby d_prog_7_method_1_code_11) rfl rfl ?_
    show Steps p.tables e below (T3.setTop (mkF m 12 #[.val (.ref b1)] [(.ref b1)])) _
    refine st4 _ ?_
    show Steps p.tables e below (T4.setTop (mkF m 15 #[.val (.ref b1)] [(.ref (w 1)), (.ref b1)])) _
    refine st5 _ ?_
    show Steps p.tables e below (T5.setTop (mkF m 18 #[.val (.ref b1)] [])) _
    refine XS.aloadN X5.here hx rfl (hb hby d_prog_7_method_1_code_18) rfl rfl ?_
    show Steps p.tables e below (T5.setTop (mkF m 19 #[.val (.ref b1)] [(.ref b1)])) _
    refine st6 _ ?_
    show Steps p.tables e below (T6.setTop (mkF m 22 #[.val (.ref b1)] [(.ref (w 0)), (.ref b1)])) _
    refine st7 _ ?_
    show Steps p.tables e below (T7.setTop (mkF m 25 #[.val (.ref b1)] [])) _
    exact X7.returnOut hx Bd.returns (hb hby d_prog_7_method_1_code_25) hr
  · show Q_rm__init__1 Z w κ n0 u0 u1 b1 _ T7.heap _
    rw [e7]
    exact ⟨rfl, N7, Z7, K7, f7_fE_b1, f7_fF_b1_com_example_tight_tree_tighttree_Block_nodes, f7_fF_b1_com_example_tight_tree_tighttree_Block_parts, f7_fF_b1_com_example_tight_tree_tighttree_Block_placings, f7_fF_b1_com_example_tight_tree_tighttree_Block_rootY, f7_fF_b1_com_example_tight_tree_tighttree_Block_rootX⟩
theorem pd_2829V : parseMethodDescriptor "()V" = some ⟨[], none⟩ := by decide +kernel
theorem d_prog_7_method_13_code_0 : decode prog_7_method_13_code 0 = .ok (.iload_n 1, 1) := by decide +kernel
theorem d_prog_7_method_13_code_1 : decode prog_7_method_13_code 1 = .ok (.ifCond .eq 10, 3) := by decide +kernel
theorem d_prog_7_method_13_code_11 : decode prog_7_method_13_code 11 = .ok (.aload_n 0, 1) := by decide +kernel
theorem d_prog_7_method_13_code_12 : decode prog_7_method_13_code 12 = .ok (.getfield 98, 3) := by decide +kernel
theorem d_prog_7_method_13_code_15 : decode prog_7_method_13_code 15 = .ok (.ireturn, 1) := by decide +kernel
set_option maxRecDepth 65536 in
set_option maxHeartbeats 40000000 in
theorem rm_rootY_2 (l : Launch) (Z : State) (a0 : Array Value) (hw : ∀ d ∈ tables_1, d.before a0 Z = true) (w : Nat → Addr) (κ : Nat → ClassId) (h0 : Heap) (n0 : Nat) (Z0 : n0 ≤ h0.size) (K : Kon Z h0 w κ) (u0 u1 : Int32) (b1 : Addr) (fF_b1_com_example_tight_tree_tighttree_Block_rootY : Fld Z h0 b1 "com/example/tight_tree/tighttree/Block" "rootY" "I" (.int (0 : Int32))) :
    OM l Z (⟨"com/example/tight_tree/tighttree/Block", "rootY", "(Z)I"⟩ : MethodName) prog_7_method_13_code 2 (some .int) [] ({ frames := 0, cells := 0, slots := 0, locals := 0 } : Room) #[(.ref b1), (.int (0 : Int32))] h0 (OP (some (.int (0 : Int32))) n0 h0) := by
  refine MetFree.of_bodySF (plainFor_of_name pn_com_example_tight_tree_tighttree_Block) hisR ?_
  intro p e s m args below meth c s₁ Bd hml0 hP hK
  obtain ⟨rfl, hZ, hh⟩ := hP
  have hx := Bd.exec
  have hby := Bd.bytes
  have hml : c.maxLocals = 2 := hml0
  have hown : s.vm.findClass "com/example/tight_tree/tighttree/Block" = some m.cls := findClass_of_methodNamed Bd.named
  have hnm := (name_of_methodNamed Bd.named Bd.method).1
  have X0 : Stand p l e ({ frames := 0, cells := 0, slots := 0, locals := 0 } : Room) s m #[(.ref b1), (.int (0 : Int32))] below meth c s₁ [] 0 0 := Stand.of_body Bd
  have e0 : s₁.heap = h0 := by rw [← hh, Bd.state]; rfl
  have N0 := Fr.nil n0
  have pre0 : ∀ t, Steps p.tables e below (s₁.setTop (mkF m 0 #[.val (.ref b1), .val (.int (0 : Int32))] [])) t → Steps p.tables e below (s₁.setTop (entryFrame m #[(.ref b1), (.int (0 : Int32))] 2)) t := fun t k => castTop (by first | rfl | simp [entryFrame, mkF, argsToLocals, Value.category]) k
  obtain ⟨T1, X1, e1, st1⟩ := getF X0 hx hZ hown (host := "") (Or.inl (hw _ (List.mem_of_getElem? (i := 24) rfl))) Via.refl e0 fF_b1_com_example_tight_tree_tighttree_Block_rootY (g := (mkF m 12 #[.val (.ref b1), .val (.int (0 : Int32))] [(.ref b1)])) rfl rfl (hb hby d_prog_7_method_13_code_12)
  obtain ⟨fs, hr, hrun, hended, hW, hsame⟩ := X1.leave (v := (some (.int (0 : Int32)))) (fun h => by rw [Bd.returns] at h; cases h)
  refine ⟨_, _, pre0 _ ?_, hrun, hended, _, _, rfl, ?_, ⟨_, rfl⟩, hW, hsame.mono (by decide) (by decide)⟩
  · show Steps p.tables e below (s₁.setTop (mkF m 0 #[.val (.ref b1), .val (.int (0 : Int32))] [])) _
    refine XS.iloadN X0.here hx rfl (hb hby d_prog_7_method_13_code_0) rfl ?_
    show Steps p.tables e below (s₁.setTop (mkF m 1 #[.val (.ref b1), .val (.int (0 : Int32))] [(.int (0 : Int32))])) _
    refine XS.ifYes X0.here hx rfl (pc0 := 1) (pc' := 11) rfl (hb hby d_prog_7_method_13_code_1) rfl ((if0 _ _).trans (teq (by decide : (0 : Int32) = (0 : Int32))).1) (by decide) (by decide) ?_
    show Steps p.tables e below (s₁.setTop (mkF m 11 #[.val (.ref b1), .val (.int (0 : Int32))] [])) _
    refine XS.aloadN X0.here hx rfl (hb hby d_prog_7_method_13_code_11) rfl rfl ?_
    show Steps p.tables e below (s₁.setTop (mkF m 12 #[.val (.ref b1), .val (.int (0 : Int32))] [(.ref b1)])) _
    refine st1 _ ?_
    show Steps p.tables e below (T1.setTop (mkF m 15 #[.val (.ref b1), .val (.int (0 : Int32))] [(.int (0 : Int32))])) _
    exact retI X1 hx Bd.returns (hb hby d_prog_7_method_13_code_15) hr
  · exact ⟨rfl, N0, e1⟩
theorem pd_28Z29I : parseMethodDescriptor "(Z)I" = some ⟨[.boolean], some .int⟩ := by decide +kernel
theorem d_prog_7_method_13_code_4 : decode prog_7_method_13_code 4 = .ok (.aload_n 0, 1) := by decide +kernel
theorem d_prog_7_method_13_code_5 : decode prog_7_method_13_code 5 = .ok (.getfield 95, 3) := by decide +kernel
theorem d_prog_7_method_13_code_8 : decode prog_7_method_13_code 8 = .ok (.goto 7, 3) := by decide +kernel
set_option maxRecDepth 65536 in
set_option maxHeartbeats 40000000 in
theorem rm_rootY_3 (l : Launch) (Z : State) (a0 : Array Value) (hw : ∀ d ∈ tables_1, d.before a0 Z = true) (w : Nat → Addr) (κ : Nat → ClassId) (h0 : Heap) (n0 : Nat) (Z0 : n0 ≤ h0.size) (K : Kon Z h0 w κ) (u0 u1 : Int32) (b1 : Addr) (fF_b1_com_example_tight_tree_tighttree_Block_rootX : Fld Z h0 b1 "com/example/tight_tree/tighttree/Block" "rootX" "I" (.int (0 : Int32))) :
    OM l Z (⟨"com/example/tight_tree/tighttree/Block", "rootY", "(Z)I"⟩ : MethodName) prog_7_method_13_code 2 (some .int) [] ({ frames := 0, cells := 0, slots := 0, locals := 0 } : Room) #[(.ref b1), (.int (1 : Int32))] h0 (OP (some (.int (0 : Int32))) n0 h0) := by
  refine MetFree.of_bodySF (plainFor_of_name pn_com_example_tight_tree_tighttree_Block) hisR ?_
  intro p e s m args below meth c s₁ Bd hml0 hP hK
  obtain ⟨rfl, hZ, hh⟩ := hP
  have hx := Bd.exec
  have hby := Bd.bytes
  have hml : c.maxLocals = 2 := hml0
  have hown : s.vm.findClass "com/example/tight_tree/tighttree/Block" = some m.cls := findClass_of_methodNamed Bd.named
  have hnm := (name_of_methodNamed Bd.named Bd.method).1
  have X0 : Stand p l e ({ frames := 0, cells := 0, slots := 0, locals := 0 } : Room) s m #[(.ref b1), (.int (1 : Int32))] below meth c s₁ [] 0 0 := Stand.of_body Bd
  have e0 : s₁.heap = h0 := by rw [← hh, Bd.state]; rfl
  have N0 := Fr.nil n0
  have pre0 : ∀ t, Steps p.tables e below (s₁.setTop (mkF m 0 #[.val (.ref b1), .val (.int (1 : Int32))] [])) t → Steps p.tables e below (s₁.setTop (entryFrame m #[(.ref b1), (.int (1 : Int32))] 2)) t := fun t k => castTop (by first | rfl | simp [entryFrame, mkF, argsToLocals, Value.category]) k
  obtain ⟨T1, X1, e1, st1⟩ := getF X0 hx hZ hown (host := "") (Or.inl (hw _ (List.mem_of_getElem? (i := 26) rfl))) Via.refl e0 fF_b1_com_example_tight_tree_tighttree_Block_rootX (g := (mkF m 5 #[.val (.ref b1), .val (.int (1 : Int32))] [(.ref b1)])) rfl rfl (hb hby d_prog_7_method_13_code_5)
  obtain ⟨fs, hr, hrun, hended, hW, hsame⟩ := X1.leave (v := (some (.int (0 : Int32)))) (fun h => by rw [Bd.returns] at h; cases h)
  refine ⟨_, _, pre0 _ ?_, hrun, hended, _, _, rfl, ?_, ⟨_, rfl⟩, hW, hsame.mono (by decide) (by decide)⟩
  · show Steps p.tables e below (s₁.setTop (mkF m 0 #[.val (.ref b1), .val (.int (1 : Int32))] [])) _
    refine XS.iloadN X0.here hx rfl (hb hby d_prog_7_method_13_code_0) rfl ?_
    show Steps p.tables e below (s₁.setTop (mkF m 1 #[.val (.ref b1), .val (.int (1 : Int32))] [(.int (1 : Int32))])) _
    refine XS.ifNo X0.here hx rfl (hb hby d_prog_7_method_13_code_1) rfl ((if0 _ _).trans (feq (by decide : ¬ ((1 : Int32) = (0 : Int32)))).1) ?_
    show Steps p.tables e below (s₁.setTop (mkF m 4 #[.val (.ref b1), .val (.int (1 : Int32))] [])) _
    refine XS.aloadN X0.here hx rfl (hb hby d_prog_7_method_13_code_4) rfl rfl ?_
    show Steps p.tables e below (s₁.setTop (mkF m 5 #[.val (.ref b1), .val (.int (1 : Int32))] [(.ref b1)])) _
    refine st1 _ ?_
    show Steps p.tables e below (T1.setTop (mkF m 8 #[.val (.ref b1), .val (.int (1 : Int32))] [(.int (0 : Int32))])) _
    refine XS.goto X1.here hx rfl (pc0 := 8) (pc' := 15) rfl (hb hby d_prog_7_method_13_code_8) (by decide) (by decide) ?_
    show Steps p.tables e below (T1.setTop (mkF m 15 #[.val (.ref b1), .val (.int (1 : Int32))] [(.int (0 : Int32))])) _
    exact retI X1 hx Bd.returns (hb hby d_prog_7_method_13_code_15) hr
  · exact ⟨rfl, N0, e1⟩
theorem d_prog_7_method_9_code_0 : decode prog_7_method_9_code 0 = .ok (.aload_n 0, 1) := by decide +kernel
theorem d_prog_7_method_9_code_1 : decode prog_7_method_9_code 1 = .ok (.iload_n 1, 1) := by decide +kernel
theorem d_prog_7_method_9_code_2 : decode prog_7_method_9_code 2 = .ok (.putfield 95, 3) := by decide +kernel
theorem d_prog_7_method_9_code_5 : decode prog_7_method_9_code 5 = .ok (.aload_n 0, 1) := by decide +kernel
theorem d_prog_7_method_9_code_6 : decode prog_7_method_9_code 6 = .ok (.iload_n 2, 1) := by decide +kernel
theorem d_prog_7_method_9_code_7 : decode prog_7_method_9_code 7 = .ok (.putfield 98, 3) := by decide +kernel
theorem d_prog_7_method_9_code_10 : decode prog_7_method_9_code 10 = .ok (.return_, 1) := by decide +kernel
def Q_rm_setRoot_4 (Z : State) (w : Nat → Addr) (κ : Nat → ClassId) (n0 : Nat) (u0 u1 : Int32) (b1 : Addr) (v : Option Value) (h : Heap) (L : List Loc) : Prop := (v = none) ∧ (Fr n0 L) ∧ (n0 ≤ h.size) ∧ (Kon Z h w κ) ∧ (Exa Z h b1 "com/example/tight_tree/tighttree/Block") ∧ (Fld Z h b1 "com/example/tight_tree/tighttree/Block" "nodes" "[I" (.ref (w 0))) ∧ (Fld Z h b1 "com/example/tight_tree/tighttree/Block" "parts" "[Lcom/example/tight_tree/tighttree/Block;" (.ref (w 1))) ∧ (Fld Z h b1 "com/example/tight_tree/tighttree/Block" "placings" "[I" (.ref (w 0))) ∧ (Fld Z h b1 "com/example/tight_tree/tighttree/Block" "rootY" "I" (.int u1)) ∧ (Fld Z h b1 "com/example/tight_tree/tighttree/Block" "rootX" "I" (.int u0))
set_option maxRecDepth 65536 in
set_option maxHeartbeats 40000000 in
theorem rm_setRoot_4 (l : Launch) (Z : State) (a0 : Array Value) (hw : ∀ d ∈ tables_1, d.before a0 Z = true) (w : Nat → Addr) (κ : Nat → ClassId) (h0 : Heap) (n0 : Nat) (Z0 : n0 ≤ h0.size) (K : Kon Z h0 w κ) (u0 u1 : Int32) (b1 : Addr) (fE_b1 : Exa Z h0 b1 "com/example/tight_tree/tighttree/Block") (fF_b1_com_example_tight_tree_tighttree_Block_nodes : Fld Z h0 b1 "com/example/tight_tree/tighttree/Block" "nodes" "[I" (.ref (w 0))) (fF_b1_com_example_tight_tree_tighttree_Block_parts : Fld Z h0 b1 "com/example/tight_tree/tighttree/Block" "parts" "[Lcom/example/tight_tree/tighttree/Block;" (.ref (w 1))) (fF_b1_com_example_tight_tree_tighttree_Block_placings : Fld Z h0 b1 "com/example/tight_tree/tighttree/Block" "placings" "[I" (.ref (w 0))) (fF_b1_com_example_tight_tree_tighttree_Block_rootY : Fld Z h0 b1 "com/example/tight_tree/tighttree/Block" "rootY" "I" (.int (0 : Int32))) (fF_b1_com_example_tight_tree_tighttree_Block_rootX : Fld Z h0 b1 "com/example/tight_tree/tighttree/Block" "rootX" "I" (.int (0 : Int32))) (fG_b1 : n0 ≤ b1) (fKN_b1 : ∀ i, i < 2 → w i ≠ b1) :
    OM l Z (⟨"com/example/tight_tree/tighttree/Block", "setRoot", "(II)V"⟩ : MethodName) prog_7_method_9_code 3 none [] ({ frames := 0, cells := 0, slots := 0, locals := 0 } : Room) #[(.ref b1), (.int u0), (.int u1)] h0 (Q_rm_setRoot_4 Z w κ n0 u0 u1 b1) := by
  refine MetFree.of_bodySF (plainFor_of_name pn_com_example_tight_tree_tighttree_Block) hisR ?_
  intro p e s m args below meth c s₁ Bd hml0 hP hK
  obtain ⟨rfl, hZ, hh⟩ := hP
  have hx := Bd.exec
  have hby := Bd.bytes
  have hml : c.maxLocals = 3 := hml0
  have hown : s.vm.findClass "com/example/tight_tree/tighttree/Block" = some m.cls := findClass_of_methodNamed Bd.named
  have hnm := (name_of_methodNamed Bd.named Bd.method).1
  have X0 : Stand p l e ({ frames := 0, cells := 0, slots := 0, locals := 0 } : Room) s m #[(.ref b1), (.int u0), (.int u1)] below meth c s₁ [] 0 0 := Stand.of_body Bd
  have e0 : s₁.heap = h0 := by rw [← hh, Bd.state]; rfl
  have N0 := Fr.nil n0
  have pre0 : ∀ t, Steps p.tables e below (s₁.setTop (mkF m 0 #[.val (.ref b1), .val (.int u0), .val (.int u1)] [])) t → Steps p.tables e below (s₁.setTop (entryFrame m #[(.ref b1), (.int u0), (.int u1)] 3)) t := fun t k => castTop (by first | rfl | simp [entryFrame, mkF, argsToLocals, Value.category]) k
  obtain ⟨T1, h1, X1, e1, W1, st1⟩ := putF X0 hx hZ hown (host := "") (Or.inl (hw _ (List.mem_of_getElem? (i := 26) rfl))) Via.refl e0 fF_b1_com_example_tight_tree_tighttree_Block_rootX fE_b1 (Or.inl (hw _ (List.mem_of_getElem? (i := 27) rfl))) (hw _ (List.mem_of_getElem? (i := 1) rfl)) (ty := .int) (by decide) rfl rfl (g := (mkF m 2 #[.val (.ref b1), .val (.int u0), .val (.int u1)] [(.int u0), (.ref b1)])) rfl rfl (hb hby d_prog_7_method_9_code_2)
  have f1_fE_b1 : Exa Z h1 b1 "com/example/tight_tree/tighttree/Block" := fE_b1.wr W1
  have f1_fF_b1_com_example_tight_tree_tighttree_Block_nodes : Fld Z h1 b1 "com/example/tight_tree/tighttree/Block" "nodes" "[I" (.ref (w 0)) := fF_b1_com_example_tight_tree_tighttree_Block_nodes.other W1 (Or.inr (slot_ne (Or.inl (hw _ (List.mem_of_getElem? (i := 12) rfl))) (Or.inl (hw _ (List.mem_of_getElem? (i := 27) rfl))) (by decide) (t := (.array .int)) (t' := .int) (by decide) (by decide)))
  have f1_fF_b1_com_example_tight_tree_tighttree_Block_parts : Fld Z h1 b1 "com/example/tight_tree/tighttree/Block" "parts" "[Lcom/example/tight_tree/tighttree/Block;" (.ref (w 1)) := fF_b1_com_example_tight_tree_tighttree_Block_parts.other W1 (Or.inr (slot_ne (Or.inl (hw _ (List.mem_of_getElem? (i := 16) rfl))) (Or.inl (hw _ (List.mem_of_getElem? (i := 27) rfl))) (by decide) (t := (.array (.object "com/example/tight_tree/tighttree/Block"))) (t' := .int) (by decide) (by decide)))
  have f1_fF_b1_com_example_tight_tree_tighttree_Block_placings : Fld Z h1 b1 "com/example/tight_tree/tighttree/Block" "placings" "[I" (.ref (w 0)) := fF_b1_com_example_tight_tree_tighttree_Block_placings.other W1 (Or.inr (slot_ne (Or.inl (hw _ (List.mem_of_getElem? (i := 18) rfl))) (Or.inl (hw _ (List.mem_of_getElem? (i := 27) rfl))) (by decide) (t := (.array .int)) (t' := .int) (by decide) (by decide)))
  have f1_fF_b1_com_example_tight_tree_tighttree_Block_rootY : Fld Z h1 b1 "com/example/tight_tree/tighttree/Block" "rootY" "I" (.int (0 : Int32)) := fF_b1_com_example_tight_tree_tighttree_Block_rootY.other W1 (Or.inr (slot_ne (Or.inl (hw _ (List.mem_of_getElem? (i := 25) rfl))) (Or.inl (hw _ (List.mem_of_getElem? (i := 27) rfl))) (by decide) (t := .int) (t' := .int) (by decide) (by decide)))
  have f1_fF_b1_com_example_tight_tree_tighttree_Block_rootX : Fld Z h1 b1 "com/example/tight_tree/tighttree/Block" "rootX" "I" (.int u0) := fF_b1_com_example_tight_tree_tighttree_Block_rootX.same W1
  have K1 := K.wr W1 fKN_b1
  have Z1 : n0 ≤ h1.size := Nat.le_trans Z0 (Nat.le_of_eq W1.size.symm)
  have N1 := Fr.snoc X1 N0 fG_b1
  obtain ⟨T2, h2, X2, e2, W2, st2⟩ := putF X1 hx hZ hown (host := "") (Or.inl (hw _ (List.mem_of_getElem? (i := 24) rfl))) Via.refl e1 f1_fF_b1_com_example_tight_tree_tighttree_Block_rootY f1_fE_b1 (Or.inl (hw _ (List.mem_of_getElem? (i := 25) rfl))) (hw _ (List.mem_of_getElem? (i := 1) rfl)) (ty := .int) (by decide) rfl rfl (g := (mkF m 7 #[.val (.ref b1), .val (.int u0), .val (.int u1)] [(.int u1), (.ref b1)])) rfl rfl (hb hby d_prog_7_method_9_code_7)
  have f2_fE_b1 : Exa Z h2 b1 "com/example/tight_tree/tighttree/Block" := f1_fE_b1.wr W2
  have f2_fF_b1_com_example_tight_tree_tighttree_Block_nodes : Fld Z h2 b1 "com/example/tight_tree/tighttree/Block" "nodes" "[I" (.ref (w 0)) := f1_fF_b1_com_example_tight_tree_tighttree_Block_nodes.other W2 (Or.inr (slot_ne (Or.inl (hw _ (List.mem_of_getElem? (i := 12) rfl))) (Or.inl (hw _ (List.mem_of_getElem? (i := 25) rfl))) (by decide) (t := (.array .int)) (t' := .int) (by decide) (by decide)))
  have f2_fF_b1_com_example_tight_tree_tighttree_Block_parts : Fld Z h2 b1 "com/example/tight_tree/tighttree/Block" "parts" "[Lcom/example/tight_tree/tighttree/Block;" (.ref (w 1)) := f1_fF_b1_com_example_tight_tree_tighttree_Block_parts.other W2 (Or.inr (slot_ne (Or.inl (hw _ (List.mem_of_getElem? (i := 16) rfl))) (Or.inl (hw _ (List.mem_of_getElem? (i := 25) rfl))) (by decide) (t := (.array (.object "com/example/tight_tree/tighttree/Block"))) (t' := .int) (by decide) (by decide)))
  have f2_fF_b1_com_example_tight_tree_tighttree_Block_placings : Fld Z h2 b1 "com/example/tight_tree/tighttree/Block" "placings" "[I" (.ref (w 0)) := f1_fF_b1_com_example_tight_tree_tighttree_Block_placings.other W2 (Or.inr (slot_ne (Or.inl (hw _ (List.mem_of_getElem? (i := 18) rfl))) (Or.inl (hw _ (List.mem_of_getElem? (i := 25) rfl))) (by decide) (t := (.array .int)) (t' := .int) (by decide) (by decide)))
  have f2_fF_b1_com_example_tight_tree_tighttree_Block_rootY : Fld Z h2 b1 "com/example/tight_tree/tighttree/Block" "rootY" "I" (.int u1) := f1_fF_b1_com_example_tight_tree_tighttree_Block_rootY.same W2
  have f2_fF_b1_com_example_tight_tree_tighttree_Block_rootX : Fld Z h2 b1 "com/example/tight_tree/tighttree/Block" "rootX" "I" (.int u0) := f1_fF_b1_com_example_tight_tree_tighttree_Block_rootX.other W2 (Or.inr (slot_ne (Or.inl (hw _ (List.mem_of_getElem? (i := 27) rfl))) (Or.inl (hw _ (List.mem_of_getElem? (i := 25) rfl))) (by decide) (t := .int) (t' := .int) (by decide) (by decide)))
  have K2 := K1.wr W2 fKN_b1
  have Z2 : n0 ≤ h2.size := Nat.le_trans Z1 (Nat.le_of_eq W2.size.symm)
  have N2 := Fr.snoc X2 N1 fG_b1
  obtain ⟨fs, hr, hrun, hended, hW, hsame⟩ := X2.leave (v := none) (fun _ => rfl)
  refine ⟨_, _, pre0 _ ?_, hrun, hended, _, _, rfl, ?_, ⟨_, rfl⟩, hW, hsame.mono (by decide) (by decide)⟩
  · show Steps p.tables e below (s₁.setTop (mkF m 0 #[.val (.ref b1), .val (.int u0), .val (.int u1)] [])) _
    refine XS.aloadN X0.here hx rfl (hb hby d_prog_7_method_9_code_0) rfl rfl ?_
    show Steps p.tables e below (s₁.setTop (mkF m 1 #[.val (.ref b1), .val (.int u0), .val (.int u1)] [(.ref b1)])) _
    refine XS.iloadN X0.here hx rfl (hb hby d_prog_7_method_9_code_1) rfl ?_
    show Steps p.tables e below (s₁.setTop (mkF m 2 #[.val (.ref b1), .val (.int u0), .val (.int u1)] [(.int u0), (.ref b1)])) _
    refine st1 _ ?_
    show Steps p.tables e below (T1.setTop (mkF m 5 #[.val (.ref b1), .val (.int u0), .val (.int u1)] [])) _
    refine XS.aloadN X1.here hx rfl (hb hby d_prog_7_method_9_code_5) rfl rfl ?_
    show Steps p.tables e below (T1.setTop (mkF m 6 #[.val (.ref b1), .val (.int u0), .val (.int u1)] [(.ref b1)])) _
    refine XS.iloadN X1.here hx rfl (hb hby d_prog_7_method_9_code_6) rfl ?_
    show Steps p.tables e below (T1.setTop (mkF m 7 #[.val (.ref b1), .val (.int u0), .val (.int u1)] [(.int u1), (.ref b1)])) _
    refine st2 _ ?_
    show Steps p.tables e below (T2.setTop (mkF m 10 #[.val (.ref b1), .val (.int u0), .val (.int u1)] [])) _
    exact X2.returnOut hx Bd.returns (hb hby d_prog_7_method_9_code_10) hr
  · show Q_rm_setRoot_4 Z w κ n0 u0 u1 b1 _ T2.heap _
    rw [e2]
    exact ⟨rfl, N2, Z2, K2, f2_fE_b1, f2_fF_b1_com_example_tight_tree_tighttree_Block_nodes, f2_fF_b1_com_example_tight_tree_tighttree_Block_parts, f2_fF_b1_com_example_tight_tree_tighttree_Block_placings, f2_fF_b1_com_example_tight_tree_tighttree_Block_rootY, f2_fF_b1_com_example_tight_tree_tighttree_Block_rootX⟩
theorem pd_28II29V : parseMethodDescriptor "(II)V" = some ⟨[.int, .int], none⟩ := by decide +kernel
set_option maxRecDepth 65536 in
set_option maxHeartbeats 40000000 in
theorem rm_rootY_5 (l : Launch) (Z : State) (a0 : Array Value) (hw : ∀ d ∈ tables_1, d.before a0 Z = true) (w : Nat → Addr) (κ : Nat → ClassId) (h0 : Heap) (n0 : Nat) (Z0 : n0 ≤ h0.size) (K : Kon Z h0 w κ) (u0 u1 : Int32) (b1 : Addr) (fF_b1_com_example_tight_tree_tighttree_Block_rootY : Fld Z h0 b1 "com/example/tight_tree/tighttree/Block" "rootY" "I" (.int u1)) :
    OM l Z (⟨"com/example/tight_tree/tighttree/Block", "rootY", "(Z)I"⟩ : MethodName) prog_7_method_13_code 2 (some .int) [] ({ frames := 0, cells := 0, slots := 0, locals := 0 } : Room) #[(.ref b1), (.int (0 : Int32))] h0 (OP (some (.int u1)) n0 h0) := by
  refine MetFree.of_bodySF (plainFor_of_name pn_com_example_tight_tree_tighttree_Block) hisR ?_
  intro p e s m args below meth c s₁ Bd hml0 hP hK
  obtain ⟨rfl, hZ, hh⟩ := hP
  have hx := Bd.exec
  have hby := Bd.bytes
  have hml : c.maxLocals = 2 := hml0
  have hown : s.vm.findClass "com/example/tight_tree/tighttree/Block" = some m.cls := findClass_of_methodNamed Bd.named
  have hnm := (name_of_methodNamed Bd.named Bd.method).1
  have X0 : Stand p l e ({ frames := 0, cells := 0, slots := 0, locals := 0 } : Room) s m #[(.ref b1), (.int (0 : Int32))] below meth c s₁ [] 0 0 := Stand.of_body Bd
  have e0 : s₁.heap = h0 := by rw [← hh, Bd.state]; rfl
  have N0 := Fr.nil n0
  have pre0 : ∀ t, Steps p.tables e below (s₁.setTop (mkF m 0 #[.val (.ref b1), .val (.int (0 : Int32))] [])) t → Steps p.tables e below (s₁.setTop (entryFrame m #[(.ref b1), (.int (0 : Int32))] 2)) t := fun t k => castTop (by first | rfl | simp [entryFrame, mkF, argsToLocals, Value.category]) k
  obtain ⟨T1, X1, e1, st1⟩ := getF X0 hx hZ hown (host := "") (Or.inl (hw _ (List.mem_of_getElem? (i := 24) rfl))) Via.refl e0 fF_b1_com_example_tight_tree_tighttree_Block_rootY (g := (mkF m 12 #[.val (.ref b1), .val (.int (0 : Int32))] [(.ref b1)])) rfl rfl (hb hby d_prog_7_method_13_code_12)
  obtain ⟨fs, hr, hrun, hended, hW, hsame⟩ := X1.leave (v := (some (.int u1))) (fun h => by rw [Bd.returns] at h; cases h)
  refine ⟨_, _, pre0 _ ?_, hrun, hended, _, _, rfl, ?_, ⟨_, rfl⟩, hW, hsame.mono (by decide) (by decide)⟩
  · show Steps p.tables e below (s₁.setTop (mkF m 0 #[.val (.ref b1), .val (.int (0 : Int32))] [])) _
    refine XS.iloadN X0.here hx rfl (hb hby d_prog_7_method_13_code_0) rfl ?_
    show Steps p.tables e below (s₁.setTop (mkF m 1 #[.val (.ref b1), .val (.int (0 : Int32))] [(.int (0 : Int32))])) _
    refine XS.ifYes X0.here hx rfl (pc0 := 1) (pc' := 11) rfl (hb hby d_prog_7_method_13_code_1) rfl ((if0 _ _).trans (teq (by decide : (0 : Int32) = (0 : Int32))).1) (by decide) (by decide) ?_
    show Steps p.tables e below (s₁.setTop (mkF m 11 #[.val (.ref b1), .val (.int (0 : Int32))] [])) _
    refine XS.aloadN X0.here hx rfl (hb hby d_prog_7_method_13_code_11) rfl rfl ?_
    show Steps p.tables e below (s₁.setTop (mkF m 12 #[.val (.ref b1), .val (.int (0 : Int32))] [(.ref b1)])) _
    refine st1 _ ?_
    show Steps p.tables e below (T1.setTop (mkF m 15 #[.val (.ref b1), .val (.int (0 : Int32))] [(.int u1)])) _
    exact retI X1 hx Bd.returns (hb hby d_prog_7_method_13_code_15) hr
  · exact ⟨rfl, N0, e1⟩
set_option maxRecDepth 65536 in
set_option maxHeartbeats 40000000 in
theorem rm_rootY_6 (l : Launch) (Z : State) (a0 : Array Value) (hw : ∀ d ∈ tables_1, d.before a0 Z = true) (w : Nat → Addr) (κ : Nat → ClassId) (h0 : Heap) (n0 : Nat) (Z0 : n0 ≤ h0.size) (K : Kon Z h0 w κ) (u0 u1 : Int32) (b1 : Addr) (fF_b1_com_example_tight_tree_tighttree_Block_rootX : Fld Z h0 b1 "com/example/tight_tree/tighttree/Block" "rootX" "I" (.int u0)) :
    OM l Z (⟨"com/example/tight_tree/tighttree/Block", "rootY", "(Z)I"⟩ : MethodName) prog_7_method_13_code 2 (some .int) [] ({ frames := 0, cells := 0, slots := 0, locals := 0 } : Room) #[(.ref b1), (.int (1 : Int32))] h0 (OP (some (.int u0)) n0 h0) := by
  refine MetFree.of_bodySF (plainFor_of_name pn_com_example_tight_tree_tighttree_Block) hisR ?_
  intro p e s m args below meth c s₁ Bd hml0 hP hK
  obtain ⟨rfl, hZ, hh⟩ := hP
  have hx := Bd.exec
  have hby := Bd.bytes
  have hml : c.maxLocals = 2 := hml0
  have hown : s.vm.findClass "com/example/tight_tree/tighttree/Block" = some m.cls := findClass_of_methodNamed Bd.named
  have hnm := (name_of_methodNamed Bd.named Bd.method).1
  have X0 : Stand p l e ({ frames := 0, cells := 0, slots := 0, locals := 0 } : Room) s m #[(.ref b1), (.int (1 : Int32))] below meth c s₁ [] 0 0 := Stand.of_body Bd
  have e0 : s₁.heap = h0 := by rw [← hh, Bd.state]; rfl
  have N0 := Fr.nil n0
  have pre0 : ∀ t, Steps p.tables e below (s₁.setTop (mkF m 0 #[.val (.ref b1), .val (.int (1 : Int32))] [])) t → Steps p.tables e below (s₁.setTop (entryFrame m #[(.ref b1), (.int (1 : Int32))] 2)) t := fun t k => castTop (by first | rfl | simp [entryFrame, mkF, argsToLocals, Value.category]) k
  obtain ⟨T1, X1, e1, st1⟩ := getF X0 hx hZ hown (host := "") (Or.inl (hw _ (List.mem_of_getElem? (i := 26) rfl))) Via.refl e0 fF_b1_com_example_tight_tree_tighttree_Block_rootX (g := (mkF m 5 #[.val (.ref b1), .val (.int (1 : Int32))] [(.ref b1)])) rfl rfl (hb hby d_prog_7_method_13_code_5)
  obtain ⟨fs, hr, hrun, hended, hW, hsame⟩ := X1.leave (v := (some (.int u0))) (fun h => by rw [Bd.returns] at h; cases h)
  refine ⟨_, _, pre0 _ ?_, hrun, hended, _, _, rfl, ?_, ⟨_, rfl⟩, hW, hsame.mono (by decide) (by decide)⟩
  · show Steps p.tables e below (s₁.setTop (mkF m 0 #[.val (.ref b1), .val (.int (1 : Int32))] [])) _
    refine XS.iloadN X0.here hx rfl (hb hby d_prog_7_method_13_code_0) rfl ?_
    show Steps p.tables e below (s₁.setTop (mkF m 1 #[.val (.ref b1), .val (.int (1 : Int32))] [(.int (1 : Int32))])) _
    refine XS.ifNo X0.here hx rfl (hb hby d_prog_7_method_13_code_1) rfl ((if0 _ _).trans (feq (by decide : ¬ ((1 : Int32) = (0 : Int32)))).1) ?_
    show Steps p.tables e below (s₁.setTop (mkF m 4 #[.val (.ref b1), .val (.int (1 : Int32))] [])) _
    refine XS.aloadN X0.here hx rfl (hb hby d_prog_7_method_13_code_4) rfl rfl ?_
    show Steps p.tables e below (s₁.setTop (mkF m 5 #[.val (.ref b1), .val (.int (1 : Int32))] [(.ref b1)])) _
    refine st1 _ ?_
    show Steps p.tables e below (T1.setTop (mkF m 8 #[.val (.ref b1), .val (.int (1 : Int32))] [(.int u0)])) _
    refine XS.goto X1.here hx rfl (pc0 := 8) (pc' := 15) rfl (hb hby d_prog_7_method_13_code_8) (by decide) (by decide) ?_
    show Steps p.tables e below (T1.setTop (mkF m 15 #[.val (.ref b1), .val (.int (1 : Int32))] [(.int u0)])) _
    exact retI X1 hx Bd.returns (hb hby d_prog_7_method_13_code_15) hr
  · exact ⟨rfl, N0, e1⟩
theorem d_prog_7_method_12_code_0 : decode prog_7_method_12_code 0 = .ok (.iload_n 1, 1) := by decide +kernel
theorem d_prog_7_method_12_code_1 : decode prog_7_method_12_code 1 = .ok (.ifCond .eq 10, 3) := by decide +kernel
theorem d_prog_7_method_12_code_11 : decode prog_7_method_12_code 11 = .ok (.aload_n 0, 1) := by decide +kernel
theorem d_prog_7_method_12_code_12 : decode prog_7_method_12_code 12 = .ok (.getfield 95, 3) := by decide +kernel
theorem d_prog_7_method_12_code_15 : decode prog_7_method_12_code 15 = .ok (.ireturn, 1) := by decide +kernel
set_option maxRecDepth 65536 in
set_option maxHeartbeats 40000000 in
theorem rm_rootX_7 (l : Launch) (Z : State) (a0 : Array Value) (hw : ∀ d ∈ tables_1, d.before a0 Z = true) (w : Nat → Addr) (κ : Nat → ClassId) (h0 : Heap) (n0 : Nat) (Z0 : n0 ≤ h0.size) (K : Kon Z h0 w κ) (u0 u1 : Int32) (b1 : Addr) (fF_b1_com_example_tight_tree_tighttree_Block_rootX : Fld Z h0 b1 "com/example/tight_tree/tighttree/Block" "rootX" "I" (.int u0)) :
    OM l Z (⟨"com/example/tight_tree/tighttree/Block", "rootX", "(Z)I"⟩ : MethodName) prog_7_method_12_code 2 (some .int) [] ({ frames := 0, cells := 0, slots := 0, locals := 0 } : Room) #[(.ref b1), (.int (0 : Int32))] h0 (OP (some (.int u0)) n0 h0) := by
  refine MetFree.of_bodySF (plainFor_of_name pn_com_example_tight_tree_tighttree_Block) hisR ?_
  intro p e s m args below meth c s₁ Bd hml0 hP hK
  obtain ⟨rfl, hZ, hh⟩ := hP
  have hx := Bd.exec
  have hby := Bd.bytes
  have hml : c.maxLocals = 2 := hml0
  have hown : s.vm.findClass "com/example/tight_tree/tighttree/Block" = some m.cls := findClass_of_methodNamed Bd.named
  have hnm := (name_of_methodNamed Bd.named Bd.method).1
  have X0 : Stand p l e ({ frames := 0, cells := 0, slots := 0, locals := 0 } : Room) s m #[(.ref b1), (.int (0 : Int32))] below meth c s₁ [] 0 0 := Stand.of_body Bd
  have e0 : s₁.heap = h0 := by rw [← hh, Bd.state]; rfl
  have N0 := Fr.nil n0
  have pre0 : ∀ t, Steps p.tables e below (s₁.setTop (mkF m 0 #[.val (.ref b1), .val (.int (0 : Int32))] [])) t → Steps p.tables e below (s₁.setTop (entryFrame m #[(.ref b1), (.int (0 : Int32))] 2)) t := fun t k => castTop (by first | rfl | simp [entryFrame, mkF, argsToLocals, Value.category]) k
  obtain ⟨T1, X1, e1, st1⟩ := getF X0 hx hZ hown (host := "") (Or.inl (hw _ (List.mem_of_getElem? (i := 26) rfl))) Via.refl e0 fF_b1_com_example_tight_tree_tighttree_Block_rootX (g := (mkF m 12 #[.val (.ref b1), .val (.int (0 : Int32))] [(.ref b1)])) rfl rfl (hb hby d_prog_7_method_12_code_12)
  obtain ⟨fs, hr, hrun, hended, hW, hsame⟩ := X1.leave (v := (some (.int u0))) (fun h => by rw [Bd.returns] at h; cases h)
  refine ⟨_, _, pre0 _ ?_, hrun, hended, _, _, rfl, ?_, ⟨_, rfl⟩, hW, hsame.mono (by decide) (by decide)⟩
  · show Steps p.tables e below (s₁.setTop (mkF m 0 #[.val (.ref b1), .val (.int (0 : Int32))] [])) _
    refine XS.iloadN X0.here hx rfl (hb hby d_prog_7_method_12_code_0) rfl ?_
    show Steps p.tables e below (s₁.setTop (mkF m 1 #[.val (.ref b1), .val (.int (0 : Int32))] [(.int (0 : Int32))])) _
    refine XS.ifYes X0.here hx rfl (pc0 := 1) (pc' := 11) rfl (hb hby d_prog_7_method_12_code_1) rfl ((if0 _ _).trans (teq (by decide : (0 : Int32) = (0 : Int32))).1) (by decide) (by decide) ?_
    show Steps p.tables e below (s₁.setTop (mkF m 11 #[.val (.ref b1), .val (.int (0 : Int32))] [])) _
    refine XS.aloadN X0.here hx rfl (hb hby d_prog_7_method_12_code_11) rfl rfl ?_
    show Steps p.tables e below (s₁.setTop (mkF m 12 #[.val (.ref b1), .val (.int (0 : Int32))] [(.ref b1)])) _
    refine st1 _ ?_
    show Steps p.tables e below (T1.setTop (mkF m 15 #[.val (.ref b1), .val (.int (0 : Int32))] [(.int u0)])) _
    exact retI X1 hx Bd.returns (hb hby d_prog_7_method_12_code_15) hr
  · exact ⟨rfl, N0, e1⟩
theorem d_prog_7_method_12_code_4 : decode prog_7_method_12_code 4 = .ok (.aload_n 0, 1) := by decide +kernel
theorem d_prog_7_method_12_code_5 : decode prog_7_method_12_code 5 = .ok (.getfield 98, 3) := by decide +kernel
theorem d_prog_7_method_12_code_8 : decode prog_7_method_12_code 8 = .ok (.goto 7, 3) := by decide +kernel
set_option maxRecDepth 65536 in
set_option maxHeartbeats 40000000 in
theorem rm_rootX_8 (l : Launch) (Z : State) (a0 : Array Value) (hw : ∀ d ∈ tables_1, d.before a0 Z = true) (w : Nat → Addr) (κ : Nat → ClassId) (h0 : Heap) (n0 : Nat) (Z0 : n0 ≤ h0.size) (K : Kon Z h0 w κ) (u0 u1 : Int32) (b1 : Addr) (fF_b1_com_example_tight_tree_tighttree_Block_rootY : Fld Z h0 b1 "com/example/tight_tree/tighttree/Block" "rootY" "I" (.int u1)) :
    OM l Z (⟨"com/example/tight_tree/tighttree/Block", "rootX", "(Z)I"⟩ : MethodName) prog_7_method_12_code 2 (some .int) [] ({ frames := 0, cells := 0, slots := 0, locals := 0 } : Room) #[(.ref b1), (.int (1 : Int32))] h0 (OP (some (.int u1)) n0 h0) := by
  refine MetFree.of_bodySF (plainFor_of_name pn_com_example_tight_tree_tighttree_Block) hisR ?_
  intro p e s m args below meth c s₁ Bd hml0 hP hK
  obtain ⟨rfl, hZ, hh⟩ := hP
  have hx := Bd.exec
  have hby := Bd.bytes
  have hml : c.maxLocals = 2 := hml0
  have hown : s.vm.findClass "com/example/tight_tree/tighttree/Block" = some m.cls := findClass_of_methodNamed Bd.named
  have hnm := (name_of_methodNamed Bd.named Bd.method).1
  have X0 : Stand p l e ({ frames := 0, cells := 0, slots := 0, locals := 0 } : Room) s m #[(.ref b1), (.int (1 : Int32))] below meth c s₁ [] 0 0 := Stand.of_body Bd
  have e0 : s₁.heap = h0 := by rw [← hh, Bd.state]; rfl
  have N0 := Fr.nil n0
  have pre0 : ∀ t, Steps p.tables e below (s₁.setTop (mkF m 0 #[.val (.ref b1), .val (.int (1 : Int32))] [])) t → Steps p.tables e below (s₁.setTop (entryFrame m #[(.ref b1), (.int (1 : Int32))] 2)) t := fun t k => castTop (by first | rfl | simp [entryFrame, mkF, argsToLocals, Value.category]) k
  obtain ⟨T1, X1, e1, st1⟩ := getF X0 hx hZ hown (host := "") (Or.inl (hw _ (List.mem_of_getElem? (i := 24) rfl))) Via.refl e0 fF_b1_com_example_tight_tree_tighttree_Block_rootY (g := (mkF m 5 #[.val (.ref b1), .val (.int (1 : Int32))] [(.ref b1)])) rfl rfl (hb hby d_prog_7_method_12_code_5)
  obtain ⟨fs, hr, hrun, hended, hW, hsame⟩ := X1.leave (v := (some (.int u1))) (fun h => by rw [Bd.returns] at h; cases h)
  refine ⟨_, _, pre0 _ ?_, hrun, hended, _, _, rfl, ?_, ⟨_, rfl⟩, hW, hsame.mono (by decide) (by decide)⟩
  · show Steps p.tables e below (s₁.setTop (mkF m 0 #[.val (.ref b1), .val (.int (1 : Int32))] [])) _
    refine XS.iloadN X0.here hx rfl (hb hby d_prog_7_method_12_code_0) rfl ?_
    show Steps p.tables e below (s₁.setTop (mkF m 1 #[.val (.ref b1), .val (.int (1 : Int32))] [(.int (1 : Int32))])) _
    refine XS.ifNo X0.here hx rfl (hb hby d_prog_7_method_12_code_1) rfl ((if0 _ _).trans (feq (by decide : ¬ ((1 : Int32) = (0 : Int32)))).1) ?_
    show Steps p.tables e below (s₁.setTop (mkF m 4 #[.val (.ref b1), .val (.int (1 : Int32))] [])) _
    refine XS.aloadN X0.here hx rfl (hb hby d_prog_7_method_12_code_4) rfl rfl ?_
    show Steps p.tables e below (s₁.setTop (mkF m 5 #[.val (.ref b1), .val (.int (1 : Int32))] [(.ref b1)])) _
    refine st1 _ ?_
    show Steps p.tables e below (T1.setTop (mkF m 8 #[.val (.ref b1), .val (.int (1 : Int32))] [(.int u1)])) _
    refine XS.goto X1.here hx rfl (pc0 := 8) (pc' := 15) rfl (hb hby d_prog_7_method_12_code_8) (by decide) (by decide) ?_
    show Steps p.tables e below (T1.setTop (mkF m 15 #[.val (.ref b1), .val (.int (1 : Int32))] [(.int u1)])) _
    exact retI X1 hx Bd.returns (hb hby d_prog_7_method_12_code_15) hr
  · exact ⟨rfl, N0, e1⟩
theorem pn_com_example_tight_tree_tighttree_BlockRootYPinLaw : plainName "com/example/tight_tree/tighttree/BlockRootYPinLaw" = true := by first | (simp [plainName, overriddenIn]; done) | decide +kernel
set_option maxRecDepth 65536 in
set_option maxHeartbeats 40000000 in
theorem rm0_9 (l : Launch) (Z : State) (a0 : Array Value) (hw : ∀ d ∈ tables_1, d.before a0 Z = true) (w : Nat → Addr) (κ : Nat → ClassId) (h0 : Heap) (n0 : Nat) (Z0 : n0 ≤ h0.size) (K : Kon Z h0 w κ) (u0 u1 : Int32) :
    OM l Z x code maxLocals ret tables_1 room_1 #[(.int u0), (.int u1)] h0 (OF (some (.int (1 : Int32))) n0) := by
  refine MetFree.of_bodySF (plainFor_of_name pn_com_example_tight_tree_tighttree_BlockRootYPinLaw) hisR ?_
  intro p e s m args below meth c s₁ Bd hml0 hP hK
  obtain ⟨rfl, hZ, hh⟩ := hP
  have hx := Bd.exec
  have hby := Bd.bytes
  have hml : c.maxLocals = 8 := hml0
  have hown : s.vm.findClass "com/example/tight_tree/tighttree/BlockRootYPinLaw" = some m.cls := findClass_of_methodNamed Bd.named
  have hnm := (name_of_methodNamed Bd.named Bd.method).1
  have X0 : Stand p l e room_1 s m #[(.int u0), (.int u1)] below meth c s₁ [] 0 0 := Stand.of_body Bd
  have e0 : s₁.heap = h0 := by rw [← hh, Bd.state]; rfl
  have N0 := Fr.nil n0
  have pre0 : ∀ t, Steps p.tables e below (s₁.setTop (mkF m 0 #[.val (.int u0), .val (.int u1), .unset, .unset, .unset, .unset, .unset, .unset] [])) t → Steps p.tables e below (s₁.setTop (entryFrame m #[(.int u0), (.int u1)] maxLocals)) t := fun t k => castTop (by first | rfl | simp [entryFrame, mkF, argsToLocals, Value.category, maxLocals]) k
  obtain ⟨T1, h1, X1, e1, E1, A1, D1, -, st1⟩ := newO X0 hx hZ hown (hw _ (List.mem_of_getElem? (i := 0) rfl)) (hw _ (List.mem_of_getElem? (i := 1) rfl)) (hw _ (List.mem_of_getElem? (i := 2) rfl)) e0 (g := (mkF m 0 #[.val (.int u0), .val (.int u1), .unset, .unset, .unset, .unset, .unset, .unset] [])) rfl (hb hby at_0) (by decide) (by decide)
  obtain ⟨b1, g1⟩ : ∃ z, z = h0.size := ⟨_, rfl⟩
  rw [← g1] at A1 D1 st1
  have hG1 : n0 ≤ b1 := Nat.le_trans Z0 (Nat.le_of_eq g1.symm)
  have hKN1 : ∀ i, i < 2 → w i ≠ b1 := fun i hi => by rw [g1]; exact Nat.ne_of_lt (K.lt i hi)
  have K1 := K.ext E1
  have Z1 : n0 ≤ h1.size := Nat.le_trans Z0 E1.1
  have f1_nodes : Fld Z h1 b1 "com/example/tight_tree/tighttree/Block" "nodes" "[I" .null := D1 (Or.inl (hw _ (List.mem_of_getElem? (i := 12) rfl))) (ty := (.array .int)) (by decide)
  have f1_parts : Fld Z h1 b1 "com/example/tight_tree/tighttree/Block" "parts" "[Lcom/example/tight_tree/tighttree/Block;" .null := D1 (Or.inl (hw _ (List.mem_of_getElem? (i := 16) rfl))) (ty := (.array (.object "com/example/tight_tree/tighttree/Block"))) (by decide)
  have f1_placings : Fld Z h1 b1 "com/example/tight_tree/tighttree/Block" "placings" "[I" .null := D1 (Or.inl (hw _ (List.mem_of_getElem? (i := 18) rfl))) (ty := (.array .int)) (by decide)
  have f1_rootY : Fld Z h1 b1 "com/example/tight_tree/tighttree/Block" "rootY" "I" (.int (0 : Int32)) := D1 (Or.inl (hw _ (List.mem_of_getElem? (i := 25) rfl))) (ty := .int) (by decide)
  have f1_rootX : Fld Z h1 b1 "com/example/tight_tree/tighttree/Block" "rootX" "I" (.int (0 : Int32)) := D1 (Or.inl (hw _ (List.mem_of_getElem? (i := 27) rfl))) (ty := .int) (by decide)
  obtain ⟨_, _, ⟨T2, L2, kk2, n2⟩, -, X2, ⟨Lc2, hQ2, l2, y2, z2⟩, st2⟩ := X1.specialBack hx (y := (⟨"com/example/tight_tree/tighttree/Block", "<init>", "()V"⟩ : MethodName)) rfl hown (mvT hZ (hw _ (List.mem_of_getElem? (i := 3) rfl))) (mvT hZ (hw _ (List.mem_of_getElem? (i := 4) rfl))) (mvT hZ (hw _ (List.mem_of_getElem? (i := 5) rfl))) (by decide) (backOf (W := 1) (rm__init__1 l Z a0 hw w κ h1 n0 Z1 K1 u0 u1 b1 A1 f1_nodes f1_parts f1_placings f1_rootY f1_rootX hG1 hKN1) hZ (hw _ (List.mem_of_getElem? (i := 5) rfl)) (hw _ (List.mem_of_getElem? (i := 2) rfl)) (by decide) (by decide)) (g := (mkF m 4 #[.val (.int u0), .val (.int u1), .unset, .unset, .unset, .unset, .unset, .unset] [(.ref b1), (.ref b1)])) rfl (by rw [hml]; rfl) (Steps.refl _) (a := b1) (argsL := []) (rest := [(.ref b1)]) (lenOf pd_2829V rfl) rfl (by show 2 * 0 + _ ≤ _; exact Nat.le_of_eq rfl) (hb hby at_4) (fun _ _ => ⟨rfl, e1, (by decide : 1 + 0 ≤ _), (by decide : 12 + 0 ≤ _)⟩)
  dsimp only [Pt.U, Pt.locs, Pt.cells, Pt.slots] at X2 l2 y2 z2 st2 hQ2
  subst l2 y2 z2
  obtain ⟨rfl, N2q, Z2, K2, f2_0, f2_1, f2_2, f2_3, f2_4, f2_5⟩ := hQ2
  have N2 := Fr.app N0 N2q
  obtain ⟨cq3, kq3, qa3, qb3, qc3⟩ := isOf hZ rfl f2_0
  obtain ⟨_, _, ⟨T3, L3, kk3, n3⟩, -, X3, ⟨Lc3, hQ3, l3, y3, z3⟩, st3⟩ := X2.virtualBack hx (y := (⟨"com/example/tight_tree/tighttree/Block", "rootY", "(Z)I"⟩ : MethodName)) (z := (⟨"com/example/tight_tree/tighttree/Block", "rootY", "(Z)I"⟩ : MethodName)) hown (mvT hZ (hw _ (List.mem_of_getElem? (i := 19) rfl))) (mvT hZ (hw _ (List.mem_of_getElem? (i := 20) rfl))) (notFace_of_selects (args := #[]) (mvT hZ (hw _ (List.mem_of_getElem? (i := 22) rfl)))) (mvT hZ (hw _ (List.mem_of_getElem? (i := 22) rfl))) (mvT hZ (hw _ (List.mem_of_getElem? (i := 21) rfl))) (by decide) (backOf (W := 0) (rm_rootY_2 l Z a0 hw w κ T2.heap n0 Z2 K2 u0 u1 b1 f2_4) hZ (hw _ (List.mem_of_getElem? (i := 23) rfl)) (hw _ (List.mem_of_getElem? (i := 2) rfl)) (by decide) (by decide)) qa3 qc3 (g := (mkF m 10 #[.val (.int u0), .val (.int u1), .val (.ref b1), .unset, .unset, .unset, .unset, .unset] [(.int (0 : Int32)), (.ref b1)])) rfl (by rw [hml]; rfl) (Steps.refl _) (argsL := [(.int (0 : Int32))]) (rest := []) (lenOf pd_28Z29I rfl) rfl (by show 2 * 0 + _ ≤ _; exact Nat.le_of_eq rfl) (hb hby at_10) (fun _ _ => ⟨rfl, rfl, (by decide : 1 + 0 ≤ _), (by decide : 12 + 0 ≤ _)⟩)
  dsimp only [Pt.U, Pt.locs, Pt.cells, Pt.slots] at X3 l3 y3 z3 st3 hQ3
  subst l3 y3 z3
  obtain ⟨rfl, N3q, e3⟩ := hQ3
  have N3 := Fr.app N2 N3q
  obtain ⟨cq4, kq4, qa4, qb4, qc4⟩ := isOf hZ e3 f2_0
  obtain ⟨_, _, ⟨T4, L4, kk4, n4⟩, -, X4, ⟨Lc4, hQ4, l4, y4, z4⟩, st4⟩ := X3.virtualBack hx (y := (⟨"com/example/tight_tree/tighttree/Block", "rootY", "(Z)I"⟩ : MethodName)) (z := (⟨"com/example/tight_tree/tighttree/Block", "rootY", "(Z)I"⟩ : MethodName)) hown (mvT hZ (hw _ (List.mem_of_getElem? (i := 19) rfl))) (mvT hZ (hw _ (List.mem_of_getElem? (i := 20) rfl))) (notFace_of_selects (args := #[]) (mvT hZ (hw _ (List.mem_of_getElem? (i := 22) rfl)))) (mvT hZ (hw _ (List.mem_of_getElem? (i := 22) rfl))) (mvT hZ (hw _ (List.mem_of_getElem? (i := 21) rfl))) (by decide) (backOf (W := 0) (rm_rootY_3 l Z a0 hw w κ T2.heap n0 Z2 K2 u0 u1 b1 f2_5) hZ (hw _ (List.mem_of_getElem? (i := 23) rfl)) (hw _ (List.mem_of_getElem? (i := 2) rfl)) (by decide) (by decide)) qa4 qc4 (g := (mkF m 18 #[.val (.int u0), .val (.int u1), .val (.ref b1), .unset, .unset, .unset, .unset, .unset] [(.int (1 : Int32)), (.ref b1)])) rfl (by rw [hml]; rfl) (Steps.refl _) (argsL := [(.int (1 : Int32))]) (rest := []) (lenOf pd_28Z29I rfl) rfl (by show 2 * 0 + _ ≤ _; exact Nat.le_of_eq rfl) (hb hby at_18) (fun _ _ => ⟨rfl, e3, (by decide : 1 + 0 ≤ _), (by decide : 12 + 0 ≤ _)⟩)
  dsimp only [Pt.U, Pt.locs, Pt.cells, Pt.slots] at X4 l4 y4 z4 st4 hQ4
  subst l4 y4 z4
  obtain ⟨rfl, N4q, e4⟩ := hQ4
  have N4 := Fr.app N3 N4q
  obtain ⟨cq5, kq5, qa5, qb5, qc5⟩ := isOf hZ e4 f2_0
  obtain ⟨_, _, ⟨T5, L5, kk5, n5⟩, -, X5, ⟨Lc5, hQ5, l5, y5, z5⟩, st5⟩ := X4.virtualBack hx (y := (⟨"com/example/tight_tree/tighttree/Block", "setRoot", "(II)V"⟩ : MethodName)) (z := (⟨"com/example/tight_tree/tighttree/Block", "setRoot", "(II)V"⟩ : MethodName)) hown (mvT hZ (hw _ (List.mem_of_getElem? (i := 28) rfl))) (mvT hZ (hw _ (List.mem_of_getElem? (i := 29) rfl))) (notFace_of_selects (args := #[]) (mvT hZ (hw _ (List.mem_of_getElem? (i := 31) rfl)))) (mvT hZ (hw _ (List.mem_of_getElem? (i := 31) rfl))) (mvT hZ (hw _ (List.mem_of_getElem? (i := 30) rfl))) (by decide) (backOf (W := 0) (rm_setRoot_4 l Z a0 hw w κ T2.heap n0 Z2 K2 u0 u1 b1 f2_0 f2_1 f2_2 f2_3 f2_4 f2_5 hG1 hKN1) hZ (hw _ (List.mem_of_getElem? (i := 32) rfl)) (hw _ (List.mem_of_getElem? (i := 2) rfl)) (by decide) (by decide)) qa5 qc5 (g := (mkF m 33 #[.val (.int u0), .val (.int u1), .val (.ref b1), .val (.int (1 : Int32)), .unset, .unset, .unset, .unset] [(.int u1), (.int u0), (.ref b1)])) rfl (by rw [hml]; rfl) (Steps.refl _) (argsL := [(.int u0), (.int u1)]) (rest := []) (lenOf pd_28II29V rfl) rfl (by show 2 * 0 + _ ≤ _; exact Nat.le_of_eq rfl) (hb hby at_33) (fun _ _ => ⟨rfl, e4, (by decide : 1 + 0 ≤ _), (by decide : 12 + 0 ≤ _)⟩)
  dsimp only [Pt.U, Pt.locs, Pt.cells, Pt.slots] at X5 l5 y5 z5 st5 hQ5
  subst l5 y5 z5
  obtain ⟨rfl, N5q, Z5, K5, f5_0, f5_1, f5_2, f5_3, f5_4, f5_5⟩ := hQ5
  have N5 := Fr.app N4 N5q
  obtain ⟨cq6, kq6, qa6, qb6, qc6⟩ := isOf hZ rfl f5_0
  obtain ⟨_, _, ⟨T6, L6, kk6, n6⟩, -, X6, ⟨Lc6, hQ6, l6, y6, z6⟩, st6⟩ := X5.virtualBack hx (y := (⟨"com/example/tight_tree/tighttree/Block", "rootY", "(Z)I"⟩ : MethodName)) (z := (⟨"com/example/tight_tree/tighttree/Block", "rootY", "(Z)I"⟩ : MethodName)) hown (mvT hZ (hw _ (List.mem_of_getElem? (i := 19) rfl))) (mvT hZ (hw _ (List.mem_of_getElem? (i := 20) rfl))) (notFace_of_selects (args := #[]) (mvT hZ (hw _ (List.mem_of_getElem? (i := 22) rfl)))) (mvT hZ (hw _ (List.mem_of_getElem? (i := 22) rfl))) (mvT hZ (hw _ (List.mem_of_getElem? (i := 21) rfl))) (by decide) (backOf (W := 0) (rm_rootY_5 l Z a0 hw w κ T5.heap n0 Z5 K5 u0 u1 b1 f5_4) hZ (hw _ (List.mem_of_getElem? (i := 23) rfl)) (hw _ (List.mem_of_getElem? (i := 2) rfl)) (by decide) (by decide)) qa6 qc6 (g := (mkF m 38 #[.val (.int u0), .val (.int u1), .val (.ref b1), .val (.int (1 : Int32)), .unset, .unset, .unset, .unset] [(.int (0 : Int32)), (.ref b1)])) rfl (by rw [hml]; rfl) (Steps.refl _) (argsL := [(.int (0 : Int32))]) (rest := []) (lenOf pd_28Z29I rfl) rfl (by show 2 * 0 + _ ≤ _; exact Nat.le_of_eq rfl) (hb hby at_38) (fun _ _ => ⟨rfl, rfl, (by decide : 1 + 0 ≤ _), (by decide : 12 + 0 ≤ _)⟩)
  dsimp only [Pt.U, Pt.locs, Pt.cells, Pt.slots] at X6 l6 y6 z6 st6 hQ6
  subst l6 y6 z6
  obtain ⟨rfl, N6q, e6⟩ := hQ6
  have N6 := Fr.app N5 N6q
  obtain ⟨cq7, kq7, qa7, qb7, qc7⟩ := isOf hZ e6 f5_0
  obtain ⟨_, _, ⟨T7, L7, kk7, n7⟩, -, X7, ⟨Lc7, hQ7, l7, y7, z7⟩, st7⟩ := X6.virtualBack hx (y := (⟨"com/example/tight_tree/tighttree/Block", "rootY", "(Z)I"⟩ : MethodName)) (z := (⟨"com/example/tight_tree/tighttree/Block", "rootY", "(Z)I"⟩ : MethodName)) hown (mvT hZ (hw _ (List.mem_of_getElem? (i := 19) rfl))) (mvT hZ (hw _ (List.mem_of_getElem? (i := 20) rfl))) (notFace_of_selects (args := #[]) (mvT hZ (hw _ (List.mem_of_getElem? (i := 22) rfl)))) (mvT hZ (hw _ (List.mem_of_getElem? (i := 22) rfl))) (mvT hZ (hw _ (List.mem_of_getElem? (i := 21) rfl))) (by decide) (backOf (W := 0) (rm_rootY_6 l Z a0 hw w κ T5.heap n0 Z5 K5 u0 u1 b1 f5_5) hZ (hw _ (List.mem_of_getElem? (i := 23) rfl)) (hw _ (List.mem_of_getElem? (i := 2) rfl)) (by decide) (by decide)) qa7 qc7 (g := (mkF m 45 #[.val (.int u0), .val (.int u1), .val (.ref b1), .val (.int (1 : Int32)), .val (.int u1), .unset, .unset, .unset] [(.int (1 : Int32)), (.ref b1)])) rfl (by rw [hml]; rfl) (Steps.refl _) (argsL := [(.int (1 : Int32))]) (rest := []) (lenOf pd_28Z29I rfl) rfl (by show 2 * 0 + _ ≤ _; exact Nat.le_of_eq rfl) (hb hby at_45) (fun _ _ => ⟨rfl, e6, (by decide : 1 + 0 ≤ _), (by decide : 12 + 0 ≤ _)⟩)
  dsimp only [Pt.U, Pt.locs, Pt.cells, Pt.slots] at X7 l7 y7 z7 st7 hQ7
  subst l7 y7 z7
  obtain ⟨rfl, N7q, e7⟩ := hQ7
  have N7 := Fr.app N6 N7q
  obtain ⟨cq8, kq8, qa8, qb8, qc8⟩ := isOf hZ e7 f5_0
  obtain ⟨_, _, ⟨T8, L8, kk8, n8⟩, -, X8, ⟨Lc8, hQ8, l8, y8, z8⟩, st8⟩ := X7.virtualBack hx (y := (⟨"com/example/tight_tree/tighttree/Block", "rootX", "(Z)I"⟩ : MethodName)) (z := (⟨"com/example/tight_tree/tighttree/Block", "rootX", "(Z)I"⟩ : MethodName)) hown (mvT hZ (hw _ (List.mem_of_getElem? (i := 33) rfl))) (mvT hZ (hw _ (List.mem_of_getElem? (i := 34) rfl))) (notFace_of_selects (args := #[]) (mvT hZ (hw _ (List.mem_of_getElem? (i := 36) rfl)))) (mvT hZ (hw _ (List.mem_of_getElem? (i := 36) rfl))) (mvT hZ (hw _ (List.mem_of_getElem? (i := 35) rfl))) (by decide) (backOf (W := 1) (rm_rootX_7 l Z a0 hw w κ T5.heap n0 Z5 K5 u0 u1 b1 f5_5) hZ (hw _ (List.mem_of_getElem? (i := 37) rfl)) (hw _ (List.mem_of_getElem? (i := 2) rfl)) (by decide) (by decide)) qa8 qc8 (g := (mkF m 73 #[.val (.int u0), .val (.int u1), .val (.ref b1), .val (.int (1 : Int32)), .val (.int u1), .val (.int u0), .val (.int (1 : Int32)), .unset] [(.int (0 : Int32)), (.ref b1), (.int u0)])) rfl (by rw [hml]; rfl) (Steps.refl _) (argsL := [(.int (0 : Int32))]) (rest := [(.int u0)]) (lenOf pd_28Z29I rfl) rfl (by show 2 * 0 + _ ≤ _; exact Nat.le_of_eq rfl) (hb hby at_73) (fun _ _ => ⟨rfl, e7, (by decide : 1 + 0 ≤ _), (by decide : 12 + 0 ≤ _)⟩)
  dsimp only [Pt.U, Pt.locs, Pt.cells, Pt.slots] at X8 l8 y8 z8 st8 hQ8
  subst l8 y8 z8
  obtain ⟨rfl, N8q, e8⟩ := hQ8
  have N8 := Fr.app N7 N8q
  obtain ⟨cq9, kq9, qa9, qb9, qc9⟩ := isOf hZ e8 f5_0
  obtain ⟨_, _, ⟨T9, L9, kk9, n9⟩, -, X9, ⟨Lc9, hQ9, l9, y9, z9⟩, st9⟩ := X8.virtualBack hx (y := (⟨"com/example/tight_tree/tighttree/Block", "rootX", "(Z)I"⟩ : MethodName)) (z := (⟨"com/example/tight_tree/tighttree/Block", "rootX", "(Z)I"⟩ : MethodName)) hown (mvT hZ (hw _ (List.mem_of_getElem? (i := 33) rfl))) (mvT hZ (hw _ (List.mem_of_getElem? (i := 34) rfl))) (notFace_of_selects (args := #[]) (mvT hZ (hw _ (List.mem_of_getElem? (i := 36) rfl)))) (mvT hZ (hw _ (List.mem_of_getElem? (i := 36) rfl))) (mvT hZ (hw _ (List.mem_of_getElem? (i := 35) rfl))) (by decide) (backOf (W := 1) (rm_rootX_8 l Z a0 hw w κ T5.heap n0 Z5 K5 u0 u1 b1 f5_4) hZ (hw _ (List.mem_of_getElem? (i := 37) rfl)) (hw _ (List.mem_of_getElem? (i := 2) rfl)) (by decide) (by decide)) qa9 qc9 (g := (mkF m 83 #[.val (.int u0), .val (.int u1), .val (.ref b1), .val (.int (1 : Int32)), .val (.int u1), .val (.int u0), .val (.int (1 : Int32)), .unset] [(.int (1 : Int32)), (.ref b1), (.int u1)])) rfl (by rw [hml]; rfl) (Steps.refl _) (argsL := [(.int (1 : Int32))]) (rest := [(.int u1)]) (lenOf pd_28Z29I rfl) rfl (by show 2 * 0 + _ ≤ _; exact Nat.le_of_eq rfl) (hb hby at_83) (fun _ _ => ⟨rfl, e8, (by decide : 1 + 0 ≤ _), (by decide : 12 + 0 ≤ _)⟩)
  dsimp only [Pt.U, Pt.locs, Pt.cells, Pt.slots] at X9 l9 y9 z9 st9 hQ9
  subst l9 y9 z9
  obtain ⟨rfl, N9q, e9⟩ := hQ9
  have N9 := Fr.app N8 N9q
  obtain ⟨fs, hr, hrun, hended, hW, hsame⟩ := X9.leave (v := (some (.int (1 : Int32)))) (fun h => by rw [Bd.returns] at h; cases h)
  refine ⟨_, _, pre0 _ ?_, hrun, hended, _, _, rfl, ?_, ⟨_, rfl⟩, hW, hsame.mono (by decide) (by decide)⟩
  · show Steps p.tables e below (s₁.setTop (mkF m 0 #[.val (.int u0), .val (.int u1), .unset, .unset, .unset, .unset, .unset, .unset] [])) _
    refine st1 _ ?_
    show Steps p.tables e below (T1.setTop (mkF m 3 #[.val (.int u0), .val (.int u1), .unset, .unset, .unset, .unset, .unset, .unset] [(.ref b1)])) _
    refine XS.dup X1.here hx rfl (hb hby at_3) rfl rfl ?_
    show Steps p.tables e below (T1.setTop (mkF m 4 #[.val (.int u0), .val (.int u1), .unset, .unset, .unset, .unset, .unset, .unset] [(.ref b1), (.ref b1)])) _
    refine st2.trans ?_
    show Steps p.tables e below (T2.setTop (mkF m 7 #[.val (.int u0), .val (.int u1), .unset, .unset, .unset, .unset, .unset, .unset] [(.ref b1)])) _
    refine XS.astoreN X2.here hx rfl (hb hby at_7) rfl rfl (l' := #[.val (.int u0), .val (.int u1), .val (.ref b1), .unset, .unset, .unset, .unset, .unset]) rfl ?_
    show Steps p.tables e below (T2.setTop (mkF m 8 #[.val (.int u0), .val (.int u1), .val (.ref b1), .unset, .unset, .unset, .unset, .unset] [])) _
    refine XS.aloadN X2.here hx rfl (hb hby at_8) rfl rfl ?_
    show Steps p.tables e below (T2.setTop (mkF m 9 #[.val (.int u0), .val (.int u1), .val (.ref b1), .unset, .unset, .unset, .unset, .unset] [(.ref b1)])) _
    refine XS.iconst X2.here hx rfl (hb hby at_9) ?_
    show Steps p.tables e below (T2.setTop (mkF m 10 #[.val (.int u0), .val (.int u1), .val (.ref b1), .unset, .unset, .unset, .unset, .unset] [(.int (0 : Int32)), (.ref b1)])) _
    refine st3.trans ?_
    show Steps p.tables e below (T3.setTop (mkF m 13 #[.val (.int u0), .val (.int u1), .val (.ref b1), .unset, .unset, .unset, .unset, .unset] [(.int (0 : Int32))])) _
    refine XS.ifNo X3.here hx rfl (hb hby at_13) rfl ((if0 _ _).trans (teq (by decide : (0 : Int32) = (0 : Int32))).2) ?_
    show Steps p.tables e below (T3.setTop (mkF m 16 #[.val (.int u0), .val (.int u1), .val (.ref b1), .unset, .unset, .unset, .unset, .unset] [])) _
    refine XS.aloadN X3.here hx rfl (hb hby at_16) rfl rfl ?_
    show Steps p.tables e below (T3.setTop (mkF m 17 #[.val (.int u0), .val (.int u1), .val (.ref b1), .unset, .unset, .unset, .unset, .unset] [(.ref b1)])) _
    refine XS.iconst X3.here hx rfl (hb hby at_17) ?_
    show Steps p.tables e below (T3.setTop (mkF m 18 #[.val (.int u0), .val (.int u1), .val (.ref b1), .unset, .unset, .unset, .unset, .unset] [(.int (1 : Int32)), (.ref b1)])) _
    refine st4.trans ?_
    show Steps p.tables e below (T4.setTop (mkF m 21 #[.val (.int u0), .val (.int u1), .val (.ref b1), .unset, .unset, .unset, .unset, .unset] [(.int (0 : Int32))])) _
    refine XS.ifNo X4.here hx rfl (hb hby at_21) rfl ((if0 _ _).trans (teq (by decide : (0 : Int32) = (0 : Int32))).2) ?_
    show Steps p.tables e below (T4.setTop (mkF m 24 #[.val (.int u0), .val (.int u1), .val (.ref b1), .unset, .unset, .unset, .unset, .unset] [])) _
    refine XS.iconst X4.here hx rfl (hb hby at_24) ?_
    show Steps p.tables e below (T4.setTop (mkF m 25 #[.val (.int u0), .val (.int u1), .val (.ref b1), .unset, .unset, .unset, .unset, .unset] [(.int (1 : Int32))])) _
    refine XS.goto X4.here hx rfl (pc0 := 25) (pc' := 29) rfl (hb hby at_25) (by decide) (by decide) ?_
    show Steps p.tables e below (T4.setTop (mkF m 29 #[.val (.int u0), .val (.int u1), .val (.ref b1), .unset, .unset, .unset, .unset, .unset] [(.int (1 : Int32))])) _
    refine XS.istoreN X4.here hx rfl (hb hby at_29) rfl (l' := #[.val (.int u0), .val (.int u1), .val (.ref b1), .val (.int (1 : Int32)), .unset, .unset, .unset, .unset]) rfl ?_
    show Steps p.tables e below (T4.setTop (mkF m 30 #[.val (.int u0), .val (.int u1), .val (.ref b1), .val (.int (1 : Int32)), .unset, .unset, .unset, .unset] [])) _
    refine XS.aloadN X4.here hx rfl (hb hby at_30) rfl rfl ?_
    show Steps p.tables e below (T4.setTop (mkF m 31 #[.val (.int u0), .val (.int u1), .val (.ref b1), .val (.int (1 : Int32)), .unset, .unset, .unset, .unset] [(.ref b1)])) _
    refine XS.iloadN X4.here hx rfl (hb hby at_31) rfl ?_
    show Steps p.tables e below (T4.setTop (mkF m 32 #[.val (.int u0), .val (.int u1), .val (.ref b1), .val (.int (1 : Int32)), .unset, .unset, .unset, .unset] [(.int u0), (.ref b1)])) _
    refine XS.iloadN X4.here hx rfl (hb hby at_32) rfl ?_
    show Steps p.tables e below (T4.setTop (mkF m 33 #[.val (.int u0), .val (.int u1), .val (.ref b1), .val (.int (1 : Int32)), .unset, .unset, .unset, .unset] [(.int u1), (.int u0), (.ref b1)])) _
    refine st5.trans ?_
    show Steps p.tables e below (T5.setTop (mkF m 36 #[.val (.int u0), .val (.int u1), .val (.ref b1), .val (.int (1 : Int32)), .unset, .unset, .unset, .unset] [])) _
    refine XS.aloadN X5.here hx rfl (hb hby at_36) rfl rfl ?_
    show Steps p.tables e below (T5.setTop (mkF m 37 #[.val (.int u0), .val (.int u1), .val (.ref b1), .val (.int (1 : Int32)), .unset, .unset, .unset, .unset] [(.ref b1)])) _
    refine XS.iconst X5.here hx rfl (hb hby at_37) ?_
    show Steps p.tables e below (T5.setTop (mkF m 38 #[.val (.int u0), .val (.int u1), .val (.ref b1), .val (.int (1 : Int32)), .unset, .unset, .unset, .unset] [(.int (0 : Int32)), (.ref b1)])) _
    refine st6.trans ?_
    show Steps p.tables e below (T6.setTop (mkF m 41 #[.val (.int u0), .val (.int u1), .val (.ref b1), .val (.int (1 : Int32)), .unset, .unset, .unset, .unset] [(.int u1)])) _
    refine XS.istore X6.here hx rfl (hb hby at_41) rfl (l' := #[.val (.int u0), .val (.int u1), .val (.ref b1), .val (.int (1 : Int32)), .val (.int u1), .unset, .unset, .unset]) rfl ?_
    show Steps p.tables e below (T6.setTop (mkF m 43 #[.val (.int u0), .val (.int u1), .val (.ref b1), .val (.int (1 : Int32)), .val (.int u1), .unset, .unset, .unset] [])) _
    refine XS.aloadN X6.here hx rfl (hb hby at_43) rfl rfl ?_
    show Steps p.tables e below (T6.setTop (mkF m 44 #[.val (.int u0), .val (.int u1), .val (.ref b1), .val (.int (1 : Int32)), .val (.int u1), .unset, .unset, .unset] [(.ref b1)])) _
    refine XS.iconst X6.here hx rfl (hb hby at_44) ?_
    show Steps p.tables e below (T6.setTop (mkF m 45 #[.val (.int u0), .val (.int u1), .val (.ref b1), .val (.int (1 : Int32)), .val (.int u1), .unset, .unset, .unset] [(.int (1 : Int32)), (.ref b1)])) _
    refine st7.trans ?_
    show Steps p.tables e below (T7.setTop (mkF m 48 #[.val (.int u0), .val (.int u1), .val (.ref b1), .val (.int (1 : Int32)), .val (.int u1), .unset, .unset, .unset] [(.int u0)])) _
    refine XS.istore X7.here hx rfl (hb hby at_48) rfl (l' := #[.val (.int u0), .val (.int u1), .val (.ref b1), .val (.int (1 : Int32)), .val (.int u1), .val (.int u0), .unset, .unset]) rfl ?_
    show Steps p.tables e below (T7.setTop (mkF m 50 #[.val (.int u0), .val (.int u1), .val (.ref b1), .val (.int (1 : Int32)), .val (.int u1), .val (.int u0), .unset, .unset] [])) _
    refine XS.iload X7.here hx rfl (hb hby at_50) rfl ?_
    show Steps p.tables e below (T7.setTop (mkF m 52 #[.val (.int u0), .val (.int u1), .val (.ref b1), .val (.int (1 : Int32)), .val (.int u1), .val (.int u0), .unset, .unset] [(.int u1)])) _
    refine XS.iloadN X7.here hx rfl (hb hby at_52) rfl ?_
    show Steps p.tables e below (T7.setTop (mkF m 53 #[.val (.int u0), .val (.int u1), .val (.ref b1), .val (.int (1 : Int32)), .val (.int u1), .val (.int u0), .unset, .unset] [(.int u1), (.int u1)])) _
    refine XS.icmpNo X7.here hx rfl (hb hby at_53) rfl (teq (rfl : u1 = u1)).2 ?_
    show Steps p.tables e below (T7.setTop (mkF m 56 #[.val (.int u0), .val (.int u1), .val (.ref b1), .val (.int (1 : Int32)), .val (.int u1), .val (.int u0), .unset, .unset] [])) _
    refine XS.iload X7.here hx rfl (hb hby at_56) rfl ?_
    show Steps p.tables e below (T7.setTop (mkF m 58 #[.val (.int u0), .val (.int u1), .val (.ref b1), .val (.int (1 : Int32)), .val (.int u1), .val (.int u0), .unset, .unset] [(.int u0)])) _
    refine XS.iloadN X7.here hx rfl (hb hby at_58) rfl ?_
    show Steps p.tables e below (T7.setTop (mkF m 59 #[.val (.int u0), .val (.int u1), .val (.ref b1), .val (.int (1 : Int32)), .val (.int u1), .val (.int u0), .unset, .unset] [(.int u0), (.int u0)])) _
    refine XS.icmpNo X7.here hx rfl (hb hby at_59) rfl (teq (rfl : u0 = u0)).2 ?_
    show Steps p.tables e below (T7.setTop (mkF m 62 #[.val (.int u0), .val (.int u1), .val (.ref b1), .val (.int (1 : Int32)), .val (.int u1), .val (.int u0), .unset, .unset] [])) _
    refine XS.iconst X7.here hx rfl (hb hby at_62) ?_
    show Steps p.tables e below (T7.setTop (mkF m 63 #[.val (.int u0), .val (.int u1), .val (.ref b1), .val (.int (1 : Int32)), .val (.int u1), .val (.int u0), .unset, .unset] [(.int (1 : Int32))])) _
    refine XS.goto X7.here hx rfl (pc0 := 63) (pc' := 67) rfl (hb hby at_63) (by decide) (by decide) ?_
    show Steps p.tables e below (T7.setTop (mkF m 67 #[.val (.int u0), .val (.int u1), .val (.ref b1), .val (.int (1 : Int32)), .val (.int u1), .val (.int u0), .unset, .unset] [(.int (1 : Int32))])) _
    refine XS.istore X7.here hx rfl (hb hby at_67) rfl (l' := #[.val (.int u0), .val (.int u1), .val (.ref b1), .val (.int (1 : Int32)), .val (.int u1), .val (.int u0), .val (.int (1 : Int32)), .unset]) rfl ?_
    show Steps p.tables e below (T7.setTop (mkF m 69 #[.val (.int u0), .val (.int u1), .val (.ref b1), .val (.int (1 : Int32)), .val (.int u1), .val (.int u0), .val (.int (1 : Int32)), .unset] [])) _
    refine XS.iload X7.here hx rfl (hb hby at_69) rfl ?_
    show Steps p.tables e below (T7.setTop (mkF m 71 #[.val (.int u0), .val (.int u1), .val (.ref b1), .val (.int (1 : Int32)), .val (.int u1), .val (.int u0), .val (.int (1 : Int32)), .unset] [(.int u0)])) _
    refine XS.aloadN X7.here hx rfl (hb hby at_71) rfl rfl ?_
    show Steps p.tables e below (T7.setTop (mkF m 72 #[.val (.int u0), .val (.int u1), .val (.ref b1), .val (.int (1 : Int32)), .val (.int u1), .val (.int u0), .val (.int (1 : Int32)), .unset] [(.ref b1), (.int u0)])) _
    refine XS.iconst X7.here hx rfl (hb hby at_72) ?_
    show Steps p.tables e below (T7.setTop (mkF m 73 #[.val (.int u0), .val (.int u1), .val (.ref b1), .val (.int (1 : Int32)), .val (.int u1), .val (.int u0), .val (.int (1 : Int32)), .unset] [(.int (0 : Int32)), (.ref b1), (.int u0)])) _
    refine st8.trans ?_
    show Steps p.tables e below (T8.setTop (mkF m 76 #[.val (.int u0), .val (.int u1), .val (.ref b1), .val (.int (1 : Int32)), .val (.int u1), .val (.int u0), .val (.int (1 : Int32)), .unset] [(.int u0), (.int u0)])) _
    refine XS.icmpNo X8.here hx rfl (hb hby at_76) rfl (teq (rfl : u0 = u0)).2 ?_
    show Steps p.tables e below (T8.setTop (mkF m 79 #[.val (.int u0), .val (.int u1), .val (.ref b1), .val (.int (1 : Int32)), .val (.int u1), .val (.int u0), .val (.int (1 : Int32)), .unset] [])) _
    refine XS.iload X8.here hx rfl (hb hby at_79) rfl ?_
    show Steps p.tables e below (T8.setTop (mkF m 81 #[.val (.int u0), .val (.int u1), .val (.ref b1), .val (.int (1 : Int32)), .val (.int u1), .val (.int u0), .val (.int (1 : Int32)), .unset] [(.int u1)])) _
    refine XS.aloadN X8.here hx rfl (hb hby at_81) rfl rfl ?_
    show Steps p.tables e below (T8.setTop (mkF m 82 #[.val (.int u0), .val (.int u1), .val (.ref b1), .val (.int (1 : Int32)), .val (.int u1), .val (.int u0), .val (.int (1 : Int32)), .unset] [(.ref b1), (.int u1)])) _
    refine XS.iconst X8.here hx rfl (hb hby at_82) ?_
    show Steps p.tables e below (T8.setTop (mkF m 83 #[.val (.int u0), .val (.int u1), .val (.ref b1), .val (.int (1 : Int32)), .val (.int u1), .val (.int u0), .val (.int (1 : Int32)), .unset] [(.int (1 : Int32)), (.ref b1), (.int u1)])) _
    refine st9.trans ?_
    show Steps p.tables e below (T9.setTop (mkF m 86 #[.val (.int u0), .val (.int u1), .val (.ref b1), .val (.int (1 : Int32)), .val (.int u1), .val (.int u0), .val (.int (1 : Int32)), .unset] [(.int u1), (.int u1)])) _
    refine XS.icmpNo X9.here hx rfl (hb hby at_86) rfl (teq (rfl : u1 = u1)).2 ?_
    show Steps p.tables e below (T9.setTop (mkF m 89 #[.val (.int u0), .val (.int u1), .val (.ref b1), .val (.int (1 : Int32)), .val (.int u1), .val (.int u0), .val (.int (1 : Int32)), .unset] [])) _
    refine XS.iconst X9.here hx rfl (hb hby at_89) ?_
    show Steps p.tables e below (T9.setTop (mkF m 90 #[.val (.int u0), .val (.int u1), .val (.ref b1), .val (.int (1 : Int32)), .val (.int u1), .val (.int u0), .val (.int (1 : Int32)), .unset] [(.int (1 : Int32))])) _
    refine XS.goto X9.here hx rfl (pc0 := 90) (pc' := 94) rfl (hb hby at_90) (by decide) (by decide) ?_
    show Steps p.tables e below (T9.setTop (mkF m 94 #[.val (.int u0), .val (.int u1), .val (.ref b1), .val (.int (1 : Int32)), .val (.int u1), .val (.int u0), .val (.int (1 : Int32)), .unset] [(.int (1 : Int32))])) _
    refine XS.istore X9.here hx rfl (hb hby at_94) rfl (l' := #[.val (.int u0), .val (.int u1), .val (.ref b1), .val (.int (1 : Int32)), .val (.int u1), .val (.int u0), .val (.int (1 : Int32)), .val (.int (1 : Int32))]) rfl ?_
    show Steps p.tables e below (T9.setTop (mkF m 96 #[.val (.int u0), .val (.int u1), .val (.ref b1), .val (.int (1 : Int32)), .val (.int u1), .val (.int u0), .val (.int (1 : Int32)), .val (.int (1 : Int32))] [])) _
    refine XS.iloadN X9.here hx rfl (hb hby at_96) rfl ?_
    show Steps p.tables e below (T9.setTop (mkF m 97 #[.val (.int u0), .val (.int u1), .val (.ref b1), .val (.int (1 : Int32)), .val (.int u1), .val (.int u0), .val (.int (1 : Int32)), .val (.int (1 : Int32))] [(.int (1 : Int32))])) _
    refine XS.ifNo X9.here hx rfl (hb hby at_97) rfl ((if0 _ _).trans (feq (by decide : ¬ ((1 : Int32) = (0 : Int32)))).1) ?_
    show Steps p.tables e below (T9.setTop (mkF m 100 #[.val (.int u0), .val (.int u1), .val (.ref b1), .val (.int (1 : Int32)), .val (.int u1), .val (.int u0), .val (.int (1 : Int32)), .val (.int (1 : Int32))] [])) _
    refine XS.iload X9.here hx rfl (hb hby at_100) rfl ?_
    show Steps p.tables e below (T9.setTop (mkF m 102 #[.val (.int u0), .val (.int u1), .val (.ref b1), .val (.int (1 : Int32)), .val (.int u1), .val (.int u0), .val (.int (1 : Int32)), .val (.int (1 : Int32))] [(.int (1 : Int32))])) _
    refine XS.ifNo X9.here hx rfl (hb hby at_102) rfl ((if0 _ _).trans (feq (by decide : ¬ ((1 : Int32) = (0 : Int32)))).1) ?_
    show Steps p.tables e below (T9.setTop (mkF m 105 #[.val (.int u0), .val (.int u1), .val (.ref b1), .val (.int (1 : Int32)), .val (.int u1), .val (.int u0), .val (.int (1 : Int32)), .val (.int (1 : Int32))] [])) _
    refine XS.iload X9.here hx rfl (hb hby at_105) rfl ?_
    show Steps p.tables e below (T9.setTop (mkF m 107 #[.val (.int u0), .val (.int u1), .val (.ref b1), .val (.int (1 : Int32)), .val (.int u1), .val (.int u0), .val (.int (1 : Int32)), .val (.int (1 : Int32))] [(.int (1 : Int32))])) _
    refine XS.ifNo X9.here hx rfl (hb hby at_107) rfl ((if0 _ _).trans (feq (by decide : ¬ ((1 : Int32) = (0 : Int32)))).1) ?_
    show Steps p.tables e below (T9.setTop (mkF m 110 #[.val (.int u0), .val (.int u1), .val (.ref b1), .val (.int (1 : Int32)), .val (.int u1), .val (.int u0), .val (.int (1 : Int32)), .val (.int (1 : Int32))] [])) _
    refine XS.iconst X9.here hx rfl (hb hby at_110) ?_
    show Steps p.tables e below (T9.setTop (mkF m 111 #[.val (.int u0), .val (.int u1), .val (.ref b1), .val (.int (1 : Int32)), .val (.int u1), .val (.int u0), .val (.int (1 : Int32)), .val (.int (1 : Int32))] [(.int (1 : Int32))])) _
    refine XS.goto X9.here hx rfl (pc0 := 111) (pc' := 115) rfl (hb hby at_111) (by decide) (by decide) ?_
    show Steps p.tables e below (T9.setTop (mkF m 115 #[.val (.int u0), .val (.int u1), .val (.ref b1), .val (.int (1 : Int32)), .val (.int u1), .val (.int u0), .val (.int (1 : Int32)), .val (.int (1 : Int32))] [(.int (1 : Int32))])) _
    exact retN X9 hx (t := .boolean) Bd.returns (by simp) (hb hby at_115) hr
  · exact ⟨rfl, N9⟩
theorem rm0 (l : Launch) (Z : State) (a0 : Array Value) (hw : ∀ d ∈ tables_1, d.before a0 Z = true) (w : Nat → Addr) (κ : Nat → ClassId) (h0 : Heap) (n0 : Nat) (Z0 : n0 ≤ h0.size) (K : Kon Z h0 w κ) (u0 u1 : Int32) :
    OM l Z x code maxLocals ret tables_1 room_1 #[(.int u0), (.int u1)] h0 (OF (some (.int (1 : Int32))) n0) := by
  exact rm0_9 l Z a0 hw w κ h0 n0 Z0 K u0 u1
set_option maxRecDepth 65536 in
set_option maxHeartbeats 40000000 in
theorem comes_1 {Post : Tables → Env → Array Value → State → Outcome → State → Prop} (hpost : ∀ tb e args s v u, (limb_1_1.after args s (.returned v) u = true ∧ limb_1_2.after args s (.returned v) u = true ∧ True) → FrameEnd s (.returned v) u (Jvm.fieldLocs frame_1_writes args s ++ Jvm.arrayLocs frame_1_arrays args s ++ Jvm.staticLocs frame_1_statics s) 16 128 → Post tb e args s (.returned v) u) :
    ArmFor flags0 classFile x code maxLocals ret World_1 tables_1 room_1 Calls_1 rest_1 Pre_1 Post := by
  intro l hfl _ _ p e ha hc hk s m args below hf hA hF happ hP
  obtain ⟨hcalls, hrest, hpre⟩ := hP
  obtain ⟨-, -, -, hnamed, -, -, -, hat⟩ := (Spec.applies_iff hf).mp happ
  obtain ⟨hg, hn⟩ := and_e (Cond.before_iff.mp (show (Jvm.Cond.and given_1 narrow_1).before args s = true from hpre))
  obtain ⟨g1a, g1b⟩ := and_e hg
  obtain ⟨g2a, g2b⟩ := and_e g1b
  obtain ⟨g3a, g3b⟩ := and_e hn
  obtain ⟨g4a, g4b⟩ := and_e g3b
  obtain ⟨g5a, g5b⟩ := and_e g4b
  obtain ⟨v0, v1, rfl⟩ : ∃ v0 v1 : Value, args = #[v0, v1] := by
    have hs : args.size = 2 := by simpa [Cond.value, given_1] using g1a
    obtain ⟨L⟩ := args
    match L, hs with
    | [v0, v1], _ => exact ⟨v0, v1, rfl⟩
  have hw := fun d (hd : d ∈ tables_1) => atoms_spec (ws := Jvm.Cond.code x code maxLocals ret :: tables_1) hat d (List.mem_cons_of_mem _ hd)
  have hfit : Fit s := fun {y c} hc i hi => by
    obtain ⟨ha, rfl⟩ := Array.getElem?_eq_some_iff.mp hc
    have q := List.all_eq_true.mp ((Array.all_eq_true_iff_forall_mem.mp hF) _ (Array.getElem_mem ha)) i (List.mem_range.mpr hi)
    simpa [Array.getElem?_eq_getElem hi] using q
  obtain ⟨i0, ei0⟩ := is_v g2a
  obtain rfl : v0 = (.int i0) := Option.some.inj ei0
  obtain ⟨i1, ei1⟩ := is_v g2b
  obtain rfl : v1 = (.int i1) := Option.some.inj ei1
  obtain ⟨b0, ev0⟩ := arr_v g3a
  obtain ⟨b1, ev1⟩ := arr_v g5a
  obtain ⟨κ0, V0⟩ := own_arv (dv := (.int (0 : Int32))) hfit ev0 g3a g4a
  obtain ⟨κ1, V1⟩ := own_arv (dv := .null) hfit ev1 g5a g5b
  have K : Kon s s.heap (fun i => ([b0, b1] : List Addr).getD i 0) (fun i => ([κ0, κ1] : List ClassId).getD i 0) := ⟨Sta.start ev0 (Or.inr ⟨(hw _ (List.mem_of_getElem? (i := 2) rfl)), (hw _ (List.mem_of_getElem? (i := 10) rfl))⟩), Sta.start ev1 (Or.inr ⟨(hw _ (List.mem_of_getElem? (i := 2) rfl)), (hw _ (List.mem_of_getElem? (i := 14) rfl))⟩), V0, V1⟩
  obtain ⟨n, o, h1, h2, h3, _, L, rfl, ⟨rfl, N⟩, hq⟩ := rm0 l s _ hw _ _ s.heap s.heap.size (Nat.le_refl _) K i0 i1 p e ha hc hk s m _ below hf ((Spec.applies_iff_loose hf).mp happ).1 ⟨rfl, State.Warmed39.refl s, rfl⟩ trivial
  refine ⟨n, _, h1, h2, h3, hpost _ _ _ _ _ _ ⟨Cond.after_iff.mpr rfl, Cond.after_iff.mpr (eq_i res_at (Term.int_eval (1)) rfl), trivial⟩ ⟨hq.1, hq.2.1, (hq.2.2.sift fun y hy => Or.inr (N y hy)).mono (by decide) (by decide)⟩⟩
theorem main_1_1 : Claimed_1_1 := comes_1 fun _ _ _ _ _ _ h hF => ⟨h.1, hF⟩
theorem main_1_2 : Claimed_1_2 := comes_1 fun _ _ _ _ _ _ h hF => ⟨h.2.1, hF⟩
end Jvm.Pilot.@@N@@
namespace Jvm.Pilot.@@N@@
open Jvm Jvm.ClassFile Sem Op Lib Jvm.Free Jvm.Stand Jvm.Pilot.@@N@@.Jvm.D
/-! MADE BY PROGRAM (witnessworld.py) out of the Statement's table words and the real class files: 10 classes; the members and pool entries that the words name. The judged class is class 1, her method 1. -/
namespace start1
open Jvm.ClassFile
def u (s : String) : CpInfo := .utf8 (stringToUtf16 s)
/-- a pool by its gaps: so many unusable entries, then the entry; so many at the end -/
def gap : Nat → List CpInfo → List CpInfo
  | 0, r => r
  | n + 1, r => .unusable :: gap n r
def poolList (es : List (Nat × CpInfo)) (last : Nat) : List CpInfo := es.foldr (fun e r => gap e.1 (e.2 :: r)) (gap last [])
def pool (es : List (Nat × CpInfo)) (last : Nat) : Array CpInfo := ⟨poolList es last⟩
def fileOf (pool : Array CpInfo) (this : Nat) (attrs : Array Attribute := #[]) (ms : Array MethodInfo := #[]) (fl : Nat := 33) (sup : Nat := 0) (ifs : Array Nat := #[]) (fds : Array FieldInfo := #[]) : ClassFile where
  minorVersion := 0
  majorVersion := 65
  constantPool := pool
  accessFlags := fl
  thisClass := this
  superClass := sup
  interfaces := ifs
  fields := fds
  methods := ms
  attributes := attrs
def plain (name : String) (sup : Option ClassId) : Class where
  name := name
  kind := .ordinary
  loader := none
  accessFlags := 33
  super := sup
  interfaces := #[]
  cf := none
  fields := #[]
  methods := #[]
  instanceTypes := #[]
  staticTypes := #[]
  resolved := #[]
  callSites := []
  init := .initialized
  statics := none
  mirror := none

def pool0 : Array CpInfo := pool [(5, u "<init>"), (0, u "()V"), (1, .class_ 10), (1, u "java/lang/Object")] 113

def k0c0 : Code := { maxStack := 0, maxLocals := 1, code := object_method_1_code, exceptionTable := #[], attributes := #[] }
def k0m0 : Method := { name := "<init>", desc := "()V", sig := { parameters := [], returnType := none }, accessFlags := 1, code := some k0c0 }
/-- java/lang/Object -/
def k0 : Class := { plain "java/lang/Object" none with
  accessFlags := 33
  interfaces := #[]
  cf := some (fileOf pool0 8 #[] #[{ accessFlags := 1, nameIndex := 5, descriptorIndex := 6, attributes := #[] }] 33 0 #[] #[])
  fields := #[]
  methods := #[k0m0]
  instanceTypes := #[]
  staticTypes := #[]
  resolved := Array.replicate 124 none
  statics := none }

def pool1 : Array CpInfo := pool [(2, .class_ 4), (0, .nameAndType 5 6), (0, u "java/lang/Object"), (0, u "<init>"), (0, u "()V"), (0, .class_ 8), (0, u "com/example/tight_tree/tighttree/Block"), (0, .methodref 7 3), (0, .methodref 7 11), (0, .nameAndType 12 13), (0, u "rootY"), (0, u "(Z)I"), (0, .methodref 7 15), (0, .nameAndType 16 17), (0, u "setRoot"), (0, u "(II)V"), (0, .methodref 7 19), (0, .nameAndType 20 13), (0, u "rootX"), (0, .class_ 22), (0, u "com/example/tight_tree/tighttree/BlockRootYPinLaw"), (2, u "law"), (0, u "(II)Z")] 3

def k1m0 : Method := { name := "<init>", desc := "()V", sig := { parameters := [], returnType := none }, accessFlags := 1, code := none }
def k1c1 : Code := { maxStack := 3, maxLocals := 8, code := code, exceptionTable := #[], attributes := #[] }
def k1m1 : Method := { name := "law", desc := "(II)Z", sig := { parameters := [.int, .int], returnType := some .boolean }, accessFlags := 9, code := some k1c1 }
/-- com/example/tight_tree/tighttree/BlockRootYPinLaw -/
def k1 : Class := { plain "com/example/tight_tree/tighttree/BlockRootYPinLaw" (some 0) with
  accessFlags := 49
  interfaces := #[]
  cf := some (fileOf pool1 21 #[] #[{ accessFlags := 1, nameIndex := 5, descriptorIndex := 6, attributes := #[] }, { accessFlags := 9, nameIndex := 25, descriptorIndex := 26, attributes := #[] }] 49 2 #[] #[])
  fields := #[]
  methods := #[k1m0, k1m1]
  instanceTypes := #[]
  staticTypes := #[]
  resolved := Array.replicate 30 none
  statics := none }

def pool2 : Array CpInfo := pool [(1, .methodref 2 3), (0, .class_ 4), (0, .nameAndType 5 6), (0, u "java/lang/Object"), (0, u "<init>"), (0, u "()V"), (0, .fieldref 8 9), (0, .class_ 10), (0, .nameAndType 11 12), (0, u "com/example/tight_tree/tighttree/Block"), (0, u "NO_INTS"), (0, u "[I"), (0, .fieldref 8 14), (0, .nameAndType 15 12), (0, u "nodes"), (0, .fieldref 8 17), (0, .nameAndType 18 19), (0, u "NO_BLOCKS"), (0, u "[Lcom/example/tight_tree/tighttree/Block;"), (0, .fieldref 8 21), (0, .nameAndType 22 19), (0, u "parts"), (0, .fieldref 8 24), (0, .nameAndType 25 12), (0, u "placings"), (2, u "transposed"), (0, u "Lcom/example/tight_tree/tighttree/Block$Part;"), (0, .class_ 31), (0, u "com/example/tight_tree/tighttree/Block$Part"), (5, u "asIs"), (2, u "nodeCount"), (0, u "I"), (8, u "partCount"), (13, u "(II)V"), (0, .class_ 66), (0, u "com/example/tight_tree/tighttree/Block$Run"), (2, u "runs"), (0, u "Lcom/example/tight_tree/tighttree/Block$Run;"), (19, u "width"), (3, u "height"), (0, .fieldref 8 96), (0, .nameAndType 97 41), (0, u "rootX"), (0, .fieldref 8 99), (0, .nameAndType 100 41), (0, u "rootY"), (26, u "(Z)I"), (9, u "EMPTY"), (0, u "Lcom/example/tight_tree/tighttree/Block;"), (0, u "MIRRORED"), (2, u "FLIPPED"), (13, u "setRoot"), (4, .class_ 162), (0, u "com/example/tight_tree/tighttree/Block$Form")] 4

def k2c0 : Code := { maxStack := 2, maxLocals := 1, code := prog_7_method_1_code, exceptionTable := #[], attributes := #[] }
def k2m0 : Method := { name := "<init>", desc := "()V", sig := { parameters := [], returnType := none }, accessFlags := 0, code := some k2c0 }
def k2c1 : Code := { maxStack := 2, maxLocals := 3, code := prog_7_method_9_code, exceptionTable := #[], attributes := #[] }
def k2m1 : Method := { name := "setRoot", desc := "(II)V", sig := { parameters := [.int, .int], returnType := none }, accessFlags := 0, code := some k2c1 }
def k2c2 : Code := { maxStack := 1, maxLocals := 2, code := prog_7_method_12_code, exceptionTable := #[], attributes := #[] }
def k2m2 : Method := { name := "rootX", desc := "(Z)I", sig := { parameters := [.boolean], returnType := some .int }, accessFlags := 0, code := some k2c2 }
def k2c3 : Code := { maxStack := 1, maxLocals := 2, code := prog_7_method_13_code, exceptionTable := #[], attributes := #[] }
def k2m3 : Method := { name := "rootY", desc := "(Z)I", sig := { parameters := [.boolean], returnType := some .int }, accessFlags := 0, code := some k2c3 }
/-- com/example/tight_tree/tighttree/Block -/
def k2 : Class := { plain "com/example/tight_tree/tighttree/Block" (some 0) with
  accessFlags := 48
  interfaces := #[]
  cf := some (fileOf pool2 8 #[.nestMembers #[161, 65, 30]] #[{ accessFlags := 0, nameIndex := 5, descriptorIndex := 6, attributes := #[] }, { accessFlags := 0, nameIndex := 156, descriptorIndex := 64, attributes := #[] }, { accessFlags := 0, nameIndex := 97, descriptorIndex := 127, attributes := #[] }, { accessFlags := 0, nameIndex := 100, descriptorIndex := 127, attributes := #[] }] 48 2 #[] #[{ accessFlags := 26, nameIndex := 11, descriptorIndex := 12, attributes := #[] }, { accessFlags := 26, nameIndex := 18, descriptorIndex := 19, attributes := #[] }, { accessFlags := 24, nameIndex := 137, descriptorIndex := 138, attributes := #[] }, { accessFlags := 26, nameIndex := 139, descriptorIndex := 41, attributes := #[] }, { accessFlags := 26, nameIndex := 142, descriptorIndex := 41, attributes := #[] }, { accessFlags := 2, nameIndex := 15, descriptorIndex := 12, attributes := #[] }, { accessFlags := 2, nameIndex := 40, descriptorIndex := 41, attributes := #[] }, { accessFlags := 2, nameIndex := 69, descriptorIndex := 70, attributes := #[] }, { accessFlags := 2, nameIndex := 22, descriptorIndex := 19, attributes := #[] }, { accessFlags := 2, nameIndex := 25, descriptorIndex := 12, attributes := #[] }, { accessFlags := 2, nameIndex := 50, descriptorIndex := 41, attributes := #[] }, { accessFlags := 2, nameIndex := 90, descriptorIndex := 41, attributes := #[] }, { accessFlags := 2, nameIndex := 94, descriptorIndex := 41, attributes := #[] }, { accessFlags := 2, nameIndex := 97, descriptorIndex := 41, attributes := #[] }, { accessFlags := 2, nameIndex := 100, descriptorIndex := 41, attributes := #[] }, { accessFlags := 2, nameIndex := 37, descriptorIndex := 29, attributes := #[] }, { accessFlags := 2, nameIndex := 28, descriptorIndex := 29, attributes := #[] }])
  fields := #[{ name := "NO_INTS", type := (.array .int), accessFlags := 26, slot := 0, constantValue := 0 }, { name := "NO_BLOCKS", type := (.array (.object "com/example/tight_tree/tighttree/Block")), accessFlags := 26, slot := 1, constantValue := 0 }, { name := "EMPTY", type := (.object "com/example/tight_tree/tighttree/Block"), accessFlags := 24, slot := 2, constantValue := 0 }, { name := "MIRRORED", type := .int, accessFlags := 26, slot := 3, constantValue := 0 }, { name := "FLIPPED", type := .int, accessFlags := 26, slot := 4, constantValue := 0 }, { name := "nodes", type := (.array .int), accessFlags := 2, slot := 0, constantValue := 0 }, { name := "nodeCount", type := .int, accessFlags := 2, slot := 1, constantValue := 0 }, { name := "runs", type := (.object "com/example/tight_tree/tighttree/Block$Run"), accessFlags := 2, slot := 2, constantValue := 0 }, { name := "parts", type := (.array (.object "com/example/tight_tree/tighttree/Block")), accessFlags := 2, slot := 3, constantValue := 0 }, { name := "placings", type := (.array .int), accessFlags := 2, slot := 4, constantValue := 0 }, { name := "partCount", type := .int, accessFlags := 2, slot := 5, constantValue := 0 }, { name := "width", type := .int, accessFlags := 2, slot := 6, constantValue := 0 }, { name := "height", type := .int, accessFlags := 2, slot := 7, constantValue := 0 }, { name := "rootX", type := .int, accessFlags := 2, slot := 8, constantValue := 0 }, { name := "rootY", type := .int, accessFlags := 2, slot := 9, constantValue := 0 }, { name := "asIs", type := (.object "com/example/tight_tree/tighttree/Block$Part"), accessFlags := 2, slot := 10, constantValue := 0 }, { name := "transposed", type := (.object "com/example/tight_tree/tighttree/Block$Part"), accessFlags := 2, slot := 11, constantValue := 0 }]
  methods := #[k2m0, k2m1, k2m2, k2m3]
  instanceTypes := #[(.array .int), .int, (.object "com/example/tight_tree/tighttree/Block$Run"), (.array (.object "com/example/tight_tree/tighttree/Block")), (.array .int), .int, .int, .int, .int, .int, (.object "com/example/tight_tree/tighttree/Block$Part"), (.object "com/example/tight_tree/tighttree/Block$Part")]
  staticTypes := #[(.array .int), (.array (.object "com/example/tight_tree/tighttree/Block")), (.object "com/example/tight_tree/tighttree/Block"), .int, .int]
  resolved := Array.replicate 167 none
  statics := some 0 }

def pool3 : Array CpInfo := pool [(1, u "java/lang/Cloneable"), (0, .class_ 1), (0, u "java/lang/Object"), (0, .class_ 3)] 3

/-- java/lang/Cloneable -/
def k3 : Class := { plain "java/lang/Cloneable" (some 0) with
  accessFlags := 1537
  interfaces := #[]
  cf := some (fileOf pool3 2 #[] #[] 1537 4 #[] #[])
  fields := #[]
  methods := #[]
  instanceTypes := #[]
  staticTypes := #[]
  resolved := Array.replicate 8 none
  statics := none }

def pool4 : Array CpInfo := pool [(1, u "java/io/Serializable"), (0, .class_ 1), (0, u "java/lang/Object"), (0, .class_ 3)] 3

/-- java/io/Serializable -/
def k4 : Class := { plain "java/io/Serializable" (some 0) with
  accessFlags := 1537
  interfaces := #[]
  cf := some (fileOf pool4 2 #[] #[] 1537 4 #[] #[])
  fields := #[]
  methods := #[]
  instanceTypes := #[]
  staticTypes := #[]
  resolved := Array.replicate 8 none
  statics := none }

/-- the primitive byte -/
def k5 : Class := { plain "byte" none with kind := .primitive 'B', accessFlags := 0x411 }
/-- [B -/
def k6 : Class := { plain "[B" (some 0) with kind := .array 5 .byte, interfaces := #[3, 4], accessFlags := 1041 }

/-- the primitive int -/
def k7 : Class := { plain "int" none with kind := .primitive 'I', accessFlags := 0x411 }
/-- [I -/
def k8 : Class := { plain "[I" (some 0) with kind := .array 7 .int, interfaces := #[3, 4], accessFlags := 1041 }

/-- [Lcom/example/tight_tree/tighttree/Block; -/
def k9 : Class := { plain "[Lcom/example/tight_tree/tighttree/Block;" (some 0) with kind := .array 2 (.object "com/example/tight_tree/tighttree/Block"), interfaces := #[3, 4], accessFlags := 1041 }

def heap : Heap := #[{ cls := 2, slots := #[.ref 1, .ref 2, .null, .int 0, .int 0], vm := .statics 2 },
  { cls := 8, slots := #[], vm := .none },
  { cls := 9, slots := #[], vm := .none }]
def classes : Array Class := #[k0, k1, k2, k3, k4, k5, k6, k7, k8, k9]
def interned : List (Array UInt16 × Addr) := []
def slotsUsed : Nat := 5
def theMethod : MethodId := ⟨1, 1⟩
def args0 : Array Value := #[.int 5, .int 6]
def aboutOver (below : List Frame) : State where
  vm := { classes := classes, interned := interned.toArray }
  heap := heap
  slotsUsed := slotsUsed
  threads := #[{ frames := .invoking theMethod args0 :: below }]
def below0 : List Frame := [.native { method := ⟨0, 0⟩, args := #[] }]
def about1 : State := aboutOver below0
def p0 : Program := .bare "" "" ""
def e0 : Env := launch0.env 0 0 0
theorem w_frames : about1.frames = Frame.invoking theMethod args0 :: below0 := rfl
set_option maxRecDepth 65536 in
theorem w_args : argsFit about1.vm theMethod args0 = true := by decide +kernel
set_option maxRecDepth 65536 in
theorem w_heap : heapFits about1 = true := by decide +kernel
set_option maxRecDepth 65536 in
theorem w_runnable : about1.curStatus? = some .runnable := by decide +kernel
set_option maxRecDepth 65536 in
theorem w_alone : about1.alone = true := by decide +kernel
set_option maxRecDepth 65536 in
theorem w_named : about1.methodNamed? x = some theMethod := by decide +kernel
set_option maxRecDepth 65536 in
theorem w_hears : about1.hears theMethod below0 = true := by decide +kernel
set_option maxRecDepth 65536 in
theorem w_ripe : about1.ripe theMethod args0 below0 = true := by decide +kernel
theorem w_running : about1.status = .running := rfl
set_option maxRecDepth 65536 in
theorem w_room : about1.hasRoom e0.platform room_1 = true :=
  launch0.hasRoom_least _ room_1 (by decide +kernel) (by decide +kernel) (by decide +kernel) (by decide +kernel) (by decide +kernel) (by decide +kernel)
theorem allAtoms_all (ts : List Jvm.Cond) (a : Array Jvm.Value) (st : Jvm.State) : (allAtoms ts).before a st = ts.all (fun c => c.before a st) := by
  induction ts with
  | nil => rfl
  | cons c t ih =>
    show (Jvm.Cond.and c (allAtoms t)).before a st = _
    rw [Jvm.Cond.before_and, ih, List.all_cons]
def words1 : List Jvm.Cond := Jvm.Cond.code x code maxLocals ret :: tables_1
/-- a 'code' word, met by the world's own term for the bytes: nothing is compared byte by byte -/
theorem code_word {y : MethodName} {bytes : ByteArray} {mx : Nat} {rt : Option FieldType} {a : Array Value} {s : State} {m : MethodId} {meth : Method} {c : Code} (h1 : s.methodNamed? y = some m) (h2 : s.vm.method? m = some meth) (h3 : meth.code = some c) (h4 : c.code = bytes)
    (h5 : (c.maxLocals == mx && c.exceptionTable.isEmpty && decide (c.maxStack ≤ mostOperands) && decide (meth.sig.returnType = rt) && !meth.locks && decide (parseMethodDescriptor y.desc = some meth.sig)) = true) : (Jvm.Cond.code y bytes mx rt).before a s = true := by
  simp only [Bool.and_eq_true, beq_iff_eq, Bool.not_eq_true', decide_eq_true_eq] at h5
  obtain ⟨⟨⟨⟨⟨g1, g2⟩, g3⟩, g4⟩, g5⟩, g6⟩ := h5
  simp [Cond.before, Cond.holds, Cond.value, h1, h2, h3, h4, g1, g2, g3, g4, g5, g6]
def isCode : Jvm.Cond → Bool
  | .code _ _ _ _ => true
  | _ => false
theorem all_split {L : List Jvm.Cond} {P : Jvm.Cond → Bool} (h1 : L.all (fun c => isCode c || P c) = true) (h2 : ∀ c ∈ L.filter isCode, P c = true) : L.all P = true := by
  refine List.all_eq_true.mpr fun c hc => ?_
  have h := List.all_eq_true.mp h1 c hc
  rcases Bool.eq_false_or_eq_true (isCode c) with hi | hi
  · exact h2 c (List.mem_filter.mpr ⟨hc, hi⟩)
  · simpa [hi] using h
set_option maxRecDepth 65536 in
theorem w_c0 : (Jvm.Cond.code x code maxLocals ret).before args0 about1 = true := code_word (m := ⟨1, 1⟩) (meth := k1m1) (c := k1c1) (by decide +kernel) rfl rfl rfl (by decide +kernel)
set_option maxRecDepth 65536 in
theorem w_c1 : (Jvm.Cond.code ({ cls := "com/example/tight_tree/tighttree/Block", name := "<init>", desc := "()V" } : Jvm.MethodName) prog_7_method_1_code (1 : Nat) (Option.none : Option Jvm.ClassFile.FieldType)).before args0 about1 = true := code_word (m := ⟨2, 0⟩) (meth := k2m0) (c := k2c0) (by decide +kernel) rfl rfl rfl (by decide +kernel)
set_option maxRecDepth 65536 in
theorem w_c2 : (Jvm.Cond.code ({ cls := "java/lang/Object", name := "<init>", desc := "()V" } : Jvm.MethodName) object_method_1_code (1 : Nat) (Option.none : Option Jvm.ClassFile.FieldType)).before args0 about1 = true := code_word (m := ⟨0, 0⟩) (meth := k0m0) (c := k0c0) (by decide +kernel) rfl rfl rfl (by decide +kernel)
set_option maxRecDepth 65536 in
theorem w_c3 : (Jvm.Cond.code ({ cls := "com/example/tight_tree/tighttree/Block", name := "rootY", desc := "(Z)I" } : Jvm.MethodName) prog_7_method_13_code (2 : Nat) (Option.some Jvm.ClassFile.FieldType.int)).before args0 about1 = true := code_word (m := ⟨2, 3⟩) (meth := k2m3) (c := k2c3) (by decide +kernel) rfl rfl rfl (by decide +kernel)
set_option maxRecDepth 65536 in
theorem w_c4 : (Jvm.Cond.code ({ cls := "com/example/tight_tree/tighttree/Block", name := "setRoot", desc := "(II)V" } : Jvm.MethodName) prog_7_method_9_code (3 : Nat) (Option.none : Option Jvm.ClassFile.FieldType)).before args0 about1 = true := code_word (m := ⟨2, 1⟩) (meth := k2m1) (c := k2c1) (by decide +kernel) rfl rfl rfl (by decide +kernel)
set_option maxRecDepth 65536 in
theorem w_c5 : (Jvm.Cond.code ({ cls := "com/example/tight_tree/tighttree/Block", name := "rootX", desc := "(Z)I" } : Jvm.MethodName) prog_7_method_12_code (2 : Nat) (Option.some Jvm.ClassFile.FieldType.int)).before args0 about1 = true := code_word (m := ⟨2, 2⟩) (meth := k2m2) (c := k2c2) (by decide +kernel) rfl rfl rfl (by decide +kernel)
def codes1 : List Jvm.Cond := [Jvm.Cond.code x code maxLocals ret, Jvm.Cond.code ({ cls := "com/example/tight_tree/tighttree/Block", name := "<init>", desc := "()V" } : Jvm.MethodName) prog_7_method_1_code (1 : Nat) (Option.none : Option Jvm.ClassFile.FieldType), Jvm.Cond.code ({ cls := "java/lang/Object", name := "<init>", desc := "()V" } : Jvm.MethodName) object_method_1_code (1 : Nat) (Option.none : Option Jvm.ClassFile.FieldType), Jvm.Cond.code ({ cls := "com/example/tight_tree/tighttree/Block", name := "rootY", desc := "(Z)I" } : Jvm.MethodName) prog_7_method_13_code (2 : Nat) (Option.some Jvm.ClassFile.FieldType.int), Jvm.Cond.code ({ cls := "com/example/tight_tree/tighttree/Block", name := "setRoot", desc := "(II)V" } : Jvm.MethodName) prog_7_method_9_code (3 : Nat) (Option.none : Option Jvm.ClassFile.FieldType), Jvm.Cond.code ({ cls := "com/example/tight_tree/tighttree/Block", name := "rootX", desc := "(Z)I" } : Jvm.MethodName) prog_7_method_12_code (2 : Nat) (Option.some Jvm.ClassFile.FieldType.int)]
set_option maxRecDepth 65536 in
theorem codes_eq : words1.filter isCode = codes1 := rfl
theorem w_codes : ∀ c ∈ words1.filter isCode, c.before args0 about1 = true := by
  rw [codes_eq]
  intro c hc
  simp only [codes1, List.mem_cons, List.not_mem_nil, or_false] at hc
  rcases hc with rfl | rfl | rfl | rfl | rfl | rfl
  · exact w_c0
  · exact w_c1
  · exact w_c2
  · exact w_c3
  · exact w_c4
  · exact w_c5
set_option maxRecDepth 65536 in
theorem w_t1 : (words1.take 24).all (fun c => isCode c || c.before args0 about1) = true := by decide +kernel
set_option maxRecDepth 65536 in
theorem w_t2 : (words1.drop 24).all (fun c => isCode c || c.before args0 about1) = true := by decide +kernel
theorem w_tables : (allAtoms (Jvm.Cond.code x code maxLocals ret :: tables_1)).before args0 about1 = true := by
  rw [allAtoms_all]
  show words1.all (fun c => c.before args0 about1) = true
  refine all_split ?_ w_codes
  rw [← List.take_append_drop 24 words1, List.all_append, w_t1, w_t2]
  rfl
set_option maxRecDepth 65536 in
theorem w_case : (Jvm.Cond.and given_1 narrow_1).before args0 about1 = true := by decide +kernel
theorem w_applies : (headSpec (Jvm.Cond.code x code maxLocals ret :: tables_1) room_1).applies x e0.platform about1 = true :=
  (Spec.applies_iff w_frames).mpr ⟨w_running, w_runnable, w_alone, w_named, w_hears, w_ripe, w_room, w_tables⟩
theorem atStart : AtStart classFile x code maxLocals ret World_1 tables_1 room_1 Calls_1 rest_1 Pre_1 launch0 p0 e0 about1 theMethod args0 below0 :=
  ⟨lists_1, trivial, launch0.admits_env _ _ _, launch0.least_env, fairChoices_fair.cas, fairChoices_fair.clock, w_frames, w_args, w_heap, w_applies, trivial, trivial, w_case⟩
end start1
theorem witness_1 : WitnessClaimed_1 := ⟨start1.p0, start1.e0, start1.about1, start1.theMethod, start1.args0, start1.below0, start1.atStart⟩
end Jvm.Pilot.@@N@@
