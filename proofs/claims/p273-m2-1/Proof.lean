import JvmDerived
import JvmDerived.Pilot.@@N@@Statement
import JvmDerived.Pilot.@@N@@Code
set_option linter.unusedVariables false
set_option linter.unusedSimpArgs false
namespace Jvm.RoadKit
open Sem ClassFile Op Lib Jvm.Stand Jvm.Free Jvm.LawKit
section New
variable {p : Program} {l : Launch} {e : Env} {R : Room} {s : State} {m : MethodId} {args : Array Value} {below : List Frame} {meth : Method} {c : Code} {T : State} {locs : List Loc} {cells slots : Nat}
theorem retI (X : Stand p l e R s m args below meth c T locs cells slots) (hx : p.tables.exec = Jvm.exec) {pc : Nat} {Ls : Array Slot} {z : Int32} {rest : List Value} (hret : meth.sig.returnType = some .int) (hd : decode c.code pc = .ok (.ireturn, 1)) {fs : List Frame}
    (hl : ∀ (f : JFrame) (acts : List Action), f.method = m → f.locked = none → f.entered = [] → (doReturn e (T.setTop f) acts (some (.int z))).1 = T.setFrames fs) : Steps p.tables e below (T.setTop (mkF m pc Ls (.int z :: rest))) (T.setFrames fs) := by
  have hm' : T.vm.method? m = some meth := X.method'
  have hn : narrow .int (.int z) = .int z := rfl
  show Steps p.tables e below (T.setTop { method := m, pc := pc, locals := Ls, stack := _ :: rest, locked := none }) _
  jvm_step X.here [X.here.top, hx, hd, hm', hret, hn]
  first | (intro acts; rw [hl _ acts rfl rfl rfl]) | rw [hl _ _ rfl rfl rfl]
  exact Steps.refl _
end New
end Jvm.RoadKit
namespace Jvm.Pilot.@@N@@
open Jvm Jvm.ClassFile Sem Op Lib Jvm.Free Jvm.Stand Jvm.LawKit Jvm.RoadKit Bundle Jvm.Pilot.@@N@@.Jvm.D
abbrev OM (l : Launch) (Z : State) (y : MethodName) (cd : ByteArray) (mL : Nat) (rt : Option FieldType) (ws : List Jvm.Cond) (rm : Room) (as' : Array Value) (h0 : Heap) (Q : Option Value → Heap → List Loc → Prop) : Prop :=
  MetFree l y (head1 (Jvm.Cond.code y cd mL rt :: ws) rm) (fun a U => a = as' ∧ Z.Warmed39 U.vm ∧ U.heap = h0) (fun _ _ _ _ _ => True) (fun _ U o U' => ∃ v L, o = .returned v ∧ Q v U'.heap L ∧ FrameEnd U o U' L rm.cells rm.slots)
/-- what a body that writes nothing leaves: its value, the heap as it was -/
def OP (r : Option Value) (n0 : Nat) (h0 : Heap) (v : Option Value) (h : Heap) (L : List Loc) : Prop := v = r ∧ Fr n0 L ∧ h = h0
theorem own_fld {s : State} {args : Array Value} {t : Term} {x : Addr} {C n d : String} {k : Int32} (ht : t.eval args s none [] s = some (.ref x)) (h : (Jvm.Cond.eq (.field t C n d) (.int k)).value args s none s [] = some true) : Fld s s.heap x C n d (.int k) := by
  obtain ⟨u, v, h1, h2, h3, h4⟩ := cmp_v (Or.inl h)
  have e2 : v = .int k := (Option.some.inj h2).symm
  subst e2
  obtain ⟨z, rfl⟩ := h4
  have e3 := gotT (Jvm.Cond.eq_ints h1 h2) h
  subst e3
  exact Fld.start (by rw [← fld_at ht]; exact h1)
def Kon (Z : State) (h : Heap) (w : Nat → Addr) : Prop :=
  (Sta Z h "com/example/licon/licon/search/Operator" "EQ" "Lcom/example/licon/licon/search/Operator;" (.ref (w 0))) ∧
  (Exa Z h (w 0) "com/example/licon/licon/search/Operator") ∧
  (Sta Z h "com/example/licon/licon/search/Operator" "NEQ" "Lcom/example/licon/licon/search/Operator;" (.ref (w 1))) ∧
  (Exa Z h (w 1) "com/example/licon/licon/search/Operator") ∧
  (Sta Z h "com/example/licon/licon/search/Operator" "IN" "Lcom/example/licon/licon/search/Operator;" (.ref (w 2))) ∧
  (Exa Z h (w 2) "com/example/licon/licon/search/Operator") ∧
  (Sta Z h "com/example/licon/licon/search/Operator" "NOT_EMPTY" "Lcom/example/licon/licon/search/Operator;" (.ref (w 3))) ∧
  (Exa Z h (w 3) "com/example/licon/licon/search/Operator") ∧
  (Sta Z h "com/example/licon/licon/search/Operator" "SW" "Lcom/example/licon/licon/search/Operator;" (.ref (w 4))) ∧
  (Exa Z h (w 4) "com/example/licon/licon/search/Operator") ∧
  (Sta Z h "com/example/licon/licon/search/Operator" "CONTAINS" "Lcom/example/licon/licon/search/Operator;" (.ref (w 5))) ∧
  (Exa Z h (w 5) "com/example/licon/licon/search/Operator") ∧
  (Sta Z h "com/example/licon/licon/search/Operator" "NIN" "Lcom/example/licon/licon/search/Operator;" (.ref (w 6))) ∧
  (Exa Z h (w 6) "com/example/licon/licon/search/Operator") ∧
  (Sta Z h "com/example/licon/licon/search/Operator" "IS_EMPTY" "Lcom/example/licon/licon/search/Operator;" (.ref (w 7))) ∧
  (Exa Z h (w 7) "com/example/licon/licon/search/Operator") ∧
  (Fld Z h (w 0) "com/example/licon/licon/search/Operator" "fewestValues" "I" (.int (1 : Int32))) ∧
  (Fld Z h (w 0) "com/example/licon/licon/search/Operator" "mostValues" "I" (.int (1 : Int32))) ∧
  (Fld Z h (w 1) "com/example/licon/licon/search/Operator" "fewestValues" "I" (.int (1 : Int32))) ∧
  (Fld Z h (w 2) "com/example/licon/licon/search/Operator" "fewestValues" "I" (.int (1 : Int32))) ∧
  (Fld Z h (w 2) "com/example/licon/licon/search/Operator" "mostValues" "I" (.int (2147483647 : Int32))) ∧
  (Fld Z h (w 3) "com/example/licon/licon/search/Operator" "fewestValues" "I" (.int (0 : Int32))) ∧
  (Fld Z h (w 3) "com/example/licon/licon/search/Operator" "mostValues" "I" (.int (0 : Int32))) ∧
  (Fld Z h (w 4) "com/example/licon/licon/search/Operator" "fewestValues" "I" (.int (1 : Int32))) ∧
  (Fld Z h (w 5) "com/example/licon/licon/search/Operator" "fewestValues" "I" (.int (1 : Int32))) ∧
  (Fld Z h (w 5) "com/example/licon/licon/search/Operator" "mostValues" "I" (.int (1 : Int32))) ∧
  (Fld Z h (w 4) "com/example/licon/licon/search/Operator" "mostValues" "I" (.int (1 : Int32))) ∧
  (Fld Z h (w 1) "com/example/licon/licon/search/Operator" "mostValues" "I" (.int (1 : Int32))) ∧
  (Fld Z h (w 6) "com/example/licon/licon/search/Operator" "fewestValues" "I" (.int (1 : Int32))) ∧
  (Fld Z h (w 6) "com/example/licon/licon/search/Operator" "mostValues" "I" (.int (2147483647 : Int32))) ∧
  (Fld Z h (w 7) "com/example/licon/licon/search/Operator" "fewestValues" "I" (.int (0 : Int32))) ∧
  (Fld Z h (w 7) "com/example/licon/licon/search/Operator" "mostValues" "I" (.int (0 : Int32)))
theorem Kon.ext {Z : State} {h h' : Heap} {w : Nat → Addr} (K : Kon Z h w) (E : Ext h h') : Kon Z h' w := ⟨K.1.ext E, K.2.1.ext E, K.2.2.1.ext E, K.2.2.2.1.ext E, K.2.2.2.2.1.ext E, K.2.2.2.2.2.1.ext E, K.2.2.2.2.2.2.1.ext E, K.2.2.2.2.2.2.2.1.ext E, K.2.2.2.2.2.2.2.2.1.ext E, K.2.2.2.2.2.2.2.2.2.1.ext E, K.2.2.2.2.2.2.2.2.2.2.1.ext E, K.2.2.2.2.2.2.2.2.2.2.2.1.ext E, K.2.2.2.2.2.2.2.2.2.2.2.2.1.ext E, K.2.2.2.2.2.2.2.2.2.2.2.2.2.1.ext E, K.2.2.2.2.2.2.2.2.2.2.2.2.2.2.1.ext E, K.2.2.2.2.2.2.2.2.2.2.2.2.2.2.2.1.ext E, K.2.2.2.2.2.2.2.2.2.2.2.2.2.2.2.2.1.ext E, K.2.2.2.2.2.2.2.2.2.2.2.2.2.2.2.2.2.1.ext E, K.2.2.2.2.2.2.2.2.2.2.2.2.2.2.2.2.2.2.1.ext E, K.2.2.2.2.2.2.2.2.2.2.2.2.2.2.2.2.2.2.2.1.ext E, K.2.2.2.2.2.2.2.2.2.2.2.2.2.2.2.2.2.2.2.2.1.ext E, K.2.2.2.2.2.2.2.2.2.2.2.2.2.2.2.2.2.2.2.2.2.1.ext E, K.2.2.2.2.2.2.2.2.2.2.2.2.2.2.2.2.2.2.2.2.2.2.1.ext E, K.2.2.2.2.2.2.2.2.2.2.2.2.2.2.2.2.2.2.2.2.2.2.2.1.ext E, K.2.2.2.2.2.2.2.2.2.2.2.2.2.2.2.2.2.2.2.2.2.2.2.2.1.ext E, K.2.2.2.2.2.2.2.2.2.2.2.2.2.2.2.2.2.2.2.2.2.2.2.2.2.1.ext E, K.2.2.2.2.2.2.2.2.2.2.2.2.2.2.2.2.2.2.2.2.2.2.2.2.2.2.1.ext E, K.2.2.2.2.2.2.2.2.2.2.2.2.2.2.2.2.2.2.2.2.2.2.2.2.2.2.2.1.ext E, K.2.2.2.2.2.2.2.2.2.2.2.2.2.2.2.2.2.2.2.2.2.2.2.2.2.2.2.2.1.ext E, K.2.2.2.2.2.2.2.2.2.2.2.2.2.2.2.2.2.2.2.2.2.2.2.2.2.2.2.2.2.1.ext E, K.2.2.2.2.2.2.2.2.2.2.2.2.2.2.2.2.2.2.2.2.2.2.2.2.2.2.2.2.2.2.1.ext E, K.2.2.2.2.2.2.2.2.2.2.2.2.2.2.2.2.2.2.2.2.2.2.2.2.2.2.2.2.2.2.2.ext E⟩
theorem own_lt_8 (t : Int32) (h0 : 0 ≤ t.toInt) (h1 : t.toInt < 8) : t = (0 : Int32) ∨ t = (1 : Int32) ∨ t = (2 : Int32) ∨ t = (3 : Int32) ∨ t = (4 : Int32) ∨ t = (5 : Int32) ∨ t = (6 : Int32) ∨ t = (7 : Int32) := by
  have q : t.toInt = 0 ∨ t.toInt = 1 ∨ t.toInt = 2 ∨ t.toInt = 3 ∨ t.toInt = 4 ∨ t.toInt = 5 ∨ t.toInt = 6 ∨ t.toInt = 7 := by omega
  rcases q with q | q | q | q | q | q | q | q
  · exact Or.inl (Int32.toInt_inj.mp (q.trans (by decide)))
  · exact Or.inr (Or.inl (Int32.toInt_inj.mp (q.trans (by decide))))
  · exact Or.inr (Or.inr (Or.inl (Int32.toInt_inj.mp (q.trans (by decide)))))
  · exact Or.inr (Or.inr (Or.inr (Or.inl (Int32.toInt_inj.mp (q.trans (by decide))))))
  · exact Or.inr (Or.inr (Or.inr (Or.inr (Or.inl (Int32.toInt_inj.mp (q.trans (by decide)))))))
  · exact Or.inr (Or.inr (Or.inr (Or.inr (Or.inr (Or.inl (Int32.toInt_inj.mp (q.trans (by decide))))))))
  · exact Or.inr (Or.inr (Or.inr (Or.inr (Or.inr (Or.inr (Or.inl (Int32.toInt_inj.mp (q.trans (by decide)))))))))
  · exact Or.inr (Or.inr (Or.inr (Or.inr (Or.inr (Or.inr (Or.inr (Int32.toInt_inj.mp (q.trans (by decide)))))))))
theorem own_mask_8 (u : Int32) : (u &&& (7 : Int32)) = (0 : Int32) ∨ (u &&& (7 : Int32)) = (1 : Int32) ∨ (u &&& (7 : Int32)) = (2 : Int32) ∨ (u &&& (7 : Int32)) = (3 : Int32) ∨ (u &&& (7 : Int32)) = (4 : Int32) ∨ (u &&& (7 : Int32)) = (5 : Int32) ∨ (u &&& (7 : Int32)) = (6 : Int32) ∨ (u &&& (7 : Int32)) = (7 : Int32) := by
  have h1 := c_and u 7 (by decide)
  have h2 : (7 : Int32).toInt = 7 := rfl
  exact own_lt_8 _ h1.1 (by omega)
theorem d_method_3_code_0 : decode method_3_code 0 = .ok (.iload_n 0, 1) := by decide +kernel
theorem d_method_3_code_1 : decode method_3_code 1 = .ok (.ifCond .ne 7, 3) := by decide +kernel
theorem d_method_3_code_4 : decode method_3_code 4 = .ok (.getstatic 19, 3) := by decide +kernel
theorem d_method_3_code_7 : decode method_3_code 7 = .ok (.areturn, 1) := by decide +kernel
theorem pn_com_example_licon_licon_search_OperatorTakesPinLaw : plainName "com/example/licon/licon/search/OperatorTakesPinLaw" = true := by first | (simp [plainName, overriddenIn]; done) | decide +kernel
set_option maxRecDepth 65536 in
set_option maxHeartbeats 40000000 in
theorem rm_pick_1 (l : Launch) (Z : State) (a0 : Array Value) (hw : ∀ d ∈ tables_1, d.before a0 Z = true) (w : Nat → Addr) (h0 : Heap) (n0 : Nat) (Z0 : n0 ≤ h0.size) (K : Kon Z h0 w) (u0 u1 u2 : Int32) :
    OM l Z (⟨"com/example/licon/licon/search/OperatorTakesPinLaw", "pick", "(I)Lcom/example/licon/licon/search/Operator;"⟩ : MethodName) method_3_code 1 (some (.object "com/example/licon/licon/search/Operator")) [] ({ frames := 0, cells := 0, slots := 0, locals := 0 } : Room) #[(.int (0 : Int32))] h0 (OP (some (.ref (w 0))) n0 h0) := by
  refine MetFree.of_bodySF (plainFor_of_name pn_com_example_licon_licon_search_OperatorTakesPinLaw) hisR ?_
  intro p e s m args below meth c s₁ Bd hml0 hP hK
  obtain ⟨rfl, hZ, hh⟩ := hP
  have hx := Bd.exec
  have hby := Bd.bytes
  have hml : c.maxLocals = 1 := hml0
  have hown : s.vm.findClass "com/example/licon/licon/search/OperatorTakesPinLaw" = some m.cls := findClass_of_methodNamed Bd.named
  have X0 : Stand p l e ({ frames := 0, cells := 0, slots := 0, locals := 0 } : Room) s m #[(.int (0 : Int32))] below meth c s₁ [] 0 0 := Stand.of_body Bd
  have e0 : s₁.heap = h0 := by rw [← hh, Bd.state]; rfl
  have N0 := Fr.nil n0
  have pre0 : ∀ t, Steps p.tables e below (s₁.setTop (mkF m 0 #[.val (.int (0 : Int32))] [])) t → Steps p.tables e below (s₁.setTop (entryFrame m #[(.int (0 : Int32))] 1)) t := fun t k => castTop (by first | rfl | simp [entryFrame, mkF, argsToLocals, Value.category]) k
  obtain ⟨T1, X1, e1, st1⟩ := getS2 X0 hx hZ hown (host := "") (Or.inl (hw _ (List.mem_of_getElem? (i := 4) rfl))) Via.refl e0 K.1 (g := (mkF m 4 #[.val (.int (0 : Int32))] [])) rfl (hb hby d_method_3_code_4)
  obtain ⟨fs, hr, hrun, hended, hW, hsame⟩ := X1.leave (v := (some (.ref (w 0)))) (fun h => by rw [Bd.returns] at h; cases h)
  refine ⟨_, _, pre0 _ ?_, hrun, hended, _, _, rfl, ?_, ⟨_, rfl⟩, hW, hsame.mono (by decide) (by decide)⟩
  · show Steps p.tables e below (s₁.setTop (mkF m 0 #[.val (.int (0 : Int32))] [])) _
    refine XS.iloadN X0.here hx rfl (hb hby d_method_3_code_0) rfl ?_
    refine XS.ifNo X0.here hx rfl (hb hby d_method_3_code_1) rfl ((if0 _ _).trans (teq (by decide : (0 : Int32) = (0 : Int32))).2) ?_
    refine st1 _ ?_
    show Steps p.tables e below (T1.setTop (mkF m 7 #[.val (.int (0 : Int32))] [(.ref (w 0))])) _
    jvm_step X1.here [X1.here.top, hx, (hb hby d_method_3_code_7), X1.method', Bd.returns, Value.isRef, FieldType.isReference]
    first | (intro acts; rw [hr _ acts rfl rfl rfl]) | rw [hr _ _ rfl rfl rfl]
    exact Steps.refl _
  · exact ⟨rfl, N0, e1⟩
theorem pd_28I29Lcom2fexample2flicon2flicon2fsearch2fOperator3b : parseMethodDescriptor "(I)Lcom/example/licon/licon/search/Operator;" = some ⟨[.int], some (.object "com/example/licon/licon/search/Operator")⟩ := by decide +kernel
theorem d_prog_9_method_4_code_0 : decode prog_9_method_4_code 0 = .ok (.iload_n 1, 1) := by decide +kernel
theorem d_prog_9_method_4_code_1 : decode prog_9_method_4_code 1 = .ok (.aload_n 0, 1) := by decide +kernel
theorem d_prog_9_method_4_code_2 : decode prog_9_method_4_code 2 = .ok (.getfield 47, 3) := by decide +kernel
theorem d_prog_9_method_4_code_5 : decode prog_9_method_4_code 5 = .ok (.if_icmp .lt 15, 3) := by decide +kernel
theorem d_prog_9_method_4_code_8 : decode prog_9_method_4_code 8 = .ok (.iload_n 1, 1) := by decide +kernel
theorem d_prog_9_method_4_code_9 : decode prog_9_method_4_code 9 = .ok (.aload_n 0, 1) := by decide +kernel
theorem d_prog_9_method_4_code_10 : decode prog_9_method_4_code 10 = .ok (.getfield 51, 3) := by decide +kernel
theorem d_prog_9_method_4_code_13 : decode prog_9_method_4_code 13 = .ok (.if_icmp .gt 7, 3) := by decide +kernel
theorem d_prog_9_method_4_code_16 : decode prog_9_method_4_code 16 = .ok (.iconst 1, 1) := by decide +kernel
theorem d_prog_9_method_4_code_17 : decode prog_9_method_4_code 17 = .ok (.goto 4, 3) := by decide +kernel
theorem d_prog_9_method_4_code_21 : decode prog_9_method_4_code 21 = .ok (.ireturn, 1) := by decide +kernel
theorem pn_com_example_licon_licon_search_Operator : plainName "com/example/licon/licon/search/Operator" = true := by first | (simp [plainName, overriddenIn]; done) | decide +kernel
set_option maxRecDepth 65536 in
set_option maxHeartbeats 40000000 in
theorem rm_takes_2 (l : Launch) (Z : State) (a0 : Array Value) (hw : ∀ d ∈ tables_1, d.before a0 Z = true) (w : Nat → Addr) (h0 : Heap) (n0 : Nat) (Z0 : n0 ≤ h0.size) (K : Kon Z h0 w) (u0 u1 u2 : Int32) (hf2 : u1 = (1 : Int32)) :
    OM l Z (⟨"com/example/licon/licon/search/Operator", "takes", "(I)Z"⟩ : MethodName) prog_9_method_4_code 2 (some .boolean) [] ({ frames := 0, cells := 0, slots := 0, locals := 0 } : Room) #[(.ref (w 0)), (.int u1)] h0 (OP (some (.int (1 : Int32))) n0 h0) := by
  refine MetFree.of_bodySF (plainFor_of_name pn_com_example_licon_licon_search_Operator) hisR ?_
  intro p e s m args below meth c s₁ Bd hml0 hP hK
  obtain ⟨rfl, hZ, hh⟩ := hP
  have hx := Bd.exec
  have hby := Bd.bytes
  have hml : c.maxLocals = 2 := hml0
  have hown : s.vm.findClass "com/example/licon/licon/search/Operator" = some m.cls := findClass_of_methodNamed Bd.named
  have X0 : Stand p l e ({ frames := 0, cells := 0, slots := 0, locals := 0 } : Room) s m #[(.ref (w 0)), (.int u1)] below meth c s₁ [] 0 0 := Stand.of_body Bd
  have e0 : s₁.heap = h0 := by rw [← hh, Bd.state]; rfl
  have N0 := Fr.nil n0
  have pre0 : ∀ t, Steps p.tables e below (s₁.setTop (mkF m 0 #[.val (.ref (w 0)), .val (.int u1)] [])) t → Steps p.tables e below (s₁.setTop (entryFrame m #[(.ref (w 0)), (.int u1)] 2)) t := fun t k => castTop (by first | rfl | simp [entryFrame, mkF, argsToLocals, Value.category]) k
  obtain ⟨T1, X1, e1, st1⟩ := getF X0 hx hZ hown (host := "") (Or.inl (hw _ (List.mem_of_getElem? (i := 12) rfl))) Via.refl e0 K.2.2.2.2.2.2.2.2.2.2.2.2.2.2.2.2.1 (g := (mkF m 2 #[.val (.ref (w 0)), .val (.int u1)] [(.ref (w 0)), (.int u1)])) rfl rfl (hb hby d_prog_9_method_4_code_2)
  obtain ⟨T2, X2, e2, st2⟩ := getF X1 hx hZ hown (host := "") (Or.inl (hw _ (List.mem_of_getElem? (i := 14) rfl))) Via.refl e1 K.2.2.2.2.2.2.2.2.2.2.2.2.2.2.2.2.2.1 (g := (mkF m 10 #[.val (.ref (w 0)), .val (.int u1)] [(.ref (w 0)), (.int u1)])) rfl rfl (hb hby d_prog_9_method_4_code_10)
  obtain ⟨fs, hr, hrun, hended, hW, hsame⟩ := X2.leave (v := (some (.int (1 : Int32)))) (fun h => by rw [Bd.returns] at h; cases h)
  refine ⟨_, _, pre0 _ ?_, hrun, hended, _, _, rfl, ?_, ⟨_, rfl⟩, hW, hsame.mono (by decide) (by decide)⟩
  · show Steps p.tables e below (s₁.setTop (mkF m 0 #[.val (.ref (w 0)), .val (.int u1)] [])) _
    refine XS.iloadN X0.here hx rfl (hb hby d_prog_9_method_4_code_0) rfl ?_
    refine XS.aloadN X0.here hx rfl (hb hby d_prog_9_method_4_code_1) rfl rfl ?_
    refine st1 _ ?_
    refine XS.icmpNo X1.here hx rfl (hb hby d_prog_9_method_4_code_5) rfl (flt (by have z0 := congrArg Int32.toInt hf2; have l0 : (1 : Int32).toInt = 1 := rfl; have r0 := rng32 u1; exact fun hh => absurd (Int32.lt_iff_toInt_lt.mp hh) (by omega) : ¬ (u1 < (1 : Int32)))).1 ?_
    show Steps p.tables e below (T1.setTop (mkF m 8 #[.val (.ref (w 0)), .val (.int u1)] [])) _
    refine XS.iloadN X1.here hx rfl (hb hby d_prog_9_method_4_code_8) rfl ?_
    refine XS.aloadN X1.here hx rfl (hb hby d_prog_9_method_4_code_9) rfl rfl ?_
    refine st2 _ ?_
    refine XS.icmpNo X2.here hx rfl (hb hby d_prog_9_method_4_code_13) rfl (flt (by have z0 := congrArg Int32.toInt hf2; have l0 : (1 : Int32).toInt = 1 := rfl; have r0 := rng32 u1; exact fun hh => absurd (Int32.lt_iff_toInt_lt.mp hh) (by omega) : ¬ ((1 : Int32) < u1))).2.2.1 ?_
    show Steps p.tables e below (T2.setTop (mkF m 16 #[.val (.ref (w 0)), .val (.int u1)] [])) _
    refine XS.iconst X2.here hx rfl (hb hby d_prog_9_method_4_code_16) ?_
    refine XS.goto X2.here hx rfl (pc0 := 17) (pc' := 21) rfl (hb hby d_prog_9_method_4_code_17) (by decide) (by decide) ?_
    show Steps p.tables e below (T2.setTop (mkF m 21 #[.val (.ref (w 0)), .val (.int u1)] [(.int (1 : Int32))])) _
    exact retN X2 hx (t := .boolean) Bd.returns (by simp) (hb hby d_prog_9_method_4_code_21) hr
  · exact ⟨rfl, N0, e2⟩
theorem pd_28I29Z : parseMethodDescriptor "(I)Z" = some ⟨[.int], some .boolean⟩ := by decide +kernel
set_option maxRecDepth 65536 in
set_option maxHeartbeats 40000000 in
theorem rm0_3 (l : Launch) (Z : State) (a0 : Array Value) (hw : ∀ d ∈ tables_1, d.before a0 Z = true) (w : Nat → Addr) (h0 : Heap) (n0 : Nat) (Z0 : n0 ≤ h0.size) (K : Kon Z h0 w) (u0 u1 u2 : Int32) (hf1 : (u2 &&& (1 : Int32)) = (0 : Int32)) (hf2 : u1 = (1 : Int32)) (hk0 : (u0 &&& (7 : Int32)) = (0 : Int32)) :
    OM l Z x code maxLocals ret tables_1 room_1 #[(.int u0), (.int u1), (.int u2)] h0 (OP (some (.int (1 : Int32))) n0 h0) := by
  refine MetFree.of_bodySF (plainFor_of_name pn_com_example_licon_licon_search_OperatorTakesPinLaw) hisR ?_
  intro p e s m args below meth c s₁ Bd hml0 hP hK
  obtain ⟨rfl, hZ, hh⟩ := hP
  have hx := Bd.exec
  have hby := Bd.bytes
  have hml : c.maxLocals = 7 := hml0
  have hown : s.vm.findClass "com/example/licon/licon/search/OperatorTakesPinLaw" = some m.cls := findClass_of_methodNamed Bd.named
  have X0 : Stand p l e room_1 s m #[(.int u0), (.int u1), (.int u2)] below meth c s₁ [] 0 0 := Stand.of_body Bd
  have e0 : s₁.heap = h0 := by rw [← hh, Bd.state]; rfl
  have N0 := Fr.nil n0
  have pre0 : ∀ t, Steps p.tables e below (s₁.setTop (mkF m 0 #[.val (.int u0), .val (.int u1), .val (.int u2), .unset, .unset, .unset, .unset] [])) t → Steps p.tables e below (s₁.setTop (entryFrame m #[(.int u0), (.int u1), (.int u2)] maxLocals)) t := fun t k => castTop (by first | rfl | simp [entryFrame, mkF, argsToLocals, Value.category, maxLocals]) k
  obtain ⟨_, _, ⟨T1, L1, k1, n1⟩, -, X1, ⟨Lc1, hQ1, l1, y1, z1⟩, st1⟩ := Jvm.LawKit.callS X0 hx (y := (⟨"com/example/licon/licon/search/OperatorTakesPinLaw", "pick", "(I)Lcom/example/licon/licon/search/Operator;"⟩ : MethodName)) hown (mvT hZ (hw _ (List.mem_of_getElem? (i := 0) rfl))) (mvT hZ (hw _ (List.mem_of_getElem? (i := 1) rfl))) (mvT hZ (hw _ (List.mem_of_getElem? (i := 2) rfl))) (mvT hZ (hw _ (List.mem_of_getElem? (i := 3) rfl))) (by decide) (backOf (W := 0) (rm_pick_1 l Z a0 hw w h0 n0 Z0 K u0 u1 u2) hZ (hw _ (List.mem_of_getElem? (i := 3) rfl)) (hw _ (List.mem_of_getElem? (i := 2) rfl)) (by decide) (by decide)) (g := (mkF m 21 #[.val (.int u0), .val (.int u1), .val (.int u2), .val (.int (0 : Int32)), .val (.int u1), .unset, .unset] [(.int (0 : Int32))])) rfl (by rw [hml]; rfl) (argsL := [(.int (0 : Int32))]) (rest := []) (lenOf pd_28I29Lcom2fexample2flicon2flicon2fsearch2fOperator3b rfl) rfl (by show 2 * 0 + _ ≤ _; exact Nat.le_of_eq rfl) (hb hby at_21) (fun _ _ => ⟨rfl, e0, (by decide : 0 + 0 ≤ _), (by decide : 0 + 0 ≤ _)⟩)
  dsimp only [Pt.U, Pt.locs, Pt.cells, Pt.slots] at X1 l1 y1 z1 st1 hQ1
  subst l1 y1 z1
  obtain ⟨rfl, N1q, e1⟩ := hQ1
  have N1 := Fr.app N0 N1q
  obtain ⟨cq2, kq2, qa2, qb2, qc2⟩ := isOf hZ e1 K.2.1
  obtain ⟨_, _, ⟨T2, L2, k2, n2⟩, -, X2, ⟨Lc2, hQ2, l2, y2, z2⟩, st2⟩ := X1.virtualBack hx (y := (⟨"com/example/licon/licon/search/Operator", "takes", "(I)Z"⟩ : MethodName)) (z := (⟨"com/example/licon/licon/search/Operator", "takes", "(I)Z"⟩ : MethodName)) hown (mvT hZ (hw _ (List.mem_of_getElem? (i := 7) rfl))) (mvT hZ (hw _ (List.mem_of_getElem? (i := 8) rfl))) (notFace_of_selects (args := #[]) (mvT hZ (hw _ (List.mem_of_getElem? (i := 10) rfl)))) (mvT hZ (hw _ (List.mem_of_getElem? (i := 10) rfl))) (mvT hZ (hw _ (List.mem_of_getElem? (i := 9) rfl))) (by decide) (backOf (W := 0) (rm_takes_2 l Z a0 hw w h0 n0 Z0 K u0 u1 u2 hf2) hZ (hw _ (List.mem_of_getElem? (i := 11) rfl)) (hw _ (List.mem_of_getElem? (i := 5) rfl)) (by decide) (by decide)) qa2 qc2 (g := (mkF m 84 #[.val (.int u0), .val (.int u1), .val (.int u2), .val (.int (0 : Int32)), .val (.int u1), .val (.ref (w 0)), .val (.int (1 : Int32))] [(.int u1), (.ref (w 0))])) rfl (by rw [hml]; rfl) (Steps.refl _) (argsL := [(.int u1)]) (rest := []) (lenOf pd_28I29Z rfl) rfl (by show 2 * 0 + _ ≤ _; exact Nat.le_of_eq rfl) (hb hby at_84) (fun _ _ => ⟨rfl, e1, (by decide : 0 + 0 ≤ _), (by decide : 0 + 0 ≤ _)⟩)
  dsimp only [Pt.U, Pt.locs, Pt.cells, Pt.slots] at X2 l2 y2 z2 st2 hQ2
  subst l2 y2 z2
  obtain ⟨rfl, N2q, e2⟩ := hQ2
  have N2 := Fr.app N1 N2q
  obtain ⟨fs, hr, hrun, hended, hW, hsame⟩ := X2.leave (v := (some (.int (1 : Int32)))) (fun h => by rw [Bd.returns] at h; cases h)
  refine ⟨_, _, pre0 _ ?_, hrun, hended, _, _, rfl, ?_, ⟨_, rfl⟩, hW, hsame.mono (by decide) (by decide)⟩
  · show Steps p.tables e below (s₁.setTop (mkF m 0 #[.val (.int u0), .val (.int u1), .val (.int u2), .unset, .unset, .unset, .unset] [])) _
    refine XS.iloadN X0.here hx rfl (hb hby at_0) rfl ?_
    refine XS.bipush X0.here hx rfl (hb hby at_1) ?_
    refine XS.iand X0.here hx rfl (hb hby at_3) rfl ?_
    show Steps p.tables e below (s₁.setTop (mkF m 4 #[.val (.int u0), .val (.int u1), .val (.int u2), .unset, .unset, .unset, .unset] [(.int (u0 &&& (7 : Int32)))])) _
    rw [hk0]
    show Steps p.tables e below (s₁.setTop (mkF m 4 #[.val (.int u0), .val (.int u1), .val (.int u2), .unset, .unset, .unset, .unset] [(.int (0 : Int32))])) _
    refine XS.istoreN X0.here hx rfl (hb hby at_4) rfl (l' := #[.val (.int u0), .val (.int u1), .val (.int u2), .val (.int (0 : Int32)), .unset, .unset, .unset]) rfl ?_
    refine XS.iloadN X0.here hx rfl (hb hby at_5) rfl ?_
    refine XS.iconst X0.here hx rfl (hb hby at_6) ?_
    refine XS.iand X0.here hx rfl (hb hby at_7) rfl ?_
    show Steps p.tables e below (s₁.setTop (mkF m 8 #[.val (.int u0), .val (.int u1), .val (.int u2), .val (.int (0 : Int32)), .unset, .unset, .unset] [(.int (u2 &&& (1 : Int32)))])) _
    refine XS.ifYes X0.here hx rfl (pc0 := 8) (pc' := 17) rfl (hb hby at_8) rfl ((if0 _ _).trans (teq hf1).1) (by decide) (by decide) ?_
    refine XS.iloadN X0.here hx rfl (hb hby at_17) rfl ?_
    refine XS.istore X0.here hx rfl (hb hby at_18) rfl (l' := #[.val (.int u0), .val (.int u1), .val (.int u2), .val (.int (0 : Int32)), .val (.int u1), .unset, .unset]) rfl ?_
    refine XS.iloadN X0.here hx rfl (hb hby at_20) rfl ?_
    show Steps p.tables e below (s₁.setTop (mkF m 21 #[.val (.int u0), .val (.int u1), .val (.int u2), .val (.int (0 : Int32)), .val (.int u1), .unset, .unset] [(.int (0 : Int32))])) _
    refine st1 _ ?_
    refine XS.astore X1.here hx rfl (hb hby at_24) rfl rfl (l' := #[.val (.int u0), .val (.int u1), .val (.int u2), .val (.int (0 : Int32)), .val (.int u1), .val (.ref (w 0)), .unset]) rfl ?_
    refine XS.iloadN X1.here hx rfl (hb hby at_26) rfl ?_
    refine XS.iconst X1.here hx rfl (hb hby at_27) ?_
    show Steps p.tables e below (T1.setTop (mkF m 28 #[.val (.int u0), .val (.int u1), .val (.int u2), .val (.int (0 : Int32)), .val (.int u1), .val (.ref (w 0)), .unset] [(.int (4 : Int32)), (.int (0 : Int32))])) _
    refine XS.icmpNo X1.here hx rfl (hb hby at_28) rfl (tlt (by decide : (0 : Int32) < (4 : Int32))).2.1 ?_
    refine XS.iload X1.here hx rfl (hb hby at_31) rfl ?_
    refine XS.iconst X1.here hx rfl (hb hby at_33) ?_
    refine XS.icmpNo X1.here hx rfl (hb hby at_34) rfl (teq hf2).2 ?_
    show Steps p.tables e below (T1.setTop (mkF m 37 #[.val (.int u0), .val (.int u1), .val (.int u2), .val (.int (0 : Int32)), .val (.int u1), .val (.ref (w 0)), .unset] [])) _
    refine XS.iconst X1.here hx rfl (hb hby at_37) ?_
    refine XS.goto X1.here hx rfl (pc0 := 38) (pc' := 42) rfl (hb hby at_38) (by decide) (by decide) ?_
    refine XS.istore X1.here hx rfl (hb hby at_42) rfl (l' := #[.val (.int u0), .val (.int u1), .val (.int u2), .val (.int (0 : Int32)), .val (.int u1), .val (.ref (w 0)), .val (.int (1 : Int32))]) rfl ?_
    refine XS.goto X1.here hx rfl (pc0 := 44) (pc' := 80) rfl (hb hby at_44) (by decide) (by decide) ?_
    show Steps p.tables e below (T1.setTop (mkF m 80 #[.val (.int u0), .val (.int u1), .val (.int u2), .val (.int (0 : Int32)), .val (.int u1), .val (.ref (w 0)), .val (.int (1 : Int32))] [])) _
    refine XS.aload X1.here hx rfl (hb hby at_80) rfl rfl ?_
    refine XS.iload X1.here hx rfl (hb hby at_82) rfl ?_
    refine st2.trans ?_
    refine XS.iload X2.here hx rfl (hb hby at_87) rfl ?_
    show Steps p.tables e below (T2.setTop (mkF m 89 #[.val (.int u0), .val (.int u1), .val (.int u2), .val (.int (0 : Int32)), .val (.int u1), .val (.ref (w 0)), .val (.int (1 : Int32))] [(.int (1 : Int32)), (.int (1 : Int32))])) _
    refine XS.icmpNo X2.here hx rfl (hb hby at_89) rfl (teq (by decide : (1 : Int32) = (1 : Int32))).2 ?_
    refine XS.iconst X2.here hx rfl (hb hby at_92) ?_
    refine XS.goto X2.here hx rfl (pc0 := 93) (pc' := 97) rfl (hb hby at_93) (by decide) (by decide) ?_
    show Steps p.tables e below (T2.setTop (mkF m 97 #[.val (.int u0), .val (.int u1), .val (.int u2), .val (.int (0 : Int32)), .val (.int u1), .val (.ref (w 0)), .val (.int (1 : Int32))] [(.int (1 : Int32))])) _
    exact retN X2 hx (t := .boolean) Bd.returns (by simp) (hb hby at_97) hr
  · exact ⟨rfl, N2, e2⟩
theorem d_prog_9_method_4_code_20 : decode prog_9_method_4_code 20 = .ok (.iconst 0, 1) := by decide +kernel
set_option maxRecDepth 65536 in
set_option maxHeartbeats 40000000 in
theorem rm_takes_4 (l : Launch) (Z : State) (a0 : Array Value) (hw : ∀ d ∈ tables_1, d.before a0 Z = true) (w : Nat → Addr) (h0 : Heap) (n0 : Nat) (Z0 : n0 ≤ h0.size) (K : Kon Z h0 w) (u0 u1 u2 : Int32) (hf3 : u1 < (1 : Int32)) :
    OM l Z (⟨"com/example/licon/licon/search/Operator", "takes", "(I)Z"⟩ : MethodName) prog_9_method_4_code 2 (some .boolean) [] ({ frames := 0, cells := 0, slots := 0, locals := 0 } : Room) #[(.ref (w 0)), (.int u1)] h0 (OP (some (.int (0 : Int32))) n0 h0) := by
  refine MetFree.of_bodySF (plainFor_of_name pn_com_example_licon_licon_search_Operator) hisR ?_
  intro p e s m args below meth c s₁ Bd hml0 hP hK
  obtain ⟨rfl, hZ, hh⟩ := hP
  have hx := Bd.exec
  have hby := Bd.bytes
  have hml : c.maxLocals = 2 := hml0
  have hown : s.vm.findClass "com/example/licon/licon/search/Operator" = some m.cls := findClass_of_methodNamed Bd.named
  have X0 : Stand p l e ({ frames := 0, cells := 0, slots := 0, locals := 0 } : Room) s m #[(.ref (w 0)), (.int u1)] below meth c s₁ [] 0 0 := Stand.of_body Bd
  have e0 : s₁.heap = h0 := by rw [← hh, Bd.state]; rfl
  have N0 := Fr.nil n0
  have pre0 : ∀ t, Steps p.tables e below (s₁.setTop (mkF m 0 #[.val (.ref (w 0)), .val (.int u1)] [])) t → Steps p.tables e below (s₁.setTop (entryFrame m #[(.ref (w 0)), (.int u1)] 2)) t := fun t k => castTop (by first | rfl | simp [entryFrame, mkF, argsToLocals, Value.category]) k
  obtain ⟨T1, X1, e1, st1⟩ := getF X0 hx hZ hown (host := "") (Or.inl (hw _ (List.mem_of_getElem? (i := 12) rfl))) Via.refl e0 K.2.2.2.2.2.2.2.2.2.2.2.2.2.2.2.2.1 (g := (mkF m 2 #[.val (.ref (w 0)), .val (.int u1)] [(.ref (w 0)), (.int u1)])) rfl rfl (hb hby d_prog_9_method_4_code_2)
  obtain ⟨fs, hr, hrun, hended, hW, hsame⟩ := X1.leave (v := (some (.int (0 : Int32)))) (fun h => by rw [Bd.returns] at h; cases h)
  refine ⟨_, _, pre0 _ ?_, hrun, hended, _, _, rfl, ?_, ⟨_, rfl⟩, hW, hsame.mono (by decide) (by decide)⟩
  · show Steps p.tables e below (s₁.setTop (mkF m 0 #[.val (.ref (w 0)), .val (.int u1)] [])) _
    refine XS.iloadN X0.here hx rfl (hb hby d_prog_9_method_4_code_0) rfl ?_
    refine XS.aloadN X0.here hx rfl (hb hby d_prog_9_method_4_code_1) rfl rfl ?_
    refine st1 _ ?_
    refine XS.icmpYes X1.here hx rfl (pc0 := 5) (pc' := 20) rfl (hb hby d_prog_9_method_4_code_5) rfl (tlt hf3).1 (by decide) (by decide) ?_
    show Steps p.tables e below (T1.setTop (mkF m 20 #[.val (.ref (w 0)), .val (.int u1)] [])) _
    refine XS.iconst X1.here hx rfl (hb hby d_prog_9_method_4_code_20) ?_
    show Steps p.tables e below (T1.setTop (mkF m 21 #[.val (.ref (w 0)), .val (.int u1)] [(.int (0 : Int32))])) _
    exact retN X1 hx (t := .boolean) Bd.returns (by simp) (hb hby d_prog_9_method_4_code_21) hr
  · exact ⟨rfl, N0, e1⟩
set_option maxRecDepth 65536 in
set_option maxHeartbeats 40000000 in
theorem rm0_5 (l : Launch) (Z : State) (a0 : Array Value) (hw : ∀ d ∈ tables_1, d.before a0 Z = true) (w : Nat → Addr) (h0 : Heap) (n0 : Nat) (Z0 : n0 ≤ h0.size) (K : Kon Z h0 w) (u0 u1 u2 : Int32) (hf1 : (u2 &&& (1 : Int32)) = (0 : Int32)) (hf2 : ¬ (u1 = (1 : Int32))) (hf3 : u1 < (1 : Int32)) (hk0 : (u0 &&& (7 : Int32)) = (0 : Int32)) :
    OM l Z x code maxLocals ret tables_1 room_1 #[(.int u0), (.int u1), (.int u2)] h0 (OP (some (.int (1 : Int32))) n0 h0) := by
  refine MetFree.of_bodySF (plainFor_of_name pn_com_example_licon_licon_search_OperatorTakesPinLaw) hisR ?_
  intro p e s m args below meth c s₁ Bd hml0 hP hK
  obtain ⟨rfl, hZ, hh⟩ := hP
  have hx := Bd.exec
  have hby := Bd.bytes
  have hml : c.maxLocals = 7 := hml0
  have hown : s.vm.findClass "com/example/licon/licon/search/OperatorTakesPinLaw" = some m.cls := findClass_of_methodNamed Bd.named
  have X0 : Stand p l e room_1 s m #[(.int u0), (.int u1), (.int u2)] below meth c s₁ [] 0 0 := Stand.of_body Bd
  have e0 : s₁.heap = h0 := by rw [← hh, Bd.state]; rfl
  have N0 := Fr.nil n0
  have pre0 : ∀ t, Steps p.tables e below (s₁.setTop (mkF m 0 #[.val (.int u0), .val (.int u1), .val (.int u2), .unset, .unset, .unset, .unset] [])) t → Steps p.tables e below (s₁.setTop (entryFrame m #[(.int u0), (.int u1), (.int u2)] maxLocals)) t := fun t k => castTop (by first | rfl | simp [entryFrame, mkF, argsToLocals, Value.category, maxLocals]) k
  obtain ⟨_, _, ⟨T1, L1, k1, n1⟩, -, X1, ⟨Lc1, hQ1, l1, y1, z1⟩, st1⟩ := Jvm.LawKit.callS X0 hx (y := (⟨"com/example/licon/licon/search/OperatorTakesPinLaw", "pick", "(I)Lcom/example/licon/licon/search/Operator;"⟩ : MethodName)) hown (mvT hZ (hw _ (List.mem_of_getElem? (i := 0) rfl))) (mvT hZ (hw _ (List.mem_of_getElem? (i := 1) rfl))) (mvT hZ (hw _ (List.mem_of_getElem? (i := 2) rfl))) (mvT hZ (hw _ (List.mem_of_getElem? (i := 3) rfl))) (by decide) (backOf (W := 0) (rm_pick_1 l Z a0 hw w h0 n0 Z0 K u0 u1 u2) hZ (hw _ (List.mem_of_getElem? (i := 3) rfl)) (hw _ (List.mem_of_getElem? (i := 2) rfl)) (by decide) (by decide)) (g := (mkF m 21 #[.val (.int u0), .val (.int u1), .val (.int u2), .val (.int (0 : Int32)), .val (.int u1), .unset, .unset] [(.int (0 : Int32))])) rfl (by rw [hml]; rfl) (argsL := [(.int (0 : Int32))]) (rest := []) (lenOf pd_28I29Lcom2fexample2flicon2flicon2fsearch2fOperator3b rfl) rfl (by show 2 * 0 + _ ≤ _; exact Nat.le_of_eq rfl) (hb hby at_21) (fun _ _ => ⟨rfl, e0, (by decide : 0 + 0 ≤ _), (by decide : 0 + 0 ≤ _)⟩)
  dsimp only [Pt.U, Pt.locs, Pt.cells, Pt.slots] at X1 l1 y1 z1 st1 hQ1
  subst l1 y1 z1
  obtain ⟨rfl, N1q, e1⟩ := hQ1
  have N1 := Fr.app N0 N1q
  obtain ⟨cq2, kq2, qa2, qb2, qc2⟩ := isOf hZ e1 K.2.1
  obtain ⟨_, _, ⟨T2, L2, k2, n2⟩, -, X2, ⟨Lc2, hQ2, l2, y2, z2⟩, st2⟩ := X1.virtualBack hx (y := (⟨"com/example/licon/licon/search/Operator", "takes", "(I)Z"⟩ : MethodName)) (z := (⟨"com/example/licon/licon/search/Operator", "takes", "(I)Z"⟩ : MethodName)) hown (mvT hZ (hw _ (List.mem_of_getElem? (i := 7) rfl))) (mvT hZ (hw _ (List.mem_of_getElem? (i := 8) rfl))) (notFace_of_selects (args := #[]) (mvT hZ (hw _ (List.mem_of_getElem? (i := 10) rfl)))) (mvT hZ (hw _ (List.mem_of_getElem? (i := 10) rfl))) (mvT hZ (hw _ (List.mem_of_getElem? (i := 9) rfl))) (by decide) (backOf (W := 0) (rm_takes_4 l Z a0 hw w h0 n0 Z0 K u0 u1 u2 hf3) hZ (hw _ (List.mem_of_getElem? (i := 11) rfl)) (hw _ (List.mem_of_getElem? (i := 5) rfl)) (by decide) (by decide)) qa2 qc2 (g := (mkF m 84 #[.val (.int u0), .val (.int u1), .val (.int u2), .val (.int (0 : Int32)), .val (.int u1), .val (.ref (w 0)), .val (.int (0 : Int32))] [(.int u1), (.ref (w 0))])) rfl (by rw [hml]; rfl) (Steps.refl _) (argsL := [(.int u1)]) (rest := []) (lenOf pd_28I29Z rfl) rfl (by show 2 * 0 + _ ≤ _; exact Nat.le_of_eq rfl) (hb hby at_84) (fun _ _ => ⟨rfl, e1, (by decide : 0 + 0 ≤ _), (by decide : 0 + 0 ≤ _)⟩)
  dsimp only [Pt.U, Pt.locs, Pt.cells, Pt.slots] at X2 l2 y2 z2 st2 hQ2
  subst l2 y2 z2
  obtain ⟨rfl, N2q, e2⟩ := hQ2
  have N2 := Fr.app N1 N2q
  obtain ⟨fs, hr, hrun, hended, hW, hsame⟩ := X2.leave (v := (some (.int (1 : Int32)))) (fun h => by rw [Bd.returns] at h; cases h)
  refine ⟨_, _, pre0 _ ?_, hrun, hended, _, _, rfl, ?_, ⟨_, rfl⟩, hW, hsame.mono (by decide) (by decide)⟩
  · show Steps p.tables e below (s₁.setTop (mkF m 0 #[.val (.int u0), .val (.int u1), .val (.int u2), .unset, .unset, .unset, .unset] [])) _
    refine XS.iloadN X0.here hx rfl (hb hby at_0) rfl ?_
    refine XS.bipush X0.here hx rfl (hb hby at_1) ?_
    refine XS.iand X0.here hx rfl (hb hby at_3) rfl ?_
    show Steps p.tables e below (s₁.setTop (mkF m 4 #[.val (.int u0), .val (.int u1), .val (.int u2), .unset, .unset, .unset, .unset] [(.int (u0 &&& (7 : Int32)))])) _
    rw [hk0]
    show Steps p.tables e below (s₁.setTop (mkF m 4 #[.val (.int u0), .val (.int u1), .val (.int u2), .unset, .unset, .unset, .unset] [(.int (0 : Int32))])) _
    refine XS.istoreN X0.here hx rfl (hb hby at_4) rfl (l' := #[.val (.int u0), .val (.int u1), .val (.int u2), .val (.int (0 : Int32)), .unset, .unset, .unset]) rfl ?_
    refine XS.iloadN X0.here hx rfl (hb hby at_5) rfl ?_
    refine XS.iconst X0.here hx rfl (hb hby at_6) ?_
    refine XS.iand X0.here hx rfl (hb hby at_7) rfl ?_
    show Steps p.tables e below (s₁.setTop (mkF m 8 #[.val (.int u0), .val (.int u1), .val (.int u2), .val (.int (0 : Int32)), .unset, .unset, .unset] [(.int (u2 &&& (1 : Int32)))])) _
    refine XS.ifYes X0.here hx rfl (pc0 := 8) (pc' := 17) rfl (hb hby at_8) rfl ((if0 _ _).trans (teq hf1).1) (by decide) (by decide) ?_
    refine XS.iloadN X0.here hx rfl (hb hby at_17) rfl ?_
    refine XS.istore X0.here hx rfl (hb hby at_18) rfl (l' := #[.val (.int u0), .val (.int u1), .val (.int u2), .val (.int (0 : Int32)), .val (.int u1), .unset, .unset]) rfl ?_
    refine XS.iloadN X0.here hx rfl (hb hby at_20) rfl ?_
    show Steps p.tables e below (s₁.setTop (mkF m 21 #[.val (.int u0), .val (.int u1), .val (.int u2), .val (.int (0 : Int32)), .val (.int u1), .unset, .unset] [(.int (0 : Int32))])) _
    refine st1 _ ?_
    refine XS.astore X1.here hx rfl (hb hby at_24) rfl rfl (l' := #[.val (.int u0), .val (.int u1), .val (.int u2), .val (.int (0 : Int32)), .val (.int u1), .val (.ref (w 0)), .unset]) rfl ?_
    refine XS.iloadN X1.here hx rfl (hb hby at_26) rfl ?_
    refine XS.iconst X1.here hx rfl (hb hby at_27) ?_
    show Steps p.tables e below (T1.setTop (mkF m 28 #[.val (.int u0), .val (.int u1), .val (.int u2), .val (.int (0 : Int32)), .val (.int u1), .val (.ref (w 0)), .unset] [(.int (4 : Int32)), (.int (0 : Int32))])) _
    refine XS.icmpNo X1.here hx rfl (hb hby at_28) rfl (tlt (by decide : (0 : Int32) < (4 : Int32))).2.1 ?_
    refine XS.iload X1.here hx rfl (hb hby at_31) rfl ?_
    refine XS.iconst X1.here hx rfl (hb hby at_33) ?_
    refine XS.icmpYes X1.here hx rfl (pc0 := 34) (pc' := 41) rfl (hb hby at_34) rfl (feq hf2).2 (by decide) (by decide) ?_
    show Steps p.tables e below (T1.setTop (mkF m 41 #[.val (.int u0), .val (.int u1), .val (.int u2), .val (.int (0 : Int32)), .val (.int u1), .val (.ref (w 0)), .unset] [])) _
    refine XS.iconst X1.here hx rfl (hb hby at_41) ?_
    refine XS.istore X1.here hx rfl (hb hby at_42) rfl (l' := #[.val (.int u0), .val (.int u1), .val (.int u2), .val (.int (0 : Int32)), .val (.int u1), .val (.ref (w 0)), .val (.int (0 : Int32))]) rfl ?_
    refine XS.goto X1.here hx rfl (pc0 := 44) (pc' := 80) rfl (hb hby at_44) (by decide) (by decide) ?_
    refine XS.aload X1.here hx rfl (hb hby at_80) rfl rfl ?_
    show Steps p.tables e below (T1.setTop (mkF m 82 #[.val (.int u0), .val (.int u1), .val (.int u2), .val (.int (0 : Int32)), .val (.int u1), .val (.ref (w 0)), .val (.int (0 : Int32))] [(.ref (w 0))])) _
    refine XS.iload X1.here hx rfl (hb hby at_82) rfl ?_
    refine st2.trans ?_
    refine XS.iload X2.here hx rfl (hb hby at_87) rfl ?_
    refine XS.icmpNo X2.here hx rfl (hb hby at_89) rfl (teq (by decide : (0 : Int32) = (0 : Int32))).2 ?_
    show Steps p.tables e below (T2.setTop (mkF m 92 #[.val (.int u0), .val (.int u1), .val (.int u2), .val (.int (0 : Int32)), .val (.int u1), .val (.ref (w 0)), .val (.int (0 : Int32))] [])) _
    refine XS.iconst X2.here hx rfl (hb hby at_92) ?_
    refine XS.goto X2.here hx rfl (pc0 := 93) (pc' := 97) rfl (hb hby at_93) (by decide) (by decide) ?_
    show Steps p.tables e below (T2.setTop (mkF m 97 #[.val (.int u0), .val (.int u1), .val (.int u2), .val (.int (0 : Int32)), .val (.int u1), .val (.ref (w 0)), .val (.int (0 : Int32))] [(.int (1 : Int32))])) _
    exact retN X2 hx (t := .boolean) Bd.returns (by simp) (hb hby at_97) hr
  · exact ⟨rfl, N2, e2⟩
set_option maxRecDepth 65536 in
set_option maxHeartbeats 40000000 in
theorem rm_takes_6 (l : Launch) (Z : State) (a0 : Array Value) (hw : ∀ d ∈ tables_1, d.before a0 Z = true) (w : Nat → Addr) (h0 : Heap) (n0 : Nat) (Z0 : n0 ≤ h0.size) (K : Kon Z h0 w) (u0 u1 u2 : Int32) (hf2 : ¬ (u1 = (1 : Int32))) (hf3 : ¬ (u1 < (1 : Int32))) :
    OM l Z (⟨"com/example/licon/licon/search/Operator", "takes", "(I)Z"⟩ : MethodName) prog_9_method_4_code 2 (some .boolean) [] ({ frames := 0, cells := 0, slots := 0, locals := 0 } : Room) #[(.ref (w 0)), (.int u1)] h0 (OP (some (.int (0 : Int32))) n0 h0) := by
  refine MetFree.of_bodySF (plainFor_of_name pn_com_example_licon_licon_search_Operator) hisR ?_
  intro p e s m args below meth c s₁ Bd hml0 hP hK
  obtain ⟨rfl, hZ, hh⟩ := hP
  have hx := Bd.exec
  have hby := Bd.bytes
  have hml : c.maxLocals = 2 := hml0
  have hown : s.vm.findClass "com/example/licon/licon/search/Operator" = some m.cls := findClass_of_methodNamed Bd.named
  have X0 : Stand p l e ({ frames := 0, cells := 0, slots := 0, locals := 0 } : Room) s m #[(.ref (w 0)), (.int u1)] below meth c s₁ [] 0 0 := Stand.of_body Bd
  have e0 : s₁.heap = h0 := by rw [← hh, Bd.state]; rfl
  have N0 := Fr.nil n0
  have pre0 : ∀ t, Steps p.tables e below (s₁.setTop (mkF m 0 #[.val (.ref (w 0)), .val (.int u1)] [])) t → Steps p.tables e below (s₁.setTop (entryFrame m #[(.ref (w 0)), (.int u1)] 2)) t := fun t k => castTop (by first | rfl | simp [entryFrame, mkF, argsToLocals, Value.category]) k
  obtain ⟨T1, X1, e1, st1⟩ := getF X0 hx hZ hown (host := "") (Or.inl (hw _ (List.mem_of_getElem? (i := 12) rfl))) Via.refl e0 K.2.2.2.2.2.2.2.2.2.2.2.2.2.2.2.2.1 (g := (mkF m 2 #[.val (.ref (w 0)), .val (.int u1)] [(.ref (w 0)), (.int u1)])) rfl rfl (hb hby d_prog_9_method_4_code_2)
  obtain ⟨T2, X2, e2, st2⟩ := getF X1 hx hZ hown (host := "") (Or.inl (hw _ (List.mem_of_getElem? (i := 14) rfl))) Via.refl e1 K.2.2.2.2.2.2.2.2.2.2.2.2.2.2.2.2.2.1 (g := (mkF m 10 #[.val (.ref (w 0)), .val (.int u1)] [(.ref (w 0)), (.int u1)])) rfl rfl (hb hby d_prog_9_method_4_code_10)
  obtain ⟨fs, hr, hrun, hended, hW, hsame⟩ := X2.leave (v := (some (.int (0 : Int32)))) (fun h => by rw [Bd.returns] at h; cases h)
  refine ⟨_, _, pre0 _ ?_, hrun, hended, _, _, rfl, ?_, ⟨_, rfl⟩, hW, hsame.mono (by decide) (by decide)⟩
  · show Steps p.tables e below (s₁.setTop (mkF m 0 #[.val (.ref (w 0)), .val (.int u1)] [])) _
    refine XS.iloadN X0.here hx rfl (hb hby d_prog_9_method_4_code_0) rfl ?_
    refine XS.aloadN X0.here hx rfl (hb hby d_prog_9_method_4_code_1) rfl rfl ?_
    refine st1 _ ?_
    refine XS.icmpNo X1.here hx rfl (hb hby d_prog_9_method_4_code_5) rfl (flt hf3).1 ?_
    show Steps p.tables e below (T1.setTop (mkF m 8 #[.val (.ref (w 0)), .val (.int u1)] [])) _
    refine XS.iloadN X1.here hx rfl (hb hby d_prog_9_method_4_code_8) rfl ?_
    refine XS.aloadN X1.here hx rfl (hb hby d_prog_9_method_4_code_9) rfl rfl ?_
    refine st2 _ ?_
    refine XS.icmpYes X2.here hx rfl (pc0 := 13) (pc' := 20) rfl (hb hby d_prog_9_method_4_code_13) rfl (tlt (by have z0 := mt Int32.toInt_inj.mp hf2; have z1 := mt Int32.lt_iff_toInt_lt.mpr hf3; have l0 : (1 : Int32).toInt = 1 := rfl; have r0 := rng32 u1; exact Int32.lt_iff_toInt_lt.mpr (by omega) : (1 : Int32) < u1)).2.2.1 (by decide) (by decide) ?_
    show Steps p.tables e below (T2.setTop (mkF m 20 #[.val (.ref (w 0)), .val (.int u1)] [])) _
    refine XS.iconst X2.here hx rfl (hb hby d_prog_9_method_4_code_20) ?_
    show Steps p.tables e below (T2.setTop (mkF m 21 #[.val (.ref (w 0)), .val (.int u1)] [(.int (0 : Int32))])) _
    exact retN X2 hx (t := .boolean) Bd.returns (by simp) (hb hby d_prog_9_method_4_code_21) hr
  · exact ⟨rfl, N0, e2⟩
set_option maxRecDepth 65536 in
set_option maxHeartbeats 40000000 in
theorem rm0_7 (l : Launch) (Z : State) (a0 : Array Value) (hw : ∀ d ∈ tables_1, d.before a0 Z = true) (w : Nat → Addr) (h0 : Heap) (n0 : Nat) (Z0 : n0 ≤ h0.size) (K : Kon Z h0 w) (u0 u1 u2 : Int32) (hf1 : (u2 &&& (1 : Int32)) = (0 : Int32)) (hf2 : ¬ (u1 = (1 : Int32))) (hf3 : ¬ (u1 < (1 : Int32))) (hk0 : (u0 &&& (7 : Int32)) = (0 : Int32)) :
    OM l Z x code maxLocals ret tables_1 room_1 #[(.int u0), (.int u1), (.int u2)] h0 (OP (some (.int (1 : Int32))) n0 h0) := by
  refine MetFree.of_bodySF (plainFor_of_name pn_com_example_licon_licon_search_OperatorTakesPinLaw) hisR ?_
  intro p e s m args below meth c s₁ Bd hml0 hP hK
  obtain ⟨rfl, hZ, hh⟩ := hP
  have hx := Bd.exec
  have hby := Bd.bytes
  have hml : c.maxLocals = 7 := hml0
  have hown : s.vm.findClass "com/example/licon/licon/search/OperatorTakesPinLaw" = some m.cls := findClass_of_methodNamed Bd.named
  have X0 : Stand p l e room_1 s m #[(.int u0), (.int u1), (.int u2)] below meth c s₁ [] 0 0 := Stand.of_body Bd
  have e0 : s₁.heap = h0 := by rw [← hh, Bd.state]; rfl
  have N0 := Fr.nil n0
  have pre0 : ∀ t, Steps p.tables e below (s₁.setTop (mkF m 0 #[.val (.int u0), .val (.int u1), .val (.int u2), .unset, .unset, .unset, .unset] [])) t → Steps p.tables e below (s₁.setTop (entryFrame m #[(.int u0), (.int u1), (.int u2)] maxLocals)) t := fun t k => castTop (by first | rfl | simp [entryFrame, mkF, argsToLocals, Value.category, maxLocals]) k
  obtain ⟨_, _, ⟨T1, L1, k1, n1⟩, -, X1, ⟨Lc1, hQ1, l1, y1, z1⟩, st1⟩ := Jvm.LawKit.callS X0 hx (y := (⟨"com/example/licon/licon/search/OperatorTakesPinLaw", "pick", "(I)Lcom/example/licon/licon/search/Operator;"⟩ : MethodName)) hown (mvT hZ (hw _ (List.mem_of_getElem? (i := 0) rfl))) (mvT hZ (hw _ (List.mem_of_getElem? (i := 1) rfl))) (mvT hZ (hw _ (List.mem_of_getElem? (i := 2) rfl))) (mvT hZ (hw _ (List.mem_of_getElem? (i := 3) rfl))) (by decide) (backOf (W := 0) (rm_pick_1 l Z a0 hw w h0 n0 Z0 K u0 u1 u2) hZ (hw _ (List.mem_of_getElem? (i := 3) rfl)) (hw _ (List.mem_of_getElem? (i := 2) rfl)) (by decide) (by decide)) (g := (mkF m 21 #[.val (.int u0), .val (.int u1), .val (.int u2), .val (.int (0 : Int32)), .val (.int u1), .unset, .unset] [(.int (0 : Int32))])) rfl (by rw [hml]; rfl) (argsL := [(.int (0 : Int32))]) (rest := []) (lenOf pd_28I29Lcom2fexample2flicon2flicon2fsearch2fOperator3b rfl) rfl (by show 2 * 0 + _ ≤ _; exact Nat.le_of_eq rfl) (hb hby at_21) (fun _ _ => ⟨rfl, e0, (by decide : 0 + 0 ≤ _), (by decide : 0 + 0 ≤ _)⟩)
  dsimp only [Pt.U, Pt.locs, Pt.cells, Pt.slots] at X1 l1 y1 z1 st1 hQ1
  subst l1 y1 z1
  obtain ⟨rfl, N1q, e1⟩ := hQ1
  have N1 := Fr.app N0 N1q
  obtain ⟨cq2, kq2, qa2, qb2, qc2⟩ := isOf hZ e1 K.2.1
  obtain ⟨_, _, ⟨T2, L2, k2, n2⟩, -, X2, ⟨Lc2, hQ2, l2, y2, z2⟩, st2⟩ := X1.virtualBack hx (y := (⟨"com/example/licon/licon/search/Operator", "takes", "(I)Z"⟩ : MethodName)) (z := (⟨"com/example/licon/licon/search/Operator", "takes", "(I)Z"⟩ : MethodName)) hown (mvT hZ (hw _ (List.mem_of_getElem? (i := 7) rfl))) (mvT hZ (hw _ (List.mem_of_getElem? (i := 8) rfl))) (notFace_of_selects (args := #[]) (mvT hZ (hw _ (List.mem_of_getElem? (i := 10) rfl)))) (mvT hZ (hw _ (List.mem_of_getElem? (i := 10) rfl))) (mvT hZ (hw _ (List.mem_of_getElem? (i := 9) rfl))) (by decide) (backOf (W := 0) (rm_takes_6 l Z a0 hw w h0 n0 Z0 K u0 u1 u2 hf2 hf3) hZ (hw _ (List.mem_of_getElem? (i := 11) rfl)) (hw _ (List.mem_of_getElem? (i := 5) rfl)) (by decide) (by decide)) qa2 qc2 (g := (mkF m 84 #[.val (.int u0), .val (.int u1), .val (.int u2), .val (.int (0 : Int32)), .val (.int u1), .val (.ref (w 0)), .val (.int (0 : Int32))] [(.int u1), (.ref (w 0))])) rfl (by rw [hml]; rfl) (Steps.refl _) (argsL := [(.int u1)]) (rest := []) (lenOf pd_28I29Z rfl) rfl (by show 2 * 0 + _ ≤ _; exact Nat.le_of_eq rfl) (hb hby at_84) (fun _ _ => ⟨rfl, e1, (by decide : 0 + 0 ≤ _), (by decide : 0 + 0 ≤ _)⟩)
  dsimp only [Pt.U, Pt.locs, Pt.cells, Pt.slots] at X2 l2 y2 z2 st2 hQ2
  subst l2 y2 z2
  obtain ⟨rfl, N2q, e2⟩ := hQ2
  have N2 := Fr.app N1 N2q
  obtain ⟨fs, hr, hrun, hended, hW, hsame⟩ := X2.leave (v := (some (.int (1 : Int32)))) (fun h => by rw [Bd.returns] at h; cases h)
  refine ⟨_, _, pre0 _ ?_, hrun, hended, _, _, rfl, ?_, ⟨_, rfl⟩, hW, hsame.mono (by decide) (by decide)⟩
  · show Steps p.tables e below (s₁.setTop (mkF m 0 #[.val (.int u0), .val (.int u1), .val (.int u2), .unset, .unset, .unset, .unset] [])) _
    refine XS.iloadN X0.here hx rfl (hb hby at_0) rfl ?_
    refine XS.bipush X0.here hx rfl (hb hby at_1) ?_
    refine XS.iand X0.here hx rfl (hb hby at_3) rfl ?_
    show Steps p.tables e below (s₁.setTop (mkF m 4 #[.val (.int u0), .val (.int u1), .val (.int u2), .unset, .unset, .unset, .unset] [(.int (u0 &&& (7 : Int32)))])) _
    rw [hk0]
    show Steps p.tables e below (s₁.setTop (mkF m 4 #[.val (.int u0), .val (.int u1), .val (.int u2), .unset, .unset, .unset, .unset] [(.int (0 : Int32))])) _
    refine XS.istoreN X0.here hx rfl (hb hby at_4) rfl (l' := #[.val (.int u0), .val (.int u1), .val (.int u2), .val (.int (0 : Int32)), .unset, .unset, .unset]) rfl ?_
    refine XS.iloadN X0.here hx rfl (hb hby at_5) rfl ?_
    refine XS.iconst X0.here hx rfl (hb hby at_6) ?_
    refine XS.iand X0.here hx rfl (hb hby at_7) rfl ?_
    show Steps p.tables e below (s₁.setTop (mkF m 8 #[.val (.int u0), .val (.int u1), .val (.int u2), .val (.int (0 : Int32)), .unset, .unset, .unset] [(.int (u2 &&& (1 : Int32)))])) _
    refine XS.ifYes X0.here hx rfl (pc0 := 8) (pc' := 17) rfl (hb hby at_8) rfl ((if0 _ _).trans (teq hf1).1) (by decide) (by decide) ?_
    refine XS.iloadN X0.here hx rfl (hb hby at_17) rfl ?_
    refine XS.istore X0.here hx rfl (hb hby at_18) rfl (l' := #[.val (.int u0), .val (.int u1), .val (.int u2), .val (.int (0 : Int32)), .val (.int u1), .unset, .unset]) rfl ?_
    refine XS.iloadN X0.here hx rfl (hb hby at_20) rfl ?_
    show Steps p.tables e below (s₁.setTop (mkF m 21 #[.val (.int u0), .val (.int u1), .val (.int u2), .val (.int (0 : Int32)), .val (.int u1), .unset, .unset] [(.int (0 : Int32))])) _
    refine st1 _ ?_
    refine XS.astore X1.here hx rfl (hb hby at_24) rfl rfl (l' := #[.val (.int u0), .val (.int u1), .val (.int u2), .val (.int (0 : Int32)), .val (.int u1), .val (.ref (w 0)), .unset]) rfl ?_
    refine XS.iloadN X1.here hx rfl (hb hby at_26) rfl ?_
    refine XS.iconst X1.here hx rfl (hb hby at_27) ?_
    show Steps p.tables e below (T1.setTop (mkF m 28 #[.val (.int u0), .val (.int u1), .val (.int u2), .val (.int (0 : Int32)), .val (.int u1), .val (.ref (w 0)), .unset] [(.int (4 : Int32)), (.int (0 : Int32))])) _
    refine XS.icmpNo X1.here hx rfl (hb hby at_28) rfl (tlt (by decide : (0 : Int32) < (4 : Int32))).2.1 ?_
    refine XS.iload X1.here hx rfl (hb hby at_31) rfl ?_
    refine XS.iconst X1.here hx rfl (hb hby at_33) ?_
    refine XS.icmpYes X1.here hx rfl (pc0 := 34) (pc' := 41) rfl (hb hby at_34) rfl (feq hf2).2 (by decide) (by decide) ?_
    show Steps p.tables e below (T1.setTop (mkF m 41 #[.val (.int u0), .val (.int u1), .val (.int u2), .val (.int (0 : Int32)), .val (.int u1), .val (.ref (w 0)), .unset] [])) _
    refine XS.iconst X1.here hx rfl (hb hby at_41) ?_
    refine XS.istore X1.here hx rfl (hb hby at_42) rfl (l' := #[.val (.int u0), .val (.int u1), .val (.int u2), .val (.int (0 : Int32)), .val (.int u1), .val (.ref (w 0)), .val (.int (0 : Int32))]) rfl ?_
    refine XS.goto X1.here hx rfl (pc0 := 44) (pc' := 80) rfl (hb hby at_44) (by decide) (by decide) ?_
    refine XS.aload X1.here hx rfl (hb hby at_80) rfl rfl ?_
    show Steps p.tables e below (T1.setTop (mkF m 82 #[.val (.int u0), .val (.int u1), .val (.int u2), .val (.int (0 : Int32)), .val (.int u1), .val (.ref (w 0)), .val (.int (0 : Int32))] [(.ref (w 0))])) _
    refine XS.iload X1.here hx rfl (hb hby at_82) rfl ?_
    refine st2.trans ?_
    refine XS.iload X2.here hx rfl (hb hby at_87) rfl ?_
    refine XS.icmpNo X2.here hx rfl (hb hby at_89) rfl (teq (by decide : (0 : Int32) = (0 : Int32))).2 ?_
    show Steps p.tables e below (T2.setTop (mkF m 92 #[.val (.int u0), .val (.int u1), .val (.int u2), .val (.int (0 : Int32)), .val (.int u1), .val (.ref (w 0)), .val (.int (0 : Int32))] [])) _
    refine XS.iconst X2.here hx rfl (hb hby at_92) ?_
    refine XS.goto X2.here hx rfl (pc0 := 93) (pc' := 97) rfl (hb hby at_93) (by decide) (by decide) ?_
    show Steps p.tables e below (T2.setTop (mkF m 97 #[.val (.int u0), .val (.int u1), .val (.int u2), .val (.int (0 : Int32)), .val (.int u1), .val (.ref (w 0)), .val (.int (0 : Int32))] [(.int (1 : Int32))])) _
    exact retN X2 hx (t := .boolean) Bd.returns (by simp) (hb hby at_97) hr
  · exact ⟨rfl, N2, e2⟩
set_option maxRecDepth 65536 in
set_option maxHeartbeats 40000000 in
theorem rm_takes_8 (l : Launch) (Z : State) (a0 : Array Value) (hw : ∀ d ∈ tables_1, d.before a0 Z = true) (w : Nat → Addr) (h0 : Heap) (n0 : Nat) (Z0 : n0 ≤ h0.size) (K : Kon Z h0 w) (u0 u1 u2 : Int32) (hf4 : (u1 % (4 : Int32)) = (1 : Int32)) :
    OM l Z (⟨"com/example/licon/licon/search/Operator", "takes", "(I)Z"⟩ : MethodName) prog_9_method_4_code 2 (some .boolean) [] ({ frames := 0, cells := 0, slots := 0, locals := 0 } : Room) #[(.ref (w 0)), (.int (u1 % (4 : Int32)))] h0 (OP (some (.int (1 : Int32))) n0 h0) := by
  refine MetFree.of_bodySF (plainFor_of_name pn_com_example_licon_licon_search_Operator) hisR ?_
  intro p e s m args below meth c s₁ Bd hml0 hP hK
  obtain ⟨rfl, hZ, hh⟩ := hP
  have hx := Bd.exec
  have hby := Bd.bytes
  have hml : c.maxLocals = 2 := hml0
  have hown : s.vm.findClass "com/example/licon/licon/search/Operator" = some m.cls := findClass_of_methodNamed Bd.named
  have X0 : Stand p l e ({ frames := 0, cells := 0, slots := 0, locals := 0 } : Room) s m #[(.ref (w 0)), (.int (u1 % (4 : Int32)))] below meth c s₁ [] 0 0 := Stand.of_body Bd
  have e0 : s₁.heap = h0 := by rw [← hh, Bd.state]; rfl
  have N0 := Fr.nil n0
  have pre0 : ∀ t, Steps p.tables e below (s₁.setTop (mkF m 0 #[.val (.ref (w 0)), .val (.int (u1 % (4 : Int32)))] [])) t → Steps p.tables e below (s₁.setTop (entryFrame m #[(.ref (w 0)), (.int (u1 % (4 : Int32)))] 2)) t := fun t k => castTop (by first | rfl | simp [entryFrame, mkF, argsToLocals, Value.category]) k
  obtain ⟨T1, X1, e1, st1⟩ := getF X0 hx hZ hown (host := "") (Or.inl (hw _ (List.mem_of_getElem? (i := 12) rfl))) Via.refl e0 K.2.2.2.2.2.2.2.2.2.2.2.2.2.2.2.2.1 (g := (mkF m 2 #[.val (.ref (w 0)), .val (.int (u1 % (4 : Int32)))] [(.ref (w 0)), (.int (u1 % (4 : Int32)))])) rfl rfl (hb hby d_prog_9_method_4_code_2)
  obtain ⟨T2, X2, e2, st2⟩ := getF X1 hx hZ hown (host := "") (Or.inl (hw _ (List.mem_of_getElem? (i := 14) rfl))) Via.refl e1 K.2.2.2.2.2.2.2.2.2.2.2.2.2.2.2.2.2.1 (g := (mkF m 10 #[.val (.ref (w 0)), .val (.int (u1 % (4 : Int32)))] [(.ref (w 0)), (.int (u1 % (4 : Int32)))])) rfl rfl (hb hby d_prog_9_method_4_code_10)
  obtain ⟨fs, hr, hrun, hended, hW, hsame⟩ := X2.leave (v := (some (.int (1 : Int32)))) (fun h => by rw [Bd.returns] at h; cases h)
  refine ⟨_, _, pre0 _ ?_, hrun, hended, _, _, rfl, ?_, ⟨_, rfl⟩, hW, hsame.mono (by decide) (by decide)⟩
  · show Steps p.tables e below (s₁.setTop (mkF m 0 #[.val (.ref (w 0)), .val (.int (u1 % (4 : Int32)))] [])) _
    refine XS.iloadN X0.here hx rfl (hb hby d_prog_9_method_4_code_0) rfl ?_
    refine XS.aloadN X0.here hx rfl (hb hby d_prog_9_method_4_code_1) rfl rfl ?_
    refine st1 _ ?_
    refine XS.icmpNo X1.here hx rfl (hb hby d_prog_9_method_4_code_5) rfl (flt (by have z0 := congrArg Int32.toInt hf4; have l0 : (1 : Int32).toInt = 1 := rfl; have r0 := rng32 (u1 % (4 : Int32)); exact fun hh => absurd (Int32.lt_iff_toInt_lt.mp hh) (by omega) : ¬ ((u1 % (4 : Int32)) < (1 : Int32)))).1 ?_
    show Steps p.tables e below (T1.setTop (mkF m 8 #[.val (.ref (w 0)), .val (.int (u1 % (4 : Int32)))] [])) _
    refine XS.iloadN X1.here hx rfl (hb hby d_prog_9_method_4_code_8) rfl ?_
    refine XS.aloadN X1.here hx rfl (hb hby d_prog_9_method_4_code_9) rfl rfl ?_
    refine st2 _ ?_
    refine XS.icmpNo X2.here hx rfl (hb hby d_prog_9_method_4_code_13) rfl (flt (by have z0 := congrArg Int32.toInt hf4; have l0 : (1 : Int32).toInt = 1 := rfl; have r0 := rng32 (u1 % (4 : Int32)); exact fun hh => absurd (Int32.lt_iff_toInt_lt.mp hh) (by omega) : ¬ ((1 : Int32) < (u1 % (4 : Int32))))).2.2.1 ?_
    show Steps p.tables e below (T2.setTop (mkF m 16 #[.val (.ref (w 0)), .val (.int (u1 % (4 : Int32)))] [])) _
    refine XS.iconst X2.here hx rfl (hb hby d_prog_9_method_4_code_16) ?_
    refine XS.goto X2.here hx rfl (pc0 := 17) (pc' := 21) rfl (hb hby d_prog_9_method_4_code_17) (by decide) (by decide) ?_
    show Steps p.tables e below (T2.setTop (mkF m 21 #[.val (.ref (w 0)), .val (.int (u1 % (4 : Int32)))] [(.int (1 : Int32))])) _
    exact retN X2 hx (t := .boolean) Bd.returns (by simp) (hb hby d_prog_9_method_4_code_21) hr
  · exact ⟨rfl, N0, e2⟩
set_option maxRecDepth 65536 in
set_option maxHeartbeats 40000000 in
theorem rm0_9 (l : Launch) (Z : State) (a0 : Array Value) (hw : ∀ d ∈ tables_1, d.before a0 Z = true) (w : Nat → Addr) (h0 : Heap) (n0 : Nat) (Z0 : n0 ≤ h0.size) (K : Kon Z h0 w) (u0 u1 u2 : Int32) (hf1 : ¬ ((u2 &&& (1 : Int32)) = (0 : Int32))) (hf4 : (u1 % (4 : Int32)) = (1 : Int32)) (hk0 : (u0 &&& (7 : Int32)) = (0 : Int32)) :
    OM l Z x code maxLocals ret tables_1 room_1 #[(.int u0), (.int u1), (.int u2)] h0 (OP (some (.int (1 : Int32))) n0 h0) := by
  refine MetFree.of_bodySF (plainFor_of_name pn_com_example_licon_licon_search_OperatorTakesPinLaw) hisR ?_
  intro p e s m args below meth c s₁ Bd hml0 hP hK
  obtain ⟨rfl, hZ, hh⟩ := hP
  have hx := Bd.exec
  have hby := Bd.bytes
  have hml : c.maxLocals = 7 := hml0
  have hown : s.vm.findClass "com/example/licon/licon/search/OperatorTakesPinLaw" = some m.cls := findClass_of_methodNamed Bd.named
  have X0 : Stand p l e room_1 s m #[(.int u0), (.int u1), (.int u2)] below meth c s₁ [] 0 0 := Stand.of_body Bd
  have e0 : s₁.heap = h0 := by rw [← hh, Bd.state]; rfl
  have N0 := Fr.nil n0
  have pre0 : ∀ t, Steps p.tables e below (s₁.setTop (mkF m 0 #[.val (.int u0), .val (.int u1), .val (.int u2), .unset, .unset, .unset, .unset] [])) t → Steps p.tables e below (s₁.setTop (entryFrame m #[(.int u0), (.int u1), (.int u2)] maxLocals)) t := fun t k => castTop (by first | rfl | simp [entryFrame, mkF, argsToLocals, Value.category, maxLocals]) k
  obtain ⟨_, _, ⟨T1, L1, k1, n1⟩, -, X1, ⟨Lc1, hQ1, l1, y1, z1⟩, st1⟩ := Jvm.LawKit.callS X0 hx (y := (⟨"com/example/licon/licon/search/OperatorTakesPinLaw", "pick", "(I)Lcom/example/licon/licon/search/Operator;"⟩ : MethodName)) hown (mvT hZ (hw _ (List.mem_of_getElem? (i := 0) rfl))) (mvT hZ (hw _ (List.mem_of_getElem? (i := 1) rfl))) (mvT hZ (hw _ (List.mem_of_getElem? (i := 2) rfl))) (mvT hZ (hw _ (List.mem_of_getElem? (i := 3) rfl))) (by decide) (backOf (W := 0) (rm_pick_1 l Z a0 hw w h0 n0 Z0 K u0 u1 u2) hZ (hw _ (List.mem_of_getElem? (i := 3) rfl)) (hw _ (List.mem_of_getElem? (i := 2) rfl)) (by decide) (by decide)) (g := (mkF m 21 #[.val (.int u0), .val (.int u1), .val (.int u2), .val (.int (0 : Int32)), .val (.int (u1 % (4 : Int32))), .unset, .unset] [(.int (0 : Int32))])) rfl (by rw [hml]; rfl) (argsL := [(.int (0 : Int32))]) (rest := []) (lenOf pd_28I29Lcom2fexample2flicon2flicon2fsearch2fOperator3b rfl) rfl (by show 2 * 0 + _ ≤ _; exact Nat.le_of_eq rfl) (hb hby at_21) (fun _ _ => ⟨rfl, e0, (by decide : 0 + 0 ≤ _), (by decide : 0 + 0 ≤ _)⟩)
  dsimp only [Pt.U, Pt.locs, Pt.cells, Pt.slots] at X1 l1 y1 z1 st1 hQ1
  subst l1 y1 z1
  obtain ⟨rfl, N1q, e1⟩ := hQ1
  have N1 := Fr.app N0 N1q
  obtain ⟨cq2, kq2, qa2, qb2, qc2⟩ := isOf hZ e1 K.2.1
  obtain ⟨_, _, ⟨T2, L2, k2, n2⟩, -, X2, ⟨Lc2, hQ2, l2, y2, z2⟩, st2⟩ := X1.virtualBack hx (y := (⟨"com/example/licon/licon/search/Operator", "takes", "(I)Z"⟩ : MethodName)) (z := (⟨"com/example/licon/licon/search/Operator", "takes", "(I)Z"⟩ : MethodName)) hown (mvT hZ (hw _ (List.mem_of_getElem? (i := 7) rfl))) (mvT hZ (hw _ (List.mem_of_getElem? (i := 8) rfl))) (notFace_of_selects (args := #[]) (mvT hZ (hw _ (List.mem_of_getElem? (i := 10) rfl)))) (mvT hZ (hw _ (List.mem_of_getElem? (i := 10) rfl))) (mvT hZ (hw _ (List.mem_of_getElem? (i := 9) rfl))) (by decide) (backOf (W := 0) (rm_takes_8 l Z a0 hw w h0 n0 Z0 K u0 u1 u2 hf4) hZ (hw _ (List.mem_of_getElem? (i := 11) rfl)) (hw _ (List.mem_of_getElem? (i := 5) rfl)) (by decide) (by decide)) qa2 qc2 (g := (mkF m 84 #[.val (.int u0), .val (.int u1), .val (.int u2), .val (.int (0 : Int32)), .val (.int (u1 % (4 : Int32))), .val (.ref (w 0)), .val (.int (1 : Int32))] [(.int (u1 % (4 : Int32))), (.ref (w 0))])) rfl (by rw [hml]; rfl) (Steps.refl _) (argsL := [(.int (u1 % (4 : Int32)))]) (rest := []) (lenOf pd_28I29Z rfl) rfl (by show 2 * 0 + _ ≤ _; exact Nat.le_of_eq rfl) (hb hby at_84) (fun _ _ => ⟨rfl, e1, (by decide : 0 + 0 ≤ _), (by decide : 0 + 0 ≤ _)⟩)
  dsimp only [Pt.U, Pt.locs, Pt.cells, Pt.slots] at X2 l2 y2 z2 st2 hQ2
  subst l2 y2 z2
  obtain ⟨rfl, N2q, e2⟩ := hQ2
  have N2 := Fr.app N1 N2q
  obtain ⟨fs, hr, hrun, hended, hW, hsame⟩ := X2.leave (v := (some (.int (1 : Int32)))) (fun h => by rw [Bd.returns] at h; cases h)
  refine ⟨_, _, pre0 _ ?_, hrun, hended, _, _, rfl, ?_, ⟨_, rfl⟩, hW, hsame.mono (by decide) (by decide)⟩
  · show Steps p.tables e below (s₁.setTop (mkF m 0 #[.val (.int u0), .val (.int u1), .val (.int u2), .unset, .unset, .unset, .unset] [])) _
    refine XS.iloadN X0.here hx rfl (hb hby at_0) rfl ?_
    refine XS.bipush X0.here hx rfl (hb hby at_1) ?_
    refine XS.iand X0.here hx rfl (hb hby at_3) rfl ?_
    show Steps p.tables e below (s₁.setTop (mkF m 4 #[.val (.int u0), .val (.int u1), .val (.int u2), .unset, .unset, .unset, .unset] [(.int (u0 &&& (7 : Int32)))])) _
    rw [hk0]
    show Steps p.tables e below (s₁.setTop (mkF m 4 #[.val (.int u0), .val (.int u1), .val (.int u2), .unset, .unset, .unset, .unset] [(.int (0 : Int32))])) _
    refine XS.istoreN X0.here hx rfl (hb hby at_4) rfl (l' := #[.val (.int u0), .val (.int u1), .val (.int u2), .val (.int (0 : Int32)), .unset, .unset, .unset]) rfl ?_
    refine XS.iloadN X0.here hx rfl (hb hby at_5) rfl ?_
    refine XS.iconst X0.here hx rfl (hb hby at_6) ?_
    refine XS.iand X0.here hx rfl (hb hby at_7) rfl ?_
    show Steps p.tables e below (s₁.setTop (mkF m 8 #[.val (.int u0), .val (.int u1), .val (.int u2), .val (.int (0 : Int32)), .unset, .unset, .unset] [(.int (u2 &&& (1 : Int32)))])) _
    refine XS.ifNo X0.here hx rfl (hb hby at_8) rfl ((if0 _ _).trans (feq hf1).1) ?_
    refine XS.iloadN X0.here hx rfl (hb hby at_11) rfl ?_
    refine XS.iconst X0.here hx rfl (hb hby at_12) ?_
    refine iremM X0 hx rfl (hb hby at_13) rfl (by decide : ¬ ((4 : Int32) = (0 : Int32))) ?_
    show Steps p.tables e below (s₁.setTop (mkF m 14 #[.val (.int u0), .val (.int u1), .val (.int u2), .val (.int (0 : Int32)), .unset, .unset, .unset] [(.int (u1 % (4 : Int32)))])) _
    refine XS.goto X0.here hx rfl (pc0 := 14) (pc' := 18) rfl (hb hby at_14) (by decide) (by decide) ?_
    refine XS.istore X0.here hx rfl (hb hby at_18) rfl (l' := #[.val (.int u0), .val (.int u1), .val (.int u2), .val (.int (0 : Int32)), .val (.int (u1 % (4 : Int32))), .unset, .unset]) rfl ?_
    refine XS.iloadN X0.here hx rfl (hb hby at_20) rfl ?_
    refine st1 _ ?_
    show Steps p.tables e below (T1.setTop (mkF m 24 #[.val (.int u0), .val (.int u1), .val (.int u2), .val (.int (0 : Int32)), .val (.int (u1 % (4 : Int32))), .unset, .unset] [(.ref (w 0))])) _
    refine XS.astore X1.here hx rfl (hb hby at_24) rfl rfl (l' := #[.val (.int u0), .val (.int u1), .val (.int u2), .val (.int (0 : Int32)), .val (.int (u1 % (4 : Int32))), .val (.ref (w 0)), .unset]) rfl ?_
    refine XS.iloadN X1.here hx rfl (hb hby at_26) rfl ?_
    refine XS.iconst X1.here hx rfl (hb hby at_27) ?_
    refine XS.icmpNo X1.here hx rfl (hb hby at_28) rfl (tlt (by decide : (0 : Int32) < (4 : Int32))).2.1 ?_
    show Steps p.tables e below (T1.setTop (mkF m 31 #[.val (.int u0), .val (.int u1), .val (.int u2), .val (.int (0 : Int32)), .val (.int (u1 % (4 : Int32))), .val (.ref (w 0)), .unset] [])) _
    refine XS.iload X1.here hx rfl (hb hby at_31) rfl ?_
    refine XS.iconst X1.here hx rfl (hb hby at_33) ?_
    refine XS.icmpNo X1.here hx rfl (hb hby at_34) rfl (teq hf4).2 ?_
    refine XS.iconst X1.here hx rfl (hb hby at_37) ?_
    show Steps p.tables e below (T1.setTop (mkF m 38 #[.val (.int u0), .val (.int u1), .val (.int u2), .val (.int (0 : Int32)), .val (.int (u1 % (4 : Int32))), .val (.ref (w 0)), .unset] [(.int (1 : Int32))])) _
    refine XS.goto X1.here hx rfl (pc0 := 38) (pc' := 42) rfl (hb hby at_38) (by decide) (by decide) ?_
    refine XS.istore X1.here hx rfl (hb hby at_42) rfl (l' := #[.val (.int u0), .val (.int u1), .val (.int u2), .val (.int (0 : Int32)), .val (.int (u1 % (4 : Int32))), .val (.ref (w 0)), .val (.int (1 : Int32))]) rfl ?_
    refine XS.goto X1.here hx rfl (pc0 := 44) (pc' := 80) rfl (hb hby at_44) (by decide) (by decide) ?_
    refine XS.aload X1.here hx rfl (hb hby at_80) rfl rfl ?_
    show Steps p.tables e below (T1.setTop (mkF m 82 #[.val (.int u0), .val (.int u1), .val (.int u2), .val (.int (0 : Int32)), .val (.int (u1 % (4 : Int32))), .val (.ref (w 0)), .val (.int (1 : Int32))] [(.ref (w 0))])) _
    refine XS.iload X1.here hx rfl (hb hby at_82) rfl ?_
    refine st2.trans ?_
    refine XS.iload X2.here hx rfl (hb hby at_87) rfl ?_
    refine XS.icmpNo X2.here hx rfl (hb hby at_89) rfl (teq (by decide : (1 : Int32) = (1 : Int32))).2 ?_
    show Steps p.tables e below (T2.setTop (mkF m 92 #[.val (.int u0), .val (.int u1), .val (.int u2), .val (.int (0 : Int32)), .val (.int (u1 % (4 : Int32))), .val (.ref (w 0)), .val (.int (1 : Int32))] [])) _
    refine XS.iconst X2.here hx rfl (hb hby at_92) ?_
    refine XS.goto X2.here hx rfl (pc0 := 93) (pc' := 97) rfl (hb hby at_93) (by decide) (by decide) ?_
    show Steps p.tables e below (T2.setTop (mkF m 97 #[.val (.int u0), .val (.int u1), .val (.int u2), .val (.int (0 : Int32)), .val (.int (u1 % (4 : Int32))), .val (.ref (w 0)), .val (.int (1 : Int32))] [(.int (1 : Int32))])) _
    exact retN X2 hx (t := .boolean) Bd.returns (by simp) (hb hby at_97) hr
  · exact ⟨rfl, N2, e2⟩
set_option maxRecDepth 65536 in
set_option maxHeartbeats 40000000 in
theorem rm_takes_10 (l : Launch) (Z : State) (a0 : Array Value) (hw : ∀ d ∈ tables_1, d.before a0 Z = true) (w : Nat → Addr) (h0 : Heap) (n0 : Nat) (Z0 : n0 ≤ h0.size) (K : Kon Z h0 w) (u0 u1 u2 : Int32) (hf5 : (u1 % (4 : Int32)) < (1 : Int32)) :
    OM l Z (⟨"com/example/licon/licon/search/Operator", "takes", "(I)Z"⟩ : MethodName) prog_9_method_4_code 2 (some .boolean) [] ({ frames := 0, cells := 0, slots := 0, locals := 0 } : Room) #[(.ref (w 0)), (.int (u1 % (4 : Int32)))] h0 (OP (some (.int (0 : Int32))) n0 h0) := by
  refine MetFree.of_bodySF (plainFor_of_name pn_com_example_licon_licon_search_Operator) hisR ?_
  intro p e s m args below meth c s₁ Bd hml0 hP hK
  obtain ⟨rfl, hZ, hh⟩ := hP
  have hx := Bd.exec
  have hby := Bd.bytes
  have hml : c.maxLocals = 2 := hml0
  have hown : s.vm.findClass "com/example/licon/licon/search/Operator" = some m.cls := findClass_of_methodNamed Bd.named
  have X0 : Stand p l e ({ frames := 0, cells := 0, slots := 0, locals := 0 } : Room) s m #[(.ref (w 0)), (.int (u1 % (4 : Int32)))] below meth c s₁ [] 0 0 := Stand.of_body Bd
  have e0 : s₁.heap = h0 := by rw [← hh, Bd.state]; rfl
  have N0 := Fr.nil n0
  have pre0 : ∀ t, Steps p.tables e below (s₁.setTop (mkF m 0 #[.val (.ref (w 0)), .val (.int (u1 % (4 : Int32)))] [])) t → Steps p.tables e below (s₁.setTop (entryFrame m #[(.ref (w 0)), (.int (u1 % (4 : Int32)))] 2)) t := fun t k => castTop (by first | rfl | simp [entryFrame, mkF, argsToLocals, Value.category]) k
  obtain ⟨T1, X1, e1, st1⟩ := getF X0 hx hZ hown (host := "") (Or.inl (hw _ (List.mem_of_getElem? (i := 12) rfl))) Via.refl e0 K.2.2.2.2.2.2.2.2.2.2.2.2.2.2.2.2.1 (g := (mkF m 2 #[.val (.ref (w 0)), .val (.int (u1 % (4 : Int32)))] [(.ref (w 0)), (.int (u1 % (4 : Int32)))])) rfl rfl (hb hby d_prog_9_method_4_code_2)
  obtain ⟨fs, hr, hrun, hended, hW, hsame⟩ := X1.leave (v := (some (.int (0 : Int32)))) (fun h => by rw [Bd.returns] at h; cases h)
  refine ⟨_, _, pre0 _ ?_, hrun, hended, _, _, rfl, ?_, ⟨_, rfl⟩, hW, hsame.mono (by decide) (by decide)⟩
  · show Steps p.tables e below (s₁.setTop (mkF m 0 #[.val (.ref (w 0)), .val (.int (u1 % (4 : Int32)))] [])) _
    refine XS.iloadN X0.here hx rfl (hb hby d_prog_9_method_4_code_0) rfl ?_
    refine XS.aloadN X0.here hx rfl (hb hby d_prog_9_method_4_code_1) rfl rfl ?_
    refine st1 _ ?_
    refine XS.icmpYes X1.here hx rfl (pc0 := 5) (pc' := 20) rfl (hb hby d_prog_9_method_4_code_5) rfl (tlt hf5).1 (by decide) (by decide) ?_
    show Steps p.tables e below (T1.setTop (mkF m 20 #[.val (.ref (w 0)), .val (.int (u1 % (4 : Int32)))] [])) _
    refine XS.iconst X1.here hx rfl (hb hby d_prog_9_method_4_code_20) ?_
    show Steps p.tables e below (T1.setTop (mkF m 21 #[.val (.ref (w 0)), .val (.int (u1 % (4 : Int32)))] [(.int (0 : Int32))])) _
    exact retN X1 hx (t := .boolean) Bd.returns (by simp) (hb hby d_prog_9_method_4_code_21) hr
  · exact ⟨rfl, N0, e1⟩
set_option maxRecDepth 65536 in
set_option maxHeartbeats 40000000 in
theorem rm0_11 (l : Launch) (Z : State) (a0 : Array Value) (hw : ∀ d ∈ tables_1, d.before a0 Z = true) (w : Nat → Addr) (h0 : Heap) (n0 : Nat) (Z0 : n0 ≤ h0.size) (K : Kon Z h0 w) (u0 u1 u2 : Int32) (hf1 : ¬ ((u2 &&& (1 : Int32)) = (0 : Int32))) (hf4 : ¬ ((u1 % (4 : Int32)) = (1 : Int32))) (hf5 : (u1 % (4 : Int32)) < (1 : Int32)) (hk0 : (u0 &&& (7 : Int32)) = (0 : Int32)) :
    OM l Z x code maxLocals ret tables_1 room_1 #[(.int u0), (.int u1), (.int u2)] h0 (OP (some (.int (1 : Int32))) n0 h0) := by
  refine MetFree.of_bodySF (plainFor_of_name pn_com_example_licon_licon_search_OperatorTakesPinLaw) hisR ?_
  intro p e s m args below meth c s₁ Bd hml0 hP hK
  obtain ⟨rfl, hZ, hh⟩ := hP
  have hx := Bd.exec
  have hby := Bd.bytes
  have hml : c.maxLocals = 7 := hml0
  have hown : s.vm.findClass "com/example/licon/licon/search/OperatorTakesPinLaw" = some m.cls := findClass_of_methodNamed Bd.named
  have X0 : Stand p l e room_1 s m #[(.int u0), (.int u1), (.int u2)] below meth c s₁ [] 0 0 := Stand.of_body Bd
  have e0 : s₁.heap = h0 := by rw [← hh, Bd.state]; rfl
  have N0 := Fr.nil n0
  have pre0 : ∀ t, Steps p.tables e below (s₁.setTop (mkF m 0 #[.val (.int u0), .val (.int u1), .val (.int u2), .unset, .unset, .unset, .unset] [])) t → Steps p.tables e below (s₁.setTop (entryFrame m #[(.int u0), (.int u1), (.int u2)] maxLocals)) t := fun t k => castTop (by first | rfl | simp [entryFrame, mkF, argsToLocals, Value.category, maxLocals]) k
  obtain ⟨_, _, ⟨T1, L1, k1, n1⟩, -, X1, ⟨Lc1, hQ1, l1, y1, z1⟩, st1⟩ := Jvm.LawKit.callS X0 hx (y := (⟨"com/example/licon/licon/search/OperatorTakesPinLaw", "pick", "(I)Lcom/example/licon/licon/search/Operator;"⟩ : MethodName)) hown (mvT hZ (hw _ (List.mem_of_getElem? (i := 0) rfl))) (mvT hZ (hw _ (List.mem_of_getElem? (i := 1) rfl))) (mvT hZ (hw _ (List.mem_of_getElem? (i := 2) rfl))) (mvT hZ (hw _ (List.mem_of_getElem? (i := 3) rfl))) (by decide) (backOf (W := 0) (rm_pick_1 l Z a0 hw w h0 n0 Z0 K u0 u1 u2) hZ (hw _ (List.mem_of_getElem? (i := 3) rfl)) (hw _ (List.mem_of_getElem? (i := 2) rfl)) (by decide) (by decide)) (g := (mkF m 21 #[.val (.int u0), .val (.int u1), .val (.int u2), .val (.int (0 : Int32)), .val (.int (u1 % (4 : Int32))), .unset, .unset] [(.int (0 : Int32))])) rfl (by rw [hml]; rfl) (argsL := [(.int (0 : Int32))]) (rest := []) (lenOf pd_28I29Lcom2fexample2flicon2flicon2fsearch2fOperator3b rfl) rfl (by show 2 * 0 + _ ≤ _; exact Nat.le_of_eq rfl) (hb hby at_21) (fun _ _ => ⟨rfl, e0, (by decide : 0 + 0 ≤ _), (by decide : 0 + 0 ≤ _)⟩)
  dsimp only [Pt.U, Pt.locs, Pt.cells, Pt.slots] at X1 l1 y1 z1 st1 hQ1
  subst l1 y1 z1
  obtain ⟨rfl, N1q, e1⟩ := hQ1
  have N1 := Fr.app N0 N1q
  obtain ⟨cq2, kq2, qa2, qb2, qc2⟩ := isOf hZ e1 K.2.1
  obtain ⟨_, _, ⟨T2, L2, k2, n2⟩, -, X2, ⟨Lc2, hQ2, l2, y2, z2⟩, st2⟩ := X1.virtualBack hx (y := (⟨"com/example/licon/licon/search/Operator", "takes", "(I)Z"⟩ : MethodName)) (z := (⟨"com/example/licon/licon/search/Operator", "takes", "(I)Z"⟩ : MethodName)) hown (mvT hZ (hw _ (List.mem_of_getElem? (i := 7) rfl))) (mvT hZ (hw _ (List.mem_of_getElem? (i := 8) rfl))) (notFace_of_selects (args := #[]) (mvT hZ (hw _ (List.mem_of_getElem? (i := 10) rfl)))) (mvT hZ (hw _ (List.mem_of_getElem? (i := 10) rfl))) (mvT hZ (hw _ (List.mem_of_getElem? (i := 9) rfl))) (by decide) (backOf (W := 0) (rm_takes_10 l Z a0 hw w h0 n0 Z0 K u0 u1 u2 hf5) hZ (hw _ (List.mem_of_getElem? (i := 11) rfl)) (hw _ (List.mem_of_getElem? (i := 5) rfl)) (by decide) (by decide)) qa2 qc2 (g := (mkF m 84 #[.val (.int u0), .val (.int u1), .val (.int u2), .val (.int (0 : Int32)), .val (.int (u1 % (4 : Int32))), .val (.ref (w 0)), .val (.int (0 : Int32))] [(.int (u1 % (4 : Int32))), (.ref (w 0))])) rfl (by rw [hml]; rfl) (Steps.refl _) (argsL := [(.int (u1 % (4 : Int32)))]) (rest := []) (lenOf pd_28I29Z rfl) rfl (by show 2 * 0 + _ ≤ _; exact Nat.le_of_eq rfl) (hb hby at_84) (fun _ _ => ⟨rfl, e1, (by decide : 0 + 0 ≤ _), (by decide : 0 + 0 ≤ _)⟩)
  dsimp only [Pt.U, Pt.locs, Pt.cells, Pt.slots] at X2 l2 y2 z2 st2 hQ2
  subst l2 y2 z2
  obtain ⟨rfl, N2q, e2⟩ := hQ2
  have N2 := Fr.app N1 N2q
  obtain ⟨fs, hr, hrun, hended, hW, hsame⟩ := X2.leave (v := (some (.int (1 : Int32)))) (fun h => by rw [Bd.returns] at h; cases h)
  refine ⟨_, _, pre0 _ ?_, hrun, hended, _, _, rfl, ?_, ⟨_, rfl⟩, hW, hsame.mono (by decide) (by decide)⟩
  · show Steps p.tables e below (s₁.setTop (mkF m 0 #[.val (.int u0), .val (.int u1), .val (.int u2), .unset, .unset, .unset, .unset] [])) _
    refine XS.iloadN X0.here hx rfl (hb hby at_0) rfl ?_
    refine XS.bipush X0.here hx rfl (hb hby at_1) ?_
    refine XS.iand X0.here hx rfl (hb hby at_3) rfl ?_
    show Steps p.tables e below (s₁.setTop (mkF m 4 #[.val (.int u0), .val (.int u1), .val (.int u2), .unset, .unset, .unset, .unset] [(.int (u0 &&& (7 : Int32)))])) _
    rw [hk0]
    show Steps p.tables e below (s₁.setTop (mkF m 4 #[.val (.int u0), .val (.int u1), .val (.int u2), .unset, .unset, .unset, .unset] [(.int (0 : Int32))])) _
    refine XS.istoreN X0.here hx rfl (hb hby at_4) rfl (l' := #[.val (.int u0), .val (.int u1), .val (.int u2), .val (.int (0 : Int32)), .unset, .unset, .unset]) rfl ?_
    refine XS.iloadN X0.here hx rfl (hb hby at_5) rfl ?_
    refine XS.iconst X0.here hx rfl (hb hby at_6) ?_
    refine XS.iand X0.here hx rfl (hb hby at_7) rfl ?_
    show Steps p.tables e below (s₁.setTop (mkF m 8 #[.val (.int u0), .val (.int u1), .val (.int u2), .val (.int (0 : Int32)), .unset, .unset, .unset] [(.int (u2 &&& (1 : Int32)))])) _
    refine XS.ifNo X0.here hx rfl (hb hby at_8) rfl ((if0 _ _).trans (feq hf1).1) ?_
    refine XS.iloadN X0.here hx rfl (hb hby at_11) rfl ?_
    refine XS.iconst X0.here hx rfl (hb hby at_12) ?_
    refine iremM X0 hx rfl (hb hby at_13) rfl (by decide : ¬ ((4 : Int32) = (0 : Int32))) ?_
    show Steps p.tables e below (s₁.setTop (mkF m 14 #[.val (.int u0), .val (.int u1), .val (.int u2), .val (.int (0 : Int32)), .unset, .unset, .unset] [(.int (u1 % (4 : Int32)))])) _
    refine XS.goto X0.here hx rfl (pc0 := 14) (pc' := 18) rfl (hb hby at_14) (by decide) (by decide) ?_
    refine XS.istore X0.here hx rfl (hb hby at_18) rfl (l' := #[.val (.int u0), .val (.int u1), .val (.int u2), .val (.int (0 : Int32)), .val (.int (u1 % (4 : Int32))), .unset, .unset]) rfl ?_
    refine XS.iloadN X0.here hx rfl (hb hby at_20) rfl ?_
    refine st1 _ ?_
    show Steps p.tables e below (T1.setTop (mkF m 24 #[.val (.int u0), .val (.int u1), .val (.int u2), .val (.int (0 : Int32)), .val (.int (u1 % (4 : Int32))), .unset, .unset] [(.ref (w 0))])) _
    refine XS.astore X1.here hx rfl (hb hby at_24) rfl rfl (l' := #[.val (.int u0), .val (.int u1), .val (.int u2), .val (.int (0 : Int32)), .val (.int (u1 % (4 : Int32))), .val (.ref (w 0)), .unset]) rfl ?_
    refine XS.iloadN X1.here hx rfl (hb hby at_26) rfl ?_
    refine XS.iconst X1.here hx rfl (hb hby at_27) ?_
    refine XS.icmpNo X1.here hx rfl (hb hby at_28) rfl (tlt (by decide : (0 : Int32) < (4 : Int32))).2.1 ?_
    show Steps p.tables e below (T1.setTop (mkF m 31 #[.val (.int u0), .val (.int u1), .val (.int u2), .val (.int (0 : Int32)), .val (.int (u1 % (4 : Int32))), .val (.ref (w 0)), .unset] [])) _
    refine XS.iload X1.here hx rfl (hb hby at_31) rfl ?_
    refine XS.iconst X1.here hx rfl (hb hby at_33) ?_
    refine XS.icmpYes X1.here hx rfl (pc0 := 34) (pc' := 41) rfl (hb hby at_34) rfl (feq hf4).2 (by decide) (by decide) ?_
    refine XS.iconst X1.here hx rfl (hb hby at_41) ?_
    show Steps p.tables e below (T1.setTop (mkF m 42 #[.val (.int u0), .val (.int u1), .val (.int u2), .val (.int (0 : Int32)), .val (.int (u1 % (4 : Int32))), .val (.ref (w 0)), .unset] [(.int (0 : Int32))])) _
    refine XS.istore X1.here hx rfl (hb hby at_42) rfl (l' := #[.val (.int u0), .val (.int u1), .val (.int u2), .val (.int (0 : Int32)), .val (.int (u1 % (4 : Int32))), .val (.ref (w 0)), .val (.int (0 : Int32))]) rfl ?_
    refine XS.goto X1.here hx rfl (pc0 := 44) (pc' := 80) rfl (hb hby at_44) (by decide) (by decide) ?_
    refine XS.aload X1.here hx rfl (hb hby at_80) rfl rfl ?_
    refine XS.iload X1.here hx rfl (hb hby at_82) rfl ?_
    show Steps p.tables e below (T1.setTop (mkF m 84 #[.val (.int u0), .val (.int u1), .val (.int u2), .val (.int (0 : Int32)), .val (.int (u1 % (4 : Int32))), .val (.ref (w 0)), .val (.int (0 : Int32))] [(.int (u1 % (4 : Int32))), (.ref (w 0))])) _
    refine st2.trans ?_
    refine XS.iload X2.here hx rfl (hb hby at_87) rfl ?_
    refine XS.icmpNo X2.here hx rfl (hb hby at_89) rfl (teq (by decide : (0 : Int32) = (0 : Int32))).2 ?_
    refine XS.iconst X2.here hx rfl (hb hby at_92) ?_
    show Steps p.tables e below (T2.setTop (mkF m 93 #[.val (.int u0), .val (.int u1), .val (.int u2), .val (.int (0 : Int32)), .val (.int (u1 % (4 : Int32))), .val (.ref (w 0)), .val (.int (0 : Int32))] [(.int (1 : Int32))])) _
    refine XS.goto X2.here hx rfl (pc0 := 93) (pc' := 97) rfl (hb hby at_93) (by decide) (by decide) ?_
    show Steps p.tables e below (T2.setTop (mkF m 97 #[.val (.int u0), .val (.int u1), .val (.int u2), .val (.int (0 : Int32)), .val (.int (u1 % (4 : Int32))), .val (.ref (w 0)), .val (.int (0 : Int32))] [(.int (1 : Int32))])) _
    exact retN X2 hx (t := .boolean) Bd.returns (by simp) (hb hby at_97) hr
  · exact ⟨rfl, N2, e2⟩
set_option maxRecDepth 65536 in
set_option maxHeartbeats 40000000 in
theorem rm_takes_12 (l : Launch) (Z : State) (a0 : Array Value) (hw : ∀ d ∈ tables_1, d.before a0 Z = true) (w : Nat → Addr) (h0 : Heap) (n0 : Nat) (Z0 : n0 ≤ h0.size) (K : Kon Z h0 w) (u0 u1 u2 : Int32) (hf4 : ¬ ((u1 % (4 : Int32)) = (1 : Int32))) (hf5 : ¬ ((u1 % (4 : Int32)) < (1 : Int32))) :
    OM l Z (⟨"com/example/licon/licon/search/Operator", "takes", "(I)Z"⟩ : MethodName) prog_9_method_4_code 2 (some .boolean) [] ({ frames := 0, cells := 0, slots := 0, locals := 0 } : Room) #[(.ref (w 0)), (.int (u1 % (4 : Int32)))] h0 (OP (some (.int (0 : Int32))) n0 h0) := by
  refine MetFree.of_bodySF (plainFor_of_name pn_com_example_licon_licon_search_Operator) hisR ?_
  intro p e s m args below meth c s₁ Bd hml0 hP hK
  obtain ⟨rfl, hZ, hh⟩ := hP
  have hx := Bd.exec
  have hby := Bd.bytes
  have hml : c.maxLocals = 2 := hml0
  have hown : s.vm.findClass "com/example/licon/licon/search/Operator" = some m.cls := findClass_of_methodNamed Bd.named
  have X0 : Stand p l e ({ frames := 0, cells := 0, slots := 0, locals := 0 } : Room) s m #[(.ref (w 0)), (.int (u1 % (4 : Int32)))] below meth c s₁ [] 0 0 := Stand.of_body Bd
  have e0 : s₁.heap = h0 := by rw [← hh, Bd.state]; rfl
  have N0 := Fr.nil n0
  have pre0 : ∀ t, Steps p.tables e below (s₁.setTop (mkF m 0 #[.val (.ref (w 0)), .val (.int (u1 % (4 : Int32)))] [])) t → Steps p.tables e below (s₁.setTop (entryFrame m #[(.ref (w 0)), (.int (u1 % (4 : Int32)))] 2)) t := fun t k => castTop (by first | rfl | simp [entryFrame, mkF, argsToLocals, Value.category]) k
  obtain ⟨T1, X1, e1, st1⟩ := getF X0 hx hZ hown (host := "") (Or.inl (hw _ (List.mem_of_getElem? (i := 12) rfl))) Via.refl e0 K.2.2.2.2.2.2.2.2.2.2.2.2.2.2.2.2.1 (g := (mkF m 2 #[.val (.ref (w 0)), .val (.int (u1 % (4 : Int32)))] [(.ref (w 0)), (.int (u1 % (4 : Int32)))])) rfl rfl (hb hby d_prog_9_method_4_code_2)
  obtain ⟨T2, X2, e2, st2⟩ := getF X1 hx hZ hown (host := "") (Or.inl (hw _ (List.mem_of_getElem? (i := 14) rfl))) Via.refl e1 K.2.2.2.2.2.2.2.2.2.2.2.2.2.2.2.2.2.1 (g := (mkF m 10 #[.val (.ref (w 0)), .val (.int (u1 % (4 : Int32)))] [(.ref (w 0)), (.int (u1 % (4 : Int32)))])) rfl rfl (hb hby d_prog_9_method_4_code_10)
  obtain ⟨fs, hr, hrun, hended, hW, hsame⟩ := X2.leave (v := (some (.int (0 : Int32)))) (fun h => by rw [Bd.returns] at h; cases h)
  refine ⟨_, _, pre0 _ ?_, hrun, hended, _, _, rfl, ?_, ⟨_, rfl⟩, hW, hsame.mono (by decide) (by decide)⟩
  · show Steps p.tables e below (s₁.setTop (mkF m 0 #[.val (.ref (w 0)), .val (.int (u1 % (4 : Int32)))] [])) _
    refine XS.iloadN X0.here hx rfl (hb hby d_prog_9_method_4_code_0) rfl ?_
    refine XS.aloadN X0.here hx rfl (hb hby d_prog_9_method_4_code_1) rfl rfl ?_
    refine st1 _ ?_
    refine XS.icmpNo X1.here hx rfl (hb hby d_prog_9_method_4_code_5) rfl (flt hf5).1 ?_
    show Steps p.tables e below (T1.setTop (mkF m 8 #[.val (.ref (w 0)), .val (.int (u1 % (4 : Int32)))] [])) _
    refine XS.iloadN X1.here hx rfl (hb hby d_prog_9_method_4_code_8) rfl ?_
    refine XS.aloadN X1.here hx rfl (hb hby d_prog_9_method_4_code_9) rfl rfl ?_
    refine st2 _ ?_
    refine XS.icmpYes X2.here hx rfl (pc0 := 13) (pc' := 20) rfl (hb hby d_prog_9_method_4_code_13) rfl (tlt (by have z0 := mt Int32.toInt_inj.mp hf4; have z1 := mt Int32.lt_iff_toInt_lt.mpr hf5; have l0 : (1 : Int32).toInt = 1 := rfl; have r0 := rng32 (u1 % (4 : Int32)); exact Int32.lt_iff_toInt_lt.mpr (by omega) : (1 : Int32) < (u1 % (4 : Int32)))).2.2.1 (by decide) (by decide) ?_
    show Steps p.tables e below (T2.setTop (mkF m 20 #[.val (.ref (w 0)), .val (.int (u1 % (4 : Int32)))] [])) _
    refine XS.iconst X2.here hx rfl (hb hby d_prog_9_method_4_code_20) ?_
    show Steps p.tables e below (T2.setTop (mkF m 21 #[.val (.ref (w 0)), .val (.int (u1 % (4 : Int32)))] [(.int (0 : Int32))])) _
    exact retN X2 hx (t := .boolean) Bd.returns (by simp) (hb hby d_prog_9_method_4_code_21) hr
  · exact ⟨rfl, N0, e2⟩
set_option maxRecDepth 65536 in
set_option maxHeartbeats 40000000 in
theorem rm0_13 (l : Launch) (Z : State) (a0 : Array Value) (hw : ∀ d ∈ tables_1, d.before a0 Z = true) (w : Nat → Addr) (h0 : Heap) (n0 : Nat) (Z0 : n0 ≤ h0.size) (K : Kon Z h0 w) (u0 u1 u2 : Int32) (hf1 : ¬ ((u2 &&& (1 : Int32)) = (0 : Int32))) (hf4 : ¬ ((u1 % (4 : Int32)) = (1 : Int32))) (hf5 : ¬ ((u1 % (4 : Int32)) < (1 : Int32))) (hk0 : (u0 &&& (7 : Int32)) = (0 : Int32)) :
    OM l Z x code maxLocals ret tables_1 room_1 #[(.int u0), (.int u1), (.int u2)] h0 (OP (some (.int (1 : Int32))) n0 h0) := by
  refine MetFree.of_bodySF (plainFor_of_name pn_com_example_licon_licon_search_OperatorTakesPinLaw) hisR ?_
  intro p e s m args below meth c s₁ Bd hml0 hP hK
  obtain ⟨rfl, hZ, hh⟩ := hP
  have hx := Bd.exec
  have hby := Bd.bytes
  have hml : c.maxLocals = 7 := hml0
  have hown : s.vm.findClass "com/example/licon/licon/search/OperatorTakesPinLaw" = some m.cls := findClass_of_methodNamed Bd.named
  have X0 : Stand p l e room_1 s m #[(.int u0), (.int u1), (.int u2)] below meth c s₁ [] 0 0 := Stand.of_body Bd
  have e0 : s₁.heap = h0 := by rw [← hh, Bd.state]; rfl
  have N0 := Fr.nil n0
  have pre0 : ∀ t, Steps p.tables e below (s₁.setTop (mkF m 0 #[.val (.int u0), .val (.int u1), .val (.int u2), .unset, .unset, .unset, .unset] [])) t → Steps p.tables e below (s₁.setTop (entryFrame m #[(.int u0), (.int u1), (.int u2)] maxLocals)) t := fun t k => castTop (by first | rfl | simp [entryFrame, mkF, argsToLocals, Value.category, maxLocals]) k
  obtain ⟨_, _, ⟨T1, L1, k1, n1⟩, -, X1, ⟨Lc1, hQ1, l1, y1, z1⟩, st1⟩ := Jvm.LawKit.callS X0 hx (y := (⟨"com/example/licon/licon/search/OperatorTakesPinLaw", "pick", "(I)Lcom/example/licon/licon/search/Operator;"⟩ : MethodName)) hown (mvT hZ (hw _ (List.mem_of_getElem? (i := 0) rfl))) (mvT hZ (hw _ (List.mem_of_getElem? (i := 1) rfl))) (mvT hZ (hw _ (List.mem_of_getElem? (i := 2) rfl))) (mvT hZ (hw _ (List.mem_of_getElem? (i := 3) rfl))) (by decide) (backOf (W := 0) (rm_pick_1 l Z a0 hw w h0 n0 Z0 K u0 u1 u2) hZ (hw _ (List.mem_of_getElem? (i := 3) rfl)) (hw _ (List.mem_of_getElem? (i := 2) rfl)) (by decide) (by decide)) (g := (mkF m 21 #[.val (.int u0), .val (.int u1), .val (.int u2), .val (.int (0 : Int32)), .val (.int (u1 % (4 : Int32))), .unset, .unset] [(.int (0 : Int32))])) rfl (by rw [hml]; rfl) (argsL := [(.int (0 : Int32))]) (rest := []) (lenOf pd_28I29Lcom2fexample2flicon2flicon2fsearch2fOperator3b rfl) rfl (by show 2 * 0 + _ ≤ _; exact Nat.le_of_eq rfl) (hb hby at_21) (fun _ _ => ⟨rfl, e0, (by decide : 0 + 0 ≤ _), (by decide : 0 + 0 ≤ _)⟩)
  dsimp only [Pt.U, Pt.locs, Pt.cells, Pt.slots] at X1 l1 y1 z1 st1 hQ1
  subst l1 y1 z1
  obtain ⟨rfl, N1q, e1⟩ := hQ1
  have N1 := Fr.app N0 N1q
  obtain ⟨cq2, kq2, qa2, qb2, qc2⟩ := isOf hZ e1 K.2.1
  obtain ⟨_, _, ⟨T2, L2, k2, n2⟩, -, X2, ⟨Lc2, hQ2, l2, y2, z2⟩, st2⟩ := X1.virtualBack hx (y := (⟨"com/example/licon/licon/search/Operator", "takes", "(I)Z"⟩ : MethodName)) (z := (⟨"com/example/licon/licon/search/Operator", "takes", "(I)Z"⟩ : MethodName)) hown (mvT hZ (hw _ (List.mem_of_getElem? (i := 7) rfl))) (mvT hZ (hw _ (List.mem_of_getElem? (i := 8) rfl))) (notFace_of_selects (args := #[]) (mvT hZ (hw _ (List.mem_of_getElem? (i := 10) rfl)))) (mvT hZ (hw _ (List.mem_of_getElem? (i := 10) rfl))) (mvT hZ (hw _ (List.mem_of_getElem? (i := 9) rfl))) (by decide) (backOf (W := 0) (rm_takes_12 l Z a0 hw w h0 n0 Z0 K u0 u1 u2 hf4 hf5) hZ (hw _ (List.mem_of_getElem? (i := 11) rfl)) (hw _ (List.mem_of_getElem? (i := 5) rfl)) (by decide) (by decide)) qa2 qc2 (g := (mkF m 84 #[.val (.int u0), .val (.int u1), .val (.int u2), .val (.int (0 : Int32)), .val (.int (u1 % (4 : Int32))), .val (.ref (w 0)), .val (.int (0 : Int32))] [(.int (u1 % (4 : Int32))), (.ref (w 0))])) rfl (by rw [hml]; rfl) (Steps.refl _) (argsL := [(.int (u1 % (4 : Int32)))]) (rest := []) (lenOf pd_28I29Z rfl) rfl (by show 2 * 0 + _ ≤ _; exact Nat.le_of_eq rfl) (hb hby at_84) (fun _ _ => ⟨rfl, e1, (by decide : 0 + 0 ≤ _), (by decide : 0 + 0 ≤ _)⟩)
  dsimp only [Pt.U, Pt.locs, Pt.cells, Pt.slots] at X2 l2 y2 z2 st2 hQ2
  subst l2 y2 z2
  obtain ⟨rfl, N2q, e2⟩ := hQ2
  have N2 := Fr.app N1 N2q
  obtain ⟨fs, hr, hrun, hended, hW, hsame⟩ := X2.leave (v := (some (.int (1 : Int32)))) (fun h => by rw [Bd.returns] at h; cases h)
  refine ⟨_, _, pre0 _ ?_, hrun, hended, _, _, rfl, ?_, ⟨_, rfl⟩, hW, hsame.mono (by decide) (by decide)⟩
  · show Steps p.tables e below (s₁.setTop (mkF m 0 #[.val (.int u0), .val (.int u1), .val (.int u2), .unset, .unset, .unset, .unset] [])) _
    refine XS.iloadN X0.here hx rfl (hb hby at_0) rfl ?_
    refine XS.bipush X0.here hx rfl (hb hby at_1) ?_
    refine XS.iand X0.here hx rfl (hb hby at_3) rfl ?_
    show Steps p.tables e below (s₁.setTop (mkF m 4 #[.val (.int u0), .val (.int u1), .val (.int u2), .unset, .unset, .unset, .unset] [(.int (u0 &&& (7 : Int32)))])) _
    rw [hk0]
    show Steps p.tables e below (s₁.setTop (mkF m 4 #[.val (.int u0), .val (.int u1), .val (.int u2), .unset, .unset, .unset, .unset] [(.int (0 : Int32))])) _
    refine XS.istoreN X0.here hx rfl (hb hby at_4) rfl (l' := #[.val (.int u0), .val (.int u1), .val (.int u2), .val (.int (0 : Int32)), .unset, .unset, .unset]) rfl ?_
    refine XS.iloadN X0.here hx rfl (hb hby at_5) rfl ?_
    refine XS.iconst X0.here hx rfl (hb hby at_6) ?_
    refine XS.iand X0.here hx rfl (hb hby at_7) rfl ?_
    show Steps p.tables e below (s₁.setTop (mkF m 8 #[.val (.int u0), .val (.int u1), .val (.int u2), .val (.int (0 : Int32)), .unset, .unset, .unset] [(.int (u2 &&& (1 : Int32)))])) _
    refine XS.ifNo X0.here hx rfl (hb hby at_8) rfl ((if0 _ _).trans (feq hf1).1) ?_
    refine XS.iloadN X0.here hx rfl (hb hby at_11) rfl ?_
    refine XS.iconst X0.here hx rfl (hb hby at_12) ?_
    refine iremM X0 hx rfl (hb hby at_13) rfl (by decide : ¬ ((4 : Int32) = (0 : Int32))) ?_
    show Steps p.tables e below (s₁.setTop (mkF m 14 #[.val (.int u0), .val (.int u1), .val (.int u2), .val (.int (0 : Int32)), .unset, .unset, .unset] [(.int (u1 % (4 : Int32)))])) _
    refine XS.goto X0.here hx rfl (pc0 := 14) (pc' := 18) rfl (hb hby at_14) (by decide) (by decide) ?_
    refine XS.istore X0.here hx rfl (hb hby at_18) rfl (l' := #[.val (.int u0), .val (.int u1), .val (.int u2), .val (.int (0 : Int32)), .val (.int (u1 % (4 : Int32))), .unset, .unset]) rfl ?_
    refine XS.iloadN X0.here hx rfl (hb hby at_20) rfl ?_
    refine st1 _ ?_
    show Steps p.tables e below (T1.setTop (mkF m 24 #[.val (.int u0), .val (.int u1), .val (.int u2), .val (.int (0 : Int32)), .val (.int (u1 % (4 : Int32))), .unset, .unset] [(.ref (w 0))])) _
    refine XS.astore X1.here hx rfl (hb hby at_24) rfl rfl (l' := #[.val (.int u0), .val (.int u1), .val (.int u2), .val (.int (0 : Int32)), .val (.int (u1 % (4 : Int32))), .val (.ref (w 0)), .unset]) rfl ?_
    refine XS.iloadN X1.here hx rfl (hb hby at_26) rfl ?_
    refine XS.iconst X1.here hx rfl (hb hby at_27) ?_
    refine XS.icmpNo X1.here hx rfl (hb hby at_28) rfl (tlt (by decide : (0 : Int32) < (4 : Int32))).2.1 ?_
    show Steps p.tables e below (T1.setTop (mkF m 31 #[.val (.int u0), .val (.int u1), .val (.int u2), .val (.int (0 : Int32)), .val (.int (u1 % (4 : Int32))), .val (.ref (w 0)), .unset] [])) _
    refine XS.iload X1.here hx rfl (hb hby at_31) rfl ?_
    refine XS.iconst X1.here hx rfl (hb hby at_33) ?_
    refine XS.icmpYes X1.here hx rfl (pc0 := 34) (pc' := 41) rfl (hb hby at_34) rfl (feq hf4).2 (by decide) (by decide) ?_
    refine XS.iconst X1.here hx rfl (hb hby at_41) ?_
    show Steps p.tables e below (T1.setTop (mkF m 42 #[.val (.int u0), .val (.int u1), .val (.int u2), .val (.int (0 : Int32)), .val (.int (u1 % (4 : Int32))), .val (.ref (w 0)), .unset] [(.int (0 : Int32))])) _
    refine XS.istore X1.here hx rfl (hb hby at_42) rfl (l' := #[.val (.int u0), .val (.int u1), .val (.int u2), .val (.int (0 : Int32)), .val (.int (u1 % (4 : Int32))), .val (.ref (w 0)), .val (.int (0 : Int32))]) rfl ?_
    refine XS.goto X1.here hx rfl (pc0 := 44) (pc' := 80) rfl (hb hby at_44) (by decide) (by decide) ?_
    refine XS.aload X1.here hx rfl (hb hby at_80) rfl rfl ?_
    refine XS.iload X1.here hx rfl (hb hby at_82) rfl ?_
    show Steps p.tables e below (T1.setTop (mkF m 84 #[.val (.int u0), .val (.int u1), .val (.int u2), .val (.int (0 : Int32)), .val (.int (u1 % (4 : Int32))), .val (.ref (w 0)), .val (.int (0 : Int32))] [(.int (u1 % (4 : Int32))), (.ref (w 0))])) _
    refine st2.trans ?_
    refine XS.iload X2.here hx rfl (hb hby at_87) rfl ?_
    refine XS.icmpNo X2.here hx rfl (hb hby at_89) rfl (teq (by decide : (0 : Int32) = (0 : Int32))).2 ?_
    refine XS.iconst X2.here hx rfl (hb hby at_92) ?_
    show Steps p.tables e below (T2.setTop (mkF m 93 #[.val (.int u0), .val (.int u1), .val (.int u2), .val (.int (0 : Int32)), .val (.int (u1 % (4 : Int32))), .val (.ref (w 0)), .val (.int (0 : Int32))] [(.int (1 : Int32))])) _
    refine XS.goto X2.here hx rfl (pc0 := 93) (pc' := 97) rfl (hb hby at_93) (by decide) (by decide) ?_
    show Steps p.tables e below (T2.setTop (mkF m 97 #[.val (.int u0), .val (.int u1), .val (.int u2), .val (.int (0 : Int32)), .val (.int (u1 % (4 : Int32))), .val (.ref (w 0)), .val (.int (0 : Int32))] [(.int (1 : Int32))])) _
    exact retN X2 hx (t := .boolean) Bd.returns (by simp) (hb hby at_97) hr
  · exact ⟨rfl, N2, e2⟩
theorem d_method_3_code_8 : decode method_3_code 8 = .ok (.iload_n 0, 1) := by decide +kernel
theorem d_method_3_code_9 : decode method_3_code 9 = .ok (.iconst 1, 1) := by decide +kernel
theorem d_method_3_code_10 : decode method_3_code 10 = .ok (.if_icmp .ne 7, 3) := by decide +kernel
theorem d_method_3_code_13 : decode method_3_code 13 = .ok (.getstatic 23, 3) := by decide +kernel
theorem d_method_3_code_16 : decode method_3_code 16 = .ok (.areturn, 1) := by decide +kernel
set_option maxRecDepth 65536 in
set_option maxHeartbeats 40000000 in
theorem rm_pick_14 (l : Launch) (Z : State) (a0 : Array Value) (hw : ∀ d ∈ tables_1, d.before a0 Z = true) (w : Nat → Addr) (h0 : Heap) (n0 : Nat) (Z0 : n0 ≤ h0.size) (K : Kon Z h0 w) (u0 u1 u2 : Int32) :
    OM l Z (⟨"com/example/licon/licon/search/OperatorTakesPinLaw", "pick", "(I)Lcom/example/licon/licon/search/Operator;"⟩ : MethodName) method_3_code 1 (some (.object "com/example/licon/licon/search/Operator")) [] ({ frames := 0, cells := 0, slots := 0, locals := 0 } : Room) #[(.int (1 : Int32))] h0 (OP (some (.ref (w 1))) n0 h0) := by
  refine MetFree.of_bodySF (plainFor_of_name pn_com_example_licon_licon_search_OperatorTakesPinLaw) hisR ?_
  intro p e s m args below meth c s₁ Bd hml0 hP hK
  obtain ⟨rfl, hZ, hh⟩ := hP
  have hx := Bd.exec
  have hby := Bd.bytes
  have hml : c.maxLocals = 1 := hml0
  have hown : s.vm.findClass "com/example/licon/licon/search/OperatorTakesPinLaw" = some m.cls := findClass_of_methodNamed Bd.named
  have X0 : Stand p l e ({ frames := 0, cells := 0, slots := 0, locals := 0 } : Room) s m #[(.int (1 : Int32))] below meth c s₁ [] 0 0 := Stand.of_body Bd
  have e0 : s₁.heap = h0 := by rw [← hh, Bd.state]; rfl
  have N0 := Fr.nil n0
  have pre0 : ∀ t, Steps p.tables e below (s₁.setTop (mkF m 0 #[.val (.int (1 : Int32))] [])) t → Steps p.tables e below (s₁.setTop (entryFrame m #[(.int (1 : Int32))] 1)) t := fun t k => castTop (by first | rfl | simp [entryFrame, mkF, argsToLocals, Value.category]) k
  obtain ⟨T1, X1, e1, st1⟩ := getS2 X0 hx hZ hown (host := "") (Or.inl (hw _ (List.mem_of_getElem? (i := 16) rfl))) Via.refl e0 K.2.2.1 (g := (mkF m 13 #[.val (.int (1 : Int32))] [])) rfl (hb hby d_method_3_code_13)
  obtain ⟨fs, hr, hrun, hended, hW, hsame⟩ := X1.leave (v := (some (.ref (w 1)))) (fun h => by rw [Bd.returns] at h; cases h)
  refine ⟨_, _, pre0 _ ?_, hrun, hended, _, _, rfl, ?_, ⟨_, rfl⟩, hW, hsame.mono (by decide) (by decide)⟩
  · show Steps p.tables e below (s₁.setTop (mkF m 0 #[.val (.int (1 : Int32))] [])) _
    refine XS.iloadN X0.here hx rfl (hb hby d_method_3_code_0) rfl ?_
    refine XS.ifYes X0.here hx rfl (pc0 := 1) (pc' := 8) rfl (hb hby d_method_3_code_1) rfl ((if0 _ _).trans (feq (by decide : ¬ ((1 : Int32) = (0 : Int32)))).2) (by decide) (by decide) ?_
    refine XS.iloadN X0.here hx rfl (hb hby d_method_3_code_8) rfl ?_
    refine XS.iconst X0.here hx rfl (hb hby d_method_3_code_9) ?_
    show Steps p.tables e below (s₁.setTop (mkF m 10 #[.val (.int (1 : Int32))] [(.int (1 : Int32)), (.int (1 : Int32))])) _
    refine XS.icmpNo X0.here hx rfl (hb hby d_method_3_code_10) rfl (teq (by decide : (1 : Int32) = (1 : Int32))).2 ?_
    refine st1 _ ?_
    show Steps p.tables e below (T1.setTop (mkF m 16 #[.val (.int (1 : Int32))] [(.ref (w 1))])) _
    jvm_step X1.here [X1.here.top, hx, (hb hby d_method_3_code_16), X1.method', Bd.returns, Value.isRef, FieldType.isReference]
    first | (intro acts; rw [hr _ acts rfl rfl rfl]) | rw [hr _ _ rfl rfl rfl]
    exact Steps.refl _
  · exact ⟨rfl, N0, e1⟩
set_option maxRecDepth 65536 in
set_option maxHeartbeats 40000000 in
theorem rm_takes_15 (l : Launch) (Z : State) (a0 : Array Value) (hw : ∀ d ∈ tables_1, d.before a0 Z = true) (w : Nat → Addr) (h0 : Heap) (n0 : Nat) (Z0 : n0 ≤ h0.size) (K : Kon Z h0 w) (u0 u1 u2 : Int32) (hf7 : u1 = (1 : Int32)) :
    OM l Z (⟨"com/example/licon/licon/search/Operator", "takes", "(I)Z"⟩ : MethodName) prog_9_method_4_code 2 (some .boolean) [] ({ frames := 0, cells := 0, slots := 0, locals := 0 } : Room) #[(.ref (w 1)), (.int u1)] h0 (OP (some (.int (1 : Int32))) n0 h0) := by
  refine MetFree.of_bodySF (plainFor_of_name pn_com_example_licon_licon_search_Operator) hisR ?_
  intro p e s m args below meth c s₁ Bd hml0 hP hK
  obtain ⟨rfl, hZ, hh⟩ := hP
  have hx := Bd.exec
  have hby := Bd.bytes
  have hml : c.maxLocals = 2 := hml0
  have hown : s.vm.findClass "com/example/licon/licon/search/Operator" = some m.cls := findClass_of_methodNamed Bd.named
  have X0 : Stand p l e ({ frames := 0, cells := 0, slots := 0, locals := 0 } : Room) s m #[(.ref (w 1)), (.int u1)] below meth c s₁ [] 0 0 := Stand.of_body Bd
  have e0 : s₁.heap = h0 := by rw [← hh, Bd.state]; rfl
  have N0 := Fr.nil n0
  have pre0 : ∀ t, Steps p.tables e below (s₁.setTop (mkF m 0 #[.val (.ref (w 1)), .val (.int u1)] [])) t → Steps p.tables e below (s₁.setTop (entryFrame m #[(.ref (w 1)), (.int u1)] 2)) t := fun t k => castTop (by first | rfl | simp [entryFrame, mkF, argsToLocals, Value.category]) k
  obtain ⟨T1, X1, e1, st1⟩ := getF X0 hx hZ hown (host := "") (Or.inl (hw _ (List.mem_of_getElem? (i := 12) rfl))) Via.refl e0 K.2.2.2.2.2.2.2.2.2.2.2.2.2.2.2.2.2.2.1 (g := (mkF m 2 #[.val (.ref (w 1)), .val (.int u1)] [(.ref (w 1)), (.int u1)])) rfl rfl (hb hby d_prog_9_method_4_code_2)
  obtain ⟨T2, X2, e2, st2⟩ := getF X1 hx hZ hown (host := "") (Or.inl (hw _ (List.mem_of_getElem? (i := 14) rfl))) Via.refl e1 K.2.2.2.2.2.2.2.2.2.2.2.2.2.2.2.2.2.2.2.2.2.2.2.2.2.2.2.1 (g := (mkF m 10 #[.val (.ref (w 1)), .val (.int u1)] [(.ref (w 1)), (.int u1)])) rfl rfl (hb hby d_prog_9_method_4_code_10)
  obtain ⟨fs, hr, hrun, hended, hW, hsame⟩ := X2.leave (v := (some (.int (1 : Int32)))) (fun h => by rw [Bd.returns] at h; cases h)
  refine ⟨_, _, pre0 _ ?_, hrun, hended, _, _, rfl, ?_, ⟨_, rfl⟩, hW, hsame.mono (by decide) (by decide)⟩
  · show Steps p.tables e below (s₁.setTop (mkF m 0 #[.val (.ref (w 1)), .val (.int u1)] [])) _
    refine XS.iloadN X0.here hx rfl (hb hby d_prog_9_method_4_code_0) rfl ?_
    refine XS.aloadN X0.here hx rfl (hb hby d_prog_9_method_4_code_1) rfl rfl ?_
    refine st1 _ ?_
    refine XS.icmpNo X1.here hx rfl (hb hby d_prog_9_method_4_code_5) rfl (flt (by have z0 := congrArg Int32.toInt hf7; have l0 : (1 : Int32).toInt = 1 := rfl; have r0 := rng32 u1; exact fun hh => absurd (Int32.lt_iff_toInt_lt.mp hh) (by omega) : ¬ (u1 < (1 : Int32)))).1 ?_
    show Steps p.tables e below (T1.setTop (mkF m 8 #[.val (.ref (w 1)), .val (.int u1)] [])) _
    refine XS.iloadN X1.here hx rfl (hb hby d_prog_9_method_4_code_8) rfl ?_
    refine XS.aloadN X1.here hx rfl (hb hby d_prog_9_method_4_code_9) rfl rfl ?_
    refine st2 _ ?_
    refine XS.icmpNo X2.here hx rfl (hb hby d_prog_9_method_4_code_13) rfl (flt (by have z0 := congrArg Int32.toInt hf7; have l0 : (1 : Int32).toInt = 1 := rfl; have r0 := rng32 u1; exact fun hh => absurd (Int32.lt_iff_toInt_lt.mp hh) (by omega) : ¬ ((1 : Int32) < u1))).2.2.1 ?_
    show Steps p.tables e below (T2.setTop (mkF m 16 #[.val (.ref (w 1)), .val (.int u1)] [])) _
    refine XS.iconst X2.here hx rfl (hb hby d_prog_9_method_4_code_16) ?_
    refine XS.goto X2.here hx rfl (pc0 := 17) (pc' := 21) rfl (hb hby d_prog_9_method_4_code_17) (by decide) (by decide) ?_
    show Steps p.tables e below (T2.setTop (mkF m 21 #[.val (.ref (w 1)), .val (.int u1)] [(.int (1 : Int32))])) _
    exact retN X2 hx (t := .boolean) Bd.returns (by simp) (hb hby d_prog_9_method_4_code_21) hr
  · exact ⟨rfl, N0, e2⟩
set_option maxRecDepth 65536 in
set_option maxHeartbeats 40000000 in
theorem rm0_16 (l : Launch) (Z : State) (a0 : Array Value) (hw : ∀ d ∈ tables_1, d.before a0 Z = true) (w : Nat → Addr) (h0 : Heap) (n0 : Nat) (Z0 : n0 ≤ h0.size) (K : Kon Z h0 w) (u0 u1 u2 : Int32) (hf6 : (u2 &&& (1 : Int32)) = (0 : Int32)) (hf7 : u1 = (1 : Int32)) (hk0 : (u0 &&& (7 : Int32)) = (1 : Int32)) :
    OM l Z x code maxLocals ret tables_1 room_1 #[(.int u0), (.int u1), (.int u2)] h0 (OP (some (.int (1 : Int32))) n0 h0) := by
  refine MetFree.of_bodySF (plainFor_of_name pn_com_example_licon_licon_search_OperatorTakesPinLaw) hisR ?_
  intro p e s m args below meth c s₁ Bd hml0 hP hK
  obtain ⟨rfl, hZ, hh⟩ := hP
  have hx := Bd.exec
  have hby := Bd.bytes
  have hml : c.maxLocals = 7 := hml0
  have hown : s.vm.findClass "com/example/licon/licon/search/OperatorTakesPinLaw" = some m.cls := findClass_of_methodNamed Bd.named
  have X0 : Stand p l e room_1 s m #[(.int u0), (.int u1), (.int u2)] below meth c s₁ [] 0 0 := Stand.of_body Bd
  have e0 : s₁.heap = h0 := by rw [← hh, Bd.state]; rfl
  have N0 := Fr.nil n0
  have pre0 : ∀ t, Steps p.tables e below (s₁.setTop (mkF m 0 #[.val (.int u0), .val (.int u1), .val (.int u2), .unset, .unset, .unset, .unset] [])) t → Steps p.tables e below (s₁.setTop (entryFrame m #[(.int u0), (.int u1), (.int u2)] maxLocals)) t := fun t k => castTop (by first | rfl | simp [entryFrame, mkF, argsToLocals, Value.category, maxLocals]) k
  obtain ⟨_, _, ⟨T1, L1, k1, n1⟩, -, X1, ⟨Lc1, hQ1, l1, y1, z1⟩, st1⟩ := Jvm.LawKit.callS X0 hx (y := (⟨"com/example/licon/licon/search/OperatorTakesPinLaw", "pick", "(I)Lcom/example/licon/licon/search/Operator;"⟩ : MethodName)) hown (mvT hZ (hw _ (List.mem_of_getElem? (i := 0) rfl))) (mvT hZ (hw _ (List.mem_of_getElem? (i := 1) rfl))) (mvT hZ (hw _ (List.mem_of_getElem? (i := 2) rfl))) (mvT hZ (hw _ (List.mem_of_getElem? (i := 3) rfl))) (by decide) (backOf (W := 0) (rm_pick_14 l Z a0 hw w h0 n0 Z0 K u0 u1 u2) hZ (hw _ (List.mem_of_getElem? (i := 3) rfl)) (hw _ (List.mem_of_getElem? (i := 2) rfl)) (by decide) (by decide)) (g := (mkF m 21 #[.val (.int u0), .val (.int u1), .val (.int u2), .val (.int (1 : Int32)), .val (.int u1), .unset, .unset] [(.int (1 : Int32))])) rfl (by rw [hml]; rfl) (argsL := [(.int (1 : Int32))]) (rest := []) (lenOf pd_28I29Lcom2fexample2flicon2flicon2fsearch2fOperator3b rfl) rfl (by show 2 * 0 + _ ≤ _; exact Nat.le_of_eq rfl) (hb hby at_21) (fun _ _ => ⟨rfl, e0, (by decide : 0 + 0 ≤ _), (by decide : 0 + 0 ≤ _)⟩)
  dsimp only [Pt.U, Pt.locs, Pt.cells, Pt.slots] at X1 l1 y1 z1 st1 hQ1
  subst l1 y1 z1
  obtain ⟨rfl, N1q, e1⟩ := hQ1
  have N1 := Fr.app N0 N1q
  obtain ⟨cq2, kq2, qa2, qb2, qc2⟩ := isOf hZ e1 K.2.2.2.1
  obtain ⟨_, _, ⟨T2, L2, k2, n2⟩, -, X2, ⟨Lc2, hQ2, l2, y2, z2⟩, st2⟩ := X1.virtualBack hx (y := (⟨"com/example/licon/licon/search/Operator", "takes", "(I)Z"⟩ : MethodName)) (z := (⟨"com/example/licon/licon/search/Operator", "takes", "(I)Z"⟩ : MethodName)) hown (mvT hZ (hw _ (List.mem_of_getElem? (i := 7) rfl))) (mvT hZ (hw _ (List.mem_of_getElem? (i := 8) rfl))) (notFace_of_selects (args := #[]) (mvT hZ (hw _ (List.mem_of_getElem? (i := 10) rfl)))) (mvT hZ (hw _ (List.mem_of_getElem? (i := 10) rfl))) (mvT hZ (hw _ (List.mem_of_getElem? (i := 9) rfl))) (by decide) (backOf (W := 0) (rm_takes_15 l Z a0 hw w h0 n0 Z0 K u0 u1 u2 hf7) hZ (hw _ (List.mem_of_getElem? (i := 11) rfl)) (hw _ (List.mem_of_getElem? (i := 5) rfl)) (by decide) (by decide)) qa2 qc2 (g := (mkF m 84 #[.val (.int u0), .val (.int u1), .val (.int u2), .val (.int (1 : Int32)), .val (.int u1), .val (.ref (w 1)), .val (.int (1 : Int32))] [(.int u1), (.ref (w 1))])) rfl (by rw [hml]; rfl) (Steps.refl _) (argsL := [(.int u1)]) (rest := []) (lenOf pd_28I29Z rfl) rfl (by show 2 * 0 + _ ≤ _; exact Nat.le_of_eq rfl) (hb hby at_84) (fun _ _ => ⟨rfl, e1, (by decide : 0 + 0 ≤ _), (by decide : 0 + 0 ≤ _)⟩)
  dsimp only [Pt.U, Pt.locs, Pt.cells, Pt.slots] at X2 l2 y2 z2 st2 hQ2
  subst l2 y2 z2
  obtain ⟨rfl, N2q, e2⟩ := hQ2
  have N2 := Fr.app N1 N2q
  obtain ⟨fs, hr, hrun, hended, hW, hsame⟩ := X2.leave (v := (some (.int (1 : Int32)))) (fun h => by rw [Bd.returns] at h; cases h)
  refine ⟨_, _, pre0 _ ?_, hrun, hended, _, _, rfl, ?_, ⟨_, rfl⟩, hW, hsame.mono (by decide) (by decide)⟩
  · show Steps p.tables e below (s₁.setTop (mkF m 0 #[.val (.int u0), .val (.int u1), .val (.int u2), .unset, .unset, .unset, .unset] [])) _
    refine XS.iloadN X0.here hx rfl (hb hby at_0) rfl ?_
    refine XS.bipush X0.here hx rfl (hb hby at_1) ?_
    refine XS.iand X0.here hx rfl (hb hby at_3) rfl ?_
    show Steps p.tables e below (s₁.setTop (mkF m 4 #[.val (.int u0), .val (.int u1), .val (.int u2), .unset, .unset, .unset, .unset] [(.int (u0 &&& (7 : Int32)))])) _
    rw [hk0]
    show Steps p.tables e below (s₁.setTop (mkF m 4 #[.val (.int u0), .val (.int u1), .val (.int u2), .unset, .unset, .unset, .unset] [(.int (1 : Int32))])) _
    refine XS.istoreN X0.here hx rfl (hb hby at_4) rfl (l' := #[.val (.int u0), .val (.int u1), .val (.int u2), .val (.int (1 : Int32)), .unset, .unset, .unset]) rfl ?_
    refine XS.iloadN X0.here hx rfl (hb hby at_5) rfl ?_
    refine XS.iconst X0.here hx rfl (hb hby at_6) ?_
    refine XS.iand X0.here hx rfl (hb hby at_7) rfl ?_
    show Steps p.tables e below (s₁.setTop (mkF m 8 #[.val (.int u0), .val (.int u1), .val (.int u2), .val (.int (1 : Int32)), .unset, .unset, .unset] [(.int (u2 &&& (1 : Int32)))])) _
    refine XS.ifYes X0.here hx rfl (pc0 := 8) (pc' := 17) rfl (hb hby at_8) rfl ((if0 _ _).trans (teq hf6).1) (by decide) (by decide) ?_
    refine XS.iloadN X0.here hx rfl (hb hby at_17) rfl ?_
    refine XS.istore X0.here hx rfl (hb hby at_18) rfl (l' := #[.val (.int u0), .val (.int u1), .val (.int u2), .val (.int (1 : Int32)), .val (.int u1), .unset, .unset]) rfl ?_
    refine XS.iloadN X0.here hx rfl (hb hby at_20) rfl ?_
    show Steps p.tables e below (s₁.setTop (mkF m 21 #[.val (.int u0), .val (.int u1), .val (.int u2), .val (.int (1 : Int32)), .val (.int u1), .unset, .unset] [(.int (1 : Int32))])) _
    refine st1 _ ?_
    refine XS.astore X1.here hx rfl (hb hby at_24) rfl rfl (l' := #[.val (.int u0), .val (.int u1), .val (.int u2), .val (.int (1 : Int32)), .val (.int u1), .val (.ref (w 1)), .unset]) rfl ?_
    refine XS.iloadN X1.here hx rfl (hb hby at_26) rfl ?_
    refine XS.iconst X1.here hx rfl (hb hby at_27) ?_
    show Steps p.tables e below (T1.setTop (mkF m 28 #[.val (.int u0), .val (.int u1), .val (.int u2), .val (.int (1 : Int32)), .val (.int u1), .val (.ref (w 1)), .unset] [(.int (4 : Int32)), (.int (1 : Int32))])) _
    refine XS.icmpNo X1.here hx rfl (hb hby at_28) rfl (tlt (by decide : (1 : Int32) < (4 : Int32))).2.1 ?_
    refine XS.iload X1.here hx rfl (hb hby at_31) rfl ?_
    refine XS.iconst X1.here hx rfl (hb hby at_33) ?_
    refine XS.icmpNo X1.here hx rfl (hb hby at_34) rfl (teq hf7).2 ?_
    show Steps p.tables e below (T1.setTop (mkF m 37 #[.val (.int u0), .val (.int u1), .val (.int u2), .val (.int (1 : Int32)), .val (.int u1), .val (.ref (w 1)), .unset] [])) _
    refine XS.iconst X1.here hx rfl (hb hby at_37) ?_
    refine XS.goto X1.here hx rfl (pc0 := 38) (pc' := 42) rfl (hb hby at_38) (by decide) (by decide) ?_
    refine XS.istore X1.here hx rfl (hb hby at_42) rfl (l' := #[.val (.int u0), .val (.int u1), .val (.int u2), .val (.int (1 : Int32)), .val (.int u1), .val (.ref (w 1)), .val (.int (1 : Int32))]) rfl ?_
    refine XS.goto X1.here hx rfl (pc0 := 44) (pc' := 80) rfl (hb hby at_44) (by decide) (by decide) ?_
    show Steps p.tables e below (T1.setTop (mkF m 80 #[.val (.int u0), .val (.int u1), .val (.int u2), .val (.int (1 : Int32)), .val (.int u1), .val (.ref (w 1)), .val (.int (1 : Int32))] [])) _
    refine XS.aload X1.here hx rfl (hb hby at_80) rfl rfl ?_
    refine XS.iload X1.here hx rfl (hb hby at_82) rfl ?_
    refine st2.trans ?_
    refine XS.iload X2.here hx rfl (hb hby at_87) rfl ?_
    show Steps p.tables e below (T2.setTop (mkF m 89 #[.val (.int u0), .val (.int u1), .val (.int u2), .val (.int (1 : Int32)), .val (.int u1), .val (.ref (w 1)), .val (.int (1 : Int32))] [(.int (1 : Int32)), (.int (1 : Int32))])) _
    refine XS.icmpNo X2.here hx rfl (hb hby at_89) rfl (teq (by decide : (1 : Int32) = (1 : Int32))).2 ?_
    refine XS.iconst X2.here hx rfl (hb hby at_92) ?_
    refine XS.goto X2.here hx rfl (pc0 := 93) (pc' := 97) rfl (hb hby at_93) (by decide) (by decide) ?_
    show Steps p.tables e below (T2.setTop (mkF m 97 #[.val (.int u0), .val (.int u1), .val (.int u2), .val (.int (1 : Int32)), .val (.int u1), .val (.ref (w 1)), .val (.int (1 : Int32))] [(.int (1 : Int32))])) _
    exact retN X2 hx (t := .boolean) Bd.returns (by simp) (hb hby at_97) hr
  · exact ⟨rfl, N2, e2⟩
set_option maxRecDepth 65536 in
set_option maxHeartbeats 40000000 in
theorem rm_takes_17 (l : Launch) (Z : State) (a0 : Array Value) (hw : ∀ d ∈ tables_1, d.before a0 Z = true) (w : Nat → Addr) (h0 : Heap) (n0 : Nat) (Z0 : n0 ≤ h0.size) (K : Kon Z h0 w) (u0 u1 u2 : Int32) (hf8 : u1 < (1 : Int32)) :
    OM l Z (⟨"com/example/licon/licon/search/Operator", "takes", "(I)Z"⟩ : MethodName) prog_9_method_4_code 2 (some .boolean) [] ({ frames := 0, cells := 0, slots := 0, locals := 0 } : Room) #[(.ref (w 1)), (.int u1)] h0 (OP (some (.int (0 : Int32))) n0 h0) := by
  refine MetFree.of_bodySF (plainFor_of_name pn_com_example_licon_licon_search_Operator) hisR ?_
  intro p e s m args below meth c s₁ Bd hml0 hP hK
  obtain ⟨rfl, hZ, hh⟩ := hP
  have hx := Bd.exec
  have hby := Bd.bytes
  have hml : c.maxLocals = 2 := hml0
  have hown : s.vm.findClass "com/example/licon/licon/search/Operator" = some m.cls := findClass_of_methodNamed Bd.named
  have X0 : Stand p l e ({ frames := 0, cells := 0, slots := 0, locals := 0 } : Room) s m #[(.ref (w 1)), (.int u1)] below meth c s₁ [] 0 0 := Stand.of_body Bd
  have e0 : s₁.heap = h0 := by rw [← hh, Bd.state]; rfl
  have N0 := Fr.nil n0
  have pre0 : ∀ t, Steps p.tables e below (s₁.setTop (mkF m 0 #[.val (.ref (w 1)), .val (.int u1)] [])) t → Steps p.tables e below (s₁.setTop (entryFrame m #[(.ref (w 1)), (.int u1)] 2)) t := fun t k => castTop (by first | rfl | simp [entryFrame, mkF, argsToLocals, Value.category]) k
  obtain ⟨T1, X1, e1, st1⟩ := getF X0 hx hZ hown (host := "") (Or.inl (hw _ (List.mem_of_getElem? (i := 12) rfl))) Via.refl e0 K.2.2.2.2.2.2.2.2.2.2.2.2.2.2.2.2.2.2.1 (g := (mkF m 2 #[.val (.ref (w 1)), .val (.int u1)] [(.ref (w 1)), (.int u1)])) rfl rfl (hb hby d_prog_9_method_4_code_2)
  obtain ⟨fs, hr, hrun, hended, hW, hsame⟩ := X1.leave (v := (some (.int (0 : Int32)))) (fun h => by rw [Bd.returns] at h; cases h)
  refine ⟨_, _, pre0 _ ?_, hrun, hended, _, _, rfl, ?_, ⟨_, rfl⟩, hW, hsame.mono (by decide) (by decide)⟩
  · show Steps p.tables e below (s₁.setTop (mkF m 0 #[.val (.ref (w 1)), .val (.int u1)] [])) _
    refine XS.iloadN X0.here hx rfl (hb hby d_prog_9_method_4_code_0) rfl ?_
    refine XS.aloadN X0.here hx rfl (hb hby d_prog_9_method_4_code_1) rfl rfl ?_
    refine st1 _ ?_
    refine XS.icmpYes X1.here hx rfl (pc0 := 5) (pc' := 20) rfl (hb hby d_prog_9_method_4_code_5) rfl (tlt hf8).1 (by decide) (by decide) ?_
    show Steps p.tables e below (T1.setTop (mkF m 20 #[.val (.ref (w 1)), .val (.int u1)] [])) _
    refine XS.iconst X1.here hx rfl (hb hby d_prog_9_method_4_code_20) ?_
    show Steps p.tables e below (T1.setTop (mkF m 21 #[.val (.ref (w 1)), .val (.int u1)] [(.int (0 : Int32))])) _
    exact retN X1 hx (t := .boolean) Bd.returns (by simp) (hb hby d_prog_9_method_4_code_21) hr
  · exact ⟨rfl, N0, e1⟩
set_option maxRecDepth 65536 in
set_option maxHeartbeats 40000000 in
theorem rm0_18 (l : Launch) (Z : State) (a0 : Array Value) (hw : ∀ d ∈ tables_1, d.before a0 Z = true) (w : Nat → Addr) (h0 : Heap) (n0 : Nat) (Z0 : n0 ≤ h0.size) (K : Kon Z h0 w) (u0 u1 u2 : Int32) (hf6 : (u2 &&& (1 : Int32)) = (0 : Int32)) (hf7 : ¬ (u1 = (1 : Int32))) (hf8 : u1 < (1 : Int32)) (hk0 : (u0 &&& (7 : Int32)) = (1 : Int32)) :
    OM l Z x code maxLocals ret tables_1 room_1 #[(.int u0), (.int u1), (.int u2)] h0 (OP (some (.int (1 : Int32))) n0 h0) := by
  refine MetFree.of_bodySF (plainFor_of_name pn_com_example_licon_licon_search_OperatorTakesPinLaw) hisR ?_
  intro p e s m args below meth c s₁ Bd hml0 hP hK
  obtain ⟨rfl, hZ, hh⟩ := hP
  have hx := Bd.exec
  have hby := Bd.bytes
  have hml : c.maxLocals = 7 := hml0
  have hown : s.vm.findClass "com/example/licon/licon/search/OperatorTakesPinLaw" = some m.cls := findClass_of_methodNamed Bd.named
  have X0 : Stand p l e room_1 s m #[(.int u0), (.int u1), (.int u2)] below meth c s₁ [] 0 0 := Stand.of_body Bd
  have e0 : s₁.heap = h0 := by rw [← hh, Bd.state]; rfl
  have N0 := Fr.nil n0
  have pre0 : ∀ t, Steps p.tables e below (s₁.setTop (mkF m 0 #[.val (.int u0), .val (.int u1), .val (.int u2), .unset, .unset, .unset, .unset] [])) t → Steps p.tables e below (s₁.setTop (entryFrame m #[(.int u0), (.int u1), (.int u2)] maxLocals)) t := fun t k => castTop (by first | rfl | simp [entryFrame, mkF, argsToLocals, Value.category, maxLocals]) k
  obtain ⟨_, _, ⟨T1, L1, k1, n1⟩, -, X1, ⟨Lc1, hQ1, l1, y1, z1⟩, st1⟩ := Jvm.LawKit.callS X0 hx (y := (⟨"com/example/licon/licon/search/OperatorTakesPinLaw", "pick", "(I)Lcom/example/licon/licon/search/Operator;"⟩ : MethodName)) hown (mvT hZ (hw _ (List.mem_of_getElem? (i := 0) rfl))) (mvT hZ (hw _ (List.mem_of_getElem? (i := 1) rfl))) (mvT hZ (hw _ (List.mem_of_getElem? (i := 2) rfl))) (mvT hZ (hw _ (List.mem_of_getElem? (i := 3) rfl))) (by decide) (backOf (W := 0) (rm_pick_14 l Z a0 hw w h0 n0 Z0 K u0 u1 u2) hZ (hw _ (List.mem_of_getElem? (i := 3) rfl)) (hw _ (List.mem_of_getElem? (i := 2) rfl)) (by decide) (by decide)) (g := (mkF m 21 #[.val (.int u0), .val (.int u1), .val (.int u2), .val (.int (1 : Int32)), .val (.int u1), .unset, .unset] [(.int (1 : Int32))])) rfl (by rw [hml]; rfl) (argsL := [(.int (1 : Int32))]) (rest := []) (lenOf pd_28I29Lcom2fexample2flicon2flicon2fsearch2fOperator3b rfl) rfl (by show 2 * 0 + _ ≤ _; exact Nat.le_of_eq rfl) (hb hby at_21) (fun _ _ => ⟨rfl, e0, (by decide : 0 + 0 ≤ _), (by decide : 0 + 0 ≤ _)⟩)
  dsimp only [Pt.U, Pt.locs, Pt.cells, Pt.slots] at X1 l1 y1 z1 st1 hQ1
  subst l1 y1 z1
  obtain ⟨rfl, N1q, e1⟩ := hQ1
  have N1 := Fr.app N0 N1q
  obtain ⟨cq2, kq2, qa2, qb2, qc2⟩ := isOf hZ e1 K.2.2.2.1
  obtain ⟨_, _, ⟨T2, L2, k2, n2⟩, -, X2, ⟨Lc2, hQ2, l2, y2, z2⟩, st2⟩ := X1.virtualBack hx (y := (⟨"com/example/licon/licon/search/Operator", "takes", "(I)Z"⟩ : MethodName)) (z := (⟨"com/example/licon/licon/search/Operator", "takes", "(I)Z"⟩ : MethodName)) hown (mvT hZ (hw _ (List.mem_of_getElem? (i := 7) rfl))) (mvT hZ (hw _ (List.mem_of_getElem? (i := 8) rfl))) (notFace_of_selects (args := #[]) (mvT hZ (hw _ (List.mem_of_getElem? (i := 10) rfl)))) (mvT hZ (hw _ (List.mem_of_getElem? (i := 10) rfl))) (mvT hZ (hw _ (List.mem_of_getElem? (i := 9) rfl))) (by decide) (backOf (W := 0) (rm_takes_17 l Z a0 hw w h0 n0 Z0 K u0 u1 u2 hf8) hZ (hw _ (List.mem_of_getElem? (i := 11) rfl)) (hw _ (List.mem_of_getElem? (i := 5) rfl)) (by decide) (by decide)) qa2 qc2 (g := (mkF m 84 #[.val (.int u0), .val (.int u1), .val (.int u2), .val (.int (1 : Int32)), .val (.int u1), .val (.ref (w 1)), .val (.int (0 : Int32))] [(.int u1), (.ref (w 1))])) rfl (by rw [hml]; rfl) (Steps.refl _) (argsL := [(.int u1)]) (rest := []) (lenOf pd_28I29Z rfl) rfl (by show 2 * 0 + _ ≤ _; exact Nat.le_of_eq rfl) (hb hby at_84) (fun _ _ => ⟨rfl, e1, (by decide : 0 + 0 ≤ _), (by decide : 0 + 0 ≤ _)⟩)
  dsimp only [Pt.U, Pt.locs, Pt.cells, Pt.slots] at X2 l2 y2 z2 st2 hQ2
  subst l2 y2 z2
  obtain ⟨rfl, N2q, e2⟩ := hQ2
  have N2 := Fr.app N1 N2q
  obtain ⟨fs, hr, hrun, hended, hW, hsame⟩ := X2.leave (v := (some (.int (1 : Int32)))) (fun h => by rw [Bd.returns] at h; cases h)
  refine ⟨_, _, pre0 _ ?_, hrun, hended, _, _, rfl, ?_, ⟨_, rfl⟩, hW, hsame.mono (by decide) (by decide)⟩
  · show Steps p.tables e below (s₁.setTop (mkF m 0 #[.val (.int u0), .val (.int u1), .val (.int u2), .unset, .unset, .unset, .unset] [])) _
    refine XS.iloadN X0.here hx rfl (hb hby at_0) rfl ?_
    refine XS.bipush X0.here hx rfl (hb hby at_1) ?_
    refine XS.iand X0.here hx rfl (hb hby at_3) rfl ?_
    show Steps p.tables e below (s₁.setTop (mkF m 4 #[.val (.int u0), .val (.int u1), .val (.int u2), .unset, .unset, .unset, .unset] [(.int (u0 &&& (7 : Int32)))])) _
    rw [hk0]
    show Steps p.tables e below (s₁.setTop (mkF m 4 #[.val (.int u0), .val (.int u1), .val (.int u2), .unset, .unset, .unset, .unset] [(.int (1 : Int32))])) _
    refine XS.istoreN X0.here hx rfl (hb hby at_4) rfl (l' := #[.val (.int u0), .val (.int u1), .val (.int u2), .val (.int (1 : Int32)), .unset, .unset, .unset]) rfl ?_
    refine XS.iloadN X0.here hx rfl (hb hby at_5) rfl ?_
    refine XS.iconst X0.here hx rfl (hb hby at_6) ?_
    refine XS.iand X0.here hx rfl (hb hby at_7) rfl ?_
    show Steps p.tables e below (s₁.setTop (mkF m 8 #[.val (.int u0), .val (.int u1), .val (.int u2), .val (.int (1 : Int32)), .unset, .unset, .unset] [(.int (u2 &&& (1 : Int32)))])) _
    refine XS.ifYes X0.here hx rfl (pc0 := 8) (pc' := 17) rfl (hb hby at_8) rfl ((if0 _ _).trans (teq hf6).1) (by decide) (by decide) ?_
    refine XS.iloadN X0.here hx rfl (hb hby at_17) rfl ?_
    refine XS.istore X0.here hx rfl (hb hby at_18) rfl (l' := #[.val (.int u0), .val (.int u1), .val (.int u2), .val (.int (1 : Int32)), .val (.int u1), .unset, .unset]) rfl ?_
    refine XS.iloadN X0.here hx rfl (hb hby at_20) rfl ?_
    show Steps p.tables e below (s₁.setTop (mkF m 21 #[.val (.int u0), .val (.int u1), .val (.int u2), .val (.int (1 : Int32)), .val (.int u1), .unset, .unset] [(.int (1 : Int32))])) _
    refine st1 _ ?_
    refine XS.astore X1.here hx rfl (hb hby at_24) rfl rfl (l' := #[.val (.int u0), .val (.int u1), .val (.int u2), .val (.int (1 : Int32)), .val (.int u1), .val (.ref (w 1)), .unset]) rfl ?_
    refine XS.iloadN X1.here hx rfl (hb hby at_26) rfl ?_
    refine XS.iconst X1.here hx rfl (hb hby at_27) ?_
    show Steps p.tables e below (T1.setTop (mkF m 28 #[.val (.int u0), .val (.int u1), .val (.int u2), .val (.int (1 : Int32)), .val (.int u1), .val (.ref (w 1)), .unset] [(.int (4 : Int32)), (.int (1 : Int32))])) _
    refine XS.icmpNo X1.here hx rfl (hb hby at_28) rfl (tlt (by decide : (1 : Int32) < (4 : Int32))).2.1 ?_
    refine XS.iload X1.here hx rfl (hb hby at_31) rfl ?_
    refine XS.iconst X1.here hx rfl (hb hby at_33) ?_
    refine XS.icmpYes X1.here hx rfl (pc0 := 34) (pc' := 41) rfl (hb hby at_34) rfl (feq hf7).2 (by decide) (by decide) ?_
    show Steps p.tables e below (T1.setTop (mkF m 41 #[.val (.int u0), .val (.int u1), .val (.int u2), .val (.int (1 : Int32)), .val (.int u1), .val (.ref (w 1)), .unset] [])) _
    refine XS.iconst X1.here hx rfl (hb hby at_41) ?_
    refine XS.istore X1.here hx rfl (hb hby at_42) rfl (l' := #[.val (.int u0), .val (.int u1), .val (.int u2), .val (.int (1 : Int32)), .val (.int u1), .val (.ref (w 1)), .val (.int (0 : Int32))]) rfl ?_
    refine XS.goto X1.here hx rfl (pc0 := 44) (pc' := 80) rfl (hb hby at_44) (by decide) (by decide) ?_
    refine XS.aload X1.here hx rfl (hb hby at_80) rfl rfl ?_
    show Steps p.tables e below (T1.setTop (mkF m 82 #[.val (.int u0), .val (.int u1), .val (.int u2), .val (.int (1 : Int32)), .val (.int u1), .val (.ref (w 1)), .val (.int (0 : Int32))] [(.ref (w 1))])) _
    refine XS.iload X1.here hx rfl (hb hby at_82) rfl ?_
    refine st2.trans ?_
    refine XS.iload X2.here hx rfl (hb hby at_87) rfl ?_
    refine XS.icmpNo X2.here hx rfl (hb hby at_89) rfl (teq (by decide : (0 : Int32) = (0 : Int32))).2 ?_
    show Steps p.tables e below (T2.setTop (mkF m 92 #[.val (.int u0), .val (.int u1), .val (.int u2), .val (.int (1 : Int32)), .val (.int u1), .val (.ref (w 1)), .val (.int (0 : Int32))] [])) _
    refine XS.iconst X2.here hx rfl (hb hby at_92) ?_
    refine XS.goto X2.here hx rfl (pc0 := 93) (pc' := 97) rfl (hb hby at_93) (by decide) (by decide) ?_
    show Steps p.tables e below (T2.setTop (mkF m 97 #[.val (.int u0), .val (.int u1), .val (.int u2), .val (.int (1 : Int32)), .val (.int u1), .val (.ref (w 1)), .val (.int (0 : Int32))] [(.int (1 : Int32))])) _
    exact retN X2 hx (t := .boolean) Bd.returns (by simp) (hb hby at_97) hr
  · exact ⟨rfl, N2, e2⟩
set_option maxRecDepth 65536 in
set_option maxHeartbeats 40000000 in
theorem rm_takes_19 (l : Launch) (Z : State) (a0 : Array Value) (hw : ∀ d ∈ tables_1, d.before a0 Z = true) (w : Nat → Addr) (h0 : Heap) (n0 : Nat) (Z0 : n0 ≤ h0.size) (K : Kon Z h0 w) (u0 u1 u2 : Int32) (hf7 : ¬ (u1 = (1 : Int32))) (hf8 : ¬ (u1 < (1 : Int32))) :
    OM l Z (⟨"com/example/licon/licon/search/Operator", "takes", "(I)Z"⟩ : MethodName) prog_9_method_4_code 2 (some .boolean) [] ({ frames := 0, cells := 0, slots := 0, locals := 0 } : Room) #[(.ref (w 1)), (.int u1)] h0 (OP (some (.int (0 : Int32))) n0 h0) := by
  refine MetFree.of_bodySF (plainFor_of_name pn_com_example_licon_licon_search_Operator) hisR ?_
  intro p e s m args below meth c s₁ Bd hml0 hP hK
  obtain ⟨rfl, hZ, hh⟩ := hP
  have hx := Bd.exec
  have hby := Bd.bytes
  have hml : c.maxLocals = 2 := hml0
  have hown : s.vm.findClass "com/example/licon/licon/search/Operator" = some m.cls := findClass_of_methodNamed Bd.named
  have X0 : Stand p l e ({ frames := 0, cells := 0, slots := 0, locals := 0 } : Room) s m #[(.ref (w 1)), (.int u1)] below meth c s₁ [] 0 0 := Stand.of_body Bd
  have e0 : s₁.heap = h0 := by rw [← hh, Bd.state]; rfl
  have N0 := Fr.nil n0
  have pre0 : ∀ t, Steps p.tables e below (s₁.setTop (mkF m 0 #[.val (.ref (w 1)), .val (.int u1)] [])) t → Steps p.tables e below (s₁.setTop (entryFrame m #[(.ref (w 1)), (.int u1)] 2)) t := fun t k => castTop (by first | rfl | simp [entryFrame, mkF, argsToLocals, Value.category]) k
  obtain ⟨T1, X1, e1, st1⟩ := getF X0 hx hZ hown (host := "") (Or.inl (hw _ (List.mem_of_getElem? (i := 12) rfl))) Via.refl e0 K.2.2.2.2.2.2.2.2.2.2.2.2.2.2.2.2.2.2.1 (g := (mkF m 2 #[.val (.ref (w 1)), .val (.int u1)] [(.ref (w 1)), (.int u1)])) rfl rfl (hb hby d_prog_9_method_4_code_2)
  obtain ⟨T2, X2, e2, st2⟩ := getF X1 hx hZ hown (host := "") (Or.inl (hw _ (List.mem_of_getElem? (i := 14) rfl))) Via.refl e1 K.2.2.2.2.2.2.2.2.2.2.2.2.2.2.2.2.2.2.2.2.2.2.2.2.2.2.2.1 (g := (mkF m 10 #[.val (.ref (w 1)), .val (.int u1)] [(.ref (w 1)), (.int u1)])) rfl rfl (hb hby d_prog_9_method_4_code_10)
  obtain ⟨fs, hr, hrun, hended, hW, hsame⟩ := X2.leave (v := (some (.int (0 : Int32)))) (fun h => by rw [Bd.returns] at h; cases h)
  refine ⟨_, _, pre0 _ ?_, hrun, hended, _, _, rfl, ?_, ⟨_, rfl⟩, hW, hsame.mono (by decide) (by decide)⟩
  · show Steps p.tables e below (s₁.setTop (mkF m 0 #[.val (.ref (w 1)), .val (.int u1)] [])) _
    refine XS.iloadN X0.here hx rfl (hb hby d_prog_9_method_4_code_0) rfl ?_
    refine XS.aloadN X0.here hx rfl (hb hby d_prog_9_method_4_code_1) rfl rfl ?_
    refine st1 _ ?_
    refine XS.icmpNo X1.here hx rfl (hb hby d_prog_9_method_4_code_5) rfl (flt hf8).1 ?_
    show Steps p.tables e below (T1.setTop (mkF m 8 #[.val (.ref (w 1)), .val (.int u1)] [])) _
    refine XS.iloadN X1.here hx rfl (hb hby d_prog_9_method_4_code_8) rfl ?_
    refine XS.aloadN X1.here hx rfl (hb hby d_prog_9_method_4_code_9) rfl rfl ?_
    refine st2 _ ?_
    refine XS.icmpYes X2.here hx rfl (pc0 := 13) (pc' := 20) rfl (hb hby d_prog_9_method_4_code_13) rfl (tlt (by have z0 := mt Int32.toInt_inj.mp hf7; have z1 := mt Int32.lt_iff_toInt_lt.mpr hf8; have l0 : (1 : Int32).toInt = 1 := rfl; have r0 := rng32 u1; exact Int32.lt_iff_toInt_lt.mpr (by omega) : (1 : Int32) < u1)).2.2.1 (by decide) (by decide) ?_
    show Steps p.tables e below (T2.setTop (mkF m 20 #[.val (.ref (w 1)), .val (.int u1)] [])) _
    refine XS.iconst X2.here hx rfl (hb hby d_prog_9_method_4_code_20) ?_
    show Steps p.tables e below (T2.setTop (mkF m 21 #[.val (.ref (w 1)), .val (.int u1)] [(.int (0 : Int32))])) _
    exact retN X2 hx (t := .boolean) Bd.returns (by simp) (hb hby d_prog_9_method_4_code_21) hr
  · exact ⟨rfl, N0, e2⟩
set_option maxRecDepth 65536 in
set_option maxHeartbeats 40000000 in
theorem rm0_20 (l : Launch) (Z : State) (a0 : Array Value) (hw : ∀ d ∈ tables_1, d.before a0 Z = true) (w : Nat → Addr) (h0 : Heap) (n0 : Nat) (Z0 : n0 ≤ h0.size) (K : Kon Z h0 w) (u0 u1 u2 : Int32) (hf6 : (u2 &&& (1 : Int32)) = (0 : Int32)) (hf7 : ¬ (u1 = (1 : Int32))) (hf8 : ¬ (u1 < (1 : Int32))) (hk0 : (u0 &&& (7 : Int32)) = (1 : Int32)) :
    OM l Z x code maxLocals ret tables_1 room_1 #[(.int u0), (.int u1), (.int u2)] h0 (OP (some (.int (1 : Int32))) n0 h0) := by
  refine MetFree.of_bodySF (plainFor_of_name pn_com_example_licon_licon_search_OperatorTakesPinLaw) hisR ?_
  intro p e s m args below meth c s₁ Bd hml0 hP hK
  obtain ⟨rfl, hZ, hh⟩ := hP
  have hx := Bd.exec
  have hby := Bd.bytes
  have hml : c.maxLocals = 7 := hml0
  have hown : s.vm.findClass "com/example/licon/licon/search/OperatorTakesPinLaw" = some m.cls := findClass_of_methodNamed Bd.named
  have X0 : Stand p l e room_1 s m #[(.int u0), (.int u1), (.int u2)] below meth c s₁ [] 0 0 := Stand.of_body Bd
  have e0 : s₁.heap = h0 := by rw [← hh, Bd.state]; rfl
  have N0 := Fr.nil n0
  have pre0 : ∀ t, Steps p.tables e below (s₁.setTop (mkF m 0 #[.val (.int u0), .val (.int u1), .val (.int u2), .unset, .unset, .unset, .unset] [])) t → Steps p.tables e below (s₁.setTop (entryFrame m #[(.int u0), (.int u1), (.int u2)] maxLocals)) t := fun t k => castTop (by first | rfl | simp [entryFrame, mkF, argsToLocals, Value.category, maxLocals]) k
  obtain ⟨_, _, ⟨T1, L1, k1, n1⟩, -, X1, ⟨Lc1, hQ1, l1, y1, z1⟩, st1⟩ := Jvm.LawKit.callS X0 hx (y := (⟨"com/example/licon/licon/search/OperatorTakesPinLaw", "pick", "(I)Lcom/example/licon/licon/search/Operator;"⟩ : MethodName)) hown (mvT hZ (hw _ (List.mem_of_getElem? (i := 0) rfl))) (mvT hZ (hw _ (List.mem_of_getElem? (i := 1) rfl))) (mvT hZ (hw _ (List.mem_of_getElem? (i := 2) rfl))) (mvT hZ (hw _ (List.mem_of_getElem? (i := 3) rfl))) (by decide) (backOf (W := 0) (rm_pick_14 l Z a0 hw w h0 n0 Z0 K u0 u1 u2) hZ (hw _ (List.mem_of_getElem? (i := 3) rfl)) (hw _ (List.mem_of_getElem? (i := 2) rfl)) (by decide) (by decide)) (g := (mkF m 21 #[.val (.int u0), .val (.int u1), .val (.int u2), .val (.int (1 : Int32)), .val (.int u1), .unset, .unset] [(.int (1 : Int32))])) rfl (by rw [hml]; rfl) (argsL := [(.int (1 : Int32))]) (rest := []) (lenOf pd_28I29Lcom2fexample2flicon2flicon2fsearch2fOperator3b rfl) rfl (by show 2 * 0 + _ ≤ _; exact Nat.le_of_eq rfl) (hb hby at_21) (fun _ _ => ⟨rfl, e0, (by decide : 0 + 0 ≤ _), (by decide : 0 + 0 ≤ _)⟩)
  dsimp only [Pt.U, Pt.locs, Pt.cells, Pt.slots] at X1 l1 y1 z1 st1 hQ1
  subst l1 y1 z1
  obtain ⟨rfl, N1q, e1⟩ := hQ1
  have N1 := Fr.app N0 N1q
  obtain ⟨cq2, kq2, qa2, qb2, qc2⟩ := isOf hZ e1 K.2.2.2.1
  obtain ⟨_, _, ⟨T2, L2, k2, n2⟩, -, X2, ⟨Lc2, hQ2, l2, y2, z2⟩, st2⟩ := X1.virtualBack hx (y := (⟨"com/example/licon/licon/search/Operator", "takes", "(I)Z"⟩ : MethodName)) (z := (⟨"com/example/licon/licon/search/Operator", "takes", "(I)Z"⟩ : MethodName)) hown (mvT hZ (hw _ (List.mem_of_getElem? (i := 7) rfl))) (mvT hZ (hw _ (List.mem_of_getElem? (i := 8) rfl))) (notFace_of_selects (args := #[]) (mvT hZ (hw _ (List.mem_of_getElem? (i := 10) rfl)))) (mvT hZ (hw _ (List.mem_of_getElem? (i := 10) rfl))) (mvT hZ (hw _ (List.mem_of_getElem? (i := 9) rfl))) (by decide) (backOf (W := 0) (rm_takes_19 l Z a0 hw w h0 n0 Z0 K u0 u1 u2 hf7 hf8) hZ (hw _ (List.mem_of_getElem? (i := 11) rfl)) (hw _ (List.mem_of_getElem? (i := 5) rfl)) (by decide) (by decide)) qa2 qc2 (g := (mkF m 84 #[.val (.int u0), .val (.int u1), .val (.int u2), .val (.int (1 : Int32)), .val (.int u1), .val (.ref (w 1)), .val (.int (0 : Int32))] [(.int u1), (.ref (w 1))])) rfl (by rw [hml]; rfl) (Steps.refl _) (argsL := [(.int u1)]) (rest := []) (lenOf pd_28I29Z rfl) rfl (by show 2 * 0 + _ ≤ _; exact Nat.le_of_eq rfl) (hb hby at_84) (fun _ _ => ⟨rfl, e1, (by decide : 0 + 0 ≤ _), (by decide : 0 + 0 ≤ _)⟩)
  dsimp only [Pt.U, Pt.locs, Pt.cells, Pt.slots] at X2 l2 y2 z2 st2 hQ2
  subst l2 y2 z2
  obtain ⟨rfl, N2q, e2⟩ := hQ2
  have N2 := Fr.app N1 N2q
  obtain ⟨fs, hr, hrun, hended, hW, hsame⟩ := X2.leave (v := (some (.int (1 : Int32)))) (fun h => by rw [Bd.returns] at h; cases h)
  refine ⟨_, _, pre0 _ ?_, hrun, hended, _, _, rfl, ?_, ⟨_, rfl⟩, hW, hsame.mono (by decide) (by decide)⟩
  · show Steps p.tables e below (s₁.setTop (mkF m 0 #[.val (.int u0), .val (.int u1), .val (.int u2), .unset, .unset, .unset, .unset] [])) _
    refine XS.iloadN X0.here hx rfl (hb hby at_0) rfl ?_
    refine XS.bipush X0.here hx rfl (hb hby at_1) ?_
    refine XS.iand X0.here hx rfl (hb hby at_3) rfl ?_
    show Steps p.tables e below (s₁.setTop (mkF m 4 #[.val (.int u0), .val (.int u1), .val (.int u2), .unset, .unset, .unset, .unset] [(.int (u0 &&& (7 : Int32)))])) _
    rw [hk0]
    show Steps p.tables e below (s₁.setTop (mkF m 4 #[.val (.int u0), .val (.int u1), .val (.int u2), .unset, .unset, .unset, .unset] [(.int (1 : Int32))])) _
    refine XS.istoreN X0.here hx rfl (hb hby at_4) rfl (l' := #[.val (.int u0), .val (.int u1), .val (.int u2), .val (.int (1 : Int32)), .unset, .unset, .unset]) rfl ?_
    refine XS.iloadN X0.here hx rfl (hb hby at_5) rfl ?_
    refine XS.iconst X0.here hx rfl (hb hby at_6) ?_
    refine XS.iand X0.here hx rfl (hb hby at_7) rfl ?_
    show Steps p.tables e below (s₁.setTop (mkF m 8 #[.val (.int u0), .val (.int u1), .val (.int u2), .val (.int (1 : Int32)), .unset, .unset, .unset] [(.int (u2 &&& (1 : Int32)))])) _
    refine XS.ifYes X0.here hx rfl (pc0 := 8) (pc' := 17) rfl (hb hby at_8) rfl ((if0 _ _).trans (teq hf6).1) (by decide) (by decide) ?_
    refine XS.iloadN X0.here hx rfl (hb hby at_17) rfl ?_
    refine XS.istore X0.here hx rfl (hb hby at_18) rfl (l' := #[.val (.int u0), .val (.int u1), .val (.int u2), .val (.int (1 : Int32)), .val (.int u1), .unset, .unset]) rfl ?_
    refine XS.iloadN X0.here hx rfl (hb hby at_20) rfl ?_
    show Steps p.tables e below (s₁.setTop (mkF m 21 #[.val (.int u0), .val (.int u1), .val (.int u2), .val (.int (1 : Int32)), .val (.int u1), .unset, .unset] [(.int (1 : Int32))])) _
    refine st1 _ ?_
    refine XS.astore X1.here hx rfl (hb hby at_24) rfl rfl (l' := #[.val (.int u0), .val (.int u1), .val (.int u2), .val (.int (1 : Int32)), .val (.int u1), .val (.ref (w 1)), .unset]) rfl ?_
    refine XS.iloadN X1.here hx rfl (hb hby at_26) rfl ?_
    refine XS.iconst X1.here hx rfl (hb hby at_27) ?_
    show Steps p.tables e below (T1.setTop (mkF m 28 #[.val (.int u0), .val (.int u1), .val (.int u2), .val (.int (1 : Int32)), .val (.int u1), .val (.ref (w 1)), .unset] [(.int (4 : Int32)), (.int (1 : Int32))])) _
    refine XS.icmpNo X1.here hx rfl (hb hby at_28) rfl (tlt (by decide : (1 : Int32) < (4 : Int32))).2.1 ?_
    refine XS.iload X1.here hx rfl (hb hby at_31) rfl ?_
    refine XS.iconst X1.here hx rfl (hb hby at_33) ?_
    refine XS.icmpYes X1.here hx rfl (pc0 := 34) (pc' := 41) rfl (hb hby at_34) rfl (feq hf7).2 (by decide) (by decide) ?_
    show Steps p.tables e below (T1.setTop (mkF m 41 #[.val (.int u0), .val (.int u1), .val (.int u2), .val (.int (1 : Int32)), .val (.int u1), .val (.ref (w 1)), .unset] [])) _
    refine XS.iconst X1.here hx rfl (hb hby at_41) ?_
    refine XS.istore X1.here hx rfl (hb hby at_42) rfl (l' := #[.val (.int u0), .val (.int u1), .val (.int u2), .val (.int (1 : Int32)), .val (.int u1), .val (.ref (w 1)), .val (.int (0 : Int32))]) rfl ?_
    refine XS.goto X1.here hx rfl (pc0 := 44) (pc' := 80) rfl (hb hby at_44) (by decide) (by decide) ?_
    refine XS.aload X1.here hx rfl (hb hby at_80) rfl rfl ?_
    show Steps p.tables e below (T1.setTop (mkF m 82 #[.val (.int u0), .val (.int u1), .val (.int u2), .val (.int (1 : Int32)), .val (.int u1), .val (.ref (w 1)), .val (.int (0 : Int32))] [(.ref (w 1))])) _
    refine XS.iload X1.here hx rfl (hb hby at_82) rfl ?_
    refine st2.trans ?_
    refine XS.iload X2.here hx rfl (hb hby at_87) rfl ?_
    refine XS.icmpNo X2.here hx rfl (hb hby at_89) rfl (teq (by decide : (0 : Int32) = (0 : Int32))).2 ?_
    show Steps p.tables e below (T2.setTop (mkF m 92 #[.val (.int u0), .val (.int u1), .val (.int u2), .val (.int (1 : Int32)), .val (.int u1), .val (.ref (w 1)), .val (.int (0 : Int32))] [])) _
    refine XS.iconst X2.here hx rfl (hb hby at_92) ?_
    refine XS.goto X2.here hx rfl (pc0 := 93) (pc' := 97) rfl (hb hby at_93) (by decide) (by decide) ?_
    show Steps p.tables e below (T2.setTop (mkF m 97 #[.val (.int u0), .val (.int u1), .val (.int u2), .val (.int (1 : Int32)), .val (.int u1), .val (.ref (w 1)), .val (.int (0 : Int32))] [(.int (1 : Int32))])) _
    exact retN X2 hx (t := .boolean) Bd.returns (by simp) (hb hby at_97) hr
  · exact ⟨rfl, N2, e2⟩
set_option maxRecDepth 65536 in
set_option maxHeartbeats 40000000 in
theorem rm_takes_21 (l : Launch) (Z : State) (a0 : Array Value) (hw : ∀ d ∈ tables_1, d.before a0 Z = true) (w : Nat → Addr) (h0 : Heap) (n0 : Nat) (Z0 : n0 ≤ h0.size) (K : Kon Z h0 w) (u0 u1 u2 : Int32) (hf9 : (u1 % (4 : Int32)) = (1 : Int32)) :
    OM l Z (⟨"com/example/licon/licon/search/Operator", "takes", "(I)Z"⟩ : MethodName) prog_9_method_4_code 2 (some .boolean) [] ({ frames := 0, cells := 0, slots := 0, locals := 0 } : Room) #[(.ref (w 1)), (.int (u1 % (4 : Int32)))] h0 (OP (some (.int (1 : Int32))) n0 h0) := by
  refine MetFree.of_bodySF (plainFor_of_name pn_com_example_licon_licon_search_Operator) hisR ?_
  intro p e s m args below meth c s₁ Bd hml0 hP hK
  obtain ⟨rfl, hZ, hh⟩ := hP
  have hx := Bd.exec
  have hby := Bd.bytes
  have hml : c.maxLocals = 2 := hml0
  have hown : s.vm.findClass "com/example/licon/licon/search/Operator" = some m.cls := findClass_of_methodNamed Bd.named
  have X0 : Stand p l e ({ frames := 0, cells := 0, slots := 0, locals := 0 } : Room) s m #[(.ref (w 1)), (.int (u1 % (4 : Int32)))] below meth c s₁ [] 0 0 := Stand.of_body Bd
  have e0 : s₁.heap = h0 := by rw [← hh, Bd.state]; rfl
  have N0 := Fr.nil n0
  have pre0 : ∀ t, Steps p.tables e below (s₁.setTop (mkF m 0 #[.val (.ref (w 1)), .val (.int (u1 % (4 : Int32)))] [])) t → Steps p.tables e below (s₁.setTop (entryFrame m #[(.ref (w 1)), (.int (u1 % (4 : Int32)))] 2)) t := fun t k => castTop (by first | rfl | simp [entryFrame, mkF, argsToLocals, Value.category]) k
  obtain ⟨T1, X1, e1, st1⟩ := getF X0 hx hZ hown (host := "") (Or.inl (hw _ (List.mem_of_getElem? (i := 12) rfl))) Via.refl e0 K.2.2.2.2.2.2.2.2.2.2.2.2.2.2.2.2.2.2.1 (g := (mkF m 2 #[.val (.ref (w 1)), .val (.int (u1 % (4 : Int32)))] [(.ref (w 1)), (.int (u1 % (4 : Int32)))])) rfl rfl (hb hby d_prog_9_method_4_code_2)
  obtain ⟨T2, X2, e2, st2⟩ := getF X1 hx hZ hown (host := "") (Or.inl (hw _ (List.mem_of_getElem? (i := 14) rfl))) Via.refl e1 K.2.2.2.2.2.2.2.2.2.2.2.2.2.2.2.2.2.2.2.2.2.2.2.2.2.2.2.1 (g := (mkF m 10 #[.val (.ref (w 1)), .val (.int (u1 % (4 : Int32)))] [(.ref (w 1)), (.int (u1 % (4 : Int32)))])) rfl rfl (hb hby d_prog_9_method_4_code_10)
  obtain ⟨fs, hr, hrun, hended, hW, hsame⟩ := X2.leave (v := (some (.int (1 : Int32)))) (fun h => by rw [Bd.returns] at h; cases h)
  refine ⟨_, _, pre0 _ ?_, hrun, hended, _, _, rfl, ?_, ⟨_, rfl⟩, hW, hsame.mono (by decide) (by decide)⟩
  · show Steps p.tables e below (s₁.setTop (mkF m 0 #[.val (.ref (w 1)), .val (.int (u1 % (4 : Int32)))] [])) _
    refine XS.iloadN X0.here hx rfl (hb hby d_prog_9_method_4_code_0) rfl ?_
    refine XS.aloadN X0.here hx rfl (hb hby d_prog_9_method_4_code_1) rfl rfl ?_
    refine st1 _ ?_
    refine XS.icmpNo X1.here hx rfl (hb hby d_prog_9_method_4_code_5) rfl (flt (by have z0 := congrArg Int32.toInt hf9; have l0 : (1 : Int32).toInt = 1 := rfl; have r0 := rng32 (u1 % (4 : Int32)); exact fun hh => absurd (Int32.lt_iff_toInt_lt.mp hh) (by omega) : ¬ ((u1 % (4 : Int32)) < (1 : Int32)))).1 ?_
    show Steps p.tables e below (T1.setTop (mkF m 8 #[.val (.ref (w 1)), .val (.int (u1 % (4 : Int32)))] [])) _
    refine XS.iloadN X1.here hx rfl (hb hby d_prog_9_method_4_code_8) rfl ?_
    refine XS.aloadN X1.here hx rfl (hb hby d_prog_9_method_4_code_9) rfl rfl ?_
    refine st2 _ ?_
    refine XS.icmpNo X2.here hx rfl (hb hby d_prog_9_method_4_code_13) rfl (flt (by have z0 := congrArg Int32.toInt hf9; have l0 : (1 : Int32).toInt = 1 := rfl; have r0 := rng32 (u1 % (4 : Int32)); exact fun hh => absurd (Int32.lt_iff_toInt_lt.mp hh) (by omega) : ¬ ((1 : Int32) < (u1 % (4 : Int32))))).2.2.1 ?_
    show Steps p.tables e below (T2.setTop (mkF m 16 #[.val (.ref (w 1)), .val (.int (u1 % (4 : Int32)))] [])) _
    refine XS.iconst X2.here hx rfl (hb hby d_prog_9_method_4_code_16) ?_
    refine XS.goto X2.here hx rfl (pc0 := 17) (pc' := 21) rfl (hb hby d_prog_9_method_4_code_17) (by decide) (by decide) ?_
    show Steps p.tables e below (T2.setTop (mkF m 21 #[.val (.ref (w 1)), .val (.int (u1 % (4 : Int32)))] [(.int (1 : Int32))])) _
    exact retN X2 hx (t := .boolean) Bd.returns (by simp) (hb hby d_prog_9_method_4_code_21) hr
  · exact ⟨rfl, N0, e2⟩
set_option maxRecDepth 65536 in
set_option maxHeartbeats 40000000 in
theorem rm0_22 (l : Launch) (Z : State) (a0 : Array Value) (hw : ∀ d ∈ tables_1, d.before a0 Z = true) (w : Nat → Addr) (h0 : Heap) (n0 : Nat) (Z0 : n0 ≤ h0.size) (K : Kon Z h0 w) (u0 u1 u2 : Int32) (hf6 : ¬ ((u2 &&& (1 : Int32)) = (0 : Int32))) (hf9 : (u1 % (4 : Int32)) = (1 : Int32)) (hk0 : (u0 &&& (7 : Int32)) = (1 : Int32)) :
    OM l Z x code maxLocals ret tables_1 room_1 #[(.int u0), (.int u1), (.int u2)] h0 (OP (some (.int (1 : Int32))) n0 h0) := by
  refine MetFree.of_bodySF (plainFor_of_name pn_com_example_licon_licon_search_OperatorTakesPinLaw) hisR ?_
  intro p e s m args below meth c s₁ Bd hml0 hP hK
  obtain ⟨rfl, hZ, hh⟩ := hP
  have hx := Bd.exec
  have hby := Bd.bytes
  have hml : c.maxLocals = 7 := hml0
  have hown : s.vm.findClass "com/example/licon/licon/search/OperatorTakesPinLaw" = some m.cls := findClass_of_methodNamed Bd.named
  have X0 : Stand p l e room_1 s m #[(.int u0), (.int u1), (.int u2)] below meth c s₁ [] 0 0 := Stand.of_body Bd
  have e0 : s₁.heap = h0 := by rw [← hh, Bd.state]; rfl
  have N0 := Fr.nil n0
  have pre0 : ∀ t, Steps p.tables e below (s₁.setTop (mkF m 0 #[.val (.int u0), .val (.int u1), .val (.int u2), .unset, .unset, .unset, .unset] [])) t → Steps p.tables e below (s₁.setTop (entryFrame m #[(.int u0), (.int u1), (.int u2)] maxLocals)) t := fun t k => castTop (by first | rfl | simp [entryFrame, mkF, argsToLocals, Value.category, maxLocals]) k
  obtain ⟨_, _, ⟨T1, L1, k1, n1⟩, -, X1, ⟨Lc1, hQ1, l1, y1, z1⟩, st1⟩ := Jvm.LawKit.callS X0 hx (y := (⟨"com/example/licon/licon/search/OperatorTakesPinLaw", "pick", "(I)Lcom/example/licon/licon/search/Operator;"⟩ : MethodName)) hown (mvT hZ (hw _ (List.mem_of_getElem? (i := 0) rfl))) (mvT hZ (hw _ (List.mem_of_getElem? (i := 1) rfl))) (mvT hZ (hw _ (List.mem_of_getElem? (i := 2) rfl))) (mvT hZ (hw _ (List.mem_of_getElem? (i := 3) rfl))) (by decide) (backOf (W := 0) (rm_pick_14 l Z a0 hw w h0 n0 Z0 K u0 u1 u2) hZ (hw _ (List.mem_of_getElem? (i := 3) rfl)) (hw _ (List.mem_of_getElem? (i := 2) rfl)) (by decide) (by decide)) (g := (mkF m 21 #[.val (.int u0), .val (.int u1), .val (.int u2), .val (.int (1 : Int32)), .val (.int (u1 % (4 : Int32))), .unset, .unset] [(.int (1 : Int32))])) rfl (by rw [hml]; rfl) (argsL := [(.int (1 : Int32))]) (rest := []) (lenOf pd_28I29Lcom2fexample2flicon2flicon2fsearch2fOperator3b rfl) rfl (by show 2 * 0 + _ ≤ _; exact Nat.le_of_eq rfl) (hb hby at_21) (fun _ _ => ⟨rfl, e0, (by decide : 0 + 0 ≤ _), (by decide : 0 + 0 ≤ _)⟩)
  dsimp only [Pt.U, Pt.locs, Pt.cells, Pt.slots] at X1 l1 y1 z1 st1 hQ1
  subst l1 y1 z1
  obtain ⟨rfl, N1q, e1⟩ := hQ1
  have N1 := Fr.app N0 N1q
  obtain ⟨cq2, kq2, qa2, qb2, qc2⟩ := isOf hZ e1 K.2.2.2.1
  obtain ⟨_, _, ⟨T2, L2, k2, n2⟩, -, X2, ⟨Lc2, hQ2, l2, y2, z2⟩, st2⟩ := X1.virtualBack hx (y := (⟨"com/example/licon/licon/search/Operator", "takes", "(I)Z"⟩ : MethodName)) (z := (⟨"com/example/licon/licon/search/Operator", "takes", "(I)Z"⟩ : MethodName)) hown (mvT hZ (hw _ (List.mem_of_getElem? (i := 7) rfl))) (mvT hZ (hw _ (List.mem_of_getElem? (i := 8) rfl))) (notFace_of_selects (args := #[]) (mvT hZ (hw _ (List.mem_of_getElem? (i := 10) rfl)))) (mvT hZ (hw _ (List.mem_of_getElem? (i := 10) rfl))) (mvT hZ (hw _ (List.mem_of_getElem? (i := 9) rfl))) (by decide) (backOf (W := 0) (rm_takes_21 l Z a0 hw w h0 n0 Z0 K u0 u1 u2 hf9) hZ (hw _ (List.mem_of_getElem? (i := 11) rfl)) (hw _ (List.mem_of_getElem? (i := 5) rfl)) (by decide) (by decide)) qa2 qc2 (g := (mkF m 84 #[.val (.int u0), .val (.int u1), .val (.int u2), .val (.int (1 : Int32)), .val (.int (u1 % (4 : Int32))), .val (.ref (w 1)), .val (.int (1 : Int32))] [(.int (u1 % (4 : Int32))), (.ref (w 1))])) rfl (by rw [hml]; rfl) (Steps.refl _) (argsL := [(.int (u1 % (4 : Int32)))]) (rest := []) (lenOf pd_28I29Z rfl) rfl (by show 2 * 0 + _ ≤ _; exact Nat.le_of_eq rfl) (hb hby at_84) (fun _ _ => ⟨rfl, e1, (by decide : 0 + 0 ≤ _), (by decide : 0 + 0 ≤ _)⟩)
  dsimp only [Pt.U, Pt.locs, Pt.cells, Pt.slots] at X2 l2 y2 z2 st2 hQ2
  subst l2 y2 z2
  obtain ⟨rfl, N2q, e2⟩ := hQ2
  have N2 := Fr.app N1 N2q
  obtain ⟨fs, hr, hrun, hended, hW, hsame⟩ := X2.leave (v := (some (.int (1 : Int32)))) (fun h => by rw [Bd.returns] at h; cases h)
  refine ⟨_, _, pre0 _ ?_, hrun, hended, _, _, rfl, ?_, ⟨_, rfl⟩, hW, hsame.mono (by decide) (by decide)⟩
  · show Steps p.tables e below (s₁.setTop (mkF m 0 #[.val (.int u0), .val (.int u1), .val (.int u2), .unset, .unset, .unset, .unset] [])) _
    refine XS.iloadN X0.here hx rfl (hb hby at_0) rfl ?_
    refine XS.bipush X0.here hx rfl (hb hby at_1) ?_
    refine XS.iand X0.here hx rfl (hb hby at_3) rfl ?_
    show Steps p.tables e below (s₁.setTop (mkF m 4 #[.val (.int u0), .val (.int u1), .val (.int u2), .unset, .unset, .unset, .unset] [(.int (u0 &&& (7 : Int32)))])) _
    rw [hk0]
    show Steps p.tables e below (s₁.setTop (mkF m 4 #[.val (.int u0), .val (.int u1), .val (.int u2), .unset, .unset, .unset, .unset] [(.int (1 : Int32))])) _
    refine XS.istoreN X0.here hx rfl (hb hby at_4) rfl (l' := #[.val (.int u0), .val (.int u1), .val (.int u2), .val (.int (1 : Int32)), .unset, .unset, .unset]) rfl ?_
    refine XS.iloadN X0.here hx rfl (hb hby at_5) rfl ?_
    refine XS.iconst X0.here hx rfl (hb hby at_6) ?_
    refine XS.iand X0.here hx rfl (hb hby at_7) rfl ?_
    show Steps p.tables e below (s₁.setTop (mkF m 8 #[.val (.int u0), .val (.int u1), .val (.int u2), .val (.int (1 : Int32)), .unset, .unset, .unset] [(.int (u2 &&& (1 : Int32)))])) _
    refine XS.ifNo X0.here hx rfl (hb hby at_8) rfl ((if0 _ _).trans (feq hf6).1) ?_
    refine XS.iloadN X0.here hx rfl (hb hby at_11) rfl ?_
    refine XS.iconst X0.here hx rfl (hb hby at_12) ?_
    refine iremM X0 hx rfl (hb hby at_13) rfl (by decide : ¬ ((4 : Int32) = (0 : Int32))) ?_
    show Steps p.tables e below (s₁.setTop (mkF m 14 #[.val (.int u0), .val (.int u1), .val (.int u2), .val (.int (1 : Int32)), .unset, .unset, .unset] [(.int (u1 % (4 : Int32)))])) _
    refine XS.goto X0.here hx rfl (pc0 := 14) (pc' := 18) rfl (hb hby at_14) (by decide) (by decide) ?_
    refine XS.istore X0.here hx rfl (hb hby at_18) rfl (l' := #[.val (.int u0), .val (.int u1), .val (.int u2), .val (.int (1 : Int32)), .val (.int (u1 % (4 : Int32))), .unset, .unset]) rfl ?_
    refine XS.iloadN X0.here hx rfl (hb hby at_20) rfl ?_
    refine st1 _ ?_
    show Steps p.tables e below (T1.setTop (mkF m 24 #[.val (.int u0), .val (.int u1), .val (.int u2), .val (.int (1 : Int32)), .val (.int (u1 % (4 : Int32))), .unset, .unset] [(.ref (w 1))])) _
    refine XS.astore X1.here hx rfl (hb hby at_24) rfl rfl (l' := #[.val (.int u0), .val (.int u1), .val (.int u2), .val (.int (1 : Int32)), .val (.int (u1 % (4 : Int32))), .val (.ref (w 1)), .unset]) rfl ?_
    refine XS.iloadN X1.here hx rfl (hb hby at_26) rfl ?_
    refine XS.iconst X1.here hx rfl (hb hby at_27) ?_
    refine XS.icmpNo X1.here hx rfl (hb hby at_28) rfl (tlt (by decide : (1 : Int32) < (4 : Int32))).2.1 ?_
    show Steps p.tables e below (T1.setTop (mkF m 31 #[.val (.int u0), .val (.int u1), .val (.int u2), .val (.int (1 : Int32)), .val (.int (u1 % (4 : Int32))), .val (.ref (w 1)), .unset] [])) _
    refine XS.iload X1.here hx rfl (hb hby at_31) rfl ?_
    refine XS.iconst X1.here hx rfl (hb hby at_33) ?_
    refine XS.icmpNo X1.here hx rfl (hb hby at_34) rfl (teq hf9).2 ?_
    refine XS.iconst X1.here hx rfl (hb hby at_37) ?_
    show Steps p.tables e below (T1.setTop (mkF m 38 #[.val (.int u0), .val (.int u1), .val (.int u2), .val (.int (1 : Int32)), .val (.int (u1 % (4 : Int32))), .val (.ref (w 1)), .unset] [(.int (1 : Int32))])) _
    refine XS.goto X1.here hx rfl (pc0 := 38) (pc' := 42) rfl (hb hby at_38) (by decide) (by decide) ?_
    refine XS.istore X1.here hx rfl (hb hby at_42) rfl (l' := #[.val (.int u0), .val (.int u1), .val (.int u2), .val (.int (1 : Int32)), .val (.int (u1 % (4 : Int32))), .val (.ref (w 1)), .val (.int (1 : Int32))]) rfl ?_
    refine XS.goto X1.here hx rfl (pc0 := 44) (pc' := 80) rfl (hb hby at_44) (by decide) (by decide) ?_
    refine XS.aload X1.here hx rfl (hb hby at_80) rfl rfl ?_
    show Steps p.tables e below (T1.setTop (mkF m 82 #[.val (.int u0), .val (.int u1), .val (.int u2), .val (.int (1 : Int32)), .val (.int (u1 % (4 : Int32))), .val (.ref (w 1)), .val (.int (1 : Int32))] [(.ref (w 1))])) _
    refine XS.iload X1.here hx rfl (hb hby at_82) rfl ?_
    refine st2.trans ?_
    refine XS.iload X2.here hx rfl (hb hby at_87) rfl ?_
    refine XS.icmpNo X2.here hx rfl (hb hby at_89) rfl (teq (by decide : (1 : Int32) = (1 : Int32))).2 ?_
    show Steps p.tables e below (T2.setTop (mkF m 92 #[.val (.int u0), .val (.int u1), .val (.int u2), .val (.int (1 : Int32)), .val (.int (u1 % (4 : Int32))), .val (.ref (w 1)), .val (.int (1 : Int32))] [])) _
    refine XS.iconst X2.here hx rfl (hb hby at_92) ?_
    refine XS.goto X2.here hx rfl (pc0 := 93) (pc' := 97) rfl (hb hby at_93) (by decide) (by decide) ?_
    show Steps p.tables e below (T2.setTop (mkF m 97 #[.val (.int u0), .val (.int u1), .val (.int u2), .val (.int (1 : Int32)), .val (.int (u1 % (4 : Int32))), .val (.ref (w 1)), .val (.int (1 : Int32))] [(.int (1 : Int32))])) _
    exact retN X2 hx (t := .boolean) Bd.returns (by simp) (hb hby at_97) hr
  · exact ⟨rfl, N2, e2⟩
set_option maxRecDepth 65536 in
set_option maxHeartbeats 40000000 in
theorem rm_takes_23 (l : Launch) (Z : State) (a0 : Array Value) (hw : ∀ d ∈ tables_1, d.before a0 Z = true) (w : Nat → Addr) (h0 : Heap) (n0 : Nat) (Z0 : n0 ≤ h0.size) (K : Kon Z h0 w) (u0 u1 u2 : Int32) (hf10 : (u1 % (4 : Int32)) < (1 : Int32)) :
    OM l Z (⟨"com/example/licon/licon/search/Operator", "takes", "(I)Z"⟩ : MethodName) prog_9_method_4_code 2 (some .boolean) [] ({ frames := 0, cells := 0, slots := 0, locals := 0 } : Room) #[(.ref (w 1)), (.int (u1 % (4 : Int32)))] h0 (OP (some (.int (0 : Int32))) n0 h0) := by
  refine MetFree.of_bodySF (plainFor_of_name pn_com_example_licon_licon_search_Operator) hisR ?_
  intro p e s m args below meth c s₁ Bd hml0 hP hK
  obtain ⟨rfl, hZ, hh⟩ := hP
  have hx := Bd.exec
  have hby := Bd.bytes
  have hml : c.maxLocals = 2 := hml0
  have hown : s.vm.findClass "com/example/licon/licon/search/Operator" = some m.cls := findClass_of_methodNamed Bd.named
  have X0 : Stand p l e ({ frames := 0, cells := 0, slots := 0, locals := 0 } : Room) s m #[(.ref (w 1)), (.int (u1 % (4 : Int32)))] below meth c s₁ [] 0 0 := Stand.of_body Bd
  have e0 : s₁.heap = h0 := by rw [← hh, Bd.state]; rfl
  have N0 := Fr.nil n0
  have pre0 : ∀ t, Steps p.tables e below (s₁.setTop (mkF m 0 #[.val (.ref (w 1)), .val (.int (u1 % (4 : Int32)))] [])) t → Steps p.tables e below (s₁.setTop (entryFrame m #[(.ref (w 1)), (.int (u1 % (4 : Int32)))] 2)) t := fun t k => castTop (by first | rfl | simp [entryFrame, mkF, argsToLocals, Value.category]) k
  obtain ⟨T1, X1, e1, st1⟩ := getF X0 hx hZ hown (host := "") (Or.inl (hw _ (List.mem_of_getElem? (i := 12) rfl))) Via.refl e0 K.2.2.2.2.2.2.2.2.2.2.2.2.2.2.2.2.2.2.1 (g := (mkF m 2 #[.val (.ref (w 1)), .val (.int (u1 % (4 : Int32)))] [(.ref (w 1)), (.int (u1 % (4 : Int32)))])) rfl rfl (hb hby d_prog_9_method_4_code_2)
  obtain ⟨fs, hr, hrun, hended, hW, hsame⟩ := X1.leave (v := (some (.int (0 : Int32)))) (fun h => by rw [Bd.returns] at h; cases h)
  refine ⟨_, _, pre0 _ ?_, hrun, hended, _, _, rfl, ?_, ⟨_, rfl⟩, hW, hsame.mono (by decide) (by decide)⟩
  · show Steps p.tables e below (s₁.setTop (mkF m 0 #[.val (.ref (w 1)), .val (.int (u1 % (4 : Int32)))] [])) _
    refine XS.iloadN X0.here hx rfl (hb hby d_prog_9_method_4_code_0) rfl ?_
    refine XS.aloadN X0.here hx rfl (hb hby d_prog_9_method_4_code_1) rfl rfl ?_
    refine st1 _ ?_
    refine XS.icmpYes X1.here hx rfl (pc0 := 5) (pc' := 20) rfl (hb hby d_prog_9_method_4_code_5) rfl (tlt hf10).1 (by decide) (by decide) ?_
    show Steps p.tables e below (T1.setTop (mkF m 20 #[.val (.ref (w 1)), .val (.int (u1 % (4 : Int32)))] [])) _
    refine XS.iconst X1.here hx rfl (hb hby d_prog_9_method_4_code_20) ?_
    show Steps p.tables e below (T1.setTop (mkF m 21 #[.val (.ref (w 1)), .val (.int (u1 % (4 : Int32)))] [(.int (0 : Int32))])) _
    exact retN X1 hx (t := .boolean) Bd.returns (by simp) (hb hby d_prog_9_method_4_code_21) hr
  · exact ⟨rfl, N0, e1⟩
set_option maxRecDepth 65536 in
set_option maxHeartbeats 40000000 in
theorem rm0_24 (l : Launch) (Z : State) (a0 : Array Value) (hw : ∀ d ∈ tables_1, d.before a0 Z = true) (w : Nat → Addr) (h0 : Heap) (n0 : Nat) (Z0 : n0 ≤ h0.size) (K : Kon Z h0 w) (u0 u1 u2 : Int32) (hf10 : (u1 % (4 : Int32)) < (1 : Int32)) (hf6 : ¬ ((u2 &&& (1 : Int32)) = (0 : Int32))) (hf9 : ¬ ((u1 % (4 : Int32)) = (1 : Int32))) (hk0 : (u0 &&& (7 : Int32)) = (1 : Int32)) :
    OM l Z x code maxLocals ret tables_1 room_1 #[(.int u0), (.int u1), (.int u2)] h0 (OP (some (.int (1 : Int32))) n0 h0) := by
  refine MetFree.of_bodySF (plainFor_of_name pn_com_example_licon_licon_search_OperatorTakesPinLaw) hisR ?_
  intro p e s m args below meth c s₁ Bd hml0 hP hK
  obtain ⟨rfl, hZ, hh⟩ := hP
  have hx := Bd.exec
  have hby := Bd.bytes
  have hml : c.maxLocals = 7 := hml0
  have hown : s.vm.findClass "com/example/licon/licon/search/OperatorTakesPinLaw" = some m.cls := findClass_of_methodNamed Bd.named
  have X0 : Stand p l e room_1 s m #[(.int u0), (.int u1), (.int u2)] below meth c s₁ [] 0 0 := Stand.of_body Bd
  have e0 : s₁.heap = h0 := by rw [← hh, Bd.state]; rfl
  have N0 := Fr.nil n0
  have pre0 : ∀ t, Steps p.tables e below (s₁.setTop (mkF m 0 #[.val (.int u0), .val (.int u1), .val (.int u2), .unset, .unset, .unset, .unset] [])) t → Steps p.tables e below (s₁.setTop (entryFrame m #[(.int u0), (.int u1), (.int u2)] maxLocals)) t := fun t k => castTop (by first | rfl | simp [entryFrame, mkF, argsToLocals, Value.category, maxLocals]) k
  obtain ⟨_, _, ⟨T1, L1, k1, n1⟩, -, X1, ⟨Lc1, hQ1, l1, y1, z1⟩, st1⟩ := Jvm.LawKit.callS X0 hx (y := (⟨"com/example/licon/licon/search/OperatorTakesPinLaw", "pick", "(I)Lcom/example/licon/licon/search/Operator;"⟩ : MethodName)) hown (mvT hZ (hw _ (List.mem_of_getElem? (i := 0) rfl))) (mvT hZ (hw _ (List.mem_of_getElem? (i := 1) rfl))) (mvT hZ (hw _ (List.mem_of_getElem? (i := 2) rfl))) (mvT hZ (hw _ (List.mem_of_getElem? (i := 3) rfl))) (by decide) (backOf (W := 0) (rm_pick_14 l Z a0 hw w h0 n0 Z0 K u0 u1 u2) hZ (hw _ (List.mem_of_getElem? (i := 3) rfl)) (hw _ (List.mem_of_getElem? (i := 2) rfl)) (by decide) (by decide)) (g := (mkF m 21 #[.val (.int u0), .val (.int u1), .val (.int u2), .val (.int (1 : Int32)), .val (.int (u1 % (4 : Int32))), .unset, .unset] [(.int (1 : Int32))])) rfl (by rw [hml]; rfl) (argsL := [(.int (1 : Int32))]) (rest := []) (lenOf pd_28I29Lcom2fexample2flicon2flicon2fsearch2fOperator3b rfl) rfl (by show 2 * 0 + _ ≤ _; exact Nat.le_of_eq rfl) (hb hby at_21) (fun _ _ => ⟨rfl, e0, (by decide : 0 + 0 ≤ _), (by decide : 0 + 0 ≤ _)⟩)
  dsimp only [Pt.U, Pt.locs, Pt.cells, Pt.slots] at X1 l1 y1 z1 st1 hQ1
  subst l1 y1 z1
  obtain ⟨rfl, N1q, e1⟩ := hQ1
  have N1 := Fr.app N0 N1q
  obtain ⟨cq2, kq2, qa2, qb2, qc2⟩ := isOf hZ e1 K.2.2.2.1
  obtain ⟨_, _, ⟨T2, L2, k2, n2⟩, -, X2, ⟨Lc2, hQ2, l2, y2, z2⟩, st2⟩ := X1.virtualBack hx (y := (⟨"com/example/licon/licon/search/Operator", "takes", "(I)Z"⟩ : MethodName)) (z := (⟨"com/example/licon/licon/search/Operator", "takes", "(I)Z"⟩ : MethodName)) hown (mvT hZ (hw _ (List.mem_of_getElem? (i := 7) rfl))) (mvT hZ (hw _ (List.mem_of_getElem? (i := 8) rfl))) (notFace_of_selects (args := #[]) (mvT hZ (hw _ (List.mem_of_getElem? (i := 10) rfl)))) (mvT hZ (hw _ (List.mem_of_getElem? (i := 10) rfl))) (mvT hZ (hw _ (List.mem_of_getElem? (i := 9) rfl))) (by decide) (backOf (W := 0) (rm_takes_23 l Z a0 hw w h0 n0 Z0 K u0 u1 u2 hf10) hZ (hw _ (List.mem_of_getElem? (i := 11) rfl)) (hw _ (List.mem_of_getElem? (i := 5) rfl)) (by decide) (by decide)) qa2 qc2 (g := (mkF m 84 #[.val (.int u0), .val (.int u1), .val (.int u2), .val (.int (1 : Int32)), .val (.int (u1 % (4 : Int32))), .val (.ref (w 1)), .val (.int (0 : Int32))] [(.int (u1 % (4 : Int32))), (.ref (w 1))])) rfl (by rw [hml]; rfl) (Steps.refl _) (argsL := [(.int (u1 % (4 : Int32)))]) (rest := []) (lenOf pd_28I29Z rfl) rfl (by show 2 * 0 + _ ≤ _; exact Nat.le_of_eq rfl) (hb hby at_84) (fun _ _ => ⟨rfl, e1, (by decide : 0 + 0 ≤ _), (by decide : 0 + 0 ≤ _)⟩)
  dsimp only [Pt.U, Pt.locs, Pt.cells, Pt.slots] at X2 l2 y2 z2 st2 hQ2
  subst l2 y2 z2
  obtain ⟨rfl, N2q, e2⟩ := hQ2
  have N2 := Fr.app N1 N2q
  obtain ⟨fs, hr, hrun, hended, hW, hsame⟩ := X2.leave (v := (some (.int (1 : Int32)))) (fun h => by rw [Bd.returns] at h; cases h)
  refine ⟨_, _, pre0 _ ?_, hrun, hended, _, _, rfl, ?_, ⟨_, rfl⟩, hW, hsame.mono (by decide) (by decide)⟩
  · show Steps p.tables e below (s₁.setTop (mkF m 0 #[.val (.int u0), .val (.int u1), .val (.int u2), .unset, .unset, .unset, .unset] [])) _
    refine XS.iloadN X0.here hx rfl (hb hby at_0) rfl ?_
    refine XS.bipush X0.here hx rfl (hb hby at_1) ?_
    refine XS.iand X0.here hx rfl (hb hby at_3) rfl ?_
    show Steps p.tables e below (s₁.setTop (mkF m 4 #[.val (.int u0), .val (.int u1), .val (.int u2), .unset, .unset, .unset, .unset] [(.int (u0 &&& (7 : Int32)))])) _
    rw [hk0]
    show Steps p.tables e below (s₁.setTop (mkF m 4 #[.val (.int u0), .val (.int u1), .val (.int u2), .unset, .unset, .unset, .unset] [(.int (1 : Int32))])) _
    refine XS.istoreN X0.here hx rfl (hb hby at_4) rfl (l' := #[.val (.int u0), .val (.int u1), .val (.int u2), .val (.int (1 : Int32)), .unset, .unset, .unset]) rfl ?_
    refine XS.iloadN X0.here hx rfl (hb hby at_5) rfl ?_
    refine XS.iconst X0.here hx rfl (hb hby at_6) ?_
    refine XS.iand X0.here hx rfl (hb hby at_7) rfl ?_
    show Steps p.tables e below (s₁.setTop (mkF m 8 #[.val (.int u0), .val (.int u1), .val (.int u2), .val (.int (1 : Int32)), .unset, .unset, .unset] [(.int (u2 &&& (1 : Int32)))])) _
    refine XS.ifNo X0.here hx rfl (hb hby at_8) rfl ((if0 _ _).trans (feq hf6).1) ?_
    refine XS.iloadN X0.here hx rfl (hb hby at_11) rfl ?_
    refine XS.iconst X0.here hx rfl (hb hby at_12) ?_
    refine iremM X0 hx rfl (hb hby at_13) rfl (by decide : ¬ ((4 : Int32) = (0 : Int32))) ?_
    show Steps p.tables e below (s₁.setTop (mkF m 14 #[.val (.int u0), .val (.int u1), .val (.int u2), .val (.int (1 : Int32)), .unset, .unset, .unset] [(.int (u1 % (4 : Int32)))])) _
    refine XS.goto X0.here hx rfl (pc0 := 14) (pc' := 18) rfl (hb hby at_14) (by decide) (by decide) ?_
    refine XS.istore X0.here hx rfl (hb hby at_18) rfl (l' := #[.val (.int u0), .val (.int u1), .val (.int u2), .val (.int (1 : Int32)), .val (.int (u1 % (4 : Int32))), .unset, .unset]) rfl ?_
    refine XS.iloadN X0.here hx rfl (hb hby at_20) rfl ?_
    refine st1 _ ?_
    show Steps p.tables e below (T1.setTop (mkF m 24 #[.val (.int u0), .val (.int u1), .val (.int u2), .val (.int (1 : Int32)), .val (.int (u1 % (4 : Int32))), .unset, .unset] [(.ref (w 1))])) _
    refine XS.astore X1.here hx rfl (hb hby at_24) rfl rfl (l' := #[.val (.int u0), .val (.int u1), .val (.int u2), .val (.int (1 : Int32)), .val (.int (u1 % (4 : Int32))), .val (.ref (w 1)), .unset]) rfl ?_
    refine XS.iloadN X1.here hx rfl (hb hby at_26) rfl ?_
    refine XS.iconst X1.here hx rfl (hb hby at_27) ?_
    refine XS.icmpNo X1.here hx rfl (hb hby at_28) rfl (tlt (by decide : (1 : Int32) < (4 : Int32))).2.1 ?_
    show Steps p.tables e below (T1.setTop (mkF m 31 #[.val (.int u0), .val (.int u1), .val (.int u2), .val (.int (1 : Int32)), .val (.int (u1 % (4 : Int32))), .val (.ref (w 1)), .unset] [])) _
    refine XS.iload X1.here hx rfl (hb hby at_31) rfl ?_
    refine XS.iconst X1.here hx rfl (hb hby at_33) ?_
    refine XS.icmpYes X1.here hx rfl (pc0 := 34) (pc' := 41) rfl (hb hby at_34) rfl (feq hf9).2 (by decide) (by decide) ?_
    refine XS.iconst X1.here hx rfl (hb hby at_41) ?_
    show Steps p.tables e below (T1.setTop (mkF m 42 #[.val (.int u0), .val (.int u1), .val (.int u2), .val (.int (1 : Int32)), .val (.int (u1 % (4 : Int32))), .val (.ref (w 1)), .unset] [(.int (0 : Int32))])) _
    refine XS.istore X1.here hx rfl (hb hby at_42) rfl (l' := #[.val (.int u0), .val (.int u1), .val (.int u2), .val (.int (1 : Int32)), .val (.int (u1 % (4 : Int32))), .val (.ref (w 1)), .val (.int (0 : Int32))]) rfl ?_
    refine XS.goto X1.here hx rfl (pc0 := 44) (pc' := 80) rfl (hb hby at_44) (by decide) (by decide) ?_
    refine XS.aload X1.here hx rfl (hb hby at_80) rfl rfl ?_
    refine XS.iload X1.here hx rfl (hb hby at_82) rfl ?_
    show Steps p.tables e below (T1.setTop (mkF m 84 #[.val (.int u0), .val (.int u1), .val (.int u2), .val (.int (1 : Int32)), .val (.int (u1 % (4 : Int32))), .val (.ref (w 1)), .val (.int (0 : Int32))] [(.int (u1 % (4 : Int32))), (.ref (w 1))])) _
    refine st2.trans ?_
    refine XS.iload X2.here hx rfl (hb hby at_87) rfl ?_
    refine XS.icmpNo X2.here hx rfl (hb hby at_89) rfl (teq (by decide : (0 : Int32) = (0 : Int32))).2 ?_
    refine XS.iconst X2.here hx rfl (hb hby at_92) ?_
    show Steps p.tables e below (T2.setTop (mkF m 93 #[.val (.int u0), .val (.int u1), .val (.int u2), .val (.int (1 : Int32)), .val (.int (u1 % (4 : Int32))), .val (.ref (w 1)), .val (.int (0 : Int32))] [(.int (1 : Int32))])) _
    refine XS.goto X2.here hx rfl (pc0 := 93) (pc' := 97) rfl (hb hby at_93) (by decide) (by decide) ?_
    show Steps p.tables e below (T2.setTop (mkF m 97 #[.val (.int u0), .val (.int u1), .val (.int u2), .val (.int (1 : Int32)), .val (.int (u1 % (4 : Int32))), .val (.ref (w 1)), .val (.int (0 : Int32))] [(.int (1 : Int32))])) _
    exact retN X2 hx (t := .boolean) Bd.returns (by simp) (hb hby at_97) hr
  · exact ⟨rfl, N2, e2⟩
set_option maxRecDepth 65536 in
set_option maxHeartbeats 40000000 in
theorem rm_takes_25 (l : Launch) (Z : State) (a0 : Array Value) (hw : ∀ d ∈ tables_1, d.before a0 Z = true) (w : Nat → Addr) (h0 : Heap) (n0 : Nat) (Z0 : n0 ≤ h0.size) (K : Kon Z h0 w) (u0 u1 u2 : Int32) (hf10 : ¬ ((u1 % (4 : Int32)) < (1 : Int32))) (hf9 : ¬ ((u1 % (4 : Int32)) = (1 : Int32))) :
    OM l Z (⟨"com/example/licon/licon/search/Operator", "takes", "(I)Z"⟩ : MethodName) prog_9_method_4_code 2 (some .boolean) [] ({ frames := 0, cells := 0, slots := 0, locals := 0 } : Room) #[(.ref (w 1)), (.int (u1 % (4 : Int32)))] h0 (OP (some (.int (0 : Int32))) n0 h0) := by
  refine MetFree.of_bodySF (plainFor_of_name pn_com_example_licon_licon_search_Operator) hisR ?_
  intro p e s m args below meth c s₁ Bd hml0 hP hK
  obtain ⟨rfl, hZ, hh⟩ := hP
  have hx := Bd.exec
  have hby := Bd.bytes
  have hml : c.maxLocals = 2 := hml0
  have hown : s.vm.findClass "com/example/licon/licon/search/Operator" = some m.cls := findClass_of_methodNamed Bd.named
  have X0 : Stand p l e ({ frames := 0, cells := 0, slots := 0, locals := 0 } : Room) s m #[(.ref (w 1)), (.int (u1 % (4 : Int32)))] below meth c s₁ [] 0 0 := Stand.of_body Bd
  have e0 : s₁.heap = h0 := by rw [← hh, Bd.state]; rfl
  have N0 := Fr.nil n0
  have pre0 : ∀ t, Steps p.tables e below (s₁.setTop (mkF m 0 #[.val (.ref (w 1)), .val (.int (u1 % (4 : Int32)))] [])) t → Steps p.tables e below (s₁.setTop (entryFrame m #[(.ref (w 1)), (.int (u1 % (4 : Int32)))] 2)) t := fun t k => castTop (by first | rfl | simp [entryFrame, mkF, argsToLocals, Value.category]) k
  obtain ⟨T1, X1, e1, st1⟩ := getF X0 hx hZ hown (host := "") (Or.inl (hw _ (List.mem_of_getElem? (i := 12) rfl))) Via.refl e0 K.2.2.2.2.2.2.2.2.2.2.2.2.2.2.2.2.2.2.1 (g := (mkF m 2 #[.val (.ref (w 1)), .val (.int (u1 % (4 : Int32)))] [(.ref (w 1)), (.int (u1 % (4 : Int32)))])) rfl rfl (hb hby d_prog_9_method_4_code_2)
  obtain ⟨T2, X2, e2, st2⟩ := getF X1 hx hZ hown (host := "") (Or.inl (hw _ (List.mem_of_getElem? (i := 14) rfl))) Via.refl e1 K.2.2.2.2.2.2.2.2.2.2.2.2.2.2.2.2.2.2.2.2.2.2.2.2.2.2.2.1 (g := (mkF m 10 #[.val (.ref (w 1)), .val (.int (u1 % (4 : Int32)))] [(.ref (w 1)), (.int (u1 % (4 : Int32)))])) rfl rfl (hb hby d_prog_9_method_4_code_10)
  obtain ⟨fs, hr, hrun, hended, hW, hsame⟩ := X2.leave (v := (some (.int (0 : Int32)))) (fun h => by rw [Bd.returns] at h; cases h)
  refine ⟨_, _, pre0 _ ?_, hrun, hended, _, _, rfl, ?_, ⟨_, rfl⟩, hW, hsame.mono (by decide) (by decide)⟩
  · show Steps p.tables e below (s₁.setTop (mkF m 0 #[.val (.ref (w 1)), .val (.int (u1 % (4 : Int32)))] [])) _
    refine XS.iloadN X0.here hx rfl (hb hby d_prog_9_method_4_code_0) rfl ?_
    refine XS.aloadN X0.here hx rfl (hb hby d_prog_9_method_4_code_1) rfl rfl ?_
    refine st1 _ ?_
    refine XS.icmpNo X1.here hx rfl (hb hby d_prog_9_method_4_code_5) rfl (flt hf10).1 ?_
    show Steps p.tables e below (T1.setTop (mkF m 8 #[.val (.ref (w 1)), .val (.int (u1 % (4 : Int32)))] [])) _
    refine XS.iloadN X1.here hx rfl (hb hby d_prog_9_method_4_code_8) rfl ?_
    refine XS.aloadN X1.here hx rfl (hb hby d_prog_9_method_4_code_9) rfl rfl ?_
    refine st2 _ ?_
    refine XS.icmpYes X2.here hx rfl (pc0 := 13) (pc' := 20) rfl (hb hby d_prog_9_method_4_code_13) rfl (tlt (by have z0 := mt Int32.toInt_inj.mp hf9; have z1 := mt Int32.lt_iff_toInt_lt.mpr hf10; have l0 : (1 : Int32).toInt = 1 := rfl; have r0 := rng32 (u1 % (4 : Int32)); exact Int32.lt_iff_toInt_lt.mpr (by omega) : (1 : Int32) < (u1 % (4 : Int32)))).2.2.1 (by decide) (by decide) ?_
    show Steps p.tables e below (T2.setTop (mkF m 20 #[.val (.ref (w 1)), .val (.int (u1 % (4 : Int32)))] [])) _
    refine XS.iconst X2.here hx rfl (hb hby d_prog_9_method_4_code_20) ?_
    show Steps p.tables e below (T2.setTop (mkF m 21 #[.val (.ref (w 1)), .val (.int (u1 % (4 : Int32)))] [(.int (0 : Int32))])) _
    exact retN X2 hx (t := .boolean) Bd.returns (by simp) (hb hby d_prog_9_method_4_code_21) hr
  · exact ⟨rfl, N0, e2⟩
set_option maxRecDepth 65536 in
set_option maxHeartbeats 40000000 in
theorem rm0_26 (l : Launch) (Z : State) (a0 : Array Value) (hw : ∀ d ∈ tables_1, d.before a0 Z = true) (w : Nat → Addr) (h0 : Heap) (n0 : Nat) (Z0 : n0 ≤ h0.size) (K : Kon Z h0 w) (u0 u1 u2 : Int32) (hf10 : ¬ ((u1 % (4 : Int32)) < (1 : Int32))) (hf6 : ¬ ((u2 &&& (1 : Int32)) = (0 : Int32))) (hf9 : ¬ ((u1 % (4 : Int32)) = (1 : Int32))) (hk0 : (u0 &&& (7 : Int32)) = (1 : Int32)) :
    OM l Z x code maxLocals ret tables_1 room_1 #[(.int u0), (.int u1), (.int u2)] h0 (OP (some (.int (1 : Int32))) n0 h0) := by
  refine MetFree.of_bodySF (plainFor_of_name pn_com_example_licon_licon_search_OperatorTakesPinLaw) hisR ?_
  intro p e s m args below meth c s₁ Bd hml0 hP hK
  obtain ⟨rfl, hZ, hh⟩ := hP
  have hx := Bd.exec
  have hby := Bd.bytes
  have hml : c.maxLocals = 7 := hml0
  have hown : s.vm.findClass "com/example/licon/licon/search/OperatorTakesPinLaw" = some m.cls := findClass_of_methodNamed Bd.named
  have X0 : Stand p l e room_1 s m #[(.int u0), (.int u1), (.int u2)] below meth c s₁ [] 0 0 := Stand.of_body Bd
  have e0 : s₁.heap = h0 := by rw [← hh, Bd.state]; rfl
  have N0 := Fr.nil n0
  have pre0 : ∀ t, Steps p.tables e below (s₁.setTop (mkF m 0 #[.val (.int u0), .val (.int u1), .val (.int u2), .unset, .unset, .unset, .unset] [])) t → Steps p.tables e below (s₁.setTop (entryFrame m #[(.int u0), (.int u1), (.int u2)] maxLocals)) t := fun t k => castTop (by first | rfl | simp [entryFrame, mkF, argsToLocals, Value.category, maxLocals]) k
  obtain ⟨_, _, ⟨T1, L1, k1, n1⟩, -, X1, ⟨Lc1, hQ1, l1, y1, z1⟩, st1⟩ := Jvm.LawKit.callS X0 hx (y := (⟨"com/example/licon/licon/search/OperatorTakesPinLaw", "pick", "(I)Lcom/example/licon/licon/search/Operator;"⟩ : MethodName)) hown (mvT hZ (hw _ (List.mem_of_getElem? (i := 0) rfl))) (mvT hZ (hw _ (List.mem_of_getElem? (i := 1) rfl))) (mvT hZ (hw _ (List.mem_of_getElem? (i := 2) rfl))) (mvT hZ (hw _ (List.mem_of_getElem? (i := 3) rfl))) (by decide) (backOf (W := 0) (rm_pick_14 l Z a0 hw w h0 n0 Z0 K u0 u1 u2) hZ (hw _ (List.mem_of_getElem? (i := 3) rfl)) (hw _ (List.mem_of_getElem? (i := 2) rfl)) (by decide) (by decide)) (g := (mkF m 21 #[.val (.int u0), .val (.int u1), .val (.int u2), .val (.int (1 : Int32)), .val (.int (u1 % (4 : Int32))), .unset, .unset] [(.int (1 : Int32))])) rfl (by rw [hml]; rfl) (argsL := [(.int (1 : Int32))]) (rest := []) (lenOf pd_28I29Lcom2fexample2flicon2flicon2fsearch2fOperator3b rfl) rfl (by show 2 * 0 + _ ≤ _; exact Nat.le_of_eq rfl) (hb hby at_21) (fun _ _ => ⟨rfl, e0, (by decide : 0 + 0 ≤ _), (by decide : 0 + 0 ≤ _)⟩)
  dsimp only [Pt.U, Pt.locs, Pt.cells, Pt.slots] at X1 l1 y1 z1 st1 hQ1
  subst l1 y1 z1
  obtain ⟨rfl, N1q, e1⟩ := hQ1
  have N1 := Fr.app N0 N1q
  obtain ⟨cq2, kq2, qa2, qb2, qc2⟩ := isOf hZ e1 K.2.2.2.1
  obtain ⟨_, _, ⟨T2, L2, k2, n2⟩, -, X2, ⟨Lc2, hQ2, l2, y2, z2⟩, st2⟩ := X1.virtualBack hx (y := (⟨"com/example/licon/licon/search/Operator", "takes", "(I)Z"⟩ : MethodName)) (z := (⟨"com/example/licon/licon/search/Operator", "takes", "(I)Z"⟩ : MethodName)) hown (mvT hZ (hw _ (List.mem_of_getElem? (i := 7) rfl))) (mvT hZ (hw _ (List.mem_of_getElem? (i := 8) rfl))) (notFace_of_selects (args := #[]) (mvT hZ (hw _ (List.mem_of_getElem? (i := 10) rfl)))) (mvT hZ (hw _ (List.mem_of_getElem? (i := 10) rfl))) (mvT hZ (hw _ (List.mem_of_getElem? (i := 9) rfl))) (by decide) (backOf (W := 0) (rm_takes_25 l Z a0 hw w h0 n0 Z0 K u0 u1 u2 hf10 hf9) hZ (hw _ (List.mem_of_getElem? (i := 11) rfl)) (hw _ (List.mem_of_getElem? (i := 5) rfl)) (by decide) (by decide)) qa2 qc2 (g := (mkF m 84 #[.val (.int u0), .val (.int u1), .val (.int u2), .val (.int (1 : Int32)), .val (.int (u1 % (4 : Int32))), .val (.ref (w 1)), .val (.int (0 : Int32))] [(.int (u1 % (4 : Int32))), (.ref (w 1))])) rfl (by rw [hml]; rfl) (Steps.refl _) (argsL := [(.int (u1 % (4 : Int32)))]) (rest := []) (lenOf pd_28I29Z rfl) rfl (by show 2 * 0 + _ ≤ _; exact Nat.le_of_eq rfl) (hb hby at_84) (fun _ _ => ⟨rfl, e1, (by decide : 0 + 0 ≤ _), (by decide : 0 + 0 ≤ _)⟩)
  dsimp only [Pt.U, Pt.locs, Pt.cells, Pt.slots] at X2 l2 y2 z2 st2 hQ2
  subst l2 y2 z2
  obtain ⟨rfl, N2q, e2⟩ := hQ2
  have N2 := Fr.app N1 N2q
  obtain ⟨fs, hr, hrun, hended, hW, hsame⟩ := X2.leave (v := (some (.int (1 : Int32)))) (fun h => by rw [Bd.returns] at h; cases h)
  refine ⟨_, _, pre0 _ ?_, hrun, hended, _, _, rfl, ?_, ⟨_, rfl⟩, hW, hsame.mono (by decide) (by decide)⟩
  · show Steps p.tables e below (s₁.setTop (mkF m 0 #[.val (.int u0), .val (.int u1), .val (.int u2), .unset, .unset, .unset, .unset] [])) _
    refine XS.iloadN X0.here hx rfl (hb hby at_0) rfl ?_
    refine XS.bipush X0.here hx rfl (hb hby at_1) ?_
    refine XS.iand X0.here hx rfl (hb hby at_3) rfl ?_
    show Steps p.tables e below (s₁.setTop (mkF m 4 #[.val (.int u0), .val (.int u1), .val (.int u2), .unset, .unset, .unset, .unset] [(.int (u0 &&& (7 : Int32)))])) _
    rw [hk0]
    show Steps p.tables e below (s₁.setTop (mkF m 4 #[.val (.int u0), .val (.int u1), .val (.int u2), .unset, .unset, .unset, .unset] [(.int (1 : Int32))])) _
    refine XS.istoreN X0.here hx rfl (hb hby at_4) rfl (l' := #[.val (.int u0), .val (.int u1), .val (.int u2), .val (.int (1 : Int32)), .unset, .unset, .unset]) rfl ?_
    refine XS.iloadN X0.here hx rfl (hb hby at_5) rfl ?_
    refine XS.iconst X0.here hx rfl (hb hby at_6) ?_
    refine XS.iand X0.here hx rfl (hb hby at_7) rfl ?_
    show Steps p.tables e below (s₁.setTop (mkF m 8 #[.val (.int u0), .val (.int u1), .val (.int u2), .val (.int (1 : Int32)), .unset, .unset, .unset] [(.int (u2 &&& (1 : Int32)))])) _
    refine XS.ifNo X0.here hx rfl (hb hby at_8) rfl ((if0 _ _).trans (feq hf6).1) ?_
    refine XS.iloadN X0.here hx rfl (hb hby at_11) rfl ?_
    refine XS.iconst X0.here hx rfl (hb hby at_12) ?_
    refine iremM X0 hx rfl (hb hby at_13) rfl (by decide : ¬ ((4 : Int32) = (0 : Int32))) ?_
    show Steps p.tables e below (s₁.setTop (mkF m 14 #[.val (.int u0), .val (.int u1), .val (.int u2), .val (.int (1 : Int32)), .unset, .unset, .unset] [(.int (u1 % (4 : Int32)))])) _
    refine XS.goto X0.here hx rfl (pc0 := 14) (pc' := 18) rfl (hb hby at_14) (by decide) (by decide) ?_
    refine XS.istore X0.here hx rfl (hb hby at_18) rfl (l' := #[.val (.int u0), .val (.int u1), .val (.int u2), .val (.int (1 : Int32)), .val (.int (u1 % (4 : Int32))), .unset, .unset]) rfl ?_
    refine XS.iloadN X0.here hx rfl (hb hby at_20) rfl ?_
    refine st1 _ ?_
    show Steps p.tables e below (T1.setTop (mkF m 24 #[.val (.int u0), .val (.int u1), .val (.int u2), .val (.int (1 : Int32)), .val (.int (u1 % (4 : Int32))), .unset, .unset] [(.ref (w 1))])) _
    refine XS.astore X1.here hx rfl (hb hby at_24) rfl rfl (l' := #[.val (.int u0), .val (.int u1), .val (.int u2), .val (.int (1 : Int32)), .val (.int (u1 % (4 : Int32))), .val (.ref (w 1)), .unset]) rfl ?_
    refine XS.iloadN X1.here hx rfl (hb hby at_26) rfl ?_
    refine XS.iconst X1.here hx rfl (hb hby at_27) ?_
    refine XS.icmpNo X1.here hx rfl (hb hby at_28) rfl (tlt (by decide : (1 : Int32) < (4 : Int32))).2.1 ?_
    show Steps p.tables e below (T1.setTop (mkF m 31 #[.val (.int u0), .val (.int u1), .val (.int u2), .val (.int (1 : Int32)), .val (.int (u1 % (4 : Int32))), .val (.ref (w 1)), .unset] [])) _
    refine XS.iload X1.here hx rfl (hb hby at_31) rfl ?_
    refine XS.iconst X1.here hx rfl (hb hby at_33) ?_
    refine XS.icmpYes X1.here hx rfl (pc0 := 34) (pc' := 41) rfl (hb hby at_34) rfl (feq hf9).2 (by decide) (by decide) ?_
    refine XS.iconst X1.here hx rfl (hb hby at_41) ?_
    show Steps p.tables e below (T1.setTop (mkF m 42 #[.val (.int u0), .val (.int u1), .val (.int u2), .val (.int (1 : Int32)), .val (.int (u1 % (4 : Int32))), .val (.ref (w 1)), .unset] [(.int (0 : Int32))])) _
    refine XS.istore X1.here hx rfl (hb hby at_42) rfl (l' := #[.val (.int u0), .val (.int u1), .val (.int u2), .val (.int (1 : Int32)), .val (.int (u1 % (4 : Int32))), .val (.ref (w 1)), .val (.int (0 : Int32))]) rfl ?_
    refine XS.goto X1.here hx rfl (pc0 := 44) (pc' := 80) rfl (hb hby at_44) (by decide) (by decide) ?_
    refine XS.aload X1.here hx rfl (hb hby at_80) rfl rfl ?_
    refine XS.iload X1.here hx rfl (hb hby at_82) rfl ?_
    show Steps p.tables e below (T1.setTop (mkF m 84 #[.val (.int u0), .val (.int u1), .val (.int u2), .val (.int (1 : Int32)), .val (.int (u1 % (4 : Int32))), .val (.ref (w 1)), .val (.int (0 : Int32))] [(.int (u1 % (4 : Int32))), (.ref (w 1))])) _
    refine st2.trans ?_
    refine XS.iload X2.here hx rfl (hb hby at_87) rfl ?_
    refine XS.icmpNo X2.here hx rfl (hb hby at_89) rfl (teq (by decide : (0 : Int32) = (0 : Int32))).2 ?_
    refine XS.iconst X2.here hx rfl (hb hby at_92) ?_
    show Steps p.tables e below (T2.setTop (mkF m 93 #[.val (.int u0), .val (.int u1), .val (.int u2), .val (.int (1 : Int32)), .val (.int (u1 % (4 : Int32))), .val (.ref (w 1)), .val (.int (0 : Int32))] [(.int (1 : Int32))])) _
    refine XS.goto X2.here hx rfl (pc0 := 93) (pc' := 97) rfl (hb hby at_93) (by decide) (by decide) ?_
    show Steps p.tables e below (T2.setTop (mkF m 97 #[.val (.int u0), .val (.int u1), .val (.int u2), .val (.int (1 : Int32)), .val (.int (u1 % (4 : Int32))), .val (.ref (w 1)), .val (.int (0 : Int32))] [(.int (1 : Int32))])) _
    exact retN X2 hx (t := .boolean) Bd.returns (by simp) (hb hby at_97) hr
  · exact ⟨rfl, N2, e2⟩
theorem d_method_3_code_17 : decode method_3_code 17 = .ok (.iload_n 0, 1) := by decide +kernel
theorem d_method_3_code_18 : decode method_3_code 18 = .ok (.iconst 2, 1) := by decide +kernel
theorem d_method_3_code_19 : decode method_3_code 19 = .ok (.if_icmp .ne 7, 3) := by decide +kernel
theorem d_method_3_code_22 : decode method_3_code 22 = .ok (.getstatic 26, 3) := by decide +kernel
theorem d_method_3_code_25 : decode method_3_code 25 = .ok (.areturn, 1) := by decide +kernel
set_option maxRecDepth 65536 in
set_option maxHeartbeats 40000000 in
theorem rm_pick_27 (l : Launch) (Z : State) (a0 : Array Value) (hw : ∀ d ∈ tables_1, d.before a0 Z = true) (w : Nat → Addr) (h0 : Heap) (n0 : Nat) (Z0 : n0 ≤ h0.size) (K : Kon Z h0 w) (u0 u1 u2 : Int32) :
    OM l Z (⟨"com/example/licon/licon/search/OperatorTakesPinLaw", "pick", "(I)Lcom/example/licon/licon/search/Operator;"⟩ : MethodName) method_3_code 1 (some (.object "com/example/licon/licon/search/Operator")) [] ({ frames := 0, cells := 0, slots := 0, locals := 0 } : Room) #[(.int (2 : Int32))] h0 (OP (some (.ref (w 4))) n0 h0) := by
  refine MetFree.of_bodySF (plainFor_of_name pn_com_example_licon_licon_search_OperatorTakesPinLaw) hisR ?_
  intro p e s m args below meth c s₁ Bd hml0 hP hK
  obtain ⟨rfl, hZ, hh⟩ := hP
  have hx := Bd.exec
  have hby := Bd.bytes
  have hml : c.maxLocals = 1 := hml0
  have hown : s.vm.findClass "com/example/licon/licon/search/OperatorTakesPinLaw" = some m.cls := findClass_of_methodNamed Bd.named
  have X0 : Stand p l e ({ frames := 0, cells := 0, slots := 0, locals := 0 } : Room) s m #[(.int (2 : Int32))] below meth c s₁ [] 0 0 := Stand.of_body Bd
  have e0 : s₁.heap = h0 := by rw [← hh, Bd.state]; rfl
  have N0 := Fr.nil n0
  have pre0 : ∀ t, Steps p.tables e below (s₁.setTop (mkF m 0 #[.val (.int (2 : Int32))] [])) t → Steps p.tables e below (s₁.setTop (entryFrame m #[(.int (2 : Int32))] 1)) t := fun t k => castTop (by first | rfl | simp [entryFrame, mkF, argsToLocals, Value.category]) k
  obtain ⟨T1, X1, e1, st1⟩ := getS2 X0 hx hZ hown (host := "") (Or.inl (hw _ (List.mem_of_getElem? (i := 22) rfl))) Via.refl e0 K.2.2.2.2.2.2.2.2.1 (g := (mkF m 22 #[.val (.int (2 : Int32))] [])) rfl (hb hby d_method_3_code_22)
  obtain ⟨fs, hr, hrun, hended, hW, hsame⟩ := X1.leave (v := (some (.ref (w 4)))) (fun h => by rw [Bd.returns] at h; cases h)
  refine ⟨_, _, pre0 _ ?_, hrun, hended, _, _, rfl, ?_, ⟨_, rfl⟩, hW, hsame.mono (by decide) (by decide)⟩
  · show Steps p.tables e below (s₁.setTop (mkF m 0 #[.val (.int (2 : Int32))] [])) _
    refine XS.iloadN X0.here hx rfl (hb hby d_method_3_code_0) rfl ?_
    refine XS.ifYes X0.here hx rfl (pc0 := 1) (pc' := 8) rfl (hb hby d_method_3_code_1) rfl ((if0 _ _).trans (feq (by decide : ¬ ((2 : Int32) = (0 : Int32)))).2) (by decide) (by decide) ?_
    refine XS.iloadN X0.here hx rfl (hb hby d_method_3_code_8) rfl ?_
    refine XS.iconst X0.here hx rfl (hb hby d_method_3_code_9) ?_
    show Steps p.tables e below (s₁.setTop (mkF m 10 #[.val (.int (2 : Int32))] [(.int (1 : Int32)), (.int (2 : Int32))])) _
    refine XS.icmpYes X0.here hx rfl (pc0 := 10) (pc' := 17) rfl (hb hby d_method_3_code_10) rfl (feq (by decide : ¬ ((2 : Int32) = (1 : Int32)))).2 (by decide) (by decide) ?_
    refine XS.iloadN X0.here hx rfl (hb hby d_method_3_code_17) rfl ?_
    refine XS.iconst X0.here hx rfl (hb hby d_method_3_code_18) ?_
    refine XS.icmpNo X0.here hx rfl (hb hby d_method_3_code_19) rfl (teq (by decide : (2 : Int32) = (2 : Int32))).2 ?_
    show Steps p.tables e below (s₁.setTop (mkF m 22 #[.val (.int (2 : Int32))] [])) _
    refine st1 _ ?_
    show Steps p.tables e below (T1.setTop (mkF m 25 #[.val (.int (2 : Int32))] [(.ref (w 4))])) _
    jvm_step X1.here [X1.here.top, hx, (hb hby d_method_3_code_25), X1.method', Bd.returns, Value.isRef, FieldType.isReference]
    first | (intro acts; rw [hr _ acts rfl rfl rfl]) | rw [hr _ _ rfl rfl rfl]
    exact Steps.refl _
  · exact ⟨rfl, N0, e1⟩
set_option maxRecDepth 65536 in
set_option maxHeartbeats 40000000 in
theorem rm_takes_28 (l : Launch) (Z : State) (a0 : Array Value) (hw : ∀ d ∈ tables_1, d.before a0 Z = true) (w : Nat → Addr) (h0 : Heap) (n0 : Nat) (Z0 : n0 ≤ h0.size) (K : Kon Z h0 w) (u0 u1 u2 : Int32) (hf12 : u1 = (1 : Int32)) :
    OM l Z (⟨"com/example/licon/licon/search/Operator", "takes", "(I)Z"⟩ : MethodName) prog_9_method_4_code 2 (some .boolean) [] ({ frames := 0, cells := 0, slots := 0, locals := 0 } : Room) #[(.ref (w 4)), (.int u1)] h0 (OP (some (.int (1 : Int32))) n0 h0) := by
  refine MetFree.of_bodySF (plainFor_of_name pn_com_example_licon_licon_search_Operator) hisR ?_
  intro p e s m args below meth c s₁ Bd hml0 hP hK
  obtain ⟨rfl, hZ, hh⟩ := hP
  have hx := Bd.exec
  have hby := Bd.bytes
  have hml : c.maxLocals = 2 := hml0
  have hown : s.vm.findClass "com/example/licon/licon/search/Operator" = some m.cls := findClass_of_methodNamed Bd.named
  have X0 : Stand p l e ({ frames := 0, cells := 0, slots := 0, locals := 0 } : Room) s m #[(.ref (w 4)), (.int u1)] below meth c s₁ [] 0 0 := Stand.of_body Bd
  have e0 : s₁.heap = h0 := by rw [← hh, Bd.state]; rfl
  have N0 := Fr.nil n0
  have pre0 : ∀ t, Steps p.tables e below (s₁.setTop (mkF m 0 #[.val (.ref (w 4)), .val (.int u1)] [])) t → Steps p.tables e below (s₁.setTop (entryFrame m #[(.ref (w 4)), (.int u1)] 2)) t := fun t k => castTop (by first | rfl | simp [entryFrame, mkF, argsToLocals, Value.category]) k
  obtain ⟨T1, X1, e1, st1⟩ := getF X0 hx hZ hown (host := "") (Or.inl (hw _ (List.mem_of_getElem? (i := 12) rfl))) Via.refl e0 K.2.2.2.2.2.2.2.2.2.2.2.2.2.2.2.2.2.2.2.2.2.2.2.1 (g := (mkF m 2 #[.val (.ref (w 4)), .val (.int u1)] [(.ref (w 4)), (.int u1)])) rfl rfl (hb hby d_prog_9_method_4_code_2)
  obtain ⟨T2, X2, e2, st2⟩ := getF X1 hx hZ hown (host := "") (Or.inl (hw _ (List.mem_of_getElem? (i := 14) rfl))) Via.refl e1 K.2.2.2.2.2.2.2.2.2.2.2.2.2.2.2.2.2.2.2.2.2.2.2.2.2.2.1 (g := (mkF m 10 #[.val (.ref (w 4)), .val (.int u1)] [(.ref (w 4)), (.int u1)])) rfl rfl (hb hby d_prog_9_method_4_code_10)
  obtain ⟨fs, hr, hrun, hended, hW, hsame⟩ := X2.leave (v := (some (.int (1 : Int32)))) (fun h => by rw [Bd.returns] at h; cases h)
  refine ⟨_, _, pre0 _ ?_, hrun, hended, _, _, rfl, ?_, ⟨_, rfl⟩, hW, hsame.mono (by decide) (by decide)⟩
  · show Steps p.tables e below (s₁.setTop (mkF m 0 #[.val (.ref (w 4)), .val (.int u1)] [])) _
    refine XS.iloadN X0.here hx rfl (hb hby d_prog_9_method_4_code_0) rfl ?_
    refine XS.aloadN X0.here hx rfl (hb hby d_prog_9_method_4_code_1) rfl rfl ?_
    refine st1 _ ?_
    refine XS.icmpNo X1.here hx rfl (hb hby d_prog_9_method_4_code_5) rfl (flt (by have z0 := congrArg Int32.toInt hf12; have l0 : (1 : Int32).toInt = 1 := rfl; have r0 := rng32 u1; exact fun hh => absurd (Int32.lt_iff_toInt_lt.mp hh) (by omega) : ¬ (u1 < (1 : Int32)))).1 ?_
    show Steps p.tables e below (T1.setTop (mkF m 8 #[.val (.ref (w 4)), .val (.int u1)] [])) _
    refine XS.iloadN X1.here hx rfl (hb hby d_prog_9_method_4_code_8) rfl ?_
    refine XS.aloadN X1.here hx rfl (hb hby d_prog_9_method_4_code_9) rfl rfl ?_
    refine st2 _ ?_
    refine XS.icmpNo X2.here hx rfl (hb hby d_prog_9_method_4_code_13) rfl (flt (by have z0 := congrArg Int32.toInt hf12; have l0 : (1 : Int32).toInt = 1 := rfl; have r0 := rng32 u1; exact fun hh => absurd (Int32.lt_iff_toInt_lt.mp hh) (by omega) : ¬ ((1 : Int32) < u1))).2.2.1 ?_
    show Steps p.tables e below (T2.setTop (mkF m 16 #[.val (.ref (w 4)), .val (.int u1)] [])) _
    refine XS.iconst X2.here hx rfl (hb hby d_prog_9_method_4_code_16) ?_
    refine XS.goto X2.here hx rfl (pc0 := 17) (pc' := 21) rfl (hb hby d_prog_9_method_4_code_17) (by decide) (by decide) ?_
    show Steps p.tables e below (T2.setTop (mkF m 21 #[.val (.ref (w 4)), .val (.int u1)] [(.int (1 : Int32))])) _
    exact retN X2 hx (t := .boolean) Bd.returns (by simp) (hb hby d_prog_9_method_4_code_21) hr
  · exact ⟨rfl, N0, e2⟩
set_option maxRecDepth 65536 in
set_option maxHeartbeats 40000000 in
theorem rm0_29 (l : Launch) (Z : State) (a0 : Array Value) (hw : ∀ d ∈ tables_1, d.before a0 Z = true) (w : Nat → Addr) (h0 : Heap) (n0 : Nat) (Z0 : n0 ≤ h0.size) (K : Kon Z h0 w) (u0 u1 u2 : Int32) (hf11 : (u2 &&& (1 : Int32)) = (0 : Int32)) (hf12 : u1 = (1 : Int32)) (hk0 : (u0 &&& (7 : Int32)) = (2 : Int32)) :
    OM l Z x code maxLocals ret tables_1 room_1 #[(.int u0), (.int u1), (.int u2)] h0 (OP (some (.int (1 : Int32))) n0 h0) := by
  refine MetFree.of_bodySF (plainFor_of_name pn_com_example_licon_licon_search_OperatorTakesPinLaw) hisR ?_
  intro p e s m args below meth c s₁ Bd hml0 hP hK
  obtain ⟨rfl, hZ, hh⟩ := hP
  have hx := Bd.exec
  have hby := Bd.bytes
  have hml : c.maxLocals = 7 := hml0
  have hown : s.vm.findClass "com/example/licon/licon/search/OperatorTakesPinLaw" = some m.cls := findClass_of_methodNamed Bd.named
  have X0 : Stand p l e room_1 s m #[(.int u0), (.int u1), (.int u2)] below meth c s₁ [] 0 0 := Stand.of_body Bd
  have e0 : s₁.heap = h0 := by rw [← hh, Bd.state]; rfl
  have N0 := Fr.nil n0
  have pre0 : ∀ t, Steps p.tables e below (s₁.setTop (mkF m 0 #[.val (.int u0), .val (.int u1), .val (.int u2), .unset, .unset, .unset, .unset] [])) t → Steps p.tables e below (s₁.setTop (entryFrame m #[(.int u0), (.int u1), (.int u2)] maxLocals)) t := fun t k => castTop (by first | rfl | simp [entryFrame, mkF, argsToLocals, Value.category, maxLocals]) k
  obtain ⟨_, _, ⟨T1, L1, k1, n1⟩, -, X1, ⟨Lc1, hQ1, l1, y1, z1⟩, st1⟩ := Jvm.LawKit.callS X0 hx (y := (⟨"com/example/licon/licon/search/OperatorTakesPinLaw", "pick", "(I)Lcom/example/licon/licon/search/Operator;"⟩ : MethodName)) hown (mvT hZ (hw _ (List.mem_of_getElem? (i := 0) rfl))) (mvT hZ (hw _ (List.mem_of_getElem? (i := 1) rfl))) (mvT hZ (hw _ (List.mem_of_getElem? (i := 2) rfl))) (mvT hZ (hw _ (List.mem_of_getElem? (i := 3) rfl))) (by decide) (backOf (W := 0) (rm_pick_27 l Z a0 hw w h0 n0 Z0 K u0 u1 u2) hZ (hw _ (List.mem_of_getElem? (i := 3) rfl)) (hw _ (List.mem_of_getElem? (i := 2) rfl)) (by decide) (by decide)) (g := (mkF m 21 #[.val (.int u0), .val (.int u1), .val (.int u2), .val (.int (2 : Int32)), .val (.int u1), .unset, .unset] [(.int (2 : Int32))])) rfl (by rw [hml]; rfl) (argsL := [(.int (2 : Int32))]) (rest := []) (lenOf pd_28I29Lcom2fexample2flicon2flicon2fsearch2fOperator3b rfl) rfl (by show 2 * 0 + _ ≤ _; exact Nat.le_of_eq rfl) (hb hby at_21) (fun _ _ => ⟨rfl, e0, (by decide : 0 + 0 ≤ _), (by decide : 0 + 0 ≤ _)⟩)
  dsimp only [Pt.U, Pt.locs, Pt.cells, Pt.slots] at X1 l1 y1 z1 st1 hQ1
  subst l1 y1 z1
  obtain ⟨rfl, N1q, e1⟩ := hQ1
  have N1 := Fr.app N0 N1q
  obtain ⟨cq2, kq2, qa2, qb2, qc2⟩ := isOf hZ e1 K.2.2.2.2.2.2.2.2.2.1
  obtain ⟨_, _, ⟨T2, L2, k2, n2⟩, -, X2, ⟨Lc2, hQ2, l2, y2, z2⟩, st2⟩ := X1.virtualBack hx (y := (⟨"com/example/licon/licon/search/Operator", "takes", "(I)Z"⟩ : MethodName)) (z := (⟨"com/example/licon/licon/search/Operator", "takes", "(I)Z"⟩ : MethodName)) hown (mvT hZ (hw _ (List.mem_of_getElem? (i := 7) rfl))) (mvT hZ (hw _ (List.mem_of_getElem? (i := 8) rfl))) (notFace_of_selects (args := #[]) (mvT hZ (hw _ (List.mem_of_getElem? (i := 10) rfl)))) (mvT hZ (hw _ (List.mem_of_getElem? (i := 10) rfl))) (mvT hZ (hw _ (List.mem_of_getElem? (i := 9) rfl))) (by decide) (backOf (W := 0) (rm_takes_28 l Z a0 hw w h0 n0 Z0 K u0 u1 u2 hf12) hZ (hw _ (List.mem_of_getElem? (i := 11) rfl)) (hw _ (List.mem_of_getElem? (i := 5) rfl)) (by decide) (by decide)) qa2 qc2 (g := (mkF m 84 #[.val (.int u0), .val (.int u1), .val (.int u2), .val (.int (2 : Int32)), .val (.int u1), .val (.ref (w 4)), .val (.int (1 : Int32))] [(.int u1), (.ref (w 4))])) rfl (by rw [hml]; rfl) (Steps.refl _) (argsL := [(.int u1)]) (rest := []) (lenOf pd_28I29Z rfl) rfl (by show 2 * 0 + _ ≤ _; exact Nat.le_of_eq rfl) (hb hby at_84) (fun _ _ => ⟨rfl, e1, (by decide : 0 + 0 ≤ _), (by decide : 0 + 0 ≤ _)⟩)
  dsimp only [Pt.U, Pt.locs, Pt.cells, Pt.slots] at X2 l2 y2 z2 st2 hQ2
  subst l2 y2 z2
  obtain ⟨rfl, N2q, e2⟩ := hQ2
  have N2 := Fr.app N1 N2q
  obtain ⟨fs, hr, hrun, hended, hW, hsame⟩ := X2.leave (v := (some (.int (1 : Int32)))) (fun h => by rw [Bd.returns] at h; cases h)
  refine ⟨_, _, pre0 _ ?_, hrun, hended, _, _, rfl, ?_, ⟨_, rfl⟩, hW, hsame.mono (by decide) (by decide)⟩
  · show Steps p.tables e below (s₁.setTop (mkF m 0 #[.val (.int u0), .val (.int u1), .val (.int u2), .unset, .unset, .unset, .unset] [])) _
    refine XS.iloadN X0.here hx rfl (hb hby at_0) rfl ?_
    refine XS.bipush X0.here hx rfl (hb hby at_1) ?_
    refine XS.iand X0.here hx rfl (hb hby at_3) rfl ?_
    show Steps p.tables e below (s₁.setTop (mkF m 4 #[.val (.int u0), .val (.int u1), .val (.int u2), .unset, .unset, .unset, .unset] [(.int (u0 &&& (7 : Int32)))])) _
    rw [hk0]
    show Steps p.tables e below (s₁.setTop (mkF m 4 #[.val (.int u0), .val (.int u1), .val (.int u2), .unset, .unset, .unset, .unset] [(.int (2 : Int32))])) _
    refine XS.istoreN X0.here hx rfl (hb hby at_4) rfl (l' := #[.val (.int u0), .val (.int u1), .val (.int u2), .val (.int (2 : Int32)), .unset, .unset, .unset]) rfl ?_
    refine XS.iloadN X0.here hx rfl (hb hby at_5) rfl ?_
    refine XS.iconst X0.here hx rfl (hb hby at_6) ?_
    refine XS.iand X0.here hx rfl (hb hby at_7) rfl ?_
    show Steps p.tables e below (s₁.setTop (mkF m 8 #[.val (.int u0), .val (.int u1), .val (.int u2), .val (.int (2 : Int32)), .unset, .unset, .unset] [(.int (u2 &&& (1 : Int32)))])) _
    refine XS.ifYes X0.here hx rfl (pc0 := 8) (pc' := 17) rfl (hb hby at_8) rfl ((if0 _ _).trans (teq hf11).1) (by decide) (by decide) ?_
    refine XS.iloadN X0.here hx rfl (hb hby at_17) rfl ?_
    refine XS.istore X0.here hx rfl (hb hby at_18) rfl (l' := #[.val (.int u0), .val (.int u1), .val (.int u2), .val (.int (2 : Int32)), .val (.int u1), .unset, .unset]) rfl ?_
    refine XS.iloadN X0.here hx rfl (hb hby at_20) rfl ?_
    show Steps p.tables e below (s₁.setTop (mkF m 21 #[.val (.int u0), .val (.int u1), .val (.int u2), .val (.int (2 : Int32)), .val (.int u1), .unset, .unset] [(.int (2 : Int32))])) _
    refine st1 _ ?_
    refine XS.astore X1.here hx rfl (hb hby at_24) rfl rfl (l' := #[.val (.int u0), .val (.int u1), .val (.int u2), .val (.int (2 : Int32)), .val (.int u1), .val (.ref (w 4)), .unset]) rfl ?_
    refine XS.iloadN X1.here hx rfl (hb hby at_26) rfl ?_
    refine XS.iconst X1.here hx rfl (hb hby at_27) ?_
    show Steps p.tables e below (T1.setTop (mkF m 28 #[.val (.int u0), .val (.int u1), .val (.int u2), .val (.int (2 : Int32)), .val (.int u1), .val (.ref (w 4)), .unset] [(.int (4 : Int32)), (.int (2 : Int32))])) _
    refine XS.icmpNo X1.here hx rfl (hb hby at_28) rfl (tlt (by decide : (2 : Int32) < (4 : Int32))).2.1 ?_
    refine XS.iload X1.here hx rfl (hb hby at_31) rfl ?_
    refine XS.iconst X1.here hx rfl (hb hby at_33) ?_
    refine XS.icmpNo X1.here hx rfl (hb hby at_34) rfl (teq hf12).2 ?_
    show Steps p.tables e below (T1.setTop (mkF m 37 #[.val (.int u0), .val (.int u1), .val (.int u2), .val (.int (2 : Int32)), .val (.int u1), .val (.ref (w 4)), .unset] [])) _
    refine XS.iconst X1.here hx rfl (hb hby at_37) ?_
    refine XS.goto X1.here hx rfl (pc0 := 38) (pc' := 42) rfl (hb hby at_38) (by decide) (by decide) ?_
    refine XS.istore X1.here hx rfl (hb hby at_42) rfl (l' := #[.val (.int u0), .val (.int u1), .val (.int u2), .val (.int (2 : Int32)), .val (.int u1), .val (.ref (w 4)), .val (.int (1 : Int32))]) rfl ?_
    refine XS.goto X1.here hx rfl (pc0 := 44) (pc' := 80) rfl (hb hby at_44) (by decide) (by decide) ?_
    show Steps p.tables e below (T1.setTop (mkF m 80 #[.val (.int u0), .val (.int u1), .val (.int u2), .val (.int (2 : Int32)), .val (.int u1), .val (.ref (w 4)), .val (.int (1 : Int32))] [])) _
    refine XS.aload X1.here hx rfl (hb hby at_80) rfl rfl ?_
    refine XS.iload X1.here hx rfl (hb hby at_82) rfl ?_
    refine st2.trans ?_
    refine XS.iload X2.here hx rfl (hb hby at_87) rfl ?_
    show Steps p.tables e below (T2.setTop (mkF m 89 #[.val (.int u0), .val (.int u1), .val (.int u2), .val (.int (2 : Int32)), .val (.int u1), .val (.ref (w 4)), .val (.int (1 : Int32))] [(.int (1 : Int32)), (.int (1 : Int32))])) _
    refine XS.icmpNo X2.here hx rfl (hb hby at_89) rfl (teq (by decide : (1 : Int32) = (1 : Int32))).2 ?_
    refine XS.iconst X2.here hx rfl (hb hby at_92) ?_
    refine XS.goto X2.here hx rfl (pc0 := 93) (pc' := 97) rfl (hb hby at_93) (by decide) (by decide) ?_
    show Steps p.tables e below (T2.setTop (mkF m 97 #[.val (.int u0), .val (.int u1), .val (.int u2), .val (.int (2 : Int32)), .val (.int u1), .val (.ref (w 4)), .val (.int (1 : Int32))] [(.int (1 : Int32))])) _
    exact retN X2 hx (t := .boolean) Bd.returns (by simp) (hb hby at_97) hr
  · exact ⟨rfl, N2, e2⟩
set_option maxRecDepth 65536 in
set_option maxHeartbeats 40000000 in
theorem rm_takes_30 (l : Launch) (Z : State) (a0 : Array Value) (hw : ∀ d ∈ tables_1, d.before a0 Z = true) (w : Nat → Addr) (h0 : Heap) (n0 : Nat) (Z0 : n0 ≤ h0.size) (K : Kon Z h0 w) (u0 u1 u2 : Int32) (hf13 : u1 < (1 : Int32)) :
    OM l Z (⟨"com/example/licon/licon/search/Operator", "takes", "(I)Z"⟩ : MethodName) prog_9_method_4_code 2 (some .boolean) [] ({ frames := 0, cells := 0, slots := 0, locals := 0 } : Room) #[(.ref (w 4)), (.int u1)] h0 (OP (some (.int (0 : Int32))) n0 h0) := by
  refine MetFree.of_bodySF (plainFor_of_name pn_com_example_licon_licon_search_Operator) hisR ?_
  intro p e s m args below meth c s₁ Bd hml0 hP hK
  obtain ⟨rfl, hZ, hh⟩ := hP
  have hx := Bd.exec
  have hby := Bd.bytes
  have hml : c.maxLocals = 2 := hml0
  have hown : s.vm.findClass "com/example/licon/licon/search/Operator" = some m.cls := findClass_of_methodNamed Bd.named
  have X0 : Stand p l e ({ frames := 0, cells := 0, slots := 0, locals := 0 } : Room) s m #[(.ref (w 4)), (.int u1)] below meth c s₁ [] 0 0 := Stand.of_body Bd
  have e0 : s₁.heap = h0 := by rw [← hh, Bd.state]; rfl
  have N0 := Fr.nil n0
  have pre0 : ∀ t, Steps p.tables e below (s₁.setTop (mkF m 0 #[.val (.ref (w 4)), .val (.int u1)] [])) t → Steps p.tables e below (s₁.setTop (entryFrame m #[(.ref (w 4)), (.int u1)] 2)) t := fun t k => castTop (by first | rfl | simp [entryFrame, mkF, argsToLocals, Value.category]) k
  obtain ⟨T1, X1, e1, st1⟩ := getF X0 hx hZ hown (host := "") (Or.inl (hw _ (List.mem_of_getElem? (i := 12) rfl))) Via.refl e0 K.2.2.2.2.2.2.2.2.2.2.2.2.2.2.2.2.2.2.2.2.2.2.2.1 (g := (mkF m 2 #[.val (.ref (w 4)), .val (.int u1)] [(.ref (w 4)), (.int u1)])) rfl rfl (hb hby d_prog_9_method_4_code_2)
  obtain ⟨fs, hr, hrun, hended, hW, hsame⟩ := X1.leave (v := (some (.int (0 : Int32)))) (fun h => by rw [Bd.returns] at h; cases h)
  refine ⟨_, _, pre0 _ ?_, hrun, hended, _, _, rfl, ?_, ⟨_, rfl⟩, hW, hsame.mono (by decide) (by decide)⟩
  · show Steps p.tables e below (s₁.setTop (mkF m 0 #[.val (.ref (w 4)), .val (.int u1)] [])) _
    refine XS.iloadN X0.here hx rfl (hb hby d_prog_9_method_4_code_0) rfl ?_
    refine XS.aloadN X0.here hx rfl (hb hby d_prog_9_method_4_code_1) rfl rfl ?_
    refine st1 _ ?_
    refine XS.icmpYes X1.here hx rfl (pc0 := 5) (pc' := 20) rfl (hb hby d_prog_9_method_4_code_5) rfl (tlt hf13).1 (by decide) (by decide) ?_
    show Steps p.tables e below (T1.setTop (mkF m 20 #[.val (.ref (w 4)), .val (.int u1)] [])) _
    refine XS.iconst X1.here hx rfl (hb hby d_prog_9_method_4_code_20) ?_
    show Steps p.tables e below (T1.setTop (mkF m 21 #[.val (.ref (w 4)), .val (.int u1)] [(.int (0 : Int32))])) _
    exact retN X1 hx (t := .boolean) Bd.returns (by simp) (hb hby d_prog_9_method_4_code_21) hr
  · exact ⟨rfl, N0, e1⟩
set_option maxRecDepth 65536 in
set_option maxHeartbeats 40000000 in
theorem rm0_31 (l : Launch) (Z : State) (a0 : Array Value) (hw : ∀ d ∈ tables_1, d.before a0 Z = true) (w : Nat → Addr) (h0 : Heap) (n0 : Nat) (Z0 : n0 ≤ h0.size) (K : Kon Z h0 w) (u0 u1 u2 : Int32) (hf11 : (u2 &&& (1 : Int32)) = (0 : Int32)) (hf12 : ¬ (u1 = (1 : Int32))) (hf13 : u1 < (1 : Int32)) (hk0 : (u0 &&& (7 : Int32)) = (2 : Int32)) :
    OM l Z x code maxLocals ret tables_1 room_1 #[(.int u0), (.int u1), (.int u2)] h0 (OP (some (.int (1 : Int32))) n0 h0) := by
  refine MetFree.of_bodySF (plainFor_of_name pn_com_example_licon_licon_search_OperatorTakesPinLaw) hisR ?_
  intro p e s m args below meth c s₁ Bd hml0 hP hK
  obtain ⟨rfl, hZ, hh⟩ := hP
  have hx := Bd.exec
  have hby := Bd.bytes
  have hml : c.maxLocals = 7 := hml0
  have hown : s.vm.findClass "com/example/licon/licon/search/OperatorTakesPinLaw" = some m.cls := findClass_of_methodNamed Bd.named
  have X0 : Stand p l e room_1 s m #[(.int u0), (.int u1), (.int u2)] below meth c s₁ [] 0 0 := Stand.of_body Bd
  have e0 : s₁.heap = h0 := by rw [← hh, Bd.state]; rfl
  have N0 := Fr.nil n0
  have pre0 : ∀ t, Steps p.tables e below (s₁.setTop (mkF m 0 #[.val (.int u0), .val (.int u1), .val (.int u2), .unset, .unset, .unset, .unset] [])) t → Steps p.tables e below (s₁.setTop (entryFrame m #[(.int u0), (.int u1), (.int u2)] maxLocals)) t := fun t k => castTop (by first | rfl | simp [entryFrame, mkF, argsToLocals, Value.category, maxLocals]) k
  obtain ⟨_, _, ⟨T1, L1, k1, n1⟩, -, X1, ⟨Lc1, hQ1, l1, y1, z1⟩, st1⟩ := Jvm.LawKit.callS X0 hx (y := (⟨"com/example/licon/licon/search/OperatorTakesPinLaw", "pick", "(I)Lcom/example/licon/licon/search/Operator;"⟩ : MethodName)) hown (mvT hZ (hw _ (List.mem_of_getElem? (i := 0) rfl))) (mvT hZ (hw _ (List.mem_of_getElem? (i := 1) rfl))) (mvT hZ (hw _ (List.mem_of_getElem? (i := 2) rfl))) (mvT hZ (hw _ (List.mem_of_getElem? (i := 3) rfl))) (by decide) (backOf (W := 0) (rm_pick_27 l Z a0 hw w h0 n0 Z0 K u0 u1 u2) hZ (hw _ (List.mem_of_getElem? (i := 3) rfl)) (hw _ (List.mem_of_getElem? (i := 2) rfl)) (by decide) (by decide)) (g := (mkF m 21 #[.val (.int u0), .val (.int u1), .val (.int u2), .val (.int (2 : Int32)), .val (.int u1), .unset, .unset] [(.int (2 : Int32))])) rfl (by rw [hml]; rfl) (argsL := [(.int (2 : Int32))]) (rest := []) (lenOf pd_28I29Lcom2fexample2flicon2flicon2fsearch2fOperator3b rfl) rfl (by show 2 * 0 + _ ≤ _; exact Nat.le_of_eq rfl) (hb hby at_21) (fun _ _ => ⟨rfl, e0, (by decide : 0 + 0 ≤ _), (by decide : 0 + 0 ≤ _)⟩)
  dsimp only [Pt.U, Pt.locs, Pt.cells, Pt.slots] at X1 l1 y1 z1 st1 hQ1
  subst l1 y1 z1
  obtain ⟨rfl, N1q, e1⟩ := hQ1
  have N1 := Fr.app N0 N1q
  obtain ⟨cq2, kq2, qa2, qb2, qc2⟩ := isOf hZ e1 K.2.2.2.2.2.2.2.2.2.1
  obtain ⟨_, _, ⟨T2, L2, k2, n2⟩, -, X2, ⟨Lc2, hQ2, l2, y2, z2⟩, st2⟩ := X1.virtualBack hx (y := (⟨"com/example/licon/licon/search/Operator", "takes", "(I)Z"⟩ : MethodName)) (z := (⟨"com/example/licon/licon/search/Operator", "takes", "(I)Z"⟩ : MethodName)) hown (mvT hZ (hw _ (List.mem_of_getElem? (i := 7) rfl))) (mvT hZ (hw _ (List.mem_of_getElem? (i := 8) rfl))) (notFace_of_selects (args := #[]) (mvT hZ (hw _ (List.mem_of_getElem? (i := 10) rfl)))) (mvT hZ (hw _ (List.mem_of_getElem? (i := 10) rfl))) (mvT hZ (hw _ (List.mem_of_getElem? (i := 9) rfl))) (by decide) (backOf (W := 0) (rm_takes_30 l Z a0 hw w h0 n0 Z0 K u0 u1 u2 hf13) hZ (hw _ (List.mem_of_getElem? (i := 11) rfl)) (hw _ (List.mem_of_getElem? (i := 5) rfl)) (by decide) (by decide)) qa2 qc2 (g := (mkF m 84 #[.val (.int u0), .val (.int u1), .val (.int u2), .val (.int (2 : Int32)), .val (.int u1), .val (.ref (w 4)), .val (.int (0 : Int32))] [(.int u1), (.ref (w 4))])) rfl (by rw [hml]; rfl) (Steps.refl _) (argsL := [(.int u1)]) (rest := []) (lenOf pd_28I29Z rfl) rfl (by show 2 * 0 + _ ≤ _; exact Nat.le_of_eq rfl) (hb hby at_84) (fun _ _ => ⟨rfl, e1, (by decide : 0 + 0 ≤ _), (by decide : 0 + 0 ≤ _)⟩)
  dsimp only [Pt.U, Pt.locs, Pt.cells, Pt.slots] at X2 l2 y2 z2 st2 hQ2
  subst l2 y2 z2
  obtain ⟨rfl, N2q, e2⟩ := hQ2
  have N2 := Fr.app N1 N2q
  obtain ⟨fs, hr, hrun, hended, hW, hsame⟩ := X2.leave (v := (some (.int (1 : Int32)))) (fun h => by rw [Bd.returns] at h; cases h)
  refine ⟨_, _, pre0 _ ?_, hrun, hended, _, _, rfl, ?_, ⟨_, rfl⟩, hW, hsame.mono (by decide) (by decide)⟩
  · show Steps p.tables e below (s₁.setTop (mkF m 0 #[.val (.int u0), .val (.int u1), .val (.int u2), .unset, .unset, .unset, .unset] [])) _
    refine XS.iloadN X0.here hx rfl (hb hby at_0) rfl ?_
    refine XS.bipush X0.here hx rfl (hb hby at_1) ?_
    refine XS.iand X0.here hx rfl (hb hby at_3) rfl ?_
    show Steps p.tables e below (s₁.setTop (mkF m 4 #[.val (.int u0), .val (.int u1), .val (.int u2), .unset, .unset, .unset, .unset] [(.int (u0 &&& (7 : Int32)))])) _
    rw [hk0]
    show Steps p.tables e below (s₁.setTop (mkF m 4 #[.val (.int u0), .val (.int u1), .val (.int u2), .unset, .unset, .unset, .unset] [(.int (2 : Int32))])) _
    refine XS.istoreN X0.here hx rfl (hb hby at_4) rfl (l' := #[.val (.int u0), .val (.int u1), .val (.int u2), .val (.int (2 : Int32)), .unset, .unset, .unset]) rfl ?_
    refine XS.iloadN X0.here hx rfl (hb hby at_5) rfl ?_
    refine XS.iconst X0.here hx rfl (hb hby at_6) ?_
    refine XS.iand X0.here hx rfl (hb hby at_7) rfl ?_
    show Steps p.tables e below (s₁.setTop (mkF m 8 #[.val (.int u0), .val (.int u1), .val (.int u2), .val (.int (2 : Int32)), .unset, .unset, .unset] [(.int (u2 &&& (1 : Int32)))])) _
    refine XS.ifYes X0.here hx rfl (pc0 := 8) (pc' := 17) rfl (hb hby at_8) rfl ((if0 _ _).trans (teq hf11).1) (by decide) (by decide) ?_
    refine XS.iloadN X0.here hx rfl (hb hby at_17) rfl ?_
    refine XS.istore X0.here hx rfl (hb hby at_18) rfl (l' := #[.val (.int u0), .val (.int u1), .val (.int u2), .val (.int (2 : Int32)), .val (.int u1), .unset, .unset]) rfl ?_
    refine XS.iloadN X0.here hx rfl (hb hby at_20) rfl ?_
    show Steps p.tables e below (s₁.setTop (mkF m 21 #[.val (.int u0), .val (.int u1), .val (.int u2), .val (.int (2 : Int32)), .val (.int u1), .unset, .unset] [(.int (2 : Int32))])) _
    refine st1 _ ?_
    refine XS.astore X1.here hx rfl (hb hby at_24) rfl rfl (l' := #[.val (.int u0), .val (.int u1), .val (.int u2), .val (.int (2 : Int32)), .val (.int u1), .val (.ref (w 4)), .unset]) rfl ?_
    refine XS.iloadN X1.here hx rfl (hb hby at_26) rfl ?_
    refine XS.iconst X1.here hx rfl (hb hby at_27) ?_
    show Steps p.tables e below (T1.setTop (mkF m 28 #[.val (.int u0), .val (.int u1), .val (.int u2), .val (.int (2 : Int32)), .val (.int u1), .val (.ref (w 4)), .unset] [(.int (4 : Int32)), (.int (2 : Int32))])) _
    refine XS.icmpNo X1.here hx rfl (hb hby at_28) rfl (tlt (by decide : (2 : Int32) < (4 : Int32))).2.1 ?_
    refine XS.iload X1.here hx rfl (hb hby at_31) rfl ?_
    refine XS.iconst X1.here hx rfl (hb hby at_33) ?_
    refine XS.icmpYes X1.here hx rfl (pc0 := 34) (pc' := 41) rfl (hb hby at_34) rfl (feq hf12).2 (by decide) (by decide) ?_
    show Steps p.tables e below (T1.setTop (mkF m 41 #[.val (.int u0), .val (.int u1), .val (.int u2), .val (.int (2 : Int32)), .val (.int u1), .val (.ref (w 4)), .unset] [])) _
    refine XS.iconst X1.here hx rfl (hb hby at_41) ?_
    refine XS.istore X1.here hx rfl (hb hby at_42) rfl (l' := #[.val (.int u0), .val (.int u1), .val (.int u2), .val (.int (2 : Int32)), .val (.int u1), .val (.ref (w 4)), .val (.int (0 : Int32))]) rfl ?_
    refine XS.goto X1.here hx rfl (pc0 := 44) (pc' := 80) rfl (hb hby at_44) (by decide) (by decide) ?_
    refine XS.aload X1.here hx rfl (hb hby at_80) rfl rfl ?_
    show Steps p.tables e below (T1.setTop (mkF m 82 #[.val (.int u0), .val (.int u1), .val (.int u2), .val (.int (2 : Int32)), .val (.int u1), .val (.ref (w 4)), .val (.int (0 : Int32))] [(.ref (w 4))])) _
    refine XS.iload X1.here hx rfl (hb hby at_82) rfl ?_
    refine st2.trans ?_
    refine XS.iload X2.here hx rfl (hb hby at_87) rfl ?_
    refine XS.icmpNo X2.here hx rfl (hb hby at_89) rfl (teq (by decide : (0 : Int32) = (0 : Int32))).2 ?_
    show Steps p.tables e below (T2.setTop (mkF m 92 #[.val (.int u0), .val (.int u1), .val (.int u2), .val (.int (2 : Int32)), .val (.int u1), .val (.ref (w 4)), .val (.int (0 : Int32))] [])) _
    refine XS.iconst X2.here hx rfl (hb hby at_92) ?_
    refine XS.goto X2.here hx rfl (pc0 := 93) (pc' := 97) rfl (hb hby at_93) (by decide) (by decide) ?_
    show Steps p.tables e below (T2.setTop (mkF m 97 #[.val (.int u0), .val (.int u1), .val (.int u2), .val (.int (2 : Int32)), .val (.int u1), .val (.ref (w 4)), .val (.int (0 : Int32))] [(.int (1 : Int32))])) _
    exact retN X2 hx (t := .boolean) Bd.returns (by simp) (hb hby at_97) hr
  · exact ⟨rfl, N2, e2⟩
set_option maxRecDepth 65536 in
set_option maxHeartbeats 40000000 in
theorem rm_takes_32 (l : Launch) (Z : State) (a0 : Array Value) (hw : ∀ d ∈ tables_1, d.before a0 Z = true) (w : Nat → Addr) (h0 : Heap) (n0 : Nat) (Z0 : n0 ≤ h0.size) (K : Kon Z h0 w) (u0 u1 u2 : Int32) (hf12 : ¬ (u1 = (1 : Int32))) (hf13 : ¬ (u1 < (1 : Int32))) :
    OM l Z (⟨"com/example/licon/licon/search/Operator", "takes", "(I)Z"⟩ : MethodName) prog_9_method_4_code 2 (some .boolean) [] ({ frames := 0, cells := 0, slots := 0, locals := 0 } : Room) #[(.ref (w 4)), (.int u1)] h0 (OP (some (.int (0 : Int32))) n0 h0) := by
  refine MetFree.of_bodySF (plainFor_of_name pn_com_example_licon_licon_search_Operator) hisR ?_
  intro p e s m args below meth c s₁ Bd hml0 hP hK
  obtain ⟨rfl, hZ, hh⟩ := hP
  have hx := Bd.exec
  have hby := Bd.bytes
  have hml : c.maxLocals = 2 := hml0
  have hown : s.vm.findClass "com/example/licon/licon/search/Operator" = some m.cls := findClass_of_methodNamed Bd.named
  have X0 : Stand p l e ({ frames := 0, cells := 0, slots := 0, locals := 0 } : Room) s m #[(.ref (w 4)), (.int u1)] below meth c s₁ [] 0 0 := Stand.of_body Bd
  have e0 : s₁.heap = h0 := by rw [← hh, Bd.state]; rfl
  have N0 := Fr.nil n0
  have pre0 : ∀ t, Steps p.tables e below (s₁.setTop (mkF m 0 #[.val (.ref (w 4)), .val (.int u1)] [])) t → Steps p.tables e below (s₁.setTop (entryFrame m #[(.ref (w 4)), (.int u1)] 2)) t := fun t k => castTop (by first | rfl | simp [entryFrame, mkF, argsToLocals, Value.category]) k
  obtain ⟨T1, X1, e1, st1⟩ := getF X0 hx hZ hown (host := "") (Or.inl (hw _ (List.mem_of_getElem? (i := 12) rfl))) Via.refl e0 K.2.2.2.2.2.2.2.2.2.2.2.2.2.2.2.2.2.2.2.2.2.2.2.1 (g := (mkF m 2 #[.val (.ref (w 4)), .val (.int u1)] [(.ref (w 4)), (.int u1)])) rfl rfl (hb hby d_prog_9_method_4_code_2)
  obtain ⟨T2, X2, e2, st2⟩ := getF X1 hx hZ hown (host := "") (Or.inl (hw _ (List.mem_of_getElem? (i := 14) rfl))) Via.refl e1 K.2.2.2.2.2.2.2.2.2.2.2.2.2.2.2.2.2.2.2.2.2.2.2.2.2.2.1 (g := (mkF m 10 #[.val (.ref (w 4)), .val (.int u1)] [(.ref (w 4)), (.int u1)])) rfl rfl (hb hby d_prog_9_method_4_code_10)
  obtain ⟨fs, hr, hrun, hended, hW, hsame⟩ := X2.leave (v := (some (.int (0 : Int32)))) (fun h => by rw [Bd.returns] at h; cases h)
  refine ⟨_, _, pre0 _ ?_, hrun, hended, _, _, rfl, ?_, ⟨_, rfl⟩, hW, hsame.mono (by decide) (by decide)⟩
  · show Steps p.tables e below (s₁.setTop (mkF m 0 #[.val (.ref (w 4)), .val (.int u1)] [])) _
    refine XS.iloadN X0.here hx rfl (hb hby d_prog_9_method_4_code_0) rfl ?_
    refine XS.aloadN X0.here hx rfl (hb hby d_prog_9_method_4_code_1) rfl rfl ?_
    refine st1 _ ?_
    refine XS.icmpNo X1.here hx rfl (hb hby d_prog_9_method_4_code_5) rfl (flt hf13).1 ?_
    show Steps p.tables e below (T1.setTop (mkF m 8 #[.val (.ref (w 4)), .val (.int u1)] [])) _
    refine XS.iloadN X1.here hx rfl (hb hby d_prog_9_method_4_code_8) rfl ?_
    refine XS.aloadN X1.here hx rfl (hb hby d_prog_9_method_4_code_9) rfl rfl ?_
    refine st2 _ ?_
    refine XS.icmpYes X2.here hx rfl (pc0 := 13) (pc' := 20) rfl (hb hby d_prog_9_method_4_code_13) rfl (tlt (by have z0 := mt Int32.toInt_inj.mp hf12; have z1 := mt Int32.lt_iff_toInt_lt.mpr hf13; have l0 : (1 : Int32).toInt = 1 := rfl; have r0 := rng32 u1; exact Int32.lt_iff_toInt_lt.mpr (by omega) : (1 : Int32) < u1)).2.2.1 (by decide) (by decide) ?_
    show Steps p.tables e below (T2.setTop (mkF m 20 #[.val (.ref (w 4)), .val (.int u1)] [])) _
    refine XS.iconst X2.here hx rfl (hb hby d_prog_9_method_4_code_20) ?_
    show Steps p.tables e below (T2.setTop (mkF m 21 #[.val (.ref (w 4)), .val (.int u1)] [(.int (0 : Int32))])) _
    exact retN X2 hx (t := .boolean) Bd.returns (by simp) (hb hby d_prog_9_method_4_code_21) hr
  · exact ⟨rfl, N0, e2⟩
set_option maxRecDepth 65536 in
set_option maxHeartbeats 40000000 in
theorem rm0_33 (l : Launch) (Z : State) (a0 : Array Value) (hw : ∀ d ∈ tables_1, d.before a0 Z = true) (w : Nat → Addr) (h0 : Heap) (n0 : Nat) (Z0 : n0 ≤ h0.size) (K : Kon Z h0 w) (u0 u1 u2 : Int32) (hf11 : (u2 &&& (1 : Int32)) = (0 : Int32)) (hf12 : ¬ (u1 = (1 : Int32))) (hf13 : ¬ (u1 < (1 : Int32))) (hk0 : (u0 &&& (7 : Int32)) = (2 : Int32)) :
    OM l Z x code maxLocals ret tables_1 room_1 #[(.int u0), (.int u1), (.int u2)] h0 (OP (some (.int (1 : Int32))) n0 h0) := by
  refine MetFree.of_bodySF (plainFor_of_name pn_com_example_licon_licon_search_OperatorTakesPinLaw) hisR ?_
  intro p e s m args below meth c s₁ Bd hml0 hP hK
  obtain ⟨rfl, hZ, hh⟩ := hP
  have hx := Bd.exec
  have hby := Bd.bytes
  have hml : c.maxLocals = 7 := hml0
  have hown : s.vm.findClass "com/example/licon/licon/search/OperatorTakesPinLaw" = some m.cls := findClass_of_methodNamed Bd.named
  have X0 : Stand p l e room_1 s m #[(.int u0), (.int u1), (.int u2)] below meth c s₁ [] 0 0 := Stand.of_body Bd
  have e0 : s₁.heap = h0 := by rw [← hh, Bd.state]; rfl
  have N0 := Fr.nil n0
  have pre0 : ∀ t, Steps p.tables e below (s₁.setTop (mkF m 0 #[.val (.int u0), .val (.int u1), .val (.int u2), .unset, .unset, .unset, .unset] [])) t → Steps p.tables e below (s₁.setTop (entryFrame m #[(.int u0), (.int u1), (.int u2)] maxLocals)) t := fun t k => castTop (by first | rfl | simp [entryFrame, mkF, argsToLocals, Value.category, maxLocals]) k
  obtain ⟨_, _, ⟨T1, L1, k1, n1⟩, -, X1, ⟨Lc1, hQ1, l1, y1, z1⟩, st1⟩ := Jvm.LawKit.callS X0 hx (y := (⟨"com/example/licon/licon/search/OperatorTakesPinLaw", "pick", "(I)Lcom/example/licon/licon/search/Operator;"⟩ : MethodName)) hown (mvT hZ (hw _ (List.mem_of_getElem? (i := 0) rfl))) (mvT hZ (hw _ (List.mem_of_getElem? (i := 1) rfl))) (mvT hZ (hw _ (List.mem_of_getElem? (i := 2) rfl))) (mvT hZ (hw _ (List.mem_of_getElem? (i := 3) rfl))) (by decide) (backOf (W := 0) (rm_pick_27 l Z a0 hw w h0 n0 Z0 K u0 u1 u2) hZ (hw _ (List.mem_of_getElem? (i := 3) rfl)) (hw _ (List.mem_of_getElem? (i := 2) rfl)) (by decide) (by decide)) (g := (mkF m 21 #[.val (.int u0), .val (.int u1), .val (.int u2), .val (.int (2 : Int32)), .val (.int u1), .unset, .unset] [(.int (2 : Int32))])) rfl (by rw [hml]; rfl) (argsL := [(.int (2 : Int32))]) (rest := []) (lenOf pd_28I29Lcom2fexample2flicon2flicon2fsearch2fOperator3b rfl) rfl (by show 2 * 0 + _ ≤ _; exact Nat.le_of_eq rfl) (hb hby at_21) (fun _ _ => ⟨rfl, e0, (by decide : 0 + 0 ≤ _), (by decide : 0 + 0 ≤ _)⟩)
  dsimp only [Pt.U, Pt.locs, Pt.cells, Pt.slots] at X1 l1 y1 z1 st1 hQ1
  subst l1 y1 z1
  obtain ⟨rfl, N1q, e1⟩ := hQ1
  have N1 := Fr.app N0 N1q
  obtain ⟨cq2, kq2, qa2, qb2, qc2⟩ := isOf hZ e1 K.2.2.2.2.2.2.2.2.2.1
  obtain ⟨_, _, ⟨T2, L2, k2, n2⟩, -, X2, ⟨Lc2, hQ2, l2, y2, z2⟩, st2⟩ := X1.virtualBack hx (y := (⟨"com/example/licon/licon/search/Operator", "takes", "(I)Z"⟩ : MethodName)) (z := (⟨"com/example/licon/licon/search/Operator", "takes", "(I)Z"⟩ : MethodName)) hown (mvT hZ (hw _ (List.mem_of_getElem? (i := 7) rfl))) (mvT hZ (hw _ (List.mem_of_getElem? (i := 8) rfl))) (notFace_of_selects (args := #[]) (mvT hZ (hw _ (List.mem_of_getElem? (i := 10) rfl)))) (mvT hZ (hw _ (List.mem_of_getElem? (i := 10) rfl))) (mvT hZ (hw _ (List.mem_of_getElem? (i := 9) rfl))) (by decide) (backOf (W := 0) (rm_takes_32 l Z a0 hw w h0 n0 Z0 K u0 u1 u2 hf12 hf13) hZ (hw _ (List.mem_of_getElem? (i := 11) rfl)) (hw _ (List.mem_of_getElem? (i := 5) rfl)) (by decide) (by decide)) qa2 qc2 (g := (mkF m 84 #[.val (.int u0), .val (.int u1), .val (.int u2), .val (.int (2 : Int32)), .val (.int u1), .val (.ref (w 4)), .val (.int (0 : Int32))] [(.int u1), (.ref (w 4))])) rfl (by rw [hml]; rfl) (Steps.refl _) (argsL := [(.int u1)]) (rest := []) (lenOf pd_28I29Z rfl) rfl (by show 2 * 0 + _ ≤ _; exact Nat.le_of_eq rfl) (hb hby at_84) (fun _ _ => ⟨rfl, e1, (by decide : 0 + 0 ≤ _), (by decide : 0 + 0 ≤ _)⟩)
  dsimp only [Pt.U, Pt.locs, Pt.cells, Pt.slots] at X2 l2 y2 z2 st2 hQ2
  subst l2 y2 z2
  obtain ⟨rfl, N2q, e2⟩ := hQ2
  have N2 := Fr.app N1 N2q
  obtain ⟨fs, hr, hrun, hended, hW, hsame⟩ := X2.leave (v := (some (.int (1 : Int32)))) (fun h => by rw [Bd.returns] at h; cases h)
  refine ⟨_, _, pre0 _ ?_, hrun, hended, _, _, rfl, ?_, ⟨_, rfl⟩, hW, hsame.mono (by decide) (by decide)⟩
  · show Steps p.tables e below (s₁.setTop (mkF m 0 #[.val (.int u0), .val (.int u1), .val (.int u2), .unset, .unset, .unset, .unset] [])) _
    refine XS.iloadN X0.here hx rfl (hb hby at_0) rfl ?_
    refine XS.bipush X0.here hx rfl (hb hby at_1) ?_
    refine XS.iand X0.here hx rfl (hb hby at_3) rfl ?_
    show Steps p.tables e below (s₁.setTop (mkF m 4 #[.val (.int u0), .val (.int u1), .val (.int u2), .unset, .unset, .unset, .unset] [(.int (u0 &&& (7 : Int32)))])) _
    rw [hk0]
    show Steps p.tables e below (s₁.setTop (mkF m 4 #[.val (.int u0), .val (.int u1), .val (.int u2), .unset, .unset, .unset, .unset] [(.int (2 : Int32))])) _
    refine XS.istoreN X0.here hx rfl (hb hby at_4) rfl (l' := #[.val (.int u0), .val (.int u1), .val (.int u2), .val (.int (2 : Int32)), .unset, .unset, .unset]) rfl ?_
    refine XS.iloadN X0.here hx rfl (hb hby at_5) rfl ?_
    refine XS.iconst X0.here hx rfl (hb hby at_6) ?_
    refine XS.iand X0.here hx rfl (hb hby at_7) rfl ?_
    show Steps p.tables e below (s₁.setTop (mkF m 8 #[.val (.int u0), .val (.int u1), .val (.int u2), .val (.int (2 : Int32)), .unset, .unset, .unset] [(.int (u2 &&& (1 : Int32)))])) _
    refine XS.ifYes X0.here hx rfl (pc0 := 8) (pc' := 17) rfl (hb hby at_8) rfl ((if0 _ _).trans (teq hf11).1) (by decide) (by decide) ?_
    refine XS.iloadN X0.here hx rfl (hb hby at_17) rfl ?_
    refine XS.istore X0.here hx rfl (hb hby at_18) rfl (l' := #[.val (.int u0), .val (.int u1), .val (.int u2), .val (.int (2 : Int32)), .val (.int u1), .unset, .unset]) rfl ?_
    refine XS.iloadN X0.here hx rfl (hb hby at_20) rfl ?_
    show Steps p.tables e below (s₁.setTop (mkF m 21 #[.val (.int u0), .val (.int u1), .val (.int u2), .val (.int (2 : Int32)), .val (.int u1), .unset, .unset] [(.int (2 : Int32))])) _
    refine st1 _ ?_
    refine XS.astore X1.here hx rfl (hb hby at_24) rfl rfl (l' := #[.val (.int u0), .val (.int u1), .val (.int u2), .val (.int (2 : Int32)), .val (.int u1), .val (.ref (w 4)), .unset]) rfl ?_
    refine XS.iloadN X1.here hx rfl (hb hby at_26) rfl ?_
    refine XS.iconst X1.here hx rfl (hb hby at_27) ?_
    show Steps p.tables e below (T1.setTop (mkF m 28 #[.val (.int u0), .val (.int u1), .val (.int u2), .val (.int (2 : Int32)), .val (.int u1), .val (.ref (w 4)), .unset] [(.int (4 : Int32)), (.int (2 : Int32))])) _
    refine XS.icmpNo X1.here hx rfl (hb hby at_28) rfl (tlt (by decide : (2 : Int32) < (4 : Int32))).2.1 ?_
    refine XS.iload X1.here hx rfl (hb hby at_31) rfl ?_
    refine XS.iconst X1.here hx rfl (hb hby at_33) ?_
    refine XS.icmpYes X1.here hx rfl (pc0 := 34) (pc' := 41) rfl (hb hby at_34) rfl (feq hf12).2 (by decide) (by decide) ?_
    show Steps p.tables e below (T1.setTop (mkF m 41 #[.val (.int u0), .val (.int u1), .val (.int u2), .val (.int (2 : Int32)), .val (.int u1), .val (.ref (w 4)), .unset] [])) _
    refine XS.iconst X1.here hx rfl (hb hby at_41) ?_
    refine XS.istore X1.here hx rfl (hb hby at_42) rfl (l' := #[.val (.int u0), .val (.int u1), .val (.int u2), .val (.int (2 : Int32)), .val (.int u1), .val (.ref (w 4)), .val (.int (0 : Int32))]) rfl ?_
    refine XS.goto X1.here hx rfl (pc0 := 44) (pc' := 80) rfl (hb hby at_44) (by decide) (by decide) ?_
    refine XS.aload X1.here hx rfl (hb hby at_80) rfl rfl ?_
    show Steps p.tables e below (T1.setTop (mkF m 82 #[.val (.int u0), .val (.int u1), .val (.int u2), .val (.int (2 : Int32)), .val (.int u1), .val (.ref (w 4)), .val (.int (0 : Int32))] [(.ref (w 4))])) _
    refine XS.iload X1.here hx rfl (hb hby at_82) rfl ?_
    refine st2.trans ?_
    refine XS.iload X2.here hx rfl (hb hby at_87) rfl ?_
    refine XS.icmpNo X2.here hx rfl (hb hby at_89) rfl (teq (by decide : (0 : Int32) = (0 : Int32))).2 ?_
    show Steps p.tables e below (T2.setTop (mkF m 92 #[.val (.int u0), .val (.int u1), .val (.int u2), .val (.int (2 : Int32)), .val (.int u1), .val (.ref (w 4)), .val (.int (0 : Int32))] [])) _
    refine XS.iconst X2.here hx rfl (hb hby at_92) ?_
    refine XS.goto X2.here hx rfl (pc0 := 93) (pc' := 97) rfl (hb hby at_93) (by decide) (by decide) ?_
    show Steps p.tables e below (T2.setTop (mkF m 97 #[.val (.int u0), .val (.int u1), .val (.int u2), .val (.int (2 : Int32)), .val (.int u1), .val (.ref (w 4)), .val (.int (0 : Int32))] [(.int (1 : Int32))])) _
    exact retN X2 hx (t := .boolean) Bd.returns (by simp) (hb hby at_97) hr
  · exact ⟨rfl, N2, e2⟩
set_option maxRecDepth 65536 in
set_option maxHeartbeats 40000000 in
theorem rm_takes_34 (l : Launch) (Z : State) (a0 : Array Value) (hw : ∀ d ∈ tables_1, d.before a0 Z = true) (w : Nat → Addr) (h0 : Heap) (n0 : Nat) (Z0 : n0 ≤ h0.size) (K : Kon Z h0 w) (u0 u1 u2 : Int32) (hf14 : (u1 % (4 : Int32)) = (1 : Int32)) :
    OM l Z (⟨"com/example/licon/licon/search/Operator", "takes", "(I)Z"⟩ : MethodName) prog_9_method_4_code 2 (some .boolean) [] ({ frames := 0, cells := 0, slots := 0, locals := 0 } : Room) #[(.ref (w 4)), (.int (u1 % (4 : Int32)))] h0 (OP (some (.int (1 : Int32))) n0 h0) := by
  refine MetFree.of_bodySF (plainFor_of_name pn_com_example_licon_licon_search_Operator) hisR ?_
  intro p e s m args below meth c s₁ Bd hml0 hP hK
  obtain ⟨rfl, hZ, hh⟩ := hP
  have hx := Bd.exec
  have hby := Bd.bytes
  have hml : c.maxLocals = 2 := hml0
  have hown : s.vm.findClass "com/example/licon/licon/search/Operator" = some m.cls := findClass_of_methodNamed Bd.named
  have X0 : Stand p l e ({ frames := 0, cells := 0, slots := 0, locals := 0 } : Room) s m #[(.ref (w 4)), (.int (u1 % (4 : Int32)))] below meth c s₁ [] 0 0 := Stand.of_body Bd
  have e0 : s₁.heap = h0 := by rw [← hh, Bd.state]; rfl
  have N0 := Fr.nil n0
  have pre0 : ∀ t, Steps p.tables e below (s₁.setTop (mkF m 0 #[.val (.ref (w 4)), .val (.int (u1 % (4 : Int32)))] [])) t → Steps p.tables e below (s₁.setTop (entryFrame m #[(.ref (w 4)), (.int (u1 % (4 : Int32)))] 2)) t := fun t k => castTop (by first | rfl | simp [entryFrame, mkF, argsToLocals, Value.category]) k
  obtain ⟨T1, X1, e1, st1⟩ := getF X0 hx hZ hown (host := "") (Or.inl (hw _ (List.mem_of_getElem? (i := 12) rfl))) Via.refl e0 K.2.2.2.2.2.2.2.2.2.2.2.2.2.2.2.2.2.2.2.2.2.2.2.1 (g := (mkF m 2 #[.val (.ref (w 4)), .val (.int (u1 % (4 : Int32)))] [(.ref (w 4)), (.int (u1 % (4 : Int32)))])) rfl rfl (hb hby d_prog_9_method_4_code_2)
  obtain ⟨T2, X2, e2, st2⟩ := getF X1 hx hZ hown (host := "") (Or.inl (hw _ (List.mem_of_getElem? (i := 14) rfl))) Via.refl e1 K.2.2.2.2.2.2.2.2.2.2.2.2.2.2.2.2.2.2.2.2.2.2.2.2.2.2.1 (g := (mkF m 10 #[.val (.ref (w 4)), .val (.int (u1 % (4 : Int32)))] [(.ref (w 4)), (.int (u1 % (4 : Int32)))])) rfl rfl (hb hby d_prog_9_method_4_code_10)
  obtain ⟨fs, hr, hrun, hended, hW, hsame⟩ := X2.leave (v := (some (.int (1 : Int32)))) (fun h => by rw [Bd.returns] at h; cases h)
  refine ⟨_, _, pre0 _ ?_, hrun, hended, _, _, rfl, ?_, ⟨_, rfl⟩, hW, hsame.mono (by decide) (by decide)⟩
  · show Steps p.tables e below (s₁.setTop (mkF m 0 #[.val (.ref (w 4)), .val (.int (u1 % (4 : Int32)))] [])) _
    refine XS.iloadN X0.here hx rfl (hb hby d_prog_9_method_4_code_0) rfl ?_
    refine XS.aloadN X0.here hx rfl (hb hby d_prog_9_method_4_code_1) rfl rfl ?_
    refine st1 _ ?_
    refine XS.icmpNo X1.here hx rfl (hb hby d_prog_9_method_4_code_5) rfl (flt (by have z0 := congrArg Int32.toInt hf14; have l0 : (1 : Int32).toInt = 1 := rfl; have r0 := rng32 (u1 % (4 : Int32)); exact fun hh => absurd (Int32.lt_iff_toInt_lt.mp hh) (by omega) : ¬ ((u1 % (4 : Int32)) < (1 : Int32)))).1 ?_
    show Steps p.tables e below (T1.setTop (mkF m 8 #[.val (.ref (w 4)), .val (.int (u1 % (4 : Int32)))] [])) _
    refine XS.iloadN X1.here hx rfl (hb hby d_prog_9_method_4_code_8) rfl ?_
    refine XS.aloadN X1.here hx rfl (hb hby d_prog_9_method_4_code_9) rfl rfl ?_
    refine st2 _ ?_
    refine XS.icmpNo X2.here hx rfl (hb hby d_prog_9_method_4_code_13) rfl (flt (by have z0 := congrArg Int32.toInt hf14; have l0 : (1 : Int32).toInt = 1 := rfl; have r0 := rng32 (u1 % (4 : Int32)); exact fun hh => absurd (Int32.lt_iff_toInt_lt.mp hh) (by omega) : ¬ ((1 : Int32) < (u1 % (4 : Int32))))).2.2.1 ?_
    show Steps p.tables e below (T2.setTop (mkF m 16 #[.val (.ref (w 4)), .val (.int (u1 % (4 : Int32)))] [])) _
    refine XS.iconst X2.here hx rfl (hb hby d_prog_9_method_4_code_16) ?_
    refine XS.goto X2.here hx rfl (pc0 := 17) (pc' := 21) rfl (hb hby d_prog_9_method_4_code_17) (by decide) (by decide) ?_
    show Steps p.tables e below (T2.setTop (mkF m 21 #[.val (.ref (w 4)), .val (.int (u1 % (4 : Int32)))] [(.int (1 : Int32))])) _
    exact retN X2 hx (t := .boolean) Bd.returns (by simp) (hb hby d_prog_9_method_4_code_21) hr
  · exact ⟨rfl, N0, e2⟩
set_option maxRecDepth 65536 in
set_option maxHeartbeats 40000000 in
theorem rm0_35 (l : Launch) (Z : State) (a0 : Array Value) (hw : ∀ d ∈ tables_1, d.before a0 Z = true) (w : Nat → Addr) (h0 : Heap) (n0 : Nat) (Z0 : n0 ≤ h0.size) (K : Kon Z h0 w) (u0 u1 u2 : Int32) (hf11 : ¬ ((u2 &&& (1 : Int32)) = (0 : Int32))) (hf14 : (u1 % (4 : Int32)) = (1 : Int32)) (hk0 : (u0 &&& (7 : Int32)) = (2 : Int32)) :
    OM l Z x code maxLocals ret tables_1 room_1 #[(.int u0), (.int u1), (.int u2)] h0 (OP (some (.int (1 : Int32))) n0 h0) := by
  refine MetFree.of_bodySF (plainFor_of_name pn_com_example_licon_licon_search_OperatorTakesPinLaw) hisR ?_
  intro p e s m args below meth c s₁ Bd hml0 hP hK
  obtain ⟨rfl, hZ, hh⟩ := hP
  have hx := Bd.exec
  have hby := Bd.bytes
  have hml : c.maxLocals = 7 := hml0
  have hown : s.vm.findClass "com/example/licon/licon/search/OperatorTakesPinLaw" = some m.cls := findClass_of_methodNamed Bd.named
  have X0 : Stand p l e room_1 s m #[(.int u0), (.int u1), (.int u2)] below meth c s₁ [] 0 0 := Stand.of_body Bd
  have e0 : s₁.heap = h0 := by rw [← hh, Bd.state]; rfl
  have N0 := Fr.nil n0
  have pre0 : ∀ t, Steps p.tables e below (s₁.setTop (mkF m 0 #[.val (.int u0), .val (.int u1), .val (.int u2), .unset, .unset, .unset, .unset] [])) t → Steps p.tables e below (s₁.setTop (entryFrame m #[(.int u0), (.int u1), (.int u2)] maxLocals)) t := fun t k => castTop (by first | rfl | simp [entryFrame, mkF, argsToLocals, Value.category, maxLocals]) k
  obtain ⟨_, _, ⟨T1, L1, k1, n1⟩, -, X1, ⟨Lc1, hQ1, l1, y1, z1⟩, st1⟩ := Jvm.LawKit.callS X0 hx (y := (⟨"com/example/licon/licon/search/OperatorTakesPinLaw", "pick", "(I)Lcom/example/licon/licon/search/Operator;"⟩ : MethodName)) hown (mvT hZ (hw _ (List.mem_of_getElem? (i := 0) rfl))) (mvT hZ (hw _ (List.mem_of_getElem? (i := 1) rfl))) (mvT hZ (hw _ (List.mem_of_getElem? (i := 2) rfl))) (mvT hZ (hw _ (List.mem_of_getElem? (i := 3) rfl))) (by decide) (backOf (W := 0) (rm_pick_27 l Z a0 hw w h0 n0 Z0 K u0 u1 u2) hZ (hw _ (List.mem_of_getElem? (i := 3) rfl)) (hw _ (List.mem_of_getElem? (i := 2) rfl)) (by decide) (by decide)) (g := (mkF m 21 #[.val (.int u0), .val (.int u1), .val (.int u2), .val (.int (2 : Int32)), .val (.int (u1 % (4 : Int32))), .unset, .unset] [(.int (2 : Int32))])) rfl (by rw [hml]; rfl) (argsL := [(.int (2 : Int32))]) (rest := []) (lenOf pd_28I29Lcom2fexample2flicon2flicon2fsearch2fOperator3b rfl) rfl (by show 2 * 0 + _ ≤ _; exact Nat.le_of_eq rfl) (hb hby at_21) (fun _ _ => ⟨rfl, e0, (by decide : 0 + 0 ≤ _), (by decide : 0 + 0 ≤ _)⟩)
  dsimp only [Pt.U, Pt.locs, Pt.cells, Pt.slots] at X1 l1 y1 z1 st1 hQ1
  subst l1 y1 z1
  obtain ⟨rfl, N1q, e1⟩ := hQ1
  have N1 := Fr.app N0 N1q
  obtain ⟨cq2, kq2, qa2, qb2, qc2⟩ := isOf hZ e1 K.2.2.2.2.2.2.2.2.2.1
  obtain ⟨_, _, ⟨T2, L2, k2, n2⟩, -, X2, ⟨Lc2, hQ2, l2, y2, z2⟩, st2⟩ := X1.virtualBack hx (y := (⟨"com/example/licon/licon/search/Operator", "takes", "(I)Z"⟩ : MethodName)) (z := (⟨"com/example/licon/licon/search/Operator", "takes", "(I)Z"⟩ : MethodName)) hown (mvT hZ (hw _ (List.mem_of_getElem? (i := 7) rfl))) (mvT hZ (hw _ (List.mem_of_getElem? (i := 8) rfl))) (notFace_of_selects (args := #[]) (mvT hZ (hw _ (List.mem_of_getElem? (i := 10) rfl)))) (mvT hZ (hw _ (List.mem_of_getElem? (i := 10) rfl))) (mvT hZ (hw _ (List.mem_of_getElem? (i := 9) rfl))) (by decide) (backOf (W := 0) (rm_takes_34 l Z a0 hw w h0 n0 Z0 K u0 u1 u2 hf14) hZ (hw _ (List.mem_of_getElem? (i := 11) rfl)) (hw _ (List.mem_of_getElem? (i := 5) rfl)) (by decide) (by decide)) qa2 qc2 (g := (mkF m 84 #[.val (.int u0), .val (.int u1), .val (.int u2), .val (.int (2 : Int32)), .val (.int (u1 % (4 : Int32))), .val (.ref (w 4)), .val (.int (1 : Int32))] [(.int (u1 % (4 : Int32))), (.ref (w 4))])) rfl (by rw [hml]; rfl) (Steps.refl _) (argsL := [(.int (u1 % (4 : Int32)))]) (rest := []) (lenOf pd_28I29Z rfl) rfl (by show 2 * 0 + _ ≤ _; exact Nat.le_of_eq rfl) (hb hby at_84) (fun _ _ => ⟨rfl, e1, (by decide : 0 + 0 ≤ _), (by decide : 0 + 0 ≤ _)⟩)
  dsimp only [Pt.U, Pt.locs, Pt.cells, Pt.slots] at X2 l2 y2 z2 st2 hQ2
  subst l2 y2 z2
  obtain ⟨rfl, N2q, e2⟩ := hQ2
  have N2 := Fr.app N1 N2q
  obtain ⟨fs, hr, hrun, hended, hW, hsame⟩ := X2.leave (v := (some (.int (1 : Int32)))) (fun h => by rw [Bd.returns] at h; cases h)
  refine ⟨_, _, pre0 _ ?_, hrun, hended, _, _, rfl, ?_, ⟨_, rfl⟩, hW, hsame.mono (by decide) (by decide)⟩
  · show Steps p.tables e below (s₁.setTop (mkF m 0 #[.val (.int u0), .val (.int u1), .val (.int u2), .unset, .unset, .unset, .unset] [])) _
    refine XS.iloadN X0.here hx rfl (hb hby at_0) rfl ?_
    refine XS.bipush X0.here hx rfl (hb hby at_1) ?_
    refine XS.iand X0.here hx rfl (hb hby at_3) rfl ?_
    show Steps p.tables e below (s₁.setTop (mkF m 4 #[.val (.int u0), .val (.int u1), .val (.int u2), .unset, .unset, .unset, .unset] [(.int (u0 &&& (7 : Int32)))])) _
    rw [hk0]
    show Steps p.tables e below (s₁.setTop (mkF m 4 #[.val (.int u0), .val (.int u1), .val (.int u2), .unset, .unset, .unset, .unset] [(.int (2 : Int32))])) _
    refine XS.istoreN X0.here hx rfl (hb hby at_4) rfl (l' := #[.val (.int u0), .val (.int u1), .val (.int u2), .val (.int (2 : Int32)), .unset, .unset, .unset]) rfl ?_
    refine XS.iloadN X0.here hx rfl (hb hby at_5) rfl ?_
    refine XS.iconst X0.here hx rfl (hb hby at_6) ?_
    refine XS.iand X0.here hx rfl (hb hby at_7) rfl ?_
    show Steps p.tables e below (s₁.setTop (mkF m 8 #[.val (.int u0), .val (.int u1), .val (.int u2), .val (.int (2 : Int32)), .unset, .unset, .unset] [(.int (u2 &&& (1 : Int32)))])) _
    refine XS.ifNo X0.here hx rfl (hb hby at_8) rfl ((if0 _ _).trans (feq hf11).1) ?_
    refine XS.iloadN X0.here hx rfl (hb hby at_11) rfl ?_
    refine XS.iconst X0.here hx rfl (hb hby at_12) ?_
    refine iremM X0 hx rfl (hb hby at_13) rfl (by decide : ¬ ((4 : Int32) = (0 : Int32))) ?_
    show Steps p.tables e below (s₁.setTop (mkF m 14 #[.val (.int u0), .val (.int u1), .val (.int u2), .val (.int (2 : Int32)), .unset, .unset, .unset] [(.int (u1 % (4 : Int32)))])) _
    refine XS.goto X0.here hx rfl (pc0 := 14) (pc' := 18) rfl (hb hby at_14) (by decide) (by decide) ?_
    refine XS.istore X0.here hx rfl (hb hby at_18) rfl (l' := #[.val (.int u0), .val (.int u1), .val (.int u2), .val (.int (2 : Int32)), .val (.int (u1 % (4 : Int32))), .unset, .unset]) rfl ?_
    refine XS.iloadN X0.here hx rfl (hb hby at_20) rfl ?_
    refine st1 _ ?_
    show Steps p.tables e below (T1.setTop (mkF m 24 #[.val (.int u0), .val (.int u1), .val (.int u2), .val (.int (2 : Int32)), .val (.int (u1 % (4 : Int32))), .unset, .unset] [(.ref (w 4))])) _
    refine XS.astore X1.here hx rfl (hb hby at_24) rfl rfl (l' := #[.val (.int u0), .val (.int u1), .val (.int u2), .val (.int (2 : Int32)), .val (.int (u1 % (4 : Int32))), .val (.ref (w 4)), .unset]) rfl ?_
    refine XS.iloadN X1.here hx rfl (hb hby at_26) rfl ?_
    refine XS.iconst X1.here hx rfl (hb hby at_27) ?_
    refine XS.icmpNo X1.here hx rfl (hb hby at_28) rfl (tlt (by decide : (2 : Int32) < (4 : Int32))).2.1 ?_
    show Steps p.tables e below (T1.setTop (mkF m 31 #[.val (.int u0), .val (.int u1), .val (.int u2), .val (.int (2 : Int32)), .val (.int (u1 % (4 : Int32))), .val (.ref (w 4)), .unset] [])) _
    refine XS.iload X1.here hx rfl (hb hby at_31) rfl ?_
    refine XS.iconst X1.here hx rfl (hb hby at_33) ?_
    refine XS.icmpNo X1.here hx rfl (hb hby at_34) rfl (teq hf14).2 ?_
    refine XS.iconst X1.here hx rfl (hb hby at_37) ?_
    show Steps p.tables e below (T1.setTop (mkF m 38 #[.val (.int u0), .val (.int u1), .val (.int u2), .val (.int (2 : Int32)), .val (.int (u1 % (4 : Int32))), .val (.ref (w 4)), .unset] [(.int (1 : Int32))])) _
    refine XS.goto X1.here hx rfl (pc0 := 38) (pc' := 42) rfl (hb hby at_38) (by decide) (by decide) ?_
    refine XS.istore X1.here hx rfl (hb hby at_42) rfl (l' := #[.val (.int u0), .val (.int u1), .val (.int u2), .val (.int (2 : Int32)), .val (.int (u1 % (4 : Int32))), .val (.ref (w 4)), .val (.int (1 : Int32))]) rfl ?_
    refine XS.goto X1.here hx rfl (pc0 := 44) (pc' := 80) rfl (hb hby at_44) (by decide) (by decide) ?_
    refine XS.aload X1.here hx rfl (hb hby at_80) rfl rfl ?_
    show Steps p.tables e below (T1.setTop (mkF m 82 #[.val (.int u0), .val (.int u1), .val (.int u2), .val (.int (2 : Int32)), .val (.int (u1 % (4 : Int32))), .val (.ref (w 4)), .val (.int (1 : Int32))] [(.ref (w 4))])) _
    refine XS.iload X1.here hx rfl (hb hby at_82) rfl ?_
    refine st2.trans ?_
    refine XS.iload X2.here hx rfl (hb hby at_87) rfl ?_
    refine XS.icmpNo X2.here hx rfl (hb hby at_89) rfl (teq (by decide : (1 : Int32) = (1 : Int32))).2 ?_
    show Steps p.tables e below (T2.setTop (mkF m 92 #[.val (.int u0), .val (.int u1), .val (.int u2), .val (.int (2 : Int32)), .val (.int (u1 % (4 : Int32))), .val (.ref (w 4)), .val (.int (1 : Int32))] [])) _
    refine XS.iconst X2.here hx rfl (hb hby at_92) ?_
    refine XS.goto X2.here hx rfl (pc0 := 93) (pc' := 97) rfl (hb hby at_93) (by decide) (by decide) ?_
    show Steps p.tables e below (T2.setTop (mkF m 97 #[.val (.int u0), .val (.int u1), .val (.int u2), .val (.int (2 : Int32)), .val (.int (u1 % (4 : Int32))), .val (.ref (w 4)), .val (.int (1 : Int32))] [(.int (1 : Int32))])) _
    exact retN X2 hx (t := .boolean) Bd.returns (by simp) (hb hby at_97) hr
  · exact ⟨rfl, N2, e2⟩
set_option maxRecDepth 65536 in
set_option maxHeartbeats 40000000 in
theorem rm_takes_36 (l : Launch) (Z : State) (a0 : Array Value) (hw : ∀ d ∈ tables_1, d.before a0 Z = true) (w : Nat → Addr) (h0 : Heap) (n0 : Nat) (Z0 : n0 ≤ h0.size) (K : Kon Z h0 w) (u0 u1 u2 : Int32) (hf15 : (u1 % (4 : Int32)) < (1 : Int32)) :
    OM l Z (⟨"com/example/licon/licon/search/Operator", "takes", "(I)Z"⟩ : MethodName) prog_9_method_4_code 2 (some .boolean) [] ({ frames := 0, cells := 0, slots := 0, locals := 0 } : Room) #[(.ref (w 4)), (.int (u1 % (4 : Int32)))] h0 (OP (some (.int (0 : Int32))) n0 h0) := by
  refine MetFree.of_bodySF (plainFor_of_name pn_com_example_licon_licon_search_Operator) hisR ?_
  intro p e s m args below meth c s₁ Bd hml0 hP hK
  obtain ⟨rfl, hZ, hh⟩ := hP
  have hx := Bd.exec
  have hby := Bd.bytes
  have hml : c.maxLocals = 2 := hml0
  have hown : s.vm.findClass "com/example/licon/licon/search/Operator" = some m.cls := findClass_of_methodNamed Bd.named
  have X0 : Stand p l e ({ frames := 0, cells := 0, slots := 0, locals := 0 } : Room) s m #[(.ref (w 4)), (.int (u1 % (4 : Int32)))] below meth c s₁ [] 0 0 := Stand.of_body Bd
  have e0 : s₁.heap = h0 := by rw [← hh, Bd.state]; rfl
  have N0 := Fr.nil n0
  have pre0 : ∀ t, Steps p.tables e below (s₁.setTop (mkF m 0 #[.val (.ref (w 4)), .val (.int (u1 % (4 : Int32)))] [])) t → Steps p.tables e below (s₁.setTop (entryFrame m #[(.ref (w 4)), (.int (u1 % (4 : Int32)))] 2)) t := fun t k => castTop (by first | rfl | simp [entryFrame, mkF, argsToLocals, Value.category]) k
  obtain ⟨T1, X1, e1, st1⟩ := getF X0 hx hZ hown (host := "") (Or.inl (hw _ (List.mem_of_getElem? (i := 12) rfl))) Via.refl e0 K.2.2.2.2.2.2.2.2.2.2.2.2.2.2.2.2.2.2.2.2.2.2.2.1 (g := (mkF m 2 #[.val (.ref (w 4)), .val (.int (u1 % (4 : Int32)))] [(.ref (w 4)), (.int (u1 % (4 : Int32)))])) rfl rfl (hb hby d_prog_9_method_4_code_2)
  obtain ⟨fs, hr, hrun, hended, hW, hsame⟩ := X1.leave (v := (some (.int (0 : Int32)))) (fun h => by rw [Bd.returns] at h; cases h)
  refine ⟨_, _, pre0 _ ?_, hrun, hended, _, _, rfl, ?_, ⟨_, rfl⟩, hW, hsame.mono (by decide) (by decide)⟩
  · show Steps p.tables e below (s₁.setTop (mkF m 0 #[.val (.ref (w 4)), .val (.int (u1 % (4 : Int32)))] [])) _
    refine XS.iloadN X0.here hx rfl (hb hby d_prog_9_method_4_code_0) rfl ?_
    refine XS.aloadN X0.here hx rfl (hb hby d_prog_9_method_4_code_1) rfl rfl ?_
    refine st1 _ ?_
    refine XS.icmpYes X1.here hx rfl (pc0 := 5) (pc' := 20) rfl (hb hby d_prog_9_method_4_code_5) rfl (tlt hf15).1 (by decide) (by decide) ?_
    show Steps p.tables e below (T1.setTop (mkF m 20 #[.val (.ref (w 4)), .val (.int (u1 % (4 : Int32)))] [])) _
    refine XS.iconst X1.here hx rfl (hb hby d_prog_9_method_4_code_20) ?_
    show Steps p.tables e below (T1.setTop (mkF m 21 #[.val (.ref (w 4)), .val (.int (u1 % (4 : Int32)))] [(.int (0 : Int32))])) _
    exact retN X1 hx (t := .boolean) Bd.returns (by simp) (hb hby d_prog_9_method_4_code_21) hr
  · exact ⟨rfl, N0, e1⟩
set_option maxRecDepth 65536 in
set_option maxHeartbeats 40000000 in
theorem rm0_37 (l : Launch) (Z : State) (a0 : Array Value) (hw : ∀ d ∈ tables_1, d.before a0 Z = true) (w : Nat → Addr) (h0 : Heap) (n0 : Nat) (Z0 : n0 ≤ h0.size) (K : Kon Z h0 w) (u0 u1 u2 : Int32) (hf11 : ¬ ((u2 &&& (1 : Int32)) = (0 : Int32))) (hf14 : ¬ ((u1 % (4 : Int32)) = (1 : Int32))) (hf15 : (u1 % (4 : Int32)) < (1 : Int32)) (hk0 : (u0 &&& (7 : Int32)) = (2 : Int32)) :
    OM l Z x code maxLocals ret tables_1 room_1 #[(.int u0), (.int u1), (.int u2)] h0 (OP (some (.int (1 : Int32))) n0 h0) := by
  refine MetFree.of_bodySF (plainFor_of_name pn_com_example_licon_licon_search_OperatorTakesPinLaw) hisR ?_
  intro p e s m args below meth c s₁ Bd hml0 hP hK
  obtain ⟨rfl, hZ, hh⟩ := hP
  have hx := Bd.exec
  have hby := Bd.bytes
  have hml : c.maxLocals = 7 := hml0
  have hown : s.vm.findClass "com/example/licon/licon/search/OperatorTakesPinLaw" = some m.cls := findClass_of_methodNamed Bd.named
  have X0 : Stand p l e room_1 s m #[(.int u0), (.int u1), (.int u2)] below meth c s₁ [] 0 0 := Stand.of_body Bd
  have e0 : s₁.heap = h0 := by rw [← hh, Bd.state]; rfl
  have N0 := Fr.nil n0
  have pre0 : ∀ t, Steps p.tables e below (s₁.setTop (mkF m 0 #[.val (.int u0), .val (.int u1), .val (.int u2), .unset, .unset, .unset, .unset] [])) t → Steps p.tables e below (s₁.setTop (entryFrame m #[(.int u0), (.int u1), (.int u2)] maxLocals)) t := fun t k => castTop (by first | rfl | simp [entryFrame, mkF, argsToLocals, Value.category, maxLocals]) k
  obtain ⟨_, _, ⟨T1, L1, k1, n1⟩, -, X1, ⟨Lc1, hQ1, l1, y1, z1⟩, st1⟩ := Jvm.LawKit.callS X0 hx (y := (⟨"com/example/licon/licon/search/OperatorTakesPinLaw", "pick", "(I)Lcom/example/licon/licon/search/Operator;"⟩ : MethodName)) hown (mvT hZ (hw _ (List.mem_of_getElem? (i := 0) rfl))) (mvT hZ (hw _ (List.mem_of_getElem? (i := 1) rfl))) (mvT hZ (hw _ (List.mem_of_getElem? (i := 2) rfl))) (mvT hZ (hw _ (List.mem_of_getElem? (i := 3) rfl))) (by decide) (backOf (W := 0) (rm_pick_27 l Z a0 hw w h0 n0 Z0 K u0 u1 u2) hZ (hw _ (List.mem_of_getElem? (i := 3) rfl)) (hw _ (List.mem_of_getElem? (i := 2) rfl)) (by decide) (by decide)) (g := (mkF m 21 #[.val (.int u0), .val (.int u1), .val (.int u2), .val (.int (2 : Int32)), .val (.int (u1 % (4 : Int32))), .unset, .unset] [(.int (2 : Int32))])) rfl (by rw [hml]; rfl) (argsL := [(.int (2 : Int32))]) (rest := []) (lenOf pd_28I29Lcom2fexample2flicon2flicon2fsearch2fOperator3b rfl) rfl (by show 2 * 0 + _ ≤ _; exact Nat.le_of_eq rfl) (hb hby at_21) (fun _ _ => ⟨rfl, e0, (by decide : 0 + 0 ≤ _), (by decide : 0 + 0 ≤ _)⟩)
  dsimp only [Pt.U, Pt.locs, Pt.cells, Pt.slots] at X1 l1 y1 z1 st1 hQ1
  subst l1 y1 z1
  obtain ⟨rfl, N1q, e1⟩ := hQ1
  have N1 := Fr.app N0 N1q
  obtain ⟨cq2, kq2, qa2, qb2, qc2⟩ := isOf hZ e1 K.2.2.2.2.2.2.2.2.2.1
  obtain ⟨_, _, ⟨T2, L2, k2, n2⟩, -, X2, ⟨Lc2, hQ2, l2, y2, z2⟩, st2⟩ := X1.virtualBack hx (y := (⟨"com/example/licon/licon/search/Operator", "takes", "(I)Z"⟩ : MethodName)) (z := (⟨"com/example/licon/licon/search/Operator", "takes", "(I)Z"⟩ : MethodName)) hown (mvT hZ (hw _ (List.mem_of_getElem? (i := 7) rfl))) (mvT hZ (hw _ (List.mem_of_getElem? (i := 8) rfl))) (notFace_of_selects (args := #[]) (mvT hZ (hw _ (List.mem_of_getElem? (i := 10) rfl)))) (mvT hZ (hw _ (List.mem_of_getElem? (i := 10) rfl))) (mvT hZ (hw _ (List.mem_of_getElem? (i := 9) rfl))) (by decide) (backOf (W := 0) (rm_takes_36 l Z a0 hw w h0 n0 Z0 K u0 u1 u2 hf15) hZ (hw _ (List.mem_of_getElem? (i := 11) rfl)) (hw _ (List.mem_of_getElem? (i := 5) rfl)) (by decide) (by decide)) qa2 qc2 (g := (mkF m 84 #[.val (.int u0), .val (.int u1), .val (.int u2), .val (.int (2 : Int32)), .val (.int (u1 % (4 : Int32))), .val (.ref (w 4)), .val (.int (0 : Int32))] [(.int (u1 % (4 : Int32))), (.ref (w 4))])) rfl (by rw [hml]; rfl) (Steps.refl _) (argsL := [(.int (u1 % (4 : Int32)))]) (rest := []) (lenOf pd_28I29Z rfl) rfl (by show 2 * 0 + _ ≤ _; exact Nat.le_of_eq rfl) (hb hby at_84) (fun _ _ => ⟨rfl, e1, (by decide : 0 + 0 ≤ _), (by decide : 0 + 0 ≤ _)⟩)
  dsimp only [Pt.U, Pt.locs, Pt.cells, Pt.slots] at X2 l2 y2 z2 st2 hQ2
  subst l2 y2 z2
  obtain ⟨rfl, N2q, e2⟩ := hQ2
  have N2 := Fr.app N1 N2q
  obtain ⟨fs, hr, hrun, hended, hW, hsame⟩ := X2.leave (v := (some (.int (1 : Int32)))) (fun h => by rw [Bd.returns] at h; cases h)
  refine ⟨_, _, pre0 _ ?_, hrun, hended, _, _, rfl, ?_, ⟨_, rfl⟩, hW, hsame.mono (by decide) (by decide)⟩
  · show Steps p.tables e below (s₁.setTop (mkF m 0 #[.val (.int u0), .val (.int u1), .val (.int u2), .unset, .unset, .unset, .unset] [])) _
    refine XS.iloadN X0.here hx rfl (hb hby at_0) rfl ?_
    refine XS.bipush X0.here hx rfl (hb hby at_1) ?_
    refine XS.iand X0.here hx rfl (hb hby at_3) rfl ?_
    show Steps p.tables e below (s₁.setTop (mkF m 4 #[.val (.int u0), .val (.int u1), .val (.int u2), .unset, .unset, .unset, .unset] [(.int (u0 &&& (7 : Int32)))])) _
    rw [hk0]
    show Steps p.tables e below (s₁.setTop (mkF m 4 #[.val (.int u0), .val (.int u1), .val (.int u2), .unset, .unset, .unset, .unset] [(.int (2 : Int32))])) _
    refine XS.istoreN X0.here hx rfl (hb hby at_4) rfl (l' := #[.val (.int u0), .val (.int u1), .val (.int u2), .val (.int (2 : Int32)), .unset, .unset, .unset]) rfl ?_
    refine XS.iloadN X0.here hx rfl (hb hby at_5) rfl ?_
    refine XS.iconst X0.here hx rfl (hb hby at_6) ?_
    refine XS.iand X0.here hx rfl (hb hby at_7) rfl ?_
    show Steps p.tables e below (s₁.setTop (mkF m 8 #[.val (.int u0), .val (.int u1), .val (.int u2), .val (.int (2 : Int32)), .unset, .unset, .unset] [(.int (u2 &&& (1 : Int32)))])) _
    refine XS.ifNo X0.here hx rfl (hb hby at_8) rfl ((if0 _ _).trans (feq hf11).1) ?_
    refine XS.iloadN X0.here hx rfl (hb hby at_11) rfl ?_
    refine XS.iconst X0.here hx rfl (hb hby at_12) ?_
    refine iremM X0 hx rfl (hb hby at_13) rfl (by decide : ¬ ((4 : Int32) = (0 : Int32))) ?_
    show Steps p.tables e below (s₁.setTop (mkF m 14 #[.val (.int u0), .val (.int u1), .val (.int u2), .val (.int (2 : Int32)), .unset, .unset, .unset] [(.int (u1 % (4 : Int32)))])) _
    refine XS.goto X0.here hx rfl (pc0 := 14) (pc' := 18) rfl (hb hby at_14) (by decide) (by decide) ?_
    refine XS.istore X0.here hx rfl (hb hby at_18) rfl (l' := #[.val (.int u0), .val (.int u1), .val (.int u2), .val (.int (2 : Int32)), .val (.int (u1 % (4 : Int32))), .unset, .unset]) rfl ?_
    refine XS.iloadN X0.here hx rfl (hb hby at_20) rfl ?_
    refine st1 _ ?_
    show Steps p.tables e below (T1.setTop (mkF m 24 #[.val (.int u0), .val (.int u1), .val (.int u2), .val (.int (2 : Int32)), .val (.int (u1 % (4 : Int32))), .unset, .unset] [(.ref (w 4))])) _
    refine XS.astore X1.here hx rfl (hb hby at_24) rfl rfl (l' := #[.val (.int u0), .val (.int u1), .val (.int u2), .val (.int (2 : Int32)), .val (.int (u1 % (4 : Int32))), .val (.ref (w 4)), .unset]) rfl ?_
    refine XS.iloadN X1.here hx rfl (hb hby at_26) rfl ?_
    refine XS.iconst X1.here hx rfl (hb hby at_27) ?_
    refine XS.icmpNo X1.here hx rfl (hb hby at_28) rfl (tlt (by decide : (2 : Int32) < (4 : Int32))).2.1 ?_
    show Steps p.tables e below (T1.setTop (mkF m 31 #[.val (.int u0), .val (.int u1), .val (.int u2), .val (.int (2 : Int32)), .val (.int (u1 % (4 : Int32))), .val (.ref (w 4)), .unset] [])) _
    refine XS.iload X1.here hx rfl (hb hby at_31) rfl ?_
    refine XS.iconst X1.here hx rfl (hb hby at_33) ?_
    refine XS.icmpYes X1.here hx rfl (pc0 := 34) (pc' := 41) rfl (hb hby at_34) rfl (feq hf14).2 (by decide) (by decide) ?_
    refine XS.iconst X1.here hx rfl (hb hby at_41) ?_
    show Steps p.tables e below (T1.setTop (mkF m 42 #[.val (.int u0), .val (.int u1), .val (.int u2), .val (.int (2 : Int32)), .val (.int (u1 % (4 : Int32))), .val (.ref (w 4)), .unset] [(.int (0 : Int32))])) _
    refine XS.istore X1.here hx rfl (hb hby at_42) rfl (l' := #[.val (.int u0), .val (.int u1), .val (.int u2), .val (.int (2 : Int32)), .val (.int (u1 % (4 : Int32))), .val (.ref (w 4)), .val (.int (0 : Int32))]) rfl ?_
    refine XS.goto X1.here hx rfl (pc0 := 44) (pc' := 80) rfl (hb hby at_44) (by decide) (by decide) ?_
    refine XS.aload X1.here hx rfl (hb hby at_80) rfl rfl ?_
    refine XS.iload X1.here hx rfl (hb hby at_82) rfl ?_
    show Steps p.tables e below (T1.setTop (mkF m 84 #[.val (.int u0), .val (.int u1), .val (.int u2), .val (.int (2 : Int32)), .val (.int (u1 % (4 : Int32))), .val (.ref (w 4)), .val (.int (0 : Int32))] [(.int (u1 % (4 : Int32))), (.ref (w 4))])) _
    refine st2.trans ?_
    refine XS.iload X2.here hx rfl (hb hby at_87) rfl ?_
    refine XS.icmpNo X2.here hx rfl (hb hby at_89) rfl (teq (by decide : (0 : Int32) = (0 : Int32))).2 ?_
    refine XS.iconst X2.here hx rfl (hb hby at_92) ?_
    show Steps p.tables e below (T2.setTop (mkF m 93 #[.val (.int u0), .val (.int u1), .val (.int u2), .val (.int (2 : Int32)), .val (.int (u1 % (4 : Int32))), .val (.ref (w 4)), .val (.int (0 : Int32))] [(.int (1 : Int32))])) _
    refine XS.goto X2.here hx rfl (pc0 := 93) (pc' := 97) rfl (hb hby at_93) (by decide) (by decide) ?_
    show Steps p.tables e below (T2.setTop (mkF m 97 #[.val (.int u0), .val (.int u1), .val (.int u2), .val (.int (2 : Int32)), .val (.int (u1 % (4 : Int32))), .val (.ref (w 4)), .val (.int (0 : Int32))] [(.int (1 : Int32))])) _
    exact retN X2 hx (t := .boolean) Bd.returns (by simp) (hb hby at_97) hr
  · exact ⟨rfl, N2, e2⟩
set_option maxRecDepth 65536 in
set_option maxHeartbeats 40000000 in
theorem rm_takes_38 (l : Launch) (Z : State) (a0 : Array Value) (hw : ∀ d ∈ tables_1, d.before a0 Z = true) (w : Nat → Addr) (h0 : Heap) (n0 : Nat) (Z0 : n0 ≤ h0.size) (K : Kon Z h0 w) (u0 u1 u2 : Int32) (hf14 : ¬ ((u1 % (4 : Int32)) = (1 : Int32))) (hf15 : ¬ ((u1 % (4 : Int32)) < (1 : Int32))) :
    OM l Z (⟨"com/example/licon/licon/search/Operator", "takes", "(I)Z"⟩ : MethodName) prog_9_method_4_code 2 (some .boolean) [] ({ frames := 0, cells := 0, slots := 0, locals := 0 } : Room) #[(.ref (w 4)), (.int (u1 % (4 : Int32)))] h0 (OP (some (.int (0 : Int32))) n0 h0) := by
  refine MetFree.of_bodySF (plainFor_of_name pn_com_example_licon_licon_search_Operator) hisR ?_
  intro p e s m args below meth c s₁ Bd hml0 hP hK
  obtain ⟨rfl, hZ, hh⟩ := hP
  have hx := Bd.exec
  have hby := Bd.bytes
  have hml : c.maxLocals = 2 := hml0
  have hown : s.vm.findClass "com/example/licon/licon/search/Operator" = some m.cls := findClass_of_methodNamed Bd.named
  have X0 : Stand p l e ({ frames := 0, cells := 0, slots := 0, locals := 0 } : Room) s m #[(.ref (w 4)), (.int (u1 % (4 : Int32)))] below meth c s₁ [] 0 0 := Stand.of_body Bd
  have e0 : s₁.heap = h0 := by rw [← hh, Bd.state]; rfl
  have N0 := Fr.nil n0
  have pre0 : ∀ t, Steps p.tables e below (s₁.setTop (mkF m 0 #[.val (.ref (w 4)), .val (.int (u1 % (4 : Int32)))] [])) t → Steps p.tables e below (s₁.setTop (entryFrame m #[(.ref (w 4)), (.int (u1 % (4 : Int32)))] 2)) t := fun t k => castTop (by first | rfl | simp [entryFrame, mkF, argsToLocals, Value.category]) k
  obtain ⟨T1, X1, e1, st1⟩ := getF X0 hx hZ hown (host := "") (Or.inl (hw _ (List.mem_of_getElem? (i := 12) rfl))) Via.refl e0 K.2.2.2.2.2.2.2.2.2.2.2.2.2.2.2.2.2.2.2.2.2.2.2.1 (g := (mkF m 2 #[.val (.ref (w 4)), .val (.int (u1 % (4 : Int32)))] [(.ref (w 4)), (.int (u1 % (4 : Int32)))])) rfl rfl (hb hby d_prog_9_method_4_code_2)
  obtain ⟨T2, X2, e2, st2⟩ := getF X1 hx hZ hown (host := "") (Or.inl (hw _ (List.mem_of_getElem? (i := 14) rfl))) Via.refl e1 K.2.2.2.2.2.2.2.2.2.2.2.2.2.2.2.2.2.2.2.2.2.2.2.2.2.2.1 (g := (mkF m 10 #[.val (.ref (w 4)), .val (.int (u1 % (4 : Int32)))] [(.ref (w 4)), (.int (u1 % (4 : Int32)))])) rfl rfl (hb hby d_prog_9_method_4_code_10)
  obtain ⟨fs, hr, hrun, hended, hW, hsame⟩ := X2.leave (v := (some (.int (0 : Int32)))) (fun h => by rw [Bd.returns] at h; cases h)
  refine ⟨_, _, pre0 _ ?_, hrun, hended, _, _, rfl, ?_, ⟨_, rfl⟩, hW, hsame.mono (by decide) (by decide)⟩
  · show Steps p.tables e below (s₁.setTop (mkF m 0 #[.val (.ref (w 4)), .val (.int (u1 % (4 : Int32)))] [])) _
    refine XS.iloadN X0.here hx rfl (hb hby d_prog_9_method_4_code_0) rfl ?_
    refine XS.aloadN X0.here hx rfl (hb hby d_prog_9_method_4_code_1) rfl rfl ?_
    refine st1 _ ?_
    refine XS.icmpNo X1.here hx rfl (hb hby d_prog_9_method_4_code_5) rfl (flt hf15).1 ?_
    show Steps p.tables e below (T1.setTop (mkF m 8 #[.val (.ref (w 4)), .val (.int (u1 % (4 : Int32)))] [])) _
    refine XS.iloadN X1.here hx rfl (hb hby d_prog_9_method_4_code_8) rfl ?_
    refine XS.aloadN X1.here hx rfl (hb hby d_prog_9_method_4_code_9) rfl rfl ?_
    refine st2 _ ?_
    refine XS.icmpYes X2.here hx rfl (pc0 := 13) (pc' := 20) rfl (hb hby d_prog_9_method_4_code_13) rfl (tlt (by have z0 := mt Int32.toInt_inj.mp hf14; have z1 := mt Int32.lt_iff_toInt_lt.mpr hf15; have l0 : (1 : Int32).toInt = 1 := rfl; have r0 := rng32 (u1 % (4 : Int32)); exact Int32.lt_iff_toInt_lt.mpr (by omega) : (1 : Int32) < (u1 % (4 : Int32)))).2.2.1 (by decide) (by decide) ?_
    show Steps p.tables e below (T2.setTop (mkF m 20 #[.val (.ref (w 4)), .val (.int (u1 % (4 : Int32)))] [])) _
    refine XS.iconst X2.here hx rfl (hb hby d_prog_9_method_4_code_20) ?_
    show Steps p.tables e below (T2.setTop (mkF m 21 #[.val (.ref (w 4)), .val (.int (u1 % (4 : Int32)))] [(.int (0 : Int32))])) _
    exact retN X2 hx (t := .boolean) Bd.returns (by simp) (hb hby d_prog_9_method_4_code_21) hr
  · exact ⟨rfl, N0, e2⟩
set_option maxRecDepth 65536 in
set_option maxHeartbeats 40000000 in
theorem rm0_39 (l : Launch) (Z : State) (a0 : Array Value) (hw : ∀ d ∈ tables_1, d.before a0 Z = true) (w : Nat → Addr) (h0 : Heap) (n0 : Nat) (Z0 : n0 ≤ h0.size) (K : Kon Z h0 w) (u0 u1 u2 : Int32) (hf11 : ¬ ((u2 &&& (1 : Int32)) = (0 : Int32))) (hf14 : ¬ ((u1 % (4 : Int32)) = (1 : Int32))) (hf15 : ¬ ((u1 % (4 : Int32)) < (1 : Int32))) (hk0 : (u0 &&& (7 : Int32)) = (2 : Int32)) :
    OM l Z x code maxLocals ret tables_1 room_1 #[(.int u0), (.int u1), (.int u2)] h0 (OP (some (.int (1 : Int32))) n0 h0) := by
  refine MetFree.of_bodySF (plainFor_of_name pn_com_example_licon_licon_search_OperatorTakesPinLaw) hisR ?_
  intro p e s m args below meth c s₁ Bd hml0 hP hK
  obtain ⟨rfl, hZ, hh⟩ := hP
  have hx := Bd.exec
  have hby := Bd.bytes
  have hml : c.maxLocals = 7 := hml0
  have hown : s.vm.findClass "com/example/licon/licon/search/OperatorTakesPinLaw" = some m.cls := findClass_of_methodNamed Bd.named
  have X0 : Stand p l e room_1 s m #[(.int u0), (.int u1), (.int u2)] below meth c s₁ [] 0 0 := Stand.of_body Bd
  have e0 : s₁.heap = h0 := by rw [← hh, Bd.state]; rfl
  have N0 := Fr.nil n0
  have pre0 : ∀ t, Steps p.tables e below (s₁.setTop (mkF m 0 #[.val (.int u0), .val (.int u1), .val (.int u2), .unset, .unset, .unset, .unset] [])) t → Steps p.tables e below (s₁.setTop (entryFrame m #[(.int u0), (.int u1), (.int u2)] maxLocals)) t := fun t k => castTop (by first | rfl | simp [entryFrame, mkF, argsToLocals, Value.category, maxLocals]) k
  obtain ⟨_, _, ⟨T1, L1, k1, n1⟩, -, X1, ⟨Lc1, hQ1, l1, y1, z1⟩, st1⟩ := Jvm.LawKit.callS X0 hx (y := (⟨"com/example/licon/licon/search/OperatorTakesPinLaw", "pick", "(I)Lcom/example/licon/licon/search/Operator;"⟩ : MethodName)) hown (mvT hZ (hw _ (List.mem_of_getElem? (i := 0) rfl))) (mvT hZ (hw _ (List.mem_of_getElem? (i := 1) rfl))) (mvT hZ (hw _ (List.mem_of_getElem? (i := 2) rfl))) (mvT hZ (hw _ (List.mem_of_getElem? (i := 3) rfl))) (by decide) (backOf (W := 0) (rm_pick_27 l Z a0 hw w h0 n0 Z0 K u0 u1 u2) hZ (hw _ (List.mem_of_getElem? (i := 3) rfl)) (hw _ (List.mem_of_getElem? (i := 2) rfl)) (by decide) (by decide)) (g := (mkF m 21 #[.val (.int u0), .val (.int u1), .val (.int u2), .val (.int (2 : Int32)), .val (.int (u1 % (4 : Int32))), .unset, .unset] [(.int (2 : Int32))])) rfl (by rw [hml]; rfl) (argsL := [(.int (2 : Int32))]) (rest := []) (lenOf pd_28I29Lcom2fexample2flicon2flicon2fsearch2fOperator3b rfl) rfl (by show 2 * 0 + _ ≤ _; exact Nat.le_of_eq rfl) (hb hby at_21) (fun _ _ => ⟨rfl, e0, (by decide : 0 + 0 ≤ _), (by decide : 0 + 0 ≤ _)⟩)
  dsimp only [Pt.U, Pt.locs, Pt.cells, Pt.slots] at X1 l1 y1 z1 st1 hQ1
  subst l1 y1 z1
  obtain ⟨rfl, N1q, e1⟩ := hQ1
  have N1 := Fr.app N0 N1q
  obtain ⟨cq2, kq2, qa2, qb2, qc2⟩ := isOf hZ e1 K.2.2.2.2.2.2.2.2.2.1
  obtain ⟨_, _, ⟨T2, L2, k2, n2⟩, -, X2, ⟨Lc2, hQ2, l2, y2, z2⟩, st2⟩ := X1.virtualBack hx (y := (⟨"com/example/licon/licon/search/Operator", "takes", "(I)Z"⟩ : MethodName)) (z := (⟨"com/example/licon/licon/search/Operator", "takes", "(I)Z"⟩ : MethodName)) hown (mvT hZ (hw _ (List.mem_of_getElem? (i := 7) rfl))) (mvT hZ (hw _ (List.mem_of_getElem? (i := 8) rfl))) (notFace_of_selects (args := #[]) (mvT hZ (hw _ (List.mem_of_getElem? (i := 10) rfl)))) (mvT hZ (hw _ (List.mem_of_getElem? (i := 10) rfl))) (mvT hZ (hw _ (List.mem_of_getElem? (i := 9) rfl))) (by decide) (backOf (W := 0) (rm_takes_38 l Z a0 hw w h0 n0 Z0 K u0 u1 u2 hf14 hf15) hZ (hw _ (List.mem_of_getElem? (i := 11) rfl)) (hw _ (List.mem_of_getElem? (i := 5) rfl)) (by decide) (by decide)) qa2 qc2 (g := (mkF m 84 #[.val (.int u0), .val (.int u1), .val (.int u2), .val (.int (2 : Int32)), .val (.int (u1 % (4 : Int32))), .val (.ref (w 4)), .val (.int (0 : Int32))] [(.int (u1 % (4 : Int32))), (.ref (w 4))])) rfl (by rw [hml]; rfl) (Steps.refl _) (argsL := [(.int (u1 % (4 : Int32)))]) (rest := []) (lenOf pd_28I29Z rfl) rfl (by show 2 * 0 + _ ≤ _; exact Nat.le_of_eq rfl) (hb hby at_84) (fun _ _ => ⟨rfl, e1, (by decide : 0 + 0 ≤ _), (by decide : 0 + 0 ≤ _)⟩)
  dsimp only [Pt.U, Pt.locs, Pt.cells, Pt.slots] at X2 l2 y2 z2 st2 hQ2
  subst l2 y2 z2
  obtain ⟨rfl, N2q, e2⟩ := hQ2
  have N2 := Fr.app N1 N2q
  obtain ⟨fs, hr, hrun, hended, hW, hsame⟩ := X2.leave (v := (some (.int (1 : Int32)))) (fun h => by rw [Bd.returns] at h; cases h)
  refine ⟨_, _, pre0 _ ?_, hrun, hended, _, _, rfl, ?_, ⟨_, rfl⟩, hW, hsame.mono (by decide) (by decide)⟩
  · show Steps p.tables e below (s₁.setTop (mkF m 0 #[.val (.int u0), .val (.int u1), .val (.int u2), .unset, .unset, .unset, .unset] [])) _
    refine XS.iloadN X0.here hx rfl (hb hby at_0) rfl ?_
    refine XS.bipush X0.here hx rfl (hb hby at_1) ?_
    refine XS.iand X0.here hx rfl (hb hby at_3) rfl ?_
    show Steps p.tables e below (s₁.setTop (mkF m 4 #[.val (.int u0), .val (.int u1), .val (.int u2), .unset, .unset, .unset, .unset] [(.int (u0 &&& (7 : Int32)))])) _
    rw [hk0]
    show Steps p.tables e below (s₁.setTop (mkF m 4 #[.val (.int u0), .val (.int u1), .val (.int u2), .unset, .unset, .unset, .unset] [(.int (2 : Int32))])) _
    refine XS.istoreN X0.here hx rfl (hb hby at_4) rfl (l' := #[.val (.int u0), .val (.int u1), .val (.int u2), .val (.int (2 : Int32)), .unset, .unset, .unset]) rfl ?_
    refine XS.iloadN X0.here hx rfl (hb hby at_5) rfl ?_
    refine XS.iconst X0.here hx rfl (hb hby at_6) ?_
    refine XS.iand X0.here hx rfl (hb hby at_7) rfl ?_
    show Steps p.tables e below (s₁.setTop (mkF m 8 #[.val (.int u0), .val (.int u1), .val (.int u2), .val (.int (2 : Int32)), .unset, .unset, .unset] [(.int (u2 &&& (1 : Int32)))])) _
    refine XS.ifNo X0.here hx rfl (hb hby at_8) rfl ((if0 _ _).trans (feq hf11).1) ?_
    refine XS.iloadN X0.here hx rfl (hb hby at_11) rfl ?_
    refine XS.iconst X0.here hx rfl (hb hby at_12) ?_
    refine iremM X0 hx rfl (hb hby at_13) rfl (by decide : ¬ ((4 : Int32) = (0 : Int32))) ?_
    show Steps p.tables e below (s₁.setTop (mkF m 14 #[.val (.int u0), .val (.int u1), .val (.int u2), .val (.int (2 : Int32)), .unset, .unset, .unset] [(.int (u1 % (4 : Int32)))])) _
    refine XS.goto X0.here hx rfl (pc0 := 14) (pc' := 18) rfl (hb hby at_14) (by decide) (by decide) ?_
    refine XS.istore X0.here hx rfl (hb hby at_18) rfl (l' := #[.val (.int u0), .val (.int u1), .val (.int u2), .val (.int (2 : Int32)), .val (.int (u1 % (4 : Int32))), .unset, .unset]) rfl ?_
    refine XS.iloadN X0.here hx rfl (hb hby at_20) rfl ?_
    refine st1 _ ?_
    show Steps p.tables e below (T1.setTop (mkF m 24 #[.val (.int u0), .val (.int u1), .val (.int u2), .val (.int (2 : Int32)), .val (.int (u1 % (4 : Int32))), .unset, .unset] [(.ref (w 4))])) _
    refine XS.astore X1.here hx rfl (hb hby at_24) rfl rfl (l' := #[.val (.int u0), .val (.int u1), .val (.int u2), .val (.int (2 : Int32)), .val (.int (u1 % (4 : Int32))), .val (.ref (w 4)), .unset]) rfl ?_
    refine XS.iloadN X1.here hx rfl (hb hby at_26) rfl ?_
    refine XS.iconst X1.here hx rfl (hb hby at_27) ?_
    refine XS.icmpNo X1.here hx rfl (hb hby at_28) rfl (tlt (by decide : (2 : Int32) < (4 : Int32))).2.1 ?_
    show Steps p.tables e below (T1.setTop (mkF m 31 #[.val (.int u0), .val (.int u1), .val (.int u2), .val (.int (2 : Int32)), .val (.int (u1 % (4 : Int32))), .val (.ref (w 4)), .unset] [])) _
    refine XS.iload X1.here hx rfl (hb hby at_31) rfl ?_
    refine XS.iconst X1.here hx rfl (hb hby at_33) ?_
    refine XS.icmpYes X1.here hx rfl (pc0 := 34) (pc' := 41) rfl (hb hby at_34) rfl (feq hf14).2 (by decide) (by decide) ?_
    refine XS.iconst X1.here hx rfl (hb hby at_41) ?_
    show Steps p.tables e below (T1.setTop (mkF m 42 #[.val (.int u0), .val (.int u1), .val (.int u2), .val (.int (2 : Int32)), .val (.int (u1 % (4 : Int32))), .val (.ref (w 4)), .unset] [(.int (0 : Int32))])) _
    refine XS.istore X1.here hx rfl (hb hby at_42) rfl (l' := #[.val (.int u0), .val (.int u1), .val (.int u2), .val (.int (2 : Int32)), .val (.int (u1 % (4 : Int32))), .val (.ref (w 4)), .val (.int (0 : Int32))]) rfl ?_
    refine XS.goto X1.here hx rfl (pc0 := 44) (pc' := 80) rfl (hb hby at_44) (by decide) (by decide) ?_
    refine XS.aload X1.here hx rfl (hb hby at_80) rfl rfl ?_
    refine XS.iload X1.here hx rfl (hb hby at_82) rfl ?_
    show Steps p.tables e below (T1.setTop (mkF m 84 #[.val (.int u0), .val (.int u1), .val (.int u2), .val (.int (2 : Int32)), .val (.int (u1 % (4 : Int32))), .val (.ref (w 4)), .val (.int (0 : Int32))] [(.int (u1 % (4 : Int32))), (.ref (w 4))])) _
    refine st2.trans ?_
    refine XS.iload X2.here hx rfl (hb hby at_87) rfl ?_
    refine XS.icmpNo X2.here hx rfl (hb hby at_89) rfl (teq (by decide : (0 : Int32) = (0 : Int32))).2 ?_
    refine XS.iconst X2.here hx rfl (hb hby at_92) ?_
    show Steps p.tables e below (T2.setTop (mkF m 93 #[.val (.int u0), .val (.int u1), .val (.int u2), .val (.int (2 : Int32)), .val (.int (u1 % (4 : Int32))), .val (.ref (w 4)), .val (.int (0 : Int32))] [(.int (1 : Int32))])) _
    refine XS.goto X2.here hx rfl (pc0 := 93) (pc' := 97) rfl (hb hby at_93) (by decide) (by decide) ?_
    show Steps p.tables e below (T2.setTop (mkF m 97 #[.val (.int u0), .val (.int u1), .val (.int u2), .val (.int (2 : Int32)), .val (.int (u1 % (4 : Int32))), .val (.ref (w 4)), .val (.int (0 : Int32))] [(.int (1 : Int32))])) _
    exact retN X2 hx (t := .boolean) Bd.returns (by simp) (hb hby at_97) hr
  · exact ⟨rfl, N2, e2⟩
theorem d_method_3_code_26 : decode method_3_code 26 = .ok (.iload_n 0, 1) := by decide +kernel
theorem d_method_3_code_27 : decode method_3_code 27 = .ok (.iconst 3, 1) := by decide +kernel
theorem d_method_3_code_28 : decode method_3_code 28 = .ok (.if_icmp .ne 7, 3) := by decide +kernel
theorem d_method_3_code_31 : decode method_3_code 31 = .ok (.getstatic 29, 3) := by decide +kernel
theorem d_method_3_code_34 : decode method_3_code 34 = .ok (.areturn, 1) := by decide +kernel
set_option maxRecDepth 65536 in
set_option maxHeartbeats 40000000 in
theorem rm_pick_40 (l : Launch) (Z : State) (a0 : Array Value) (hw : ∀ d ∈ tables_1, d.before a0 Z = true) (w : Nat → Addr) (h0 : Heap) (n0 : Nat) (Z0 : n0 ≤ h0.size) (K : Kon Z h0 w) (u0 u1 u2 : Int32) :
    OM l Z (⟨"com/example/licon/licon/search/OperatorTakesPinLaw", "pick", "(I)Lcom/example/licon/licon/search/Operator;"⟩ : MethodName) method_3_code 1 (some (.object "com/example/licon/licon/search/Operator")) [] ({ frames := 0, cells := 0, slots := 0, locals := 0 } : Room) #[(.int (3 : Int32))] h0 (OP (some (.ref (w 5))) n0 h0) := by
  refine MetFree.of_bodySF (plainFor_of_name pn_com_example_licon_licon_search_OperatorTakesPinLaw) hisR ?_
  intro p e s m args below meth c s₁ Bd hml0 hP hK
  obtain ⟨rfl, hZ, hh⟩ := hP
  have hx := Bd.exec
  have hby := Bd.bytes
  have hml : c.maxLocals = 1 := hml0
  have hown : s.vm.findClass "com/example/licon/licon/search/OperatorTakesPinLaw" = some m.cls := findClass_of_methodNamed Bd.named
  have X0 : Stand p l e ({ frames := 0, cells := 0, slots := 0, locals := 0 } : Room) s m #[(.int (3 : Int32))] below meth c s₁ [] 0 0 := Stand.of_body Bd
  have e0 : s₁.heap = h0 := by rw [← hh, Bd.state]; rfl
  have N0 := Fr.nil n0
  have pre0 : ∀ t, Steps p.tables e below (s₁.setTop (mkF m 0 #[.val (.int (3 : Int32))] [])) t → Steps p.tables e below (s₁.setTop (entryFrame m #[(.int (3 : Int32))] 1)) t := fun t k => castTop (by first | rfl | simp [entryFrame, mkF, argsToLocals, Value.category]) k
  obtain ⟨T1, X1, e1, st1⟩ := getS2 X0 hx hZ hown (host := "") (Or.inl (hw _ (List.mem_of_getElem? (i := 24) rfl))) Via.refl e0 K.2.2.2.2.2.2.2.2.2.2.1 (g := (mkF m 31 #[.val (.int (3 : Int32))] [])) rfl (hb hby d_method_3_code_31)
  obtain ⟨fs, hr, hrun, hended, hW, hsame⟩ := X1.leave (v := (some (.ref (w 5)))) (fun h => by rw [Bd.returns] at h; cases h)
  refine ⟨_, _, pre0 _ ?_, hrun, hended, _, _, rfl, ?_, ⟨_, rfl⟩, hW, hsame.mono (by decide) (by decide)⟩
  · show Steps p.tables e below (s₁.setTop (mkF m 0 #[.val (.int (3 : Int32))] [])) _
    refine XS.iloadN X0.here hx rfl (hb hby d_method_3_code_0) rfl ?_
    refine XS.ifYes X0.here hx rfl (pc0 := 1) (pc' := 8) rfl (hb hby d_method_3_code_1) rfl ((if0 _ _).trans (feq (by decide : ¬ ((3 : Int32) = (0 : Int32)))).2) (by decide) (by decide) ?_
    refine XS.iloadN X0.here hx rfl (hb hby d_method_3_code_8) rfl ?_
    refine XS.iconst X0.here hx rfl (hb hby d_method_3_code_9) ?_
    show Steps p.tables e below (s₁.setTop (mkF m 10 #[.val (.int (3 : Int32))] [(.int (1 : Int32)), (.int (3 : Int32))])) _
    refine XS.icmpYes X0.here hx rfl (pc0 := 10) (pc' := 17) rfl (hb hby d_method_3_code_10) rfl (feq (by decide : ¬ ((3 : Int32) = (1 : Int32)))).2 (by decide) (by decide) ?_
    refine XS.iloadN X0.here hx rfl (hb hby d_method_3_code_17) rfl ?_
    refine XS.iconst X0.here hx rfl (hb hby d_method_3_code_18) ?_
    refine XS.icmpYes X0.here hx rfl (pc0 := 19) (pc' := 26) rfl (hb hby d_method_3_code_19) rfl (feq (by decide : ¬ ((3 : Int32) = (2 : Int32)))).2 (by decide) (by decide) ?_
    show Steps p.tables e below (s₁.setTop (mkF m 26 #[.val (.int (3 : Int32))] [])) _
    refine XS.iloadN X0.here hx rfl (hb hby d_method_3_code_26) rfl ?_
    refine XS.iconst X0.here hx rfl (hb hby d_method_3_code_27) ?_
    refine XS.icmpNo X0.here hx rfl (hb hby d_method_3_code_28) rfl (teq (by decide : (3 : Int32) = (3 : Int32))).2 ?_
    refine st1 _ ?_
    show Steps p.tables e below (T1.setTop (mkF m 34 #[.val (.int (3 : Int32))] [(.ref (w 5))])) _
    jvm_step X1.here [X1.here.top, hx, (hb hby d_method_3_code_34), X1.method', Bd.returns, Value.isRef, FieldType.isReference]
    first | (intro acts; rw [hr _ acts rfl rfl rfl]) | rw [hr _ _ rfl rfl rfl]
    exact Steps.refl _
  · exact ⟨rfl, N0, e1⟩
set_option maxRecDepth 65536 in
set_option maxHeartbeats 40000000 in
theorem rm_takes_41 (l : Launch) (Z : State) (a0 : Array Value) (hw : ∀ d ∈ tables_1, d.before a0 Z = true) (w : Nat → Addr) (h0 : Heap) (n0 : Nat) (Z0 : n0 ≤ h0.size) (K : Kon Z h0 w) (u0 u1 u2 : Int32) (hf17 : u1 = (1 : Int32)) :
    OM l Z (⟨"com/example/licon/licon/search/Operator", "takes", "(I)Z"⟩ : MethodName) prog_9_method_4_code 2 (some .boolean) [] ({ frames := 0, cells := 0, slots := 0, locals := 0 } : Room) #[(.ref (w 5)), (.int u1)] h0 (OP (some (.int (1 : Int32))) n0 h0) := by
  refine MetFree.of_bodySF (plainFor_of_name pn_com_example_licon_licon_search_Operator) hisR ?_
  intro p e s m args below meth c s₁ Bd hml0 hP hK
  obtain ⟨rfl, hZ, hh⟩ := hP
  have hx := Bd.exec
  have hby := Bd.bytes
  have hml : c.maxLocals = 2 := hml0
  have hown : s.vm.findClass "com/example/licon/licon/search/Operator" = some m.cls := findClass_of_methodNamed Bd.named
  have X0 : Stand p l e ({ frames := 0, cells := 0, slots := 0, locals := 0 } : Room) s m #[(.ref (w 5)), (.int u1)] below meth c s₁ [] 0 0 := Stand.of_body Bd
  have e0 : s₁.heap = h0 := by rw [← hh, Bd.state]; rfl
  have N0 := Fr.nil n0
  have pre0 : ∀ t, Steps p.tables e below (s₁.setTop (mkF m 0 #[.val (.ref (w 5)), .val (.int u1)] [])) t → Steps p.tables e below (s₁.setTop (entryFrame m #[(.ref (w 5)), (.int u1)] 2)) t := fun t k => castTop (by first | rfl | simp [entryFrame, mkF, argsToLocals, Value.category]) k
  obtain ⟨T1, X1, e1, st1⟩ := getF X0 hx hZ hown (host := "") (Or.inl (hw _ (List.mem_of_getElem? (i := 12) rfl))) Via.refl e0 K.2.2.2.2.2.2.2.2.2.2.2.2.2.2.2.2.2.2.2.2.2.2.2.2.1 (g := (mkF m 2 #[.val (.ref (w 5)), .val (.int u1)] [(.ref (w 5)), (.int u1)])) rfl rfl (hb hby d_prog_9_method_4_code_2)
  obtain ⟨T2, X2, e2, st2⟩ := getF X1 hx hZ hown (host := "") (Or.inl (hw _ (List.mem_of_getElem? (i := 14) rfl))) Via.refl e1 K.2.2.2.2.2.2.2.2.2.2.2.2.2.2.2.2.2.2.2.2.2.2.2.2.2.1 (g := (mkF m 10 #[.val (.ref (w 5)), .val (.int u1)] [(.ref (w 5)), (.int u1)])) rfl rfl (hb hby d_prog_9_method_4_code_10)
  obtain ⟨fs, hr, hrun, hended, hW, hsame⟩ := X2.leave (v := (some (.int (1 : Int32)))) (fun h => by rw [Bd.returns] at h; cases h)
  refine ⟨_, _, pre0 _ ?_, hrun, hended, _, _, rfl, ?_, ⟨_, rfl⟩, hW, hsame.mono (by decide) (by decide)⟩
  · show Steps p.tables e below (s₁.setTop (mkF m 0 #[.val (.ref (w 5)), .val (.int u1)] [])) _
    refine XS.iloadN X0.here hx rfl (hb hby d_prog_9_method_4_code_0) rfl ?_
    refine XS.aloadN X0.here hx rfl (hb hby d_prog_9_method_4_code_1) rfl rfl ?_
    refine st1 _ ?_
    refine XS.icmpNo X1.here hx rfl (hb hby d_prog_9_method_4_code_5) rfl (flt (by have z0 := congrArg Int32.toInt hf17; have l0 : (1 : Int32).toInt = 1 := rfl; have r0 := rng32 u1; exact fun hh => absurd (Int32.lt_iff_toInt_lt.mp hh) (by omega) : ¬ (u1 < (1 : Int32)))).1 ?_
    show Steps p.tables e below (T1.setTop (mkF m 8 #[.val (.ref (w 5)), .val (.int u1)] [])) _
    refine XS.iloadN X1.here hx rfl (hb hby d_prog_9_method_4_code_8) rfl ?_
    refine XS.aloadN X1.here hx rfl (hb hby d_prog_9_method_4_code_9) rfl rfl ?_
    refine st2 _ ?_
    refine XS.icmpNo X2.here hx rfl (hb hby d_prog_9_method_4_code_13) rfl (flt (by have z0 := congrArg Int32.toInt hf17; have l0 : (1 : Int32).toInt = 1 := rfl; have r0 := rng32 u1; exact fun hh => absurd (Int32.lt_iff_toInt_lt.mp hh) (by omega) : ¬ ((1 : Int32) < u1))).2.2.1 ?_
    show Steps p.tables e below (T2.setTop (mkF m 16 #[.val (.ref (w 5)), .val (.int u1)] [])) _
    refine XS.iconst X2.here hx rfl (hb hby d_prog_9_method_4_code_16) ?_
    refine XS.goto X2.here hx rfl (pc0 := 17) (pc' := 21) rfl (hb hby d_prog_9_method_4_code_17) (by decide) (by decide) ?_
    show Steps p.tables e below (T2.setTop (mkF m 21 #[.val (.ref (w 5)), .val (.int u1)] [(.int (1 : Int32))])) _
    exact retN X2 hx (t := .boolean) Bd.returns (by simp) (hb hby d_prog_9_method_4_code_21) hr
  · exact ⟨rfl, N0, e2⟩
set_option maxRecDepth 65536 in
set_option maxHeartbeats 40000000 in
theorem rm0_42 (l : Launch) (Z : State) (a0 : Array Value) (hw : ∀ d ∈ tables_1, d.before a0 Z = true) (w : Nat → Addr) (h0 : Heap) (n0 : Nat) (Z0 : n0 ≤ h0.size) (K : Kon Z h0 w) (u0 u1 u2 : Int32) (hf16 : (u2 &&& (1 : Int32)) = (0 : Int32)) (hf17 : u1 = (1 : Int32)) (hk0 : (u0 &&& (7 : Int32)) = (3 : Int32)) :
    OM l Z x code maxLocals ret tables_1 room_1 #[(.int u0), (.int u1), (.int u2)] h0 (OP (some (.int (1 : Int32))) n0 h0) := by
  refine MetFree.of_bodySF (plainFor_of_name pn_com_example_licon_licon_search_OperatorTakesPinLaw) hisR ?_
  intro p e s m args below meth c s₁ Bd hml0 hP hK
  obtain ⟨rfl, hZ, hh⟩ := hP
  have hx := Bd.exec
  have hby := Bd.bytes
  have hml : c.maxLocals = 7 := hml0
  have hown : s.vm.findClass "com/example/licon/licon/search/OperatorTakesPinLaw" = some m.cls := findClass_of_methodNamed Bd.named
  have X0 : Stand p l e room_1 s m #[(.int u0), (.int u1), (.int u2)] below meth c s₁ [] 0 0 := Stand.of_body Bd
  have e0 : s₁.heap = h0 := by rw [← hh, Bd.state]; rfl
  have N0 := Fr.nil n0
  have pre0 : ∀ t, Steps p.tables e below (s₁.setTop (mkF m 0 #[.val (.int u0), .val (.int u1), .val (.int u2), .unset, .unset, .unset, .unset] [])) t → Steps p.tables e below (s₁.setTop (entryFrame m #[(.int u0), (.int u1), (.int u2)] maxLocals)) t := fun t k => castTop (by first | rfl | simp [entryFrame, mkF, argsToLocals, Value.category, maxLocals]) k
  obtain ⟨_, _, ⟨T1, L1, k1, n1⟩, -, X1, ⟨Lc1, hQ1, l1, y1, z1⟩, st1⟩ := Jvm.LawKit.callS X0 hx (y := (⟨"com/example/licon/licon/search/OperatorTakesPinLaw", "pick", "(I)Lcom/example/licon/licon/search/Operator;"⟩ : MethodName)) hown (mvT hZ (hw _ (List.mem_of_getElem? (i := 0) rfl))) (mvT hZ (hw _ (List.mem_of_getElem? (i := 1) rfl))) (mvT hZ (hw _ (List.mem_of_getElem? (i := 2) rfl))) (mvT hZ (hw _ (List.mem_of_getElem? (i := 3) rfl))) (by decide) (backOf (W := 0) (rm_pick_40 l Z a0 hw w h0 n0 Z0 K u0 u1 u2) hZ (hw _ (List.mem_of_getElem? (i := 3) rfl)) (hw _ (List.mem_of_getElem? (i := 2) rfl)) (by decide) (by decide)) (g := (mkF m 21 #[.val (.int u0), .val (.int u1), .val (.int u2), .val (.int (3 : Int32)), .val (.int u1), .unset, .unset] [(.int (3 : Int32))])) rfl (by rw [hml]; rfl) (argsL := [(.int (3 : Int32))]) (rest := []) (lenOf pd_28I29Lcom2fexample2flicon2flicon2fsearch2fOperator3b rfl) rfl (by show 2 * 0 + _ ≤ _; exact Nat.le_of_eq rfl) (hb hby at_21) (fun _ _ => ⟨rfl, e0, (by decide : 0 + 0 ≤ _), (by decide : 0 + 0 ≤ _)⟩)
  dsimp only [Pt.U, Pt.locs, Pt.cells, Pt.slots] at X1 l1 y1 z1 st1 hQ1
  subst l1 y1 z1
  obtain ⟨rfl, N1q, e1⟩ := hQ1
  have N1 := Fr.app N0 N1q
  obtain ⟨cq2, kq2, qa2, qb2, qc2⟩ := isOf hZ e1 K.2.2.2.2.2.2.2.2.2.2.2.1
  obtain ⟨_, _, ⟨T2, L2, k2, n2⟩, -, X2, ⟨Lc2, hQ2, l2, y2, z2⟩, st2⟩ := X1.virtualBack hx (y := (⟨"com/example/licon/licon/search/Operator", "takes", "(I)Z"⟩ : MethodName)) (z := (⟨"com/example/licon/licon/search/Operator", "takes", "(I)Z"⟩ : MethodName)) hown (mvT hZ (hw _ (List.mem_of_getElem? (i := 7) rfl))) (mvT hZ (hw _ (List.mem_of_getElem? (i := 8) rfl))) (notFace_of_selects (args := #[]) (mvT hZ (hw _ (List.mem_of_getElem? (i := 10) rfl)))) (mvT hZ (hw _ (List.mem_of_getElem? (i := 10) rfl))) (mvT hZ (hw _ (List.mem_of_getElem? (i := 9) rfl))) (by decide) (backOf (W := 0) (rm_takes_41 l Z a0 hw w h0 n0 Z0 K u0 u1 u2 hf17) hZ (hw _ (List.mem_of_getElem? (i := 11) rfl)) (hw _ (List.mem_of_getElem? (i := 5) rfl)) (by decide) (by decide)) qa2 qc2 (g := (mkF m 84 #[.val (.int u0), .val (.int u1), .val (.int u2), .val (.int (3 : Int32)), .val (.int u1), .val (.ref (w 5)), .val (.int (1 : Int32))] [(.int u1), (.ref (w 5))])) rfl (by rw [hml]; rfl) (Steps.refl _) (argsL := [(.int u1)]) (rest := []) (lenOf pd_28I29Z rfl) rfl (by show 2 * 0 + _ ≤ _; exact Nat.le_of_eq rfl) (hb hby at_84) (fun _ _ => ⟨rfl, e1, (by decide : 0 + 0 ≤ _), (by decide : 0 + 0 ≤ _)⟩)
  dsimp only [Pt.U, Pt.locs, Pt.cells, Pt.slots] at X2 l2 y2 z2 st2 hQ2
  subst l2 y2 z2
  obtain ⟨rfl, N2q, e2⟩ := hQ2
  have N2 := Fr.app N1 N2q
  obtain ⟨fs, hr, hrun, hended, hW, hsame⟩ := X2.leave (v := (some (.int (1 : Int32)))) (fun h => by rw [Bd.returns] at h; cases h)
  refine ⟨_, _, pre0 _ ?_, hrun, hended, _, _, rfl, ?_, ⟨_, rfl⟩, hW, hsame.mono (by decide) (by decide)⟩
  · show Steps p.tables e below (s₁.setTop (mkF m 0 #[.val (.int u0), .val (.int u1), .val (.int u2), .unset, .unset, .unset, .unset] [])) _
    refine XS.iloadN X0.here hx rfl (hb hby at_0) rfl ?_
    refine XS.bipush X0.here hx rfl (hb hby at_1) ?_
    refine XS.iand X0.here hx rfl (hb hby at_3) rfl ?_
    show Steps p.tables e below (s₁.setTop (mkF m 4 #[.val (.int u0), .val (.int u1), .val (.int u2), .unset, .unset, .unset, .unset] [(.int (u0 &&& (7 : Int32)))])) _
    rw [hk0]
    show Steps p.tables e below (s₁.setTop (mkF m 4 #[.val (.int u0), .val (.int u1), .val (.int u2), .unset, .unset, .unset, .unset] [(.int (3 : Int32))])) _
    refine XS.istoreN X0.here hx rfl (hb hby at_4) rfl (l' := #[.val (.int u0), .val (.int u1), .val (.int u2), .val (.int (3 : Int32)), .unset, .unset, .unset]) rfl ?_
    refine XS.iloadN X0.here hx rfl (hb hby at_5) rfl ?_
    refine XS.iconst X0.here hx rfl (hb hby at_6) ?_
    refine XS.iand X0.here hx rfl (hb hby at_7) rfl ?_
    show Steps p.tables e below (s₁.setTop (mkF m 8 #[.val (.int u0), .val (.int u1), .val (.int u2), .val (.int (3 : Int32)), .unset, .unset, .unset] [(.int (u2 &&& (1 : Int32)))])) _
    refine XS.ifYes X0.here hx rfl (pc0 := 8) (pc' := 17) rfl (hb hby at_8) rfl ((if0 _ _).trans (teq hf16).1) (by decide) (by decide) ?_
    refine XS.iloadN X0.here hx rfl (hb hby at_17) rfl ?_
    refine XS.istore X0.here hx rfl (hb hby at_18) rfl (l' := #[.val (.int u0), .val (.int u1), .val (.int u2), .val (.int (3 : Int32)), .val (.int u1), .unset, .unset]) rfl ?_
    refine XS.iloadN X0.here hx rfl (hb hby at_20) rfl ?_
    show Steps p.tables e below (s₁.setTop (mkF m 21 #[.val (.int u0), .val (.int u1), .val (.int u2), .val (.int (3 : Int32)), .val (.int u1), .unset, .unset] [(.int (3 : Int32))])) _
    refine st1 _ ?_
    refine XS.astore X1.here hx rfl (hb hby at_24) rfl rfl (l' := #[.val (.int u0), .val (.int u1), .val (.int u2), .val (.int (3 : Int32)), .val (.int u1), .val (.ref (w 5)), .unset]) rfl ?_
    refine XS.iloadN X1.here hx rfl (hb hby at_26) rfl ?_
    refine XS.iconst X1.here hx rfl (hb hby at_27) ?_
    show Steps p.tables e below (T1.setTop (mkF m 28 #[.val (.int u0), .val (.int u1), .val (.int u2), .val (.int (3 : Int32)), .val (.int u1), .val (.ref (w 5)), .unset] [(.int (4 : Int32)), (.int (3 : Int32))])) _
    refine XS.icmpNo X1.here hx rfl (hb hby at_28) rfl (tlt (by decide : (3 : Int32) < (4 : Int32))).2.1 ?_
    refine XS.iload X1.here hx rfl (hb hby at_31) rfl ?_
    refine XS.iconst X1.here hx rfl (hb hby at_33) ?_
    refine XS.icmpNo X1.here hx rfl (hb hby at_34) rfl (teq hf17).2 ?_
    show Steps p.tables e below (T1.setTop (mkF m 37 #[.val (.int u0), .val (.int u1), .val (.int u2), .val (.int (3 : Int32)), .val (.int u1), .val (.ref (w 5)), .unset] [])) _
    refine XS.iconst X1.here hx rfl (hb hby at_37) ?_
    refine XS.goto X1.here hx rfl (pc0 := 38) (pc' := 42) rfl (hb hby at_38) (by decide) (by decide) ?_
    refine XS.istore X1.here hx rfl (hb hby at_42) rfl (l' := #[.val (.int u0), .val (.int u1), .val (.int u2), .val (.int (3 : Int32)), .val (.int u1), .val (.ref (w 5)), .val (.int (1 : Int32))]) rfl ?_
    refine XS.goto X1.here hx rfl (pc0 := 44) (pc' := 80) rfl (hb hby at_44) (by decide) (by decide) ?_
    show Steps p.tables e below (T1.setTop (mkF m 80 #[.val (.int u0), .val (.int u1), .val (.int u2), .val (.int (3 : Int32)), .val (.int u1), .val (.ref (w 5)), .val (.int (1 : Int32))] [])) _
    refine XS.aload X1.here hx rfl (hb hby at_80) rfl rfl ?_
    refine XS.iload X1.here hx rfl (hb hby at_82) rfl ?_
    refine st2.trans ?_
    refine XS.iload X2.here hx rfl (hb hby at_87) rfl ?_
    show Steps p.tables e below (T2.setTop (mkF m 89 #[.val (.int u0), .val (.int u1), .val (.int u2), .val (.int (3 : Int32)), .val (.int u1), .val (.ref (w 5)), .val (.int (1 : Int32))] [(.int (1 : Int32)), (.int (1 : Int32))])) _
    refine XS.icmpNo X2.here hx rfl (hb hby at_89) rfl (teq (by decide : (1 : Int32) = (1 : Int32))).2 ?_
    refine XS.iconst X2.here hx rfl (hb hby at_92) ?_
    refine XS.goto X2.here hx rfl (pc0 := 93) (pc' := 97) rfl (hb hby at_93) (by decide) (by decide) ?_
    show Steps p.tables e below (T2.setTop (mkF m 97 #[.val (.int u0), .val (.int u1), .val (.int u2), .val (.int (3 : Int32)), .val (.int u1), .val (.ref (w 5)), .val (.int (1 : Int32))] [(.int (1 : Int32))])) _
    exact retN X2 hx (t := .boolean) Bd.returns (by simp) (hb hby at_97) hr
  · exact ⟨rfl, N2, e2⟩
set_option maxRecDepth 65536 in
set_option maxHeartbeats 40000000 in
theorem rm_takes_43 (l : Launch) (Z : State) (a0 : Array Value) (hw : ∀ d ∈ tables_1, d.before a0 Z = true) (w : Nat → Addr) (h0 : Heap) (n0 : Nat) (Z0 : n0 ≤ h0.size) (K : Kon Z h0 w) (u0 u1 u2 : Int32) (hf18 : u1 < (1 : Int32)) :
    OM l Z (⟨"com/example/licon/licon/search/Operator", "takes", "(I)Z"⟩ : MethodName) prog_9_method_4_code 2 (some .boolean) [] ({ frames := 0, cells := 0, slots := 0, locals := 0 } : Room) #[(.ref (w 5)), (.int u1)] h0 (OP (some (.int (0 : Int32))) n0 h0) := by
  refine MetFree.of_bodySF (plainFor_of_name pn_com_example_licon_licon_search_Operator) hisR ?_
  intro p e s m args below meth c s₁ Bd hml0 hP hK
  obtain ⟨rfl, hZ, hh⟩ := hP
  have hx := Bd.exec
  have hby := Bd.bytes
  have hml : c.maxLocals = 2 := hml0
  have hown : s.vm.findClass "com/example/licon/licon/search/Operator" = some m.cls := findClass_of_methodNamed Bd.named
  have X0 : Stand p l e ({ frames := 0, cells := 0, slots := 0, locals := 0 } : Room) s m #[(.ref (w 5)), (.int u1)] below meth c s₁ [] 0 0 := Stand.of_body Bd
  have e0 : s₁.heap = h0 := by rw [← hh, Bd.state]; rfl
  have N0 := Fr.nil n0
  have pre0 : ∀ t, Steps p.tables e below (s₁.setTop (mkF m 0 #[.val (.ref (w 5)), .val (.int u1)] [])) t → Steps p.tables e below (s₁.setTop (entryFrame m #[(.ref (w 5)), (.int u1)] 2)) t := fun t k => castTop (by first | rfl | simp [entryFrame, mkF, argsToLocals, Value.category]) k
  obtain ⟨T1, X1, e1, st1⟩ := getF X0 hx hZ hown (host := "") (Or.inl (hw _ (List.mem_of_getElem? (i := 12) rfl))) Via.refl e0 K.2.2.2.2.2.2.2.2.2.2.2.2.2.2.2.2.2.2.2.2.2.2.2.2.1 (g := (mkF m 2 #[.val (.ref (w 5)), .val (.int u1)] [(.ref (w 5)), (.int u1)])) rfl rfl (hb hby d_prog_9_method_4_code_2)
  obtain ⟨fs, hr, hrun, hended, hW, hsame⟩ := X1.leave (v := (some (.int (0 : Int32)))) (fun h => by rw [Bd.returns] at h; cases h)
  refine ⟨_, _, pre0 _ ?_, hrun, hended, _, _, rfl, ?_, ⟨_, rfl⟩, hW, hsame.mono (by decide) (by decide)⟩
  · show Steps p.tables e below (s₁.setTop (mkF m 0 #[.val (.ref (w 5)), .val (.int u1)] [])) _
    refine XS.iloadN X0.here hx rfl (hb hby d_prog_9_method_4_code_0) rfl ?_
    refine XS.aloadN X0.here hx rfl (hb hby d_prog_9_method_4_code_1) rfl rfl ?_
    refine st1 _ ?_
    refine XS.icmpYes X1.here hx rfl (pc0 := 5) (pc' := 20) rfl (hb hby d_prog_9_method_4_code_5) rfl (tlt hf18).1 (by decide) (by decide) ?_
    show Steps p.tables e below (T1.setTop (mkF m 20 #[.val (.ref (w 5)), .val (.int u1)] [])) _
    refine XS.iconst X1.here hx rfl (hb hby d_prog_9_method_4_code_20) ?_
    show Steps p.tables e below (T1.setTop (mkF m 21 #[.val (.ref (w 5)), .val (.int u1)] [(.int (0 : Int32))])) _
    exact retN X1 hx (t := .boolean) Bd.returns (by simp) (hb hby d_prog_9_method_4_code_21) hr
  · exact ⟨rfl, N0, e1⟩
set_option maxRecDepth 65536 in
set_option maxHeartbeats 40000000 in
theorem rm0_44 (l : Launch) (Z : State) (a0 : Array Value) (hw : ∀ d ∈ tables_1, d.before a0 Z = true) (w : Nat → Addr) (h0 : Heap) (n0 : Nat) (Z0 : n0 ≤ h0.size) (K : Kon Z h0 w) (u0 u1 u2 : Int32) (hf16 : (u2 &&& (1 : Int32)) = (0 : Int32)) (hf17 : ¬ (u1 = (1 : Int32))) (hf18 : u1 < (1 : Int32)) (hk0 : (u0 &&& (7 : Int32)) = (3 : Int32)) :
    OM l Z x code maxLocals ret tables_1 room_1 #[(.int u0), (.int u1), (.int u2)] h0 (OP (some (.int (1 : Int32))) n0 h0) := by
  refine MetFree.of_bodySF (plainFor_of_name pn_com_example_licon_licon_search_OperatorTakesPinLaw) hisR ?_
  intro p e s m args below meth c s₁ Bd hml0 hP hK
  obtain ⟨rfl, hZ, hh⟩ := hP
  have hx := Bd.exec
  have hby := Bd.bytes
  have hml : c.maxLocals = 7 := hml0
  have hown : s.vm.findClass "com/example/licon/licon/search/OperatorTakesPinLaw" = some m.cls := findClass_of_methodNamed Bd.named
  have X0 : Stand p l e room_1 s m #[(.int u0), (.int u1), (.int u2)] below meth c s₁ [] 0 0 := Stand.of_body Bd
  have e0 : s₁.heap = h0 := by rw [← hh, Bd.state]; rfl
  have N0 := Fr.nil n0
  have pre0 : ∀ t, Steps p.tables e below (s₁.setTop (mkF m 0 #[.val (.int u0), .val (.int u1), .val (.int u2), .unset, .unset, .unset, .unset] [])) t → Steps p.tables e below (s₁.setTop (entryFrame m #[(.int u0), (.int u1), (.int u2)] maxLocals)) t := fun t k => castTop (by first | rfl | simp [entryFrame, mkF, argsToLocals, Value.category, maxLocals]) k
  obtain ⟨_, _, ⟨T1, L1, k1, n1⟩, -, X1, ⟨Lc1, hQ1, l1, y1, z1⟩, st1⟩ := Jvm.LawKit.callS X0 hx (y := (⟨"com/example/licon/licon/search/OperatorTakesPinLaw", "pick", "(I)Lcom/example/licon/licon/search/Operator;"⟩ : MethodName)) hown (mvT hZ (hw _ (List.mem_of_getElem? (i := 0) rfl))) (mvT hZ (hw _ (List.mem_of_getElem? (i := 1) rfl))) (mvT hZ (hw _ (List.mem_of_getElem? (i := 2) rfl))) (mvT hZ (hw _ (List.mem_of_getElem? (i := 3) rfl))) (by decide) (backOf (W := 0) (rm_pick_40 l Z a0 hw w h0 n0 Z0 K u0 u1 u2) hZ (hw _ (List.mem_of_getElem? (i := 3) rfl)) (hw _ (List.mem_of_getElem? (i := 2) rfl)) (by decide) (by decide)) (g := (mkF m 21 #[.val (.int u0), .val (.int u1), .val (.int u2), .val (.int (3 : Int32)), .val (.int u1), .unset, .unset] [(.int (3 : Int32))])) rfl (by rw [hml]; rfl) (argsL := [(.int (3 : Int32))]) (rest := []) (lenOf pd_28I29Lcom2fexample2flicon2flicon2fsearch2fOperator3b rfl) rfl (by show 2 * 0 + _ ≤ _; exact Nat.le_of_eq rfl) (hb hby at_21) (fun _ _ => ⟨rfl, e0, (by decide : 0 + 0 ≤ _), (by decide : 0 + 0 ≤ _)⟩)
  dsimp only [Pt.U, Pt.locs, Pt.cells, Pt.slots] at X1 l1 y1 z1 st1 hQ1
  subst l1 y1 z1
  obtain ⟨rfl, N1q, e1⟩ := hQ1
  have N1 := Fr.app N0 N1q
  obtain ⟨cq2, kq2, qa2, qb2, qc2⟩ := isOf hZ e1 K.2.2.2.2.2.2.2.2.2.2.2.1
  obtain ⟨_, _, ⟨T2, L2, k2, n2⟩, -, X2, ⟨Lc2, hQ2, l2, y2, z2⟩, st2⟩ := X1.virtualBack hx (y := (⟨"com/example/licon/licon/search/Operator", "takes", "(I)Z"⟩ : MethodName)) (z := (⟨"com/example/licon/licon/search/Operator", "takes", "(I)Z"⟩ : MethodName)) hown (mvT hZ (hw _ (List.mem_of_getElem? (i := 7) rfl))) (mvT hZ (hw _ (List.mem_of_getElem? (i := 8) rfl))) (notFace_of_selects (args := #[]) (mvT hZ (hw _ (List.mem_of_getElem? (i := 10) rfl)))) (mvT hZ (hw _ (List.mem_of_getElem? (i := 10) rfl))) (mvT hZ (hw _ (List.mem_of_getElem? (i := 9) rfl))) (by decide) (backOf (W := 0) (rm_takes_43 l Z a0 hw w h0 n0 Z0 K u0 u1 u2 hf18) hZ (hw _ (List.mem_of_getElem? (i := 11) rfl)) (hw _ (List.mem_of_getElem? (i := 5) rfl)) (by decide) (by decide)) qa2 qc2 (g := (mkF m 84 #[.val (.int u0), .val (.int u1), .val (.int u2), .val (.int (3 : Int32)), .val (.int u1), .val (.ref (w 5)), .val (.int (0 : Int32))] [(.int u1), (.ref (w 5))])) rfl (by rw [hml]; rfl) (Steps.refl _) (argsL := [(.int u1)]) (rest := []) (lenOf pd_28I29Z rfl) rfl (by show 2 * 0 + _ ≤ _; exact Nat.le_of_eq rfl) (hb hby at_84) (fun _ _ => ⟨rfl, e1, (by decide : 0 + 0 ≤ _), (by decide : 0 + 0 ≤ _)⟩)
  dsimp only [Pt.U, Pt.locs, Pt.cells, Pt.slots] at X2 l2 y2 z2 st2 hQ2
  subst l2 y2 z2
  obtain ⟨rfl, N2q, e2⟩ := hQ2
  have N2 := Fr.app N1 N2q
  obtain ⟨fs, hr, hrun, hended, hW, hsame⟩ := X2.leave (v := (some (.int (1 : Int32)))) (fun h => by rw [Bd.returns] at h; cases h)
  refine ⟨_, _, pre0 _ ?_, hrun, hended, _, _, rfl, ?_, ⟨_, rfl⟩, hW, hsame.mono (by decide) (by decide)⟩
  · show Steps p.tables e below (s₁.setTop (mkF m 0 #[.val (.int u0), .val (.int u1), .val (.int u2), .unset, .unset, .unset, .unset] [])) _
    refine XS.iloadN X0.here hx rfl (hb hby at_0) rfl ?_
    refine XS.bipush X0.here hx rfl (hb hby at_1) ?_
    refine XS.iand X0.here hx rfl (hb hby at_3) rfl ?_
    show Steps p.tables e below (s₁.setTop (mkF m 4 #[.val (.int u0), .val (.int u1), .val (.int u2), .unset, .unset, .unset, .unset] [(.int (u0 &&& (7 : Int32)))])) _
    rw [hk0]
    show Steps p.tables e below (s₁.setTop (mkF m 4 #[.val (.int u0), .val (.int u1), .val (.int u2), .unset, .unset, .unset, .unset] [(.int (3 : Int32))])) _
    refine XS.istoreN X0.here hx rfl (hb hby at_4) rfl (l' := #[.val (.int u0), .val (.int u1), .val (.int u2), .val (.int (3 : Int32)), .unset, .unset, .unset]) rfl ?_
    refine XS.iloadN X0.here hx rfl (hb hby at_5) rfl ?_
    refine XS.iconst X0.here hx rfl (hb hby at_6) ?_
    refine XS.iand X0.here hx rfl (hb hby at_7) rfl ?_
    show Steps p.tables e below (s₁.setTop (mkF m 8 #[.val (.int u0), .val (.int u1), .val (.int u2), .val (.int (3 : Int32)), .unset, .unset, .unset] [(.int (u2 &&& (1 : Int32)))])) _
    refine XS.ifYes X0.here hx rfl (pc0 := 8) (pc' := 17) rfl (hb hby at_8) rfl ((if0 _ _).trans (teq hf16).1) (by decide) (by decide) ?_
    refine XS.iloadN X0.here hx rfl (hb hby at_17) rfl ?_
    refine XS.istore X0.here hx rfl (hb hby at_18) rfl (l' := #[.val (.int u0), .val (.int u1), .val (.int u2), .val (.int (3 : Int32)), .val (.int u1), .unset, .unset]) rfl ?_
    refine XS.iloadN X0.here hx rfl (hb hby at_20) rfl ?_
    show Steps p.tables e below (s₁.setTop (mkF m 21 #[.val (.int u0), .val (.int u1), .val (.int u2), .val (.int (3 : Int32)), .val (.int u1), .unset, .unset] [(.int (3 : Int32))])) _
    refine st1 _ ?_
    refine XS.astore X1.here hx rfl (hb hby at_24) rfl rfl (l' := #[.val (.int u0), .val (.int u1), .val (.int u2), .val (.int (3 : Int32)), .val (.int u1), .val (.ref (w 5)), .unset]) rfl ?_
    refine XS.iloadN X1.here hx rfl (hb hby at_26) rfl ?_
    refine XS.iconst X1.here hx rfl (hb hby at_27) ?_
    show Steps p.tables e below (T1.setTop (mkF m 28 #[.val (.int u0), .val (.int u1), .val (.int u2), .val (.int (3 : Int32)), .val (.int u1), .val (.ref (w 5)), .unset] [(.int (4 : Int32)), (.int (3 : Int32))])) _
    refine XS.icmpNo X1.here hx rfl (hb hby at_28) rfl (tlt (by decide : (3 : Int32) < (4 : Int32))).2.1 ?_
    refine XS.iload X1.here hx rfl (hb hby at_31) rfl ?_
    refine XS.iconst X1.here hx rfl (hb hby at_33) ?_
    refine XS.icmpYes X1.here hx rfl (pc0 := 34) (pc' := 41) rfl (hb hby at_34) rfl (feq hf17).2 (by decide) (by decide) ?_
    show Steps p.tables e below (T1.setTop (mkF m 41 #[.val (.int u0), .val (.int u1), .val (.int u2), .val (.int (3 : Int32)), .val (.int u1), .val (.ref (w 5)), .unset] [])) _
    refine XS.iconst X1.here hx rfl (hb hby at_41) ?_
    refine XS.istore X1.here hx rfl (hb hby at_42) rfl (l' := #[.val (.int u0), .val (.int u1), .val (.int u2), .val (.int (3 : Int32)), .val (.int u1), .val (.ref (w 5)), .val (.int (0 : Int32))]) rfl ?_
    refine XS.goto X1.here hx rfl (pc0 := 44) (pc' := 80) rfl (hb hby at_44) (by decide) (by decide) ?_
    refine XS.aload X1.here hx rfl (hb hby at_80) rfl rfl ?_
    show Steps p.tables e below (T1.setTop (mkF m 82 #[.val (.int u0), .val (.int u1), .val (.int u2), .val (.int (3 : Int32)), .val (.int u1), .val (.ref (w 5)), .val (.int (0 : Int32))] [(.ref (w 5))])) _
    refine XS.iload X1.here hx rfl (hb hby at_82) rfl ?_
    refine st2.trans ?_
    refine XS.iload X2.here hx rfl (hb hby at_87) rfl ?_
    refine XS.icmpNo X2.here hx rfl (hb hby at_89) rfl (teq (by decide : (0 : Int32) = (0 : Int32))).2 ?_
    show Steps p.tables e below (T2.setTop (mkF m 92 #[.val (.int u0), .val (.int u1), .val (.int u2), .val (.int (3 : Int32)), .val (.int u1), .val (.ref (w 5)), .val (.int (0 : Int32))] [])) _
    refine XS.iconst X2.here hx rfl (hb hby at_92) ?_
    refine XS.goto X2.here hx rfl (pc0 := 93) (pc' := 97) rfl (hb hby at_93) (by decide) (by decide) ?_
    show Steps p.tables e below (T2.setTop (mkF m 97 #[.val (.int u0), .val (.int u1), .val (.int u2), .val (.int (3 : Int32)), .val (.int u1), .val (.ref (w 5)), .val (.int (0 : Int32))] [(.int (1 : Int32))])) _
    exact retN X2 hx (t := .boolean) Bd.returns (by simp) (hb hby at_97) hr
  · exact ⟨rfl, N2, e2⟩
set_option maxRecDepth 65536 in
set_option maxHeartbeats 40000000 in
theorem rm_takes_45 (l : Launch) (Z : State) (a0 : Array Value) (hw : ∀ d ∈ tables_1, d.before a0 Z = true) (w : Nat → Addr) (h0 : Heap) (n0 : Nat) (Z0 : n0 ≤ h0.size) (K : Kon Z h0 w) (u0 u1 u2 : Int32) (hf17 : ¬ (u1 = (1 : Int32))) (hf18 : ¬ (u1 < (1 : Int32))) :
    OM l Z (⟨"com/example/licon/licon/search/Operator", "takes", "(I)Z"⟩ : MethodName) prog_9_method_4_code 2 (some .boolean) [] ({ frames := 0, cells := 0, slots := 0, locals := 0 } : Room) #[(.ref (w 5)), (.int u1)] h0 (OP (some (.int (0 : Int32))) n0 h0) := by
  refine MetFree.of_bodySF (plainFor_of_name pn_com_example_licon_licon_search_Operator) hisR ?_
  intro p e s m args below meth c s₁ Bd hml0 hP hK
  obtain ⟨rfl, hZ, hh⟩ := hP
  have hx := Bd.exec
  have hby := Bd.bytes
  have hml : c.maxLocals = 2 := hml0
  have hown : s.vm.findClass "com/example/licon/licon/search/Operator" = some m.cls := findClass_of_methodNamed Bd.named
  have X0 : Stand p l e ({ frames := 0, cells := 0, slots := 0, locals := 0 } : Room) s m #[(.ref (w 5)), (.int u1)] below meth c s₁ [] 0 0 := Stand.of_body Bd
  have e0 : s₁.heap = h0 := by rw [← hh, Bd.state]; rfl
  have N0 := Fr.nil n0
  have pre0 : ∀ t, Steps p.tables e below (s₁.setTop (mkF m 0 #[.val (.ref (w 5)), .val (.int u1)] [])) t → Steps p.tables e below (s₁.setTop (entryFrame m #[(.ref (w 5)), (.int u1)] 2)) t := fun t k => castTop (by first | rfl | simp [entryFrame, mkF, argsToLocals, Value.category]) k
  obtain ⟨T1, X1, e1, st1⟩ := getF X0 hx hZ hown (host := "") (Or.inl (hw _ (List.mem_of_getElem? (i := 12) rfl))) Via.refl e0 K.2.2.2.2.2.2.2.2.2.2.2.2.2.2.2.2.2.2.2.2.2.2.2.2.1 (g := (mkF m 2 #[.val (.ref (w 5)), .val (.int u1)] [(.ref (w 5)), (.int u1)])) rfl rfl (hb hby d_prog_9_method_4_code_2)
  obtain ⟨T2, X2, e2, st2⟩ := getF X1 hx hZ hown (host := "") (Or.inl (hw _ (List.mem_of_getElem? (i := 14) rfl))) Via.refl e1 K.2.2.2.2.2.2.2.2.2.2.2.2.2.2.2.2.2.2.2.2.2.2.2.2.2.1 (g := (mkF m 10 #[.val (.ref (w 5)), .val (.int u1)] [(.ref (w 5)), (.int u1)])) rfl rfl (hb hby d_prog_9_method_4_code_10)
  obtain ⟨fs, hr, hrun, hended, hW, hsame⟩ := X2.leave (v := (some (.int (0 : Int32)))) (fun h => by rw [Bd.returns] at h; cases h)
  refine ⟨_, _, pre0 _ ?_, hrun, hended, _, _, rfl, ?_, ⟨_, rfl⟩, hW, hsame.mono (by decide) (by decide)⟩
  · show Steps p.tables e below (s₁.setTop (mkF m 0 #[.val (.ref (w 5)), .val (.int u1)] [])) _
    refine XS.iloadN X0.here hx rfl (hb hby d_prog_9_method_4_code_0) rfl ?_
    refine XS.aloadN X0.here hx rfl (hb hby d_prog_9_method_4_code_1) rfl rfl ?_
    refine st1 _ ?_
    refine XS.icmpNo X1.here hx rfl (hb hby d_prog_9_method_4_code_5) rfl (flt hf18).1 ?_
    show Steps p.tables e below (T1.setTop (mkF m 8 #[.val (.ref (w 5)), .val (.int u1)] [])) _
    refine XS.iloadN X1.here hx rfl (hb hby d_prog_9_method_4_code_8) rfl ?_
    refine XS.aloadN X1.here hx rfl (hb hby d_prog_9_method_4_code_9) rfl rfl ?_
    refine st2 _ ?_
    refine XS.icmpYes X2.here hx rfl (pc0 := 13) (pc' := 20) rfl (hb hby d_prog_9_method_4_code_13) rfl (tlt (by have z0 := mt Int32.toInt_inj.mp hf17; have z1 := mt Int32.lt_iff_toInt_lt.mpr hf18; have l0 : (1 : Int32).toInt = 1 := rfl; have r0 := rng32 u1; exact Int32.lt_iff_toInt_lt.mpr (by omega) : (1 : Int32) < u1)).2.2.1 (by decide) (by decide) ?_
    show Steps p.tables e below (T2.setTop (mkF m 20 #[.val (.ref (w 5)), .val (.int u1)] [])) _
    refine XS.iconst X2.here hx rfl (hb hby d_prog_9_method_4_code_20) ?_
    show Steps p.tables e below (T2.setTop (mkF m 21 #[.val (.ref (w 5)), .val (.int u1)] [(.int (0 : Int32))])) _
    exact retN X2 hx (t := .boolean) Bd.returns (by simp) (hb hby d_prog_9_method_4_code_21) hr
  · exact ⟨rfl, N0, e2⟩
set_option maxRecDepth 65536 in
set_option maxHeartbeats 40000000 in
theorem rm0_46 (l : Launch) (Z : State) (a0 : Array Value) (hw : ∀ d ∈ tables_1, d.before a0 Z = true) (w : Nat → Addr) (h0 : Heap) (n0 : Nat) (Z0 : n0 ≤ h0.size) (K : Kon Z h0 w) (u0 u1 u2 : Int32) (hf16 : (u2 &&& (1 : Int32)) = (0 : Int32)) (hf17 : ¬ (u1 = (1 : Int32))) (hf18 : ¬ (u1 < (1 : Int32))) (hk0 : (u0 &&& (7 : Int32)) = (3 : Int32)) :
    OM l Z x code maxLocals ret tables_1 room_1 #[(.int u0), (.int u1), (.int u2)] h0 (OP (some (.int (1 : Int32))) n0 h0) := by
  refine MetFree.of_bodySF (plainFor_of_name pn_com_example_licon_licon_search_OperatorTakesPinLaw) hisR ?_
  intro p e s m args below meth c s₁ Bd hml0 hP hK
  obtain ⟨rfl, hZ, hh⟩ := hP
  have hx := Bd.exec
  have hby := Bd.bytes
  have hml : c.maxLocals = 7 := hml0
  have hown : s.vm.findClass "com/example/licon/licon/search/OperatorTakesPinLaw" = some m.cls := findClass_of_methodNamed Bd.named
  have X0 : Stand p l e room_1 s m #[(.int u0), (.int u1), (.int u2)] below meth c s₁ [] 0 0 := Stand.of_body Bd
  have e0 : s₁.heap = h0 := by rw [← hh, Bd.state]; rfl
  have N0 := Fr.nil n0
  have pre0 : ∀ t, Steps p.tables e below (s₁.setTop (mkF m 0 #[.val (.int u0), .val (.int u1), .val (.int u2), .unset, .unset, .unset, .unset] [])) t → Steps p.tables e below (s₁.setTop (entryFrame m #[(.int u0), (.int u1), (.int u2)] maxLocals)) t := fun t k => castTop (by first | rfl | simp [entryFrame, mkF, argsToLocals, Value.category, maxLocals]) k
  obtain ⟨_, _, ⟨T1, L1, k1, n1⟩, -, X1, ⟨Lc1, hQ1, l1, y1, z1⟩, st1⟩ := Jvm.LawKit.callS X0 hx (y := (⟨"com/example/licon/licon/search/OperatorTakesPinLaw", "pick", "(I)Lcom/example/licon/licon/search/Operator;"⟩ : MethodName)) hown (mvT hZ (hw _ (List.mem_of_getElem? (i := 0) rfl))) (mvT hZ (hw _ (List.mem_of_getElem? (i := 1) rfl))) (mvT hZ (hw _ (List.mem_of_getElem? (i := 2) rfl))) (mvT hZ (hw _ (List.mem_of_getElem? (i := 3) rfl))) (by decide) (backOf (W := 0) (rm_pick_40 l Z a0 hw w h0 n0 Z0 K u0 u1 u2) hZ (hw _ (List.mem_of_getElem? (i := 3) rfl)) (hw _ (List.mem_of_getElem? (i := 2) rfl)) (by decide) (by decide)) (g := (mkF m 21 #[.val (.int u0), .val (.int u1), .val (.int u2), .val (.int (3 : Int32)), .val (.int u1), .unset, .unset] [(.int (3 : Int32))])) rfl (by rw [hml]; rfl) (argsL := [(.int (3 : Int32))]) (rest := []) (lenOf pd_28I29Lcom2fexample2flicon2flicon2fsearch2fOperator3b rfl) rfl (by show 2 * 0 + _ ≤ _; exact Nat.le_of_eq rfl) (hb hby at_21) (fun _ _ => ⟨rfl, e0, (by decide : 0 + 0 ≤ _), (by decide : 0 + 0 ≤ _)⟩)
  dsimp only [Pt.U, Pt.locs, Pt.cells, Pt.slots] at X1 l1 y1 z1 st1 hQ1
  subst l1 y1 z1
  obtain ⟨rfl, N1q, e1⟩ := hQ1
  have N1 := Fr.app N0 N1q
  obtain ⟨cq2, kq2, qa2, qb2, qc2⟩ := isOf hZ e1 K.2.2.2.2.2.2.2.2.2.2.2.1
  obtain ⟨_, _, ⟨T2, L2, k2, n2⟩, -, X2, ⟨Lc2, hQ2, l2, y2, z2⟩, st2⟩ := X1.virtualBack hx (y := (⟨"com/example/licon/licon/search/Operator", "takes", "(I)Z"⟩ : MethodName)) (z := (⟨"com/example/licon/licon/search/Operator", "takes", "(I)Z"⟩ : MethodName)) hown (mvT hZ (hw _ (List.mem_of_getElem? (i := 7) rfl))) (mvT hZ (hw _ (List.mem_of_getElem? (i := 8) rfl))) (notFace_of_selects (args := #[]) (mvT hZ (hw _ (List.mem_of_getElem? (i := 10) rfl)))) (mvT hZ (hw _ (List.mem_of_getElem? (i := 10) rfl))) (mvT hZ (hw _ (List.mem_of_getElem? (i := 9) rfl))) (by decide) (backOf (W := 0) (rm_takes_45 l Z a0 hw w h0 n0 Z0 K u0 u1 u2 hf17 hf18) hZ (hw _ (List.mem_of_getElem? (i := 11) rfl)) (hw _ (List.mem_of_getElem? (i := 5) rfl)) (by decide) (by decide)) qa2 qc2 (g := (mkF m 84 #[.val (.int u0), .val (.int u1), .val (.int u2), .val (.int (3 : Int32)), .val (.int u1), .val (.ref (w 5)), .val (.int (0 : Int32))] [(.int u1), (.ref (w 5))])) rfl (by rw [hml]; rfl) (Steps.refl _) (argsL := [(.int u1)]) (rest := []) (lenOf pd_28I29Z rfl) rfl (by show 2 * 0 + _ ≤ _; exact Nat.le_of_eq rfl) (hb hby at_84) (fun _ _ => ⟨rfl, e1, (by decide : 0 + 0 ≤ _), (by decide : 0 + 0 ≤ _)⟩)
  dsimp only [Pt.U, Pt.locs, Pt.cells, Pt.slots] at X2 l2 y2 z2 st2 hQ2
  subst l2 y2 z2
  obtain ⟨rfl, N2q, e2⟩ := hQ2
  have N2 := Fr.app N1 N2q
  obtain ⟨fs, hr, hrun, hended, hW, hsame⟩ := X2.leave (v := (some (.int (1 : Int32)))) (fun h => by rw [Bd.returns] at h; cases h)
  refine ⟨_, _, pre0 _ ?_, hrun, hended, _, _, rfl, ?_, ⟨_, rfl⟩, hW, hsame.mono (by decide) (by decide)⟩
  · show Steps p.tables e below (s₁.setTop (mkF m 0 #[.val (.int u0), .val (.int u1), .val (.int u2), .unset, .unset, .unset, .unset] [])) _
    refine XS.iloadN X0.here hx rfl (hb hby at_0) rfl ?_
    refine XS.bipush X0.here hx rfl (hb hby at_1) ?_
    refine XS.iand X0.here hx rfl (hb hby at_3) rfl ?_
    show Steps p.tables e below (s₁.setTop (mkF m 4 #[.val (.int u0), .val (.int u1), .val (.int u2), .unset, .unset, .unset, .unset] [(.int (u0 &&& (7 : Int32)))])) _
    rw [hk0]
    show Steps p.tables e below (s₁.setTop (mkF m 4 #[.val (.int u0), .val (.int u1), .val (.int u2), .unset, .unset, .unset, .unset] [(.int (3 : Int32))])) _
    refine XS.istoreN X0.here hx rfl (hb hby at_4) rfl (l' := #[.val (.int u0), .val (.int u1), .val (.int u2), .val (.int (3 : Int32)), .unset, .unset, .unset]) rfl ?_
    refine XS.iloadN X0.here hx rfl (hb hby at_5) rfl ?_
    refine XS.iconst X0.here hx rfl (hb hby at_6) ?_
    refine XS.iand X0.here hx rfl (hb hby at_7) rfl ?_
    show Steps p.tables e below (s₁.setTop (mkF m 8 #[.val (.int u0), .val (.int u1), .val (.int u2), .val (.int (3 : Int32)), .unset, .unset, .unset] [(.int (u2 &&& (1 : Int32)))])) _
    refine XS.ifYes X0.here hx rfl (pc0 := 8) (pc' := 17) rfl (hb hby at_8) rfl ((if0 _ _).trans (teq hf16).1) (by decide) (by decide) ?_
    refine XS.iloadN X0.here hx rfl (hb hby at_17) rfl ?_
    refine XS.istore X0.here hx rfl (hb hby at_18) rfl (l' := #[.val (.int u0), .val (.int u1), .val (.int u2), .val (.int (3 : Int32)), .val (.int u1), .unset, .unset]) rfl ?_
    refine XS.iloadN X0.here hx rfl (hb hby at_20) rfl ?_
    show Steps p.tables e below (s₁.setTop (mkF m 21 #[.val (.int u0), .val (.int u1), .val (.int u2), .val (.int (3 : Int32)), .val (.int u1), .unset, .unset] [(.int (3 : Int32))])) _
    refine st1 _ ?_
    refine XS.astore X1.here hx rfl (hb hby at_24) rfl rfl (l' := #[.val (.int u0), .val (.int u1), .val (.int u2), .val (.int (3 : Int32)), .val (.int u1), .val (.ref (w 5)), .unset]) rfl ?_
    refine XS.iloadN X1.here hx rfl (hb hby at_26) rfl ?_
    refine XS.iconst X1.here hx rfl (hb hby at_27) ?_
    show Steps p.tables e below (T1.setTop (mkF m 28 #[.val (.int u0), .val (.int u1), .val (.int u2), .val (.int (3 : Int32)), .val (.int u1), .val (.ref (w 5)), .unset] [(.int (4 : Int32)), (.int (3 : Int32))])) _
    refine XS.icmpNo X1.here hx rfl (hb hby at_28) rfl (tlt (by decide : (3 : Int32) < (4 : Int32))).2.1 ?_
    refine XS.iload X1.here hx rfl (hb hby at_31) rfl ?_
    refine XS.iconst X1.here hx rfl (hb hby at_33) ?_
    refine XS.icmpYes X1.here hx rfl (pc0 := 34) (pc' := 41) rfl (hb hby at_34) rfl (feq hf17).2 (by decide) (by decide) ?_
    show Steps p.tables e below (T1.setTop (mkF m 41 #[.val (.int u0), .val (.int u1), .val (.int u2), .val (.int (3 : Int32)), .val (.int u1), .val (.ref (w 5)), .unset] [])) _
    refine XS.iconst X1.here hx rfl (hb hby at_41) ?_
    refine XS.istore X1.here hx rfl (hb hby at_42) rfl (l' := #[.val (.int u0), .val (.int u1), .val (.int u2), .val (.int (3 : Int32)), .val (.int u1), .val (.ref (w 5)), .val (.int (0 : Int32))]) rfl ?_
    refine XS.goto X1.here hx rfl (pc0 := 44) (pc' := 80) rfl (hb hby at_44) (by decide) (by decide) ?_
    refine XS.aload X1.here hx rfl (hb hby at_80) rfl rfl ?_
    show Steps p.tables e below (T1.setTop (mkF m 82 #[.val (.int u0), .val (.int u1), .val (.int u2), .val (.int (3 : Int32)), .val (.int u1), .val (.ref (w 5)), .val (.int (0 : Int32))] [(.ref (w 5))])) _
    refine XS.iload X1.here hx rfl (hb hby at_82) rfl ?_
    refine st2.trans ?_
    refine XS.iload X2.here hx rfl (hb hby at_87) rfl ?_
    refine XS.icmpNo X2.here hx rfl (hb hby at_89) rfl (teq (by decide : (0 : Int32) = (0 : Int32))).2 ?_
    show Steps p.tables e below (T2.setTop (mkF m 92 #[.val (.int u0), .val (.int u1), .val (.int u2), .val (.int (3 : Int32)), .val (.int u1), .val (.ref (w 5)), .val (.int (0 : Int32))] [])) _
    refine XS.iconst X2.here hx rfl (hb hby at_92) ?_
    refine XS.goto X2.here hx rfl (pc0 := 93) (pc' := 97) rfl (hb hby at_93) (by decide) (by decide) ?_
    show Steps p.tables e below (T2.setTop (mkF m 97 #[.val (.int u0), .val (.int u1), .val (.int u2), .val (.int (3 : Int32)), .val (.int u1), .val (.ref (w 5)), .val (.int (0 : Int32))] [(.int (1 : Int32))])) _
    exact retN X2 hx (t := .boolean) Bd.returns (by simp) (hb hby at_97) hr
  · exact ⟨rfl, N2, e2⟩
set_option maxRecDepth 65536 in
set_option maxHeartbeats 40000000 in
theorem rm_takes_47 (l : Launch) (Z : State) (a0 : Array Value) (hw : ∀ d ∈ tables_1, d.before a0 Z = true) (w : Nat → Addr) (h0 : Heap) (n0 : Nat) (Z0 : n0 ≤ h0.size) (K : Kon Z h0 w) (u0 u1 u2 : Int32) (hf19 : (u1 % (4 : Int32)) = (1 : Int32)) :
    OM l Z (⟨"com/example/licon/licon/search/Operator", "takes", "(I)Z"⟩ : MethodName) prog_9_method_4_code 2 (some .boolean) [] ({ frames := 0, cells := 0, slots := 0, locals := 0 } : Room) #[(.ref (w 5)), (.int (u1 % (4 : Int32)))] h0 (OP (some (.int (1 : Int32))) n0 h0) := by
  refine MetFree.of_bodySF (plainFor_of_name pn_com_example_licon_licon_search_Operator) hisR ?_
  intro p e s m args below meth c s₁ Bd hml0 hP hK
  obtain ⟨rfl, hZ, hh⟩ := hP
  have hx := Bd.exec
  have hby := Bd.bytes
  have hml : c.maxLocals = 2 := hml0
  have hown : s.vm.findClass "com/example/licon/licon/search/Operator" = some m.cls := findClass_of_methodNamed Bd.named
  have X0 : Stand p l e ({ frames := 0, cells := 0, slots := 0, locals := 0 } : Room) s m #[(.ref (w 5)), (.int (u1 % (4 : Int32)))] below meth c s₁ [] 0 0 := Stand.of_body Bd
  have e0 : s₁.heap = h0 := by rw [← hh, Bd.state]; rfl
  have N0 := Fr.nil n0
  have pre0 : ∀ t, Steps p.tables e below (s₁.setTop (mkF m 0 #[.val (.ref (w 5)), .val (.int (u1 % (4 : Int32)))] [])) t → Steps p.tables e below (s₁.setTop (entryFrame m #[(.ref (w 5)), (.int (u1 % (4 : Int32)))] 2)) t := fun t k => castTop (by first | rfl | simp [entryFrame, mkF, argsToLocals, Value.category]) k
  obtain ⟨T1, X1, e1, st1⟩ := getF X0 hx hZ hown (host := "") (Or.inl (hw _ (List.mem_of_getElem? (i := 12) rfl))) Via.refl e0 K.2.2.2.2.2.2.2.2.2.2.2.2.2.2.2.2.2.2.2.2.2.2.2.2.1 (g := (mkF m 2 #[.val (.ref (w 5)), .val (.int (u1 % (4 : Int32)))] [(.ref (w 5)), (.int (u1 % (4 : Int32)))])) rfl rfl (hb hby d_prog_9_method_4_code_2)
  obtain ⟨T2, X2, e2, st2⟩ := getF X1 hx hZ hown (host := "") (Or.inl (hw _ (List.mem_of_getElem? (i := 14) rfl))) Via.refl e1 K.2.2.2.2.2.2.2.2.2.2.2.2.2.2.2.2.2.2.2.2.2.2.2.2.2.1 (g := (mkF m 10 #[.val (.ref (w 5)), .val (.int (u1 % (4 : Int32)))] [(.ref (w 5)), (.int (u1 % (4 : Int32)))])) rfl rfl (hb hby d_prog_9_method_4_code_10)
  obtain ⟨fs, hr, hrun, hended, hW, hsame⟩ := X2.leave (v := (some (.int (1 : Int32)))) (fun h => by rw [Bd.returns] at h; cases h)
  refine ⟨_, _, pre0 _ ?_, hrun, hended, _, _, rfl, ?_, ⟨_, rfl⟩, hW, hsame.mono (by decide) (by decide)⟩
  · show Steps p.tables e below (s₁.setTop (mkF m 0 #[.val (.ref (w 5)), .val (.int (u1 % (4 : Int32)))] [])) _
    refine XS.iloadN X0.here hx rfl (hb hby d_prog_9_method_4_code_0) rfl ?_
    refine XS.aloadN X0.here hx rfl (hb hby d_prog_9_method_4_code_1) rfl rfl ?_
    refine st1 _ ?_
    refine XS.icmpNo X1.here hx rfl (hb hby d_prog_9_method_4_code_5) rfl (flt (by have z0 := congrArg Int32.toInt hf19; have l0 : (1 : Int32).toInt = 1 := rfl; have r0 := rng32 (u1 % (4 : Int32)); exact fun hh => absurd (Int32.lt_iff_toInt_lt.mp hh) (by omega) : ¬ ((u1 % (4 : Int32)) < (1 : Int32)))).1 ?_
    show Steps p.tables e below (T1.setTop (mkF m 8 #[.val (.ref (w 5)), .val (.int (u1 % (4 : Int32)))] [])) _
    refine XS.iloadN X1.here hx rfl (hb hby d_prog_9_method_4_code_8) rfl ?_
    refine XS.aloadN X1.here hx rfl (hb hby d_prog_9_method_4_code_9) rfl rfl ?_
    refine st2 _ ?_
    refine XS.icmpNo X2.here hx rfl (hb hby d_prog_9_method_4_code_13) rfl (flt (by have z0 := congrArg Int32.toInt hf19; have l0 : (1 : Int32).toInt = 1 := rfl; have r0 := rng32 (u1 % (4 : Int32)); exact fun hh => absurd (Int32.lt_iff_toInt_lt.mp hh) (by omega) : ¬ ((1 : Int32) < (u1 % (4 : Int32))))).2.2.1 ?_
    show Steps p.tables e below (T2.setTop (mkF m 16 #[.val (.ref (w 5)), .val (.int (u1 % (4 : Int32)))] [])) _
    refine XS.iconst X2.here hx rfl (hb hby d_prog_9_method_4_code_16) ?_
    refine XS.goto X2.here hx rfl (pc0 := 17) (pc' := 21) rfl (hb hby d_prog_9_method_4_code_17) (by decide) (by decide) ?_
    show Steps p.tables e below (T2.setTop (mkF m 21 #[.val (.ref (w 5)), .val (.int (u1 % (4 : Int32)))] [(.int (1 : Int32))])) _
    exact retN X2 hx (t := .boolean) Bd.returns (by simp) (hb hby d_prog_9_method_4_code_21) hr
  · exact ⟨rfl, N0, e2⟩
set_option maxRecDepth 65536 in
set_option maxHeartbeats 40000000 in
theorem rm0_48 (l : Launch) (Z : State) (a0 : Array Value) (hw : ∀ d ∈ tables_1, d.before a0 Z = true) (w : Nat → Addr) (h0 : Heap) (n0 : Nat) (Z0 : n0 ≤ h0.size) (K : Kon Z h0 w) (u0 u1 u2 : Int32) (hf16 : ¬ ((u2 &&& (1 : Int32)) = (0 : Int32))) (hf19 : (u1 % (4 : Int32)) = (1 : Int32)) (hk0 : (u0 &&& (7 : Int32)) = (3 : Int32)) :
    OM l Z x code maxLocals ret tables_1 room_1 #[(.int u0), (.int u1), (.int u2)] h0 (OP (some (.int (1 : Int32))) n0 h0) := by
  refine MetFree.of_bodySF (plainFor_of_name pn_com_example_licon_licon_search_OperatorTakesPinLaw) hisR ?_
  intro p e s m args below meth c s₁ Bd hml0 hP hK
  obtain ⟨rfl, hZ, hh⟩ := hP
  have hx := Bd.exec
  have hby := Bd.bytes
  have hml : c.maxLocals = 7 := hml0
  have hown : s.vm.findClass "com/example/licon/licon/search/OperatorTakesPinLaw" = some m.cls := findClass_of_methodNamed Bd.named
  have X0 : Stand p l e room_1 s m #[(.int u0), (.int u1), (.int u2)] below meth c s₁ [] 0 0 := Stand.of_body Bd
  have e0 : s₁.heap = h0 := by rw [← hh, Bd.state]; rfl
  have N0 := Fr.nil n0
  have pre0 : ∀ t, Steps p.tables e below (s₁.setTop (mkF m 0 #[.val (.int u0), .val (.int u1), .val (.int u2), .unset, .unset, .unset, .unset] [])) t → Steps p.tables e below (s₁.setTop (entryFrame m #[(.int u0), (.int u1), (.int u2)] maxLocals)) t := fun t k => castTop (by first | rfl | simp [entryFrame, mkF, argsToLocals, Value.category, maxLocals]) k
  obtain ⟨_, _, ⟨T1, L1, k1, n1⟩, -, X1, ⟨Lc1, hQ1, l1, y1, z1⟩, st1⟩ := Jvm.LawKit.callS X0 hx (y := (⟨"com/example/licon/licon/search/OperatorTakesPinLaw", "pick", "(I)Lcom/example/licon/licon/search/Operator;"⟩ : MethodName)) hown (mvT hZ (hw _ (List.mem_of_getElem? (i := 0) rfl))) (mvT hZ (hw _ (List.mem_of_getElem? (i := 1) rfl))) (mvT hZ (hw _ (List.mem_of_getElem? (i := 2) rfl))) (mvT hZ (hw _ (List.mem_of_getElem? (i := 3) rfl))) (by decide) (backOf (W := 0) (rm_pick_40 l Z a0 hw w h0 n0 Z0 K u0 u1 u2) hZ (hw _ (List.mem_of_getElem? (i := 3) rfl)) (hw _ (List.mem_of_getElem? (i := 2) rfl)) (by decide) (by decide)) (g := (mkF m 21 #[.val (.int u0), .val (.int u1), .val (.int u2), .val (.int (3 : Int32)), .val (.int (u1 % (4 : Int32))), .unset, .unset] [(.int (3 : Int32))])) rfl (by rw [hml]; rfl) (argsL := [(.int (3 : Int32))]) (rest := []) (lenOf pd_28I29Lcom2fexample2flicon2flicon2fsearch2fOperator3b rfl) rfl (by show 2 * 0 + _ ≤ _; exact Nat.le_of_eq rfl) (hb hby at_21) (fun _ _ => ⟨rfl, e0, (by decide : 0 + 0 ≤ _), (by decide : 0 + 0 ≤ _)⟩)
  dsimp only [Pt.U, Pt.locs, Pt.cells, Pt.slots] at X1 l1 y1 z1 st1 hQ1
  subst l1 y1 z1
  obtain ⟨rfl, N1q, e1⟩ := hQ1
  have N1 := Fr.app N0 N1q
  obtain ⟨cq2, kq2, qa2, qb2, qc2⟩ := isOf hZ e1 K.2.2.2.2.2.2.2.2.2.2.2.1
  obtain ⟨_, _, ⟨T2, L2, k2, n2⟩, -, X2, ⟨Lc2, hQ2, l2, y2, z2⟩, st2⟩ := X1.virtualBack hx (y := (⟨"com/example/licon/licon/search/Operator", "takes", "(I)Z"⟩ : MethodName)) (z := (⟨"com/example/licon/licon/search/Operator", "takes", "(I)Z"⟩ : MethodName)) hown (mvT hZ (hw _ (List.mem_of_getElem? (i := 7) rfl))) (mvT hZ (hw _ (List.mem_of_getElem? (i := 8) rfl))) (notFace_of_selects (args := #[]) (mvT hZ (hw _ (List.mem_of_getElem? (i := 10) rfl)))) (mvT hZ (hw _ (List.mem_of_getElem? (i := 10) rfl))) (mvT hZ (hw _ (List.mem_of_getElem? (i := 9) rfl))) (by decide) (backOf (W := 0) (rm_takes_47 l Z a0 hw w h0 n0 Z0 K u0 u1 u2 hf19) hZ (hw _ (List.mem_of_getElem? (i := 11) rfl)) (hw _ (List.mem_of_getElem? (i := 5) rfl)) (by decide) (by decide)) qa2 qc2 (g := (mkF m 84 #[.val (.int u0), .val (.int u1), .val (.int u2), .val (.int (3 : Int32)), .val (.int (u1 % (4 : Int32))), .val (.ref (w 5)), .val (.int (1 : Int32))] [(.int (u1 % (4 : Int32))), (.ref (w 5))])) rfl (by rw [hml]; rfl) (Steps.refl _) (argsL := [(.int (u1 % (4 : Int32)))]) (rest := []) (lenOf pd_28I29Z rfl) rfl (by show 2 * 0 + _ ≤ _; exact Nat.le_of_eq rfl) (hb hby at_84) (fun _ _ => ⟨rfl, e1, (by decide : 0 + 0 ≤ _), (by decide : 0 + 0 ≤ _)⟩)
  dsimp only [Pt.U, Pt.locs, Pt.cells, Pt.slots] at X2 l2 y2 z2 st2 hQ2
  subst l2 y2 z2
  obtain ⟨rfl, N2q, e2⟩ := hQ2
  have N2 := Fr.app N1 N2q
  obtain ⟨fs, hr, hrun, hended, hW, hsame⟩ := X2.leave (v := (some (.int (1 : Int32)))) (fun h => by rw [Bd.returns] at h; cases h)
  refine ⟨_, _, pre0 _ ?_, hrun, hended, _, _, rfl, ?_, ⟨_, rfl⟩, hW, hsame.mono (by decide) (by decide)⟩
  · show Steps p.tables e below (s₁.setTop (mkF m 0 #[.val (.int u0), .val (.int u1), .val (.int u2), .unset, .unset, .unset, .unset] [])) _
    refine XS.iloadN X0.here hx rfl (hb hby at_0) rfl ?_
    refine XS.bipush X0.here hx rfl (hb hby at_1) ?_
    refine XS.iand X0.here hx rfl (hb hby at_3) rfl ?_
    show Steps p.tables e below (s₁.setTop (mkF m 4 #[.val (.int u0), .val (.int u1), .val (.int u2), .unset, .unset, .unset, .unset] [(.int (u0 &&& (7 : Int32)))])) _
    rw [hk0]
    show Steps p.tables e below (s₁.setTop (mkF m 4 #[.val (.int u0), .val (.int u1), .val (.int u2), .unset, .unset, .unset, .unset] [(.int (3 : Int32))])) _
    refine XS.istoreN X0.here hx rfl (hb hby at_4) rfl (l' := #[.val (.int u0), .val (.int u1), .val (.int u2), .val (.int (3 : Int32)), .unset, .unset, .unset]) rfl ?_
    refine XS.iloadN X0.here hx rfl (hb hby at_5) rfl ?_
    refine XS.iconst X0.here hx rfl (hb hby at_6) ?_
    refine XS.iand X0.here hx rfl (hb hby at_7) rfl ?_
    show Steps p.tables e below (s₁.setTop (mkF m 8 #[.val (.int u0), .val (.int u1), .val (.int u2), .val (.int (3 : Int32)), .unset, .unset, .unset] [(.int (u2 &&& (1 : Int32)))])) _
    refine XS.ifNo X0.here hx rfl (hb hby at_8) rfl ((if0 _ _).trans (feq hf16).1) ?_
    refine XS.iloadN X0.here hx rfl (hb hby at_11) rfl ?_
    refine XS.iconst X0.here hx rfl (hb hby at_12) ?_
    refine iremM X0 hx rfl (hb hby at_13) rfl (by decide : ¬ ((4 : Int32) = (0 : Int32))) ?_
    show Steps p.tables e below (s₁.setTop (mkF m 14 #[.val (.int u0), .val (.int u1), .val (.int u2), .val (.int (3 : Int32)), .unset, .unset, .unset] [(.int (u1 % (4 : Int32)))])) _
    refine XS.goto X0.here hx rfl (pc0 := 14) (pc' := 18) rfl (hb hby at_14) (by decide) (by decide) ?_
    refine XS.istore X0.here hx rfl (hb hby at_18) rfl (l' := #[.val (.int u0), .val (.int u1), .val (.int u2), .val (.int (3 : Int32)), .val (.int (u1 % (4 : Int32))), .unset, .unset]) rfl ?_
    refine XS.iloadN X0.here hx rfl (hb hby at_20) rfl ?_
    refine st1 _ ?_
    show Steps p.tables e below (T1.setTop (mkF m 24 #[.val (.int u0), .val (.int u1), .val (.int u2), .val (.int (3 : Int32)), .val (.int (u1 % (4 : Int32))), .unset, .unset] [(.ref (w 5))])) _
    refine XS.astore X1.here hx rfl (hb hby at_24) rfl rfl (l' := #[.val (.int u0), .val (.int u1), .val (.int u2), .val (.int (3 : Int32)), .val (.int (u1 % (4 : Int32))), .val (.ref (w 5)), .unset]) rfl ?_
    refine XS.iloadN X1.here hx rfl (hb hby at_26) rfl ?_
    refine XS.iconst X1.here hx rfl (hb hby at_27) ?_
    refine XS.icmpNo X1.here hx rfl (hb hby at_28) rfl (tlt (by decide : (3 : Int32) < (4 : Int32))).2.1 ?_
    show Steps p.tables e below (T1.setTop (mkF m 31 #[.val (.int u0), .val (.int u1), .val (.int u2), .val (.int (3 : Int32)), .val (.int (u1 % (4 : Int32))), .val (.ref (w 5)), .unset] [])) _
    refine XS.iload X1.here hx rfl (hb hby at_31) rfl ?_
    refine XS.iconst X1.here hx rfl (hb hby at_33) ?_
    refine XS.icmpNo X1.here hx rfl (hb hby at_34) rfl (teq hf19).2 ?_
    refine XS.iconst X1.here hx rfl (hb hby at_37) ?_
    show Steps p.tables e below (T1.setTop (mkF m 38 #[.val (.int u0), .val (.int u1), .val (.int u2), .val (.int (3 : Int32)), .val (.int (u1 % (4 : Int32))), .val (.ref (w 5)), .unset] [(.int (1 : Int32))])) _
    refine XS.goto X1.here hx rfl (pc0 := 38) (pc' := 42) rfl (hb hby at_38) (by decide) (by decide) ?_
    refine XS.istore X1.here hx rfl (hb hby at_42) rfl (l' := #[.val (.int u0), .val (.int u1), .val (.int u2), .val (.int (3 : Int32)), .val (.int (u1 % (4 : Int32))), .val (.ref (w 5)), .val (.int (1 : Int32))]) rfl ?_
    refine XS.goto X1.here hx rfl (pc0 := 44) (pc' := 80) rfl (hb hby at_44) (by decide) (by decide) ?_
    refine XS.aload X1.here hx rfl (hb hby at_80) rfl rfl ?_
    show Steps p.tables e below (T1.setTop (mkF m 82 #[.val (.int u0), .val (.int u1), .val (.int u2), .val (.int (3 : Int32)), .val (.int (u1 % (4 : Int32))), .val (.ref (w 5)), .val (.int (1 : Int32))] [(.ref (w 5))])) _
    refine XS.iload X1.here hx rfl (hb hby at_82) rfl ?_
    refine st2.trans ?_
    refine XS.iload X2.here hx rfl (hb hby at_87) rfl ?_
    refine XS.icmpNo X2.here hx rfl (hb hby at_89) rfl (teq (by decide : (1 : Int32) = (1 : Int32))).2 ?_
    show Steps p.tables e below (T2.setTop (mkF m 92 #[.val (.int u0), .val (.int u1), .val (.int u2), .val (.int (3 : Int32)), .val (.int (u1 % (4 : Int32))), .val (.ref (w 5)), .val (.int (1 : Int32))] [])) _
    refine XS.iconst X2.here hx rfl (hb hby at_92) ?_
    refine XS.goto X2.here hx rfl (pc0 := 93) (pc' := 97) rfl (hb hby at_93) (by decide) (by decide) ?_
    show Steps p.tables e below (T2.setTop (mkF m 97 #[.val (.int u0), .val (.int u1), .val (.int u2), .val (.int (3 : Int32)), .val (.int (u1 % (4 : Int32))), .val (.ref (w 5)), .val (.int (1 : Int32))] [(.int (1 : Int32))])) _
    exact retN X2 hx (t := .boolean) Bd.returns (by simp) (hb hby at_97) hr
  · exact ⟨rfl, N2, e2⟩
set_option maxRecDepth 65536 in
set_option maxHeartbeats 40000000 in
theorem rm_takes_49 (l : Launch) (Z : State) (a0 : Array Value) (hw : ∀ d ∈ tables_1, d.before a0 Z = true) (w : Nat → Addr) (h0 : Heap) (n0 : Nat) (Z0 : n0 ≤ h0.size) (K : Kon Z h0 w) (u0 u1 u2 : Int32) (hf20 : (u1 % (4 : Int32)) < (1 : Int32)) :
    OM l Z (⟨"com/example/licon/licon/search/Operator", "takes", "(I)Z"⟩ : MethodName) prog_9_method_4_code 2 (some .boolean) [] ({ frames := 0, cells := 0, slots := 0, locals := 0 } : Room) #[(.ref (w 5)), (.int (u1 % (4 : Int32)))] h0 (OP (some (.int (0 : Int32))) n0 h0) := by
  refine MetFree.of_bodySF (plainFor_of_name pn_com_example_licon_licon_search_Operator) hisR ?_
  intro p e s m args below meth c s₁ Bd hml0 hP hK
  obtain ⟨rfl, hZ, hh⟩ := hP
  have hx := Bd.exec
  have hby := Bd.bytes
  have hml : c.maxLocals = 2 := hml0
  have hown : s.vm.findClass "com/example/licon/licon/search/Operator" = some m.cls := findClass_of_methodNamed Bd.named
  have X0 : Stand p l e ({ frames := 0, cells := 0, slots := 0, locals := 0 } : Room) s m #[(.ref (w 5)), (.int (u1 % (4 : Int32)))] below meth c s₁ [] 0 0 := Stand.of_body Bd
  have e0 : s₁.heap = h0 := by rw [← hh, Bd.state]; rfl
  have N0 := Fr.nil n0
  have pre0 : ∀ t, Steps p.tables e below (s₁.setTop (mkF m 0 #[.val (.ref (w 5)), .val (.int (u1 % (4 : Int32)))] [])) t → Steps p.tables e below (s₁.setTop (entryFrame m #[(.ref (w 5)), (.int (u1 % (4 : Int32)))] 2)) t := fun t k => castTop (by first | rfl | simp [entryFrame, mkF, argsToLocals, Value.category]) k
  obtain ⟨T1, X1, e1, st1⟩ := getF X0 hx hZ hown (host := "") (Or.inl (hw _ (List.mem_of_getElem? (i := 12) rfl))) Via.refl e0 K.2.2.2.2.2.2.2.2.2.2.2.2.2.2.2.2.2.2.2.2.2.2.2.2.1 (g := (mkF m 2 #[.val (.ref (w 5)), .val (.int (u1 % (4 : Int32)))] [(.ref (w 5)), (.int (u1 % (4 : Int32)))])) rfl rfl (hb hby d_prog_9_method_4_code_2)
  obtain ⟨fs, hr, hrun, hended, hW, hsame⟩ := X1.leave (v := (some (.int (0 : Int32)))) (fun h => by rw [Bd.returns] at h; cases h)
  refine ⟨_, _, pre0 _ ?_, hrun, hended, _, _, rfl, ?_, ⟨_, rfl⟩, hW, hsame.mono (by decide) (by decide)⟩
  · show Steps p.tables e below (s₁.setTop (mkF m 0 #[.val (.ref (w 5)), .val (.int (u1 % (4 : Int32)))] [])) _
    refine XS.iloadN X0.here hx rfl (hb hby d_prog_9_method_4_code_0) rfl ?_
    refine XS.aloadN X0.here hx rfl (hb hby d_prog_9_method_4_code_1) rfl rfl ?_
    refine st1 _ ?_
    refine XS.icmpYes X1.here hx rfl (pc0 := 5) (pc' := 20) rfl (hb hby d_prog_9_method_4_code_5) rfl (tlt hf20).1 (by decide) (by decide) ?_
    show Steps p.tables e below (T1.setTop (mkF m 20 #[.val (.ref (w 5)), .val (.int (u1 % (4 : Int32)))] [])) _
    refine XS.iconst X1.here hx rfl (hb hby d_prog_9_method_4_code_20) ?_
    show Steps p.tables e below (T1.setTop (mkF m 21 #[.val (.ref (w 5)), .val (.int (u1 % (4 : Int32)))] [(.int (0 : Int32))])) _
    exact retN X1 hx (t := .boolean) Bd.returns (by simp) (hb hby d_prog_9_method_4_code_21) hr
  · exact ⟨rfl, N0, e1⟩
set_option maxRecDepth 65536 in
set_option maxHeartbeats 40000000 in
theorem rm0_50 (l : Launch) (Z : State) (a0 : Array Value) (hw : ∀ d ∈ tables_1, d.before a0 Z = true) (w : Nat → Addr) (h0 : Heap) (n0 : Nat) (Z0 : n0 ≤ h0.size) (K : Kon Z h0 w) (u0 u1 u2 : Int32) (hf16 : ¬ ((u2 &&& (1 : Int32)) = (0 : Int32))) (hf19 : ¬ ((u1 % (4 : Int32)) = (1 : Int32))) (hf20 : (u1 % (4 : Int32)) < (1 : Int32)) (hk0 : (u0 &&& (7 : Int32)) = (3 : Int32)) :
    OM l Z x code maxLocals ret tables_1 room_1 #[(.int u0), (.int u1), (.int u2)] h0 (OP (some (.int (1 : Int32))) n0 h0) := by
  refine MetFree.of_bodySF (plainFor_of_name pn_com_example_licon_licon_search_OperatorTakesPinLaw) hisR ?_
  intro p e s m args below meth c s₁ Bd hml0 hP hK
  obtain ⟨rfl, hZ, hh⟩ := hP
  have hx := Bd.exec
  have hby := Bd.bytes
  have hml : c.maxLocals = 7 := hml0
  have hown : s.vm.findClass "com/example/licon/licon/search/OperatorTakesPinLaw" = some m.cls := findClass_of_methodNamed Bd.named
  have X0 : Stand p l e room_1 s m #[(.int u0), (.int u1), (.int u2)] below meth c s₁ [] 0 0 := Stand.of_body Bd
  have e0 : s₁.heap = h0 := by rw [← hh, Bd.state]; rfl
  have N0 := Fr.nil n0
  have pre0 : ∀ t, Steps p.tables e below (s₁.setTop (mkF m 0 #[.val (.int u0), .val (.int u1), .val (.int u2), .unset, .unset, .unset, .unset] [])) t → Steps p.tables e below (s₁.setTop (entryFrame m #[(.int u0), (.int u1), (.int u2)] maxLocals)) t := fun t k => castTop (by first | rfl | simp [entryFrame, mkF, argsToLocals, Value.category, maxLocals]) k
  obtain ⟨_, _, ⟨T1, L1, k1, n1⟩, -, X1, ⟨Lc1, hQ1, l1, y1, z1⟩, st1⟩ := Jvm.LawKit.callS X0 hx (y := (⟨"com/example/licon/licon/search/OperatorTakesPinLaw", "pick", "(I)Lcom/example/licon/licon/search/Operator;"⟩ : MethodName)) hown (mvT hZ (hw _ (List.mem_of_getElem? (i := 0) rfl))) (mvT hZ (hw _ (List.mem_of_getElem? (i := 1) rfl))) (mvT hZ (hw _ (List.mem_of_getElem? (i := 2) rfl))) (mvT hZ (hw _ (List.mem_of_getElem? (i := 3) rfl))) (by decide) (backOf (W := 0) (rm_pick_40 l Z a0 hw w h0 n0 Z0 K u0 u1 u2) hZ (hw _ (List.mem_of_getElem? (i := 3) rfl)) (hw _ (List.mem_of_getElem? (i := 2) rfl)) (by decide) (by decide)) (g := (mkF m 21 #[.val (.int u0), .val (.int u1), .val (.int u2), .val (.int (3 : Int32)), .val (.int (u1 % (4 : Int32))), .unset, .unset] [(.int (3 : Int32))])) rfl (by rw [hml]; rfl) (argsL := [(.int (3 : Int32))]) (rest := []) (lenOf pd_28I29Lcom2fexample2flicon2flicon2fsearch2fOperator3b rfl) rfl (by show 2 * 0 + _ ≤ _; exact Nat.le_of_eq rfl) (hb hby at_21) (fun _ _ => ⟨rfl, e0, (by decide : 0 + 0 ≤ _), (by decide : 0 + 0 ≤ _)⟩)
  dsimp only [Pt.U, Pt.locs, Pt.cells, Pt.slots] at X1 l1 y1 z1 st1 hQ1
  subst l1 y1 z1
  obtain ⟨rfl, N1q, e1⟩ := hQ1
  have N1 := Fr.app N0 N1q
  obtain ⟨cq2, kq2, qa2, qb2, qc2⟩ := isOf hZ e1 K.2.2.2.2.2.2.2.2.2.2.2.1
  obtain ⟨_, _, ⟨T2, L2, k2, n2⟩, -, X2, ⟨Lc2, hQ2, l2, y2, z2⟩, st2⟩ := X1.virtualBack hx (y := (⟨"com/example/licon/licon/search/Operator", "takes", "(I)Z"⟩ : MethodName)) (z := (⟨"com/example/licon/licon/search/Operator", "takes", "(I)Z"⟩ : MethodName)) hown (mvT hZ (hw _ (List.mem_of_getElem? (i := 7) rfl))) (mvT hZ (hw _ (List.mem_of_getElem? (i := 8) rfl))) (notFace_of_selects (args := #[]) (mvT hZ (hw _ (List.mem_of_getElem? (i := 10) rfl)))) (mvT hZ (hw _ (List.mem_of_getElem? (i := 10) rfl))) (mvT hZ (hw _ (List.mem_of_getElem? (i := 9) rfl))) (by decide) (backOf (W := 0) (rm_takes_49 l Z a0 hw w h0 n0 Z0 K u0 u1 u2 hf20) hZ (hw _ (List.mem_of_getElem? (i := 11) rfl)) (hw _ (List.mem_of_getElem? (i := 5) rfl)) (by decide) (by decide)) qa2 qc2 (g := (mkF m 84 #[.val (.int u0), .val (.int u1), .val (.int u2), .val (.int (3 : Int32)), .val (.int (u1 % (4 : Int32))), .val (.ref (w 5)), .val (.int (0 : Int32))] [(.int (u1 % (4 : Int32))), (.ref (w 5))])) rfl (by rw [hml]; rfl) (Steps.refl _) (argsL := [(.int (u1 % (4 : Int32)))]) (rest := []) (lenOf pd_28I29Z rfl) rfl (by show 2 * 0 + _ ≤ _; exact Nat.le_of_eq rfl) (hb hby at_84) (fun _ _ => ⟨rfl, e1, (by decide : 0 + 0 ≤ _), (by decide : 0 + 0 ≤ _)⟩)
  dsimp only [Pt.U, Pt.locs, Pt.cells, Pt.slots] at X2 l2 y2 z2 st2 hQ2
  subst l2 y2 z2
  obtain ⟨rfl, N2q, e2⟩ := hQ2
  have N2 := Fr.app N1 N2q
  obtain ⟨fs, hr, hrun, hended, hW, hsame⟩ := X2.leave (v := (some (.int (1 : Int32)))) (fun h => by rw [Bd.returns] at h; cases h)
  refine ⟨_, _, pre0 _ ?_, hrun, hended, _, _, rfl, ?_, ⟨_, rfl⟩, hW, hsame.mono (by decide) (by decide)⟩
  · show Steps p.tables e below (s₁.setTop (mkF m 0 #[.val (.int u0), .val (.int u1), .val (.int u2), .unset, .unset, .unset, .unset] [])) _
    refine XS.iloadN X0.here hx rfl (hb hby at_0) rfl ?_
    refine XS.bipush X0.here hx rfl (hb hby at_1) ?_
    refine XS.iand X0.here hx rfl (hb hby at_3) rfl ?_
    show Steps p.tables e below (s₁.setTop (mkF m 4 #[.val (.int u0), .val (.int u1), .val (.int u2), .unset, .unset, .unset, .unset] [(.int (u0 &&& (7 : Int32)))])) _
    rw [hk0]
    show Steps p.tables e below (s₁.setTop (mkF m 4 #[.val (.int u0), .val (.int u1), .val (.int u2), .unset, .unset, .unset, .unset] [(.int (3 : Int32))])) _
    refine XS.istoreN X0.here hx rfl (hb hby at_4) rfl (l' := #[.val (.int u0), .val (.int u1), .val (.int u2), .val (.int (3 : Int32)), .unset, .unset, .unset]) rfl ?_
    refine XS.iloadN X0.here hx rfl (hb hby at_5) rfl ?_
    refine XS.iconst X0.here hx rfl (hb hby at_6) ?_
    refine XS.iand X0.here hx rfl (hb hby at_7) rfl ?_
    show Steps p.tables e below (s₁.setTop (mkF m 8 #[.val (.int u0), .val (.int u1), .val (.int u2), .val (.int (3 : Int32)), .unset, .unset, .unset] [(.int (u2 &&& (1 : Int32)))])) _
    refine XS.ifNo X0.here hx rfl (hb hby at_8) rfl ((if0 _ _).trans (feq hf16).1) ?_
    refine XS.iloadN X0.here hx rfl (hb hby at_11) rfl ?_
    refine XS.iconst X0.here hx rfl (hb hby at_12) ?_
    refine iremM X0 hx rfl (hb hby at_13) rfl (by decide : ¬ ((4 : Int32) = (0 : Int32))) ?_
    show Steps p.tables e below (s₁.setTop (mkF m 14 #[.val (.int u0), .val (.int u1), .val (.int u2), .val (.int (3 : Int32)), .unset, .unset, .unset] [(.int (u1 % (4 : Int32)))])) _
    refine XS.goto X0.here hx rfl (pc0 := 14) (pc' := 18) rfl (hb hby at_14) (by decide) (by decide) ?_
    refine XS.istore X0.here hx rfl (hb hby at_18) rfl (l' := #[.val (.int u0), .val (.int u1), .val (.int u2), .val (.int (3 : Int32)), .val (.int (u1 % (4 : Int32))), .unset, .unset]) rfl ?_
    refine XS.iloadN X0.here hx rfl (hb hby at_20) rfl ?_
    refine st1 _ ?_
    show Steps p.tables e below (T1.setTop (mkF m 24 #[.val (.int u0), .val (.int u1), .val (.int u2), .val (.int (3 : Int32)), .val (.int (u1 % (4 : Int32))), .unset, .unset] [(.ref (w 5))])) _
    refine XS.astore X1.here hx rfl (hb hby at_24) rfl rfl (l' := #[.val (.int u0), .val (.int u1), .val (.int u2), .val (.int (3 : Int32)), .val (.int (u1 % (4 : Int32))), .val (.ref (w 5)), .unset]) rfl ?_
    refine XS.iloadN X1.here hx rfl (hb hby at_26) rfl ?_
    refine XS.iconst X1.here hx rfl (hb hby at_27) ?_
    refine XS.icmpNo X1.here hx rfl (hb hby at_28) rfl (tlt (by decide : (3 : Int32) < (4 : Int32))).2.1 ?_
    show Steps p.tables e below (T1.setTop (mkF m 31 #[.val (.int u0), .val (.int u1), .val (.int u2), .val (.int (3 : Int32)), .val (.int (u1 % (4 : Int32))), .val (.ref (w 5)), .unset] [])) _
    refine XS.iload X1.here hx rfl (hb hby at_31) rfl ?_
    refine XS.iconst X1.here hx rfl (hb hby at_33) ?_
    refine XS.icmpYes X1.here hx rfl (pc0 := 34) (pc' := 41) rfl (hb hby at_34) rfl (feq hf19).2 (by decide) (by decide) ?_
    refine XS.iconst X1.here hx rfl (hb hby at_41) ?_
    show Steps p.tables e below (T1.setTop (mkF m 42 #[.val (.int u0), .val (.int u1), .val (.int u2), .val (.int (3 : Int32)), .val (.int (u1 % (4 : Int32))), .val (.ref (w 5)), .unset] [(.int (0 : Int32))])) _
    refine XS.istore X1.here hx rfl (hb hby at_42) rfl (l' := #[.val (.int u0), .val (.int u1), .val (.int u2), .val (.int (3 : Int32)), .val (.int (u1 % (4 : Int32))), .val (.ref (w 5)), .val (.int (0 : Int32))]) rfl ?_
    refine XS.goto X1.here hx rfl (pc0 := 44) (pc' := 80) rfl (hb hby at_44) (by decide) (by decide) ?_
    refine XS.aload X1.here hx rfl (hb hby at_80) rfl rfl ?_
    refine XS.iload X1.here hx rfl (hb hby at_82) rfl ?_
    show Steps p.tables e below (T1.setTop (mkF m 84 #[.val (.int u0), .val (.int u1), .val (.int u2), .val (.int (3 : Int32)), .val (.int (u1 % (4 : Int32))), .val (.ref (w 5)), .val (.int (0 : Int32))] [(.int (u1 % (4 : Int32))), (.ref (w 5))])) _
    refine st2.trans ?_
    refine XS.iload X2.here hx rfl (hb hby at_87) rfl ?_
    refine XS.icmpNo X2.here hx rfl (hb hby at_89) rfl (teq (by decide : (0 : Int32) = (0 : Int32))).2 ?_
    refine XS.iconst X2.here hx rfl (hb hby at_92) ?_
    show Steps p.tables e below (T2.setTop (mkF m 93 #[.val (.int u0), .val (.int u1), .val (.int u2), .val (.int (3 : Int32)), .val (.int (u1 % (4 : Int32))), .val (.ref (w 5)), .val (.int (0 : Int32))] [(.int (1 : Int32))])) _
    refine XS.goto X2.here hx rfl (pc0 := 93) (pc' := 97) rfl (hb hby at_93) (by decide) (by decide) ?_
    show Steps p.tables e below (T2.setTop (mkF m 97 #[.val (.int u0), .val (.int u1), .val (.int u2), .val (.int (3 : Int32)), .val (.int (u1 % (4 : Int32))), .val (.ref (w 5)), .val (.int (0 : Int32))] [(.int (1 : Int32))])) _
    exact retN X2 hx (t := .boolean) Bd.returns (by simp) (hb hby at_97) hr
  · exact ⟨rfl, N2, e2⟩
set_option maxRecDepth 65536 in
set_option maxHeartbeats 40000000 in
theorem rm_takes_51 (l : Launch) (Z : State) (a0 : Array Value) (hw : ∀ d ∈ tables_1, d.before a0 Z = true) (w : Nat → Addr) (h0 : Heap) (n0 : Nat) (Z0 : n0 ≤ h0.size) (K : Kon Z h0 w) (u0 u1 u2 : Int32) (hf19 : ¬ ((u1 % (4 : Int32)) = (1 : Int32))) (hf20 : ¬ ((u1 % (4 : Int32)) < (1 : Int32))) :
    OM l Z (⟨"com/example/licon/licon/search/Operator", "takes", "(I)Z"⟩ : MethodName) prog_9_method_4_code 2 (some .boolean) [] ({ frames := 0, cells := 0, slots := 0, locals := 0 } : Room) #[(.ref (w 5)), (.int (u1 % (4 : Int32)))] h0 (OP (some (.int (0 : Int32))) n0 h0) := by
  refine MetFree.of_bodySF (plainFor_of_name pn_com_example_licon_licon_search_Operator) hisR ?_
  intro p e s m args below meth c s₁ Bd hml0 hP hK
  obtain ⟨rfl, hZ, hh⟩ := hP
  have hx := Bd.exec
  have hby := Bd.bytes
  have hml : c.maxLocals = 2 := hml0
  have hown : s.vm.findClass "com/example/licon/licon/search/Operator" = some m.cls := findClass_of_methodNamed Bd.named
  have X0 : Stand p l e ({ frames := 0, cells := 0, slots := 0, locals := 0 } : Room) s m #[(.ref (w 5)), (.int (u1 % (4 : Int32)))] below meth c s₁ [] 0 0 := Stand.of_body Bd
  have e0 : s₁.heap = h0 := by rw [← hh, Bd.state]; rfl
  have N0 := Fr.nil n0
  have pre0 : ∀ t, Steps p.tables e below (s₁.setTop (mkF m 0 #[.val (.ref (w 5)), .val (.int (u1 % (4 : Int32)))] [])) t → Steps p.tables e below (s₁.setTop (entryFrame m #[(.ref (w 5)), (.int (u1 % (4 : Int32)))] 2)) t := fun t k => castTop (by first | rfl | simp [entryFrame, mkF, argsToLocals, Value.category]) k
  obtain ⟨T1, X1, e1, st1⟩ := getF X0 hx hZ hown (host := "") (Or.inl (hw _ (List.mem_of_getElem? (i := 12) rfl))) Via.refl e0 K.2.2.2.2.2.2.2.2.2.2.2.2.2.2.2.2.2.2.2.2.2.2.2.2.1 (g := (mkF m 2 #[.val (.ref (w 5)), .val (.int (u1 % (4 : Int32)))] [(.ref (w 5)), (.int (u1 % (4 : Int32)))])) rfl rfl (hb hby d_prog_9_method_4_code_2)
  obtain ⟨T2, X2, e2, st2⟩ := getF X1 hx hZ hown (host := "") (Or.inl (hw _ (List.mem_of_getElem? (i := 14) rfl))) Via.refl e1 K.2.2.2.2.2.2.2.2.2.2.2.2.2.2.2.2.2.2.2.2.2.2.2.2.2.1 (g := (mkF m 10 #[.val (.ref (w 5)), .val (.int (u1 % (4 : Int32)))] [(.ref (w 5)), (.int (u1 % (4 : Int32)))])) rfl rfl (hb hby d_prog_9_method_4_code_10)
  obtain ⟨fs, hr, hrun, hended, hW, hsame⟩ := X2.leave (v := (some (.int (0 : Int32)))) (fun h => by rw [Bd.returns] at h; cases h)
  refine ⟨_, _, pre0 _ ?_, hrun, hended, _, _, rfl, ?_, ⟨_, rfl⟩, hW, hsame.mono (by decide) (by decide)⟩
  · show Steps p.tables e below (s₁.setTop (mkF m 0 #[.val (.ref (w 5)), .val (.int (u1 % (4 : Int32)))] [])) _
    refine XS.iloadN X0.here hx rfl (hb hby d_prog_9_method_4_code_0) rfl ?_
    refine XS.aloadN X0.here hx rfl (hb hby d_prog_9_method_4_code_1) rfl rfl ?_
    refine st1 _ ?_
    refine XS.icmpNo X1.here hx rfl (hb hby d_prog_9_method_4_code_5) rfl (flt hf20).1 ?_
    show Steps p.tables e below (T1.setTop (mkF m 8 #[.val (.ref (w 5)), .val (.int (u1 % (4 : Int32)))] [])) _
    refine XS.iloadN X1.here hx rfl (hb hby d_prog_9_method_4_code_8) rfl ?_
    refine XS.aloadN X1.here hx rfl (hb hby d_prog_9_method_4_code_9) rfl rfl ?_
    refine st2 _ ?_
    refine XS.icmpYes X2.here hx rfl (pc0 := 13) (pc' := 20) rfl (hb hby d_prog_9_method_4_code_13) rfl (tlt (by have z0 := mt Int32.toInt_inj.mp hf19; have z1 := mt Int32.lt_iff_toInt_lt.mpr hf20; have l0 : (1 : Int32).toInt = 1 := rfl; have r0 := rng32 (u1 % (4 : Int32)); exact Int32.lt_iff_toInt_lt.mpr (by omega) : (1 : Int32) < (u1 % (4 : Int32)))).2.2.1 (by decide) (by decide) ?_
    show Steps p.tables e below (T2.setTop (mkF m 20 #[.val (.ref (w 5)), .val (.int (u1 % (4 : Int32)))] [])) _
    refine XS.iconst X2.here hx rfl (hb hby d_prog_9_method_4_code_20) ?_
    show Steps p.tables e below (T2.setTop (mkF m 21 #[.val (.ref (w 5)), .val (.int (u1 % (4 : Int32)))] [(.int (0 : Int32))])) _
    exact retN X2 hx (t := .boolean) Bd.returns (by simp) (hb hby d_prog_9_method_4_code_21) hr
  · exact ⟨rfl, N0, e2⟩
set_option maxRecDepth 65536 in
set_option maxHeartbeats 40000000 in
theorem rm0_52 (l : Launch) (Z : State) (a0 : Array Value) (hw : ∀ d ∈ tables_1, d.before a0 Z = true) (w : Nat → Addr) (h0 : Heap) (n0 : Nat) (Z0 : n0 ≤ h0.size) (K : Kon Z h0 w) (u0 u1 u2 : Int32) (hf16 : ¬ ((u2 &&& (1 : Int32)) = (0 : Int32))) (hf19 : ¬ ((u1 % (4 : Int32)) = (1 : Int32))) (hf20 : ¬ ((u1 % (4 : Int32)) < (1 : Int32))) (hk0 : (u0 &&& (7 : Int32)) = (3 : Int32)) :
    OM l Z x code maxLocals ret tables_1 room_1 #[(.int u0), (.int u1), (.int u2)] h0 (OP (some (.int (1 : Int32))) n0 h0) := by
  refine MetFree.of_bodySF (plainFor_of_name pn_com_example_licon_licon_search_OperatorTakesPinLaw) hisR ?_
  intro p e s m args below meth c s₁ Bd hml0 hP hK
  obtain ⟨rfl, hZ, hh⟩ := hP
  have hx := Bd.exec
  have hby := Bd.bytes
  have hml : c.maxLocals = 7 := hml0
  have hown : s.vm.findClass "com/example/licon/licon/search/OperatorTakesPinLaw" = some m.cls := findClass_of_methodNamed Bd.named
  have X0 : Stand p l e room_1 s m #[(.int u0), (.int u1), (.int u2)] below meth c s₁ [] 0 0 := Stand.of_body Bd
  have e0 : s₁.heap = h0 := by rw [← hh, Bd.state]; rfl
  have N0 := Fr.nil n0
  have pre0 : ∀ t, Steps p.tables e below (s₁.setTop (mkF m 0 #[.val (.int u0), .val (.int u1), .val (.int u2), .unset, .unset, .unset, .unset] [])) t → Steps p.tables e below (s₁.setTop (entryFrame m #[(.int u0), (.int u1), (.int u2)] maxLocals)) t := fun t k => castTop (by first | rfl | simp [entryFrame, mkF, argsToLocals, Value.category, maxLocals]) k
  obtain ⟨_, _, ⟨T1, L1, k1, n1⟩, -, X1, ⟨Lc1, hQ1, l1, y1, z1⟩, st1⟩ := Jvm.LawKit.callS X0 hx (y := (⟨"com/example/licon/licon/search/OperatorTakesPinLaw", "pick", "(I)Lcom/example/licon/licon/search/Operator;"⟩ : MethodName)) hown (mvT hZ (hw _ (List.mem_of_getElem? (i := 0) rfl))) (mvT hZ (hw _ (List.mem_of_getElem? (i := 1) rfl))) (mvT hZ (hw _ (List.mem_of_getElem? (i := 2) rfl))) (mvT hZ (hw _ (List.mem_of_getElem? (i := 3) rfl))) (by decide) (backOf (W := 0) (rm_pick_40 l Z a0 hw w h0 n0 Z0 K u0 u1 u2) hZ (hw _ (List.mem_of_getElem? (i := 3) rfl)) (hw _ (List.mem_of_getElem? (i := 2) rfl)) (by decide) (by decide)) (g := (mkF m 21 #[.val (.int u0), .val (.int u1), .val (.int u2), .val (.int (3 : Int32)), .val (.int (u1 % (4 : Int32))), .unset, .unset] [(.int (3 : Int32))])) rfl (by rw [hml]; rfl) (argsL := [(.int (3 : Int32))]) (rest := []) (lenOf pd_28I29Lcom2fexample2flicon2flicon2fsearch2fOperator3b rfl) rfl (by show 2 * 0 + _ ≤ _; exact Nat.le_of_eq rfl) (hb hby at_21) (fun _ _ => ⟨rfl, e0, (by decide : 0 + 0 ≤ _), (by decide : 0 + 0 ≤ _)⟩)
  dsimp only [Pt.U, Pt.locs, Pt.cells, Pt.slots] at X1 l1 y1 z1 st1 hQ1
  subst l1 y1 z1
  obtain ⟨rfl, N1q, e1⟩ := hQ1
  have N1 := Fr.app N0 N1q
  obtain ⟨cq2, kq2, qa2, qb2, qc2⟩ := isOf hZ e1 K.2.2.2.2.2.2.2.2.2.2.2.1
  obtain ⟨_, _, ⟨T2, L2, k2, n2⟩, -, X2, ⟨Lc2, hQ2, l2, y2, z2⟩, st2⟩ := X1.virtualBack hx (y := (⟨"com/example/licon/licon/search/Operator", "takes", "(I)Z"⟩ : MethodName)) (z := (⟨"com/example/licon/licon/search/Operator", "takes", "(I)Z"⟩ : MethodName)) hown (mvT hZ (hw _ (List.mem_of_getElem? (i := 7) rfl))) (mvT hZ (hw _ (List.mem_of_getElem? (i := 8) rfl))) (notFace_of_selects (args := #[]) (mvT hZ (hw _ (List.mem_of_getElem? (i := 10) rfl)))) (mvT hZ (hw _ (List.mem_of_getElem? (i := 10) rfl))) (mvT hZ (hw _ (List.mem_of_getElem? (i := 9) rfl))) (by decide) (backOf (W := 0) (rm_takes_51 l Z a0 hw w h0 n0 Z0 K u0 u1 u2 hf19 hf20) hZ (hw _ (List.mem_of_getElem? (i := 11) rfl)) (hw _ (List.mem_of_getElem? (i := 5) rfl)) (by decide) (by decide)) qa2 qc2 (g := (mkF m 84 #[.val (.int u0), .val (.int u1), .val (.int u2), .val (.int (3 : Int32)), .val (.int (u1 % (4 : Int32))), .val (.ref (w 5)), .val (.int (0 : Int32))] [(.int (u1 % (4 : Int32))), (.ref (w 5))])) rfl (by rw [hml]; rfl) (Steps.refl _) (argsL := [(.int (u1 % (4 : Int32)))]) (rest := []) (lenOf pd_28I29Z rfl) rfl (by show 2 * 0 + _ ≤ _; exact Nat.le_of_eq rfl) (hb hby at_84) (fun _ _ => ⟨rfl, e1, (by decide : 0 + 0 ≤ _), (by decide : 0 + 0 ≤ _)⟩)
  dsimp only [Pt.U, Pt.locs, Pt.cells, Pt.slots] at X2 l2 y2 z2 st2 hQ2
  subst l2 y2 z2
  obtain ⟨rfl, N2q, e2⟩ := hQ2
  have N2 := Fr.app N1 N2q
  obtain ⟨fs, hr, hrun, hended, hW, hsame⟩ := X2.leave (v := (some (.int (1 : Int32)))) (fun h => by rw [Bd.returns] at h; cases h)
  refine ⟨_, _, pre0 _ ?_, hrun, hended, _, _, rfl, ?_, ⟨_, rfl⟩, hW, hsame.mono (by decide) (by decide)⟩
  · show Steps p.tables e below (s₁.setTop (mkF m 0 #[.val (.int u0), .val (.int u1), .val (.int u2), .unset, .unset, .unset, .unset] [])) _
    refine XS.iloadN X0.here hx rfl (hb hby at_0) rfl ?_
    refine XS.bipush X0.here hx rfl (hb hby at_1) ?_
    refine XS.iand X0.here hx rfl (hb hby at_3) rfl ?_
    show Steps p.tables e below (s₁.setTop (mkF m 4 #[.val (.int u0), .val (.int u1), .val (.int u2), .unset, .unset, .unset, .unset] [(.int (u0 &&& (7 : Int32)))])) _
    rw [hk0]
    show Steps p.tables e below (s₁.setTop (mkF m 4 #[.val (.int u0), .val (.int u1), .val (.int u2), .unset, .unset, .unset, .unset] [(.int (3 : Int32))])) _
    refine XS.istoreN X0.here hx rfl (hb hby at_4) rfl (l' := #[.val (.int u0), .val (.int u1), .val (.int u2), .val (.int (3 : Int32)), .unset, .unset, .unset]) rfl ?_
    refine XS.iloadN X0.here hx rfl (hb hby at_5) rfl ?_
    refine XS.iconst X0.here hx rfl (hb hby at_6) ?_
    refine XS.iand X0.here hx rfl (hb hby at_7) rfl ?_
    show Steps p.tables e below (s₁.setTop (mkF m 8 #[.val (.int u0), .val (.int u1), .val (.int u2), .val (.int (3 : Int32)), .unset, .unset, .unset] [(.int (u2 &&& (1 : Int32)))])) _
    refine XS.ifNo X0.here hx rfl (hb hby at_8) rfl ((if0 _ _).trans (feq hf16).1) ?_
    refine XS.iloadN X0.here hx rfl (hb hby at_11) rfl ?_
    refine XS.iconst X0.here hx rfl (hb hby at_12) ?_
    refine iremM X0 hx rfl (hb hby at_13) rfl (by decide : ¬ ((4 : Int32) = (0 : Int32))) ?_
    show Steps p.tables e below (s₁.setTop (mkF m 14 #[.val (.int u0), .val (.int u1), .val (.int u2), .val (.int (3 : Int32)), .unset, .unset, .unset] [(.int (u1 % (4 : Int32)))])) _
    refine XS.goto X0.here hx rfl (pc0 := 14) (pc' := 18) rfl (hb hby at_14) (by decide) (by decide) ?_
    refine XS.istore X0.here hx rfl (hb hby at_18) rfl (l' := #[.val (.int u0), .val (.int u1), .val (.int u2), .val (.int (3 : Int32)), .val (.int (u1 % (4 : Int32))), .unset, .unset]) rfl ?_
    refine XS.iloadN X0.here hx rfl (hb hby at_20) rfl ?_
    refine st1 _ ?_
    show Steps p.tables e below (T1.setTop (mkF m 24 #[.val (.int u0), .val (.int u1), .val (.int u2), .val (.int (3 : Int32)), .val (.int (u1 % (4 : Int32))), .unset, .unset] [(.ref (w 5))])) _
    refine XS.astore X1.here hx rfl (hb hby at_24) rfl rfl (l' := #[.val (.int u0), .val (.int u1), .val (.int u2), .val (.int (3 : Int32)), .val (.int (u1 % (4 : Int32))), .val (.ref (w 5)), .unset]) rfl ?_
    refine XS.iloadN X1.here hx rfl (hb hby at_26) rfl ?_
    refine XS.iconst X1.here hx rfl (hb hby at_27) ?_
    refine XS.icmpNo X1.here hx rfl (hb hby at_28) rfl (tlt (by decide : (3 : Int32) < (4 : Int32))).2.1 ?_
    show Steps p.tables e below (T1.setTop (mkF m 31 #[.val (.int u0), .val (.int u1), .val (.int u2), .val (.int (3 : Int32)), .val (.int (u1 % (4 : Int32))), .val (.ref (w 5)), .unset] [])) _
    refine XS.iload X1.here hx rfl (hb hby at_31) rfl ?_
    refine XS.iconst X1.here hx rfl (hb hby at_33) ?_
    refine XS.icmpYes X1.here hx rfl (pc0 := 34) (pc' := 41) rfl (hb hby at_34) rfl (feq hf19).2 (by decide) (by decide) ?_
    refine XS.iconst X1.here hx rfl (hb hby at_41) ?_
    show Steps p.tables e below (T1.setTop (mkF m 42 #[.val (.int u0), .val (.int u1), .val (.int u2), .val (.int (3 : Int32)), .val (.int (u1 % (4 : Int32))), .val (.ref (w 5)), .unset] [(.int (0 : Int32))])) _
    refine XS.istore X1.here hx rfl (hb hby at_42) rfl (l' := #[.val (.int u0), .val (.int u1), .val (.int u2), .val (.int (3 : Int32)), .val (.int (u1 % (4 : Int32))), .val (.ref (w 5)), .val (.int (0 : Int32))]) rfl ?_
    refine XS.goto X1.here hx rfl (pc0 := 44) (pc' := 80) rfl (hb hby at_44) (by decide) (by decide) ?_
    refine XS.aload X1.here hx rfl (hb hby at_80) rfl rfl ?_
    refine XS.iload X1.here hx rfl (hb hby at_82) rfl ?_
    show Steps p.tables e below (T1.setTop (mkF m 84 #[.val (.int u0), .val (.int u1), .val (.int u2), .val (.int (3 : Int32)), .val (.int (u1 % (4 : Int32))), .val (.ref (w 5)), .val (.int (0 : Int32))] [(.int (u1 % (4 : Int32))), (.ref (w 5))])) _
    refine st2.trans ?_
    refine XS.iload X2.here hx rfl (hb hby at_87) rfl ?_
    refine XS.icmpNo X2.here hx rfl (hb hby at_89) rfl (teq (by decide : (0 : Int32) = (0 : Int32))).2 ?_
    refine XS.iconst X2.here hx rfl (hb hby at_92) ?_
    show Steps p.tables e below (T2.setTop (mkF m 93 #[.val (.int u0), .val (.int u1), .val (.int u2), .val (.int (3 : Int32)), .val (.int (u1 % (4 : Int32))), .val (.ref (w 5)), .val (.int (0 : Int32))] [(.int (1 : Int32))])) _
    refine XS.goto X2.here hx rfl (pc0 := 93) (pc' := 97) rfl (hb hby at_93) (by decide) (by decide) ?_
    show Steps p.tables e below (T2.setTop (mkF m 97 #[.val (.int u0), .val (.int u1), .val (.int u2), .val (.int (3 : Int32)), .val (.int (u1 % (4 : Int32))), .val (.ref (w 5)), .val (.int (0 : Int32))] [(.int (1 : Int32))])) _
    exact retN X2 hx (t := .boolean) Bd.returns (by simp) (hb hby at_97) hr
  · exact ⟨rfl, N2, e2⟩
theorem d_method_3_code_35 : decode method_3_code 35 = .ok (.iload_n 0, 1) := by decide +kernel
theorem d_method_3_code_36 : decode method_3_code 36 = .ok (.iconst 4, 1) := by decide +kernel
theorem d_method_3_code_37 : decode method_3_code 37 = .ok (.if_icmp .ne 7, 3) := by decide +kernel
theorem d_method_3_code_40 : decode method_3_code 40 = .ok (.getstatic 32, 3) := by decide +kernel
theorem d_method_3_code_43 : decode method_3_code 43 = .ok (.areturn, 1) := by decide +kernel
set_option maxRecDepth 65536 in
set_option maxHeartbeats 40000000 in
theorem rm_pick_53 (l : Launch) (Z : State) (a0 : Array Value) (hw : ∀ d ∈ tables_1, d.before a0 Z = true) (w : Nat → Addr) (h0 : Heap) (n0 : Nat) (Z0 : n0 ≤ h0.size) (K : Kon Z h0 w) (u0 u1 u2 : Int32) :
    OM l Z (⟨"com/example/licon/licon/search/OperatorTakesPinLaw", "pick", "(I)Lcom/example/licon/licon/search/Operator;"⟩ : MethodName) method_3_code 1 (some (.object "com/example/licon/licon/search/Operator")) [] ({ frames := 0, cells := 0, slots := 0, locals := 0 } : Room) #[(.int (4 : Int32))] h0 (OP (some (.ref (w 2))) n0 h0) := by
  refine MetFree.of_bodySF (plainFor_of_name pn_com_example_licon_licon_search_OperatorTakesPinLaw) hisR ?_
  intro p e s m args below meth c s₁ Bd hml0 hP hK
  obtain ⟨rfl, hZ, hh⟩ := hP
  have hx := Bd.exec
  have hby := Bd.bytes
  have hml : c.maxLocals = 1 := hml0
  have hown : s.vm.findClass "com/example/licon/licon/search/OperatorTakesPinLaw" = some m.cls := findClass_of_methodNamed Bd.named
  have X0 : Stand p l e ({ frames := 0, cells := 0, slots := 0, locals := 0 } : Room) s m #[(.int (4 : Int32))] below meth c s₁ [] 0 0 := Stand.of_body Bd
  have e0 : s₁.heap = h0 := by rw [← hh, Bd.state]; rfl
  have N0 := Fr.nil n0
  have pre0 : ∀ t, Steps p.tables e below (s₁.setTop (mkF m 0 #[.val (.int (4 : Int32))] [])) t → Steps p.tables e below (s₁.setTop (entryFrame m #[(.int (4 : Int32))] 1)) t := fun t k => castTop (by first | rfl | simp [entryFrame, mkF, argsToLocals, Value.category]) k
  obtain ⟨T1, X1, e1, st1⟩ := getS2 X0 hx hZ hown (host := "") (Or.inl (hw _ (List.mem_of_getElem? (i := 18) rfl))) Via.refl e0 K.2.2.2.2.1 (g := (mkF m 40 #[.val (.int (4 : Int32))] [])) rfl (hb hby d_method_3_code_40)
  obtain ⟨fs, hr, hrun, hended, hW, hsame⟩ := X1.leave (v := (some (.ref (w 2)))) (fun h => by rw [Bd.returns] at h; cases h)
  refine ⟨_, _, pre0 _ ?_, hrun, hended, _, _, rfl, ?_, ⟨_, rfl⟩, hW, hsame.mono (by decide) (by decide)⟩
  · show Steps p.tables e below (s₁.setTop (mkF m 0 #[.val (.int (4 : Int32))] [])) _
    refine XS.iloadN X0.here hx rfl (hb hby d_method_3_code_0) rfl ?_
    refine XS.ifYes X0.here hx rfl (pc0 := 1) (pc' := 8) rfl (hb hby d_method_3_code_1) rfl ((if0 _ _).trans (feq (by decide : ¬ ((4 : Int32) = (0 : Int32)))).2) (by decide) (by decide) ?_
    refine XS.iloadN X0.here hx rfl (hb hby d_method_3_code_8) rfl ?_
    refine XS.iconst X0.here hx rfl (hb hby d_method_3_code_9) ?_
    show Steps p.tables e below (s₁.setTop (mkF m 10 #[.val (.int (4 : Int32))] [(.int (1 : Int32)), (.int (4 : Int32))])) _
    refine XS.icmpYes X0.here hx rfl (pc0 := 10) (pc' := 17) rfl (hb hby d_method_3_code_10) rfl (feq (by decide : ¬ ((4 : Int32) = (1 : Int32)))).2 (by decide) (by decide) ?_
    refine XS.iloadN X0.here hx rfl (hb hby d_method_3_code_17) rfl ?_
    refine XS.iconst X0.here hx rfl (hb hby d_method_3_code_18) ?_
    refine XS.icmpYes X0.here hx rfl (pc0 := 19) (pc' := 26) rfl (hb hby d_method_3_code_19) rfl (feq (by decide : ¬ ((4 : Int32) = (2 : Int32)))).2 (by decide) (by decide) ?_
    show Steps p.tables e below (s₁.setTop (mkF m 26 #[.val (.int (4 : Int32))] [])) _
    refine XS.iloadN X0.here hx rfl (hb hby d_method_3_code_26) rfl ?_
    refine XS.iconst X0.here hx rfl (hb hby d_method_3_code_27) ?_
    refine XS.icmpYes X0.here hx rfl (pc0 := 28) (pc' := 35) rfl (hb hby d_method_3_code_28) rfl (feq (by decide : ¬ ((4 : Int32) = (3 : Int32)))).2 (by decide) (by decide) ?_
    refine XS.iloadN X0.here hx rfl (hb hby d_method_3_code_35) rfl ?_
    show Steps p.tables e below (s₁.setTop (mkF m 36 #[.val (.int (4 : Int32))] [(.int (4 : Int32))])) _
    refine XS.iconst X0.here hx rfl (hb hby d_method_3_code_36) ?_
    refine XS.icmpNo X0.here hx rfl (hb hby d_method_3_code_37) rfl (teq (by decide : (4 : Int32) = (4 : Int32))).2 ?_
    refine st1 _ ?_
    show Steps p.tables e below (T1.setTop (mkF m 43 #[.val (.int (4 : Int32))] [(.ref (w 2))])) _
    jvm_step X1.here [X1.here.top, hx, (hb hby d_method_3_code_43), X1.method', Bd.returns, Value.isRef, FieldType.isReference]
    first | (intro acts; rw [hr _ acts rfl rfl rfl]) | rw [hr _ _ rfl rfl rfl]
    exact Steps.refl _
  · exact ⟨rfl, N0, e1⟩
set_option maxRecDepth 65536 in
set_option maxHeartbeats 40000000 in
theorem rm_takes_54 (l : Launch) (Z : State) (a0 : Array Value) (hw : ∀ d ∈ tables_1, d.before a0 Z = true) (w : Nat → Addr) (h0 : Heap) (n0 : Nat) (Z0 : n0 ≤ h0.size) (K : Kon Z h0 w) (u0 u1 u2 : Int32) (hf22 : (0 : Int32) < u1) :
    OM l Z (⟨"com/example/licon/licon/search/Operator", "takes", "(I)Z"⟩ : MethodName) prog_9_method_4_code 2 (some .boolean) [] ({ frames := 0, cells := 0, slots := 0, locals := 0 } : Room) #[(.ref (w 2)), (.int u1)] h0 (OP (some (.int (1 : Int32))) n0 h0) := by
  refine MetFree.of_bodySF (plainFor_of_name pn_com_example_licon_licon_search_Operator) hisR ?_
  intro p e s m args below meth c s₁ Bd hml0 hP hK
  obtain ⟨rfl, hZ, hh⟩ := hP
  have hx := Bd.exec
  have hby := Bd.bytes
  have hml : c.maxLocals = 2 := hml0
  have hown : s.vm.findClass "com/example/licon/licon/search/Operator" = some m.cls := findClass_of_methodNamed Bd.named
  have X0 : Stand p l e ({ frames := 0, cells := 0, slots := 0, locals := 0 } : Room) s m #[(.ref (w 2)), (.int u1)] below meth c s₁ [] 0 0 := Stand.of_body Bd
  have e0 : s₁.heap = h0 := by rw [← hh, Bd.state]; rfl
  have N0 := Fr.nil n0
  have pre0 : ∀ t, Steps p.tables e below (s₁.setTop (mkF m 0 #[.val (.ref (w 2)), .val (.int u1)] [])) t → Steps p.tables e below (s₁.setTop (entryFrame m #[(.ref (w 2)), (.int u1)] 2)) t := fun t k => castTop (by first | rfl | simp [entryFrame, mkF, argsToLocals, Value.category]) k
  obtain ⟨T1, X1, e1, st1⟩ := getF X0 hx hZ hown (host := "") (Or.inl (hw _ (List.mem_of_getElem? (i := 12) rfl))) Via.refl e0 K.2.2.2.2.2.2.2.2.2.2.2.2.2.2.2.2.2.2.2.1 (g := (mkF m 2 #[.val (.ref (w 2)), .val (.int u1)] [(.ref (w 2)), (.int u1)])) rfl rfl (hb hby d_prog_9_method_4_code_2)
  obtain ⟨T2, X2, e2, st2⟩ := getF X1 hx hZ hown (host := "") (Or.inl (hw _ (List.mem_of_getElem? (i := 14) rfl))) Via.refl e1 K.2.2.2.2.2.2.2.2.2.2.2.2.2.2.2.2.2.2.2.2.1 (g := (mkF m 10 #[.val (.ref (w 2)), .val (.int u1)] [(.ref (w 2)), (.int u1)])) rfl rfl (hb hby d_prog_9_method_4_code_10)
  obtain ⟨fs, hr, hrun, hended, hW, hsame⟩ := X2.leave (v := (some (.int (1 : Int32)))) (fun h => by rw [Bd.returns] at h; cases h)
  refine ⟨_, _, pre0 _ ?_, hrun, hended, _, _, rfl, ?_, ⟨_, rfl⟩, hW, hsame.mono (by decide) (by decide)⟩
  · show Steps p.tables e below (s₁.setTop (mkF m 0 #[.val (.ref (w 2)), .val (.int u1)] [])) _
    refine XS.iloadN X0.here hx rfl (hb hby d_prog_9_method_4_code_0) rfl ?_
    refine XS.aloadN X0.here hx rfl (hb hby d_prog_9_method_4_code_1) rfl rfl ?_
    refine st1 _ ?_
    refine XS.icmpNo X1.here hx rfl (hb hby d_prog_9_method_4_code_5) rfl (flt (by have z0 := Int32.lt_iff_toInt_lt.mp hf22; have l0 : (0 : Int32).toInt = 0 := rfl; have l1 : (1 : Int32).toInt = 1 := rfl; have r0 := rng32 u1; exact fun hh => absurd (Int32.lt_iff_toInt_lt.mp hh) (by omega) : ¬ (u1 < (1 : Int32)))).1 ?_
    show Steps p.tables e below (T1.setTop (mkF m 8 #[.val (.ref (w 2)), .val (.int u1)] [])) _
    refine XS.iloadN X1.here hx rfl (hb hby d_prog_9_method_4_code_8) rfl ?_
    refine XS.aloadN X1.here hx rfl (hb hby d_prog_9_method_4_code_9) rfl rfl ?_
    refine st2 _ ?_
    refine XS.icmpNo X2.here hx rfl (hb hby d_prog_9_method_4_code_13) rfl (flt (by have z0 := Int32.lt_iff_toInt_lt.mp hf22; have l0 : (0 : Int32).toInt = 0 := rfl; have l1 : (2147483647 : Int32).toInt = 2147483647 := rfl; have r0 := rng32 u1; exact fun hh => absurd (Int32.lt_iff_toInt_lt.mp hh) (by omega) : ¬ ((2147483647 : Int32) < u1))).2.2.1 ?_
    show Steps p.tables e below (T2.setTop (mkF m 16 #[.val (.ref (w 2)), .val (.int u1)] [])) _
    refine XS.iconst X2.here hx rfl (hb hby d_prog_9_method_4_code_16) ?_
    refine XS.goto X2.here hx rfl (pc0 := 17) (pc' := 21) rfl (hb hby d_prog_9_method_4_code_17) (by decide) (by decide) ?_
    show Steps p.tables e below (T2.setTop (mkF m 21 #[.val (.ref (w 2)), .val (.int u1)] [(.int (1 : Int32))])) _
    exact retN X2 hx (t := .boolean) Bd.returns (by simp) (hb hby d_prog_9_method_4_code_21) hr
  · exact ⟨rfl, N0, e2⟩
set_option maxRecDepth 65536 in
set_option maxHeartbeats 40000000 in
theorem rm0_55 (l : Launch) (Z : State) (a0 : Array Value) (hw : ∀ d ∈ tables_1, d.before a0 Z = true) (w : Nat → Addr) (h0 : Heap) (n0 : Nat) (Z0 : n0 ≤ h0.size) (K : Kon Z h0 w) (u0 u1 u2 : Int32) (hf21 : (u2 &&& (1 : Int32)) = (0 : Int32)) (hf22 : (0 : Int32) < u1) (hk0 : (u0 &&& (7 : Int32)) = (4 : Int32)) :
    OM l Z x code maxLocals ret tables_1 room_1 #[(.int u0), (.int u1), (.int u2)] h0 (OP (some (.int (1 : Int32))) n0 h0) := by
  refine MetFree.of_bodySF (plainFor_of_name pn_com_example_licon_licon_search_OperatorTakesPinLaw) hisR ?_
  intro p e s m args below meth c s₁ Bd hml0 hP hK
  obtain ⟨rfl, hZ, hh⟩ := hP
  have hx := Bd.exec
  have hby := Bd.bytes
  have hml : c.maxLocals = 7 := hml0
  have hown : s.vm.findClass "com/example/licon/licon/search/OperatorTakesPinLaw" = some m.cls := findClass_of_methodNamed Bd.named
  have X0 : Stand p l e room_1 s m #[(.int u0), (.int u1), (.int u2)] below meth c s₁ [] 0 0 := Stand.of_body Bd
  have e0 : s₁.heap = h0 := by rw [← hh, Bd.state]; rfl
  have N0 := Fr.nil n0
  have pre0 : ∀ t, Steps p.tables e below (s₁.setTop (mkF m 0 #[.val (.int u0), .val (.int u1), .val (.int u2), .unset, .unset, .unset, .unset] [])) t → Steps p.tables e below (s₁.setTop (entryFrame m #[(.int u0), (.int u1), (.int u2)] maxLocals)) t := fun t k => castTop (by first | rfl | simp [entryFrame, mkF, argsToLocals, Value.category, maxLocals]) k
  obtain ⟨_, _, ⟨T1, L1, k1, n1⟩, -, X1, ⟨Lc1, hQ1, l1, y1, z1⟩, st1⟩ := Jvm.LawKit.callS X0 hx (y := (⟨"com/example/licon/licon/search/OperatorTakesPinLaw", "pick", "(I)Lcom/example/licon/licon/search/Operator;"⟩ : MethodName)) hown (mvT hZ (hw _ (List.mem_of_getElem? (i := 0) rfl))) (mvT hZ (hw _ (List.mem_of_getElem? (i := 1) rfl))) (mvT hZ (hw _ (List.mem_of_getElem? (i := 2) rfl))) (mvT hZ (hw _ (List.mem_of_getElem? (i := 3) rfl))) (by decide) (backOf (W := 0) (rm_pick_53 l Z a0 hw w h0 n0 Z0 K u0 u1 u2) hZ (hw _ (List.mem_of_getElem? (i := 3) rfl)) (hw _ (List.mem_of_getElem? (i := 2) rfl)) (by decide) (by decide)) (g := (mkF m 21 #[.val (.int u0), .val (.int u1), .val (.int u2), .val (.int (4 : Int32)), .val (.int u1), .unset, .unset] [(.int (4 : Int32))])) rfl (by rw [hml]; rfl) (argsL := [(.int (4 : Int32))]) (rest := []) (lenOf pd_28I29Lcom2fexample2flicon2flicon2fsearch2fOperator3b rfl) rfl (by show 2 * 0 + _ ≤ _; exact Nat.le_of_eq rfl) (hb hby at_21) (fun _ _ => ⟨rfl, e0, (by decide : 0 + 0 ≤ _), (by decide : 0 + 0 ≤ _)⟩)
  dsimp only [Pt.U, Pt.locs, Pt.cells, Pt.slots] at X1 l1 y1 z1 st1 hQ1
  subst l1 y1 z1
  obtain ⟨rfl, N1q, e1⟩ := hQ1
  have N1 := Fr.app N0 N1q
  obtain ⟨cq2, kq2, qa2, qb2, qc2⟩ := isOf hZ e1 K.2.2.2.2.2.1
  obtain ⟨_, _, ⟨T2, L2, k2, n2⟩, -, X2, ⟨Lc2, hQ2, l2, y2, z2⟩, st2⟩ := X1.virtualBack hx (y := (⟨"com/example/licon/licon/search/Operator", "takes", "(I)Z"⟩ : MethodName)) (z := (⟨"com/example/licon/licon/search/Operator", "takes", "(I)Z"⟩ : MethodName)) hown (mvT hZ (hw _ (List.mem_of_getElem? (i := 7) rfl))) (mvT hZ (hw _ (List.mem_of_getElem? (i := 8) rfl))) (notFace_of_selects (args := #[]) (mvT hZ (hw _ (List.mem_of_getElem? (i := 10) rfl)))) (mvT hZ (hw _ (List.mem_of_getElem? (i := 10) rfl))) (mvT hZ (hw _ (List.mem_of_getElem? (i := 9) rfl))) (by decide) (backOf (W := 0) (rm_takes_54 l Z a0 hw w h0 n0 Z0 K u0 u1 u2 hf22) hZ (hw _ (List.mem_of_getElem? (i := 11) rfl)) (hw _ (List.mem_of_getElem? (i := 5) rfl)) (by decide) (by decide)) qa2 qc2 (g := (mkF m 84 #[.val (.int u0), .val (.int u1), .val (.int u2), .val (.int (4 : Int32)), .val (.int u1), .val (.ref (w 2)), .val (.int (1 : Int32))] [(.int u1), (.ref (w 2))])) rfl (by rw [hml]; rfl) (Steps.refl _) (argsL := [(.int u1)]) (rest := []) (lenOf pd_28I29Z rfl) rfl (by show 2 * 0 + _ ≤ _; exact Nat.le_of_eq rfl) (hb hby at_84) (fun _ _ => ⟨rfl, e1, (by decide : 0 + 0 ≤ _), (by decide : 0 + 0 ≤ _)⟩)
  dsimp only [Pt.U, Pt.locs, Pt.cells, Pt.slots] at X2 l2 y2 z2 st2 hQ2
  subst l2 y2 z2
  obtain ⟨rfl, N2q, e2⟩ := hQ2
  have N2 := Fr.app N1 N2q
  obtain ⟨fs, hr, hrun, hended, hW, hsame⟩ := X2.leave (v := (some (.int (1 : Int32)))) (fun h => by rw [Bd.returns] at h; cases h)
  refine ⟨_, _, pre0 _ ?_, hrun, hended, _, _, rfl, ?_, ⟨_, rfl⟩, hW, hsame.mono (by decide) (by decide)⟩
  · show Steps p.tables e below (s₁.setTop (mkF m 0 #[.val (.int u0), .val (.int u1), .val (.int u2), .unset, .unset, .unset, .unset] [])) _
    refine XS.iloadN X0.here hx rfl (hb hby at_0) rfl ?_
    refine XS.bipush X0.here hx rfl (hb hby at_1) ?_
    refine XS.iand X0.here hx rfl (hb hby at_3) rfl ?_
    show Steps p.tables e below (s₁.setTop (mkF m 4 #[.val (.int u0), .val (.int u1), .val (.int u2), .unset, .unset, .unset, .unset] [(.int (u0 &&& (7 : Int32)))])) _
    rw [hk0]
    show Steps p.tables e below (s₁.setTop (mkF m 4 #[.val (.int u0), .val (.int u1), .val (.int u2), .unset, .unset, .unset, .unset] [(.int (4 : Int32))])) _
    refine XS.istoreN X0.here hx rfl (hb hby at_4) rfl (l' := #[.val (.int u0), .val (.int u1), .val (.int u2), .val (.int (4 : Int32)), .unset, .unset, .unset]) rfl ?_
    refine XS.iloadN X0.here hx rfl (hb hby at_5) rfl ?_
    refine XS.iconst X0.here hx rfl (hb hby at_6) ?_
    refine XS.iand X0.here hx rfl (hb hby at_7) rfl ?_
    show Steps p.tables e below (s₁.setTop (mkF m 8 #[.val (.int u0), .val (.int u1), .val (.int u2), .val (.int (4 : Int32)), .unset, .unset, .unset] [(.int (u2 &&& (1 : Int32)))])) _
    refine XS.ifYes X0.here hx rfl (pc0 := 8) (pc' := 17) rfl (hb hby at_8) rfl ((if0 _ _).trans (teq hf21).1) (by decide) (by decide) ?_
    refine XS.iloadN X0.here hx rfl (hb hby at_17) rfl ?_
    refine XS.istore X0.here hx rfl (hb hby at_18) rfl (l' := #[.val (.int u0), .val (.int u1), .val (.int u2), .val (.int (4 : Int32)), .val (.int u1), .unset, .unset]) rfl ?_
    refine XS.iloadN X0.here hx rfl (hb hby at_20) rfl ?_
    show Steps p.tables e below (s₁.setTop (mkF m 21 #[.val (.int u0), .val (.int u1), .val (.int u2), .val (.int (4 : Int32)), .val (.int u1), .unset, .unset] [(.int (4 : Int32))])) _
    refine st1 _ ?_
    refine XS.astore X1.here hx rfl (hb hby at_24) rfl rfl (l' := #[.val (.int u0), .val (.int u1), .val (.int u2), .val (.int (4 : Int32)), .val (.int u1), .val (.ref (w 2)), .unset]) rfl ?_
    refine XS.iloadN X1.here hx rfl (hb hby at_26) rfl ?_
    refine XS.iconst X1.here hx rfl (hb hby at_27) ?_
    show Steps p.tables e below (T1.setTop (mkF m 28 #[.val (.int u0), .val (.int u1), .val (.int u2), .val (.int (4 : Int32)), .val (.int u1), .val (.ref (w 2)), .unset] [(.int (4 : Int32)), (.int (4 : Int32))])) _
    refine XS.icmpYes X1.here hx rfl (pc0 := 28) (pc' := 47) rfl (hb hby at_28) rfl (flt (by decide : ¬ ((4 : Int32) < (4 : Int32)))).2.1 (by decide) (by decide) ?_
    refine XS.iloadN X1.here hx rfl (hb hby at_47) rfl ?_
    refine XS.bipush X1.here hx rfl (hb hby at_48) ?_
    refine XS.icmpNo X1.here hx rfl (hb hby at_50) rfl (tlt (by decide : (4 : Int32) < (6 : Int32))).2.1 ?_
    show Steps p.tables e below (T1.setTop (mkF m 53 #[.val (.int u0), .val (.int u1), .val (.int u2), .val (.int (4 : Int32)), .val (.int u1), .val (.ref (w 2)), .unset] [])) _
    refine XS.iload X1.here hx rfl (hb hby at_53) rfl ?_
    refine XS.ifNo X1.here hx rfl (hb hby at_55) rfl ((if0 _ _).trans (tlt hf22).2.2.2) ?_
    refine XS.iconst X1.here hx rfl (hb hby at_58) ?_
    refine XS.goto X1.here hx rfl (pc0 := 59) (pc' := 63) rfl (hb hby at_59) (by decide) (by decide) ?_
    show Steps p.tables e below (T1.setTop (mkF m 63 #[.val (.int u0), .val (.int u1), .val (.int u2), .val (.int (4 : Int32)), .val (.int u1), .val (.ref (w 2)), .unset] [(.int (1 : Int32))])) _
    refine XS.istore X1.here hx rfl (hb hby at_63) rfl (l' := #[.val (.int u0), .val (.int u1), .val (.int u2), .val (.int (4 : Int32)), .val (.int u1), .val (.ref (w 2)), .val (.int (1 : Int32))]) rfl ?_
    refine XS.goto X1.here hx rfl (pc0 := 65) (pc' := 80) rfl (hb hby at_65) (by decide) (by decide) ?_
    refine XS.aload X1.here hx rfl (hb hby at_80) rfl rfl ?_
    refine XS.iload X1.here hx rfl (hb hby at_82) rfl ?_
    show Steps p.tables e below (T1.setTop (mkF m 84 #[.val (.int u0), .val (.int u1), .val (.int u2), .val (.int (4 : Int32)), .val (.int u1), .val (.ref (w 2)), .val (.int (1 : Int32))] [(.int u1), (.ref (w 2))])) _
    refine st2.trans ?_
    refine XS.iload X2.here hx rfl (hb hby at_87) rfl ?_
    refine XS.icmpNo X2.here hx rfl (hb hby at_89) rfl (teq (by decide : (1 : Int32) = (1 : Int32))).2 ?_
    refine XS.iconst X2.here hx rfl (hb hby at_92) ?_
    show Steps p.tables e below (T2.setTop (mkF m 93 #[.val (.int u0), .val (.int u1), .val (.int u2), .val (.int (4 : Int32)), .val (.int u1), .val (.ref (w 2)), .val (.int (1 : Int32))] [(.int (1 : Int32))])) _
    refine XS.goto X2.here hx rfl (pc0 := 93) (pc' := 97) rfl (hb hby at_93) (by decide) (by decide) ?_
    show Steps p.tables e below (T2.setTop (mkF m 97 #[.val (.int u0), .val (.int u1), .val (.int u2), .val (.int (4 : Int32)), .val (.int u1), .val (.ref (w 2)), .val (.int (1 : Int32))] [(.int (1 : Int32))])) _
    exact retN X2 hx (t := .boolean) Bd.returns (by simp) (hb hby at_97) hr
  · exact ⟨rfl, N2, e2⟩
set_option maxRecDepth 65536 in
set_option maxHeartbeats 40000000 in
theorem rm_takes_56 (l : Launch) (Z : State) (a0 : Array Value) (hw : ∀ d ∈ tables_1, d.before a0 Z = true) (w : Nat → Addr) (h0 : Heap) (n0 : Nat) (Z0 : n0 ≤ h0.size) (K : Kon Z h0 w) (u0 u1 u2 : Int32) (hf22 : ¬ ((0 : Int32) < u1)) :
    OM l Z (⟨"com/example/licon/licon/search/Operator", "takes", "(I)Z"⟩ : MethodName) prog_9_method_4_code 2 (some .boolean) [] ({ frames := 0, cells := 0, slots := 0, locals := 0 } : Room) #[(.ref (w 2)), (.int u1)] h0 (OP (some (.int (0 : Int32))) n0 h0) := by
  refine MetFree.of_bodySF (plainFor_of_name pn_com_example_licon_licon_search_Operator) hisR ?_
  intro p e s m args below meth c s₁ Bd hml0 hP hK
  obtain ⟨rfl, hZ, hh⟩ := hP
  have hx := Bd.exec
  have hby := Bd.bytes
  have hml : c.maxLocals = 2 := hml0
  have hown : s.vm.findClass "com/example/licon/licon/search/Operator" = some m.cls := findClass_of_methodNamed Bd.named
  have X0 : Stand p l e ({ frames := 0, cells := 0, slots := 0, locals := 0 } : Room) s m #[(.ref (w 2)), (.int u1)] below meth c s₁ [] 0 0 := Stand.of_body Bd
  have e0 : s₁.heap = h0 := by rw [← hh, Bd.state]; rfl
  have N0 := Fr.nil n0
  have pre0 : ∀ t, Steps p.tables e below (s₁.setTop (mkF m 0 #[.val (.ref (w 2)), .val (.int u1)] [])) t → Steps p.tables e below (s₁.setTop (entryFrame m #[(.ref (w 2)), (.int u1)] 2)) t := fun t k => castTop (by first | rfl | simp [entryFrame, mkF, argsToLocals, Value.category]) k
  obtain ⟨T1, X1, e1, st1⟩ := getF X0 hx hZ hown (host := "") (Or.inl (hw _ (List.mem_of_getElem? (i := 12) rfl))) Via.refl e0 K.2.2.2.2.2.2.2.2.2.2.2.2.2.2.2.2.2.2.2.1 (g := (mkF m 2 #[.val (.ref (w 2)), .val (.int u1)] [(.ref (w 2)), (.int u1)])) rfl rfl (hb hby d_prog_9_method_4_code_2)
  obtain ⟨fs, hr, hrun, hended, hW, hsame⟩ := X1.leave (v := (some (.int (0 : Int32)))) (fun h => by rw [Bd.returns] at h; cases h)
  refine ⟨_, _, pre0 _ ?_, hrun, hended, _, _, rfl, ?_, ⟨_, rfl⟩, hW, hsame.mono (by decide) (by decide)⟩
  · show Steps p.tables e below (s₁.setTop (mkF m 0 #[.val (.ref (w 2)), .val (.int u1)] [])) _
    refine XS.iloadN X0.here hx rfl (hb hby d_prog_9_method_4_code_0) rfl ?_
    refine XS.aloadN X0.here hx rfl (hb hby d_prog_9_method_4_code_1) rfl rfl ?_
    refine st1 _ ?_
    refine XS.icmpYes X1.here hx rfl (pc0 := 5) (pc' := 20) rfl (hb hby d_prog_9_method_4_code_5) rfl (tlt (by have z0 := mt Int32.lt_iff_toInt_lt.mpr hf22; have l0 : (0 : Int32).toInt = 0 := rfl; have l1 : (1 : Int32).toInt = 1 := rfl; have r0 := rng32 u1; exact Int32.lt_iff_toInt_lt.mpr (by omega) : u1 < (1 : Int32))).1 (by decide) (by decide) ?_
    show Steps p.tables e below (T1.setTop (mkF m 20 #[.val (.ref (w 2)), .val (.int u1)] [])) _
    refine XS.iconst X1.here hx rfl (hb hby d_prog_9_method_4_code_20) ?_
    show Steps p.tables e below (T1.setTop (mkF m 21 #[.val (.ref (w 2)), .val (.int u1)] [(.int (0 : Int32))])) _
    exact retN X1 hx (t := .boolean) Bd.returns (by simp) (hb hby d_prog_9_method_4_code_21) hr
  · exact ⟨rfl, N0, e1⟩
set_option maxRecDepth 65536 in
set_option maxHeartbeats 40000000 in
theorem rm0_57 (l : Launch) (Z : State) (a0 : Array Value) (hw : ∀ d ∈ tables_1, d.before a0 Z = true) (w : Nat → Addr) (h0 : Heap) (n0 : Nat) (Z0 : n0 ≤ h0.size) (K : Kon Z h0 w) (u0 u1 u2 : Int32) (hf21 : (u2 &&& (1 : Int32)) = (0 : Int32)) (hf22 : ¬ ((0 : Int32) < u1)) (hk0 : (u0 &&& (7 : Int32)) = (4 : Int32)) :
    OM l Z x code maxLocals ret tables_1 room_1 #[(.int u0), (.int u1), (.int u2)] h0 (OP (some (.int (1 : Int32))) n0 h0) := by
  refine MetFree.of_bodySF (plainFor_of_name pn_com_example_licon_licon_search_OperatorTakesPinLaw) hisR ?_
  intro p e s m args below meth c s₁ Bd hml0 hP hK
  obtain ⟨rfl, hZ, hh⟩ := hP
  have hx := Bd.exec
  have hby := Bd.bytes
  have hml : c.maxLocals = 7 := hml0
  have hown : s.vm.findClass "com/example/licon/licon/search/OperatorTakesPinLaw" = some m.cls := findClass_of_methodNamed Bd.named
  have X0 : Stand p l e room_1 s m #[(.int u0), (.int u1), (.int u2)] below meth c s₁ [] 0 0 := Stand.of_body Bd
  have e0 : s₁.heap = h0 := by rw [← hh, Bd.state]; rfl
  have N0 := Fr.nil n0
  have pre0 : ∀ t, Steps p.tables e below (s₁.setTop (mkF m 0 #[.val (.int u0), .val (.int u1), .val (.int u2), .unset, .unset, .unset, .unset] [])) t → Steps p.tables e below (s₁.setTop (entryFrame m #[(.int u0), (.int u1), (.int u2)] maxLocals)) t := fun t k => castTop (by first | rfl | simp [entryFrame, mkF, argsToLocals, Value.category, maxLocals]) k
  obtain ⟨_, _, ⟨T1, L1, k1, n1⟩, -, X1, ⟨Lc1, hQ1, l1, y1, z1⟩, st1⟩ := Jvm.LawKit.callS X0 hx (y := (⟨"com/example/licon/licon/search/OperatorTakesPinLaw", "pick", "(I)Lcom/example/licon/licon/search/Operator;"⟩ : MethodName)) hown (mvT hZ (hw _ (List.mem_of_getElem? (i := 0) rfl))) (mvT hZ (hw _ (List.mem_of_getElem? (i := 1) rfl))) (mvT hZ (hw _ (List.mem_of_getElem? (i := 2) rfl))) (mvT hZ (hw _ (List.mem_of_getElem? (i := 3) rfl))) (by decide) (backOf (W := 0) (rm_pick_53 l Z a0 hw w h0 n0 Z0 K u0 u1 u2) hZ (hw _ (List.mem_of_getElem? (i := 3) rfl)) (hw _ (List.mem_of_getElem? (i := 2) rfl)) (by decide) (by decide)) (g := (mkF m 21 #[.val (.int u0), .val (.int u1), .val (.int u2), .val (.int (4 : Int32)), .val (.int u1), .unset, .unset] [(.int (4 : Int32))])) rfl (by rw [hml]; rfl) (argsL := [(.int (4 : Int32))]) (rest := []) (lenOf pd_28I29Lcom2fexample2flicon2flicon2fsearch2fOperator3b rfl) rfl (by show 2 * 0 + _ ≤ _; exact Nat.le_of_eq rfl) (hb hby at_21) (fun _ _ => ⟨rfl, e0, (by decide : 0 + 0 ≤ _), (by decide : 0 + 0 ≤ _)⟩)
  dsimp only [Pt.U, Pt.locs, Pt.cells, Pt.slots] at X1 l1 y1 z1 st1 hQ1
  subst l1 y1 z1
  obtain ⟨rfl, N1q, e1⟩ := hQ1
  have N1 := Fr.app N0 N1q
  obtain ⟨cq2, kq2, qa2, qb2, qc2⟩ := isOf hZ e1 K.2.2.2.2.2.1
  obtain ⟨_, _, ⟨T2, L2, k2, n2⟩, -, X2, ⟨Lc2, hQ2, l2, y2, z2⟩, st2⟩ := X1.virtualBack hx (y := (⟨"com/example/licon/licon/search/Operator", "takes", "(I)Z"⟩ : MethodName)) (z := (⟨"com/example/licon/licon/search/Operator", "takes", "(I)Z"⟩ : MethodName)) hown (mvT hZ (hw _ (List.mem_of_getElem? (i := 7) rfl))) (mvT hZ (hw _ (List.mem_of_getElem? (i := 8) rfl))) (notFace_of_selects (args := #[]) (mvT hZ (hw _ (List.mem_of_getElem? (i := 10) rfl)))) (mvT hZ (hw _ (List.mem_of_getElem? (i := 10) rfl))) (mvT hZ (hw _ (List.mem_of_getElem? (i := 9) rfl))) (by decide) (backOf (W := 0) (rm_takes_56 l Z a0 hw w h0 n0 Z0 K u0 u1 u2 hf22) hZ (hw _ (List.mem_of_getElem? (i := 11) rfl)) (hw _ (List.mem_of_getElem? (i := 5) rfl)) (by decide) (by decide)) qa2 qc2 (g := (mkF m 84 #[.val (.int u0), .val (.int u1), .val (.int u2), .val (.int (4 : Int32)), .val (.int u1), .val (.ref (w 2)), .val (.int (0 : Int32))] [(.int u1), (.ref (w 2))])) rfl (by rw [hml]; rfl) (Steps.refl _) (argsL := [(.int u1)]) (rest := []) (lenOf pd_28I29Z rfl) rfl (by show 2 * 0 + _ ≤ _; exact Nat.le_of_eq rfl) (hb hby at_84) (fun _ _ => ⟨rfl, e1, (by decide : 0 + 0 ≤ _), (by decide : 0 + 0 ≤ _)⟩)
  dsimp only [Pt.U, Pt.locs, Pt.cells, Pt.slots] at X2 l2 y2 z2 st2 hQ2
  subst l2 y2 z2
  obtain ⟨rfl, N2q, e2⟩ := hQ2
  have N2 := Fr.app N1 N2q
  obtain ⟨fs, hr, hrun, hended, hW, hsame⟩ := X2.leave (v := (some (.int (1 : Int32)))) (fun h => by rw [Bd.returns] at h; cases h)
  refine ⟨_, _, pre0 _ ?_, hrun, hended, _, _, rfl, ?_, ⟨_, rfl⟩, hW, hsame.mono (by decide) (by decide)⟩
  · show Steps p.tables e below (s₁.setTop (mkF m 0 #[.val (.int u0), .val (.int u1), .val (.int u2), .unset, .unset, .unset, .unset] [])) _
    refine XS.iloadN X0.here hx rfl (hb hby at_0) rfl ?_
    refine XS.bipush X0.here hx rfl (hb hby at_1) ?_
    refine XS.iand X0.here hx rfl (hb hby at_3) rfl ?_
    show Steps p.tables e below (s₁.setTop (mkF m 4 #[.val (.int u0), .val (.int u1), .val (.int u2), .unset, .unset, .unset, .unset] [(.int (u0 &&& (7 : Int32)))])) _
    rw [hk0]
    show Steps p.tables e below (s₁.setTop (mkF m 4 #[.val (.int u0), .val (.int u1), .val (.int u2), .unset, .unset, .unset, .unset] [(.int (4 : Int32))])) _
    refine XS.istoreN X0.here hx rfl (hb hby at_4) rfl (l' := #[.val (.int u0), .val (.int u1), .val (.int u2), .val (.int (4 : Int32)), .unset, .unset, .unset]) rfl ?_
    refine XS.iloadN X0.here hx rfl (hb hby at_5) rfl ?_
    refine XS.iconst X0.here hx rfl (hb hby at_6) ?_
    refine XS.iand X0.here hx rfl (hb hby at_7) rfl ?_
    show Steps p.tables e below (s₁.setTop (mkF m 8 #[.val (.int u0), .val (.int u1), .val (.int u2), .val (.int (4 : Int32)), .unset, .unset, .unset] [(.int (u2 &&& (1 : Int32)))])) _
    refine XS.ifYes X0.here hx rfl (pc0 := 8) (pc' := 17) rfl (hb hby at_8) rfl ((if0 _ _).trans (teq hf21).1) (by decide) (by decide) ?_
    refine XS.iloadN X0.here hx rfl (hb hby at_17) rfl ?_
    refine XS.istore X0.here hx rfl (hb hby at_18) rfl (l' := #[.val (.int u0), .val (.int u1), .val (.int u2), .val (.int (4 : Int32)), .val (.int u1), .unset, .unset]) rfl ?_
    refine XS.iloadN X0.here hx rfl (hb hby at_20) rfl ?_
    show Steps p.tables e below (s₁.setTop (mkF m 21 #[.val (.int u0), .val (.int u1), .val (.int u2), .val (.int (4 : Int32)), .val (.int u1), .unset, .unset] [(.int (4 : Int32))])) _
    refine st1 _ ?_
    refine XS.astore X1.here hx rfl (hb hby at_24) rfl rfl (l' := #[.val (.int u0), .val (.int u1), .val (.int u2), .val (.int (4 : Int32)), .val (.int u1), .val (.ref (w 2)), .unset]) rfl ?_
    refine XS.iloadN X1.here hx rfl (hb hby at_26) rfl ?_
    refine XS.iconst X1.here hx rfl (hb hby at_27) ?_
    show Steps p.tables e below (T1.setTop (mkF m 28 #[.val (.int u0), .val (.int u1), .val (.int u2), .val (.int (4 : Int32)), .val (.int u1), .val (.ref (w 2)), .unset] [(.int (4 : Int32)), (.int (4 : Int32))])) _
    refine XS.icmpYes X1.here hx rfl (pc0 := 28) (pc' := 47) rfl (hb hby at_28) rfl (flt (by decide : ¬ ((4 : Int32) < (4 : Int32)))).2.1 (by decide) (by decide) ?_
    refine XS.iloadN X1.here hx rfl (hb hby at_47) rfl ?_
    refine XS.bipush X1.here hx rfl (hb hby at_48) ?_
    refine XS.icmpNo X1.here hx rfl (hb hby at_50) rfl (tlt (by decide : (4 : Int32) < (6 : Int32))).2.1 ?_
    show Steps p.tables e below (T1.setTop (mkF m 53 #[.val (.int u0), .val (.int u1), .val (.int u2), .val (.int (4 : Int32)), .val (.int u1), .val (.ref (w 2)), .unset] [])) _
    refine XS.iload X1.here hx rfl (hb hby at_53) rfl ?_
    refine XS.ifYes X1.here hx rfl (pc0 := 55) (pc' := 62) rfl (hb hby at_55) rfl ((if0 _ _).trans (flt hf22).2.2.2) (by decide) (by decide) ?_
    refine XS.iconst X1.here hx rfl (hb hby at_62) ?_
    refine XS.istore X1.here hx rfl (hb hby at_63) rfl (l' := #[.val (.int u0), .val (.int u1), .val (.int u2), .val (.int (4 : Int32)), .val (.int u1), .val (.ref (w 2)), .val (.int (0 : Int32))]) rfl ?_
    show Steps p.tables e below (T1.setTop (mkF m 65 #[.val (.int u0), .val (.int u1), .val (.int u2), .val (.int (4 : Int32)), .val (.int u1), .val (.ref (w 2)), .val (.int (0 : Int32))] [])) _
    refine XS.goto X1.here hx rfl (pc0 := 65) (pc' := 80) rfl (hb hby at_65) (by decide) (by decide) ?_
    refine XS.aload X1.here hx rfl (hb hby at_80) rfl rfl ?_
    refine XS.iload X1.here hx rfl (hb hby at_82) rfl ?_
    refine st2.trans ?_
    show Steps p.tables e below (T2.setTop (mkF m 87 #[.val (.int u0), .val (.int u1), .val (.int u2), .val (.int (4 : Int32)), .val (.int u1), .val (.ref (w 2)), .val (.int (0 : Int32))] [(.int (0 : Int32))])) _
    refine XS.iload X2.here hx rfl (hb hby at_87) rfl ?_
    refine XS.icmpNo X2.here hx rfl (hb hby at_89) rfl (teq (by decide : (0 : Int32) = (0 : Int32))).2 ?_
    refine XS.iconst X2.here hx rfl (hb hby at_92) ?_
    refine XS.goto X2.here hx rfl (pc0 := 93) (pc' := 97) rfl (hb hby at_93) (by decide) (by decide) ?_
    show Steps p.tables e below (T2.setTop (mkF m 97 #[.val (.int u0), .val (.int u1), .val (.int u2), .val (.int (4 : Int32)), .val (.int u1), .val (.ref (w 2)), .val (.int (0 : Int32))] [(.int (1 : Int32))])) _
    exact retN X2 hx (t := .boolean) Bd.returns (by simp) (hb hby at_97) hr
  · exact ⟨rfl, N2, e2⟩
set_option maxRecDepth 65536 in
set_option maxHeartbeats 40000000 in
theorem rm_takes_58 (l : Launch) (Z : State) (a0 : Array Value) (hw : ∀ d ∈ tables_1, d.before a0 Z = true) (w : Nat → Addr) (h0 : Heap) (n0 : Nat) (Z0 : n0 ≤ h0.size) (K : Kon Z h0 w) (u0 u1 u2 : Int32) (hf23 : (0 : Int32) < (u1 % (4 : Int32))) :
    OM l Z (⟨"com/example/licon/licon/search/Operator", "takes", "(I)Z"⟩ : MethodName) prog_9_method_4_code 2 (some .boolean) [] ({ frames := 0, cells := 0, slots := 0, locals := 0 } : Room) #[(.ref (w 2)), (.int (u1 % (4 : Int32)))] h0 (OP (some (.int (1 : Int32))) n0 h0) := by
  refine MetFree.of_bodySF (plainFor_of_name pn_com_example_licon_licon_search_Operator) hisR ?_
  intro p e s m args below meth c s₁ Bd hml0 hP hK
  obtain ⟨rfl, hZ, hh⟩ := hP
  have hx := Bd.exec
  have hby := Bd.bytes
  have hml : c.maxLocals = 2 := hml0
  have hown : s.vm.findClass "com/example/licon/licon/search/Operator" = some m.cls := findClass_of_methodNamed Bd.named
  have X0 : Stand p l e ({ frames := 0, cells := 0, slots := 0, locals := 0 } : Room) s m #[(.ref (w 2)), (.int (u1 % (4 : Int32)))] below meth c s₁ [] 0 0 := Stand.of_body Bd
  have e0 : s₁.heap = h0 := by rw [← hh, Bd.state]; rfl
  have N0 := Fr.nil n0
  have pre0 : ∀ t, Steps p.tables e below (s₁.setTop (mkF m 0 #[.val (.ref (w 2)), .val (.int (u1 % (4 : Int32)))] [])) t → Steps p.tables e below (s₁.setTop (entryFrame m #[(.ref (w 2)), (.int (u1 % (4 : Int32)))] 2)) t := fun t k => castTop (by first | rfl | simp [entryFrame, mkF, argsToLocals, Value.category]) k
  obtain ⟨T1, X1, e1, st1⟩ := getF X0 hx hZ hown (host := "") (Or.inl (hw _ (List.mem_of_getElem? (i := 12) rfl))) Via.refl e0 K.2.2.2.2.2.2.2.2.2.2.2.2.2.2.2.2.2.2.2.1 (g := (mkF m 2 #[.val (.ref (w 2)), .val (.int (u1 % (4 : Int32)))] [(.ref (w 2)), (.int (u1 % (4 : Int32)))])) rfl rfl (hb hby d_prog_9_method_4_code_2)
  obtain ⟨T2, X2, e2, st2⟩ := getF X1 hx hZ hown (host := "") (Or.inl (hw _ (List.mem_of_getElem? (i := 14) rfl))) Via.refl e1 K.2.2.2.2.2.2.2.2.2.2.2.2.2.2.2.2.2.2.2.2.1 (g := (mkF m 10 #[.val (.ref (w 2)), .val (.int (u1 % (4 : Int32)))] [(.ref (w 2)), (.int (u1 % (4 : Int32)))])) rfl rfl (hb hby d_prog_9_method_4_code_10)
  obtain ⟨fs, hr, hrun, hended, hW, hsame⟩ := X2.leave (v := (some (.int (1 : Int32)))) (fun h => by rw [Bd.returns] at h; cases h)
  refine ⟨_, _, pre0 _ ?_, hrun, hended, _, _, rfl, ?_, ⟨_, rfl⟩, hW, hsame.mono (by decide) (by decide)⟩
  · show Steps p.tables e below (s₁.setTop (mkF m 0 #[.val (.ref (w 2)), .val (.int (u1 % (4 : Int32)))] [])) _
    refine XS.iloadN X0.here hx rfl (hb hby d_prog_9_method_4_code_0) rfl ?_
    refine XS.aloadN X0.here hx rfl (hb hby d_prog_9_method_4_code_1) rfl rfl ?_
    refine st1 _ ?_
    refine XS.icmpNo X1.here hx rfl (hb hby d_prog_9_method_4_code_5) rfl (flt (by have z0 := Int32.lt_iff_toInt_lt.mp hf23; have l0 : (0 : Int32).toInt = 0 := rfl; have l1 : (1 : Int32).toInt = 1 := rfl; have r0 := rng32 (u1 % (4 : Int32)); exact fun hh => absurd (Int32.lt_iff_toInt_lt.mp hh) (by omega) : ¬ ((u1 % (4 : Int32)) < (1 : Int32)))).1 ?_
    show Steps p.tables e below (T1.setTop (mkF m 8 #[.val (.ref (w 2)), .val (.int (u1 % (4 : Int32)))] [])) _
    refine XS.iloadN X1.here hx rfl (hb hby d_prog_9_method_4_code_8) rfl ?_
    refine XS.aloadN X1.here hx rfl (hb hby d_prog_9_method_4_code_9) rfl rfl ?_
    refine st2 _ ?_
    refine XS.icmpNo X2.here hx rfl (hb hby d_prog_9_method_4_code_13) rfl (flt (by have z0 := Int32.lt_iff_toInt_lt.mp hf23; have l0 : (0 : Int32).toInt = 0 := rfl; have l1 : (2147483647 : Int32).toInt = 2147483647 := rfl; have r0 := rng32 (u1 % (4 : Int32)); exact fun hh => absurd (Int32.lt_iff_toInt_lt.mp hh) (by omega) : ¬ ((2147483647 : Int32) < (u1 % (4 : Int32))))).2.2.1 ?_
    show Steps p.tables e below (T2.setTop (mkF m 16 #[.val (.ref (w 2)), .val (.int (u1 % (4 : Int32)))] [])) _
    refine XS.iconst X2.here hx rfl (hb hby d_prog_9_method_4_code_16) ?_
    refine XS.goto X2.here hx rfl (pc0 := 17) (pc' := 21) rfl (hb hby d_prog_9_method_4_code_17) (by decide) (by decide) ?_
    show Steps p.tables e below (T2.setTop (mkF m 21 #[.val (.ref (w 2)), .val (.int (u1 % (4 : Int32)))] [(.int (1 : Int32))])) _
    exact retN X2 hx (t := .boolean) Bd.returns (by simp) (hb hby d_prog_9_method_4_code_21) hr
  · exact ⟨rfl, N0, e2⟩
set_option maxRecDepth 65536 in
set_option maxHeartbeats 40000000 in
theorem rm0_59 (l : Launch) (Z : State) (a0 : Array Value) (hw : ∀ d ∈ tables_1, d.before a0 Z = true) (w : Nat → Addr) (h0 : Heap) (n0 : Nat) (Z0 : n0 ≤ h0.size) (K : Kon Z h0 w) (u0 u1 u2 : Int32) (hf21 : ¬ ((u2 &&& (1 : Int32)) = (0 : Int32))) (hf23 : (0 : Int32) < (u1 % (4 : Int32))) (hk0 : (u0 &&& (7 : Int32)) = (4 : Int32)) :
    OM l Z x code maxLocals ret tables_1 room_1 #[(.int u0), (.int u1), (.int u2)] h0 (OP (some (.int (1 : Int32))) n0 h0) := by
  refine MetFree.of_bodySF (plainFor_of_name pn_com_example_licon_licon_search_OperatorTakesPinLaw) hisR ?_
  intro p e s m args below meth c s₁ Bd hml0 hP hK
  obtain ⟨rfl, hZ, hh⟩ := hP
  have hx := Bd.exec
  have hby := Bd.bytes
  have hml : c.maxLocals = 7 := hml0
  have hown : s.vm.findClass "com/example/licon/licon/search/OperatorTakesPinLaw" = some m.cls := findClass_of_methodNamed Bd.named
  have X0 : Stand p l e room_1 s m #[(.int u0), (.int u1), (.int u2)] below meth c s₁ [] 0 0 := Stand.of_body Bd
  have e0 : s₁.heap = h0 := by rw [← hh, Bd.state]; rfl
  have N0 := Fr.nil n0
  have pre0 : ∀ t, Steps p.tables e below (s₁.setTop (mkF m 0 #[.val (.int u0), .val (.int u1), .val (.int u2), .unset, .unset, .unset, .unset] [])) t → Steps p.tables e below (s₁.setTop (entryFrame m #[(.int u0), (.int u1), (.int u2)] maxLocals)) t := fun t k => castTop (by first | rfl | simp [entryFrame, mkF, argsToLocals, Value.category, maxLocals]) k
  obtain ⟨_, _, ⟨T1, L1, k1, n1⟩, -, X1, ⟨Lc1, hQ1, l1, y1, z1⟩, st1⟩ := Jvm.LawKit.callS X0 hx (y := (⟨"com/example/licon/licon/search/OperatorTakesPinLaw", "pick", "(I)Lcom/example/licon/licon/search/Operator;"⟩ : MethodName)) hown (mvT hZ (hw _ (List.mem_of_getElem? (i := 0) rfl))) (mvT hZ (hw _ (List.mem_of_getElem? (i := 1) rfl))) (mvT hZ (hw _ (List.mem_of_getElem? (i := 2) rfl))) (mvT hZ (hw _ (List.mem_of_getElem? (i := 3) rfl))) (by decide) (backOf (W := 0) (rm_pick_53 l Z a0 hw w h0 n0 Z0 K u0 u1 u2) hZ (hw _ (List.mem_of_getElem? (i := 3) rfl)) (hw _ (List.mem_of_getElem? (i := 2) rfl)) (by decide) (by decide)) (g := (mkF m 21 #[.val (.int u0), .val (.int u1), .val (.int u2), .val (.int (4 : Int32)), .val (.int (u1 % (4 : Int32))), .unset, .unset] [(.int (4 : Int32))])) rfl (by rw [hml]; rfl) (argsL := [(.int (4 : Int32))]) (rest := []) (lenOf pd_28I29Lcom2fexample2flicon2flicon2fsearch2fOperator3b rfl) rfl (by show 2 * 0 + _ ≤ _; exact Nat.le_of_eq rfl) (hb hby at_21) (fun _ _ => ⟨rfl, e0, (by decide : 0 + 0 ≤ _), (by decide : 0 + 0 ≤ _)⟩)
  dsimp only [Pt.U, Pt.locs, Pt.cells, Pt.slots] at X1 l1 y1 z1 st1 hQ1
  subst l1 y1 z1
  obtain ⟨rfl, N1q, e1⟩ := hQ1
  have N1 := Fr.app N0 N1q
  obtain ⟨cq2, kq2, qa2, qb2, qc2⟩ := isOf hZ e1 K.2.2.2.2.2.1
  obtain ⟨_, _, ⟨T2, L2, k2, n2⟩, -, X2, ⟨Lc2, hQ2, l2, y2, z2⟩, st2⟩ := X1.virtualBack hx (y := (⟨"com/example/licon/licon/search/Operator", "takes", "(I)Z"⟩ : MethodName)) (z := (⟨"com/example/licon/licon/search/Operator", "takes", "(I)Z"⟩ : MethodName)) hown (mvT hZ (hw _ (List.mem_of_getElem? (i := 7) rfl))) (mvT hZ (hw _ (List.mem_of_getElem? (i := 8) rfl))) (notFace_of_selects (args := #[]) (mvT hZ (hw _ (List.mem_of_getElem? (i := 10) rfl)))) (mvT hZ (hw _ (List.mem_of_getElem? (i := 10) rfl))) (mvT hZ (hw _ (List.mem_of_getElem? (i := 9) rfl))) (by decide) (backOf (W := 0) (rm_takes_58 l Z a0 hw w h0 n0 Z0 K u0 u1 u2 hf23) hZ (hw _ (List.mem_of_getElem? (i := 11) rfl)) (hw _ (List.mem_of_getElem? (i := 5) rfl)) (by decide) (by decide)) qa2 qc2 (g := (mkF m 84 #[.val (.int u0), .val (.int u1), .val (.int u2), .val (.int (4 : Int32)), .val (.int (u1 % (4 : Int32))), .val (.ref (w 2)), .val (.int (1 : Int32))] [(.int (u1 % (4 : Int32))), (.ref (w 2))])) rfl (by rw [hml]; rfl) (Steps.refl _) (argsL := [(.int (u1 % (4 : Int32)))]) (rest := []) (lenOf pd_28I29Z rfl) rfl (by show 2 * 0 + _ ≤ _; exact Nat.le_of_eq rfl) (hb hby at_84) (fun _ _ => ⟨rfl, e1, (by decide : 0 + 0 ≤ _), (by decide : 0 + 0 ≤ _)⟩)
  dsimp only [Pt.U, Pt.locs, Pt.cells, Pt.slots] at X2 l2 y2 z2 st2 hQ2
  subst l2 y2 z2
  obtain ⟨rfl, N2q, e2⟩ := hQ2
  have N2 := Fr.app N1 N2q
  obtain ⟨fs, hr, hrun, hended, hW, hsame⟩ := X2.leave (v := (some (.int (1 : Int32)))) (fun h => by rw [Bd.returns] at h; cases h)
  refine ⟨_, _, pre0 _ ?_, hrun, hended, _, _, rfl, ?_, ⟨_, rfl⟩, hW, hsame.mono (by decide) (by decide)⟩
  · show Steps p.tables e below (s₁.setTop (mkF m 0 #[.val (.int u0), .val (.int u1), .val (.int u2), .unset, .unset, .unset, .unset] [])) _
    refine XS.iloadN X0.here hx rfl (hb hby at_0) rfl ?_
    refine XS.bipush X0.here hx rfl (hb hby at_1) ?_
    refine XS.iand X0.here hx rfl (hb hby at_3) rfl ?_
    show Steps p.tables e below (s₁.setTop (mkF m 4 #[.val (.int u0), .val (.int u1), .val (.int u2), .unset, .unset, .unset, .unset] [(.int (u0 &&& (7 : Int32)))])) _
    rw [hk0]
    show Steps p.tables e below (s₁.setTop (mkF m 4 #[.val (.int u0), .val (.int u1), .val (.int u2), .unset, .unset, .unset, .unset] [(.int (4 : Int32))])) _
    refine XS.istoreN X0.here hx rfl (hb hby at_4) rfl (l' := #[.val (.int u0), .val (.int u1), .val (.int u2), .val (.int (4 : Int32)), .unset, .unset, .unset]) rfl ?_
    refine XS.iloadN X0.here hx rfl (hb hby at_5) rfl ?_
    refine XS.iconst X0.here hx rfl (hb hby at_6) ?_
    refine XS.iand X0.here hx rfl (hb hby at_7) rfl ?_
    show Steps p.tables e below (s₁.setTop (mkF m 8 #[.val (.int u0), .val (.int u1), .val (.int u2), .val (.int (4 : Int32)), .unset, .unset, .unset] [(.int (u2 &&& (1 : Int32)))])) _
    refine XS.ifNo X0.here hx rfl (hb hby at_8) rfl ((if0 _ _).trans (feq hf21).1) ?_
    refine XS.iloadN X0.here hx rfl (hb hby at_11) rfl ?_
    refine XS.iconst X0.here hx rfl (hb hby at_12) ?_
    refine iremM X0 hx rfl (hb hby at_13) rfl (by decide : ¬ ((4 : Int32) = (0 : Int32))) ?_
    show Steps p.tables e below (s₁.setTop (mkF m 14 #[.val (.int u0), .val (.int u1), .val (.int u2), .val (.int (4 : Int32)), .unset, .unset, .unset] [(.int (u1 % (4 : Int32)))])) _
    refine XS.goto X0.here hx rfl (pc0 := 14) (pc' := 18) rfl (hb hby at_14) (by decide) (by decide) ?_
    refine XS.istore X0.here hx rfl (hb hby at_18) rfl (l' := #[.val (.int u0), .val (.int u1), .val (.int u2), .val (.int (4 : Int32)), .val (.int (u1 % (4 : Int32))), .unset, .unset]) rfl ?_
    refine XS.iloadN X0.here hx rfl (hb hby at_20) rfl ?_
    refine st1 _ ?_
    show Steps p.tables e below (T1.setTop (mkF m 24 #[.val (.int u0), .val (.int u1), .val (.int u2), .val (.int (4 : Int32)), .val (.int (u1 % (4 : Int32))), .unset, .unset] [(.ref (w 2))])) _
    refine XS.astore X1.here hx rfl (hb hby at_24) rfl rfl (l' := #[.val (.int u0), .val (.int u1), .val (.int u2), .val (.int (4 : Int32)), .val (.int (u1 % (4 : Int32))), .val (.ref (w 2)), .unset]) rfl ?_
    refine XS.iloadN X1.here hx rfl (hb hby at_26) rfl ?_
    refine XS.iconst X1.here hx rfl (hb hby at_27) ?_
    refine XS.icmpYes X1.here hx rfl (pc0 := 28) (pc' := 47) rfl (hb hby at_28) rfl (flt (by decide : ¬ ((4 : Int32) < (4 : Int32)))).2.1 (by decide) (by decide) ?_
    show Steps p.tables e below (T1.setTop (mkF m 47 #[.val (.int u0), .val (.int u1), .val (.int u2), .val (.int (4 : Int32)), .val (.int (u1 % (4 : Int32))), .val (.ref (w 2)), .unset] [])) _
    refine XS.iloadN X1.here hx rfl (hb hby at_47) rfl ?_
    refine XS.bipush X1.here hx rfl (hb hby at_48) ?_
    refine XS.icmpNo X1.here hx rfl (hb hby at_50) rfl (tlt (by decide : (4 : Int32) < (6 : Int32))).2.1 ?_
    refine XS.iload X1.here hx rfl (hb hby at_53) rfl ?_
    show Steps p.tables e below (T1.setTop (mkF m 55 #[.val (.int u0), .val (.int u1), .val (.int u2), .val (.int (4 : Int32)), .val (.int (u1 % (4 : Int32))), .val (.ref (w 2)), .unset] [(.int (u1 % (4 : Int32)))])) _
    refine XS.ifNo X1.here hx rfl (hb hby at_55) rfl ((if0 _ _).trans (tlt hf23).2.2.2) ?_
    refine XS.iconst X1.here hx rfl (hb hby at_58) ?_
    refine XS.goto X1.here hx rfl (pc0 := 59) (pc' := 63) rfl (hb hby at_59) (by decide) (by decide) ?_
    refine XS.istore X1.here hx rfl (hb hby at_63) rfl (l' := #[.val (.int u0), .val (.int u1), .val (.int u2), .val (.int (4 : Int32)), .val (.int (u1 % (4 : Int32))), .val (.ref (w 2)), .val (.int (1 : Int32))]) rfl ?_
    show Steps p.tables e below (T1.setTop (mkF m 65 #[.val (.int u0), .val (.int u1), .val (.int u2), .val (.int (4 : Int32)), .val (.int (u1 % (4 : Int32))), .val (.ref (w 2)), .val (.int (1 : Int32))] [])) _
    refine XS.goto X1.here hx rfl (pc0 := 65) (pc' := 80) rfl (hb hby at_65) (by decide) (by decide) ?_
    refine XS.aload X1.here hx rfl (hb hby at_80) rfl rfl ?_
    refine XS.iload X1.here hx rfl (hb hby at_82) rfl ?_
    refine st2.trans ?_
    show Steps p.tables e below (T2.setTop (mkF m 87 #[.val (.int u0), .val (.int u1), .val (.int u2), .val (.int (4 : Int32)), .val (.int (u1 % (4 : Int32))), .val (.ref (w 2)), .val (.int (1 : Int32))] [(.int (1 : Int32))])) _
    refine XS.iload X2.here hx rfl (hb hby at_87) rfl ?_
    refine XS.icmpNo X2.here hx rfl (hb hby at_89) rfl (teq (by decide : (1 : Int32) = (1 : Int32))).2 ?_
    refine XS.iconst X2.here hx rfl (hb hby at_92) ?_
    refine XS.goto X2.here hx rfl (pc0 := 93) (pc' := 97) rfl (hb hby at_93) (by decide) (by decide) ?_
    show Steps p.tables e below (T2.setTop (mkF m 97 #[.val (.int u0), .val (.int u1), .val (.int u2), .val (.int (4 : Int32)), .val (.int (u1 % (4 : Int32))), .val (.ref (w 2)), .val (.int (1 : Int32))] [(.int (1 : Int32))])) _
    exact retN X2 hx (t := .boolean) Bd.returns (by simp) (hb hby at_97) hr
  · exact ⟨rfl, N2, e2⟩
set_option maxRecDepth 65536 in
set_option maxHeartbeats 40000000 in
theorem rm_takes_60 (l : Launch) (Z : State) (a0 : Array Value) (hw : ∀ d ∈ tables_1, d.before a0 Z = true) (w : Nat → Addr) (h0 : Heap) (n0 : Nat) (Z0 : n0 ≤ h0.size) (K : Kon Z h0 w) (u0 u1 u2 : Int32) (hf23 : ¬ ((0 : Int32) < (u1 % (4 : Int32)))) :
    OM l Z (⟨"com/example/licon/licon/search/Operator", "takes", "(I)Z"⟩ : MethodName) prog_9_method_4_code 2 (some .boolean) [] ({ frames := 0, cells := 0, slots := 0, locals := 0 } : Room) #[(.ref (w 2)), (.int (u1 % (4 : Int32)))] h0 (OP (some (.int (0 : Int32))) n0 h0) := by
  refine MetFree.of_bodySF (plainFor_of_name pn_com_example_licon_licon_search_Operator) hisR ?_
  intro p e s m args below meth c s₁ Bd hml0 hP hK
  obtain ⟨rfl, hZ, hh⟩ := hP
  have hx := Bd.exec
  have hby := Bd.bytes
  have hml : c.maxLocals = 2 := hml0
  have hown : s.vm.findClass "com/example/licon/licon/search/Operator" = some m.cls := findClass_of_methodNamed Bd.named
  have X0 : Stand p l e ({ frames := 0, cells := 0, slots := 0, locals := 0 } : Room) s m #[(.ref (w 2)), (.int (u1 % (4 : Int32)))] below meth c s₁ [] 0 0 := Stand.of_body Bd
  have e0 : s₁.heap = h0 := by rw [← hh, Bd.state]; rfl
  have N0 := Fr.nil n0
  have pre0 : ∀ t, Steps p.tables e below (s₁.setTop (mkF m 0 #[.val (.ref (w 2)), .val (.int (u1 % (4 : Int32)))] [])) t → Steps p.tables e below (s₁.setTop (entryFrame m #[(.ref (w 2)), (.int (u1 % (4 : Int32)))] 2)) t := fun t k => castTop (by first | rfl | simp [entryFrame, mkF, argsToLocals, Value.category]) k
  obtain ⟨T1, X1, e1, st1⟩ := getF X0 hx hZ hown (host := "") (Or.inl (hw _ (List.mem_of_getElem? (i := 12) rfl))) Via.refl e0 K.2.2.2.2.2.2.2.2.2.2.2.2.2.2.2.2.2.2.2.1 (g := (mkF m 2 #[.val (.ref (w 2)), .val (.int (u1 % (4 : Int32)))] [(.ref (w 2)), (.int (u1 % (4 : Int32)))])) rfl rfl (hb hby d_prog_9_method_4_code_2)
  obtain ⟨fs, hr, hrun, hended, hW, hsame⟩ := X1.leave (v := (some (.int (0 : Int32)))) (fun h => by rw [Bd.returns] at h; cases h)
  refine ⟨_, _, pre0 _ ?_, hrun, hended, _, _, rfl, ?_, ⟨_, rfl⟩, hW, hsame.mono (by decide) (by decide)⟩
  · show Steps p.tables e below (s₁.setTop (mkF m 0 #[.val (.ref (w 2)), .val (.int (u1 % (4 : Int32)))] [])) _
    refine XS.iloadN X0.here hx rfl (hb hby d_prog_9_method_4_code_0) rfl ?_
    refine XS.aloadN X0.here hx rfl (hb hby d_prog_9_method_4_code_1) rfl rfl ?_
    refine st1 _ ?_
    refine XS.icmpYes X1.here hx rfl (pc0 := 5) (pc' := 20) rfl (hb hby d_prog_9_method_4_code_5) rfl (tlt (by have z0 := mt Int32.lt_iff_toInt_lt.mpr hf23; have l0 : (0 : Int32).toInt = 0 := rfl; have l1 : (1 : Int32).toInt = 1 := rfl; have r0 := rng32 (u1 % (4 : Int32)); exact Int32.lt_iff_toInt_lt.mpr (by omega) : (u1 % (4 : Int32)) < (1 : Int32))).1 (by decide) (by decide) ?_
    show Steps p.tables e below (T1.setTop (mkF m 20 #[.val (.ref (w 2)), .val (.int (u1 % (4 : Int32)))] [])) _
    refine XS.iconst X1.here hx rfl (hb hby d_prog_9_method_4_code_20) ?_
    show Steps p.tables e below (T1.setTop (mkF m 21 #[.val (.ref (w 2)), .val (.int (u1 % (4 : Int32)))] [(.int (0 : Int32))])) _
    exact retN X1 hx (t := .boolean) Bd.returns (by simp) (hb hby d_prog_9_method_4_code_21) hr
  · exact ⟨rfl, N0, e1⟩
set_option maxRecDepth 65536 in
set_option maxHeartbeats 40000000 in
theorem rm0_61 (l : Launch) (Z : State) (a0 : Array Value) (hw : ∀ d ∈ tables_1, d.before a0 Z = true) (w : Nat → Addr) (h0 : Heap) (n0 : Nat) (Z0 : n0 ≤ h0.size) (K : Kon Z h0 w) (u0 u1 u2 : Int32) (hf21 : ¬ ((u2 &&& (1 : Int32)) = (0 : Int32))) (hf23 : ¬ ((0 : Int32) < (u1 % (4 : Int32)))) (hk0 : (u0 &&& (7 : Int32)) = (4 : Int32)) :
    OM l Z x code maxLocals ret tables_1 room_1 #[(.int u0), (.int u1), (.int u2)] h0 (OP (some (.int (1 : Int32))) n0 h0) := by
  refine MetFree.of_bodySF (plainFor_of_name pn_com_example_licon_licon_search_OperatorTakesPinLaw) hisR ?_
  intro p e s m args below meth c s₁ Bd hml0 hP hK
  obtain ⟨rfl, hZ, hh⟩ := hP
  have hx := Bd.exec
  have hby := Bd.bytes
  have hml : c.maxLocals = 7 := hml0
  have hown : s.vm.findClass "com/example/licon/licon/search/OperatorTakesPinLaw" = some m.cls := findClass_of_methodNamed Bd.named
  have X0 : Stand p l e room_1 s m #[(.int u0), (.int u1), (.int u2)] below meth c s₁ [] 0 0 := Stand.of_body Bd
  have e0 : s₁.heap = h0 := by rw [← hh, Bd.state]; rfl
  have N0 := Fr.nil n0
  have pre0 : ∀ t, Steps p.tables e below (s₁.setTop (mkF m 0 #[.val (.int u0), .val (.int u1), .val (.int u2), .unset, .unset, .unset, .unset] [])) t → Steps p.tables e below (s₁.setTop (entryFrame m #[(.int u0), (.int u1), (.int u2)] maxLocals)) t := fun t k => castTop (by first | rfl | simp [entryFrame, mkF, argsToLocals, Value.category, maxLocals]) k
  obtain ⟨_, _, ⟨T1, L1, k1, n1⟩, -, X1, ⟨Lc1, hQ1, l1, y1, z1⟩, st1⟩ := Jvm.LawKit.callS X0 hx (y := (⟨"com/example/licon/licon/search/OperatorTakesPinLaw", "pick", "(I)Lcom/example/licon/licon/search/Operator;"⟩ : MethodName)) hown (mvT hZ (hw _ (List.mem_of_getElem? (i := 0) rfl))) (mvT hZ (hw _ (List.mem_of_getElem? (i := 1) rfl))) (mvT hZ (hw _ (List.mem_of_getElem? (i := 2) rfl))) (mvT hZ (hw _ (List.mem_of_getElem? (i := 3) rfl))) (by decide) (backOf (W := 0) (rm_pick_53 l Z a0 hw w h0 n0 Z0 K u0 u1 u2) hZ (hw _ (List.mem_of_getElem? (i := 3) rfl)) (hw _ (List.mem_of_getElem? (i := 2) rfl)) (by decide) (by decide)) (g := (mkF m 21 #[.val (.int u0), .val (.int u1), .val (.int u2), .val (.int (4 : Int32)), .val (.int (u1 % (4 : Int32))), .unset, .unset] [(.int (4 : Int32))])) rfl (by rw [hml]; rfl) (argsL := [(.int (4 : Int32))]) (rest := []) (lenOf pd_28I29Lcom2fexample2flicon2flicon2fsearch2fOperator3b rfl) rfl (by show 2 * 0 + _ ≤ _; exact Nat.le_of_eq rfl) (hb hby at_21) (fun _ _ => ⟨rfl, e0, (by decide : 0 + 0 ≤ _), (by decide : 0 + 0 ≤ _)⟩)
  dsimp only [Pt.U, Pt.locs, Pt.cells, Pt.slots] at X1 l1 y1 z1 st1 hQ1
  subst l1 y1 z1
  obtain ⟨rfl, N1q, e1⟩ := hQ1
  have N1 := Fr.app N0 N1q
  obtain ⟨cq2, kq2, qa2, qb2, qc2⟩ := isOf hZ e1 K.2.2.2.2.2.1
  obtain ⟨_, _, ⟨T2, L2, k2, n2⟩, -, X2, ⟨Lc2, hQ2, l2, y2, z2⟩, st2⟩ := X1.virtualBack hx (y := (⟨"com/example/licon/licon/search/Operator", "takes", "(I)Z"⟩ : MethodName)) (z := (⟨"com/example/licon/licon/search/Operator", "takes", "(I)Z"⟩ : MethodName)) hown (mvT hZ (hw _ (List.mem_of_getElem? (i := 7) rfl))) (mvT hZ (hw _ (List.mem_of_getElem? (i := 8) rfl))) (notFace_of_selects (args := #[]) (mvT hZ (hw _ (List.mem_of_getElem? (i := 10) rfl)))) (mvT hZ (hw _ (List.mem_of_getElem? (i := 10) rfl))) (mvT hZ (hw _ (List.mem_of_getElem? (i := 9) rfl))) (by decide) (backOf (W := 0) (rm_takes_60 l Z a0 hw w h0 n0 Z0 K u0 u1 u2 hf23) hZ (hw _ (List.mem_of_getElem? (i := 11) rfl)) (hw _ (List.mem_of_getElem? (i := 5) rfl)) (by decide) (by decide)) qa2 qc2 (g := (mkF m 84 #[.val (.int u0), .val (.int u1), .val (.int u2), .val (.int (4 : Int32)), .val (.int (u1 % (4 : Int32))), .val (.ref (w 2)), .val (.int (0 : Int32))] [(.int (u1 % (4 : Int32))), (.ref (w 2))])) rfl (by rw [hml]; rfl) (Steps.refl _) (argsL := [(.int (u1 % (4 : Int32)))]) (rest := []) (lenOf pd_28I29Z rfl) rfl (by show 2 * 0 + _ ≤ _; exact Nat.le_of_eq rfl) (hb hby at_84) (fun _ _ => ⟨rfl, e1, (by decide : 0 + 0 ≤ _), (by decide : 0 + 0 ≤ _)⟩)
  dsimp only [Pt.U, Pt.locs, Pt.cells, Pt.slots] at X2 l2 y2 z2 st2 hQ2
  subst l2 y2 z2
  obtain ⟨rfl, N2q, e2⟩ := hQ2
  have N2 := Fr.app N1 N2q
  obtain ⟨fs, hr, hrun, hended, hW, hsame⟩ := X2.leave (v := (some (.int (1 : Int32)))) (fun h => by rw [Bd.returns] at h; cases h)
  refine ⟨_, _, pre0 _ ?_, hrun, hended, _, _, rfl, ?_, ⟨_, rfl⟩, hW, hsame.mono (by decide) (by decide)⟩
  · show Steps p.tables e below (s₁.setTop (mkF m 0 #[.val (.int u0), .val (.int u1), .val (.int u2), .unset, .unset, .unset, .unset] [])) _
    refine XS.iloadN X0.here hx rfl (hb hby at_0) rfl ?_
    refine XS.bipush X0.here hx rfl (hb hby at_1) ?_
    refine XS.iand X0.here hx rfl (hb hby at_3) rfl ?_
    show Steps p.tables e below (s₁.setTop (mkF m 4 #[.val (.int u0), .val (.int u1), .val (.int u2), .unset, .unset, .unset, .unset] [(.int (u0 &&& (7 : Int32)))])) _
    rw [hk0]
    show Steps p.tables e below (s₁.setTop (mkF m 4 #[.val (.int u0), .val (.int u1), .val (.int u2), .unset, .unset, .unset, .unset] [(.int (4 : Int32))])) _
    refine XS.istoreN X0.here hx rfl (hb hby at_4) rfl (l' := #[.val (.int u0), .val (.int u1), .val (.int u2), .val (.int (4 : Int32)), .unset, .unset, .unset]) rfl ?_
    refine XS.iloadN X0.here hx rfl (hb hby at_5) rfl ?_
    refine XS.iconst X0.here hx rfl (hb hby at_6) ?_
    refine XS.iand X0.here hx rfl (hb hby at_7) rfl ?_
    show Steps p.tables e below (s₁.setTop (mkF m 8 #[.val (.int u0), .val (.int u1), .val (.int u2), .val (.int (4 : Int32)), .unset, .unset, .unset] [(.int (u2 &&& (1 : Int32)))])) _
    refine XS.ifNo X0.here hx rfl (hb hby at_8) rfl ((if0 _ _).trans (feq hf21).1) ?_
    refine XS.iloadN X0.here hx rfl (hb hby at_11) rfl ?_
    refine XS.iconst X0.here hx rfl (hb hby at_12) ?_
    refine iremM X0 hx rfl (hb hby at_13) rfl (by decide : ¬ ((4 : Int32) = (0 : Int32))) ?_
    show Steps p.tables e below (s₁.setTop (mkF m 14 #[.val (.int u0), .val (.int u1), .val (.int u2), .val (.int (4 : Int32)), .unset, .unset, .unset] [(.int (u1 % (4 : Int32)))])) _
    refine XS.goto X0.here hx rfl (pc0 := 14) (pc' := 18) rfl (hb hby at_14) (by decide) (by decide) ?_
    refine XS.istore X0.here hx rfl (hb hby at_18) rfl (l' := #[.val (.int u0), .val (.int u1), .val (.int u2), .val (.int (4 : Int32)), .val (.int (u1 % (4 : Int32))), .unset, .unset]) rfl ?_
    refine XS.iloadN X0.here hx rfl (hb hby at_20) rfl ?_
    refine st1 _ ?_
    show Steps p.tables e below (T1.setTop (mkF m 24 #[.val (.int u0), .val (.int u1), .val (.int u2), .val (.int (4 : Int32)), .val (.int (u1 % (4 : Int32))), .unset, .unset] [(.ref (w 2))])) _
    refine XS.astore X1.here hx rfl (hb hby at_24) rfl rfl (l' := #[.val (.int u0), .val (.int u1), .val (.int u2), .val (.int (4 : Int32)), .val (.int (u1 % (4 : Int32))), .val (.ref (w 2)), .unset]) rfl ?_
    refine XS.iloadN X1.here hx rfl (hb hby at_26) rfl ?_
    refine XS.iconst X1.here hx rfl (hb hby at_27) ?_
    refine XS.icmpYes X1.here hx rfl (pc0 := 28) (pc' := 47) rfl (hb hby at_28) rfl (flt (by decide : ¬ ((4 : Int32) < (4 : Int32)))).2.1 (by decide) (by decide) ?_
    show Steps p.tables e below (T1.setTop (mkF m 47 #[.val (.int u0), .val (.int u1), .val (.int u2), .val (.int (4 : Int32)), .val (.int (u1 % (4 : Int32))), .val (.ref (w 2)), .unset] [])) _
    refine XS.iloadN X1.here hx rfl (hb hby at_47) rfl ?_
    refine XS.bipush X1.here hx rfl (hb hby at_48) ?_
    refine XS.icmpNo X1.here hx rfl (hb hby at_50) rfl (tlt (by decide : (4 : Int32) < (6 : Int32))).2.1 ?_
    refine XS.iload X1.here hx rfl (hb hby at_53) rfl ?_
    show Steps p.tables e below (T1.setTop (mkF m 55 #[.val (.int u0), .val (.int u1), .val (.int u2), .val (.int (4 : Int32)), .val (.int (u1 % (4 : Int32))), .val (.ref (w 2)), .unset] [(.int (u1 % (4 : Int32)))])) _
    refine XS.ifYes X1.here hx rfl (pc0 := 55) (pc' := 62) rfl (hb hby at_55) rfl ((if0 _ _).trans (flt hf23).2.2.2) (by decide) (by decide) ?_
    refine XS.iconst X1.here hx rfl (hb hby at_62) ?_
    refine XS.istore X1.here hx rfl (hb hby at_63) rfl (l' := #[.val (.int u0), .val (.int u1), .val (.int u2), .val (.int (4 : Int32)), .val (.int (u1 % (4 : Int32))), .val (.ref (w 2)), .val (.int (0 : Int32))]) rfl ?_
    refine XS.goto X1.here hx rfl (pc0 := 65) (pc' := 80) rfl (hb hby at_65) (by decide) (by decide) ?_
    show Steps p.tables e below (T1.setTop (mkF m 80 #[.val (.int u0), .val (.int u1), .val (.int u2), .val (.int (4 : Int32)), .val (.int (u1 % (4 : Int32))), .val (.ref (w 2)), .val (.int (0 : Int32))] [])) _
    refine XS.aload X1.here hx rfl (hb hby at_80) rfl rfl ?_
    refine XS.iload X1.here hx rfl (hb hby at_82) rfl ?_
    refine st2.trans ?_
    refine XS.iload X2.here hx rfl (hb hby at_87) rfl ?_
    show Steps p.tables e below (T2.setTop (mkF m 89 #[.val (.int u0), .val (.int u1), .val (.int u2), .val (.int (4 : Int32)), .val (.int (u1 % (4 : Int32))), .val (.ref (w 2)), .val (.int (0 : Int32))] [(.int (0 : Int32)), (.int (0 : Int32))])) _
    refine XS.icmpNo X2.here hx rfl (hb hby at_89) rfl (teq (by decide : (0 : Int32) = (0 : Int32))).2 ?_
    refine XS.iconst X2.here hx rfl (hb hby at_92) ?_
    refine XS.goto X2.here hx rfl (pc0 := 93) (pc' := 97) rfl (hb hby at_93) (by decide) (by decide) ?_
    show Steps p.tables e below (T2.setTop (mkF m 97 #[.val (.int u0), .val (.int u1), .val (.int u2), .val (.int (4 : Int32)), .val (.int (u1 % (4 : Int32))), .val (.ref (w 2)), .val (.int (0 : Int32))] [(.int (1 : Int32))])) _
    exact retN X2 hx (t := .boolean) Bd.returns (by simp) (hb hby at_97) hr
  · exact ⟨rfl, N2, e2⟩
theorem d_method_3_code_44 : decode method_3_code 44 = .ok (.iload_n 0, 1) := by decide +kernel
theorem d_method_3_code_45 : decode method_3_code 45 = .ok (.iconst 5, 1) := by decide +kernel
theorem d_method_3_code_46 : decode method_3_code 46 = .ok (.if_icmp .ne 7, 3) := by decide +kernel
theorem d_method_3_code_49 : decode method_3_code 49 = .ok (.getstatic 35, 3) := by decide +kernel
theorem d_method_3_code_52 : decode method_3_code 52 = .ok (.areturn, 1) := by decide +kernel
set_option maxRecDepth 65536 in
set_option maxHeartbeats 40000000 in
theorem rm_pick_62 (l : Launch) (Z : State) (a0 : Array Value) (hw : ∀ d ∈ tables_1, d.before a0 Z = true) (w : Nat → Addr) (h0 : Heap) (n0 : Nat) (Z0 : n0 ≤ h0.size) (K : Kon Z h0 w) (u0 u1 u2 : Int32) :
    OM l Z (⟨"com/example/licon/licon/search/OperatorTakesPinLaw", "pick", "(I)Lcom/example/licon/licon/search/Operator;"⟩ : MethodName) method_3_code 1 (some (.object "com/example/licon/licon/search/Operator")) [] ({ frames := 0, cells := 0, slots := 0, locals := 0 } : Room) #[(.int (5 : Int32))] h0 (OP (some (.ref (w 6))) n0 h0) := by
  refine MetFree.of_bodySF (plainFor_of_name pn_com_example_licon_licon_search_OperatorTakesPinLaw) hisR ?_
  intro p e s m args below meth c s₁ Bd hml0 hP hK
  obtain ⟨rfl, hZ, hh⟩ := hP
  have hx := Bd.exec
  have hby := Bd.bytes
  have hml : c.maxLocals = 1 := hml0
  have hown : s.vm.findClass "com/example/licon/licon/search/OperatorTakesPinLaw" = some m.cls := findClass_of_methodNamed Bd.named
  have X0 : Stand p l e ({ frames := 0, cells := 0, slots := 0, locals := 0 } : Room) s m #[(.int (5 : Int32))] below meth c s₁ [] 0 0 := Stand.of_body Bd
  have e0 : s₁.heap = h0 := by rw [← hh, Bd.state]; rfl
  have N0 := Fr.nil n0
  have pre0 : ∀ t, Steps p.tables e below (s₁.setTop (mkF m 0 #[.val (.int (5 : Int32))] [])) t → Steps p.tables e below (s₁.setTop (entryFrame m #[(.int (5 : Int32))] 1)) t := fun t k => castTop (by first | rfl | simp [entryFrame, mkF, argsToLocals, Value.category]) k
  obtain ⟨T1, X1, e1, st1⟩ := getS2 X0 hx hZ hown (host := "") (Or.inl (hw _ (List.mem_of_getElem? (i := 26) rfl))) Via.refl e0 K.2.2.2.2.2.2.2.2.2.2.2.2.1 (g := (mkF m 49 #[.val (.int (5 : Int32))] [])) rfl (hb hby d_method_3_code_49)
  obtain ⟨fs, hr, hrun, hended, hW, hsame⟩ := X1.leave (v := (some (.ref (w 6)))) (fun h => by rw [Bd.returns] at h; cases h)
  refine ⟨_, _, pre0 _ ?_, hrun, hended, _, _, rfl, ?_, ⟨_, rfl⟩, hW, hsame.mono (by decide) (by decide)⟩
  · show Steps p.tables e below (s₁.setTop (mkF m 0 #[.val (.int (5 : Int32))] [])) _
    refine XS.iloadN X0.here hx rfl (hb hby d_method_3_code_0) rfl ?_
    refine XS.ifYes X0.here hx rfl (pc0 := 1) (pc' := 8) rfl (hb hby d_method_3_code_1) rfl ((if0 _ _).trans (feq (by decide : ¬ ((5 : Int32) = (0 : Int32)))).2) (by decide) (by decide) ?_
    refine XS.iloadN X0.here hx rfl (hb hby d_method_3_code_8) rfl ?_
    refine XS.iconst X0.here hx rfl (hb hby d_method_3_code_9) ?_
    show Steps p.tables e below (s₁.setTop (mkF m 10 #[.val (.int (5 : Int32))] [(.int (1 : Int32)), (.int (5 : Int32))])) _
    refine XS.icmpYes X0.here hx rfl (pc0 := 10) (pc' := 17) rfl (hb hby d_method_3_code_10) rfl (feq (by decide : ¬ ((5 : Int32) = (1 : Int32)))).2 (by decide) (by decide) ?_
    refine XS.iloadN X0.here hx rfl (hb hby d_method_3_code_17) rfl ?_
    refine XS.iconst X0.here hx rfl (hb hby d_method_3_code_18) ?_
    refine XS.icmpYes X0.here hx rfl (pc0 := 19) (pc' := 26) rfl (hb hby d_method_3_code_19) rfl (feq (by decide : ¬ ((5 : Int32) = (2 : Int32)))).2 (by decide) (by decide) ?_
    show Steps p.tables e below (s₁.setTop (mkF m 26 #[.val (.int (5 : Int32))] [])) _
    refine XS.iloadN X0.here hx rfl (hb hby d_method_3_code_26) rfl ?_
    refine XS.iconst X0.here hx rfl (hb hby d_method_3_code_27) ?_
    refine XS.icmpYes X0.here hx rfl (pc0 := 28) (pc' := 35) rfl (hb hby d_method_3_code_28) rfl (feq (by decide : ¬ ((5 : Int32) = (3 : Int32)))).2 (by decide) (by decide) ?_
    refine XS.iloadN X0.here hx rfl (hb hby d_method_3_code_35) rfl ?_
    show Steps p.tables e below (s₁.setTop (mkF m 36 #[.val (.int (5 : Int32))] [(.int (5 : Int32))])) _
    refine XS.iconst X0.here hx rfl (hb hby d_method_3_code_36) ?_
    refine XS.icmpYes X0.here hx rfl (pc0 := 37) (pc' := 44) rfl (hb hby d_method_3_code_37) rfl (feq (by decide : ¬ ((5 : Int32) = (4 : Int32)))).2 (by decide) (by decide) ?_
    refine XS.iloadN X0.here hx rfl (hb hby d_method_3_code_44) rfl ?_
    refine XS.iconst X0.here hx rfl (hb hby d_method_3_code_45) ?_
    show Steps p.tables e below (s₁.setTop (mkF m 46 #[.val (.int (5 : Int32))] [(.int (5 : Int32)), (.int (5 : Int32))])) _
    refine XS.icmpNo X0.here hx rfl (hb hby d_method_3_code_46) rfl (teq (by decide : (5 : Int32) = (5 : Int32))).2 ?_
    refine st1 _ ?_
    show Steps p.tables e below (T1.setTop (mkF m 52 #[.val (.int (5 : Int32))] [(.ref (w 6))])) _
    jvm_step X1.here [X1.here.top, hx, (hb hby d_method_3_code_52), X1.method', Bd.returns, Value.isRef, FieldType.isReference]
    first | (intro acts; rw [hr _ acts rfl rfl rfl]) | rw [hr _ _ rfl rfl rfl]
    exact Steps.refl _
  · exact ⟨rfl, N0, e1⟩
set_option maxRecDepth 65536 in
set_option maxHeartbeats 40000000 in
theorem rm_takes_63 (l : Launch) (Z : State) (a0 : Array Value) (hw : ∀ d ∈ tables_1, d.before a0 Z = true) (w : Nat → Addr) (h0 : Heap) (n0 : Nat) (Z0 : n0 ≤ h0.size) (K : Kon Z h0 w) (u0 u1 u2 : Int32) (hf25 : (0 : Int32) < u1) :
    OM l Z (⟨"com/example/licon/licon/search/Operator", "takes", "(I)Z"⟩ : MethodName) prog_9_method_4_code 2 (some .boolean) [] ({ frames := 0, cells := 0, slots := 0, locals := 0 } : Room) #[(.ref (w 6)), (.int u1)] h0 (OP (some (.int (1 : Int32))) n0 h0) := by
  refine MetFree.of_bodySF (plainFor_of_name pn_com_example_licon_licon_search_Operator) hisR ?_
  intro p e s m args below meth c s₁ Bd hml0 hP hK
  obtain ⟨rfl, hZ, hh⟩ := hP
  have hx := Bd.exec
  have hby := Bd.bytes
  have hml : c.maxLocals = 2 := hml0
  have hown : s.vm.findClass "com/example/licon/licon/search/Operator" = some m.cls := findClass_of_methodNamed Bd.named
  have X0 : Stand p l e ({ frames := 0, cells := 0, slots := 0, locals := 0 } : Room) s m #[(.ref (w 6)), (.int u1)] below meth c s₁ [] 0 0 := Stand.of_body Bd
  have e0 : s₁.heap = h0 := by rw [← hh, Bd.state]; rfl
  have N0 := Fr.nil n0
  have pre0 : ∀ t, Steps p.tables e below (s₁.setTop (mkF m 0 #[.val (.ref (w 6)), .val (.int u1)] [])) t → Steps p.tables e below (s₁.setTop (entryFrame m #[(.ref (w 6)), (.int u1)] 2)) t := fun t k => castTop (by first | rfl | simp [entryFrame, mkF, argsToLocals, Value.category]) k
  obtain ⟨T1, X1, e1, st1⟩ := getF X0 hx hZ hown (host := "") (Or.inl (hw _ (List.mem_of_getElem? (i := 12) rfl))) Via.refl e0 K.2.2.2.2.2.2.2.2.2.2.2.2.2.2.2.2.2.2.2.2.2.2.2.2.2.2.2.2.1 (g := (mkF m 2 #[.val (.ref (w 6)), .val (.int u1)] [(.ref (w 6)), (.int u1)])) rfl rfl (hb hby d_prog_9_method_4_code_2)
  obtain ⟨T2, X2, e2, st2⟩ := getF X1 hx hZ hown (host := "") (Or.inl (hw _ (List.mem_of_getElem? (i := 14) rfl))) Via.refl e1 K.2.2.2.2.2.2.2.2.2.2.2.2.2.2.2.2.2.2.2.2.2.2.2.2.2.2.2.2.2.1 (g := (mkF m 10 #[.val (.ref (w 6)), .val (.int u1)] [(.ref (w 6)), (.int u1)])) rfl rfl (hb hby d_prog_9_method_4_code_10)
  obtain ⟨fs, hr, hrun, hended, hW, hsame⟩ := X2.leave (v := (some (.int (1 : Int32)))) (fun h => by rw [Bd.returns] at h; cases h)
  refine ⟨_, _, pre0 _ ?_, hrun, hended, _, _, rfl, ?_, ⟨_, rfl⟩, hW, hsame.mono (by decide) (by decide)⟩
  · show Steps p.tables e below (s₁.setTop (mkF m 0 #[.val (.ref (w 6)), .val (.int u1)] [])) _
    refine XS.iloadN X0.here hx rfl (hb hby d_prog_9_method_4_code_0) rfl ?_
    refine XS.aloadN X0.here hx rfl (hb hby d_prog_9_method_4_code_1) rfl rfl ?_
    refine st1 _ ?_
    refine XS.icmpNo X1.here hx rfl (hb hby d_prog_9_method_4_code_5) rfl (flt (by have z0 := Int32.lt_iff_toInt_lt.mp hf25; have l0 : (0 : Int32).toInt = 0 := rfl; have l1 : (1 : Int32).toInt = 1 := rfl; have r0 := rng32 u1; exact fun hh => absurd (Int32.lt_iff_toInt_lt.mp hh) (by omega) : ¬ (u1 < (1 : Int32)))).1 ?_
    show Steps p.tables e below (T1.setTop (mkF m 8 #[.val (.ref (w 6)), .val (.int u1)] [])) _
    refine XS.iloadN X1.here hx rfl (hb hby d_prog_9_method_4_code_8) rfl ?_
    refine XS.aloadN X1.here hx rfl (hb hby d_prog_9_method_4_code_9) rfl rfl ?_
    refine st2 _ ?_
    refine XS.icmpNo X2.here hx rfl (hb hby d_prog_9_method_4_code_13) rfl (flt (by have z0 := Int32.lt_iff_toInt_lt.mp hf25; have l0 : (0 : Int32).toInt = 0 := rfl; have l1 : (2147483647 : Int32).toInt = 2147483647 := rfl; have r0 := rng32 u1; exact fun hh => absurd (Int32.lt_iff_toInt_lt.mp hh) (by omega) : ¬ ((2147483647 : Int32) < u1))).2.2.1 ?_
    show Steps p.tables e below (T2.setTop (mkF m 16 #[.val (.ref (w 6)), .val (.int u1)] [])) _
    refine XS.iconst X2.here hx rfl (hb hby d_prog_9_method_4_code_16) ?_
    refine XS.goto X2.here hx rfl (pc0 := 17) (pc' := 21) rfl (hb hby d_prog_9_method_4_code_17) (by decide) (by decide) ?_
    show Steps p.tables e below (T2.setTop (mkF m 21 #[.val (.ref (w 6)), .val (.int u1)] [(.int (1 : Int32))])) _
    exact retN X2 hx (t := .boolean) Bd.returns (by simp) (hb hby d_prog_9_method_4_code_21) hr
  · exact ⟨rfl, N0, e2⟩
set_option maxRecDepth 65536 in
set_option maxHeartbeats 40000000 in
theorem rm0_64 (l : Launch) (Z : State) (a0 : Array Value) (hw : ∀ d ∈ tables_1, d.before a0 Z = true) (w : Nat → Addr) (h0 : Heap) (n0 : Nat) (Z0 : n0 ≤ h0.size) (K : Kon Z h0 w) (u0 u1 u2 : Int32) (hf24 : (u2 &&& (1 : Int32)) = (0 : Int32)) (hf25 : (0 : Int32) < u1) (hk0 : (u0 &&& (7 : Int32)) = (5 : Int32)) :
    OM l Z x code maxLocals ret tables_1 room_1 #[(.int u0), (.int u1), (.int u2)] h0 (OP (some (.int (1 : Int32))) n0 h0) := by
  refine MetFree.of_bodySF (plainFor_of_name pn_com_example_licon_licon_search_OperatorTakesPinLaw) hisR ?_
  intro p e s m args below meth c s₁ Bd hml0 hP hK
  obtain ⟨rfl, hZ, hh⟩ := hP
  have hx := Bd.exec
  have hby := Bd.bytes
  have hml : c.maxLocals = 7 := hml0
  have hown : s.vm.findClass "com/example/licon/licon/search/OperatorTakesPinLaw" = some m.cls := findClass_of_methodNamed Bd.named
  have X0 : Stand p l e room_1 s m #[(.int u0), (.int u1), (.int u2)] below meth c s₁ [] 0 0 := Stand.of_body Bd
  have e0 : s₁.heap = h0 := by rw [← hh, Bd.state]; rfl
  have N0 := Fr.nil n0
  have pre0 : ∀ t, Steps p.tables e below (s₁.setTop (mkF m 0 #[.val (.int u0), .val (.int u1), .val (.int u2), .unset, .unset, .unset, .unset] [])) t → Steps p.tables e below (s₁.setTop (entryFrame m #[(.int u0), (.int u1), (.int u2)] maxLocals)) t := fun t k => castTop (by first | rfl | simp [entryFrame, mkF, argsToLocals, Value.category, maxLocals]) k
  obtain ⟨_, _, ⟨T1, L1, k1, n1⟩, -, X1, ⟨Lc1, hQ1, l1, y1, z1⟩, st1⟩ := Jvm.LawKit.callS X0 hx (y := (⟨"com/example/licon/licon/search/OperatorTakesPinLaw", "pick", "(I)Lcom/example/licon/licon/search/Operator;"⟩ : MethodName)) hown (mvT hZ (hw _ (List.mem_of_getElem? (i := 0) rfl))) (mvT hZ (hw _ (List.mem_of_getElem? (i := 1) rfl))) (mvT hZ (hw _ (List.mem_of_getElem? (i := 2) rfl))) (mvT hZ (hw _ (List.mem_of_getElem? (i := 3) rfl))) (by decide) (backOf (W := 0) (rm_pick_62 l Z a0 hw w h0 n0 Z0 K u0 u1 u2) hZ (hw _ (List.mem_of_getElem? (i := 3) rfl)) (hw _ (List.mem_of_getElem? (i := 2) rfl)) (by decide) (by decide)) (g := (mkF m 21 #[.val (.int u0), .val (.int u1), .val (.int u2), .val (.int (5 : Int32)), .val (.int u1), .unset, .unset] [(.int (5 : Int32))])) rfl (by rw [hml]; rfl) (argsL := [(.int (5 : Int32))]) (rest := []) (lenOf pd_28I29Lcom2fexample2flicon2flicon2fsearch2fOperator3b rfl) rfl (by show 2 * 0 + _ ≤ _; exact Nat.le_of_eq rfl) (hb hby at_21) (fun _ _ => ⟨rfl, e0, (by decide : 0 + 0 ≤ _), (by decide : 0 + 0 ≤ _)⟩)
  dsimp only [Pt.U, Pt.locs, Pt.cells, Pt.slots] at X1 l1 y1 z1 st1 hQ1
  subst l1 y1 z1
  obtain ⟨rfl, N1q, e1⟩ := hQ1
  have N1 := Fr.app N0 N1q
  obtain ⟨cq2, kq2, qa2, qb2, qc2⟩ := isOf hZ e1 K.2.2.2.2.2.2.2.2.2.2.2.2.2.1
  obtain ⟨_, _, ⟨T2, L2, k2, n2⟩, -, X2, ⟨Lc2, hQ2, l2, y2, z2⟩, st2⟩ := X1.virtualBack hx (y := (⟨"com/example/licon/licon/search/Operator", "takes", "(I)Z"⟩ : MethodName)) (z := (⟨"com/example/licon/licon/search/Operator", "takes", "(I)Z"⟩ : MethodName)) hown (mvT hZ (hw _ (List.mem_of_getElem? (i := 7) rfl))) (mvT hZ (hw _ (List.mem_of_getElem? (i := 8) rfl))) (notFace_of_selects (args := #[]) (mvT hZ (hw _ (List.mem_of_getElem? (i := 10) rfl)))) (mvT hZ (hw _ (List.mem_of_getElem? (i := 10) rfl))) (mvT hZ (hw _ (List.mem_of_getElem? (i := 9) rfl))) (by decide) (backOf (W := 0) (rm_takes_63 l Z a0 hw w h0 n0 Z0 K u0 u1 u2 hf25) hZ (hw _ (List.mem_of_getElem? (i := 11) rfl)) (hw _ (List.mem_of_getElem? (i := 5) rfl)) (by decide) (by decide)) qa2 qc2 (g := (mkF m 84 #[.val (.int u0), .val (.int u1), .val (.int u2), .val (.int (5 : Int32)), .val (.int u1), .val (.ref (w 6)), .val (.int (1 : Int32))] [(.int u1), (.ref (w 6))])) rfl (by rw [hml]; rfl) (Steps.refl _) (argsL := [(.int u1)]) (rest := []) (lenOf pd_28I29Z rfl) rfl (by show 2 * 0 + _ ≤ _; exact Nat.le_of_eq rfl) (hb hby at_84) (fun _ _ => ⟨rfl, e1, (by decide : 0 + 0 ≤ _), (by decide : 0 + 0 ≤ _)⟩)
  dsimp only [Pt.U, Pt.locs, Pt.cells, Pt.slots] at X2 l2 y2 z2 st2 hQ2
  subst l2 y2 z2
  obtain ⟨rfl, N2q, e2⟩ := hQ2
  have N2 := Fr.app N1 N2q
  obtain ⟨fs, hr, hrun, hended, hW, hsame⟩ := X2.leave (v := (some (.int (1 : Int32)))) (fun h => by rw [Bd.returns] at h; cases h)
  refine ⟨_, _, pre0 _ ?_, hrun, hended, _, _, rfl, ?_, ⟨_, rfl⟩, hW, hsame.mono (by decide) (by decide)⟩
  · show Steps p.tables e below (s₁.setTop (mkF m 0 #[.val (.int u0), .val (.int u1), .val (.int u2), .unset, .unset, .unset, .unset] [])) _
    refine XS.iloadN X0.here hx rfl (hb hby at_0) rfl ?_
    refine XS.bipush X0.here hx rfl (hb hby at_1) ?_
    refine XS.iand X0.here hx rfl (hb hby at_3) rfl ?_
    show Steps p.tables e below (s₁.setTop (mkF m 4 #[.val (.int u0), .val (.int u1), .val (.int u2), .unset, .unset, .unset, .unset] [(.int (u0 &&& (7 : Int32)))])) _
    rw [hk0]
    show Steps p.tables e below (s₁.setTop (mkF m 4 #[.val (.int u0), .val (.int u1), .val (.int u2), .unset, .unset, .unset, .unset] [(.int (5 : Int32))])) _
    refine XS.istoreN X0.here hx rfl (hb hby at_4) rfl (l' := #[.val (.int u0), .val (.int u1), .val (.int u2), .val (.int (5 : Int32)), .unset, .unset, .unset]) rfl ?_
    refine XS.iloadN X0.here hx rfl (hb hby at_5) rfl ?_
    refine XS.iconst X0.here hx rfl (hb hby at_6) ?_
    refine XS.iand X0.here hx rfl (hb hby at_7) rfl ?_
    show Steps p.tables e below (s₁.setTop (mkF m 8 #[.val (.int u0), .val (.int u1), .val (.int u2), .val (.int (5 : Int32)), .unset, .unset, .unset] [(.int (u2 &&& (1 : Int32)))])) _
    refine XS.ifYes X0.here hx rfl (pc0 := 8) (pc' := 17) rfl (hb hby at_8) rfl ((if0 _ _).trans (teq hf24).1) (by decide) (by decide) ?_
    refine XS.iloadN X0.here hx rfl (hb hby at_17) rfl ?_
    refine XS.istore X0.here hx rfl (hb hby at_18) rfl (l' := #[.val (.int u0), .val (.int u1), .val (.int u2), .val (.int (5 : Int32)), .val (.int u1), .unset, .unset]) rfl ?_
    refine XS.iloadN X0.here hx rfl (hb hby at_20) rfl ?_
    show Steps p.tables e below (s₁.setTop (mkF m 21 #[.val (.int u0), .val (.int u1), .val (.int u2), .val (.int (5 : Int32)), .val (.int u1), .unset, .unset] [(.int (5 : Int32))])) _
    refine st1 _ ?_
    refine XS.astore X1.here hx rfl (hb hby at_24) rfl rfl (l' := #[.val (.int u0), .val (.int u1), .val (.int u2), .val (.int (5 : Int32)), .val (.int u1), .val (.ref (w 6)), .unset]) rfl ?_
    refine XS.iloadN X1.here hx rfl (hb hby at_26) rfl ?_
    refine XS.iconst X1.here hx rfl (hb hby at_27) ?_
    show Steps p.tables e below (T1.setTop (mkF m 28 #[.val (.int u0), .val (.int u1), .val (.int u2), .val (.int (5 : Int32)), .val (.int u1), .val (.ref (w 6)), .unset] [(.int (4 : Int32)), (.int (5 : Int32))])) _
    refine XS.icmpYes X1.here hx rfl (pc0 := 28) (pc' := 47) rfl (hb hby at_28) rfl (flt (by decide : ¬ ((5 : Int32) < (4 : Int32)))).2.1 (by decide) (by decide) ?_
    refine XS.iloadN X1.here hx rfl (hb hby at_47) rfl ?_
    refine XS.bipush X1.here hx rfl (hb hby at_48) ?_
    refine XS.icmpNo X1.here hx rfl (hb hby at_50) rfl (tlt (by decide : (5 : Int32) < (6 : Int32))).2.1 ?_
    show Steps p.tables e below (T1.setTop (mkF m 53 #[.val (.int u0), .val (.int u1), .val (.int u2), .val (.int (5 : Int32)), .val (.int u1), .val (.ref (w 6)), .unset] [])) _
    refine XS.iload X1.here hx rfl (hb hby at_53) rfl ?_
    refine XS.ifNo X1.here hx rfl (hb hby at_55) rfl ((if0 _ _).trans (tlt hf25).2.2.2) ?_
    refine XS.iconst X1.here hx rfl (hb hby at_58) ?_
    refine XS.goto X1.here hx rfl (pc0 := 59) (pc' := 63) rfl (hb hby at_59) (by decide) (by decide) ?_
    show Steps p.tables e below (T1.setTop (mkF m 63 #[.val (.int u0), .val (.int u1), .val (.int u2), .val (.int (5 : Int32)), .val (.int u1), .val (.ref (w 6)), .unset] [(.int (1 : Int32))])) _
    refine XS.istore X1.here hx rfl (hb hby at_63) rfl (l' := #[.val (.int u0), .val (.int u1), .val (.int u2), .val (.int (5 : Int32)), .val (.int u1), .val (.ref (w 6)), .val (.int (1 : Int32))]) rfl ?_
    refine XS.goto X1.here hx rfl (pc0 := 65) (pc' := 80) rfl (hb hby at_65) (by decide) (by decide) ?_
    refine XS.aload X1.here hx rfl (hb hby at_80) rfl rfl ?_
    refine XS.iload X1.here hx rfl (hb hby at_82) rfl ?_
    show Steps p.tables e below (T1.setTop (mkF m 84 #[.val (.int u0), .val (.int u1), .val (.int u2), .val (.int (5 : Int32)), .val (.int u1), .val (.ref (w 6)), .val (.int (1 : Int32))] [(.int u1), (.ref (w 6))])) _
    refine st2.trans ?_
    refine XS.iload X2.here hx rfl (hb hby at_87) rfl ?_
    refine XS.icmpNo X2.here hx rfl (hb hby at_89) rfl (teq (by decide : (1 : Int32) = (1 : Int32))).2 ?_
    refine XS.iconst X2.here hx rfl (hb hby at_92) ?_
    show Steps p.tables e below (T2.setTop (mkF m 93 #[.val (.int u0), .val (.int u1), .val (.int u2), .val (.int (5 : Int32)), .val (.int u1), .val (.ref (w 6)), .val (.int (1 : Int32))] [(.int (1 : Int32))])) _
    refine XS.goto X2.here hx rfl (pc0 := 93) (pc' := 97) rfl (hb hby at_93) (by decide) (by decide) ?_
    show Steps p.tables e below (T2.setTop (mkF m 97 #[.val (.int u0), .val (.int u1), .val (.int u2), .val (.int (5 : Int32)), .val (.int u1), .val (.ref (w 6)), .val (.int (1 : Int32))] [(.int (1 : Int32))])) _
    exact retN X2 hx (t := .boolean) Bd.returns (by simp) (hb hby at_97) hr
  · exact ⟨rfl, N2, e2⟩
set_option maxRecDepth 65536 in
set_option maxHeartbeats 40000000 in
theorem rm_takes_65 (l : Launch) (Z : State) (a0 : Array Value) (hw : ∀ d ∈ tables_1, d.before a0 Z = true) (w : Nat → Addr) (h0 : Heap) (n0 : Nat) (Z0 : n0 ≤ h0.size) (K : Kon Z h0 w) (u0 u1 u2 : Int32) (hf25 : ¬ ((0 : Int32) < u1)) :
    OM l Z (⟨"com/example/licon/licon/search/Operator", "takes", "(I)Z"⟩ : MethodName) prog_9_method_4_code 2 (some .boolean) [] ({ frames := 0, cells := 0, slots := 0, locals := 0 } : Room) #[(.ref (w 6)), (.int u1)] h0 (OP (some (.int (0 : Int32))) n0 h0) := by
  refine MetFree.of_bodySF (plainFor_of_name pn_com_example_licon_licon_search_Operator) hisR ?_
  intro p e s m args below meth c s₁ Bd hml0 hP hK
  obtain ⟨rfl, hZ, hh⟩ := hP
  have hx := Bd.exec
  have hby := Bd.bytes
  have hml : c.maxLocals = 2 := hml0
  have hown : s.vm.findClass "com/example/licon/licon/search/Operator" = some m.cls := findClass_of_methodNamed Bd.named
  have X0 : Stand p l e ({ frames := 0, cells := 0, slots := 0, locals := 0 } : Room) s m #[(.ref (w 6)), (.int u1)] below meth c s₁ [] 0 0 := Stand.of_body Bd
  have e0 : s₁.heap = h0 := by rw [← hh, Bd.state]; rfl
  have N0 := Fr.nil n0
  have pre0 : ∀ t, Steps p.tables e below (s₁.setTop (mkF m 0 #[.val (.ref (w 6)), .val (.int u1)] [])) t → Steps p.tables e below (s₁.setTop (entryFrame m #[(.ref (w 6)), (.int u1)] 2)) t := fun t k => castTop (by first | rfl | simp [entryFrame, mkF, argsToLocals, Value.category]) k
  obtain ⟨T1, X1, e1, st1⟩ := getF X0 hx hZ hown (host := "") (Or.inl (hw _ (List.mem_of_getElem? (i := 12) rfl))) Via.refl e0 K.2.2.2.2.2.2.2.2.2.2.2.2.2.2.2.2.2.2.2.2.2.2.2.2.2.2.2.2.1 (g := (mkF m 2 #[.val (.ref (w 6)), .val (.int u1)] [(.ref (w 6)), (.int u1)])) rfl rfl (hb hby d_prog_9_method_4_code_2)
  obtain ⟨fs, hr, hrun, hended, hW, hsame⟩ := X1.leave (v := (some (.int (0 : Int32)))) (fun h => by rw [Bd.returns] at h; cases h)
  refine ⟨_, _, pre0 _ ?_, hrun, hended, _, _, rfl, ?_, ⟨_, rfl⟩, hW, hsame.mono (by decide) (by decide)⟩
  · show Steps p.tables e below (s₁.setTop (mkF m 0 #[.val (.ref (w 6)), .val (.int u1)] [])) _
    refine XS.iloadN X0.here hx rfl (hb hby d_prog_9_method_4_code_0) rfl ?_
    refine XS.aloadN X0.here hx rfl (hb hby d_prog_9_method_4_code_1) rfl rfl ?_
    refine st1 _ ?_
    refine XS.icmpYes X1.here hx rfl (pc0 := 5) (pc' := 20) rfl (hb hby d_prog_9_method_4_code_5) rfl (tlt (by have z0 := mt Int32.lt_iff_toInt_lt.mpr hf25; have l0 : (0 : Int32).toInt = 0 := rfl; have l1 : (1 : Int32).toInt = 1 := rfl; have r0 := rng32 u1; exact Int32.lt_iff_toInt_lt.mpr (by omega) : u1 < (1 : Int32))).1 (by decide) (by decide) ?_
    show Steps p.tables e below (T1.setTop (mkF m 20 #[.val (.ref (w 6)), .val (.int u1)] [])) _
    refine XS.iconst X1.here hx rfl (hb hby d_prog_9_method_4_code_20) ?_
    show Steps p.tables e below (T1.setTop (mkF m 21 #[.val (.ref (w 6)), .val (.int u1)] [(.int (0 : Int32))])) _
    exact retN X1 hx (t := .boolean) Bd.returns (by simp) (hb hby d_prog_9_method_4_code_21) hr
  · exact ⟨rfl, N0, e1⟩
set_option maxRecDepth 65536 in
set_option maxHeartbeats 40000000 in
theorem rm0_66 (l : Launch) (Z : State) (a0 : Array Value) (hw : ∀ d ∈ tables_1, d.before a0 Z = true) (w : Nat → Addr) (h0 : Heap) (n0 : Nat) (Z0 : n0 ≤ h0.size) (K : Kon Z h0 w) (u0 u1 u2 : Int32) (hf24 : (u2 &&& (1 : Int32)) = (0 : Int32)) (hf25 : ¬ ((0 : Int32) < u1)) (hk0 : (u0 &&& (7 : Int32)) = (5 : Int32)) :
    OM l Z x code maxLocals ret tables_1 room_1 #[(.int u0), (.int u1), (.int u2)] h0 (OP (some (.int (1 : Int32))) n0 h0) := by
  refine MetFree.of_bodySF (plainFor_of_name pn_com_example_licon_licon_search_OperatorTakesPinLaw) hisR ?_
  intro p e s m args below meth c s₁ Bd hml0 hP hK
  obtain ⟨rfl, hZ, hh⟩ := hP
  have hx := Bd.exec
  have hby := Bd.bytes
  have hml : c.maxLocals = 7 := hml0
  have hown : s.vm.findClass "com/example/licon/licon/search/OperatorTakesPinLaw" = some m.cls := findClass_of_methodNamed Bd.named
  have X0 : Stand p l e room_1 s m #[(.int u0), (.int u1), (.int u2)] below meth c s₁ [] 0 0 := Stand.of_body Bd
  have e0 : s₁.heap = h0 := by rw [← hh, Bd.state]; rfl
  have N0 := Fr.nil n0
  have pre0 : ∀ t, Steps p.tables e below (s₁.setTop (mkF m 0 #[.val (.int u0), .val (.int u1), .val (.int u2), .unset, .unset, .unset, .unset] [])) t → Steps p.tables e below (s₁.setTop (entryFrame m #[(.int u0), (.int u1), (.int u2)] maxLocals)) t := fun t k => castTop (by first | rfl | simp [entryFrame, mkF, argsToLocals, Value.category, maxLocals]) k
  obtain ⟨_, _, ⟨T1, L1, k1, n1⟩, -, X1, ⟨Lc1, hQ1, l1, y1, z1⟩, st1⟩ := Jvm.LawKit.callS X0 hx (y := (⟨"com/example/licon/licon/search/OperatorTakesPinLaw", "pick", "(I)Lcom/example/licon/licon/search/Operator;"⟩ : MethodName)) hown (mvT hZ (hw _ (List.mem_of_getElem? (i := 0) rfl))) (mvT hZ (hw _ (List.mem_of_getElem? (i := 1) rfl))) (mvT hZ (hw _ (List.mem_of_getElem? (i := 2) rfl))) (mvT hZ (hw _ (List.mem_of_getElem? (i := 3) rfl))) (by decide) (backOf (W := 0) (rm_pick_62 l Z a0 hw w h0 n0 Z0 K u0 u1 u2) hZ (hw _ (List.mem_of_getElem? (i := 3) rfl)) (hw _ (List.mem_of_getElem? (i := 2) rfl)) (by decide) (by decide)) (g := (mkF m 21 #[.val (.int u0), .val (.int u1), .val (.int u2), .val (.int (5 : Int32)), .val (.int u1), .unset, .unset] [(.int (5 : Int32))])) rfl (by rw [hml]; rfl) (argsL := [(.int (5 : Int32))]) (rest := []) (lenOf pd_28I29Lcom2fexample2flicon2flicon2fsearch2fOperator3b rfl) rfl (by show 2 * 0 + _ ≤ _; exact Nat.le_of_eq rfl) (hb hby at_21) (fun _ _ => ⟨rfl, e0, (by decide : 0 + 0 ≤ _), (by decide : 0 + 0 ≤ _)⟩)
  dsimp only [Pt.U, Pt.locs, Pt.cells, Pt.slots] at X1 l1 y1 z1 st1 hQ1
  subst l1 y1 z1
  obtain ⟨rfl, N1q, e1⟩ := hQ1
  have N1 := Fr.app N0 N1q
  obtain ⟨cq2, kq2, qa2, qb2, qc2⟩ := isOf hZ e1 K.2.2.2.2.2.2.2.2.2.2.2.2.2.1
  obtain ⟨_, _, ⟨T2, L2, k2, n2⟩, -, X2, ⟨Lc2, hQ2, l2, y2, z2⟩, st2⟩ := X1.virtualBack hx (y := (⟨"com/example/licon/licon/search/Operator", "takes", "(I)Z"⟩ : MethodName)) (z := (⟨"com/example/licon/licon/search/Operator", "takes", "(I)Z"⟩ : MethodName)) hown (mvT hZ (hw _ (List.mem_of_getElem? (i := 7) rfl))) (mvT hZ (hw _ (List.mem_of_getElem? (i := 8) rfl))) (notFace_of_selects (args := #[]) (mvT hZ (hw _ (List.mem_of_getElem? (i := 10) rfl)))) (mvT hZ (hw _ (List.mem_of_getElem? (i := 10) rfl))) (mvT hZ (hw _ (List.mem_of_getElem? (i := 9) rfl))) (by decide) (backOf (W := 0) (rm_takes_65 l Z a0 hw w h0 n0 Z0 K u0 u1 u2 hf25) hZ (hw _ (List.mem_of_getElem? (i := 11) rfl)) (hw _ (List.mem_of_getElem? (i := 5) rfl)) (by decide) (by decide)) qa2 qc2 (g := (mkF m 84 #[.val (.int u0), .val (.int u1), .val (.int u2), .val (.int (5 : Int32)), .val (.int u1), .val (.ref (w 6)), .val (.int (0 : Int32))] [(.int u1), (.ref (w 6))])) rfl (by rw [hml]; rfl) (Steps.refl _) (argsL := [(.int u1)]) (rest := []) (lenOf pd_28I29Z rfl) rfl (by show 2 * 0 + _ ≤ _; exact Nat.le_of_eq rfl) (hb hby at_84) (fun _ _ => ⟨rfl, e1, (by decide : 0 + 0 ≤ _), (by decide : 0 + 0 ≤ _)⟩)
  dsimp only [Pt.U, Pt.locs, Pt.cells, Pt.slots] at X2 l2 y2 z2 st2 hQ2
  subst l2 y2 z2
  obtain ⟨rfl, N2q, e2⟩ := hQ2
  have N2 := Fr.app N1 N2q
  obtain ⟨fs, hr, hrun, hended, hW, hsame⟩ := X2.leave (v := (some (.int (1 : Int32)))) (fun h => by rw [Bd.returns] at h; cases h)
  refine ⟨_, _, pre0 _ ?_, hrun, hended, _, _, rfl, ?_, ⟨_, rfl⟩, hW, hsame.mono (by decide) (by decide)⟩
  · show Steps p.tables e below (s₁.setTop (mkF m 0 #[.val (.int u0), .val (.int u1), .val (.int u2), .unset, .unset, .unset, .unset] [])) _
    refine XS.iloadN X0.here hx rfl (hb hby at_0) rfl ?_
    refine XS.bipush X0.here hx rfl (hb hby at_1) ?_
    refine XS.iand X0.here hx rfl (hb hby at_3) rfl ?_
    show Steps p.tables e below (s₁.setTop (mkF m 4 #[.val (.int u0), .val (.int u1), .val (.int u2), .unset, .unset, .unset, .unset] [(.int (u0 &&& (7 : Int32)))])) _
    rw [hk0]
    show Steps p.tables e below (s₁.setTop (mkF m 4 #[.val (.int u0), .val (.int u1), .val (.int u2), .unset, .unset, .unset, .unset] [(.int (5 : Int32))])) _
    refine XS.istoreN X0.here hx rfl (hb hby at_4) rfl (l' := #[.val (.int u0), .val (.int u1), .val (.int u2), .val (.int (5 : Int32)), .unset, .unset, .unset]) rfl ?_
    refine XS.iloadN X0.here hx rfl (hb hby at_5) rfl ?_
    refine XS.iconst X0.here hx rfl (hb hby at_6) ?_
    refine XS.iand X0.here hx rfl (hb hby at_7) rfl ?_
    show Steps p.tables e below (s₁.setTop (mkF m 8 #[.val (.int u0), .val (.int u1), .val (.int u2), .val (.int (5 : Int32)), .unset, .unset, .unset] [(.int (u2 &&& (1 : Int32)))])) _
    refine XS.ifYes X0.here hx rfl (pc0 := 8) (pc' := 17) rfl (hb hby at_8) rfl ((if0 _ _).trans (teq hf24).1) (by decide) (by decide) ?_
    refine XS.iloadN X0.here hx rfl (hb hby at_17) rfl ?_
    refine XS.istore X0.here hx rfl (hb hby at_18) rfl (l' := #[.val (.int u0), .val (.int u1), .val (.int u2), .val (.int (5 : Int32)), .val (.int u1), .unset, .unset]) rfl ?_
    refine XS.iloadN X0.here hx rfl (hb hby at_20) rfl ?_
    show Steps p.tables e below (s₁.setTop (mkF m 21 #[.val (.int u0), .val (.int u1), .val (.int u2), .val (.int (5 : Int32)), .val (.int u1), .unset, .unset] [(.int (5 : Int32))])) _
    refine st1 _ ?_
    refine XS.astore X1.here hx rfl (hb hby at_24) rfl rfl (l' := #[.val (.int u0), .val (.int u1), .val (.int u2), .val (.int (5 : Int32)), .val (.int u1), .val (.ref (w 6)), .unset]) rfl ?_
    refine XS.iloadN X1.here hx rfl (hb hby at_26) rfl ?_
    refine XS.iconst X1.here hx rfl (hb hby at_27) ?_
    show Steps p.tables e below (T1.setTop (mkF m 28 #[.val (.int u0), .val (.int u1), .val (.int u2), .val (.int (5 : Int32)), .val (.int u1), .val (.ref (w 6)), .unset] [(.int (4 : Int32)), (.int (5 : Int32))])) _
    refine XS.icmpYes X1.here hx rfl (pc0 := 28) (pc' := 47) rfl (hb hby at_28) rfl (flt (by decide : ¬ ((5 : Int32) < (4 : Int32)))).2.1 (by decide) (by decide) ?_
    refine XS.iloadN X1.here hx rfl (hb hby at_47) rfl ?_
    refine XS.bipush X1.here hx rfl (hb hby at_48) ?_
    refine XS.icmpNo X1.here hx rfl (hb hby at_50) rfl (tlt (by decide : (5 : Int32) < (6 : Int32))).2.1 ?_
    show Steps p.tables e below (T1.setTop (mkF m 53 #[.val (.int u0), .val (.int u1), .val (.int u2), .val (.int (5 : Int32)), .val (.int u1), .val (.ref (w 6)), .unset] [])) _
    refine XS.iload X1.here hx rfl (hb hby at_53) rfl ?_
    refine XS.ifYes X1.here hx rfl (pc0 := 55) (pc' := 62) rfl (hb hby at_55) rfl ((if0 _ _).trans (flt hf25).2.2.2) (by decide) (by decide) ?_
    refine XS.iconst X1.here hx rfl (hb hby at_62) ?_
    refine XS.istore X1.here hx rfl (hb hby at_63) rfl (l' := #[.val (.int u0), .val (.int u1), .val (.int u2), .val (.int (5 : Int32)), .val (.int u1), .val (.ref (w 6)), .val (.int (0 : Int32))]) rfl ?_
    show Steps p.tables e below (T1.setTop (mkF m 65 #[.val (.int u0), .val (.int u1), .val (.int u2), .val (.int (5 : Int32)), .val (.int u1), .val (.ref (w 6)), .val (.int (0 : Int32))] [])) _
    refine XS.goto X1.here hx rfl (pc0 := 65) (pc' := 80) rfl (hb hby at_65) (by decide) (by decide) ?_
    refine XS.aload X1.here hx rfl (hb hby at_80) rfl rfl ?_
    refine XS.iload X1.here hx rfl (hb hby at_82) rfl ?_
    refine st2.trans ?_
    show Steps p.tables e below (T2.setTop (mkF m 87 #[.val (.int u0), .val (.int u1), .val (.int u2), .val (.int (5 : Int32)), .val (.int u1), .val (.ref (w 6)), .val (.int (0 : Int32))] [(.int (0 : Int32))])) _
    refine XS.iload X2.here hx rfl (hb hby at_87) rfl ?_
    refine XS.icmpNo X2.here hx rfl (hb hby at_89) rfl (teq (by decide : (0 : Int32) = (0 : Int32))).2 ?_
    refine XS.iconst X2.here hx rfl (hb hby at_92) ?_
    refine XS.goto X2.here hx rfl (pc0 := 93) (pc' := 97) rfl (hb hby at_93) (by decide) (by decide) ?_
    show Steps p.tables e below (T2.setTop (mkF m 97 #[.val (.int u0), .val (.int u1), .val (.int u2), .val (.int (5 : Int32)), .val (.int u1), .val (.ref (w 6)), .val (.int (0 : Int32))] [(.int (1 : Int32))])) _
    exact retN X2 hx (t := .boolean) Bd.returns (by simp) (hb hby at_97) hr
  · exact ⟨rfl, N2, e2⟩
set_option maxRecDepth 65536 in
set_option maxHeartbeats 40000000 in
theorem rm_takes_67 (l : Launch) (Z : State) (a0 : Array Value) (hw : ∀ d ∈ tables_1, d.before a0 Z = true) (w : Nat → Addr) (h0 : Heap) (n0 : Nat) (Z0 : n0 ≤ h0.size) (K : Kon Z h0 w) (u0 u1 u2 : Int32) (hf26 : (0 : Int32) < (u1 % (4 : Int32))) :
    OM l Z (⟨"com/example/licon/licon/search/Operator", "takes", "(I)Z"⟩ : MethodName) prog_9_method_4_code 2 (some .boolean) [] ({ frames := 0, cells := 0, slots := 0, locals := 0 } : Room) #[(.ref (w 6)), (.int (u1 % (4 : Int32)))] h0 (OP (some (.int (1 : Int32))) n0 h0) := by
  refine MetFree.of_bodySF (plainFor_of_name pn_com_example_licon_licon_search_Operator) hisR ?_
  intro p e s m args below meth c s₁ Bd hml0 hP hK
  obtain ⟨rfl, hZ, hh⟩ := hP
  have hx := Bd.exec
  have hby := Bd.bytes
  have hml : c.maxLocals = 2 := hml0
  have hown : s.vm.findClass "com/example/licon/licon/search/Operator" = some m.cls := findClass_of_methodNamed Bd.named
  have X0 : Stand p l e ({ frames := 0, cells := 0, slots := 0, locals := 0 } : Room) s m #[(.ref (w 6)), (.int (u1 % (4 : Int32)))] below meth c s₁ [] 0 0 := Stand.of_body Bd
  have e0 : s₁.heap = h0 := by rw [← hh, Bd.state]; rfl
  have N0 := Fr.nil n0
  have pre0 : ∀ t, Steps p.tables e below (s₁.setTop (mkF m 0 #[.val (.ref (w 6)), .val (.int (u1 % (4 : Int32)))] [])) t → Steps p.tables e below (s₁.setTop (entryFrame m #[(.ref (w 6)), (.int (u1 % (4 : Int32)))] 2)) t := fun t k => castTop (by first | rfl | simp [entryFrame, mkF, argsToLocals, Value.category]) k
  obtain ⟨T1, X1, e1, st1⟩ := getF X0 hx hZ hown (host := "") (Or.inl (hw _ (List.mem_of_getElem? (i := 12) rfl))) Via.refl e0 K.2.2.2.2.2.2.2.2.2.2.2.2.2.2.2.2.2.2.2.2.2.2.2.2.2.2.2.2.1 (g := (mkF m 2 #[.val (.ref (w 6)), .val (.int (u1 % (4 : Int32)))] [(.ref (w 6)), (.int (u1 % (4 : Int32)))])) rfl rfl (hb hby d_prog_9_method_4_code_2)
  obtain ⟨T2, X2, e2, st2⟩ := getF X1 hx hZ hown (host := "") (Or.inl (hw _ (List.mem_of_getElem? (i := 14) rfl))) Via.refl e1 K.2.2.2.2.2.2.2.2.2.2.2.2.2.2.2.2.2.2.2.2.2.2.2.2.2.2.2.2.2.1 (g := (mkF m 10 #[.val (.ref (w 6)), .val (.int (u1 % (4 : Int32)))] [(.ref (w 6)), (.int (u1 % (4 : Int32)))])) rfl rfl (hb hby d_prog_9_method_4_code_10)
  obtain ⟨fs, hr, hrun, hended, hW, hsame⟩ := X2.leave (v := (some (.int (1 : Int32)))) (fun h => by rw [Bd.returns] at h; cases h)
  refine ⟨_, _, pre0 _ ?_, hrun, hended, _, _, rfl, ?_, ⟨_, rfl⟩, hW, hsame.mono (by decide) (by decide)⟩
  · show Steps p.tables e below (s₁.setTop (mkF m 0 #[.val (.ref (w 6)), .val (.int (u1 % (4 : Int32)))] [])) _
    refine XS.iloadN X0.here hx rfl (hb hby d_prog_9_method_4_code_0) rfl ?_
    refine XS.aloadN X0.here hx rfl (hb hby d_prog_9_method_4_code_1) rfl rfl ?_
    refine st1 _ ?_
    refine XS.icmpNo X1.here hx rfl (hb hby d_prog_9_method_4_code_5) rfl (flt (by have z0 := Int32.lt_iff_toInt_lt.mp hf26; have l0 : (0 : Int32).toInt = 0 := rfl; have l1 : (1 : Int32).toInt = 1 := rfl; have r0 := rng32 (u1 % (4 : Int32)); exact fun hh => absurd (Int32.lt_iff_toInt_lt.mp hh) (by omega) : ¬ ((u1 % (4 : Int32)) < (1 : Int32)))).1 ?_
    show Steps p.tables e below (T1.setTop (mkF m 8 #[.val (.ref (w 6)), .val (.int (u1 % (4 : Int32)))] [])) _
    refine XS.iloadN X1.here hx rfl (hb hby d_prog_9_method_4_code_8) rfl ?_
    refine XS.aloadN X1.here hx rfl (hb hby d_prog_9_method_4_code_9) rfl rfl ?_
    refine st2 _ ?_
    refine XS.icmpNo X2.here hx rfl (hb hby d_prog_9_method_4_code_13) rfl (flt (by have z0 := Int32.lt_iff_toInt_lt.mp hf26; have l0 : (0 : Int32).toInt = 0 := rfl; have l1 : (2147483647 : Int32).toInt = 2147483647 := rfl; have r0 := rng32 (u1 % (4 : Int32)); exact fun hh => absurd (Int32.lt_iff_toInt_lt.mp hh) (by omega) : ¬ ((2147483647 : Int32) < (u1 % (4 : Int32))))).2.2.1 ?_
    show Steps p.tables e below (T2.setTop (mkF m 16 #[.val (.ref (w 6)), .val (.int (u1 % (4 : Int32)))] [])) _
    refine XS.iconst X2.here hx rfl (hb hby d_prog_9_method_4_code_16) ?_
    refine XS.goto X2.here hx rfl (pc0 := 17) (pc' := 21) rfl (hb hby d_prog_9_method_4_code_17) (by decide) (by decide) ?_
    show Steps p.tables e below (T2.setTop (mkF m 21 #[.val (.ref (w 6)), .val (.int (u1 % (4 : Int32)))] [(.int (1 : Int32))])) _
    exact retN X2 hx (t := .boolean) Bd.returns (by simp) (hb hby d_prog_9_method_4_code_21) hr
  · exact ⟨rfl, N0, e2⟩
set_option maxRecDepth 65536 in
set_option maxHeartbeats 40000000 in
theorem rm0_68 (l : Launch) (Z : State) (a0 : Array Value) (hw : ∀ d ∈ tables_1, d.before a0 Z = true) (w : Nat → Addr) (h0 : Heap) (n0 : Nat) (Z0 : n0 ≤ h0.size) (K : Kon Z h0 w) (u0 u1 u2 : Int32) (hf24 : ¬ ((u2 &&& (1 : Int32)) = (0 : Int32))) (hf26 : (0 : Int32) < (u1 % (4 : Int32))) (hk0 : (u0 &&& (7 : Int32)) = (5 : Int32)) :
    OM l Z x code maxLocals ret tables_1 room_1 #[(.int u0), (.int u1), (.int u2)] h0 (OP (some (.int (1 : Int32))) n0 h0) := by
  refine MetFree.of_bodySF (plainFor_of_name pn_com_example_licon_licon_search_OperatorTakesPinLaw) hisR ?_
  intro p e s m args below meth c s₁ Bd hml0 hP hK
  obtain ⟨rfl, hZ, hh⟩ := hP
  have hx := Bd.exec
  have hby := Bd.bytes
  have hml : c.maxLocals = 7 := hml0
  have hown : s.vm.findClass "com/example/licon/licon/search/OperatorTakesPinLaw" = some m.cls := findClass_of_methodNamed Bd.named
  have X0 : Stand p l e room_1 s m #[(.int u0), (.int u1), (.int u2)] below meth c s₁ [] 0 0 := Stand.of_body Bd
  have e0 : s₁.heap = h0 := by rw [← hh, Bd.state]; rfl
  have N0 := Fr.nil n0
  have pre0 : ∀ t, Steps p.tables e below (s₁.setTop (mkF m 0 #[.val (.int u0), .val (.int u1), .val (.int u2), .unset, .unset, .unset, .unset] [])) t → Steps p.tables e below (s₁.setTop (entryFrame m #[(.int u0), (.int u1), (.int u2)] maxLocals)) t := fun t k => castTop (by first | rfl | simp [entryFrame, mkF, argsToLocals, Value.category, maxLocals]) k
  obtain ⟨_, _, ⟨T1, L1, k1, n1⟩, -, X1, ⟨Lc1, hQ1, l1, y1, z1⟩, st1⟩ := Jvm.LawKit.callS X0 hx (y := (⟨"com/example/licon/licon/search/OperatorTakesPinLaw", "pick", "(I)Lcom/example/licon/licon/search/Operator;"⟩ : MethodName)) hown (mvT hZ (hw _ (List.mem_of_getElem? (i := 0) rfl))) (mvT hZ (hw _ (List.mem_of_getElem? (i := 1) rfl))) (mvT hZ (hw _ (List.mem_of_getElem? (i := 2) rfl))) (mvT hZ (hw _ (List.mem_of_getElem? (i := 3) rfl))) (by decide) (backOf (W := 0) (rm_pick_62 l Z a0 hw w h0 n0 Z0 K u0 u1 u2) hZ (hw _ (List.mem_of_getElem? (i := 3) rfl)) (hw _ (List.mem_of_getElem? (i := 2) rfl)) (by decide) (by decide)) (g := (mkF m 21 #[.val (.int u0), .val (.int u1), .val (.int u2), .val (.int (5 : Int32)), .val (.int (u1 % (4 : Int32))), .unset, .unset] [(.int (5 : Int32))])) rfl (by rw [hml]; rfl) (argsL := [(.int (5 : Int32))]) (rest := []) (lenOf pd_28I29Lcom2fexample2flicon2flicon2fsearch2fOperator3b rfl) rfl (by show 2 * 0 + _ ≤ _; exact Nat.le_of_eq rfl) (hb hby at_21) (fun _ _ => ⟨rfl, e0, (by decide : 0 + 0 ≤ _), (by decide : 0 + 0 ≤ _)⟩)
  dsimp only [Pt.U, Pt.locs, Pt.cells, Pt.slots] at X1 l1 y1 z1 st1 hQ1
  subst l1 y1 z1
  obtain ⟨rfl, N1q, e1⟩ := hQ1
  have N1 := Fr.app N0 N1q
  obtain ⟨cq2, kq2, qa2, qb2, qc2⟩ := isOf hZ e1 K.2.2.2.2.2.2.2.2.2.2.2.2.2.1
  obtain ⟨_, _, ⟨T2, L2, k2, n2⟩, -, X2, ⟨Lc2, hQ2, l2, y2, z2⟩, st2⟩ := X1.virtualBack hx (y := (⟨"com/example/licon/licon/search/Operator", "takes", "(I)Z"⟩ : MethodName)) (z := (⟨"com/example/licon/licon/search/Operator", "takes", "(I)Z"⟩ : MethodName)) hown (mvT hZ (hw _ (List.mem_of_getElem? (i := 7) rfl))) (mvT hZ (hw _ (List.mem_of_getElem? (i := 8) rfl))) (notFace_of_selects (args := #[]) (mvT hZ (hw _ (List.mem_of_getElem? (i := 10) rfl)))) (mvT hZ (hw _ (List.mem_of_getElem? (i := 10) rfl))) (mvT hZ (hw _ (List.mem_of_getElem? (i := 9) rfl))) (by decide) (backOf (W := 0) (rm_takes_67 l Z a0 hw w h0 n0 Z0 K u0 u1 u2 hf26) hZ (hw _ (List.mem_of_getElem? (i := 11) rfl)) (hw _ (List.mem_of_getElem? (i := 5) rfl)) (by decide) (by decide)) qa2 qc2 (g := (mkF m 84 #[.val (.int u0), .val (.int u1), .val (.int u2), .val (.int (5 : Int32)), .val (.int (u1 % (4 : Int32))), .val (.ref (w 6)), .val (.int (1 : Int32))] [(.int (u1 % (4 : Int32))), (.ref (w 6))])) rfl (by rw [hml]; rfl) (Steps.refl _) (argsL := [(.int (u1 % (4 : Int32)))]) (rest := []) (lenOf pd_28I29Z rfl) rfl (by show 2 * 0 + _ ≤ _; exact Nat.le_of_eq rfl) (hb hby at_84) (fun _ _ => ⟨rfl, e1, (by decide : 0 + 0 ≤ _), (by decide : 0 + 0 ≤ _)⟩)
  dsimp only [Pt.U, Pt.locs, Pt.cells, Pt.slots] at X2 l2 y2 z2 st2 hQ2
  subst l2 y2 z2
  obtain ⟨rfl, N2q, e2⟩ := hQ2
  have N2 := Fr.app N1 N2q
  obtain ⟨fs, hr, hrun, hended, hW, hsame⟩ := X2.leave (v := (some (.int (1 : Int32)))) (fun h => by rw [Bd.returns] at h; cases h)
  refine ⟨_, _, pre0 _ ?_, hrun, hended, _, _, rfl, ?_, ⟨_, rfl⟩, hW, hsame.mono (by decide) (by decide)⟩
  · show Steps p.tables e below (s₁.setTop (mkF m 0 #[.val (.int u0), .val (.int u1), .val (.int u2), .unset, .unset, .unset, .unset] [])) _
    refine XS.iloadN X0.here hx rfl (hb hby at_0) rfl ?_
    refine XS.bipush X0.here hx rfl (hb hby at_1) ?_
    refine XS.iand X0.here hx rfl (hb hby at_3) rfl ?_
    show Steps p.tables e below (s₁.setTop (mkF m 4 #[.val (.int u0), .val (.int u1), .val (.int u2), .unset, .unset, .unset, .unset] [(.int (u0 &&& (7 : Int32)))])) _
    rw [hk0]
    show Steps p.tables e below (s₁.setTop (mkF m 4 #[.val (.int u0), .val (.int u1), .val (.int u2), .unset, .unset, .unset, .unset] [(.int (5 : Int32))])) _
    refine XS.istoreN X0.here hx rfl (hb hby at_4) rfl (l' := #[.val (.int u0), .val (.int u1), .val (.int u2), .val (.int (5 : Int32)), .unset, .unset, .unset]) rfl ?_
    refine XS.iloadN X0.here hx rfl (hb hby at_5) rfl ?_
    refine XS.iconst X0.here hx rfl (hb hby at_6) ?_
    refine XS.iand X0.here hx rfl (hb hby at_7) rfl ?_
    show Steps p.tables e below (s₁.setTop (mkF m 8 #[.val (.int u0), .val (.int u1), .val (.int u2), .val (.int (5 : Int32)), .unset, .unset, .unset] [(.int (u2 &&& (1 : Int32)))])) _
    refine XS.ifNo X0.here hx rfl (hb hby at_8) rfl ((if0 _ _).trans (feq hf24).1) ?_
    refine XS.iloadN X0.here hx rfl (hb hby at_11) rfl ?_
    refine XS.iconst X0.here hx rfl (hb hby at_12) ?_
    refine iremM X0 hx rfl (hb hby at_13) rfl (by decide : ¬ ((4 : Int32) = (0 : Int32))) ?_
    show Steps p.tables e below (s₁.setTop (mkF m 14 #[.val (.int u0), .val (.int u1), .val (.int u2), .val (.int (5 : Int32)), .unset, .unset, .unset] [(.int (u1 % (4 : Int32)))])) _
    refine XS.goto X0.here hx rfl (pc0 := 14) (pc' := 18) rfl (hb hby at_14) (by decide) (by decide) ?_
    refine XS.istore X0.here hx rfl (hb hby at_18) rfl (l' := #[.val (.int u0), .val (.int u1), .val (.int u2), .val (.int (5 : Int32)), .val (.int (u1 % (4 : Int32))), .unset, .unset]) rfl ?_
    refine XS.iloadN X0.here hx rfl (hb hby at_20) rfl ?_
    refine st1 _ ?_
    show Steps p.tables e below (T1.setTop (mkF m 24 #[.val (.int u0), .val (.int u1), .val (.int u2), .val (.int (5 : Int32)), .val (.int (u1 % (4 : Int32))), .unset, .unset] [(.ref (w 6))])) _
    refine XS.astore X1.here hx rfl (hb hby at_24) rfl rfl (l' := #[.val (.int u0), .val (.int u1), .val (.int u2), .val (.int (5 : Int32)), .val (.int (u1 % (4 : Int32))), .val (.ref (w 6)), .unset]) rfl ?_
    refine XS.iloadN X1.here hx rfl (hb hby at_26) rfl ?_
    refine XS.iconst X1.here hx rfl (hb hby at_27) ?_
    refine XS.icmpYes X1.here hx rfl (pc0 := 28) (pc' := 47) rfl (hb hby at_28) rfl (flt (by decide : ¬ ((5 : Int32) < (4 : Int32)))).2.1 (by decide) (by decide) ?_
    show Steps p.tables e below (T1.setTop (mkF m 47 #[.val (.int u0), .val (.int u1), .val (.int u2), .val (.int (5 : Int32)), .val (.int (u1 % (4 : Int32))), .val (.ref (w 6)), .unset] [])) _
    refine XS.iloadN X1.here hx rfl (hb hby at_47) rfl ?_
    refine XS.bipush X1.here hx rfl (hb hby at_48) ?_
    refine XS.icmpNo X1.here hx rfl (hb hby at_50) rfl (tlt (by decide : (5 : Int32) < (6 : Int32))).2.1 ?_
    refine XS.iload X1.here hx rfl (hb hby at_53) rfl ?_
    show Steps p.tables e below (T1.setTop (mkF m 55 #[.val (.int u0), .val (.int u1), .val (.int u2), .val (.int (5 : Int32)), .val (.int (u1 % (4 : Int32))), .val (.ref (w 6)), .unset] [(.int (u1 % (4 : Int32)))])) _
    refine XS.ifNo X1.here hx rfl (hb hby at_55) rfl ((if0 _ _).trans (tlt hf26).2.2.2) ?_
    refine XS.iconst X1.here hx rfl (hb hby at_58) ?_
    refine XS.goto X1.here hx rfl (pc0 := 59) (pc' := 63) rfl (hb hby at_59) (by decide) (by decide) ?_
    refine XS.istore X1.here hx rfl (hb hby at_63) rfl (l' := #[.val (.int u0), .val (.int u1), .val (.int u2), .val (.int (5 : Int32)), .val (.int (u1 % (4 : Int32))), .val (.ref (w 6)), .val (.int (1 : Int32))]) rfl ?_
    show Steps p.tables e below (T1.setTop (mkF m 65 #[.val (.int u0), .val (.int u1), .val (.int u2), .val (.int (5 : Int32)), .val (.int (u1 % (4 : Int32))), .val (.ref (w 6)), .val (.int (1 : Int32))] [])) _
    refine XS.goto X1.here hx rfl (pc0 := 65) (pc' := 80) rfl (hb hby at_65) (by decide) (by decide) ?_
    refine XS.aload X1.here hx rfl (hb hby at_80) rfl rfl ?_
    refine XS.iload X1.here hx rfl (hb hby at_82) rfl ?_
    refine st2.trans ?_
    show Steps p.tables e below (T2.setTop (mkF m 87 #[.val (.int u0), .val (.int u1), .val (.int u2), .val (.int (5 : Int32)), .val (.int (u1 % (4 : Int32))), .val (.ref (w 6)), .val (.int (1 : Int32))] [(.int (1 : Int32))])) _
    refine XS.iload X2.here hx rfl (hb hby at_87) rfl ?_
    refine XS.icmpNo X2.here hx rfl (hb hby at_89) rfl (teq (by decide : (1 : Int32) = (1 : Int32))).2 ?_
    refine XS.iconst X2.here hx rfl (hb hby at_92) ?_
    refine XS.goto X2.here hx rfl (pc0 := 93) (pc' := 97) rfl (hb hby at_93) (by decide) (by decide) ?_
    show Steps p.tables e below (T2.setTop (mkF m 97 #[.val (.int u0), .val (.int u1), .val (.int u2), .val (.int (5 : Int32)), .val (.int (u1 % (4 : Int32))), .val (.ref (w 6)), .val (.int (1 : Int32))] [(.int (1 : Int32))])) _
    exact retN X2 hx (t := .boolean) Bd.returns (by simp) (hb hby at_97) hr
  · exact ⟨rfl, N2, e2⟩
set_option maxRecDepth 65536 in
set_option maxHeartbeats 40000000 in
theorem rm_takes_69 (l : Launch) (Z : State) (a0 : Array Value) (hw : ∀ d ∈ tables_1, d.before a0 Z = true) (w : Nat → Addr) (h0 : Heap) (n0 : Nat) (Z0 : n0 ≤ h0.size) (K : Kon Z h0 w) (u0 u1 u2 : Int32) (hf26 : ¬ ((0 : Int32) < (u1 % (4 : Int32)))) :
    OM l Z (⟨"com/example/licon/licon/search/Operator", "takes", "(I)Z"⟩ : MethodName) prog_9_method_4_code 2 (some .boolean) [] ({ frames := 0, cells := 0, slots := 0, locals := 0 } : Room) #[(.ref (w 6)), (.int (u1 % (4 : Int32)))] h0 (OP (some (.int (0 : Int32))) n0 h0) := by
  refine MetFree.of_bodySF (plainFor_of_name pn_com_example_licon_licon_search_Operator) hisR ?_
  intro p e s m args below meth c s₁ Bd hml0 hP hK
  obtain ⟨rfl, hZ, hh⟩ := hP
  have hx := Bd.exec
  have hby := Bd.bytes
  have hml : c.maxLocals = 2 := hml0
  have hown : s.vm.findClass "com/example/licon/licon/search/Operator" = some m.cls := findClass_of_methodNamed Bd.named
  have X0 : Stand p l e ({ frames := 0, cells := 0, slots := 0, locals := 0 } : Room) s m #[(.ref (w 6)), (.int (u1 % (4 : Int32)))] below meth c s₁ [] 0 0 := Stand.of_body Bd
  have e0 : s₁.heap = h0 := by rw [← hh, Bd.state]; rfl
  have N0 := Fr.nil n0
  have pre0 : ∀ t, Steps p.tables e below (s₁.setTop (mkF m 0 #[.val (.ref (w 6)), .val (.int (u1 % (4 : Int32)))] [])) t → Steps p.tables e below (s₁.setTop (entryFrame m #[(.ref (w 6)), (.int (u1 % (4 : Int32)))] 2)) t := fun t k => castTop (by first | rfl | simp [entryFrame, mkF, argsToLocals, Value.category]) k
  obtain ⟨T1, X1, e1, st1⟩ := getF X0 hx hZ hown (host := "") (Or.inl (hw _ (List.mem_of_getElem? (i := 12) rfl))) Via.refl e0 K.2.2.2.2.2.2.2.2.2.2.2.2.2.2.2.2.2.2.2.2.2.2.2.2.2.2.2.2.1 (g := (mkF m 2 #[.val (.ref (w 6)), .val (.int (u1 % (4 : Int32)))] [(.ref (w 6)), (.int (u1 % (4 : Int32)))])) rfl rfl (hb hby d_prog_9_method_4_code_2)
  obtain ⟨fs, hr, hrun, hended, hW, hsame⟩ := X1.leave (v := (some (.int (0 : Int32)))) (fun h => by rw [Bd.returns] at h; cases h)
  refine ⟨_, _, pre0 _ ?_, hrun, hended, _, _, rfl, ?_, ⟨_, rfl⟩, hW, hsame.mono (by decide) (by decide)⟩
  · show Steps p.tables e below (s₁.setTop (mkF m 0 #[.val (.ref (w 6)), .val (.int (u1 % (4 : Int32)))] [])) _
    refine XS.iloadN X0.here hx rfl (hb hby d_prog_9_method_4_code_0) rfl ?_
    refine XS.aloadN X0.here hx rfl (hb hby d_prog_9_method_4_code_1) rfl rfl ?_
    refine st1 _ ?_
    refine XS.icmpYes X1.here hx rfl (pc0 := 5) (pc' := 20) rfl (hb hby d_prog_9_method_4_code_5) rfl (tlt (by have z0 := mt Int32.lt_iff_toInt_lt.mpr hf26; have l0 : (0 : Int32).toInt = 0 := rfl; have l1 : (1 : Int32).toInt = 1 := rfl; have r0 := rng32 (u1 % (4 : Int32)); exact Int32.lt_iff_toInt_lt.mpr (by omega) : (u1 % (4 : Int32)) < (1 : Int32))).1 (by decide) (by decide) ?_
    show Steps p.tables e below (T1.setTop (mkF m 20 #[.val (.ref (w 6)), .val (.int (u1 % (4 : Int32)))] [])) _
    refine XS.iconst X1.here hx rfl (hb hby d_prog_9_method_4_code_20) ?_
    show Steps p.tables e below (T1.setTop (mkF m 21 #[.val (.ref (w 6)), .val (.int (u1 % (4 : Int32)))] [(.int (0 : Int32))])) _
    exact retN X1 hx (t := .boolean) Bd.returns (by simp) (hb hby d_prog_9_method_4_code_21) hr
  · exact ⟨rfl, N0, e1⟩
set_option maxRecDepth 65536 in
set_option maxHeartbeats 40000000 in
theorem rm0_70 (l : Launch) (Z : State) (a0 : Array Value) (hw : ∀ d ∈ tables_1, d.before a0 Z = true) (w : Nat → Addr) (h0 : Heap) (n0 : Nat) (Z0 : n0 ≤ h0.size) (K : Kon Z h0 w) (u0 u1 u2 : Int32) (hf24 : ¬ ((u2 &&& (1 : Int32)) = (0 : Int32))) (hf26 : ¬ ((0 : Int32) < (u1 % (4 : Int32)))) (hk0 : (u0 &&& (7 : Int32)) = (5 : Int32)) :
    OM l Z x code maxLocals ret tables_1 room_1 #[(.int u0), (.int u1), (.int u2)] h0 (OP (some (.int (1 : Int32))) n0 h0) := by
  refine MetFree.of_bodySF (plainFor_of_name pn_com_example_licon_licon_search_OperatorTakesPinLaw) hisR ?_
  intro p e s m args below meth c s₁ Bd hml0 hP hK
  obtain ⟨rfl, hZ, hh⟩ := hP
  have hx := Bd.exec
  have hby := Bd.bytes
  have hml : c.maxLocals = 7 := hml0
  have hown : s.vm.findClass "com/example/licon/licon/search/OperatorTakesPinLaw" = some m.cls := findClass_of_methodNamed Bd.named
  have X0 : Stand p l e room_1 s m #[(.int u0), (.int u1), (.int u2)] below meth c s₁ [] 0 0 := Stand.of_body Bd
  have e0 : s₁.heap = h0 := by rw [← hh, Bd.state]; rfl
  have N0 := Fr.nil n0
  have pre0 : ∀ t, Steps p.tables e below (s₁.setTop (mkF m 0 #[.val (.int u0), .val (.int u1), .val (.int u2), .unset, .unset, .unset, .unset] [])) t → Steps p.tables e below (s₁.setTop (entryFrame m #[(.int u0), (.int u1), (.int u2)] maxLocals)) t := fun t k => castTop (by first | rfl | simp [entryFrame, mkF, argsToLocals, Value.category, maxLocals]) k
  obtain ⟨_, _, ⟨T1, L1, k1, n1⟩, -, X1, ⟨Lc1, hQ1, l1, y1, z1⟩, st1⟩ := Jvm.LawKit.callS X0 hx (y := (⟨"com/example/licon/licon/search/OperatorTakesPinLaw", "pick", "(I)Lcom/example/licon/licon/search/Operator;"⟩ : MethodName)) hown (mvT hZ (hw _ (List.mem_of_getElem? (i := 0) rfl))) (mvT hZ (hw _ (List.mem_of_getElem? (i := 1) rfl))) (mvT hZ (hw _ (List.mem_of_getElem? (i := 2) rfl))) (mvT hZ (hw _ (List.mem_of_getElem? (i := 3) rfl))) (by decide) (backOf (W := 0) (rm_pick_62 l Z a0 hw w h0 n0 Z0 K u0 u1 u2) hZ (hw _ (List.mem_of_getElem? (i := 3) rfl)) (hw _ (List.mem_of_getElem? (i := 2) rfl)) (by decide) (by decide)) (g := (mkF m 21 #[.val (.int u0), .val (.int u1), .val (.int u2), .val (.int (5 : Int32)), .val (.int (u1 % (4 : Int32))), .unset, .unset] [(.int (5 : Int32))])) rfl (by rw [hml]; rfl) (argsL := [(.int (5 : Int32))]) (rest := []) (lenOf pd_28I29Lcom2fexample2flicon2flicon2fsearch2fOperator3b rfl) rfl (by show 2 * 0 + _ ≤ _; exact Nat.le_of_eq rfl) (hb hby at_21) (fun _ _ => ⟨rfl, e0, (by decide : 0 + 0 ≤ _), (by decide : 0 + 0 ≤ _)⟩)
  dsimp only [Pt.U, Pt.locs, Pt.cells, Pt.slots] at X1 l1 y1 z1 st1 hQ1
  subst l1 y1 z1
  obtain ⟨rfl, N1q, e1⟩ := hQ1
  have N1 := Fr.app N0 N1q
  obtain ⟨cq2, kq2, qa2, qb2, qc2⟩ := isOf hZ e1 K.2.2.2.2.2.2.2.2.2.2.2.2.2.1
  obtain ⟨_, _, ⟨T2, L2, k2, n2⟩, -, X2, ⟨Lc2, hQ2, l2, y2, z2⟩, st2⟩ := X1.virtualBack hx (y := (⟨"com/example/licon/licon/search/Operator", "takes", "(I)Z"⟩ : MethodName)) (z := (⟨"com/example/licon/licon/search/Operator", "takes", "(I)Z"⟩ : MethodName)) hown (mvT hZ (hw _ (List.mem_of_getElem? (i := 7) rfl))) (mvT hZ (hw _ (List.mem_of_getElem? (i := 8) rfl))) (notFace_of_selects (args := #[]) (mvT hZ (hw _ (List.mem_of_getElem? (i := 10) rfl)))) (mvT hZ (hw _ (List.mem_of_getElem? (i := 10) rfl))) (mvT hZ (hw _ (List.mem_of_getElem? (i := 9) rfl))) (by decide) (backOf (W := 0) (rm_takes_69 l Z a0 hw w h0 n0 Z0 K u0 u1 u2 hf26) hZ (hw _ (List.mem_of_getElem? (i := 11) rfl)) (hw _ (List.mem_of_getElem? (i := 5) rfl)) (by decide) (by decide)) qa2 qc2 (g := (mkF m 84 #[.val (.int u0), .val (.int u1), .val (.int u2), .val (.int (5 : Int32)), .val (.int (u1 % (4 : Int32))), .val (.ref (w 6)), .val (.int (0 : Int32))] [(.int (u1 % (4 : Int32))), (.ref (w 6))])) rfl (by rw [hml]; rfl) (Steps.refl _) (argsL := [(.int (u1 % (4 : Int32)))]) (rest := []) (lenOf pd_28I29Z rfl) rfl (by show 2 * 0 + _ ≤ _; exact Nat.le_of_eq rfl) (hb hby at_84) (fun _ _ => ⟨rfl, e1, (by decide : 0 + 0 ≤ _), (by decide : 0 + 0 ≤ _)⟩)
  dsimp only [Pt.U, Pt.locs, Pt.cells, Pt.slots] at X2 l2 y2 z2 st2 hQ2
  subst l2 y2 z2
  obtain ⟨rfl, N2q, e2⟩ := hQ2
  have N2 := Fr.app N1 N2q
  obtain ⟨fs, hr, hrun, hended, hW, hsame⟩ := X2.leave (v := (some (.int (1 : Int32)))) (fun h => by rw [Bd.returns] at h; cases h)
  refine ⟨_, _, pre0 _ ?_, hrun, hended, _, _, rfl, ?_, ⟨_, rfl⟩, hW, hsame.mono (by decide) (by decide)⟩
  · show Steps p.tables e below (s₁.setTop (mkF m 0 #[.val (.int u0), .val (.int u1), .val (.int u2), .unset, .unset, .unset, .unset] [])) _
    refine XS.iloadN X0.here hx rfl (hb hby at_0) rfl ?_
    refine XS.bipush X0.here hx rfl (hb hby at_1) ?_
    refine XS.iand X0.here hx rfl (hb hby at_3) rfl ?_
    show Steps p.tables e below (s₁.setTop (mkF m 4 #[.val (.int u0), .val (.int u1), .val (.int u2), .unset, .unset, .unset, .unset] [(.int (u0 &&& (7 : Int32)))])) _
    rw [hk0]
    show Steps p.tables e below (s₁.setTop (mkF m 4 #[.val (.int u0), .val (.int u1), .val (.int u2), .unset, .unset, .unset, .unset] [(.int (5 : Int32))])) _
    refine XS.istoreN X0.here hx rfl (hb hby at_4) rfl (l' := #[.val (.int u0), .val (.int u1), .val (.int u2), .val (.int (5 : Int32)), .unset, .unset, .unset]) rfl ?_
    refine XS.iloadN X0.here hx rfl (hb hby at_5) rfl ?_
    refine XS.iconst X0.here hx rfl (hb hby at_6) ?_
    refine XS.iand X0.here hx rfl (hb hby at_7) rfl ?_
    show Steps p.tables e below (s₁.setTop (mkF m 8 #[.val (.int u0), .val (.int u1), .val (.int u2), .val (.int (5 : Int32)), .unset, .unset, .unset] [(.int (u2 &&& (1 : Int32)))])) _
    refine XS.ifNo X0.here hx rfl (hb hby at_8) rfl ((if0 _ _).trans (feq hf24).1) ?_
    refine XS.iloadN X0.here hx rfl (hb hby at_11) rfl ?_
    refine XS.iconst X0.here hx rfl (hb hby at_12) ?_
    refine iremM X0 hx rfl (hb hby at_13) rfl (by decide : ¬ ((4 : Int32) = (0 : Int32))) ?_
    show Steps p.tables e below (s₁.setTop (mkF m 14 #[.val (.int u0), .val (.int u1), .val (.int u2), .val (.int (5 : Int32)), .unset, .unset, .unset] [(.int (u1 % (4 : Int32)))])) _
    refine XS.goto X0.here hx rfl (pc0 := 14) (pc' := 18) rfl (hb hby at_14) (by decide) (by decide) ?_
    refine XS.istore X0.here hx rfl (hb hby at_18) rfl (l' := #[.val (.int u0), .val (.int u1), .val (.int u2), .val (.int (5 : Int32)), .val (.int (u1 % (4 : Int32))), .unset, .unset]) rfl ?_
    refine XS.iloadN X0.here hx rfl (hb hby at_20) rfl ?_
    refine st1 _ ?_
    show Steps p.tables e below (T1.setTop (mkF m 24 #[.val (.int u0), .val (.int u1), .val (.int u2), .val (.int (5 : Int32)), .val (.int (u1 % (4 : Int32))), .unset, .unset] [(.ref (w 6))])) _
    refine XS.astore X1.here hx rfl (hb hby at_24) rfl rfl (l' := #[.val (.int u0), .val (.int u1), .val (.int u2), .val (.int (5 : Int32)), .val (.int (u1 % (4 : Int32))), .val (.ref (w 6)), .unset]) rfl ?_
    refine XS.iloadN X1.here hx rfl (hb hby at_26) rfl ?_
    refine XS.iconst X1.here hx rfl (hb hby at_27) ?_
    refine XS.icmpYes X1.here hx rfl (pc0 := 28) (pc' := 47) rfl (hb hby at_28) rfl (flt (by decide : ¬ ((5 : Int32) < (4 : Int32)))).2.1 (by decide) (by decide) ?_
    show Steps p.tables e below (T1.setTop (mkF m 47 #[.val (.int u0), .val (.int u1), .val (.int u2), .val (.int (5 : Int32)), .val (.int (u1 % (4 : Int32))), .val (.ref (w 6)), .unset] [])) _
    refine XS.iloadN X1.here hx rfl (hb hby at_47) rfl ?_
    refine XS.bipush X1.here hx rfl (hb hby at_48) ?_
    refine XS.icmpNo X1.here hx rfl (hb hby at_50) rfl (tlt (by decide : (5 : Int32) < (6 : Int32))).2.1 ?_
    refine XS.iload X1.here hx rfl (hb hby at_53) rfl ?_
    show Steps p.tables e below (T1.setTop (mkF m 55 #[.val (.int u0), .val (.int u1), .val (.int u2), .val (.int (5 : Int32)), .val (.int (u1 % (4 : Int32))), .val (.ref (w 6)), .unset] [(.int (u1 % (4 : Int32)))])) _
    refine XS.ifYes X1.here hx rfl (pc0 := 55) (pc' := 62) rfl (hb hby at_55) rfl ((if0 _ _).trans (flt hf26).2.2.2) (by decide) (by decide) ?_
    refine XS.iconst X1.here hx rfl (hb hby at_62) ?_
    refine XS.istore X1.here hx rfl (hb hby at_63) rfl (l' := #[.val (.int u0), .val (.int u1), .val (.int u2), .val (.int (5 : Int32)), .val (.int (u1 % (4 : Int32))), .val (.ref (w 6)), .val (.int (0 : Int32))]) rfl ?_
    refine XS.goto X1.here hx rfl (pc0 := 65) (pc' := 80) rfl (hb hby at_65) (by decide) (by decide) ?_
    show Steps p.tables e below (T1.setTop (mkF m 80 #[.val (.int u0), .val (.int u1), .val (.int u2), .val (.int (5 : Int32)), .val (.int (u1 % (4 : Int32))), .val (.ref (w 6)), .val (.int (0 : Int32))] [])) _
    refine XS.aload X1.here hx rfl (hb hby at_80) rfl rfl ?_
    refine XS.iload X1.here hx rfl (hb hby at_82) rfl ?_
    refine st2.trans ?_
    refine XS.iload X2.here hx rfl (hb hby at_87) rfl ?_
    show Steps p.tables e below (T2.setTop (mkF m 89 #[.val (.int u0), .val (.int u1), .val (.int u2), .val (.int (5 : Int32)), .val (.int (u1 % (4 : Int32))), .val (.ref (w 6)), .val (.int (0 : Int32))] [(.int (0 : Int32)), (.int (0 : Int32))])) _
    refine XS.icmpNo X2.here hx rfl (hb hby at_89) rfl (teq (by decide : (0 : Int32) = (0 : Int32))).2 ?_
    refine XS.iconst X2.here hx rfl (hb hby at_92) ?_
    refine XS.goto X2.here hx rfl (pc0 := 93) (pc' := 97) rfl (hb hby at_93) (by decide) (by decide) ?_
    show Steps p.tables e below (T2.setTop (mkF m 97 #[.val (.int u0), .val (.int u1), .val (.int u2), .val (.int (5 : Int32)), .val (.int (u1 % (4 : Int32))), .val (.ref (w 6)), .val (.int (0 : Int32))] [(.int (1 : Int32))])) _
    exact retN X2 hx (t := .boolean) Bd.returns (by simp) (hb hby at_97) hr
  · exact ⟨rfl, N2, e2⟩
theorem d_method_3_code_53 : decode method_3_code 53 = .ok (.iload_n 0, 1) := by decide +kernel
theorem d_method_3_code_54 : decode method_3_code 54 = .ok (.bipush 6, 2) := by decide +kernel
theorem d_method_3_code_56 : decode method_3_code 56 = .ok (.if_icmp .ne 7, 3) := by decide +kernel
theorem d_method_3_code_59 : decode method_3_code 59 = .ok (.getstatic 38, 3) := by decide +kernel
theorem d_method_3_code_62 : decode method_3_code 62 = .ok (.areturn, 1) := by decide +kernel
set_option maxRecDepth 65536 in
set_option maxHeartbeats 40000000 in
theorem rm_pick_71 (l : Launch) (Z : State) (a0 : Array Value) (hw : ∀ d ∈ tables_1, d.before a0 Z = true) (w : Nat → Addr) (h0 : Heap) (n0 : Nat) (Z0 : n0 ≤ h0.size) (K : Kon Z h0 w) (u0 u1 u2 : Int32) :
    OM l Z (⟨"com/example/licon/licon/search/OperatorTakesPinLaw", "pick", "(I)Lcom/example/licon/licon/search/Operator;"⟩ : MethodName) method_3_code 1 (some (.object "com/example/licon/licon/search/Operator")) [] ({ frames := 0, cells := 0, slots := 0, locals := 0 } : Room) #[(.int (6 : Int32))] h0 (OP (some (.ref (w 7))) n0 h0) := by
  refine MetFree.of_bodySF (plainFor_of_name pn_com_example_licon_licon_search_OperatorTakesPinLaw) hisR ?_
  intro p e s m args below meth c s₁ Bd hml0 hP hK
  obtain ⟨rfl, hZ, hh⟩ := hP
  have hx := Bd.exec
  have hby := Bd.bytes
  have hml : c.maxLocals = 1 := hml0
  have hown : s.vm.findClass "com/example/licon/licon/search/OperatorTakesPinLaw" = some m.cls := findClass_of_methodNamed Bd.named
  have X0 : Stand p l e ({ frames := 0, cells := 0, slots := 0, locals := 0 } : Room) s m #[(.int (6 : Int32))] below meth c s₁ [] 0 0 := Stand.of_body Bd
  have e0 : s₁.heap = h0 := by rw [← hh, Bd.state]; rfl
  have N0 := Fr.nil n0
  have pre0 : ∀ t, Steps p.tables e below (s₁.setTop (mkF m 0 #[.val (.int (6 : Int32))] [])) t → Steps p.tables e below (s₁.setTop (entryFrame m #[(.int (6 : Int32))] 1)) t := fun t k => castTop (by first | rfl | simp [entryFrame, mkF, argsToLocals, Value.category]) k
  obtain ⟨T1, X1, e1, st1⟩ := getS2 X0 hx hZ hown (host := "") (Or.inl (hw _ (List.mem_of_getElem? (i := 28) rfl))) Via.refl e0 K.2.2.2.2.2.2.2.2.2.2.2.2.2.2.1 (g := (mkF m 59 #[.val (.int (6 : Int32))] [])) rfl (hb hby d_method_3_code_59)
  obtain ⟨fs, hr, hrun, hended, hW, hsame⟩ := X1.leave (v := (some (.ref (w 7)))) (fun h => by rw [Bd.returns] at h; cases h)
  refine ⟨_, _, pre0 _ ?_, hrun, hended, _, _, rfl, ?_, ⟨_, rfl⟩, hW, hsame.mono (by decide) (by decide)⟩
  · show Steps p.tables e below (s₁.setTop (mkF m 0 #[.val (.int (6 : Int32))] [])) _
    refine XS.iloadN X0.here hx rfl (hb hby d_method_3_code_0) rfl ?_
    refine XS.ifYes X0.here hx rfl (pc0 := 1) (pc' := 8) rfl (hb hby d_method_3_code_1) rfl ((if0 _ _).trans (feq (by decide : ¬ ((6 : Int32) = (0 : Int32)))).2) (by decide) (by decide) ?_
    refine XS.iloadN X0.here hx rfl (hb hby d_method_3_code_8) rfl ?_
    refine XS.iconst X0.here hx rfl (hb hby d_method_3_code_9) ?_
    show Steps p.tables e below (s₁.setTop (mkF m 10 #[.val (.int (6 : Int32))] [(.int (1 : Int32)), (.int (6 : Int32))])) _
    refine XS.icmpYes X0.here hx rfl (pc0 := 10) (pc' := 17) rfl (hb hby d_method_3_code_10) rfl (feq (by decide : ¬ ((6 : Int32) = (1 : Int32)))).2 (by decide) (by decide) ?_
    refine XS.iloadN X0.here hx rfl (hb hby d_method_3_code_17) rfl ?_
    refine XS.iconst X0.here hx rfl (hb hby d_method_3_code_18) ?_
    refine XS.icmpYes X0.here hx rfl (pc0 := 19) (pc' := 26) rfl (hb hby d_method_3_code_19) rfl (feq (by decide : ¬ ((6 : Int32) = (2 : Int32)))).2 (by decide) (by decide) ?_
    show Steps p.tables e below (s₁.setTop (mkF m 26 #[.val (.int (6 : Int32))] [])) _
    refine XS.iloadN X0.here hx rfl (hb hby d_method_3_code_26) rfl ?_
    refine XS.iconst X0.here hx rfl (hb hby d_method_3_code_27) ?_
    refine XS.icmpYes X0.here hx rfl (pc0 := 28) (pc' := 35) rfl (hb hby d_method_3_code_28) rfl (feq (by decide : ¬ ((6 : Int32) = (3 : Int32)))).2 (by decide) (by decide) ?_
    refine XS.iloadN X0.here hx rfl (hb hby d_method_3_code_35) rfl ?_
    show Steps p.tables e below (s₁.setTop (mkF m 36 #[.val (.int (6 : Int32))] [(.int (6 : Int32))])) _
    refine XS.iconst X0.here hx rfl (hb hby d_method_3_code_36) ?_
    refine XS.icmpYes X0.here hx rfl (pc0 := 37) (pc' := 44) rfl (hb hby d_method_3_code_37) rfl (feq (by decide : ¬ ((6 : Int32) = (4 : Int32)))).2 (by decide) (by decide) ?_
    refine XS.iloadN X0.here hx rfl (hb hby d_method_3_code_44) rfl ?_
    refine XS.iconst X0.here hx rfl (hb hby d_method_3_code_45) ?_
    show Steps p.tables e below (s₁.setTop (mkF m 46 #[.val (.int (6 : Int32))] [(.int (5 : Int32)), (.int (6 : Int32))])) _
    refine XS.icmpYes X0.here hx rfl (pc0 := 46) (pc' := 53) rfl (hb hby d_method_3_code_46) rfl (feq (by decide : ¬ ((6 : Int32) = (5 : Int32)))).2 (by decide) (by decide) ?_
    refine XS.iloadN X0.here hx rfl (hb hby d_method_3_code_53) rfl ?_
    refine XS.bipush X0.here hx rfl (hb hby d_method_3_code_54) ?_
    refine XS.icmpNo X0.here hx rfl (hb hby d_method_3_code_56) rfl (teq (by decide : (6 : Int32) = (6 : Int32))).2 ?_
    show Steps p.tables e below (s₁.setTop (mkF m 59 #[.val (.int (6 : Int32))] [])) _
    refine st1 _ ?_
    show Steps p.tables e below (T1.setTop (mkF m 62 #[.val (.int (6 : Int32))] [(.ref (w 7))])) _
    jvm_step X1.here [X1.here.top, hx, (hb hby d_method_3_code_62), X1.method', Bd.returns, Value.isRef, FieldType.isReference]
    first | (intro acts; rw [hr _ acts rfl rfl rfl]) | rw [hr _ _ rfl rfl rfl]
    exact Steps.refl _
  · exact ⟨rfl, N0, e1⟩
set_option maxRecDepth 65536 in
set_option maxHeartbeats 40000000 in
theorem rm_takes_72 (l : Launch) (Z : State) (a0 : Array Value) (hw : ∀ d ∈ tables_1, d.before a0 Z = true) (w : Nat → Addr) (h0 : Heap) (n0 : Nat) (Z0 : n0 ≤ h0.size) (K : Kon Z h0 w) (u0 u1 u2 : Int32) (hf28 : u1 = (0 : Int32)) :
    OM l Z (⟨"com/example/licon/licon/search/Operator", "takes", "(I)Z"⟩ : MethodName) prog_9_method_4_code 2 (some .boolean) [] ({ frames := 0, cells := 0, slots := 0, locals := 0 } : Room) #[(.ref (w 7)), (.int u1)] h0 (OP (some (.int (1 : Int32))) n0 h0) := by
  refine MetFree.of_bodySF (plainFor_of_name pn_com_example_licon_licon_search_Operator) hisR ?_
  intro p e s m args below meth c s₁ Bd hml0 hP hK
  obtain ⟨rfl, hZ, hh⟩ := hP
  have hx := Bd.exec
  have hby := Bd.bytes
  have hml : c.maxLocals = 2 := hml0
  have hown : s.vm.findClass "com/example/licon/licon/search/Operator" = some m.cls := findClass_of_methodNamed Bd.named
  have X0 : Stand p l e ({ frames := 0, cells := 0, slots := 0, locals := 0 } : Room) s m #[(.ref (w 7)), (.int u1)] below meth c s₁ [] 0 0 := Stand.of_body Bd
  have e0 : s₁.heap = h0 := by rw [← hh, Bd.state]; rfl
  have N0 := Fr.nil n0
  have pre0 : ∀ t, Steps p.tables e below (s₁.setTop (mkF m 0 #[.val (.ref (w 7)), .val (.int u1)] [])) t → Steps p.tables e below (s₁.setTop (entryFrame m #[(.ref (w 7)), (.int u1)] 2)) t := fun t k => castTop (by first | rfl | simp [entryFrame, mkF, argsToLocals, Value.category]) k
  obtain ⟨T1, X1, e1, st1⟩ := getF X0 hx hZ hown (host := "") (Or.inl (hw _ (List.mem_of_getElem? (i := 12) rfl))) Via.refl e0 K.2.2.2.2.2.2.2.2.2.2.2.2.2.2.2.2.2.2.2.2.2.2.2.2.2.2.2.2.2.2.1 (g := (mkF m 2 #[.val (.ref (w 7)), .val (.int u1)] [(.ref (w 7)), (.int u1)])) rfl rfl (hb hby d_prog_9_method_4_code_2)
  obtain ⟨T2, X2, e2, st2⟩ := getF X1 hx hZ hown (host := "") (Or.inl (hw _ (List.mem_of_getElem? (i := 14) rfl))) Via.refl e1 K.2.2.2.2.2.2.2.2.2.2.2.2.2.2.2.2.2.2.2.2.2.2.2.2.2.2.2.2.2.2.2 (g := (mkF m 10 #[.val (.ref (w 7)), .val (.int u1)] [(.ref (w 7)), (.int u1)])) rfl rfl (hb hby d_prog_9_method_4_code_10)
  obtain ⟨fs, hr, hrun, hended, hW, hsame⟩ := X2.leave (v := (some (.int (1 : Int32)))) (fun h => by rw [Bd.returns] at h; cases h)
  refine ⟨_, _, pre0 _ ?_, hrun, hended, _, _, rfl, ?_, ⟨_, rfl⟩, hW, hsame.mono (by decide) (by decide)⟩
  · show Steps p.tables e below (s₁.setTop (mkF m 0 #[.val (.ref (w 7)), .val (.int u1)] [])) _
    refine XS.iloadN X0.here hx rfl (hb hby d_prog_9_method_4_code_0) rfl ?_
    refine XS.aloadN X0.here hx rfl (hb hby d_prog_9_method_4_code_1) rfl rfl ?_
    refine st1 _ ?_
    refine XS.icmpNo X1.here hx rfl (hb hby d_prog_9_method_4_code_5) rfl (flt (by have z0 := congrArg Int32.toInt hf28; have l0 : (0 : Int32).toInt = 0 := rfl; have r0 := rng32 u1; exact fun hh => absurd (Int32.lt_iff_toInt_lt.mp hh) (by omega) : ¬ (u1 < (0 : Int32)))).1 ?_
    show Steps p.tables e below (T1.setTop (mkF m 8 #[.val (.ref (w 7)), .val (.int u1)] [])) _
    refine XS.iloadN X1.here hx rfl (hb hby d_prog_9_method_4_code_8) rfl ?_
    refine XS.aloadN X1.here hx rfl (hb hby d_prog_9_method_4_code_9) rfl rfl ?_
    refine st2 _ ?_
    refine XS.icmpNo X2.here hx rfl (hb hby d_prog_9_method_4_code_13) rfl (flt (by have z0 := congrArg Int32.toInt hf28; have l0 : (0 : Int32).toInt = 0 := rfl; have r0 := rng32 u1; exact fun hh => absurd (Int32.lt_iff_toInt_lt.mp hh) (by omega) : ¬ ((0 : Int32) < u1))).2.2.1 ?_
    show Steps p.tables e below (T2.setTop (mkF m 16 #[.val (.ref (w 7)), .val (.int u1)] [])) _
    refine XS.iconst X2.here hx rfl (hb hby d_prog_9_method_4_code_16) ?_
    refine XS.goto X2.here hx rfl (pc0 := 17) (pc' := 21) rfl (hb hby d_prog_9_method_4_code_17) (by decide) (by decide) ?_
    show Steps p.tables e below (T2.setTop (mkF m 21 #[.val (.ref (w 7)), .val (.int u1)] [(.int (1 : Int32))])) _
    exact retN X2 hx (t := .boolean) Bd.returns (by simp) (hb hby d_prog_9_method_4_code_21) hr
  · exact ⟨rfl, N0, e2⟩
set_option maxRecDepth 65536 in
set_option maxHeartbeats 40000000 in
theorem rm0_73 (l : Launch) (Z : State) (a0 : Array Value) (hw : ∀ d ∈ tables_1, d.before a0 Z = true) (w : Nat → Addr) (h0 : Heap) (n0 : Nat) (Z0 : n0 ≤ h0.size) (K : Kon Z h0 w) (u0 u1 u2 : Int32) (hf27 : (u2 &&& (1 : Int32)) = (0 : Int32)) (hf28 : u1 = (0 : Int32)) (hk0 : (u0 &&& (7 : Int32)) = (6 : Int32)) :
    OM l Z x code maxLocals ret tables_1 room_1 #[(.int u0), (.int u1), (.int u2)] h0 (OP (some (.int (1 : Int32))) n0 h0) := by
  refine MetFree.of_bodySF (plainFor_of_name pn_com_example_licon_licon_search_OperatorTakesPinLaw) hisR ?_
  intro p e s m args below meth c s₁ Bd hml0 hP hK
  obtain ⟨rfl, hZ, hh⟩ := hP
  have hx := Bd.exec
  have hby := Bd.bytes
  have hml : c.maxLocals = 7 := hml0
  have hown : s.vm.findClass "com/example/licon/licon/search/OperatorTakesPinLaw" = some m.cls := findClass_of_methodNamed Bd.named
  have X0 : Stand p l e room_1 s m #[(.int u0), (.int u1), (.int u2)] below meth c s₁ [] 0 0 := Stand.of_body Bd
  have e0 : s₁.heap = h0 := by rw [← hh, Bd.state]; rfl
  have N0 := Fr.nil n0
  have pre0 : ∀ t, Steps p.tables e below (s₁.setTop (mkF m 0 #[.val (.int u0), .val (.int u1), .val (.int u2), .unset, .unset, .unset, .unset] [])) t → Steps p.tables e below (s₁.setTop (entryFrame m #[(.int u0), (.int u1), (.int u2)] maxLocals)) t := fun t k => castTop (by first | rfl | simp [entryFrame, mkF, argsToLocals, Value.category, maxLocals]) k
  obtain ⟨_, _, ⟨T1, L1, k1, n1⟩, -, X1, ⟨Lc1, hQ1, l1, y1, z1⟩, st1⟩ := Jvm.LawKit.callS X0 hx (y := (⟨"com/example/licon/licon/search/OperatorTakesPinLaw", "pick", "(I)Lcom/example/licon/licon/search/Operator;"⟩ : MethodName)) hown (mvT hZ (hw _ (List.mem_of_getElem? (i := 0) rfl))) (mvT hZ (hw _ (List.mem_of_getElem? (i := 1) rfl))) (mvT hZ (hw _ (List.mem_of_getElem? (i := 2) rfl))) (mvT hZ (hw _ (List.mem_of_getElem? (i := 3) rfl))) (by decide) (backOf (W := 0) (rm_pick_71 l Z a0 hw w h0 n0 Z0 K u0 u1 u2) hZ (hw _ (List.mem_of_getElem? (i := 3) rfl)) (hw _ (List.mem_of_getElem? (i := 2) rfl)) (by decide) (by decide)) (g := (mkF m 21 #[.val (.int u0), .val (.int u1), .val (.int u2), .val (.int (6 : Int32)), .val (.int u1), .unset, .unset] [(.int (6 : Int32))])) rfl (by rw [hml]; rfl) (argsL := [(.int (6 : Int32))]) (rest := []) (lenOf pd_28I29Lcom2fexample2flicon2flicon2fsearch2fOperator3b rfl) rfl (by show 2 * 0 + _ ≤ _; exact Nat.le_of_eq rfl) (hb hby at_21) (fun _ _ => ⟨rfl, e0, (by decide : 0 + 0 ≤ _), (by decide : 0 + 0 ≤ _)⟩)
  dsimp only [Pt.U, Pt.locs, Pt.cells, Pt.slots] at X1 l1 y1 z1 st1 hQ1
  subst l1 y1 z1
  obtain ⟨rfl, N1q, e1⟩ := hQ1
  have N1 := Fr.app N0 N1q
  obtain ⟨cq2, kq2, qa2, qb2, qc2⟩ := isOf hZ e1 K.2.2.2.2.2.2.2.2.2.2.2.2.2.2.2.1
  obtain ⟨_, _, ⟨T2, L2, k2, n2⟩, -, X2, ⟨Lc2, hQ2, l2, y2, z2⟩, st2⟩ := X1.virtualBack hx (y := (⟨"com/example/licon/licon/search/Operator", "takes", "(I)Z"⟩ : MethodName)) (z := (⟨"com/example/licon/licon/search/Operator", "takes", "(I)Z"⟩ : MethodName)) hown (mvT hZ (hw _ (List.mem_of_getElem? (i := 7) rfl))) (mvT hZ (hw _ (List.mem_of_getElem? (i := 8) rfl))) (notFace_of_selects (args := #[]) (mvT hZ (hw _ (List.mem_of_getElem? (i := 10) rfl)))) (mvT hZ (hw _ (List.mem_of_getElem? (i := 10) rfl))) (mvT hZ (hw _ (List.mem_of_getElem? (i := 9) rfl))) (by decide) (backOf (W := 0) (rm_takes_72 l Z a0 hw w h0 n0 Z0 K u0 u1 u2 hf28) hZ (hw _ (List.mem_of_getElem? (i := 11) rfl)) (hw _ (List.mem_of_getElem? (i := 5) rfl)) (by decide) (by decide)) qa2 qc2 (g := (mkF m 84 #[.val (.int u0), .val (.int u1), .val (.int u2), .val (.int (6 : Int32)), .val (.int u1), .val (.ref (w 7)), .val (.int (1 : Int32))] [(.int u1), (.ref (w 7))])) rfl (by rw [hml]; rfl) (Steps.refl _) (argsL := [(.int u1)]) (rest := []) (lenOf pd_28I29Z rfl) rfl (by show 2 * 0 + _ ≤ _; exact Nat.le_of_eq rfl) (hb hby at_84) (fun _ _ => ⟨rfl, e1, (by decide : 0 + 0 ≤ _), (by decide : 0 + 0 ≤ _)⟩)
  dsimp only [Pt.U, Pt.locs, Pt.cells, Pt.slots] at X2 l2 y2 z2 st2 hQ2
  subst l2 y2 z2
  obtain ⟨rfl, N2q, e2⟩ := hQ2
  have N2 := Fr.app N1 N2q
  obtain ⟨fs, hr, hrun, hended, hW, hsame⟩ := X2.leave (v := (some (.int (1 : Int32)))) (fun h => by rw [Bd.returns] at h; cases h)
  refine ⟨_, _, pre0 _ ?_, hrun, hended, _, _, rfl, ?_, ⟨_, rfl⟩, hW, hsame.mono (by decide) (by decide)⟩
  · show Steps p.tables e below (s₁.setTop (mkF m 0 #[.val (.int u0), .val (.int u1), .val (.int u2), .unset, .unset, .unset, .unset] [])) _
    refine XS.iloadN X0.here hx rfl (hb hby at_0) rfl ?_
    refine XS.bipush X0.here hx rfl (hb hby at_1) ?_
    refine XS.iand X0.here hx rfl (hb hby at_3) rfl ?_
    show Steps p.tables e below (s₁.setTop (mkF m 4 #[.val (.int u0), .val (.int u1), .val (.int u2), .unset, .unset, .unset, .unset] [(.int (u0 &&& (7 : Int32)))])) _
    rw [hk0]
    show Steps p.tables e below (s₁.setTop (mkF m 4 #[.val (.int u0), .val (.int u1), .val (.int u2), .unset, .unset, .unset, .unset] [(.int (6 : Int32))])) _
    refine XS.istoreN X0.here hx rfl (hb hby at_4) rfl (l' := #[.val (.int u0), .val (.int u1), .val (.int u2), .val (.int (6 : Int32)), .unset, .unset, .unset]) rfl ?_
    refine XS.iloadN X0.here hx rfl (hb hby at_5) rfl ?_
    refine XS.iconst X0.here hx rfl (hb hby at_6) ?_
    refine XS.iand X0.here hx rfl (hb hby at_7) rfl ?_
    show Steps p.tables e below (s₁.setTop (mkF m 8 #[.val (.int u0), .val (.int u1), .val (.int u2), .val (.int (6 : Int32)), .unset, .unset, .unset] [(.int (u2 &&& (1 : Int32)))])) _
    refine XS.ifYes X0.here hx rfl (pc0 := 8) (pc' := 17) rfl (hb hby at_8) rfl ((if0 _ _).trans (teq hf27).1) (by decide) (by decide) ?_
    refine XS.iloadN X0.here hx rfl (hb hby at_17) rfl ?_
    refine XS.istore X0.here hx rfl (hb hby at_18) rfl (l' := #[.val (.int u0), .val (.int u1), .val (.int u2), .val (.int (6 : Int32)), .val (.int u1), .unset, .unset]) rfl ?_
    refine XS.iloadN X0.here hx rfl (hb hby at_20) rfl ?_
    show Steps p.tables e below (s₁.setTop (mkF m 21 #[.val (.int u0), .val (.int u1), .val (.int u2), .val (.int (6 : Int32)), .val (.int u1), .unset, .unset] [(.int (6 : Int32))])) _
    refine st1 _ ?_
    refine XS.astore X1.here hx rfl (hb hby at_24) rfl rfl (l' := #[.val (.int u0), .val (.int u1), .val (.int u2), .val (.int (6 : Int32)), .val (.int u1), .val (.ref (w 7)), .unset]) rfl ?_
    refine XS.iloadN X1.here hx rfl (hb hby at_26) rfl ?_
    refine XS.iconst X1.here hx rfl (hb hby at_27) ?_
    show Steps p.tables e below (T1.setTop (mkF m 28 #[.val (.int u0), .val (.int u1), .val (.int u2), .val (.int (6 : Int32)), .val (.int u1), .val (.ref (w 7)), .unset] [(.int (4 : Int32)), (.int (6 : Int32))])) _
    refine XS.icmpYes X1.here hx rfl (pc0 := 28) (pc' := 47) rfl (hb hby at_28) rfl (flt (by decide : ¬ ((6 : Int32) < (4 : Int32)))).2.1 (by decide) (by decide) ?_
    refine XS.iloadN X1.here hx rfl (hb hby at_47) rfl ?_
    refine XS.bipush X1.here hx rfl (hb hby at_48) ?_
    refine XS.icmpYes X1.here hx rfl (pc0 := 50) (pc' := 68) rfl (hb hby at_50) rfl (flt (by decide : ¬ ((6 : Int32) < (6 : Int32)))).2.1 (by decide) (by decide) ?_
    show Steps p.tables e below (T1.setTop (mkF m 68 #[.val (.int u0), .val (.int u1), .val (.int u2), .val (.int (6 : Int32)), .val (.int u1), .val (.ref (w 7)), .unset] [])) _
    refine XS.iload X1.here hx rfl (hb hby at_68) rfl ?_
    refine XS.ifNo X1.here hx rfl (hb hby at_70) rfl ((if0 _ _).trans (teq hf28).2) ?_
    refine XS.iconst X1.here hx rfl (hb hby at_73) ?_
    refine XS.goto X1.here hx rfl (pc0 := 74) (pc' := 78) rfl (hb hby at_74) (by decide) (by decide) ?_
    show Steps p.tables e below (T1.setTop (mkF m 78 #[.val (.int u0), .val (.int u1), .val (.int u2), .val (.int (6 : Int32)), .val (.int u1), .val (.ref (w 7)), .unset] [(.int (1 : Int32))])) _
    refine XS.istore X1.here hx rfl (hb hby at_78) rfl (l' := #[.val (.int u0), .val (.int u1), .val (.int u2), .val (.int (6 : Int32)), .val (.int u1), .val (.ref (w 7)), .val (.int (1 : Int32))]) rfl ?_
    refine XS.aload X1.here hx rfl (hb hby at_80) rfl rfl ?_
    refine XS.iload X1.here hx rfl (hb hby at_82) rfl ?_
    refine st2.trans ?_
    show Steps p.tables e below (T2.setTop (mkF m 87 #[.val (.int u0), .val (.int u1), .val (.int u2), .val (.int (6 : Int32)), .val (.int u1), .val (.ref (w 7)), .val (.int (1 : Int32))] [(.int (1 : Int32))])) _
    refine XS.iload X2.here hx rfl (hb hby at_87) rfl ?_
    refine XS.icmpNo X2.here hx rfl (hb hby at_89) rfl (teq (by decide : (1 : Int32) = (1 : Int32))).2 ?_
    refine XS.iconst X2.here hx rfl (hb hby at_92) ?_
    refine XS.goto X2.here hx rfl (pc0 := 93) (pc' := 97) rfl (hb hby at_93) (by decide) (by decide) ?_
    show Steps p.tables e below (T2.setTop (mkF m 97 #[.val (.int u0), .val (.int u1), .val (.int u2), .val (.int (6 : Int32)), .val (.int u1), .val (.ref (w 7)), .val (.int (1 : Int32))] [(.int (1 : Int32))])) _
    exact retN X2 hx (t := .boolean) Bd.returns (by simp) (hb hby at_97) hr
  · exact ⟨rfl, N2, e2⟩
set_option maxRecDepth 65536 in
set_option maxHeartbeats 40000000 in
theorem rm_takes_74 (l : Launch) (Z : State) (a0 : Array Value) (hw : ∀ d ∈ tables_1, d.before a0 Z = true) (w : Nat → Addr) (h0 : Heap) (n0 : Nat) (Z0 : n0 ≤ h0.size) (K : Kon Z h0 w) (u0 u1 u2 : Int32) (hf29 : u1 < (0 : Int32)) :
    OM l Z (⟨"com/example/licon/licon/search/Operator", "takes", "(I)Z"⟩ : MethodName) prog_9_method_4_code 2 (some .boolean) [] ({ frames := 0, cells := 0, slots := 0, locals := 0 } : Room) #[(.ref (w 7)), (.int u1)] h0 (OP (some (.int (0 : Int32))) n0 h0) := by
  refine MetFree.of_bodySF (plainFor_of_name pn_com_example_licon_licon_search_Operator) hisR ?_
  intro p e s m args below meth c s₁ Bd hml0 hP hK
  obtain ⟨rfl, hZ, hh⟩ := hP
  have hx := Bd.exec
  have hby := Bd.bytes
  have hml : c.maxLocals = 2 := hml0
  have hown : s.vm.findClass "com/example/licon/licon/search/Operator" = some m.cls := findClass_of_methodNamed Bd.named
  have X0 : Stand p l e ({ frames := 0, cells := 0, slots := 0, locals := 0 } : Room) s m #[(.ref (w 7)), (.int u1)] below meth c s₁ [] 0 0 := Stand.of_body Bd
  have e0 : s₁.heap = h0 := by rw [← hh, Bd.state]; rfl
  have N0 := Fr.nil n0
  have pre0 : ∀ t, Steps p.tables e below (s₁.setTop (mkF m 0 #[.val (.ref (w 7)), .val (.int u1)] [])) t → Steps p.tables e below (s₁.setTop (entryFrame m #[(.ref (w 7)), (.int u1)] 2)) t := fun t k => castTop (by first | rfl | simp [entryFrame, mkF, argsToLocals, Value.category]) k
  obtain ⟨T1, X1, e1, st1⟩ := getF X0 hx hZ hown (host := "") (Or.inl (hw _ (List.mem_of_getElem? (i := 12) rfl))) Via.refl e0 K.2.2.2.2.2.2.2.2.2.2.2.2.2.2.2.2.2.2.2.2.2.2.2.2.2.2.2.2.2.2.1 (g := (mkF m 2 #[.val (.ref (w 7)), .val (.int u1)] [(.ref (w 7)), (.int u1)])) rfl rfl (hb hby d_prog_9_method_4_code_2)
  obtain ⟨fs, hr, hrun, hended, hW, hsame⟩ := X1.leave (v := (some (.int (0 : Int32)))) (fun h => by rw [Bd.returns] at h; cases h)
  refine ⟨_, _, pre0 _ ?_, hrun, hended, _, _, rfl, ?_, ⟨_, rfl⟩, hW, hsame.mono (by decide) (by decide)⟩
  · show Steps p.tables e below (s₁.setTop (mkF m 0 #[.val (.ref (w 7)), .val (.int u1)] [])) _
    refine XS.iloadN X0.here hx rfl (hb hby d_prog_9_method_4_code_0) rfl ?_
    refine XS.aloadN X0.here hx rfl (hb hby d_prog_9_method_4_code_1) rfl rfl ?_
    refine st1 _ ?_
    refine XS.icmpYes X1.here hx rfl (pc0 := 5) (pc' := 20) rfl (hb hby d_prog_9_method_4_code_5) rfl (tlt hf29).1 (by decide) (by decide) ?_
    show Steps p.tables e below (T1.setTop (mkF m 20 #[.val (.ref (w 7)), .val (.int u1)] [])) _
    refine XS.iconst X1.here hx rfl (hb hby d_prog_9_method_4_code_20) ?_
    show Steps p.tables e below (T1.setTop (mkF m 21 #[.val (.ref (w 7)), .val (.int u1)] [(.int (0 : Int32))])) _
    exact retN X1 hx (t := .boolean) Bd.returns (by simp) (hb hby d_prog_9_method_4_code_21) hr
  · exact ⟨rfl, N0, e1⟩
set_option maxRecDepth 65536 in
set_option maxHeartbeats 40000000 in
theorem rm0_75 (l : Launch) (Z : State) (a0 : Array Value) (hw : ∀ d ∈ tables_1, d.before a0 Z = true) (w : Nat → Addr) (h0 : Heap) (n0 : Nat) (Z0 : n0 ≤ h0.size) (K : Kon Z h0 w) (u0 u1 u2 : Int32) (hf27 : (u2 &&& (1 : Int32)) = (0 : Int32)) (hf28 : ¬ (u1 = (0 : Int32))) (hf29 : u1 < (0 : Int32)) (hk0 : (u0 &&& (7 : Int32)) = (6 : Int32)) :
    OM l Z x code maxLocals ret tables_1 room_1 #[(.int u0), (.int u1), (.int u2)] h0 (OP (some (.int (1 : Int32))) n0 h0) := by
  refine MetFree.of_bodySF (plainFor_of_name pn_com_example_licon_licon_search_OperatorTakesPinLaw) hisR ?_
  intro p e s m args below meth c s₁ Bd hml0 hP hK
  obtain ⟨rfl, hZ, hh⟩ := hP
  have hx := Bd.exec
  have hby := Bd.bytes
  have hml : c.maxLocals = 7 := hml0
  have hown : s.vm.findClass "com/example/licon/licon/search/OperatorTakesPinLaw" = some m.cls := findClass_of_methodNamed Bd.named
  have X0 : Stand p l e room_1 s m #[(.int u0), (.int u1), (.int u2)] below meth c s₁ [] 0 0 := Stand.of_body Bd
  have e0 : s₁.heap = h0 := by rw [← hh, Bd.state]; rfl
  have N0 := Fr.nil n0
  have pre0 : ∀ t, Steps p.tables e below (s₁.setTop (mkF m 0 #[.val (.int u0), .val (.int u1), .val (.int u2), .unset, .unset, .unset, .unset] [])) t → Steps p.tables e below (s₁.setTop (entryFrame m #[(.int u0), (.int u1), (.int u2)] maxLocals)) t := fun t k => castTop (by first | rfl | simp [entryFrame, mkF, argsToLocals, Value.category, maxLocals]) k
  obtain ⟨_, _, ⟨T1, L1, k1, n1⟩, -, X1, ⟨Lc1, hQ1, l1, y1, z1⟩, st1⟩ := Jvm.LawKit.callS X0 hx (y := (⟨"com/example/licon/licon/search/OperatorTakesPinLaw", "pick", "(I)Lcom/example/licon/licon/search/Operator;"⟩ : MethodName)) hown (mvT hZ (hw _ (List.mem_of_getElem? (i := 0) rfl))) (mvT hZ (hw _ (List.mem_of_getElem? (i := 1) rfl))) (mvT hZ (hw _ (List.mem_of_getElem? (i := 2) rfl))) (mvT hZ (hw _ (List.mem_of_getElem? (i := 3) rfl))) (by decide) (backOf (W := 0) (rm_pick_71 l Z a0 hw w h0 n0 Z0 K u0 u1 u2) hZ (hw _ (List.mem_of_getElem? (i := 3) rfl)) (hw _ (List.mem_of_getElem? (i := 2) rfl)) (by decide) (by decide)) (g := (mkF m 21 #[.val (.int u0), .val (.int u1), .val (.int u2), .val (.int (6 : Int32)), .val (.int u1), .unset, .unset] [(.int (6 : Int32))])) rfl (by rw [hml]; rfl) (argsL := [(.int (6 : Int32))]) (rest := []) (lenOf pd_28I29Lcom2fexample2flicon2flicon2fsearch2fOperator3b rfl) rfl (by show 2 * 0 + _ ≤ _; exact Nat.le_of_eq rfl) (hb hby at_21) (fun _ _ => ⟨rfl, e0, (by decide : 0 + 0 ≤ _), (by decide : 0 + 0 ≤ _)⟩)
  dsimp only [Pt.U, Pt.locs, Pt.cells, Pt.slots] at X1 l1 y1 z1 st1 hQ1
  subst l1 y1 z1
  obtain ⟨rfl, N1q, e1⟩ := hQ1
  have N1 := Fr.app N0 N1q
  obtain ⟨cq2, kq2, qa2, qb2, qc2⟩ := isOf hZ e1 K.2.2.2.2.2.2.2.2.2.2.2.2.2.2.2.1
  obtain ⟨_, _, ⟨T2, L2, k2, n2⟩, -, X2, ⟨Lc2, hQ2, l2, y2, z2⟩, st2⟩ := X1.virtualBack hx (y := (⟨"com/example/licon/licon/search/Operator", "takes", "(I)Z"⟩ : MethodName)) (z := (⟨"com/example/licon/licon/search/Operator", "takes", "(I)Z"⟩ : MethodName)) hown (mvT hZ (hw _ (List.mem_of_getElem? (i := 7) rfl))) (mvT hZ (hw _ (List.mem_of_getElem? (i := 8) rfl))) (notFace_of_selects (args := #[]) (mvT hZ (hw _ (List.mem_of_getElem? (i := 10) rfl)))) (mvT hZ (hw _ (List.mem_of_getElem? (i := 10) rfl))) (mvT hZ (hw _ (List.mem_of_getElem? (i := 9) rfl))) (by decide) (backOf (W := 0) (rm_takes_74 l Z a0 hw w h0 n0 Z0 K u0 u1 u2 hf29) hZ (hw _ (List.mem_of_getElem? (i := 11) rfl)) (hw _ (List.mem_of_getElem? (i := 5) rfl)) (by decide) (by decide)) qa2 qc2 (g := (mkF m 84 #[.val (.int u0), .val (.int u1), .val (.int u2), .val (.int (6 : Int32)), .val (.int u1), .val (.ref (w 7)), .val (.int (0 : Int32))] [(.int u1), (.ref (w 7))])) rfl (by rw [hml]; rfl) (Steps.refl _) (argsL := [(.int u1)]) (rest := []) (lenOf pd_28I29Z rfl) rfl (by show 2 * 0 + _ ≤ _; exact Nat.le_of_eq rfl) (hb hby at_84) (fun _ _ => ⟨rfl, e1, (by decide : 0 + 0 ≤ _), (by decide : 0 + 0 ≤ _)⟩)
  dsimp only [Pt.U, Pt.locs, Pt.cells, Pt.slots] at X2 l2 y2 z2 st2 hQ2
  subst l2 y2 z2
  obtain ⟨rfl, N2q, e2⟩ := hQ2
  have N2 := Fr.app N1 N2q
  obtain ⟨fs, hr, hrun, hended, hW, hsame⟩ := X2.leave (v := (some (.int (1 : Int32)))) (fun h => by rw [Bd.returns] at h; cases h)
  refine ⟨_, _, pre0 _ ?_, hrun, hended, _, _, rfl, ?_, ⟨_, rfl⟩, hW, hsame.mono (by decide) (by decide)⟩
  · show Steps p.tables e below (s₁.setTop (mkF m 0 #[.val (.int u0), .val (.int u1), .val (.int u2), .unset, .unset, .unset, .unset] [])) _
    refine XS.iloadN X0.here hx rfl (hb hby at_0) rfl ?_
    refine XS.bipush X0.here hx rfl (hb hby at_1) ?_
    refine XS.iand X0.here hx rfl (hb hby at_3) rfl ?_
    show Steps p.tables e below (s₁.setTop (mkF m 4 #[.val (.int u0), .val (.int u1), .val (.int u2), .unset, .unset, .unset, .unset] [(.int (u0 &&& (7 : Int32)))])) _
    rw [hk0]
    show Steps p.tables e below (s₁.setTop (mkF m 4 #[.val (.int u0), .val (.int u1), .val (.int u2), .unset, .unset, .unset, .unset] [(.int (6 : Int32))])) _
    refine XS.istoreN X0.here hx rfl (hb hby at_4) rfl (l' := #[.val (.int u0), .val (.int u1), .val (.int u2), .val (.int (6 : Int32)), .unset, .unset, .unset]) rfl ?_
    refine XS.iloadN X0.here hx rfl (hb hby at_5) rfl ?_
    refine XS.iconst X0.here hx rfl (hb hby at_6) ?_
    refine XS.iand X0.here hx rfl (hb hby at_7) rfl ?_
    show Steps p.tables e below (s₁.setTop (mkF m 8 #[.val (.int u0), .val (.int u1), .val (.int u2), .val (.int (6 : Int32)), .unset, .unset, .unset] [(.int (u2 &&& (1 : Int32)))])) _
    refine XS.ifYes X0.here hx rfl (pc0 := 8) (pc' := 17) rfl (hb hby at_8) rfl ((if0 _ _).trans (teq hf27).1) (by decide) (by decide) ?_
    refine XS.iloadN X0.here hx rfl (hb hby at_17) rfl ?_
    refine XS.istore X0.here hx rfl (hb hby at_18) rfl (l' := #[.val (.int u0), .val (.int u1), .val (.int u2), .val (.int (6 : Int32)), .val (.int u1), .unset, .unset]) rfl ?_
    refine XS.iloadN X0.here hx rfl (hb hby at_20) rfl ?_
    show Steps p.tables e below (s₁.setTop (mkF m 21 #[.val (.int u0), .val (.int u1), .val (.int u2), .val (.int (6 : Int32)), .val (.int u1), .unset, .unset] [(.int (6 : Int32))])) _
    refine st1 _ ?_
    refine XS.astore X1.here hx rfl (hb hby at_24) rfl rfl (l' := #[.val (.int u0), .val (.int u1), .val (.int u2), .val (.int (6 : Int32)), .val (.int u1), .val (.ref (w 7)), .unset]) rfl ?_
    refine XS.iloadN X1.here hx rfl (hb hby at_26) rfl ?_
    refine XS.iconst X1.here hx rfl (hb hby at_27) ?_
    show Steps p.tables e below (T1.setTop (mkF m 28 #[.val (.int u0), .val (.int u1), .val (.int u2), .val (.int (6 : Int32)), .val (.int u1), .val (.ref (w 7)), .unset] [(.int (4 : Int32)), (.int (6 : Int32))])) _
    refine XS.icmpYes X1.here hx rfl (pc0 := 28) (pc' := 47) rfl (hb hby at_28) rfl (flt (by decide : ¬ ((6 : Int32) < (4 : Int32)))).2.1 (by decide) (by decide) ?_
    refine XS.iloadN X1.here hx rfl (hb hby at_47) rfl ?_
    refine XS.bipush X1.here hx rfl (hb hby at_48) ?_
    refine XS.icmpYes X1.here hx rfl (pc0 := 50) (pc' := 68) rfl (hb hby at_50) rfl (flt (by decide : ¬ ((6 : Int32) < (6 : Int32)))).2.1 (by decide) (by decide) ?_
    show Steps p.tables e below (T1.setTop (mkF m 68 #[.val (.int u0), .val (.int u1), .val (.int u2), .val (.int (6 : Int32)), .val (.int u1), .val (.ref (w 7)), .unset] [])) _
    refine XS.iload X1.here hx rfl (hb hby at_68) rfl ?_
    refine XS.ifYes X1.here hx rfl (pc0 := 70) (pc' := 77) rfl (hb hby at_70) rfl ((if0 _ _).trans (feq hf28).2) (by decide) (by decide) ?_
    refine XS.iconst X1.here hx rfl (hb hby at_77) ?_
    refine XS.istore X1.here hx rfl (hb hby at_78) rfl (l' := #[.val (.int u0), .val (.int u1), .val (.int u2), .val (.int (6 : Int32)), .val (.int u1), .val (.ref (w 7)), .val (.int (0 : Int32))]) rfl ?_
    show Steps p.tables e below (T1.setTop (mkF m 80 #[.val (.int u0), .val (.int u1), .val (.int u2), .val (.int (6 : Int32)), .val (.int u1), .val (.ref (w 7)), .val (.int (0 : Int32))] [])) _
    refine XS.aload X1.here hx rfl (hb hby at_80) rfl rfl ?_
    refine XS.iload X1.here hx rfl (hb hby at_82) rfl ?_
    refine st2.trans ?_
    refine XS.iload X2.here hx rfl (hb hby at_87) rfl ?_
    show Steps p.tables e below (T2.setTop (mkF m 89 #[.val (.int u0), .val (.int u1), .val (.int u2), .val (.int (6 : Int32)), .val (.int u1), .val (.ref (w 7)), .val (.int (0 : Int32))] [(.int (0 : Int32)), (.int (0 : Int32))])) _
    refine XS.icmpNo X2.here hx rfl (hb hby at_89) rfl (teq (by decide : (0 : Int32) = (0 : Int32))).2 ?_
    refine XS.iconst X2.here hx rfl (hb hby at_92) ?_
    refine XS.goto X2.here hx rfl (pc0 := 93) (pc' := 97) rfl (hb hby at_93) (by decide) (by decide) ?_
    show Steps p.tables e below (T2.setTop (mkF m 97 #[.val (.int u0), .val (.int u1), .val (.int u2), .val (.int (6 : Int32)), .val (.int u1), .val (.ref (w 7)), .val (.int (0 : Int32))] [(.int (1 : Int32))])) _
    exact retN X2 hx (t := .boolean) Bd.returns (by simp) (hb hby at_97) hr
  · exact ⟨rfl, N2, e2⟩
set_option maxRecDepth 65536 in
set_option maxHeartbeats 40000000 in
theorem rm_takes_76 (l : Launch) (Z : State) (a0 : Array Value) (hw : ∀ d ∈ tables_1, d.before a0 Z = true) (w : Nat → Addr) (h0 : Heap) (n0 : Nat) (Z0 : n0 ≤ h0.size) (K : Kon Z h0 w) (u0 u1 u2 : Int32) (hf28 : ¬ (u1 = (0 : Int32))) (hf29 : ¬ (u1 < (0 : Int32))) :
    OM l Z (⟨"com/example/licon/licon/search/Operator", "takes", "(I)Z"⟩ : MethodName) prog_9_method_4_code 2 (some .boolean) [] ({ frames := 0, cells := 0, slots := 0, locals := 0 } : Room) #[(.ref (w 7)), (.int u1)] h0 (OP (some (.int (0 : Int32))) n0 h0) := by
  refine MetFree.of_bodySF (plainFor_of_name pn_com_example_licon_licon_search_Operator) hisR ?_
  intro p e s m args below meth c s₁ Bd hml0 hP hK
  obtain ⟨rfl, hZ, hh⟩ := hP
  have hx := Bd.exec
  have hby := Bd.bytes
  have hml : c.maxLocals = 2 := hml0
  have hown : s.vm.findClass "com/example/licon/licon/search/Operator" = some m.cls := findClass_of_methodNamed Bd.named
  have X0 : Stand p l e ({ frames := 0, cells := 0, slots := 0, locals := 0 } : Room) s m #[(.ref (w 7)), (.int u1)] below meth c s₁ [] 0 0 := Stand.of_body Bd
  have e0 : s₁.heap = h0 := by rw [← hh, Bd.state]; rfl
  have N0 := Fr.nil n0
  have pre0 : ∀ t, Steps p.tables e below (s₁.setTop (mkF m 0 #[.val (.ref (w 7)), .val (.int u1)] [])) t → Steps p.tables e below (s₁.setTop (entryFrame m #[(.ref (w 7)), (.int u1)] 2)) t := fun t k => castTop (by first | rfl | simp [entryFrame, mkF, argsToLocals, Value.category]) k
  obtain ⟨T1, X1, e1, st1⟩ := getF X0 hx hZ hown (host := "") (Or.inl (hw _ (List.mem_of_getElem? (i := 12) rfl))) Via.refl e0 K.2.2.2.2.2.2.2.2.2.2.2.2.2.2.2.2.2.2.2.2.2.2.2.2.2.2.2.2.2.2.1 (g := (mkF m 2 #[.val (.ref (w 7)), .val (.int u1)] [(.ref (w 7)), (.int u1)])) rfl rfl (hb hby d_prog_9_method_4_code_2)
  obtain ⟨T2, X2, e2, st2⟩ := getF X1 hx hZ hown (host := "") (Or.inl (hw _ (List.mem_of_getElem? (i := 14) rfl))) Via.refl e1 K.2.2.2.2.2.2.2.2.2.2.2.2.2.2.2.2.2.2.2.2.2.2.2.2.2.2.2.2.2.2.2 (g := (mkF m 10 #[.val (.ref (w 7)), .val (.int u1)] [(.ref (w 7)), (.int u1)])) rfl rfl (hb hby d_prog_9_method_4_code_10)
  obtain ⟨fs, hr, hrun, hended, hW, hsame⟩ := X2.leave (v := (some (.int (0 : Int32)))) (fun h => by rw [Bd.returns] at h; cases h)
  refine ⟨_, _, pre0 _ ?_, hrun, hended, _, _, rfl, ?_, ⟨_, rfl⟩, hW, hsame.mono (by decide) (by decide)⟩
  · show Steps p.tables e below (s₁.setTop (mkF m 0 #[.val (.ref (w 7)), .val (.int u1)] [])) _
    refine XS.iloadN X0.here hx rfl (hb hby d_prog_9_method_4_code_0) rfl ?_
    refine XS.aloadN X0.here hx rfl (hb hby d_prog_9_method_4_code_1) rfl rfl ?_
    refine st1 _ ?_
    refine XS.icmpNo X1.here hx rfl (hb hby d_prog_9_method_4_code_5) rfl (flt hf29).1 ?_
    show Steps p.tables e below (T1.setTop (mkF m 8 #[.val (.ref (w 7)), .val (.int u1)] [])) _
    refine XS.iloadN X1.here hx rfl (hb hby d_prog_9_method_4_code_8) rfl ?_
    refine XS.aloadN X1.here hx rfl (hb hby d_prog_9_method_4_code_9) rfl rfl ?_
    refine st2 _ ?_
    refine XS.icmpYes X2.here hx rfl (pc0 := 13) (pc' := 20) rfl (hb hby d_prog_9_method_4_code_13) rfl (tlt (by have z0 := mt Int32.toInt_inj.mp hf28; have z1 := mt Int32.lt_iff_toInt_lt.mpr hf29; have l0 : (0 : Int32).toInt = 0 := rfl; have r0 := rng32 u1; exact Int32.lt_iff_toInt_lt.mpr (by omega) : (0 : Int32) < u1)).2.2.1 (by decide) (by decide) ?_
    show Steps p.tables e below (T2.setTop (mkF m 20 #[.val (.ref (w 7)), .val (.int u1)] [])) _
    refine XS.iconst X2.here hx rfl (hb hby d_prog_9_method_4_code_20) ?_
    show Steps p.tables e below (T2.setTop (mkF m 21 #[.val (.ref (w 7)), .val (.int u1)] [(.int (0 : Int32))])) _
    exact retN X2 hx (t := .boolean) Bd.returns (by simp) (hb hby d_prog_9_method_4_code_21) hr
  · exact ⟨rfl, N0, e2⟩
set_option maxRecDepth 65536 in
set_option maxHeartbeats 40000000 in
theorem rm0_77 (l : Launch) (Z : State) (a0 : Array Value) (hw : ∀ d ∈ tables_1, d.before a0 Z = true) (w : Nat → Addr) (h0 : Heap) (n0 : Nat) (Z0 : n0 ≤ h0.size) (K : Kon Z h0 w) (u0 u1 u2 : Int32) (hf27 : (u2 &&& (1 : Int32)) = (0 : Int32)) (hf28 : ¬ (u1 = (0 : Int32))) (hf29 : ¬ (u1 < (0 : Int32))) (hk0 : (u0 &&& (7 : Int32)) = (6 : Int32)) :
    OM l Z x code maxLocals ret tables_1 room_1 #[(.int u0), (.int u1), (.int u2)] h0 (OP (some (.int (1 : Int32))) n0 h0) := by
  refine MetFree.of_bodySF (plainFor_of_name pn_com_example_licon_licon_search_OperatorTakesPinLaw) hisR ?_
  intro p e s m args below meth c s₁ Bd hml0 hP hK
  obtain ⟨rfl, hZ, hh⟩ := hP
  have hx := Bd.exec
  have hby := Bd.bytes
  have hml : c.maxLocals = 7 := hml0
  have hown : s.vm.findClass "com/example/licon/licon/search/OperatorTakesPinLaw" = some m.cls := findClass_of_methodNamed Bd.named
  have X0 : Stand p l e room_1 s m #[(.int u0), (.int u1), (.int u2)] below meth c s₁ [] 0 0 := Stand.of_body Bd
  have e0 : s₁.heap = h0 := by rw [← hh, Bd.state]; rfl
  have N0 := Fr.nil n0
  have pre0 : ∀ t, Steps p.tables e below (s₁.setTop (mkF m 0 #[.val (.int u0), .val (.int u1), .val (.int u2), .unset, .unset, .unset, .unset] [])) t → Steps p.tables e below (s₁.setTop (entryFrame m #[(.int u0), (.int u1), (.int u2)] maxLocals)) t := fun t k => castTop (by first | rfl | simp [entryFrame, mkF, argsToLocals, Value.category, maxLocals]) k
  obtain ⟨_, _, ⟨T1, L1, k1, n1⟩, -, X1, ⟨Lc1, hQ1, l1, y1, z1⟩, st1⟩ := Jvm.LawKit.callS X0 hx (y := (⟨"com/example/licon/licon/search/OperatorTakesPinLaw", "pick", "(I)Lcom/example/licon/licon/search/Operator;"⟩ : MethodName)) hown (mvT hZ (hw _ (List.mem_of_getElem? (i := 0) rfl))) (mvT hZ (hw _ (List.mem_of_getElem? (i := 1) rfl))) (mvT hZ (hw _ (List.mem_of_getElem? (i := 2) rfl))) (mvT hZ (hw _ (List.mem_of_getElem? (i := 3) rfl))) (by decide) (backOf (W := 0) (rm_pick_71 l Z a0 hw w h0 n0 Z0 K u0 u1 u2) hZ (hw _ (List.mem_of_getElem? (i := 3) rfl)) (hw _ (List.mem_of_getElem? (i := 2) rfl)) (by decide) (by decide)) (g := (mkF m 21 #[.val (.int u0), .val (.int u1), .val (.int u2), .val (.int (6 : Int32)), .val (.int u1), .unset, .unset] [(.int (6 : Int32))])) rfl (by rw [hml]; rfl) (argsL := [(.int (6 : Int32))]) (rest := []) (lenOf pd_28I29Lcom2fexample2flicon2flicon2fsearch2fOperator3b rfl) rfl (by show 2 * 0 + _ ≤ _; exact Nat.le_of_eq rfl) (hb hby at_21) (fun _ _ => ⟨rfl, e0, (by decide : 0 + 0 ≤ _), (by decide : 0 + 0 ≤ _)⟩)
  dsimp only [Pt.U, Pt.locs, Pt.cells, Pt.slots] at X1 l1 y1 z1 st1 hQ1
  subst l1 y1 z1
  obtain ⟨rfl, N1q, e1⟩ := hQ1
  have N1 := Fr.app N0 N1q
  obtain ⟨cq2, kq2, qa2, qb2, qc2⟩ := isOf hZ e1 K.2.2.2.2.2.2.2.2.2.2.2.2.2.2.2.1
  obtain ⟨_, _, ⟨T2, L2, k2, n2⟩, -, X2, ⟨Lc2, hQ2, l2, y2, z2⟩, st2⟩ := X1.virtualBack hx (y := (⟨"com/example/licon/licon/search/Operator", "takes", "(I)Z"⟩ : MethodName)) (z := (⟨"com/example/licon/licon/search/Operator", "takes", "(I)Z"⟩ : MethodName)) hown (mvT hZ (hw _ (List.mem_of_getElem? (i := 7) rfl))) (mvT hZ (hw _ (List.mem_of_getElem? (i := 8) rfl))) (notFace_of_selects (args := #[]) (mvT hZ (hw _ (List.mem_of_getElem? (i := 10) rfl)))) (mvT hZ (hw _ (List.mem_of_getElem? (i := 10) rfl))) (mvT hZ (hw _ (List.mem_of_getElem? (i := 9) rfl))) (by decide) (backOf (W := 0) (rm_takes_76 l Z a0 hw w h0 n0 Z0 K u0 u1 u2 hf28 hf29) hZ (hw _ (List.mem_of_getElem? (i := 11) rfl)) (hw _ (List.mem_of_getElem? (i := 5) rfl)) (by decide) (by decide)) qa2 qc2 (g := (mkF m 84 #[.val (.int u0), .val (.int u1), .val (.int u2), .val (.int (6 : Int32)), .val (.int u1), .val (.ref (w 7)), .val (.int (0 : Int32))] [(.int u1), (.ref (w 7))])) rfl (by rw [hml]; rfl) (Steps.refl _) (argsL := [(.int u1)]) (rest := []) (lenOf pd_28I29Z rfl) rfl (by show 2 * 0 + _ ≤ _; exact Nat.le_of_eq rfl) (hb hby at_84) (fun _ _ => ⟨rfl, e1, (by decide : 0 + 0 ≤ _), (by decide : 0 + 0 ≤ _)⟩)
  dsimp only [Pt.U, Pt.locs, Pt.cells, Pt.slots] at X2 l2 y2 z2 st2 hQ2
  subst l2 y2 z2
  obtain ⟨rfl, N2q, e2⟩ := hQ2
  have N2 := Fr.app N1 N2q
  obtain ⟨fs, hr, hrun, hended, hW, hsame⟩ := X2.leave (v := (some (.int (1 : Int32)))) (fun h => by rw [Bd.returns] at h; cases h)
  refine ⟨_, _, pre0 _ ?_, hrun, hended, _, _, rfl, ?_, ⟨_, rfl⟩, hW, hsame.mono (by decide) (by decide)⟩
  · show Steps p.tables e below (s₁.setTop (mkF m 0 #[.val (.int u0), .val (.int u1), .val (.int u2), .unset, .unset, .unset, .unset] [])) _
    refine XS.iloadN X0.here hx rfl (hb hby at_0) rfl ?_
    refine XS.bipush X0.here hx rfl (hb hby at_1) ?_
    refine XS.iand X0.here hx rfl (hb hby at_3) rfl ?_
    show Steps p.tables e below (s₁.setTop (mkF m 4 #[.val (.int u0), .val (.int u1), .val (.int u2), .unset, .unset, .unset, .unset] [(.int (u0 &&& (7 : Int32)))])) _
    rw [hk0]
    show Steps p.tables e below (s₁.setTop (mkF m 4 #[.val (.int u0), .val (.int u1), .val (.int u2), .unset, .unset, .unset, .unset] [(.int (6 : Int32))])) _
    refine XS.istoreN X0.here hx rfl (hb hby at_4) rfl (l' := #[.val (.int u0), .val (.int u1), .val (.int u2), .val (.int (6 : Int32)), .unset, .unset, .unset]) rfl ?_
    refine XS.iloadN X0.here hx rfl (hb hby at_5) rfl ?_
    refine XS.iconst X0.here hx rfl (hb hby at_6) ?_
    refine XS.iand X0.here hx rfl (hb hby at_7) rfl ?_
    show Steps p.tables e below (s₁.setTop (mkF m 8 #[.val (.int u0), .val (.int u1), .val (.int u2), .val (.int (6 : Int32)), .unset, .unset, .unset] [(.int (u2 &&& (1 : Int32)))])) _
    refine XS.ifYes X0.here hx rfl (pc0 := 8) (pc' := 17) rfl (hb hby at_8) rfl ((if0 _ _).trans (teq hf27).1) (by decide) (by decide) ?_
    refine XS.iloadN X0.here hx rfl (hb hby at_17) rfl ?_
    refine XS.istore X0.here hx rfl (hb hby at_18) rfl (l' := #[.val (.int u0), .val (.int u1), .val (.int u2), .val (.int (6 : Int32)), .val (.int u1), .unset, .unset]) rfl ?_
    refine XS.iloadN X0.here hx rfl (hb hby at_20) rfl ?_
    show Steps p.tables e below (s₁.setTop (mkF m 21 #[.val (.int u0), .val (.int u1), .val (.int u2), .val (.int (6 : Int32)), .val (.int u1), .unset, .unset] [(.int (6 : Int32))])) _
    refine st1 _ ?_
    refine XS.astore X1.here hx rfl (hb hby at_24) rfl rfl (l' := #[.val (.int u0), .val (.int u1), .val (.int u2), .val (.int (6 : Int32)), .val (.int u1), .val (.ref (w 7)), .unset]) rfl ?_
    refine XS.iloadN X1.here hx rfl (hb hby at_26) rfl ?_
    refine XS.iconst X1.here hx rfl (hb hby at_27) ?_
    show Steps p.tables e below (T1.setTop (mkF m 28 #[.val (.int u0), .val (.int u1), .val (.int u2), .val (.int (6 : Int32)), .val (.int u1), .val (.ref (w 7)), .unset] [(.int (4 : Int32)), (.int (6 : Int32))])) _
    refine XS.icmpYes X1.here hx rfl (pc0 := 28) (pc' := 47) rfl (hb hby at_28) rfl (flt (by decide : ¬ ((6 : Int32) < (4 : Int32)))).2.1 (by decide) (by decide) ?_
    refine XS.iloadN X1.here hx rfl (hb hby at_47) rfl ?_
    refine XS.bipush X1.here hx rfl (hb hby at_48) ?_
    refine XS.icmpYes X1.here hx rfl (pc0 := 50) (pc' := 68) rfl (hb hby at_50) rfl (flt (by decide : ¬ ((6 : Int32) < (6 : Int32)))).2.1 (by decide) (by decide) ?_
    show Steps p.tables e below (T1.setTop (mkF m 68 #[.val (.int u0), .val (.int u1), .val (.int u2), .val (.int (6 : Int32)), .val (.int u1), .val (.ref (w 7)), .unset] [])) _
    refine XS.iload X1.here hx rfl (hb hby at_68) rfl ?_
    refine XS.ifYes X1.here hx rfl (pc0 := 70) (pc' := 77) rfl (hb hby at_70) rfl ((if0 _ _).trans (feq hf28).2) (by decide) (by decide) ?_
    refine XS.iconst X1.here hx rfl (hb hby at_77) ?_
    refine XS.istore X1.here hx rfl (hb hby at_78) rfl (l' := #[.val (.int u0), .val (.int u1), .val (.int u2), .val (.int (6 : Int32)), .val (.int u1), .val (.ref (w 7)), .val (.int (0 : Int32))]) rfl ?_
    show Steps p.tables e below (T1.setTop (mkF m 80 #[.val (.int u0), .val (.int u1), .val (.int u2), .val (.int (6 : Int32)), .val (.int u1), .val (.ref (w 7)), .val (.int (0 : Int32))] [])) _
    refine XS.aload X1.here hx rfl (hb hby at_80) rfl rfl ?_
    refine XS.iload X1.here hx rfl (hb hby at_82) rfl ?_
    refine st2.trans ?_
    refine XS.iload X2.here hx rfl (hb hby at_87) rfl ?_
    show Steps p.tables e below (T2.setTop (mkF m 89 #[.val (.int u0), .val (.int u1), .val (.int u2), .val (.int (6 : Int32)), .val (.int u1), .val (.ref (w 7)), .val (.int (0 : Int32))] [(.int (0 : Int32)), (.int (0 : Int32))])) _
    refine XS.icmpNo X2.here hx rfl (hb hby at_89) rfl (teq (by decide : (0 : Int32) = (0 : Int32))).2 ?_
    refine XS.iconst X2.here hx rfl (hb hby at_92) ?_
    refine XS.goto X2.here hx rfl (pc0 := 93) (pc' := 97) rfl (hb hby at_93) (by decide) (by decide) ?_
    show Steps p.tables e below (T2.setTop (mkF m 97 #[.val (.int u0), .val (.int u1), .val (.int u2), .val (.int (6 : Int32)), .val (.int u1), .val (.ref (w 7)), .val (.int (0 : Int32))] [(.int (1 : Int32))])) _
    exact retN X2 hx (t := .boolean) Bd.returns (by simp) (hb hby at_97) hr
  · exact ⟨rfl, N2, e2⟩
set_option maxRecDepth 65536 in
set_option maxHeartbeats 40000000 in
theorem rm_takes_78 (l : Launch) (Z : State) (a0 : Array Value) (hw : ∀ d ∈ tables_1, d.before a0 Z = true) (w : Nat → Addr) (h0 : Heap) (n0 : Nat) (Z0 : n0 ≤ h0.size) (K : Kon Z h0 w) (u0 u1 u2 : Int32) (hf30 : (u1 % (4 : Int32)) = (0 : Int32)) :
    OM l Z (⟨"com/example/licon/licon/search/Operator", "takes", "(I)Z"⟩ : MethodName) prog_9_method_4_code 2 (some .boolean) [] ({ frames := 0, cells := 0, slots := 0, locals := 0 } : Room) #[(.ref (w 7)), (.int (u1 % (4 : Int32)))] h0 (OP (some (.int (1 : Int32))) n0 h0) := by
  refine MetFree.of_bodySF (plainFor_of_name pn_com_example_licon_licon_search_Operator) hisR ?_
  intro p e s m args below meth c s₁ Bd hml0 hP hK
  obtain ⟨rfl, hZ, hh⟩ := hP
  have hx := Bd.exec
  have hby := Bd.bytes
  have hml : c.maxLocals = 2 := hml0
  have hown : s.vm.findClass "com/example/licon/licon/search/Operator" = some m.cls := findClass_of_methodNamed Bd.named
  have X0 : Stand p l e ({ frames := 0, cells := 0, slots := 0, locals := 0 } : Room) s m #[(.ref (w 7)), (.int (u1 % (4 : Int32)))] below meth c s₁ [] 0 0 := Stand.of_body Bd
  have e0 : s₁.heap = h0 := by rw [← hh, Bd.state]; rfl
  have N0 := Fr.nil n0
  have pre0 : ∀ t, Steps p.tables e below (s₁.setTop (mkF m 0 #[.val (.ref (w 7)), .val (.int (u1 % (4 : Int32)))] [])) t → Steps p.tables e below (s₁.setTop (entryFrame m #[(.ref (w 7)), (.int (u1 % (4 : Int32)))] 2)) t := fun t k => castTop (by first | rfl | simp [entryFrame, mkF, argsToLocals, Value.category]) k
  obtain ⟨T1, X1, e1, st1⟩ := getF X0 hx hZ hown (host := "") (Or.inl (hw _ (List.mem_of_getElem? (i := 12) rfl))) Via.refl e0 K.2.2.2.2.2.2.2.2.2.2.2.2.2.2.2.2.2.2.2.2.2.2.2.2.2.2.2.2.2.2.1 (g := (mkF m 2 #[.val (.ref (w 7)), .val (.int (u1 % (4 : Int32)))] [(.ref (w 7)), (.int (u1 % (4 : Int32)))])) rfl rfl (hb hby d_prog_9_method_4_code_2)
  obtain ⟨T2, X2, e2, st2⟩ := getF X1 hx hZ hown (host := "") (Or.inl (hw _ (List.mem_of_getElem? (i := 14) rfl))) Via.refl e1 K.2.2.2.2.2.2.2.2.2.2.2.2.2.2.2.2.2.2.2.2.2.2.2.2.2.2.2.2.2.2.2 (g := (mkF m 10 #[.val (.ref (w 7)), .val (.int (u1 % (4 : Int32)))] [(.ref (w 7)), (.int (u1 % (4 : Int32)))])) rfl rfl (hb hby d_prog_9_method_4_code_10)
  obtain ⟨fs, hr, hrun, hended, hW, hsame⟩ := X2.leave (v := (some (.int (1 : Int32)))) (fun h => by rw [Bd.returns] at h; cases h)
  refine ⟨_, _, pre0 _ ?_, hrun, hended, _, _, rfl, ?_, ⟨_, rfl⟩, hW, hsame.mono (by decide) (by decide)⟩
  · show Steps p.tables e below (s₁.setTop (mkF m 0 #[.val (.ref (w 7)), .val (.int (u1 % (4 : Int32)))] [])) _
    refine XS.iloadN X0.here hx rfl (hb hby d_prog_9_method_4_code_0) rfl ?_
    refine XS.aloadN X0.here hx rfl (hb hby d_prog_9_method_4_code_1) rfl rfl ?_
    refine st1 _ ?_
    refine XS.icmpNo X1.here hx rfl (hb hby d_prog_9_method_4_code_5) rfl (flt (by have z0 := congrArg Int32.toInt hf30; have l0 : (0 : Int32).toInt = 0 := rfl; have r0 := rng32 (u1 % (4 : Int32)); exact fun hh => absurd (Int32.lt_iff_toInt_lt.mp hh) (by omega) : ¬ ((u1 % (4 : Int32)) < (0 : Int32)))).1 ?_
    show Steps p.tables e below (T1.setTop (mkF m 8 #[.val (.ref (w 7)), .val (.int (u1 % (4 : Int32)))] [])) _
    refine XS.iloadN X1.here hx rfl (hb hby d_prog_9_method_4_code_8) rfl ?_
    refine XS.aloadN X1.here hx rfl (hb hby d_prog_9_method_4_code_9) rfl rfl ?_
    refine st2 _ ?_
    refine XS.icmpNo X2.here hx rfl (hb hby d_prog_9_method_4_code_13) rfl (flt (by have z0 := congrArg Int32.toInt hf30; have l0 : (0 : Int32).toInt = 0 := rfl; have r0 := rng32 (u1 % (4 : Int32)); exact fun hh => absurd (Int32.lt_iff_toInt_lt.mp hh) (by omega) : ¬ ((0 : Int32) < (u1 % (4 : Int32))))).2.2.1 ?_
    show Steps p.tables e below (T2.setTop (mkF m 16 #[.val (.ref (w 7)), .val (.int (u1 % (4 : Int32)))] [])) _
    refine XS.iconst X2.here hx rfl (hb hby d_prog_9_method_4_code_16) ?_
    refine XS.goto X2.here hx rfl (pc0 := 17) (pc' := 21) rfl (hb hby d_prog_9_method_4_code_17) (by decide) (by decide) ?_
    show Steps p.tables e below (T2.setTop (mkF m 21 #[.val (.ref (w 7)), .val (.int (u1 % (4 : Int32)))] [(.int (1 : Int32))])) _
    exact retN X2 hx (t := .boolean) Bd.returns (by simp) (hb hby d_prog_9_method_4_code_21) hr
  · exact ⟨rfl, N0, e2⟩
set_option maxRecDepth 65536 in
set_option maxHeartbeats 40000000 in
theorem rm0_79 (l : Launch) (Z : State) (a0 : Array Value) (hw : ∀ d ∈ tables_1, d.before a0 Z = true) (w : Nat → Addr) (h0 : Heap) (n0 : Nat) (Z0 : n0 ≤ h0.size) (K : Kon Z h0 w) (u0 u1 u2 : Int32) (hf27 : ¬ ((u2 &&& (1 : Int32)) = (0 : Int32))) (hf30 : (u1 % (4 : Int32)) = (0 : Int32)) (hk0 : (u0 &&& (7 : Int32)) = (6 : Int32)) :
    OM l Z x code maxLocals ret tables_1 room_1 #[(.int u0), (.int u1), (.int u2)] h0 (OP (some (.int (1 : Int32))) n0 h0) := by
  refine MetFree.of_bodySF (plainFor_of_name pn_com_example_licon_licon_search_OperatorTakesPinLaw) hisR ?_
  intro p e s m args below meth c s₁ Bd hml0 hP hK
  obtain ⟨rfl, hZ, hh⟩ := hP
  have hx := Bd.exec
  have hby := Bd.bytes
  have hml : c.maxLocals = 7 := hml0
  have hown : s.vm.findClass "com/example/licon/licon/search/OperatorTakesPinLaw" = some m.cls := findClass_of_methodNamed Bd.named
  have X0 : Stand p l e room_1 s m #[(.int u0), (.int u1), (.int u2)] below meth c s₁ [] 0 0 := Stand.of_body Bd
  have e0 : s₁.heap = h0 := by rw [← hh, Bd.state]; rfl
  have N0 := Fr.nil n0
  have pre0 : ∀ t, Steps p.tables e below (s₁.setTop (mkF m 0 #[.val (.int u0), .val (.int u1), .val (.int u2), .unset, .unset, .unset, .unset] [])) t → Steps p.tables e below (s₁.setTop (entryFrame m #[(.int u0), (.int u1), (.int u2)] maxLocals)) t := fun t k => castTop (by first | rfl | simp [entryFrame, mkF, argsToLocals, Value.category, maxLocals]) k
  obtain ⟨_, _, ⟨T1, L1, k1, n1⟩, -, X1, ⟨Lc1, hQ1, l1, y1, z1⟩, st1⟩ := Jvm.LawKit.callS X0 hx (y := (⟨"com/example/licon/licon/search/OperatorTakesPinLaw", "pick", "(I)Lcom/example/licon/licon/search/Operator;"⟩ : MethodName)) hown (mvT hZ (hw _ (List.mem_of_getElem? (i := 0) rfl))) (mvT hZ (hw _ (List.mem_of_getElem? (i := 1) rfl))) (mvT hZ (hw _ (List.mem_of_getElem? (i := 2) rfl))) (mvT hZ (hw _ (List.mem_of_getElem? (i := 3) rfl))) (by decide) (backOf (W := 0) (rm_pick_71 l Z a0 hw w h0 n0 Z0 K u0 u1 u2) hZ (hw _ (List.mem_of_getElem? (i := 3) rfl)) (hw _ (List.mem_of_getElem? (i := 2) rfl)) (by decide) (by decide)) (g := (mkF m 21 #[.val (.int u0), .val (.int u1), .val (.int u2), .val (.int (6 : Int32)), .val (.int (u1 % (4 : Int32))), .unset, .unset] [(.int (6 : Int32))])) rfl (by rw [hml]; rfl) (argsL := [(.int (6 : Int32))]) (rest := []) (lenOf pd_28I29Lcom2fexample2flicon2flicon2fsearch2fOperator3b rfl) rfl (by show 2 * 0 + _ ≤ _; exact Nat.le_of_eq rfl) (hb hby at_21) (fun _ _ => ⟨rfl, e0, (by decide : 0 + 0 ≤ _), (by decide : 0 + 0 ≤ _)⟩)
  dsimp only [Pt.U, Pt.locs, Pt.cells, Pt.slots] at X1 l1 y1 z1 st1 hQ1
  subst l1 y1 z1
  obtain ⟨rfl, N1q, e1⟩ := hQ1
  have N1 := Fr.app N0 N1q
  obtain ⟨cq2, kq2, qa2, qb2, qc2⟩ := isOf hZ e1 K.2.2.2.2.2.2.2.2.2.2.2.2.2.2.2.1
  obtain ⟨_, _, ⟨T2, L2, k2, n2⟩, -, X2, ⟨Lc2, hQ2, l2, y2, z2⟩, st2⟩ := X1.virtualBack hx (y := (⟨"com/example/licon/licon/search/Operator", "takes", "(I)Z"⟩ : MethodName)) (z := (⟨"com/example/licon/licon/search/Operator", "takes", "(I)Z"⟩ : MethodName)) hown (mvT hZ (hw _ (List.mem_of_getElem? (i := 7) rfl))) (mvT hZ (hw _ (List.mem_of_getElem? (i := 8) rfl))) (notFace_of_selects (args := #[]) (mvT hZ (hw _ (List.mem_of_getElem? (i := 10) rfl)))) (mvT hZ (hw _ (List.mem_of_getElem? (i := 10) rfl))) (mvT hZ (hw _ (List.mem_of_getElem? (i := 9) rfl))) (by decide) (backOf (W := 0) (rm_takes_78 l Z a0 hw w h0 n0 Z0 K u0 u1 u2 hf30) hZ (hw _ (List.mem_of_getElem? (i := 11) rfl)) (hw _ (List.mem_of_getElem? (i := 5) rfl)) (by decide) (by decide)) qa2 qc2 (g := (mkF m 84 #[.val (.int u0), .val (.int u1), .val (.int u2), .val (.int (6 : Int32)), .val (.int (u1 % (4 : Int32))), .val (.ref (w 7)), .val (.int (1 : Int32))] [(.int (u1 % (4 : Int32))), (.ref (w 7))])) rfl (by rw [hml]; rfl) (Steps.refl _) (argsL := [(.int (u1 % (4 : Int32)))]) (rest := []) (lenOf pd_28I29Z rfl) rfl (by show 2 * 0 + _ ≤ _; exact Nat.le_of_eq rfl) (hb hby at_84) (fun _ _ => ⟨rfl, e1, (by decide : 0 + 0 ≤ _), (by decide : 0 + 0 ≤ _)⟩)
  dsimp only [Pt.U, Pt.locs, Pt.cells, Pt.slots] at X2 l2 y2 z2 st2 hQ2
  subst l2 y2 z2
  obtain ⟨rfl, N2q, e2⟩ := hQ2
  have N2 := Fr.app N1 N2q
  obtain ⟨fs, hr, hrun, hended, hW, hsame⟩ := X2.leave (v := (some (.int (1 : Int32)))) (fun h => by rw [Bd.returns] at h; cases h)
  refine ⟨_, _, pre0 _ ?_, hrun, hended, _, _, rfl, ?_, ⟨_, rfl⟩, hW, hsame.mono (by decide) (by decide)⟩
  · show Steps p.tables e below (s₁.setTop (mkF m 0 #[.val (.int u0), .val (.int u1), .val (.int u2), .unset, .unset, .unset, .unset] [])) _
    refine XS.iloadN X0.here hx rfl (hb hby at_0) rfl ?_
    refine XS.bipush X0.here hx rfl (hb hby at_1) ?_
    refine XS.iand X0.here hx rfl (hb hby at_3) rfl ?_
    show Steps p.tables e below (s₁.setTop (mkF m 4 #[.val (.int u0), .val (.int u1), .val (.int u2), .unset, .unset, .unset, .unset] [(.int (u0 &&& (7 : Int32)))])) _
    rw [hk0]
    show Steps p.tables e below (s₁.setTop (mkF m 4 #[.val (.int u0), .val (.int u1), .val (.int u2), .unset, .unset, .unset, .unset] [(.int (6 : Int32))])) _
    refine XS.istoreN X0.here hx rfl (hb hby at_4) rfl (l' := #[.val (.int u0), .val (.int u1), .val (.int u2), .val (.int (6 : Int32)), .unset, .unset, .unset]) rfl ?_
    refine XS.iloadN X0.here hx rfl (hb hby at_5) rfl ?_
    refine XS.iconst X0.here hx rfl (hb hby at_6) ?_
    refine XS.iand X0.here hx rfl (hb hby at_7) rfl ?_
    show Steps p.tables e below (s₁.setTop (mkF m 8 #[.val (.int u0), .val (.int u1), .val (.int u2), .val (.int (6 : Int32)), .unset, .unset, .unset] [(.int (u2 &&& (1 : Int32)))])) _
    refine XS.ifNo X0.here hx rfl (hb hby at_8) rfl ((if0 _ _).trans (feq hf27).1) ?_
    refine XS.iloadN X0.here hx rfl (hb hby at_11) rfl ?_
    refine XS.iconst X0.here hx rfl (hb hby at_12) ?_
    refine iremM X0 hx rfl (hb hby at_13) rfl (by decide : ¬ ((4 : Int32) = (0 : Int32))) ?_
    show Steps p.tables e below (s₁.setTop (mkF m 14 #[.val (.int u0), .val (.int u1), .val (.int u2), .val (.int (6 : Int32)), .unset, .unset, .unset] [(.int (u1 % (4 : Int32)))])) _
    refine XS.goto X0.here hx rfl (pc0 := 14) (pc' := 18) rfl (hb hby at_14) (by decide) (by decide) ?_
    refine XS.istore X0.here hx rfl (hb hby at_18) rfl (l' := #[.val (.int u0), .val (.int u1), .val (.int u2), .val (.int (6 : Int32)), .val (.int (u1 % (4 : Int32))), .unset, .unset]) rfl ?_
    refine XS.iloadN X0.here hx rfl (hb hby at_20) rfl ?_
    refine st1 _ ?_
    show Steps p.tables e below (T1.setTop (mkF m 24 #[.val (.int u0), .val (.int u1), .val (.int u2), .val (.int (6 : Int32)), .val (.int (u1 % (4 : Int32))), .unset, .unset] [(.ref (w 7))])) _
    refine XS.astore X1.here hx rfl (hb hby at_24) rfl rfl (l' := #[.val (.int u0), .val (.int u1), .val (.int u2), .val (.int (6 : Int32)), .val (.int (u1 % (4 : Int32))), .val (.ref (w 7)), .unset]) rfl ?_
    refine XS.iloadN X1.here hx rfl (hb hby at_26) rfl ?_
    refine XS.iconst X1.here hx rfl (hb hby at_27) ?_
    refine XS.icmpYes X1.here hx rfl (pc0 := 28) (pc' := 47) rfl (hb hby at_28) rfl (flt (by decide : ¬ ((6 : Int32) < (4 : Int32)))).2.1 (by decide) (by decide) ?_
    show Steps p.tables e below (T1.setTop (mkF m 47 #[.val (.int u0), .val (.int u1), .val (.int u2), .val (.int (6 : Int32)), .val (.int (u1 % (4 : Int32))), .val (.ref (w 7)), .unset] [])) _
    refine XS.iloadN X1.here hx rfl (hb hby at_47) rfl ?_
    refine XS.bipush X1.here hx rfl (hb hby at_48) ?_
    refine XS.icmpYes X1.here hx rfl (pc0 := 50) (pc' := 68) rfl (hb hby at_50) rfl (flt (by decide : ¬ ((6 : Int32) < (6 : Int32)))).2.1 (by decide) (by decide) ?_
    refine XS.iload X1.here hx rfl (hb hby at_68) rfl ?_
    show Steps p.tables e below (T1.setTop (mkF m 70 #[.val (.int u0), .val (.int u1), .val (.int u2), .val (.int (6 : Int32)), .val (.int (u1 % (4 : Int32))), .val (.ref (w 7)), .unset] [(.int (u1 % (4 : Int32)))])) _
    refine XS.ifNo X1.here hx rfl (hb hby at_70) rfl ((if0 _ _).trans (teq hf30).2) ?_
    refine XS.iconst X1.here hx rfl (hb hby at_73) ?_
    refine XS.goto X1.here hx rfl (pc0 := 74) (pc' := 78) rfl (hb hby at_74) (by decide) (by decide) ?_
    refine XS.istore X1.here hx rfl (hb hby at_78) rfl (l' := #[.val (.int u0), .val (.int u1), .val (.int u2), .val (.int (6 : Int32)), .val (.int (u1 % (4 : Int32))), .val (.ref (w 7)), .val (.int (1 : Int32))]) rfl ?_
    show Steps p.tables e below (T1.setTop (mkF m 80 #[.val (.int u0), .val (.int u1), .val (.int u2), .val (.int (6 : Int32)), .val (.int (u1 % (4 : Int32))), .val (.ref (w 7)), .val (.int (1 : Int32))] [])) _
    refine XS.aload X1.here hx rfl (hb hby at_80) rfl rfl ?_
    refine XS.iload X1.here hx rfl (hb hby at_82) rfl ?_
    refine st2.trans ?_
    refine XS.iload X2.here hx rfl (hb hby at_87) rfl ?_
    show Steps p.tables e below (T2.setTop (mkF m 89 #[.val (.int u0), .val (.int u1), .val (.int u2), .val (.int (6 : Int32)), .val (.int (u1 % (4 : Int32))), .val (.ref (w 7)), .val (.int (1 : Int32))] [(.int (1 : Int32)), (.int (1 : Int32))])) _
    refine XS.icmpNo X2.here hx rfl (hb hby at_89) rfl (teq (by decide : (1 : Int32) = (1 : Int32))).2 ?_
    refine XS.iconst X2.here hx rfl (hb hby at_92) ?_
    refine XS.goto X2.here hx rfl (pc0 := 93) (pc' := 97) rfl (hb hby at_93) (by decide) (by decide) ?_
    show Steps p.tables e below (T2.setTop (mkF m 97 #[.val (.int u0), .val (.int u1), .val (.int u2), .val (.int (6 : Int32)), .val (.int (u1 % (4 : Int32))), .val (.ref (w 7)), .val (.int (1 : Int32))] [(.int (1 : Int32))])) _
    exact retN X2 hx (t := .boolean) Bd.returns (by simp) (hb hby at_97) hr
  · exact ⟨rfl, N2, e2⟩
set_option maxRecDepth 65536 in
set_option maxHeartbeats 40000000 in
theorem rm_takes_80 (l : Launch) (Z : State) (a0 : Array Value) (hw : ∀ d ∈ tables_1, d.before a0 Z = true) (w : Nat → Addr) (h0 : Heap) (n0 : Nat) (Z0 : n0 ≤ h0.size) (K : Kon Z h0 w) (u0 u1 u2 : Int32) (hf31 : (u1 % (4 : Int32)) < (0 : Int32)) :
    OM l Z (⟨"com/example/licon/licon/search/Operator", "takes", "(I)Z"⟩ : MethodName) prog_9_method_4_code 2 (some .boolean) [] ({ frames := 0, cells := 0, slots := 0, locals := 0 } : Room) #[(.ref (w 7)), (.int (u1 % (4 : Int32)))] h0 (OP (some (.int (0 : Int32))) n0 h0) := by
  refine MetFree.of_bodySF (plainFor_of_name pn_com_example_licon_licon_search_Operator) hisR ?_
  intro p e s m args below meth c s₁ Bd hml0 hP hK
  obtain ⟨rfl, hZ, hh⟩ := hP
  have hx := Bd.exec
  have hby := Bd.bytes
  have hml : c.maxLocals = 2 := hml0
  have hown : s.vm.findClass "com/example/licon/licon/search/Operator" = some m.cls := findClass_of_methodNamed Bd.named
  have X0 : Stand p l e ({ frames := 0, cells := 0, slots := 0, locals := 0 } : Room) s m #[(.ref (w 7)), (.int (u1 % (4 : Int32)))] below meth c s₁ [] 0 0 := Stand.of_body Bd
  have e0 : s₁.heap = h0 := by rw [← hh, Bd.state]; rfl
  have N0 := Fr.nil n0
  have pre0 : ∀ t, Steps p.tables e below (s₁.setTop (mkF m 0 #[.val (.ref (w 7)), .val (.int (u1 % (4 : Int32)))] [])) t → Steps p.tables e below (s₁.setTop (entryFrame m #[(.ref (w 7)), (.int (u1 % (4 : Int32)))] 2)) t := fun t k => castTop (by first | rfl | simp [entryFrame, mkF, argsToLocals, Value.category]) k
  obtain ⟨T1, X1, e1, st1⟩ := getF X0 hx hZ hown (host := "") (Or.inl (hw _ (List.mem_of_getElem? (i := 12) rfl))) Via.refl e0 K.2.2.2.2.2.2.2.2.2.2.2.2.2.2.2.2.2.2.2.2.2.2.2.2.2.2.2.2.2.2.1 (g := (mkF m 2 #[.val (.ref (w 7)), .val (.int (u1 % (4 : Int32)))] [(.ref (w 7)), (.int (u1 % (4 : Int32)))])) rfl rfl (hb hby d_prog_9_method_4_code_2)
  obtain ⟨fs, hr, hrun, hended, hW, hsame⟩ := X1.leave (v := (some (.int (0 : Int32)))) (fun h => by rw [Bd.returns] at h; cases h)
  refine ⟨_, _, pre0 _ ?_, hrun, hended, _, _, rfl, ?_, ⟨_, rfl⟩, hW, hsame.mono (by decide) (by decide)⟩
  · show Steps p.tables e below (s₁.setTop (mkF m 0 #[.val (.ref (w 7)), .val (.int (u1 % (4 : Int32)))] [])) _
    refine XS.iloadN X0.here hx rfl (hb hby d_prog_9_method_4_code_0) rfl ?_
    refine XS.aloadN X0.here hx rfl (hb hby d_prog_9_method_4_code_1) rfl rfl ?_
    refine st1 _ ?_
    refine XS.icmpYes X1.here hx rfl (pc0 := 5) (pc' := 20) rfl (hb hby d_prog_9_method_4_code_5) rfl (tlt hf31).1 (by decide) (by decide) ?_
    show Steps p.tables e below (T1.setTop (mkF m 20 #[.val (.ref (w 7)), .val (.int (u1 % (4 : Int32)))] [])) _
    refine XS.iconst X1.here hx rfl (hb hby d_prog_9_method_4_code_20) ?_
    show Steps p.tables e below (T1.setTop (mkF m 21 #[.val (.ref (w 7)), .val (.int (u1 % (4 : Int32)))] [(.int (0 : Int32))])) _
    exact retN X1 hx (t := .boolean) Bd.returns (by simp) (hb hby d_prog_9_method_4_code_21) hr
  · exact ⟨rfl, N0, e1⟩
set_option maxRecDepth 65536 in
set_option maxHeartbeats 40000000 in
theorem rm0_81 (l : Launch) (Z : State) (a0 : Array Value) (hw : ∀ d ∈ tables_1, d.before a0 Z = true) (w : Nat → Addr) (h0 : Heap) (n0 : Nat) (Z0 : n0 ≤ h0.size) (K : Kon Z h0 w) (u0 u1 u2 : Int32) (hf27 : ¬ ((u2 &&& (1 : Int32)) = (0 : Int32))) (hf30 : ¬ ((u1 % (4 : Int32)) = (0 : Int32))) (hf31 : (u1 % (4 : Int32)) < (0 : Int32)) (hk0 : (u0 &&& (7 : Int32)) = (6 : Int32)) :
    OM l Z x code maxLocals ret tables_1 room_1 #[(.int u0), (.int u1), (.int u2)] h0 (OP (some (.int (1 : Int32))) n0 h0) := by
  refine MetFree.of_bodySF (plainFor_of_name pn_com_example_licon_licon_search_OperatorTakesPinLaw) hisR ?_
  intro p e s m args below meth c s₁ Bd hml0 hP hK
  obtain ⟨rfl, hZ, hh⟩ := hP
  have hx := Bd.exec
  have hby := Bd.bytes
  have hml : c.maxLocals = 7 := hml0
  have hown : s.vm.findClass "com/example/licon/licon/search/OperatorTakesPinLaw" = some m.cls := findClass_of_methodNamed Bd.named
  have X0 : Stand p l e room_1 s m #[(.int u0), (.int u1), (.int u2)] below meth c s₁ [] 0 0 := Stand.of_body Bd
  have e0 : s₁.heap = h0 := by rw [← hh, Bd.state]; rfl
  have N0 := Fr.nil n0
  have pre0 : ∀ t, Steps p.tables e below (s₁.setTop (mkF m 0 #[.val (.int u0), .val (.int u1), .val (.int u2), .unset, .unset, .unset, .unset] [])) t → Steps p.tables e below (s₁.setTop (entryFrame m #[(.int u0), (.int u1), (.int u2)] maxLocals)) t := fun t k => castTop (by first | rfl | simp [entryFrame, mkF, argsToLocals, Value.category, maxLocals]) k
  obtain ⟨_, _, ⟨T1, L1, k1, n1⟩, -, X1, ⟨Lc1, hQ1, l1, y1, z1⟩, st1⟩ := Jvm.LawKit.callS X0 hx (y := (⟨"com/example/licon/licon/search/OperatorTakesPinLaw", "pick", "(I)Lcom/example/licon/licon/search/Operator;"⟩ : MethodName)) hown (mvT hZ (hw _ (List.mem_of_getElem? (i := 0) rfl))) (mvT hZ (hw _ (List.mem_of_getElem? (i := 1) rfl))) (mvT hZ (hw _ (List.mem_of_getElem? (i := 2) rfl))) (mvT hZ (hw _ (List.mem_of_getElem? (i := 3) rfl))) (by decide) (backOf (W := 0) (rm_pick_71 l Z a0 hw w h0 n0 Z0 K u0 u1 u2) hZ (hw _ (List.mem_of_getElem? (i := 3) rfl)) (hw _ (List.mem_of_getElem? (i := 2) rfl)) (by decide) (by decide)) (g := (mkF m 21 #[.val (.int u0), .val (.int u1), .val (.int u2), .val (.int (6 : Int32)), .val (.int (u1 % (4 : Int32))), .unset, .unset] [(.int (6 : Int32))])) rfl (by rw [hml]; rfl) (argsL := [(.int (6 : Int32))]) (rest := []) (lenOf pd_28I29Lcom2fexample2flicon2flicon2fsearch2fOperator3b rfl) rfl (by show 2 * 0 + _ ≤ _; exact Nat.le_of_eq rfl) (hb hby at_21) (fun _ _ => ⟨rfl, e0, (by decide : 0 + 0 ≤ _), (by decide : 0 + 0 ≤ _)⟩)
  dsimp only [Pt.U, Pt.locs, Pt.cells, Pt.slots] at X1 l1 y1 z1 st1 hQ1
  subst l1 y1 z1
  obtain ⟨rfl, N1q, e1⟩ := hQ1
  have N1 := Fr.app N0 N1q
  obtain ⟨cq2, kq2, qa2, qb2, qc2⟩ := isOf hZ e1 K.2.2.2.2.2.2.2.2.2.2.2.2.2.2.2.1
  obtain ⟨_, _, ⟨T2, L2, k2, n2⟩, -, X2, ⟨Lc2, hQ2, l2, y2, z2⟩, st2⟩ := X1.virtualBack hx (y := (⟨"com/example/licon/licon/search/Operator", "takes", "(I)Z"⟩ : MethodName)) (z := (⟨"com/example/licon/licon/search/Operator", "takes", "(I)Z"⟩ : MethodName)) hown (mvT hZ (hw _ (List.mem_of_getElem? (i := 7) rfl))) (mvT hZ (hw _ (List.mem_of_getElem? (i := 8) rfl))) (notFace_of_selects (args := #[]) (mvT hZ (hw _ (List.mem_of_getElem? (i := 10) rfl)))) (mvT hZ (hw _ (List.mem_of_getElem? (i := 10) rfl))) (mvT hZ (hw _ (List.mem_of_getElem? (i := 9) rfl))) (by decide) (backOf (W := 0) (rm_takes_80 l Z a0 hw w h0 n0 Z0 K u0 u1 u2 hf31) hZ (hw _ (List.mem_of_getElem? (i := 11) rfl)) (hw _ (List.mem_of_getElem? (i := 5) rfl)) (by decide) (by decide)) qa2 qc2 (g := (mkF m 84 #[.val (.int u0), .val (.int u1), .val (.int u2), .val (.int (6 : Int32)), .val (.int (u1 % (4 : Int32))), .val (.ref (w 7)), .val (.int (0 : Int32))] [(.int (u1 % (4 : Int32))), (.ref (w 7))])) rfl (by rw [hml]; rfl) (Steps.refl _) (argsL := [(.int (u1 % (4 : Int32)))]) (rest := []) (lenOf pd_28I29Z rfl) rfl (by show 2 * 0 + _ ≤ _; exact Nat.le_of_eq rfl) (hb hby at_84) (fun _ _ => ⟨rfl, e1, (by decide : 0 + 0 ≤ _), (by decide : 0 + 0 ≤ _)⟩)
  dsimp only [Pt.U, Pt.locs, Pt.cells, Pt.slots] at X2 l2 y2 z2 st2 hQ2
  subst l2 y2 z2
  obtain ⟨rfl, N2q, e2⟩ := hQ2
  have N2 := Fr.app N1 N2q
  obtain ⟨fs, hr, hrun, hended, hW, hsame⟩ := X2.leave (v := (some (.int (1 : Int32)))) (fun h => by rw [Bd.returns] at h; cases h)
  refine ⟨_, _, pre0 _ ?_, hrun, hended, _, _, rfl, ?_, ⟨_, rfl⟩, hW, hsame.mono (by decide) (by decide)⟩
  · show Steps p.tables e below (s₁.setTop (mkF m 0 #[.val (.int u0), .val (.int u1), .val (.int u2), .unset, .unset, .unset, .unset] [])) _
    refine XS.iloadN X0.here hx rfl (hb hby at_0) rfl ?_
    refine XS.bipush X0.here hx rfl (hb hby at_1) ?_
    refine XS.iand X0.here hx rfl (hb hby at_3) rfl ?_
    show Steps p.tables e below (s₁.setTop (mkF m 4 #[.val (.int u0), .val (.int u1), .val (.int u2), .unset, .unset, .unset, .unset] [(.int (u0 &&& (7 : Int32)))])) _
    rw [hk0]
    show Steps p.tables e below (s₁.setTop (mkF m 4 #[.val (.int u0), .val (.int u1), .val (.int u2), .unset, .unset, .unset, .unset] [(.int (6 : Int32))])) _
    refine XS.istoreN X0.here hx rfl (hb hby at_4) rfl (l' := #[.val (.int u0), .val (.int u1), .val (.int u2), .val (.int (6 : Int32)), .unset, .unset, .unset]) rfl ?_
    refine XS.iloadN X0.here hx rfl (hb hby at_5) rfl ?_
    refine XS.iconst X0.here hx rfl (hb hby at_6) ?_
    refine XS.iand X0.here hx rfl (hb hby at_7) rfl ?_
    show Steps p.tables e below (s₁.setTop (mkF m 8 #[.val (.int u0), .val (.int u1), .val (.int u2), .val (.int (6 : Int32)), .unset, .unset, .unset] [(.int (u2 &&& (1 : Int32)))])) _
    refine XS.ifNo X0.here hx rfl (hb hby at_8) rfl ((if0 _ _).trans (feq hf27).1) ?_
    refine XS.iloadN X0.here hx rfl (hb hby at_11) rfl ?_
    refine XS.iconst X0.here hx rfl (hb hby at_12) ?_
    refine iremM X0 hx rfl (hb hby at_13) rfl (by decide : ¬ ((4 : Int32) = (0 : Int32))) ?_
    show Steps p.tables e below (s₁.setTop (mkF m 14 #[.val (.int u0), .val (.int u1), .val (.int u2), .val (.int (6 : Int32)), .unset, .unset, .unset] [(.int (u1 % (4 : Int32)))])) _
    refine XS.goto X0.here hx rfl (pc0 := 14) (pc' := 18) rfl (hb hby at_14) (by decide) (by decide) ?_
    refine XS.istore X0.here hx rfl (hb hby at_18) rfl (l' := #[.val (.int u0), .val (.int u1), .val (.int u2), .val (.int (6 : Int32)), .val (.int (u1 % (4 : Int32))), .unset, .unset]) rfl ?_
    refine XS.iloadN X0.here hx rfl (hb hby at_20) rfl ?_
    refine st1 _ ?_
    show Steps p.tables e below (T1.setTop (mkF m 24 #[.val (.int u0), .val (.int u1), .val (.int u2), .val (.int (6 : Int32)), .val (.int (u1 % (4 : Int32))), .unset, .unset] [(.ref (w 7))])) _
    refine XS.astore X1.here hx rfl (hb hby at_24) rfl rfl (l' := #[.val (.int u0), .val (.int u1), .val (.int u2), .val (.int (6 : Int32)), .val (.int (u1 % (4 : Int32))), .val (.ref (w 7)), .unset]) rfl ?_
    refine XS.iloadN X1.here hx rfl (hb hby at_26) rfl ?_
    refine XS.iconst X1.here hx rfl (hb hby at_27) ?_
    refine XS.icmpYes X1.here hx rfl (pc0 := 28) (pc' := 47) rfl (hb hby at_28) rfl (flt (by decide : ¬ ((6 : Int32) < (4 : Int32)))).2.1 (by decide) (by decide) ?_
    show Steps p.tables e below (T1.setTop (mkF m 47 #[.val (.int u0), .val (.int u1), .val (.int u2), .val (.int (6 : Int32)), .val (.int (u1 % (4 : Int32))), .val (.ref (w 7)), .unset] [])) _
    refine XS.iloadN X1.here hx rfl (hb hby at_47) rfl ?_
    refine XS.bipush X1.here hx rfl (hb hby at_48) ?_
    refine XS.icmpYes X1.here hx rfl (pc0 := 50) (pc' := 68) rfl (hb hby at_50) rfl (flt (by decide : ¬ ((6 : Int32) < (6 : Int32)))).2.1 (by decide) (by decide) ?_
    refine XS.iload X1.here hx rfl (hb hby at_68) rfl ?_
    show Steps p.tables e below (T1.setTop (mkF m 70 #[.val (.int u0), .val (.int u1), .val (.int u2), .val (.int (6 : Int32)), .val (.int (u1 % (4 : Int32))), .val (.ref (w 7)), .unset] [(.int (u1 % (4 : Int32)))])) _
    refine XS.ifYes X1.here hx rfl (pc0 := 70) (pc' := 77) rfl (hb hby at_70) rfl ((if0 _ _).trans (feq hf30).2) (by decide) (by decide) ?_
    refine XS.iconst X1.here hx rfl (hb hby at_77) ?_
    refine XS.istore X1.here hx rfl (hb hby at_78) rfl (l' := #[.val (.int u0), .val (.int u1), .val (.int u2), .val (.int (6 : Int32)), .val (.int (u1 % (4 : Int32))), .val (.ref (w 7)), .val (.int (0 : Int32))]) rfl ?_
    refine XS.aload X1.here hx rfl (hb hby at_80) rfl rfl ?_
    show Steps p.tables e below (T1.setTop (mkF m 82 #[.val (.int u0), .val (.int u1), .val (.int u2), .val (.int (6 : Int32)), .val (.int (u1 % (4 : Int32))), .val (.ref (w 7)), .val (.int (0 : Int32))] [(.ref (w 7))])) _
    refine XS.iload X1.here hx rfl (hb hby at_82) rfl ?_
    refine st2.trans ?_
    refine XS.iload X2.here hx rfl (hb hby at_87) rfl ?_
    refine XS.icmpNo X2.here hx rfl (hb hby at_89) rfl (teq (by decide : (0 : Int32) = (0 : Int32))).2 ?_
    show Steps p.tables e below (T2.setTop (mkF m 92 #[.val (.int u0), .val (.int u1), .val (.int u2), .val (.int (6 : Int32)), .val (.int (u1 % (4 : Int32))), .val (.ref (w 7)), .val (.int (0 : Int32))] [])) _
    refine XS.iconst X2.here hx rfl (hb hby at_92) ?_
    refine XS.goto X2.here hx rfl (pc0 := 93) (pc' := 97) rfl (hb hby at_93) (by decide) (by decide) ?_
    show Steps p.tables e below (T2.setTop (mkF m 97 #[.val (.int u0), .val (.int u1), .val (.int u2), .val (.int (6 : Int32)), .val (.int (u1 % (4 : Int32))), .val (.ref (w 7)), .val (.int (0 : Int32))] [(.int (1 : Int32))])) _
    exact retN X2 hx (t := .boolean) Bd.returns (by simp) (hb hby at_97) hr
  · exact ⟨rfl, N2, e2⟩
set_option maxRecDepth 65536 in
set_option maxHeartbeats 40000000 in
theorem rm_takes_82 (l : Launch) (Z : State) (a0 : Array Value) (hw : ∀ d ∈ tables_1, d.before a0 Z = true) (w : Nat → Addr) (h0 : Heap) (n0 : Nat) (Z0 : n0 ≤ h0.size) (K : Kon Z h0 w) (u0 u1 u2 : Int32) (hf30 : ¬ ((u1 % (4 : Int32)) = (0 : Int32))) (hf31 : ¬ ((u1 % (4 : Int32)) < (0 : Int32))) :
    OM l Z (⟨"com/example/licon/licon/search/Operator", "takes", "(I)Z"⟩ : MethodName) prog_9_method_4_code 2 (some .boolean) [] ({ frames := 0, cells := 0, slots := 0, locals := 0 } : Room) #[(.ref (w 7)), (.int (u1 % (4 : Int32)))] h0 (OP (some (.int (0 : Int32))) n0 h0) := by
  refine MetFree.of_bodySF (plainFor_of_name pn_com_example_licon_licon_search_Operator) hisR ?_
  intro p e s m args below meth c s₁ Bd hml0 hP hK
  obtain ⟨rfl, hZ, hh⟩ := hP
  have hx := Bd.exec
  have hby := Bd.bytes
  have hml : c.maxLocals = 2 := hml0
  have hown : s.vm.findClass "com/example/licon/licon/search/Operator" = some m.cls := findClass_of_methodNamed Bd.named
  have X0 : Stand p l e ({ frames := 0, cells := 0, slots := 0, locals := 0 } : Room) s m #[(.ref (w 7)), (.int (u1 % (4 : Int32)))] below meth c s₁ [] 0 0 := Stand.of_body Bd
  have e0 : s₁.heap = h0 := by rw [← hh, Bd.state]; rfl
  have N0 := Fr.nil n0
  have pre0 : ∀ t, Steps p.tables e below (s₁.setTop (mkF m 0 #[.val (.ref (w 7)), .val (.int (u1 % (4 : Int32)))] [])) t → Steps p.tables e below (s₁.setTop (entryFrame m #[(.ref (w 7)), (.int (u1 % (4 : Int32)))] 2)) t := fun t k => castTop (by first | rfl | simp [entryFrame, mkF, argsToLocals, Value.category]) k
  obtain ⟨T1, X1, e1, st1⟩ := getF X0 hx hZ hown (host := "") (Or.inl (hw _ (List.mem_of_getElem? (i := 12) rfl))) Via.refl e0 K.2.2.2.2.2.2.2.2.2.2.2.2.2.2.2.2.2.2.2.2.2.2.2.2.2.2.2.2.2.2.1 (g := (mkF m 2 #[.val (.ref (w 7)), .val (.int (u1 % (4 : Int32)))] [(.ref (w 7)), (.int (u1 % (4 : Int32)))])) rfl rfl (hb hby d_prog_9_method_4_code_2)
  obtain ⟨T2, X2, e2, st2⟩ := getF X1 hx hZ hown (host := "") (Or.inl (hw _ (List.mem_of_getElem? (i := 14) rfl))) Via.refl e1 K.2.2.2.2.2.2.2.2.2.2.2.2.2.2.2.2.2.2.2.2.2.2.2.2.2.2.2.2.2.2.2 (g := (mkF m 10 #[.val (.ref (w 7)), .val (.int (u1 % (4 : Int32)))] [(.ref (w 7)), (.int (u1 % (4 : Int32)))])) rfl rfl (hb hby d_prog_9_method_4_code_10)
  obtain ⟨fs, hr, hrun, hended, hW, hsame⟩ := X2.leave (v := (some (.int (0 : Int32)))) (fun h => by rw [Bd.returns] at h; cases h)
  refine ⟨_, _, pre0 _ ?_, hrun, hended, _, _, rfl, ?_, ⟨_, rfl⟩, hW, hsame.mono (by decide) (by decide)⟩
  · show Steps p.tables e below (s₁.setTop (mkF m 0 #[.val (.ref (w 7)), .val (.int (u1 % (4 : Int32)))] [])) _
    refine XS.iloadN X0.here hx rfl (hb hby d_prog_9_method_4_code_0) rfl ?_
    refine XS.aloadN X0.here hx rfl (hb hby d_prog_9_method_4_code_1) rfl rfl ?_
    refine st1 _ ?_
    refine XS.icmpNo X1.here hx rfl (hb hby d_prog_9_method_4_code_5) rfl (flt hf31).1 ?_
    show Steps p.tables e below (T1.setTop (mkF m 8 #[.val (.ref (w 7)), .val (.int (u1 % (4 : Int32)))] [])) _
    refine XS.iloadN X1.here hx rfl (hb hby d_prog_9_method_4_code_8) rfl ?_
    refine XS.aloadN X1.here hx rfl (hb hby d_prog_9_method_4_code_9) rfl rfl ?_
    refine st2 _ ?_
    refine XS.icmpYes X2.here hx rfl (pc0 := 13) (pc' := 20) rfl (hb hby d_prog_9_method_4_code_13) rfl (tlt (by have z0 := mt Int32.toInt_inj.mp hf30; have z1 := mt Int32.lt_iff_toInt_lt.mpr hf31; have l0 : (0 : Int32).toInt = 0 := rfl; have r0 := rng32 (u1 % (4 : Int32)); exact Int32.lt_iff_toInt_lt.mpr (by omega) : (0 : Int32) < (u1 % (4 : Int32)))).2.2.1 (by decide) (by decide) ?_
    show Steps p.tables e below (T2.setTop (mkF m 20 #[.val (.ref (w 7)), .val (.int (u1 % (4 : Int32)))] [])) _
    refine XS.iconst X2.here hx rfl (hb hby d_prog_9_method_4_code_20) ?_
    show Steps p.tables e below (T2.setTop (mkF m 21 #[.val (.ref (w 7)), .val (.int (u1 % (4 : Int32)))] [(.int (0 : Int32))])) _
    exact retN X2 hx (t := .boolean) Bd.returns (by simp) (hb hby d_prog_9_method_4_code_21) hr
  · exact ⟨rfl, N0, e2⟩
set_option maxRecDepth 65536 in
set_option maxHeartbeats 40000000 in
theorem rm0_83 (l : Launch) (Z : State) (a0 : Array Value) (hw : ∀ d ∈ tables_1, d.before a0 Z = true) (w : Nat → Addr) (h0 : Heap) (n0 : Nat) (Z0 : n0 ≤ h0.size) (K : Kon Z h0 w) (u0 u1 u2 : Int32) (hf27 : ¬ ((u2 &&& (1 : Int32)) = (0 : Int32))) (hf30 : ¬ ((u1 % (4 : Int32)) = (0 : Int32))) (hf31 : ¬ ((u1 % (4 : Int32)) < (0 : Int32))) (hk0 : (u0 &&& (7 : Int32)) = (6 : Int32)) :
    OM l Z x code maxLocals ret tables_1 room_1 #[(.int u0), (.int u1), (.int u2)] h0 (OP (some (.int (1 : Int32))) n0 h0) := by
  refine MetFree.of_bodySF (plainFor_of_name pn_com_example_licon_licon_search_OperatorTakesPinLaw) hisR ?_
  intro p e s m args below meth c s₁ Bd hml0 hP hK
  obtain ⟨rfl, hZ, hh⟩ := hP
  have hx := Bd.exec
  have hby := Bd.bytes
  have hml : c.maxLocals = 7 := hml0
  have hown : s.vm.findClass "com/example/licon/licon/search/OperatorTakesPinLaw" = some m.cls := findClass_of_methodNamed Bd.named
  have X0 : Stand p l e room_1 s m #[(.int u0), (.int u1), (.int u2)] below meth c s₁ [] 0 0 := Stand.of_body Bd
  have e0 : s₁.heap = h0 := by rw [← hh, Bd.state]; rfl
  have N0 := Fr.nil n0
  have pre0 : ∀ t, Steps p.tables e below (s₁.setTop (mkF m 0 #[.val (.int u0), .val (.int u1), .val (.int u2), .unset, .unset, .unset, .unset] [])) t → Steps p.tables e below (s₁.setTop (entryFrame m #[(.int u0), (.int u1), (.int u2)] maxLocals)) t := fun t k => castTop (by first | rfl | simp [entryFrame, mkF, argsToLocals, Value.category, maxLocals]) k
  obtain ⟨_, _, ⟨T1, L1, k1, n1⟩, -, X1, ⟨Lc1, hQ1, l1, y1, z1⟩, st1⟩ := Jvm.LawKit.callS X0 hx (y := (⟨"com/example/licon/licon/search/OperatorTakesPinLaw", "pick", "(I)Lcom/example/licon/licon/search/Operator;"⟩ : MethodName)) hown (mvT hZ (hw _ (List.mem_of_getElem? (i := 0) rfl))) (mvT hZ (hw _ (List.mem_of_getElem? (i := 1) rfl))) (mvT hZ (hw _ (List.mem_of_getElem? (i := 2) rfl))) (mvT hZ (hw _ (List.mem_of_getElem? (i := 3) rfl))) (by decide) (backOf (W := 0) (rm_pick_71 l Z a0 hw w h0 n0 Z0 K u0 u1 u2) hZ (hw _ (List.mem_of_getElem? (i := 3) rfl)) (hw _ (List.mem_of_getElem? (i := 2) rfl)) (by decide) (by decide)) (g := (mkF m 21 #[.val (.int u0), .val (.int u1), .val (.int u2), .val (.int (6 : Int32)), .val (.int (u1 % (4 : Int32))), .unset, .unset] [(.int (6 : Int32))])) rfl (by rw [hml]; rfl) (argsL := [(.int (6 : Int32))]) (rest := []) (lenOf pd_28I29Lcom2fexample2flicon2flicon2fsearch2fOperator3b rfl) rfl (by show 2 * 0 + _ ≤ _; exact Nat.le_of_eq rfl) (hb hby at_21) (fun _ _ => ⟨rfl, e0, (by decide : 0 + 0 ≤ _), (by decide : 0 + 0 ≤ _)⟩)
  dsimp only [Pt.U, Pt.locs, Pt.cells, Pt.slots] at X1 l1 y1 z1 st1 hQ1
  subst l1 y1 z1
  obtain ⟨rfl, N1q, e1⟩ := hQ1
  have N1 := Fr.app N0 N1q
  obtain ⟨cq2, kq2, qa2, qb2, qc2⟩ := isOf hZ e1 K.2.2.2.2.2.2.2.2.2.2.2.2.2.2.2.1
  obtain ⟨_, _, ⟨T2, L2, k2, n2⟩, -, X2, ⟨Lc2, hQ2, l2, y2, z2⟩, st2⟩ := X1.virtualBack hx (y := (⟨"com/example/licon/licon/search/Operator", "takes", "(I)Z"⟩ : MethodName)) (z := (⟨"com/example/licon/licon/search/Operator", "takes", "(I)Z"⟩ : MethodName)) hown (mvT hZ (hw _ (List.mem_of_getElem? (i := 7) rfl))) (mvT hZ (hw _ (List.mem_of_getElem? (i := 8) rfl))) (notFace_of_selects (args := #[]) (mvT hZ (hw _ (List.mem_of_getElem? (i := 10) rfl)))) (mvT hZ (hw _ (List.mem_of_getElem? (i := 10) rfl))) (mvT hZ (hw _ (List.mem_of_getElem? (i := 9) rfl))) (by decide) (backOf (W := 0) (rm_takes_82 l Z a0 hw w h0 n0 Z0 K u0 u1 u2 hf30 hf31) hZ (hw _ (List.mem_of_getElem? (i := 11) rfl)) (hw _ (List.mem_of_getElem? (i := 5) rfl)) (by decide) (by decide)) qa2 qc2 (g := (mkF m 84 #[.val (.int u0), .val (.int u1), .val (.int u2), .val (.int (6 : Int32)), .val (.int (u1 % (4 : Int32))), .val (.ref (w 7)), .val (.int (0 : Int32))] [(.int (u1 % (4 : Int32))), (.ref (w 7))])) rfl (by rw [hml]; rfl) (Steps.refl _) (argsL := [(.int (u1 % (4 : Int32)))]) (rest := []) (lenOf pd_28I29Z rfl) rfl (by show 2 * 0 + _ ≤ _; exact Nat.le_of_eq rfl) (hb hby at_84) (fun _ _ => ⟨rfl, e1, (by decide : 0 + 0 ≤ _), (by decide : 0 + 0 ≤ _)⟩)
  dsimp only [Pt.U, Pt.locs, Pt.cells, Pt.slots] at X2 l2 y2 z2 st2 hQ2
  subst l2 y2 z2
  obtain ⟨rfl, N2q, e2⟩ := hQ2
  have N2 := Fr.app N1 N2q
  obtain ⟨fs, hr, hrun, hended, hW, hsame⟩ := X2.leave (v := (some (.int (1 : Int32)))) (fun h => by rw [Bd.returns] at h; cases h)
  refine ⟨_, _, pre0 _ ?_, hrun, hended, _, _, rfl, ?_, ⟨_, rfl⟩, hW, hsame.mono (by decide) (by decide)⟩
  · show Steps p.tables e below (s₁.setTop (mkF m 0 #[.val (.int u0), .val (.int u1), .val (.int u2), .unset, .unset, .unset, .unset] [])) _
    refine XS.iloadN X0.here hx rfl (hb hby at_0) rfl ?_
    refine XS.bipush X0.here hx rfl (hb hby at_1) ?_
    refine XS.iand X0.here hx rfl (hb hby at_3) rfl ?_
    show Steps p.tables e below (s₁.setTop (mkF m 4 #[.val (.int u0), .val (.int u1), .val (.int u2), .unset, .unset, .unset, .unset] [(.int (u0 &&& (7 : Int32)))])) _
    rw [hk0]
    show Steps p.tables e below (s₁.setTop (mkF m 4 #[.val (.int u0), .val (.int u1), .val (.int u2), .unset, .unset, .unset, .unset] [(.int (6 : Int32))])) _
    refine XS.istoreN X0.here hx rfl (hb hby at_4) rfl (l' := #[.val (.int u0), .val (.int u1), .val (.int u2), .val (.int (6 : Int32)), .unset, .unset, .unset]) rfl ?_
    refine XS.iloadN X0.here hx rfl (hb hby at_5) rfl ?_
    refine XS.iconst X0.here hx rfl (hb hby at_6) ?_
    refine XS.iand X0.here hx rfl (hb hby at_7) rfl ?_
    show Steps p.tables e below (s₁.setTop (mkF m 8 #[.val (.int u0), .val (.int u1), .val (.int u2), .val (.int (6 : Int32)), .unset, .unset, .unset] [(.int (u2 &&& (1 : Int32)))])) _
    refine XS.ifNo X0.here hx rfl (hb hby at_8) rfl ((if0 _ _).trans (feq hf27).1) ?_
    refine XS.iloadN X0.here hx rfl (hb hby at_11) rfl ?_
    refine XS.iconst X0.here hx rfl (hb hby at_12) ?_
    refine iremM X0 hx rfl (hb hby at_13) rfl (by decide : ¬ ((4 : Int32) = (0 : Int32))) ?_
    show Steps p.tables e below (s₁.setTop (mkF m 14 #[.val (.int u0), .val (.int u1), .val (.int u2), .val (.int (6 : Int32)), .unset, .unset, .unset] [(.int (u1 % (4 : Int32)))])) _
    refine XS.goto X0.here hx rfl (pc0 := 14) (pc' := 18) rfl (hb hby at_14) (by decide) (by decide) ?_
    refine XS.istore X0.here hx rfl (hb hby at_18) rfl (l' := #[.val (.int u0), .val (.int u1), .val (.int u2), .val (.int (6 : Int32)), .val (.int (u1 % (4 : Int32))), .unset, .unset]) rfl ?_
    refine XS.iloadN X0.here hx rfl (hb hby at_20) rfl ?_
    refine st1 _ ?_
    show Steps p.tables e below (T1.setTop (mkF m 24 #[.val (.int u0), .val (.int u1), .val (.int u2), .val (.int (6 : Int32)), .val (.int (u1 % (4 : Int32))), .unset, .unset] [(.ref (w 7))])) _
    refine XS.astore X1.here hx rfl (hb hby at_24) rfl rfl (l' := #[.val (.int u0), .val (.int u1), .val (.int u2), .val (.int (6 : Int32)), .val (.int (u1 % (4 : Int32))), .val (.ref (w 7)), .unset]) rfl ?_
    refine XS.iloadN X1.here hx rfl (hb hby at_26) rfl ?_
    refine XS.iconst X1.here hx rfl (hb hby at_27) ?_
    refine XS.icmpYes X1.here hx rfl (pc0 := 28) (pc' := 47) rfl (hb hby at_28) rfl (flt (by decide : ¬ ((6 : Int32) < (4 : Int32)))).2.1 (by decide) (by decide) ?_
    show Steps p.tables e below (T1.setTop (mkF m 47 #[.val (.int u0), .val (.int u1), .val (.int u2), .val (.int (6 : Int32)), .val (.int (u1 % (4 : Int32))), .val (.ref (w 7)), .unset] [])) _
    refine XS.iloadN X1.here hx rfl (hb hby at_47) rfl ?_
    refine XS.bipush X1.here hx rfl (hb hby at_48) ?_
    refine XS.icmpYes X1.here hx rfl (pc0 := 50) (pc' := 68) rfl (hb hby at_50) rfl (flt (by decide : ¬ ((6 : Int32) < (6 : Int32)))).2.1 (by decide) (by decide) ?_
    refine XS.iload X1.here hx rfl (hb hby at_68) rfl ?_
    show Steps p.tables e below (T1.setTop (mkF m 70 #[.val (.int u0), .val (.int u1), .val (.int u2), .val (.int (6 : Int32)), .val (.int (u1 % (4 : Int32))), .val (.ref (w 7)), .unset] [(.int (u1 % (4 : Int32)))])) _
    refine XS.ifYes X1.here hx rfl (pc0 := 70) (pc' := 77) rfl (hb hby at_70) rfl ((if0 _ _).trans (feq hf30).2) (by decide) (by decide) ?_
    refine XS.iconst X1.here hx rfl (hb hby at_77) ?_
    refine XS.istore X1.here hx rfl (hb hby at_78) rfl (l' := #[.val (.int u0), .val (.int u1), .val (.int u2), .val (.int (6 : Int32)), .val (.int (u1 % (4 : Int32))), .val (.ref (w 7)), .val (.int (0 : Int32))]) rfl ?_
    refine XS.aload X1.here hx rfl (hb hby at_80) rfl rfl ?_
    show Steps p.tables e below (T1.setTop (mkF m 82 #[.val (.int u0), .val (.int u1), .val (.int u2), .val (.int (6 : Int32)), .val (.int (u1 % (4 : Int32))), .val (.ref (w 7)), .val (.int (0 : Int32))] [(.ref (w 7))])) _
    refine XS.iload X1.here hx rfl (hb hby at_82) rfl ?_
    refine st2.trans ?_
    refine XS.iload X2.here hx rfl (hb hby at_87) rfl ?_
    refine XS.icmpNo X2.here hx rfl (hb hby at_89) rfl (teq (by decide : (0 : Int32) = (0 : Int32))).2 ?_
    show Steps p.tables e below (T2.setTop (mkF m 92 #[.val (.int u0), .val (.int u1), .val (.int u2), .val (.int (6 : Int32)), .val (.int (u1 % (4 : Int32))), .val (.ref (w 7)), .val (.int (0 : Int32))] [])) _
    refine XS.iconst X2.here hx rfl (hb hby at_92) ?_
    refine XS.goto X2.here hx rfl (pc0 := 93) (pc' := 97) rfl (hb hby at_93) (by decide) (by decide) ?_
    show Steps p.tables e below (T2.setTop (mkF m 97 #[.val (.int u0), .val (.int u1), .val (.int u2), .val (.int (6 : Int32)), .val (.int (u1 % (4 : Int32))), .val (.ref (w 7)), .val (.int (0 : Int32))] [(.int (1 : Int32))])) _
    exact retN X2 hx (t := .boolean) Bd.returns (by simp) (hb hby at_97) hr
  · exact ⟨rfl, N2, e2⟩
theorem d_method_3_code_63 : decode method_3_code 63 = .ok (.getstatic 41, 3) := by decide +kernel
theorem d_method_3_code_66 : decode method_3_code 66 = .ok (.areturn, 1) := by decide +kernel
set_option maxRecDepth 65536 in
set_option maxHeartbeats 40000000 in
theorem rm_pick_84 (l : Launch) (Z : State) (a0 : Array Value) (hw : ∀ d ∈ tables_1, d.before a0 Z = true) (w : Nat → Addr) (h0 : Heap) (n0 : Nat) (Z0 : n0 ≤ h0.size) (K : Kon Z h0 w) (u0 u1 u2 : Int32) :
    OM l Z (⟨"com/example/licon/licon/search/OperatorTakesPinLaw", "pick", "(I)Lcom/example/licon/licon/search/Operator;"⟩ : MethodName) method_3_code 1 (some (.object "com/example/licon/licon/search/Operator")) [] ({ frames := 0, cells := 0, slots := 0, locals := 0 } : Room) #[(.int (7 : Int32))] h0 (OP (some (.ref (w 3))) n0 h0) := by
  refine MetFree.of_bodySF (plainFor_of_name pn_com_example_licon_licon_search_OperatorTakesPinLaw) hisR ?_
  intro p e s m args below meth c s₁ Bd hml0 hP hK
  obtain ⟨rfl, hZ, hh⟩ := hP
  have hx := Bd.exec
  have hby := Bd.bytes
  have hml : c.maxLocals = 1 := hml0
  have hown : s.vm.findClass "com/example/licon/licon/search/OperatorTakesPinLaw" = some m.cls := findClass_of_methodNamed Bd.named
  have X0 : Stand p l e ({ frames := 0, cells := 0, slots := 0, locals := 0 } : Room) s m #[(.int (7 : Int32))] below meth c s₁ [] 0 0 := Stand.of_body Bd
  have e0 : s₁.heap = h0 := by rw [← hh, Bd.state]; rfl
  have N0 := Fr.nil n0
  have pre0 : ∀ t, Steps p.tables e below (s₁.setTop (mkF m 0 #[.val (.int (7 : Int32))] [])) t → Steps p.tables e below (s₁.setTop (entryFrame m #[(.int (7 : Int32))] 1)) t := fun t k => castTop (by first | rfl | simp [entryFrame, mkF, argsToLocals, Value.category]) k
  obtain ⟨T1, X1, e1, st1⟩ := getS2 X0 hx hZ hown (host := "") (Or.inl (hw _ (List.mem_of_getElem? (i := 20) rfl))) Via.refl e0 K.2.2.2.2.2.2.1 (g := (mkF m 63 #[.val (.int (7 : Int32))] [])) rfl (hb hby d_method_3_code_63)
  obtain ⟨fs, hr, hrun, hended, hW, hsame⟩ := X1.leave (v := (some (.ref (w 3)))) (fun h => by rw [Bd.returns] at h; cases h)
  refine ⟨_, _, pre0 _ ?_, hrun, hended, _, _, rfl, ?_, ⟨_, rfl⟩, hW, hsame.mono (by decide) (by decide)⟩
  · show Steps p.tables e below (s₁.setTop (mkF m 0 #[.val (.int (7 : Int32))] [])) _
    refine XS.iloadN X0.here hx rfl (hb hby d_method_3_code_0) rfl ?_
    refine XS.ifYes X0.here hx rfl (pc0 := 1) (pc' := 8) rfl (hb hby d_method_3_code_1) rfl ((if0 _ _).trans (feq (by decide : ¬ ((7 : Int32) = (0 : Int32)))).2) (by decide) (by decide) ?_
    refine XS.iloadN X0.here hx rfl (hb hby d_method_3_code_8) rfl ?_
    refine XS.iconst X0.here hx rfl (hb hby d_method_3_code_9) ?_
    show Steps p.tables e below (s₁.setTop (mkF m 10 #[.val (.int (7 : Int32))] [(.int (1 : Int32)), (.int (7 : Int32))])) _
    refine XS.icmpYes X0.here hx rfl (pc0 := 10) (pc' := 17) rfl (hb hby d_method_3_code_10) rfl (feq (by decide : ¬ ((7 : Int32) = (1 : Int32)))).2 (by decide) (by decide) ?_
    refine XS.iloadN X0.here hx rfl (hb hby d_method_3_code_17) rfl ?_
    refine XS.iconst X0.here hx rfl (hb hby d_method_3_code_18) ?_
    refine XS.icmpYes X0.here hx rfl (pc0 := 19) (pc' := 26) rfl (hb hby d_method_3_code_19) rfl (feq (by decide : ¬ ((7 : Int32) = (2 : Int32)))).2 (by decide) (by decide) ?_
    show Steps p.tables e below (s₁.setTop (mkF m 26 #[.val (.int (7 : Int32))] [])) _
    refine XS.iloadN X0.here hx rfl (hb hby d_method_3_code_26) rfl ?_
    refine XS.iconst X0.here hx rfl (hb hby d_method_3_code_27) ?_
    refine XS.icmpYes X0.here hx rfl (pc0 := 28) (pc' := 35) rfl (hb hby d_method_3_code_28) rfl (feq (by decide : ¬ ((7 : Int32) = (3 : Int32)))).2 (by decide) (by decide) ?_
    refine XS.iloadN X0.here hx rfl (hb hby d_method_3_code_35) rfl ?_
    show Steps p.tables e below (s₁.setTop (mkF m 36 #[.val (.int (7 : Int32))] [(.int (7 : Int32))])) _
    refine XS.iconst X0.here hx rfl (hb hby d_method_3_code_36) ?_
    refine XS.icmpYes X0.here hx rfl (pc0 := 37) (pc' := 44) rfl (hb hby d_method_3_code_37) rfl (feq (by decide : ¬ ((7 : Int32) = (4 : Int32)))).2 (by decide) (by decide) ?_
    refine XS.iloadN X0.here hx rfl (hb hby d_method_3_code_44) rfl ?_
    refine XS.iconst X0.here hx rfl (hb hby d_method_3_code_45) ?_
    show Steps p.tables e below (s₁.setTop (mkF m 46 #[.val (.int (7 : Int32))] [(.int (5 : Int32)), (.int (7 : Int32))])) _
    refine XS.icmpYes X0.here hx rfl (pc0 := 46) (pc' := 53) rfl (hb hby d_method_3_code_46) rfl (feq (by decide : ¬ ((7 : Int32) = (5 : Int32)))).2 (by decide) (by decide) ?_
    refine XS.iloadN X0.here hx rfl (hb hby d_method_3_code_53) rfl ?_
    refine XS.bipush X0.here hx rfl (hb hby d_method_3_code_54) ?_
    refine XS.icmpYes X0.here hx rfl (pc0 := 56) (pc' := 63) rfl (hb hby d_method_3_code_56) rfl (feq (by decide : ¬ ((7 : Int32) = (6 : Int32)))).2 (by decide) (by decide) ?_
    show Steps p.tables e below (s₁.setTop (mkF m 63 #[.val (.int (7 : Int32))] [])) _
    refine st1 _ ?_
    show Steps p.tables e below (T1.setTop (mkF m 66 #[.val (.int (7 : Int32))] [(.ref (w 3))])) _
    jvm_step X1.here [X1.here.top, hx, (hb hby d_method_3_code_66), X1.method', Bd.returns, Value.isRef, FieldType.isReference]
    first | (intro acts; rw [hr _ acts rfl rfl rfl]) | rw [hr _ _ rfl rfl rfl]
    exact Steps.refl _
  · exact ⟨rfl, N0, e1⟩
set_option maxRecDepth 65536 in
set_option maxHeartbeats 40000000 in
theorem rm_takes_85 (l : Launch) (Z : State) (a0 : Array Value) (hw : ∀ d ∈ tables_1, d.before a0 Z = true) (w : Nat → Addr) (h0 : Heap) (n0 : Nat) (Z0 : n0 ≤ h0.size) (K : Kon Z h0 w) (u0 u1 u2 : Int32) (hf33 : u1 = (0 : Int32)) :
    OM l Z (⟨"com/example/licon/licon/search/Operator", "takes", "(I)Z"⟩ : MethodName) prog_9_method_4_code 2 (some .boolean) [] ({ frames := 0, cells := 0, slots := 0, locals := 0 } : Room) #[(.ref (w 3)), (.int u1)] h0 (OP (some (.int (1 : Int32))) n0 h0) := by
  refine MetFree.of_bodySF (plainFor_of_name pn_com_example_licon_licon_search_Operator) hisR ?_
  intro p e s m args below meth c s₁ Bd hml0 hP hK
  obtain ⟨rfl, hZ, hh⟩ := hP
  have hx := Bd.exec
  have hby := Bd.bytes
  have hml : c.maxLocals = 2 := hml0
  have hown : s.vm.findClass "com/example/licon/licon/search/Operator" = some m.cls := findClass_of_methodNamed Bd.named
  have X0 : Stand p l e ({ frames := 0, cells := 0, slots := 0, locals := 0 } : Room) s m #[(.ref (w 3)), (.int u1)] below meth c s₁ [] 0 0 := Stand.of_body Bd
  have e0 : s₁.heap = h0 := by rw [← hh, Bd.state]; rfl
  have N0 := Fr.nil n0
  have pre0 : ∀ t, Steps p.tables e below (s₁.setTop (mkF m 0 #[.val (.ref (w 3)), .val (.int u1)] [])) t → Steps p.tables e below (s₁.setTop (entryFrame m #[(.ref (w 3)), (.int u1)] 2)) t := fun t k => castTop (by first | rfl | simp [entryFrame, mkF, argsToLocals, Value.category]) k
  obtain ⟨T1, X1, e1, st1⟩ := getF X0 hx hZ hown (host := "") (Or.inl (hw _ (List.mem_of_getElem? (i := 12) rfl))) Via.refl e0 K.2.2.2.2.2.2.2.2.2.2.2.2.2.2.2.2.2.2.2.2.2.1 (g := (mkF m 2 #[.val (.ref (w 3)), .val (.int u1)] [(.ref (w 3)), (.int u1)])) rfl rfl (hb hby d_prog_9_method_4_code_2)
  obtain ⟨T2, X2, e2, st2⟩ := getF X1 hx hZ hown (host := "") (Or.inl (hw _ (List.mem_of_getElem? (i := 14) rfl))) Via.refl e1 K.2.2.2.2.2.2.2.2.2.2.2.2.2.2.2.2.2.2.2.2.2.2.1 (g := (mkF m 10 #[.val (.ref (w 3)), .val (.int u1)] [(.ref (w 3)), (.int u1)])) rfl rfl (hb hby d_prog_9_method_4_code_10)
  obtain ⟨fs, hr, hrun, hended, hW, hsame⟩ := X2.leave (v := (some (.int (1 : Int32)))) (fun h => by rw [Bd.returns] at h; cases h)
  refine ⟨_, _, pre0 _ ?_, hrun, hended, _, _, rfl, ?_, ⟨_, rfl⟩, hW, hsame.mono (by decide) (by decide)⟩
  · show Steps p.tables e below (s₁.setTop (mkF m 0 #[.val (.ref (w 3)), .val (.int u1)] [])) _
    refine XS.iloadN X0.here hx rfl (hb hby d_prog_9_method_4_code_0) rfl ?_
    refine XS.aloadN X0.here hx rfl (hb hby d_prog_9_method_4_code_1) rfl rfl ?_
    refine st1 _ ?_
    refine XS.icmpNo X1.here hx rfl (hb hby d_prog_9_method_4_code_5) rfl (flt (by have z0 := congrArg Int32.toInt hf33; have l0 : (0 : Int32).toInt = 0 := rfl; have r0 := rng32 u1; exact fun hh => absurd (Int32.lt_iff_toInt_lt.mp hh) (by omega) : ¬ (u1 < (0 : Int32)))).1 ?_
    show Steps p.tables e below (T1.setTop (mkF m 8 #[.val (.ref (w 3)), .val (.int u1)] [])) _
    refine XS.iloadN X1.here hx rfl (hb hby d_prog_9_method_4_code_8) rfl ?_
    refine XS.aloadN X1.here hx rfl (hb hby d_prog_9_method_4_code_9) rfl rfl ?_
    refine st2 _ ?_
    refine XS.icmpNo X2.here hx rfl (hb hby d_prog_9_method_4_code_13) rfl (flt (by have z0 := congrArg Int32.toInt hf33; have l0 : (0 : Int32).toInt = 0 := rfl; have r0 := rng32 u1; exact fun hh => absurd (Int32.lt_iff_toInt_lt.mp hh) (by omega) : ¬ ((0 : Int32) < u1))).2.2.1 ?_
    show Steps p.tables e below (T2.setTop (mkF m 16 #[.val (.ref (w 3)), .val (.int u1)] [])) _
    refine XS.iconst X2.here hx rfl (hb hby d_prog_9_method_4_code_16) ?_
    refine XS.goto X2.here hx rfl (pc0 := 17) (pc' := 21) rfl (hb hby d_prog_9_method_4_code_17) (by decide) (by decide) ?_
    show Steps p.tables e below (T2.setTop (mkF m 21 #[.val (.ref (w 3)), .val (.int u1)] [(.int (1 : Int32))])) _
    exact retN X2 hx (t := .boolean) Bd.returns (by simp) (hb hby d_prog_9_method_4_code_21) hr
  · exact ⟨rfl, N0, e2⟩
set_option maxRecDepth 65536 in
set_option maxHeartbeats 40000000 in
theorem rm0_86 (l : Launch) (Z : State) (a0 : Array Value) (hw : ∀ d ∈ tables_1, d.before a0 Z = true) (w : Nat → Addr) (h0 : Heap) (n0 : Nat) (Z0 : n0 ≤ h0.size) (K : Kon Z h0 w) (u0 u1 u2 : Int32) (hf32 : (u2 &&& (1 : Int32)) = (0 : Int32)) (hf33 : u1 = (0 : Int32)) (hk0 : (u0 &&& (7 : Int32)) = (7 : Int32)) :
    OM l Z x code maxLocals ret tables_1 room_1 #[(.int u0), (.int u1), (.int u2)] h0 (OP (some (.int (1 : Int32))) n0 h0) := by
  refine MetFree.of_bodySF (plainFor_of_name pn_com_example_licon_licon_search_OperatorTakesPinLaw) hisR ?_
  intro p e s m args below meth c s₁ Bd hml0 hP hK
  obtain ⟨rfl, hZ, hh⟩ := hP
  have hx := Bd.exec
  have hby := Bd.bytes
  have hml : c.maxLocals = 7 := hml0
  have hown : s.vm.findClass "com/example/licon/licon/search/OperatorTakesPinLaw" = some m.cls := findClass_of_methodNamed Bd.named
  have X0 : Stand p l e room_1 s m #[(.int u0), (.int u1), (.int u2)] below meth c s₁ [] 0 0 := Stand.of_body Bd
  have e0 : s₁.heap = h0 := by rw [← hh, Bd.state]; rfl
  have N0 := Fr.nil n0
  have pre0 : ∀ t, Steps p.tables e below (s₁.setTop (mkF m 0 #[.val (.int u0), .val (.int u1), .val (.int u2), .unset, .unset, .unset, .unset] [])) t → Steps p.tables e below (s₁.setTop (entryFrame m #[(.int u0), (.int u1), (.int u2)] maxLocals)) t := fun t k => castTop (by first | rfl | simp [entryFrame, mkF, argsToLocals, Value.category, maxLocals]) k
  obtain ⟨_, _, ⟨T1, L1, k1, n1⟩, -, X1, ⟨Lc1, hQ1, l1, y1, z1⟩, st1⟩ := Jvm.LawKit.callS X0 hx (y := (⟨"com/example/licon/licon/search/OperatorTakesPinLaw", "pick", "(I)Lcom/example/licon/licon/search/Operator;"⟩ : MethodName)) hown (mvT hZ (hw _ (List.mem_of_getElem? (i := 0) rfl))) (mvT hZ (hw _ (List.mem_of_getElem? (i := 1) rfl))) (mvT hZ (hw _ (List.mem_of_getElem? (i := 2) rfl))) (mvT hZ (hw _ (List.mem_of_getElem? (i := 3) rfl))) (by decide) (backOf (W := 0) (rm_pick_84 l Z a0 hw w h0 n0 Z0 K u0 u1 u2) hZ (hw _ (List.mem_of_getElem? (i := 3) rfl)) (hw _ (List.mem_of_getElem? (i := 2) rfl)) (by decide) (by decide)) (g := (mkF m 21 #[.val (.int u0), .val (.int u1), .val (.int u2), .val (.int (7 : Int32)), .val (.int u1), .unset, .unset] [(.int (7 : Int32))])) rfl (by rw [hml]; rfl) (argsL := [(.int (7 : Int32))]) (rest := []) (lenOf pd_28I29Lcom2fexample2flicon2flicon2fsearch2fOperator3b rfl) rfl (by show 2 * 0 + _ ≤ _; exact Nat.le_of_eq rfl) (hb hby at_21) (fun _ _ => ⟨rfl, e0, (by decide : 0 + 0 ≤ _), (by decide : 0 + 0 ≤ _)⟩)
  dsimp only [Pt.U, Pt.locs, Pt.cells, Pt.slots] at X1 l1 y1 z1 st1 hQ1
  subst l1 y1 z1
  obtain ⟨rfl, N1q, e1⟩ := hQ1
  have N1 := Fr.app N0 N1q
  obtain ⟨cq2, kq2, qa2, qb2, qc2⟩ := isOf hZ e1 K.2.2.2.2.2.2.2.1
  obtain ⟨_, _, ⟨T2, L2, k2, n2⟩, -, X2, ⟨Lc2, hQ2, l2, y2, z2⟩, st2⟩ := X1.virtualBack hx (y := (⟨"com/example/licon/licon/search/Operator", "takes", "(I)Z"⟩ : MethodName)) (z := (⟨"com/example/licon/licon/search/Operator", "takes", "(I)Z"⟩ : MethodName)) hown (mvT hZ (hw _ (List.mem_of_getElem? (i := 7) rfl))) (mvT hZ (hw _ (List.mem_of_getElem? (i := 8) rfl))) (notFace_of_selects (args := #[]) (mvT hZ (hw _ (List.mem_of_getElem? (i := 10) rfl)))) (mvT hZ (hw _ (List.mem_of_getElem? (i := 10) rfl))) (mvT hZ (hw _ (List.mem_of_getElem? (i := 9) rfl))) (by decide) (backOf (W := 0) (rm_takes_85 l Z a0 hw w h0 n0 Z0 K u0 u1 u2 hf33) hZ (hw _ (List.mem_of_getElem? (i := 11) rfl)) (hw _ (List.mem_of_getElem? (i := 5) rfl)) (by decide) (by decide)) qa2 qc2 (g := (mkF m 84 #[.val (.int u0), .val (.int u1), .val (.int u2), .val (.int (7 : Int32)), .val (.int u1), .val (.ref (w 3)), .val (.int (1 : Int32))] [(.int u1), (.ref (w 3))])) rfl (by rw [hml]; rfl) (Steps.refl _) (argsL := [(.int u1)]) (rest := []) (lenOf pd_28I29Z rfl) rfl (by show 2 * 0 + _ ≤ _; exact Nat.le_of_eq rfl) (hb hby at_84) (fun _ _ => ⟨rfl, e1, (by decide : 0 + 0 ≤ _), (by decide : 0 + 0 ≤ _)⟩)
  dsimp only [Pt.U, Pt.locs, Pt.cells, Pt.slots] at X2 l2 y2 z2 st2 hQ2
  subst l2 y2 z2
  obtain ⟨rfl, N2q, e2⟩ := hQ2
  have N2 := Fr.app N1 N2q
  obtain ⟨fs, hr, hrun, hended, hW, hsame⟩ := X2.leave (v := (some (.int (1 : Int32)))) (fun h => by rw [Bd.returns] at h; cases h)
  refine ⟨_, _, pre0 _ ?_, hrun, hended, _, _, rfl, ?_, ⟨_, rfl⟩, hW, hsame.mono (by decide) (by decide)⟩
  · show Steps p.tables e below (s₁.setTop (mkF m 0 #[.val (.int u0), .val (.int u1), .val (.int u2), .unset, .unset, .unset, .unset] [])) _
    refine XS.iloadN X0.here hx rfl (hb hby at_0) rfl ?_
    refine XS.bipush X0.here hx rfl (hb hby at_1) ?_
    refine XS.iand X0.here hx rfl (hb hby at_3) rfl ?_
    show Steps p.tables e below (s₁.setTop (mkF m 4 #[.val (.int u0), .val (.int u1), .val (.int u2), .unset, .unset, .unset, .unset] [(.int (u0 &&& (7 : Int32)))])) _
    rw [hk0]
    show Steps p.tables e below (s₁.setTop (mkF m 4 #[.val (.int u0), .val (.int u1), .val (.int u2), .unset, .unset, .unset, .unset] [(.int (7 : Int32))])) _
    refine XS.istoreN X0.here hx rfl (hb hby at_4) rfl (l' := #[.val (.int u0), .val (.int u1), .val (.int u2), .val (.int (7 : Int32)), .unset, .unset, .unset]) rfl ?_
    refine XS.iloadN X0.here hx rfl (hb hby at_5) rfl ?_
    refine XS.iconst X0.here hx rfl (hb hby at_6) ?_
    refine XS.iand X0.here hx rfl (hb hby at_7) rfl ?_
    show Steps p.tables e below (s₁.setTop (mkF m 8 #[.val (.int u0), .val (.int u1), .val (.int u2), .val (.int (7 : Int32)), .unset, .unset, .unset] [(.int (u2 &&& (1 : Int32)))])) _
    refine XS.ifYes X0.here hx rfl (pc0 := 8) (pc' := 17) rfl (hb hby at_8) rfl ((if0 _ _).trans (teq hf32).1) (by decide) (by decide) ?_
    refine XS.iloadN X0.here hx rfl (hb hby at_17) rfl ?_
    refine XS.istore X0.here hx rfl (hb hby at_18) rfl (l' := #[.val (.int u0), .val (.int u1), .val (.int u2), .val (.int (7 : Int32)), .val (.int u1), .unset, .unset]) rfl ?_
    refine XS.iloadN X0.here hx rfl (hb hby at_20) rfl ?_
    show Steps p.tables e below (s₁.setTop (mkF m 21 #[.val (.int u0), .val (.int u1), .val (.int u2), .val (.int (7 : Int32)), .val (.int u1), .unset, .unset] [(.int (7 : Int32))])) _
    refine st1 _ ?_
    refine XS.astore X1.here hx rfl (hb hby at_24) rfl rfl (l' := #[.val (.int u0), .val (.int u1), .val (.int u2), .val (.int (7 : Int32)), .val (.int u1), .val (.ref (w 3)), .unset]) rfl ?_
    refine XS.iloadN X1.here hx rfl (hb hby at_26) rfl ?_
    refine XS.iconst X1.here hx rfl (hb hby at_27) ?_
    show Steps p.tables e below (T1.setTop (mkF m 28 #[.val (.int u0), .val (.int u1), .val (.int u2), .val (.int (7 : Int32)), .val (.int u1), .val (.ref (w 3)), .unset] [(.int (4 : Int32)), (.int (7 : Int32))])) _
    refine XS.icmpYes X1.here hx rfl (pc0 := 28) (pc' := 47) rfl (hb hby at_28) rfl (flt (by decide : ¬ ((7 : Int32) < (4 : Int32)))).2.1 (by decide) (by decide) ?_
    refine XS.iloadN X1.here hx rfl (hb hby at_47) rfl ?_
    refine XS.bipush X1.here hx rfl (hb hby at_48) ?_
    refine XS.icmpYes X1.here hx rfl (pc0 := 50) (pc' := 68) rfl (hb hby at_50) rfl (flt (by decide : ¬ ((7 : Int32) < (6 : Int32)))).2.1 (by decide) (by decide) ?_
    show Steps p.tables e below (T1.setTop (mkF m 68 #[.val (.int u0), .val (.int u1), .val (.int u2), .val (.int (7 : Int32)), .val (.int u1), .val (.ref (w 3)), .unset] [])) _
    refine XS.iload X1.here hx rfl (hb hby at_68) rfl ?_
    refine XS.ifNo X1.here hx rfl (hb hby at_70) rfl ((if0 _ _).trans (teq hf33).2) ?_
    refine XS.iconst X1.here hx rfl (hb hby at_73) ?_
    refine XS.goto X1.here hx rfl (pc0 := 74) (pc' := 78) rfl (hb hby at_74) (by decide) (by decide) ?_
    show Steps p.tables e below (T1.setTop (mkF m 78 #[.val (.int u0), .val (.int u1), .val (.int u2), .val (.int (7 : Int32)), .val (.int u1), .val (.ref (w 3)), .unset] [(.int (1 : Int32))])) _
    refine XS.istore X1.here hx rfl (hb hby at_78) rfl (l' := #[.val (.int u0), .val (.int u1), .val (.int u2), .val (.int (7 : Int32)), .val (.int u1), .val (.ref (w 3)), .val (.int (1 : Int32))]) rfl ?_
    refine XS.aload X1.here hx rfl (hb hby at_80) rfl rfl ?_
    refine XS.iload X1.here hx rfl (hb hby at_82) rfl ?_
    refine st2.trans ?_
    show Steps p.tables e below (T2.setTop (mkF m 87 #[.val (.int u0), .val (.int u1), .val (.int u2), .val (.int (7 : Int32)), .val (.int u1), .val (.ref (w 3)), .val (.int (1 : Int32))] [(.int (1 : Int32))])) _
    refine XS.iload X2.here hx rfl (hb hby at_87) rfl ?_
    refine XS.icmpNo X2.here hx rfl (hb hby at_89) rfl (teq (by decide : (1 : Int32) = (1 : Int32))).2 ?_
    refine XS.iconst X2.here hx rfl (hb hby at_92) ?_
    refine XS.goto X2.here hx rfl (pc0 := 93) (pc' := 97) rfl (hb hby at_93) (by decide) (by decide) ?_
    show Steps p.tables e below (T2.setTop (mkF m 97 #[.val (.int u0), .val (.int u1), .val (.int u2), .val (.int (7 : Int32)), .val (.int u1), .val (.ref (w 3)), .val (.int (1 : Int32))] [(.int (1 : Int32))])) _
    exact retN X2 hx (t := .boolean) Bd.returns (by simp) (hb hby at_97) hr
  · exact ⟨rfl, N2, e2⟩
set_option maxRecDepth 65536 in
set_option maxHeartbeats 40000000 in
theorem rm_takes_87 (l : Launch) (Z : State) (a0 : Array Value) (hw : ∀ d ∈ tables_1, d.before a0 Z = true) (w : Nat → Addr) (h0 : Heap) (n0 : Nat) (Z0 : n0 ≤ h0.size) (K : Kon Z h0 w) (u0 u1 u2 : Int32) (hf34 : u1 < (0 : Int32)) :
    OM l Z (⟨"com/example/licon/licon/search/Operator", "takes", "(I)Z"⟩ : MethodName) prog_9_method_4_code 2 (some .boolean) [] ({ frames := 0, cells := 0, slots := 0, locals := 0 } : Room) #[(.ref (w 3)), (.int u1)] h0 (OP (some (.int (0 : Int32))) n0 h0) := by
  refine MetFree.of_bodySF (plainFor_of_name pn_com_example_licon_licon_search_Operator) hisR ?_
  intro p e s m args below meth c s₁ Bd hml0 hP hK
  obtain ⟨rfl, hZ, hh⟩ := hP
  have hx := Bd.exec
  have hby := Bd.bytes
  have hml : c.maxLocals = 2 := hml0
  have hown : s.vm.findClass "com/example/licon/licon/search/Operator" = some m.cls := findClass_of_methodNamed Bd.named
  have X0 : Stand p l e ({ frames := 0, cells := 0, slots := 0, locals := 0 } : Room) s m #[(.ref (w 3)), (.int u1)] below meth c s₁ [] 0 0 := Stand.of_body Bd
  have e0 : s₁.heap = h0 := by rw [← hh, Bd.state]; rfl
  have N0 := Fr.nil n0
  have pre0 : ∀ t, Steps p.tables e below (s₁.setTop (mkF m 0 #[.val (.ref (w 3)), .val (.int u1)] [])) t → Steps p.tables e below (s₁.setTop (entryFrame m #[(.ref (w 3)), (.int u1)] 2)) t := fun t k => castTop (by first | rfl | simp [entryFrame, mkF, argsToLocals, Value.category]) k
  obtain ⟨T1, X1, e1, st1⟩ := getF X0 hx hZ hown (host := "") (Or.inl (hw _ (List.mem_of_getElem? (i := 12) rfl))) Via.refl e0 K.2.2.2.2.2.2.2.2.2.2.2.2.2.2.2.2.2.2.2.2.2.1 (g := (mkF m 2 #[.val (.ref (w 3)), .val (.int u1)] [(.ref (w 3)), (.int u1)])) rfl rfl (hb hby d_prog_9_method_4_code_2)
  obtain ⟨fs, hr, hrun, hended, hW, hsame⟩ := X1.leave (v := (some (.int (0 : Int32)))) (fun h => by rw [Bd.returns] at h; cases h)
  refine ⟨_, _, pre0 _ ?_, hrun, hended, _, _, rfl, ?_, ⟨_, rfl⟩, hW, hsame.mono (by decide) (by decide)⟩
  · show Steps p.tables e below (s₁.setTop (mkF m 0 #[.val (.ref (w 3)), .val (.int u1)] [])) _
    refine XS.iloadN X0.here hx rfl (hb hby d_prog_9_method_4_code_0) rfl ?_
    refine XS.aloadN X0.here hx rfl (hb hby d_prog_9_method_4_code_1) rfl rfl ?_
    refine st1 _ ?_
    refine XS.icmpYes X1.here hx rfl (pc0 := 5) (pc' := 20) rfl (hb hby d_prog_9_method_4_code_5) rfl (tlt hf34).1 (by decide) (by decide) ?_
    show Steps p.tables e below (T1.setTop (mkF m 20 #[.val (.ref (w 3)), .val (.int u1)] [])) _
    refine XS.iconst X1.here hx rfl (hb hby d_prog_9_method_4_code_20) ?_
    show Steps p.tables e below (T1.setTop (mkF m 21 #[.val (.ref (w 3)), .val (.int u1)] [(.int (0 : Int32))])) _
    exact retN X1 hx (t := .boolean) Bd.returns (by simp) (hb hby d_prog_9_method_4_code_21) hr
  · exact ⟨rfl, N0, e1⟩
set_option maxRecDepth 65536 in
set_option maxHeartbeats 40000000 in
theorem rm0_88 (l : Launch) (Z : State) (a0 : Array Value) (hw : ∀ d ∈ tables_1, d.before a0 Z = true) (w : Nat → Addr) (h0 : Heap) (n0 : Nat) (Z0 : n0 ≤ h0.size) (K : Kon Z h0 w) (u0 u1 u2 : Int32) (hf32 : (u2 &&& (1 : Int32)) = (0 : Int32)) (hf33 : ¬ (u1 = (0 : Int32))) (hf34 : u1 < (0 : Int32)) (hk0 : (u0 &&& (7 : Int32)) = (7 : Int32)) :
    OM l Z x code maxLocals ret tables_1 room_1 #[(.int u0), (.int u1), (.int u2)] h0 (OP (some (.int (1 : Int32))) n0 h0) := by
  refine MetFree.of_bodySF (plainFor_of_name pn_com_example_licon_licon_search_OperatorTakesPinLaw) hisR ?_
  intro p e s m args below meth c s₁ Bd hml0 hP hK
  obtain ⟨rfl, hZ, hh⟩ := hP
  have hx := Bd.exec
  have hby := Bd.bytes
  have hml : c.maxLocals = 7 := hml0
  have hown : s.vm.findClass "com/example/licon/licon/search/OperatorTakesPinLaw" = some m.cls := findClass_of_methodNamed Bd.named
  have X0 : Stand p l e room_1 s m #[(.int u0), (.int u1), (.int u2)] below meth c s₁ [] 0 0 := Stand.of_body Bd
  have e0 : s₁.heap = h0 := by rw [← hh, Bd.state]; rfl
  have N0 := Fr.nil n0
  have pre0 : ∀ t, Steps p.tables e below (s₁.setTop (mkF m 0 #[.val (.int u0), .val (.int u1), .val (.int u2), .unset, .unset, .unset, .unset] [])) t → Steps p.tables e below (s₁.setTop (entryFrame m #[(.int u0), (.int u1), (.int u2)] maxLocals)) t := fun t k => castTop (by first | rfl | simp [entryFrame, mkF, argsToLocals, Value.category, maxLocals]) k
  obtain ⟨_, _, ⟨T1, L1, k1, n1⟩, -, X1, ⟨Lc1, hQ1, l1, y1, z1⟩, st1⟩ := Jvm.LawKit.callS X0 hx (y := (⟨"com/example/licon/licon/search/OperatorTakesPinLaw", "pick", "(I)Lcom/example/licon/licon/search/Operator;"⟩ : MethodName)) hown (mvT hZ (hw _ (List.mem_of_getElem? (i := 0) rfl))) (mvT hZ (hw _ (List.mem_of_getElem? (i := 1) rfl))) (mvT hZ (hw _ (List.mem_of_getElem? (i := 2) rfl))) (mvT hZ (hw _ (List.mem_of_getElem? (i := 3) rfl))) (by decide) (backOf (W := 0) (rm_pick_84 l Z a0 hw w h0 n0 Z0 K u0 u1 u2) hZ (hw _ (List.mem_of_getElem? (i := 3) rfl)) (hw _ (List.mem_of_getElem? (i := 2) rfl)) (by decide) (by decide)) (g := (mkF m 21 #[.val (.int u0), .val (.int u1), .val (.int u2), .val (.int (7 : Int32)), .val (.int u1), .unset, .unset] [(.int (7 : Int32))])) rfl (by rw [hml]; rfl) (argsL := [(.int (7 : Int32))]) (rest := []) (lenOf pd_28I29Lcom2fexample2flicon2flicon2fsearch2fOperator3b rfl) rfl (by show 2 * 0 + _ ≤ _; exact Nat.le_of_eq rfl) (hb hby at_21) (fun _ _ => ⟨rfl, e0, (by decide : 0 + 0 ≤ _), (by decide : 0 + 0 ≤ _)⟩)
  dsimp only [Pt.U, Pt.locs, Pt.cells, Pt.slots] at X1 l1 y1 z1 st1 hQ1
  subst l1 y1 z1
  obtain ⟨rfl, N1q, e1⟩ := hQ1
  have N1 := Fr.app N0 N1q
  obtain ⟨cq2, kq2, qa2, qb2, qc2⟩ := isOf hZ e1 K.2.2.2.2.2.2.2.1
  obtain ⟨_, _, ⟨T2, L2, k2, n2⟩, -, X2, ⟨Lc2, hQ2, l2, y2, z2⟩, st2⟩ := X1.virtualBack hx (y := (⟨"com/example/licon/licon/search/Operator", "takes", "(I)Z"⟩ : MethodName)) (z := (⟨"com/example/licon/licon/search/Operator", "takes", "(I)Z"⟩ : MethodName)) hown (mvT hZ (hw _ (List.mem_of_getElem? (i := 7) rfl))) (mvT hZ (hw _ (List.mem_of_getElem? (i := 8) rfl))) (notFace_of_selects (args := #[]) (mvT hZ (hw _ (List.mem_of_getElem? (i := 10) rfl)))) (mvT hZ (hw _ (List.mem_of_getElem? (i := 10) rfl))) (mvT hZ (hw _ (List.mem_of_getElem? (i := 9) rfl))) (by decide) (backOf (W := 0) (rm_takes_87 l Z a0 hw w h0 n0 Z0 K u0 u1 u2 hf34) hZ (hw _ (List.mem_of_getElem? (i := 11) rfl)) (hw _ (List.mem_of_getElem? (i := 5) rfl)) (by decide) (by decide)) qa2 qc2 (g := (mkF m 84 #[.val (.int u0), .val (.int u1), .val (.int u2), .val (.int (7 : Int32)), .val (.int u1), .val (.ref (w 3)), .val (.int (0 : Int32))] [(.int u1), (.ref (w 3))])) rfl (by rw [hml]; rfl) (Steps.refl _) (argsL := [(.int u1)]) (rest := []) (lenOf pd_28I29Z rfl) rfl (by show 2 * 0 + _ ≤ _; exact Nat.le_of_eq rfl) (hb hby at_84) (fun _ _ => ⟨rfl, e1, (by decide : 0 + 0 ≤ _), (by decide : 0 + 0 ≤ _)⟩)
  dsimp only [Pt.U, Pt.locs, Pt.cells, Pt.slots] at X2 l2 y2 z2 st2 hQ2
  subst l2 y2 z2
  obtain ⟨rfl, N2q, e2⟩ := hQ2
  have N2 := Fr.app N1 N2q
  obtain ⟨fs, hr, hrun, hended, hW, hsame⟩ := X2.leave (v := (some (.int (1 : Int32)))) (fun h => by rw [Bd.returns] at h; cases h)
  refine ⟨_, _, pre0 _ ?_, hrun, hended, _, _, rfl, ?_, ⟨_, rfl⟩, hW, hsame.mono (by decide) (by decide)⟩
  · show Steps p.tables e below (s₁.setTop (mkF m 0 #[.val (.int u0), .val (.int u1), .val (.int u2), .unset, .unset, .unset, .unset] [])) _
    refine XS.iloadN X0.here hx rfl (hb hby at_0) rfl ?_
    refine XS.bipush X0.here hx rfl (hb hby at_1) ?_
    refine XS.iand X0.here hx rfl (hb hby at_3) rfl ?_
    show Steps p.tables e below (s₁.setTop (mkF m 4 #[.val (.int u0), .val (.int u1), .val (.int u2), .unset, .unset, .unset, .unset] [(.int (u0 &&& (7 : Int32)))])) _
    rw [hk0]
    show Steps p.tables e below (s₁.setTop (mkF m 4 #[.val (.int u0), .val (.int u1), .val (.int u2), .unset, .unset, .unset, .unset] [(.int (7 : Int32))])) _
    refine XS.istoreN X0.here hx rfl (hb hby at_4) rfl (l' := #[.val (.int u0), .val (.int u1), .val (.int u2), .val (.int (7 : Int32)), .unset, .unset, .unset]) rfl ?_
    refine XS.iloadN X0.here hx rfl (hb hby at_5) rfl ?_
    refine XS.iconst X0.here hx rfl (hb hby at_6) ?_
    refine XS.iand X0.here hx rfl (hb hby at_7) rfl ?_
    show Steps p.tables e below (s₁.setTop (mkF m 8 #[.val (.int u0), .val (.int u1), .val (.int u2), .val (.int (7 : Int32)), .unset, .unset, .unset] [(.int (u2 &&& (1 : Int32)))])) _
    refine XS.ifYes X0.here hx rfl (pc0 := 8) (pc' := 17) rfl (hb hby at_8) rfl ((if0 _ _).trans (teq hf32).1) (by decide) (by decide) ?_
    refine XS.iloadN X0.here hx rfl (hb hby at_17) rfl ?_
    refine XS.istore X0.here hx rfl (hb hby at_18) rfl (l' := #[.val (.int u0), .val (.int u1), .val (.int u2), .val (.int (7 : Int32)), .val (.int u1), .unset, .unset]) rfl ?_
    refine XS.iloadN X0.here hx rfl (hb hby at_20) rfl ?_
    show Steps p.tables e below (s₁.setTop (mkF m 21 #[.val (.int u0), .val (.int u1), .val (.int u2), .val (.int (7 : Int32)), .val (.int u1), .unset, .unset] [(.int (7 : Int32))])) _
    refine st1 _ ?_
    refine XS.astore X1.here hx rfl (hb hby at_24) rfl rfl (l' := #[.val (.int u0), .val (.int u1), .val (.int u2), .val (.int (7 : Int32)), .val (.int u1), .val (.ref (w 3)), .unset]) rfl ?_
    refine XS.iloadN X1.here hx rfl (hb hby at_26) rfl ?_
    refine XS.iconst X1.here hx rfl (hb hby at_27) ?_
    show Steps p.tables e below (T1.setTop (mkF m 28 #[.val (.int u0), .val (.int u1), .val (.int u2), .val (.int (7 : Int32)), .val (.int u1), .val (.ref (w 3)), .unset] [(.int (4 : Int32)), (.int (7 : Int32))])) _
    refine XS.icmpYes X1.here hx rfl (pc0 := 28) (pc' := 47) rfl (hb hby at_28) rfl (flt (by decide : ¬ ((7 : Int32) < (4 : Int32)))).2.1 (by decide) (by decide) ?_
    refine XS.iloadN X1.here hx rfl (hb hby at_47) rfl ?_
    refine XS.bipush X1.here hx rfl (hb hby at_48) ?_
    refine XS.icmpYes X1.here hx rfl (pc0 := 50) (pc' := 68) rfl (hb hby at_50) rfl (flt (by decide : ¬ ((7 : Int32) < (6 : Int32)))).2.1 (by decide) (by decide) ?_
    show Steps p.tables e below (T1.setTop (mkF m 68 #[.val (.int u0), .val (.int u1), .val (.int u2), .val (.int (7 : Int32)), .val (.int u1), .val (.ref (w 3)), .unset] [])) _
    refine XS.iload X1.here hx rfl (hb hby at_68) rfl ?_
    refine XS.ifYes X1.here hx rfl (pc0 := 70) (pc' := 77) rfl (hb hby at_70) rfl ((if0 _ _).trans (feq hf33).2) (by decide) (by decide) ?_
    refine XS.iconst X1.here hx rfl (hb hby at_77) ?_
    refine XS.istore X1.here hx rfl (hb hby at_78) rfl (l' := #[.val (.int u0), .val (.int u1), .val (.int u2), .val (.int (7 : Int32)), .val (.int u1), .val (.ref (w 3)), .val (.int (0 : Int32))]) rfl ?_
    show Steps p.tables e below (T1.setTop (mkF m 80 #[.val (.int u0), .val (.int u1), .val (.int u2), .val (.int (7 : Int32)), .val (.int u1), .val (.ref (w 3)), .val (.int (0 : Int32))] [])) _
    refine XS.aload X1.here hx rfl (hb hby at_80) rfl rfl ?_
    refine XS.iload X1.here hx rfl (hb hby at_82) rfl ?_
    refine st2.trans ?_
    refine XS.iload X2.here hx rfl (hb hby at_87) rfl ?_
    show Steps p.tables e below (T2.setTop (mkF m 89 #[.val (.int u0), .val (.int u1), .val (.int u2), .val (.int (7 : Int32)), .val (.int u1), .val (.ref (w 3)), .val (.int (0 : Int32))] [(.int (0 : Int32)), (.int (0 : Int32))])) _
    refine XS.icmpNo X2.here hx rfl (hb hby at_89) rfl (teq (by decide : (0 : Int32) = (0 : Int32))).2 ?_
    refine XS.iconst X2.here hx rfl (hb hby at_92) ?_
    refine XS.goto X2.here hx rfl (pc0 := 93) (pc' := 97) rfl (hb hby at_93) (by decide) (by decide) ?_
    show Steps p.tables e below (T2.setTop (mkF m 97 #[.val (.int u0), .val (.int u1), .val (.int u2), .val (.int (7 : Int32)), .val (.int u1), .val (.ref (w 3)), .val (.int (0 : Int32))] [(.int (1 : Int32))])) _
    exact retN X2 hx (t := .boolean) Bd.returns (by simp) (hb hby at_97) hr
  · exact ⟨rfl, N2, e2⟩
set_option maxRecDepth 65536 in
set_option maxHeartbeats 40000000 in
theorem rm_takes_89 (l : Launch) (Z : State) (a0 : Array Value) (hw : ∀ d ∈ tables_1, d.before a0 Z = true) (w : Nat → Addr) (h0 : Heap) (n0 : Nat) (Z0 : n0 ≤ h0.size) (K : Kon Z h0 w) (u0 u1 u2 : Int32) (hf33 : ¬ (u1 = (0 : Int32))) (hf34 : ¬ (u1 < (0 : Int32))) :
    OM l Z (⟨"com/example/licon/licon/search/Operator", "takes", "(I)Z"⟩ : MethodName) prog_9_method_4_code 2 (some .boolean) [] ({ frames := 0, cells := 0, slots := 0, locals := 0 } : Room) #[(.ref (w 3)), (.int u1)] h0 (OP (some (.int (0 : Int32))) n0 h0) := by
  refine MetFree.of_bodySF (plainFor_of_name pn_com_example_licon_licon_search_Operator) hisR ?_
  intro p e s m args below meth c s₁ Bd hml0 hP hK
  obtain ⟨rfl, hZ, hh⟩ := hP
  have hx := Bd.exec
  have hby := Bd.bytes
  have hml : c.maxLocals = 2 := hml0
  have hown : s.vm.findClass "com/example/licon/licon/search/Operator" = some m.cls := findClass_of_methodNamed Bd.named
  have X0 : Stand p l e ({ frames := 0, cells := 0, slots := 0, locals := 0 } : Room) s m #[(.ref (w 3)), (.int u1)] below meth c s₁ [] 0 0 := Stand.of_body Bd
  have e0 : s₁.heap = h0 := by rw [← hh, Bd.state]; rfl
  have N0 := Fr.nil n0
  have pre0 : ∀ t, Steps p.tables e below (s₁.setTop (mkF m 0 #[.val (.ref (w 3)), .val (.int u1)] [])) t → Steps p.tables e below (s₁.setTop (entryFrame m #[(.ref (w 3)), (.int u1)] 2)) t := fun t k => castTop (by first | rfl | simp [entryFrame, mkF, argsToLocals, Value.category]) k
  obtain ⟨T1, X1, e1, st1⟩ := getF X0 hx hZ hown (host := "") (Or.inl (hw _ (List.mem_of_getElem? (i := 12) rfl))) Via.refl e0 K.2.2.2.2.2.2.2.2.2.2.2.2.2.2.2.2.2.2.2.2.2.1 (g := (mkF m 2 #[.val (.ref (w 3)), .val (.int u1)] [(.ref (w 3)), (.int u1)])) rfl rfl (hb hby d_prog_9_method_4_code_2)
  obtain ⟨T2, X2, e2, st2⟩ := getF X1 hx hZ hown (host := "") (Or.inl (hw _ (List.mem_of_getElem? (i := 14) rfl))) Via.refl e1 K.2.2.2.2.2.2.2.2.2.2.2.2.2.2.2.2.2.2.2.2.2.2.1 (g := (mkF m 10 #[.val (.ref (w 3)), .val (.int u1)] [(.ref (w 3)), (.int u1)])) rfl rfl (hb hby d_prog_9_method_4_code_10)
  obtain ⟨fs, hr, hrun, hended, hW, hsame⟩ := X2.leave (v := (some (.int (0 : Int32)))) (fun h => by rw [Bd.returns] at h; cases h)
  refine ⟨_, _, pre0 _ ?_, hrun, hended, _, _, rfl, ?_, ⟨_, rfl⟩, hW, hsame.mono (by decide) (by decide)⟩
  · show Steps p.tables e below (s₁.setTop (mkF m 0 #[.val (.ref (w 3)), .val (.int u1)] [])) _
    refine XS.iloadN X0.here hx rfl (hb hby d_prog_9_method_4_code_0) rfl ?_
    refine XS.aloadN X0.here hx rfl (hb hby d_prog_9_method_4_code_1) rfl rfl ?_
    refine st1 _ ?_
    refine XS.icmpNo X1.here hx rfl (hb hby d_prog_9_method_4_code_5) rfl (flt hf34).1 ?_
    show Steps p.tables e below (T1.setTop (mkF m 8 #[.val (.ref (w 3)), .val (.int u1)] [])) _
    refine XS.iloadN X1.here hx rfl (hb hby d_prog_9_method_4_code_8) rfl ?_
    refine XS.aloadN X1.here hx rfl (hb hby d_prog_9_method_4_code_9) rfl rfl ?_
    refine st2 _ ?_
    refine XS.icmpYes X2.here hx rfl (pc0 := 13) (pc' := 20) rfl (hb hby d_prog_9_method_4_code_13) rfl (tlt (by have z0 := mt Int32.toInt_inj.mp hf33; have z1 := mt Int32.lt_iff_toInt_lt.mpr hf34; have l0 : (0 : Int32).toInt = 0 := rfl; have r0 := rng32 u1; exact Int32.lt_iff_toInt_lt.mpr (by omega) : (0 : Int32) < u1)).2.2.1 (by decide) (by decide) ?_
    show Steps p.tables e below (T2.setTop (mkF m 20 #[.val (.ref (w 3)), .val (.int u1)] [])) _
    refine XS.iconst X2.here hx rfl (hb hby d_prog_9_method_4_code_20) ?_
    show Steps p.tables e below (T2.setTop (mkF m 21 #[.val (.ref (w 3)), .val (.int u1)] [(.int (0 : Int32))])) _
    exact retN X2 hx (t := .boolean) Bd.returns (by simp) (hb hby d_prog_9_method_4_code_21) hr
  · exact ⟨rfl, N0, e2⟩
set_option maxRecDepth 65536 in
set_option maxHeartbeats 40000000 in
theorem rm0_90 (l : Launch) (Z : State) (a0 : Array Value) (hw : ∀ d ∈ tables_1, d.before a0 Z = true) (w : Nat → Addr) (h0 : Heap) (n0 : Nat) (Z0 : n0 ≤ h0.size) (K : Kon Z h0 w) (u0 u1 u2 : Int32) (hf32 : (u2 &&& (1 : Int32)) = (0 : Int32)) (hf33 : ¬ (u1 = (0 : Int32))) (hf34 : ¬ (u1 < (0 : Int32))) (hk0 : (u0 &&& (7 : Int32)) = (7 : Int32)) :
    OM l Z x code maxLocals ret tables_1 room_1 #[(.int u0), (.int u1), (.int u2)] h0 (OP (some (.int (1 : Int32))) n0 h0) := by
  refine MetFree.of_bodySF (plainFor_of_name pn_com_example_licon_licon_search_OperatorTakesPinLaw) hisR ?_
  intro p e s m args below meth c s₁ Bd hml0 hP hK
  obtain ⟨rfl, hZ, hh⟩ := hP
  have hx := Bd.exec
  have hby := Bd.bytes
  have hml : c.maxLocals = 7 := hml0
  have hown : s.vm.findClass "com/example/licon/licon/search/OperatorTakesPinLaw" = some m.cls := findClass_of_methodNamed Bd.named
  have X0 : Stand p l e room_1 s m #[(.int u0), (.int u1), (.int u2)] below meth c s₁ [] 0 0 := Stand.of_body Bd
  have e0 : s₁.heap = h0 := by rw [← hh, Bd.state]; rfl
  have N0 := Fr.nil n0
  have pre0 : ∀ t, Steps p.tables e below (s₁.setTop (mkF m 0 #[.val (.int u0), .val (.int u1), .val (.int u2), .unset, .unset, .unset, .unset] [])) t → Steps p.tables e below (s₁.setTop (entryFrame m #[(.int u0), (.int u1), (.int u2)] maxLocals)) t := fun t k => castTop (by first | rfl | simp [entryFrame, mkF, argsToLocals, Value.category, maxLocals]) k
  obtain ⟨_, _, ⟨T1, L1, k1, n1⟩, -, X1, ⟨Lc1, hQ1, l1, y1, z1⟩, st1⟩ := Jvm.LawKit.callS X0 hx (y := (⟨"com/example/licon/licon/search/OperatorTakesPinLaw", "pick", "(I)Lcom/example/licon/licon/search/Operator;"⟩ : MethodName)) hown (mvT hZ (hw _ (List.mem_of_getElem? (i := 0) rfl))) (mvT hZ (hw _ (List.mem_of_getElem? (i := 1) rfl))) (mvT hZ (hw _ (List.mem_of_getElem? (i := 2) rfl))) (mvT hZ (hw _ (List.mem_of_getElem? (i := 3) rfl))) (by decide) (backOf (W := 0) (rm_pick_84 l Z a0 hw w h0 n0 Z0 K u0 u1 u2) hZ (hw _ (List.mem_of_getElem? (i := 3) rfl)) (hw _ (List.mem_of_getElem? (i := 2) rfl)) (by decide) (by decide)) (g := (mkF m 21 #[.val (.int u0), .val (.int u1), .val (.int u2), .val (.int (7 : Int32)), .val (.int u1), .unset, .unset] [(.int (7 : Int32))])) rfl (by rw [hml]; rfl) (argsL := [(.int (7 : Int32))]) (rest := []) (lenOf pd_28I29Lcom2fexample2flicon2flicon2fsearch2fOperator3b rfl) rfl (by show 2 * 0 + _ ≤ _; exact Nat.le_of_eq rfl) (hb hby at_21) (fun _ _ => ⟨rfl, e0, (by decide : 0 + 0 ≤ _), (by decide : 0 + 0 ≤ _)⟩)
  dsimp only [Pt.U, Pt.locs, Pt.cells, Pt.slots] at X1 l1 y1 z1 st1 hQ1
  subst l1 y1 z1
  obtain ⟨rfl, N1q, e1⟩ := hQ1
  have N1 := Fr.app N0 N1q
  obtain ⟨cq2, kq2, qa2, qb2, qc2⟩ := isOf hZ e1 K.2.2.2.2.2.2.2.1
  obtain ⟨_, _, ⟨T2, L2, k2, n2⟩, -, X2, ⟨Lc2, hQ2, l2, y2, z2⟩, st2⟩ := X1.virtualBack hx (y := (⟨"com/example/licon/licon/search/Operator", "takes", "(I)Z"⟩ : MethodName)) (z := (⟨"com/example/licon/licon/search/Operator", "takes", "(I)Z"⟩ : MethodName)) hown (mvT hZ (hw _ (List.mem_of_getElem? (i := 7) rfl))) (mvT hZ (hw _ (List.mem_of_getElem? (i := 8) rfl))) (notFace_of_selects (args := #[]) (mvT hZ (hw _ (List.mem_of_getElem? (i := 10) rfl)))) (mvT hZ (hw _ (List.mem_of_getElem? (i := 10) rfl))) (mvT hZ (hw _ (List.mem_of_getElem? (i := 9) rfl))) (by decide) (backOf (W := 0) (rm_takes_89 l Z a0 hw w h0 n0 Z0 K u0 u1 u2 hf33 hf34) hZ (hw _ (List.mem_of_getElem? (i := 11) rfl)) (hw _ (List.mem_of_getElem? (i := 5) rfl)) (by decide) (by decide)) qa2 qc2 (g := (mkF m 84 #[.val (.int u0), .val (.int u1), .val (.int u2), .val (.int (7 : Int32)), .val (.int u1), .val (.ref (w 3)), .val (.int (0 : Int32))] [(.int u1), (.ref (w 3))])) rfl (by rw [hml]; rfl) (Steps.refl _) (argsL := [(.int u1)]) (rest := []) (lenOf pd_28I29Z rfl) rfl (by show 2 * 0 + _ ≤ _; exact Nat.le_of_eq rfl) (hb hby at_84) (fun _ _ => ⟨rfl, e1, (by decide : 0 + 0 ≤ _), (by decide : 0 + 0 ≤ _)⟩)
  dsimp only [Pt.U, Pt.locs, Pt.cells, Pt.slots] at X2 l2 y2 z2 st2 hQ2
  subst l2 y2 z2
  obtain ⟨rfl, N2q, e2⟩ := hQ2
  have N2 := Fr.app N1 N2q
  obtain ⟨fs, hr, hrun, hended, hW, hsame⟩ := X2.leave (v := (some (.int (1 : Int32)))) (fun h => by rw [Bd.returns] at h; cases h)
  refine ⟨_, _, pre0 _ ?_, hrun, hended, _, _, rfl, ?_, ⟨_, rfl⟩, hW, hsame.mono (by decide) (by decide)⟩
  · show Steps p.tables e below (s₁.setTop (mkF m 0 #[.val (.int u0), .val (.int u1), .val (.int u2), .unset, .unset, .unset, .unset] [])) _
    refine XS.iloadN X0.here hx rfl (hb hby at_0) rfl ?_
    refine XS.bipush X0.here hx rfl (hb hby at_1) ?_
    refine XS.iand X0.here hx rfl (hb hby at_3) rfl ?_
    show Steps p.tables e below (s₁.setTop (mkF m 4 #[.val (.int u0), .val (.int u1), .val (.int u2), .unset, .unset, .unset, .unset] [(.int (u0 &&& (7 : Int32)))])) _
    rw [hk0]
    show Steps p.tables e below (s₁.setTop (mkF m 4 #[.val (.int u0), .val (.int u1), .val (.int u2), .unset, .unset, .unset, .unset] [(.int (7 : Int32))])) _
    refine XS.istoreN X0.here hx rfl (hb hby at_4) rfl (l' := #[.val (.int u0), .val (.int u1), .val (.int u2), .val (.int (7 : Int32)), .unset, .unset, .unset]) rfl ?_
    refine XS.iloadN X0.here hx rfl (hb hby at_5) rfl ?_
    refine XS.iconst X0.here hx rfl (hb hby at_6) ?_
    refine XS.iand X0.here hx rfl (hb hby at_7) rfl ?_
    show Steps p.tables e below (s₁.setTop (mkF m 8 #[.val (.int u0), .val (.int u1), .val (.int u2), .val (.int (7 : Int32)), .unset, .unset, .unset] [(.int (u2 &&& (1 : Int32)))])) _
    refine XS.ifYes X0.here hx rfl (pc0 := 8) (pc' := 17) rfl (hb hby at_8) rfl ((if0 _ _).trans (teq hf32).1) (by decide) (by decide) ?_
    refine XS.iloadN X0.here hx rfl (hb hby at_17) rfl ?_
    refine XS.istore X0.here hx rfl (hb hby at_18) rfl (l' := #[.val (.int u0), .val (.int u1), .val (.int u2), .val (.int (7 : Int32)), .val (.int u1), .unset, .unset]) rfl ?_
    refine XS.iloadN X0.here hx rfl (hb hby at_20) rfl ?_
    show Steps p.tables e below (s₁.setTop (mkF m 21 #[.val (.int u0), .val (.int u1), .val (.int u2), .val (.int (7 : Int32)), .val (.int u1), .unset, .unset] [(.int (7 : Int32))])) _
    refine st1 _ ?_
    refine XS.astore X1.here hx rfl (hb hby at_24) rfl rfl (l' := #[.val (.int u0), .val (.int u1), .val (.int u2), .val (.int (7 : Int32)), .val (.int u1), .val (.ref (w 3)), .unset]) rfl ?_
    refine XS.iloadN X1.here hx rfl (hb hby at_26) rfl ?_
    refine XS.iconst X1.here hx rfl (hb hby at_27) ?_
    show Steps p.tables e below (T1.setTop (mkF m 28 #[.val (.int u0), .val (.int u1), .val (.int u2), .val (.int (7 : Int32)), .val (.int u1), .val (.ref (w 3)), .unset] [(.int (4 : Int32)), (.int (7 : Int32))])) _
    refine XS.icmpYes X1.here hx rfl (pc0 := 28) (pc' := 47) rfl (hb hby at_28) rfl (flt (by decide : ¬ ((7 : Int32) < (4 : Int32)))).2.1 (by decide) (by decide) ?_
    refine XS.iloadN X1.here hx rfl (hb hby at_47) rfl ?_
    refine XS.bipush X1.here hx rfl (hb hby at_48) ?_
    refine XS.icmpYes X1.here hx rfl (pc0 := 50) (pc' := 68) rfl (hb hby at_50) rfl (flt (by decide : ¬ ((7 : Int32) < (6 : Int32)))).2.1 (by decide) (by decide) ?_
    show Steps p.tables e below (T1.setTop (mkF m 68 #[.val (.int u0), .val (.int u1), .val (.int u2), .val (.int (7 : Int32)), .val (.int u1), .val (.ref (w 3)), .unset] [])) _
    refine XS.iload X1.here hx rfl (hb hby at_68) rfl ?_
    refine XS.ifYes X1.here hx rfl (pc0 := 70) (pc' := 77) rfl (hb hby at_70) rfl ((if0 _ _).trans (feq hf33).2) (by decide) (by decide) ?_
    refine XS.iconst X1.here hx rfl (hb hby at_77) ?_
    refine XS.istore X1.here hx rfl (hb hby at_78) rfl (l' := #[.val (.int u0), .val (.int u1), .val (.int u2), .val (.int (7 : Int32)), .val (.int u1), .val (.ref (w 3)), .val (.int (0 : Int32))]) rfl ?_
    show Steps p.tables e below (T1.setTop (mkF m 80 #[.val (.int u0), .val (.int u1), .val (.int u2), .val (.int (7 : Int32)), .val (.int u1), .val (.ref (w 3)), .val (.int (0 : Int32))] [])) _
    refine XS.aload X1.here hx rfl (hb hby at_80) rfl rfl ?_
    refine XS.iload X1.here hx rfl (hb hby at_82) rfl ?_
    refine st2.trans ?_
    refine XS.iload X2.here hx rfl (hb hby at_87) rfl ?_
    show Steps p.tables e below (T2.setTop (mkF m 89 #[.val (.int u0), .val (.int u1), .val (.int u2), .val (.int (7 : Int32)), .val (.int u1), .val (.ref (w 3)), .val (.int (0 : Int32))] [(.int (0 : Int32)), (.int (0 : Int32))])) _
    refine XS.icmpNo X2.here hx rfl (hb hby at_89) rfl (teq (by decide : (0 : Int32) = (0 : Int32))).2 ?_
    refine XS.iconst X2.here hx rfl (hb hby at_92) ?_
    refine XS.goto X2.here hx rfl (pc0 := 93) (pc' := 97) rfl (hb hby at_93) (by decide) (by decide) ?_
    show Steps p.tables e below (T2.setTop (mkF m 97 #[.val (.int u0), .val (.int u1), .val (.int u2), .val (.int (7 : Int32)), .val (.int u1), .val (.ref (w 3)), .val (.int (0 : Int32))] [(.int (1 : Int32))])) _
    exact retN X2 hx (t := .boolean) Bd.returns (by simp) (hb hby at_97) hr
  · exact ⟨rfl, N2, e2⟩
set_option maxRecDepth 65536 in
set_option maxHeartbeats 40000000 in
theorem rm_takes_91 (l : Launch) (Z : State) (a0 : Array Value) (hw : ∀ d ∈ tables_1, d.before a0 Z = true) (w : Nat → Addr) (h0 : Heap) (n0 : Nat) (Z0 : n0 ≤ h0.size) (K : Kon Z h0 w) (u0 u1 u2 : Int32) (hf35 : (u1 % (4 : Int32)) = (0 : Int32)) :
    OM l Z (⟨"com/example/licon/licon/search/Operator", "takes", "(I)Z"⟩ : MethodName) prog_9_method_4_code 2 (some .boolean) [] ({ frames := 0, cells := 0, slots := 0, locals := 0 } : Room) #[(.ref (w 3)), (.int (u1 % (4 : Int32)))] h0 (OP (some (.int (1 : Int32))) n0 h0) := by
  refine MetFree.of_bodySF (plainFor_of_name pn_com_example_licon_licon_search_Operator) hisR ?_
  intro p e s m args below meth c s₁ Bd hml0 hP hK
  obtain ⟨rfl, hZ, hh⟩ := hP
  have hx := Bd.exec
  have hby := Bd.bytes
  have hml : c.maxLocals = 2 := hml0
  have hown : s.vm.findClass "com/example/licon/licon/search/Operator" = some m.cls := findClass_of_methodNamed Bd.named
  have X0 : Stand p l e ({ frames := 0, cells := 0, slots := 0, locals := 0 } : Room) s m #[(.ref (w 3)), (.int (u1 % (4 : Int32)))] below meth c s₁ [] 0 0 := Stand.of_body Bd
  have e0 : s₁.heap = h0 := by rw [← hh, Bd.state]; rfl
  have N0 := Fr.nil n0
  have pre0 : ∀ t, Steps p.tables e below (s₁.setTop (mkF m 0 #[.val (.ref (w 3)), .val (.int (u1 % (4 : Int32)))] [])) t → Steps p.tables e below (s₁.setTop (entryFrame m #[(.ref (w 3)), (.int (u1 % (4 : Int32)))] 2)) t := fun t k => castTop (by first | rfl | simp [entryFrame, mkF, argsToLocals, Value.category]) k
  obtain ⟨T1, X1, e1, st1⟩ := getF X0 hx hZ hown (host := "") (Or.inl (hw _ (List.mem_of_getElem? (i := 12) rfl))) Via.refl e0 K.2.2.2.2.2.2.2.2.2.2.2.2.2.2.2.2.2.2.2.2.2.1 (g := (mkF m 2 #[.val (.ref (w 3)), .val (.int (u1 % (4 : Int32)))] [(.ref (w 3)), (.int (u1 % (4 : Int32)))])) rfl rfl (hb hby d_prog_9_method_4_code_2)
  obtain ⟨T2, X2, e2, st2⟩ := getF X1 hx hZ hown (host := "") (Or.inl (hw _ (List.mem_of_getElem? (i := 14) rfl))) Via.refl e1 K.2.2.2.2.2.2.2.2.2.2.2.2.2.2.2.2.2.2.2.2.2.2.1 (g := (mkF m 10 #[.val (.ref (w 3)), .val (.int (u1 % (4 : Int32)))] [(.ref (w 3)), (.int (u1 % (4 : Int32)))])) rfl rfl (hb hby d_prog_9_method_4_code_10)
  obtain ⟨fs, hr, hrun, hended, hW, hsame⟩ := X2.leave (v := (some (.int (1 : Int32)))) (fun h => by rw [Bd.returns] at h; cases h)
  refine ⟨_, _, pre0 _ ?_, hrun, hended, _, _, rfl, ?_, ⟨_, rfl⟩, hW, hsame.mono (by decide) (by decide)⟩
  · show Steps p.tables e below (s₁.setTop (mkF m 0 #[.val (.ref (w 3)), .val (.int (u1 % (4 : Int32)))] [])) _
    refine XS.iloadN X0.here hx rfl (hb hby d_prog_9_method_4_code_0) rfl ?_
    refine XS.aloadN X0.here hx rfl (hb hby d_prog_9_method_4_code_1) rfl rfl ?_
    refine st1 _ ?_
    refine XS.icmpNo X1.here hx rfl (hb hby d_prog_9_method_4_code_5) rfl (flt (by have z0 := congrArg Int32.toInt hf35; have l0 : (0 : Int32).toInt = 0 := rfl; have r0 := rng32 (u1 % (4 : Int32)); exact fun hh => absurd (Int32.lt_iff_toInt_lt.mp hh) (by omega) : ¬ ((u1 % (4 : Int32)) < (0 : Int32)))).1 ?_
    show Steps p.tables e below (T1.setTop (mkF m 8 #[.val (.ref (w 3)), .val (.int (u1 % (4 : Int32)))] [])) _
    refine XS.iloadN X1.here hx rfl (hb hby d_prog_9_method_4_code_8) rfl ?_
    refine XS.aloadN X1.here hx rfl (hb hby d_prog_9_method_4_code_9) rfl rfl ?_
    refine st2 _ ?_
    refine XS.icmpNo X2.here hx rfl (hb hby d_prog_9_method_4_code_13) rfl (flt (by have z0 := congrArg Int32.toInt hf35; have l0 : (0 : Int32).toInt = 0 := rfl; have r0 := rng32 (u1 % (4 : Int32)); exact fun hh => absurd (Int32.lt_iff_toInt_lt.mp hh) (by omega) : ¬ ((0 : Int32) < (u1 % (4 : Int32))))).2.2.1 ?_
    show Steps p.tables e below (T2.setTop (mkF m 16 #[.val (.ref (w 3)), .val (.int (u1 % (4 : Int32)))] [])) _
    refine XS.iconst X2.here hx rfl (hb hby d_prog_9_method_4_code_16) ?_
    refine XS.goto X2.here hx rfl (pc0 := 17) (pc' := 21) rfl (hb hby d_prog_9_method_4_code_17) (by decide) (by decide) ?_
    show Steps p.tables e below (T2.setTop (mkF m 21 #[.val (.ref (w 3)), .val (.int (u1 % (4 : Int32)))] [(.int (1 : Int32))])) _
    exact retN X2 hx (t := .boolean) Bd.returns (by simp) (hb hby d_prog_9_method_4_code_21) hr
  · exact ⟨rfl, N0, e2⟩
set_option maxRecDepth 65536 in
set_option maxHeartbeats 40000000 in
theorem rm0_92 (l : Launch) (Z : State) (a0 : Array Value) (hw : ∀ d ∈ tables_1, d.before a0 Z = true) (w : Nat → Addr) (h0 : Heap) (n0 : Nat) (Z0 : n0 ≤ h0.size) (K : Kon Z h0 w) (u0 u1 u2 : Int32) (hf32 : ¬ ((u2 &&& (1 : Int32)) = (0 : Int32))) (hf35 : (u1 % (4 : Int32)) = (0 : Int32)) (hk0 : (u0 &&& (7 : Int32)) = (7 : Int32)) :
    OM l Z x code maxLocals ret tables_1 room_1 #[(.int u0), (.int u1), (.int u2)] h0 (OP (some (.int (1 : Int32))) n0 h0) := by
  refine MetFree.of_bodySF (plainFor_of_name pn_com_example_licon_licon_search_OperatorTakesPinLaw) hisR ?_
  intro p e s m args below meth c s₁ Bd hml0 hP hK
  obtain ⟨rfl, hZ, hh⟩ := hP
  have hx := Bd.exec
  have hby := Bd.bytes
  have hml : c.maxLocals = 7 := hml0
  have hown : s.vm.findClass "com/example/licon/licon/search/OperatorTakesPinLaw" = some m.cls := findClass_of_methodNamed Bd.named
  have X0 : Stand p l e room_1 s m #[(.int u0), (.int u1), (.int u2)] below meth c s₁ [] 0 0 := Stand.of_body Bd
  have e0 : s₁.heap = h0 := by rw [← hh, Bd.state]; rfl
  have N0 := Fr.nil n0
  have pre0 : ∀ t, Steps p.tables e below (s₁.setTop (mkF m 0 #[.val (.int u0), .val (.int u1), .val (.int u2), .unset, .unset, .unset, .unset] [])) t → Steps p.tables e below (s₁.setTop (entryFrame m #[(.int u0), (.int u1), (.int u2)] maxLocals)) t := fun t k => castTop (by first | rfl | simp [entryFrame, mkF, argsToLocals, Value.category, maxLocals]) k
  obtain ⟨_, _, ⟨T1, L1, k1, n1⟩, -, X1, ⟨Lc1, hQ1, l1, y1, z1⟩, st1⟩ := Jvm.LawKit.callS X0 hx (y := (⟨"com/example/licon/licon/search/OperatorTakesPinLaw", "pick", "(I)Lcom/example/licon/licon/search/Operator;"⟩ : MethodName)) hown (mvT hZ (hw _ (List.mem_of_getElem? (i := 0) rfl))) (mvT hZ (hw _ (List.mem_of_getElem? (i := 1) rfl))) (mvT hZ (hw _ (List.mem_of_getElem? (i := 2) rfl))) (mvT hZ (hw _ (List.mem_of_getElem? (i := 3) rfl))) (by decide) (backOf (W := 0) (rm_pick_84 l Z a0 hw w h0 n0 Z0 K u0 u1 u2) hZ (hw _ (List.mem_of_getElem? (i := 3) rfl)) (hw _ (List.mem_of_getElem? (i := 2) rfl)) (by decide) (by decide)) (g := (mkF m 21 #[.val (.int u0), .val (.int u1), .val (.int u2), .val (.int (7 : Int32)), .val (.int (u1 % (4 : Int32))), .unset, .unset] [(.int (7 : Int32))])) rfl (by rw [hml]; rfl) (argsL := [(.int (7 : Int32))]) (rest := []) (lenOf pd_28I29Lcom2fexample2flicon2flicon2fsearch2fOperator3b rfl) rfl (by show 2 * 0 + _ ≤ _; exact Nat.le_of_eq rfl) (hb hby at_21) (fun _ _ => ⟨rfl, e0, (by decide : 0 + 0 ≤ _), (by decide : 0 + 0 ≤ _)⟩)
  dsimp only [Pt.U, Pt.locs, Pt.cells, Pt.slots] at X1 l1 y1 z1 st1 hQ1
  subst l1 y1 z1
  obtain ⟨rfl, N1q, e1⟩ := hQ1
  have N1 := Fr.app N0 N1q
  obtain ⟨cq2, kq2, qa2, qb2, qc2⟩ := isOf hZ e1 K.2.2.2.2.2.2.2.1
  obtain ⟨_, _, ⟨T2, L2, k2, n2⟩, -, X2, ⟨Lc2, hQ2, l2, y2, z2⟩, st2⟩ := X1.virtualBack hx (y := (⟨"com/example/licon/licon/search/Operator", "takes", "(I)Z"⟩ : MethodName)) (z := (⟨"com/example/licon/licon/search/Operator", "takes", "(I)Z"⟩ : MethodName)) hown (mvT hZ (hw _ (List.mem_of_getElem? (i := 7) rfl))) (mvT hZ (hw _ (List.mem_of_getElem? (i := 8) rfl))) (notFace_of_selects (args := #[]) (mvT hZ (hw _ (List.mem_of_getElem? (i := 10) rfl)))) (mvT hZ (hw _ (List.mem_of_getElem? (i := 10) rfl))) (mvT hZ (hw _ (List.mem_of_getElem? (i := 9) rfl))) (by decide) (backOf (W := 0) (rm_takes_91 l Z a0 hw w h0 n0 Z0 K u0 u1 u2 hf35) hZ (hw _ (List.mem_of_getElem? (i := 11) rfl)) (hw _ (List.mem_of_getElem? (i := 5) rfl)) (by decide) (by decide)) qa2 qc2 (g := (mkF m 84 #[.val (.int u0), .val (.int u1), .val (.int u2), .val (.int (7 : Int32)), .val (.int (u1 % (4 : Int32))), .val (.ref (w 3)), .val (.int (1 : Int32))] [(.int (u1 % (4 : Int32))), (.ref (w 3))])) rfl (by rw [hml]; rfl) (Steps.refl _) (argsL := [(.int (u1 % (4 : Int32)))]) (rest := []) (lenOf pd_28I29Z rfl) rfl (by show 2 * 0 + _ ≤ _; exact Nat.le_of_eq rfl) (hb hby at_84) (fun _ _ => ⟨rfl, e1, (by decide : 0 + 0 ≤ _), (by decide : 0 + 0 ≤ _)⟩)
  dsimp only [Pt.U, Pt.locs, Pt.cells, Pt.slots] at X2 l2 y2 z2 st2 hQ2
  subst l2 y2 z2
  obtain ⟨rfl, N2q, e2⟩ := hQ2
  have N2 := Fr.app N1 N2q
  obtain ⟨fs, hr, hrun, hended, hW, hsame⟩ := X2.leave (v := (some (.int (1 : Int32)))) (fun h => by rw [Bd.returns] at h; cases h)
  refine ⟨_, _, pre0 _ ?_, hrun, hended, _, _, rfl, ?_, ⟨_, rfl⟩, hW, hsame.mono (by decide) (by decide)⟩
  · show Steps p.tables e below (s₁.setTop (mkF m 0 #[.val (.int u0), .val (.int u1), .val (.int u2), .unset, .unset, .unset, .unset] [])) _
    refine XS.iloadN X0.here hx rfl (hb hby at_0) rfl ?_
    refine XS.bipush X0.here hx rfl (hb hby at_1) ?_
    refine XS.iand X0.here hx rfl (hb hby at_3) rfl ?_
    show Steps p.tables e below (s₁.setTop (mkF m 4 #[.val (.int u0), .val (.int u1), .val (.int u2), .unset, .unset, .unset, .unset] [(.int (u0 &&& (7 : Int32)))])) _
    rw [hk0]
    show Steps p.tables e below (s₁.setTop (mkF m 4 #[.val (.int u0), .val (.int u1), .val (.int u2), .unset, .unset, .unset, .unset] [(.int (7 : Int32))])) _
    refine XS.istoreN X0.here hx rfl (hb hby at_4) rfl (l' := #[.val (.int u0), .val (.int u1), .val (.int u2), .val (.int (7 : Int32)), .unset, .unset, .unset]) rfl ?_
    refine XS.iloadN X0.here hx rfl (hb hby at_5) rfl ?_
    refine XS.iconst X0.here hx rfl (hb hby at_6) ?_
    refine XS.iand X0.here hx rfl (hb hby at_7) rfl ?_
    show Steps p.tables e below (s₁.setTop (mkF m 8 #[.val (.int u0), .val (.int u1), .val (.int u2), .val (.int (7 : Int32)), .unset, .unset, .unset] [(.int (u2 &&& (1 : Int32)))])) _
    refine XS.ifNo X0.here hx rfl (hb hby at_8) rfl ((if0 _ _).trans (feq hf32).1) ?_
    refine XS.iloadN X0.here hx rfl (hb hby at_11) rfl ?_
    refine XS.iconst X0.here hx rfl (hb hby at_12) ?_
    refine iremM X0 hx rfl (hb hby at_13) rfl (by decide : ¬ ((4 : Int32) = (0 : Int32))) ?_
    show Steps p.tables e below (s₁.setTop (mkF m 14 #[.val (.int u0), .val (.int u1), .val (.int u2), .val (.int (7 : Int32)), .unset, .unset, .unset] [(.int (u1 % (4 : Int32)))])) _
    refine XS.goto X0.here hx rfl (pc0 := 14) (pc' := 18) rfl (hb hby at_14) (by decide) (by decide) ?_
    refine XS.istore X0.here hx rfl (hb hby at_18) rfl (l' := #[.val (.int u0), .val (.int u1), .val (.int u2), .val (.int (7 : Int32)), .val (.int (u1 % (4 : Int32))), .unset, .unset]) rfl ?_
    refine XS.iloadN X0.here hx rfl (hb hby at_20) rfl ?_
    refine st1 _ ?_
    show Steps p.tables e below (T1.setTop (mkF m 24 #[.val (.int u0), .val (.int u1), .val (.int u2), .val (.int (7 : Int32)), .val (.int (u1 % (4 : Int32))), .unset, .unset] [(.ref (w 3))])) _
    refine XS.astore X1.here hx rfl (hb hby at_24) rfl rfl (l' := #[.val (.int u0), .val (.int u1), .val (.int u2), .val (.int (7 : Int32)), .val (.int (u1 % (4 : Int32))), .val (.ref (w 3)), .unset]) rfl ?_
    refine XS.iloadN X1.here hx rfl (hb hby at_26) rfl ?_
    refine XS.iconst X1.here hx rfl (hb hby at_27) ?_
    refine XS.icmpYes X1.here hx rfl (pc0 := 28) (pc' := 47) rfl (hb hby at_28) rfl (flt (by decide : ¬ ((7 : Int32) < (4 : Int32)))).2.1 (by decide) (by decide) ?_
    show Steps p.tables e below (T1.setTop (mkF m 47 #[.val (.int u0), .val (.int u1), .val (.int u2), .val (.int (7 : Int32)), .val (.int (u1 % (4 : Int32))), .val (.ref (w 3)), .unset] [])) _
    refine XS.iloadN X1.here hx rfl (hb hby at_47) rfl ?_
    refine XS.bipush X1.here hx rfl (hb hby at_48) ?_
    refine XS.icmpYes X1.here hx rfl (pc0 := 50) (pc' := 68) rfl (hb hby at_50) rfl (flt (by decide : ¬ ((7 : Int32) < (6 : Int32)))).2.1 (by decide) (by decide) ?_
    refine XS.iload X1.here hx rfl (hb hby at_68) rfl ?_
    show Steps p.tables e below (T1.setTop (mkF m 70 #[.val (.int u0), .val (.int u1), .val (.int u2), .val (.int (7 : Int32)), .val (.int (u1 % (4 : Int32))), .val (.ref (w 3)), .unset] [(.int (u1 % (4 : Int32)))])) _
    refine XS.ifNo X1.here hx rfl (hb hby at_70) rfl ((if0 _ _).trans (teq hf35).2) ?_
    refine XS.iconst X1.here hx rfl (hb hby at_73) ?_
    refine XS.goto X1.here hx rfl (pc0 := 74) (pc' := 78) rfl (hb hby at_74) (by decide) (by decide) ?_
    refine XS.istore X1.here hx rfl (hb hby at_78) rfl (l' := #[.val (.int u0), .val (.int u1), .val (.int u2), .val (.int (7 : Int32)), .val (.int (u1 % (4 : Int32))), .val (.ref (w 3)), .val (.int (1 : Int32))]) rfl ?_
    show Steps p.tables e below (T1.setTop (mkF m 80 #[.val (.int u0), .val (.int u1), .val (.int u2), .val (.int (7 : Int32)), .val (.int (u1 % (4 : Int32))), .val (.ref (w 3)), .val (.int (1 : Int32))] [])) _
    refine XS.aload X1.here hx rfl (hb hby at_80) rfl rfl ?_
    refine XS.iload X1.here hx rfl (hb hby at_82) rfl ?_
    refine st2.trans ?_
    refine XS.iload X2.here hx rfl (hb hby at_87) rfl ?_
    show Steps p.tables e below (T2.setTop (mkF m 89 #[.val (.int u0), .val (.int u1), .val (.int u2), .val (.int (7 : Int32)), .val (.int (u1 % (4 : Int32))), .val (.ref (w 3)), .val (.int (1 : Int32))] [(.int (1 : Int32)), (.int (1 : Int32))])) _
    refine XS.icmpNo X2.here hx rfl (hb hby at_89) rfl (teq (by decide : (1 : Int32) = (1 : Int32))).2 ?_
    refine XS.iconst X2.here hx rfl (hb hby at_92) ?_
    refine XS.goto X2.here hx rfl (pc0 := 93) (pc' := 97) rfl (hb hby at_93) (by decide) (by decide) ?_
    show Steps p.tables e below (T2.setTop (mkF m 97 #[.val (.int u0), .val (.int u1), .val (.int u2), .val (.int (7 : Int32)), .val (.int (u1 % (4 : Int32))), .val (.ref (w 3)), .val (.int (1 : Int32))] [(.int (1 : Int32))])) _
    exact retN X2 hx (t := .boolean) Bd.returns (by simp) (hb hby at_97) hr
  · exact ⟨rfl, N2, e2⟩
set_option maxRecDepth 65536 in
set_option maxHeartbeats 40000000 in
theorem rm_takes_93 (l : Launch) (Z : State) (a0 : Array Value) (hw : ∀ d ∈ tables_1, d.before a0 Z = true) (w : Nat → Addr) (h0 : Heap) (n0 : Nat) (Z0 : n0 ≤ h0.size) (K : Kon Z h0 w) (u0 u1 u2 : Int32) (hf36 : (u1 % (4 : Int32)) < (0 : Int32)) :
    OM l Z (⟨"com/example/licon/licon/search/Operator", "takes", "(I)Z"⟩ : MethodName) prog_9_method_4_code 2 (some .boolean) [] ({ frames := 0, cells := 0, slots := 0, locals := 0 } : Room) #[(.ref (w 3)), (.int (u1 % (4 : Int32)))] h0 (OP (some (.int (0 : Int32))) n0 h0) := by
  refine MetFree.of_bodySF (plainFor_of_name pn_com_example_licon_licon_search_Operator) hisR ?_
  intro p e s m args below meth c s₁ Bd hml0 hP hK
  obtain ⟨rfl, hZ, hh⟩ := hP
  have hx := Bd.exec
  have hby := Bd.bytes
  have hml : c.maxLocals = 2 := hml0
  have hown : s.vm.findClass "com/example/licon/licon/search/Operator" = some m.cls := findClass_of_methodNamed Bd.named
  have X0 : Stand p l e ({ frames := 0, cells := 0, slots := 0, locals := 0 } : Room) s m #[(.ref (w 3)), (.int (u1 % (4 : Int32)))] below meth c s₁ [] 0 0 := Stand.of_body Bd
  have e0 : s₁.heap = h0 := by rw [← hh, Bd.state]; rfl
  have N0 := Fr.nil n0
  have pre0 : ∀ t, Steps p.tables e below (s₁.setTop (mkF m 0 #[.val (.ref (w 3)), .val (.int (u1 % (4 : Int32)))] [])) t → Steps p.tables e below (s₁.setTop (entryFrame m #[(.ref (w 3)), (.int (u1 % (4 : Int32)))] 2)) t := fun t k => castTop (by first | rfl | simp [entryFrame, mkF, argsToLocals, Value.category]) k
  obtain ⟨T1, X1, e1, st1⟩ := getF X0 hx hZ hown (host := "") (Or.inl (hw _ (List.mem_of_getElem? (i := 12) rfl))) Via.refl e0 K.2.2.2.2.2.2.2.2.2.2.2.2.2.2.2.2.2.2.2.2.2.1 (g := (mkF m 2 #[.val (.ref (w 3)), .val (.int (u1 % (4 : Int32)))] [(.ref (w 3)), (.int (u1 % (4 : Int32)))])) rfl rfl (hb hby d_prog_9_method_4_code_2)
  obtain ⟨fs, hr, hrun, hended, hW, hsame⟩ := X1.leave (v := (some (.int (0 : Int32)))) (fun h => by rw [Bd.returns] at h; cases h)
  refine ⟨_, _, pre0 _ ?_, hrun, hended, _, _, rfl, ?_, ⟨_, rfl⟩, hW, hsame.mono (by decide) (by decide)⟩
  · show Steps p.tables e below (s₁.setTop (mkF m 0 #[.val (.ref (w 3)), .val (.int (u1 % (4 : Int32)))] [])) _
    refine XS.iloadN X0.here hx rfl (hb hby d_prog_9_method_4_code_0) rfl ?_
    refine XS.aloadN X0.here hx rfl (hb hby d_prog_9_method_4_code_1) rfl rfl ?_
    refine st1 _ ?_
    refine XS.icmpYes X1.here hx rfl (pc0 := 5) (pc' := 20) rfl (hb hby d_prog_9_method_4_code_5) rfl (tlt hf36).1 (by decide) (by decide) ?_
    show Steps p.tables e below (T1.setTop (mkF m 20 #[.val (.ref (w 3)), .val (.int (u1 % (4 : Int32)))] [])) _
    refine XS.iconst X1.here hx rfl (hb hby d_prog_9_method_4_code_20) ?_
    show Steps p.tables e below (T1.setTop (mkF m 21 #[.val (.ref (w 3)), .val (.int (u1 % (4 : Int32)))] [(.int (0 : Int32))])) _
    exact retN X1 hx (t := .boolean) Bd.returns (by simp) (hb hby d_prog_9_method_4_code_21) hr
  · exact ⟨rfl, N0, e1⟩
set_option maxRecDepth 65536 in
set_option maxHeartbeats 40000000 in
theorem rm0_94 (l : Launch) (Z : State) (a0 : Array Value) (hw : ∀ d ∈ tables_1, d.before a0 Z = true) (w : Nat → Addr) (h0 : Heap) (n0 : Nat) (Z0 : n0 ≤ h0.size) (K : Kon Z h0 w) (u0 u1 u2 : Int32) (hf32 : ¬ ((u2 &&& (1 : Int32)) = (0 : Int32))) (hf35 : ¬ ((u1 % (4 : Int32)) = (0 : Int32))) (hf36 : (u1 % (4 : Int32)) < (0 : Int32)) (hk0 : (u0 &&& (7 : Int32)) = (7 : Int32)) :
    OM l Z x code maxLocals ret tables_1 room_1 #[(.int u0), (.int u1), (.int u2)] h0 (OP (some (.int (1 : Int32))) n0 h0) := by
  refine MetFree.of_bodySF (plainFor_of_name pn_com_example_licon_licon_search_OperatorTakesPinLaw) hisR ?_
  intro p e s m args below meth c s₁ Bd hml0 hP hK
  obtain ⟨rfl, hZ, hh⟩ := hP
  have hx := Bd.exec
  have hby := Bd.bytes
  have hml : c.maxLocals = 7 := hml0
  have hown : s.vm.findClass "com/example/licon/licon/search/OperatorTakesPinLaw" = some m.cls := findClass_of_methodNamed Bd.named
  have X0 : Stand p l e room_1 s m #[(.int u0), (.int u1), (.int u2)] below meth c s₁ [] 0 0 := Stand.of_body Bd
  have e0 : s₁.heap = h0 := by rw [← hh, Bd.state]; rfl
  have N0 := Fr.nil n0
  have pre0 : ∀ t, Steps p.tables e below (s₁.setTop (mkF m 0 #[.val (.int u0), .val (.int u1), .val (.int u2), .unset, .unset, .unset, .unset] [])) t → Steps p.tables e below (s₁.setTop (entryFrame m #[(.int u0), (.int u1), (.int u2)] maxLocals)) t := fun t k => castTop (by first | rfl | simp [entryFrame, mkF, argsToLocals, Value.category, maxLocals]) k
  obtain ⟨_, _, ⟨T1, L1, k1, n1⟩, -, X1, ⟨Lc1, hQ1, l1, y1, z1⟩, st1⟩ := Jvm.LawKit.callS X0 hx (y := (⟨"com/example/licon/licon/search/OperatorTakesPinLaw", "pick", "(I)Lcom/example/licon/licon/search/Operator;"⟩ : MethodName)) hown (mvT hZ (hw _ (List.mem_of_getElem? (i := 0) rfl))) (mvT hZ (hw _ (List.mem_of_getElem? (i := 1) rfl))) (mvT hZ (hw _ (List.mem_of_getElem? (i := 2) rfl))) (mvT hZ (hw _ (List.mem_of_getElem? (i := 3) rfl))) (by decide) (backOf (W := 0) (rm_pick_84 l Z a0 hw w h0 n0 Z0 K u0 u1 u2) hZ (hw _ (List.mem_of_getElem? (i := 3) rfl)) (hw _ (List.mem_of_getElem? (i := 2) rfl)) (by decide) (by decide)) (g := (mkF m 21 #[.val (.int u0), .val (.int u1), .val (.int u2), .val (.int (7 : Int32)), .val (.int (u1 % (4 : Int32))), .unset, .unset] [(.int (7 : Int32))])) rfl (by rw [hml]; rfl) (argsL := [(.int (7 : Int32))]) (rest := []) (lenOf pd_28I29Lcom2fexample2flicon2flicon2fsearch2fOperator3b rfl) rfl (by show 2 * 0 + _ ≤ _; exact Nat.le_of_eq rfl) (hb hby at_21) (fun _ _ => ⟨rfl, e0, (by decide : 0 + 0 ≤ _), (by decide : 0 + 0 ≤ _)⟩)
  dsimp only [Pt.U, Pt.locs, Pt.cells, Pt.slots] at X1 l1 y1 z1 st1 hQ1
  subst l1 y1 z1
  obtain ⟨rfl, N1q, e1⟩ := hQ1
  have N1 := Fr.app N0 N1q
  obtain ⟨cq2, kq2, qa2, qb2, qc2⟩ := isOf hZ e1 K.2.2.2.2.2.2.2.1
  obtain ⟨_, _, ⟨T2, L2, k2, n2⟩, -, X2, ⟨Lc2, hQ2, l2, y2, z2⟩, st2⟩ := X1.virtualBack hx (y := (⟨"com/example/licon/licon/search/Operator", "takes", "(I)Z"⟩ : MethodName)) (z := (⟨"com/example/licon/licon/search/Operator", "takes", "(I)Z"⟩ : MethodName)) hown (mvT hZ (hw _ (List.mem_of_getElem? (i := 7) rfl))) (mvT hZ (hw _ (List.mem_of_getElem? (i := 8) rfl))) (notFace_of_selects (args := #[]) (mvT hZ (hw _ (List.mem_of_getElem? (i := 10) rfl)))) (mvT hZ (hw _ (List.mem_of_getElem? (i := 10) rfl))) (mvT hZ (hw _ (List.mem_of_getElem? (i := 9) rfl))) (by decide) (backOf (W := 0) (rm_takes_93 l Z a0 hw w h0 n0 Z0 K u0 u1 u2 hf36) hZ (hw _ (List.mem_of_getElem? (i := 11) rfl)) (hw _ (List.mem_of_getElem? (i := 5) rfl)) (by decide) (by decide)) qa2 qc2 (g := (mkF m 84 #[.val (.int u0), .val (.int u1), .val (.int u2), .val (.int (7 : Int32)), .val (.int (u1 % (4 : Int32))), .val (.ref (w 3)), .val (.int (0 : Int32))] [(.int (u1 % (4 : Int32))), (.ref (w 3))])) rfl (by rw [hml]; rfl) (Steps.refl _) (argsL := [(.int (u1 % (4 : Int32)))]) (rest := []) (lenOf pd_28I29Z rfl) rfl (by show 2 * 0 + _ ≤ _; exact Nat.le_of_eq rfl) (hb hby at_84) (fun _ _ => ⟨rfl, e1, (by decide : 0 + 0 ≤ _), (by decide : 0 + 0 ≤ _)⟩)
  dsimp only [Pt.U, Pt.locs, Pt.cells, Pt.slots] at X2 l2 y2 z2 st2 hQ2
  subst l2 y2 z2
  obtain ⟨rfl, N2q, e2⟩ := hQ2
  have N2 := Fr.app N1 N2q
  obtain ⟨fs, hr, hrun, hended, hW, hsame⟩ := X2.leave (v := (some (.int (1 : Int32)))) (fun h => by rw [Bd.returns] at h; cases h)
  refine ⟨_, _, pre0 _ ?_, hrun, hended, _, _, rfl, ?_, ⟨_, rfl⟩, hW, hsame.mono (by decide) (by decide)⟩
  · show Steps p.tables e below (s₁.setTop (mkF m 0 #[.val (.int u0), .val (.int u1), .val (.int u2), .unset, .unset, .unset, .unset] [])) _
    refine XS.iloadN X0.here hx rfl (hb hby at_0) rfl ?_
    refine XS.bipush X0.here hx rfl (hb hby at_1) ?_
    refine XS.iand X0.here hx rfl (hb hby at_3) rfl ?_
    show Steps p.tables e below (s₁.setTop (mkF m 4 #[.val (.int u0), .val (.int u1), .val (.int u2), .unset, .unset, .unset, .unset] [(.int (u0 &&& (7 : Int32)))])) _
    rw [hk0]
    show Steps p.tables e below (s₁.setTop (mkF m 4 #[.val (.int u0), .val (.int u1), .val (.int u2), .unset, .unset, .unset, .unset] [(.int (7 : Int32))])) _
    refine XS.istoreN X0.here hx rfl (hb hby at_4) rfl (l' := #[.val (.int u0), .val (.int u1), .val (.int u2), .val (.int (7 : Int32)), .unset, .unset, .unset]) rfl ?_
    refine XS.iloadN X0.here hx rfl (hb hby at_5) rfl ?_
    refine XS.iconst X0.here hx rfl (hb hby at_6) ?_
    refine XS.iand X0.here hx rfl (hb hby at_7) rfl ?_
    show Steps p.tables e below (s₁.setTop (mkF m 8 #[.val (.int u0), .val (.int u1), .val (.int u2), .val (.int (7 : Int32)), .unset, .unset, .unset] [(.int (u2 &&& (1 : Int32)))])) _
    refine XS.ifNo X0.here hx rfl (hb hby at_8) rfl ((if0 _ _).trans (feq hf32).1) ?_
    refine XS.iloadN X0.here hx rfl (hb hby at_11) rfl ?_
    refine XS.iconst X0.here hx rfl (hb hby at_12) ?_
    refine iremM X0 hx rfl (hb hby at_13) rfl (by decide : ¬ ((4 : Int32) = (0 : Int32))) ?_
    show Steps p.tables e below (s₁.setTop (mkF m 14 #[.val (.int u0), .val (.int u1), .val (.int u2), .val (.int (7 : Int32)), .unset, .unset, .unset] [(.int (u1 % (4 : Int32)))])) _
    refine XS.goto X0.here hx rfl (pc0 := 14) (pc' := 18) rfl (hb hby at_14) (by decide) (by decide) ?_
    refine XS.istore X0.here hx rfl (hb hby at_18) rfl (l' := #[.val (.int u0), .val (.int u1), .val (.int u2), .val (.int (7 : Int32)), .val (.int (u1 % (4 : Int32))), .unset, .unset]) rfl ?_
    refine XS.iloadN X0.here hx rfl (hb hby at_20) rfl ?_
    refine st1 _ ?_
    show Steps p.tables e below (T1.setTop (mkF m 24 #[.val (.int u0), .val (.int u1), .val (.int u2), .val (.int (7 : Int32)), .val (.int (u1 % (4 : Int32))), .unset, .unset] [(.ref (w 3))])) _
    refine XS.astore X1.here hx rfl (hb hby at_24) rfl rfl (l' := #[.val (.int u0), .val (.int u1), .val (.int u2), .val (.int (7 : Int32)), .val (.int (u1 % (4 : Int32))), .val (.ref (w 3)), .unset]) rfl ?_
    refine XS.iloadN X1.here hx rfl (hb hby at_26) rfl ?_
    refine XS.iconst X1.here hx rfl (hb hby at_27) ?_
    refine XS.icmpYes X1.here hx rfl (pc0 := 28) (pc' := 47) rfl (hb hby at_28) rfl (flt (by decide : ¬ ((7 : Int32) < (4 : Int32)))).2.1 (by decide) (by decide) ?_
    show Steps p.tables e below (T1.setTop (mkF m 47 #[.val (.int u0), .val (.int u1), .val (.int u2), .val (.int (7 : Int32)), .val (.int (u1 % (4 : Int32))), .val (.ref (w 3)), .unset] [])) _
    refine XS.iloadN X1.here hx rfl (hb hby at_47) rfl ?_
    refine XS.bipush X1.here hx rfl (hb hby at_48) ?_
    refine XS.icmpYes X1.here hx rfl (pc0 := 50) (pc' := 68) rfl (hb hby at_50) rfl (flt (by decide : ¬ ((7 : Int32) < (6 : Int32)))).2.1 (by decide) (by decide) ?_
    refine XS.iload X1.here hx rfl (hb hby at_68) rfl ?_
    show Steps p.tables e below (T1.setTop (mkF m 70 #[.val (.int u0), .val (.int u1), .val (.int u2), .val (.int (7 : Int32)), .val (.int (u1 % (4 : Int32))), .val (.ref (w 3)), .unset] [(.int (u1 % (4 : Int32)))])) _
    refine XS.ifYes X1.here hx rfl (pc0 := 70) (pc' := 77) rfl (hb hby at_70) rfl ((if0 _ _).trans (feq hf35).2) (by decide) (by decide) ?_
    refine XS.iconst X1.here hx rfl (hb hby at_77) ?_
    refine XS.istore X1.here hx rfl (hb hby at_78) rfl (l' := #[.val (.int u0), .val (.int u1), .val (.int u2), .val (.int (7 : Int32)), .val (.int (u1 % (4 : Int32))), .val (.ref (w 3)), .val (.int (0 : Int32))]) rfl ?_
    refine XS.aload X1.here hx rfl (hb hby at_80) rfl rfl ?_
    show Steps p.tables e below (T1.setTop (mkF m 82 #[.val (.int u0), .val (.int u1), .val (.int u2), .val (.int (7 : Int32)), .val (.int (u1 % (4 : Int32))), .val (.ref (w 3)), .val (.int (0 : Int32))] [(.ref (w 3))])) _
    refine XS.iload X1.here hx rfl (hb hby at_82) rfl ?_
    refine st2.trans ?_
    refine XS.iload X2.here hx rfl (hb hby at_87) rfl ?_
    refine XS.icmpNo X2.here hx rfl (hb hby at_89) rfl (teq (by decide : (0 : Int32) = (0 : Int32))).2 ?_
    show Steps p.tables e below (T2.setTop (mkF m 92 #[.val (.int u0), .val (.int u1), .val (.int u2), .val (.int (7 : Int32)), .val (.int (u1 % (4 : Int32))), .val (.ref (w 3)), .val (.int (0 : Int32))] [])) _
    refine XS.iconst X2.here hx rfl (hb hby at_92) ?_
    refine XS.goto X2.here hx rfl (pc0 := 93) (pc' := 97) rfl (hb hby at_93) (by decide) (by decide) ?_
    show Steps p.tables e below (T2.setTop (mkF m 97 #[.val (.int u0), .val (.int u1), .val (.int u2), .val (.int (7 : Int32)), .val (.int (u1 % (4 : Int32))), .val (.ref (w 3)), .val (.int (0 : Int32))] [(.int (1 : Int32))])) _
    exact retN X2 hx (t := .boolean) Bd.returns (by simp) (hb hby at_97) hr
  · exact ⟨rfl, N2, e2⟩
set_option maxRecDepth 65536 in
set_option maxHeartbeats 40000000 in
theorem rm_takes_95 (l : Launch) (Z : State) (a0 : Array Value) (hw : ∀ d ∈ tables_1, d.before a0 Z = true) (w : Nat → Addr) (h0 : Heap) (n0 : Nat) (Z0 : n0 ≤ h0.size) (K : Kon Z h0 w) (u0 u1 u2 : Int32) (hf35 : ¬ ((u1 % (4 : Int32)) = (0 : Int32))) (hf36 : ¬ ((u1 % (4 : Int32)) < (0 : Int32))) :
    OM l Z (⟨"com/example/licon/licon/search/Operator", "takes", "(I)Z"⟩ : MethodName) prog_9_method_4_code 2 (some .boolean) [] ({ frames := 0, cells := 0, slots := 0, locals := 0 } : Room) #[(.ref (w 3)), (.int (u1 % (4 : Int32)))] h0 (OP (some (.int (0 : Int32))) n0 h0) := by
  refine MetFree.of_bodySF (plainFor_of_name pn_com_example_licon_licon_search_Operator) hisR ?_
  intro p e s m args below meth c s₁ Bd hml0 hP hK
  obtain ⟨rfl, hZ, hh⟩ := hP
  have hx := Bd.exec
  have hby := Bd.bytes
  have hml : c.maxLocals = 2 := hml0
  have hown : s.vm.findClass "com/example/licon/licon/search/Operator" = some m.cls := findClass_of_methodNamed Bd.named
  have X0 : Stand p l e ({ frames := 0, cells := 0, slots := 0, locals := 0 } : Room) s m #[(.ref (w 3)), (.int (u1 % (4 : Int32)))] below meth c s₁ [] 0 0 := Stand.of_body Bd
  have e0 : s₁.heap = h0 := by rw [← hh, Bd.state]; rfl
  have N0 := Fr.nil n0
  have pre0 : ∀ t, Steps p.tables e below (s₁.setTop (mkF m 0 #[.val (.ref (w 3)), .val (.int (u1 % (4 : Int32)))] [])) t → Steps p.tables e below (s₁.setTop (entryFrame m #[(.ref (w 3)), (.int (u1 % (4 : Int32)))] 2)) t := fun t k => castTop (by first | rfl | simp [entryFrame, mkF, argsToLocals, Value.category]) k
  obtain ⟨T1, X1, e1, st1⟩ := getF X0 hx hZ hown (host := "") (Or.inl (hw _ (List.mem_of_getElem? (i := 12) rfl))) Via.refl e0 K.2.2.2.2.2.2.2.2.2.2.2.2.2.2.2.2.2.2.2.2.2.1 (g := (mkF m 2 #[.val (.ref (w 3)), .val (.int (u1 % (4 : Int32)))] [(.ref (w 3)), (.int (u1 % (4 : Int32)))])) rfl rfl (hb hby d_prog_9_method_4_code_2)
  obtain ⟨T2, X2, e2, st2⟩ := getF X1 hx hZ hown (host := "") (Or.inl (hw _ (List.mem_of_getElem? (i := 14) rfl))) Via.refl e1 K.2.2.2.2.2.2.2.2.2.2.2.2.2.2.2.2.2.2.2.2.2.2.1 (g := (mkF m 10 #[.val (.ref (w 3)), .val (.int (u1 % (4 : Int32)))] [(.ref (w 3)), (.int (u1 % (4 : Int32)))])) rfl rfl (hb hby d_prog_9_method_4_code_10)
  obtain ⟨fs, hr, hrun, hended, hW, hsame⟩ := X2.leave (v := (some (.int (0 : Int32)))) (fun h => by rw [Bd.returns] at h; cases h)
  refine ⟨_, _, pre0 _ ?_, hrun, hended, _, _, rfl, ?_, ⟨_, rfl⟩, hW, hsame.mono (by decide) (by decide)⟩
  · show Steps p.tables e below (s₁.setTop (mkF m 0 #[.val (.ref (w 3)), .val (.int (u1 % (4 : Int32)))] [])) _
    refine XS.iloadN X0.here hx rfl (hb hby d_prog_9_method_4_code_0) rfl ?_
    refine XS.aloadN X0.here hx rfl (hb hby d_prog_9_method_4_code_1) rfl rfl ?_
    refine st1 _ ?_
    refine XS.icmpNo X1.here hx rfl (hb hby d_prog_9_method_4_code_5) rfl (flt hf36).1 ?_
    show Steps p.tables e below (T1.setTop (mkF m 8 #[.val (.ref (w 3)), .val (.int (u1 % (4 : Int32)))] [])) _
    refine XS.iloadN X1.here hx rfl (hb hby d_prog_9_method_4_code_8) rfl ?_
    refine XS.aloadN X1.here hx rfl (hb hby d_prog_9_method_4_code_9) rfl rfl ?_
    refine st2 _ ?_
    refine XS.icmpYes X2.here hx rfl (pc0 := 13) (pc' := 20) rfl (hb hby d_prog_9_method_4_code_13) rfl (tlt (by have z0 := mt Int32.toInt_inj.mp hf35; have z1 := mt Int32.lt_iff_toInt_lt.mpr hf36; have l0 : (0 : Int32).toInt = 0 := rfl; have r0 := rng32 (u1 % (4 : Int32)); exact Int32.lt_iff_toInt_lt.mpr (by omega) : (0 : Int32) < (u1 % (4 : Int32)))).2.2.1 (by decide) (by decide) ?_
    show Steps p.tables e below (T2.setTop (mkF m 20 #[.val (.ref (w 3)), .val (.int (u1 % (4 : Int32)))] [])) _
    refine XS.iconst X2.here hx rfl (hb hby d_prog_9_method_4_code_20) ?_
    show Steps p.tables e below (T2.setTop (mkF m 21 #[.val (.ref (w 3)), .val (.int (u1 % (4 : Int32)))] [(.int (0 : Int32))])) _
    exact retN X2 hx (t := .boolean) Bd.returns (by simp) (hb hby d_prog_9_method_4_code_21) hr
  · exact ⟨rfl, N0, e2⟩
set_option maxRecDepth 65536 in
set_option maxHeartbeats 40000000 in
theorem rm0_96 (l : Launch) (Z : State) (a0 : Array Value) (hw : ∀ d ∈ tables_1, d.before a0 Z = true) (w : Nat → Addr) (h0 : Heap) (n0 : Nat) (Z0 : n0 ≤ h0.size) (K : Kon Z h0 w) (u0 u1 u2 : Int32) (hf32 : ¬ ((u2 &&& (1 : Int32)) = (0 : Int32))) (hf35 : ¬ ((u1 % (4 : Int32)) = (0 : Int32))) (hf36 : ¬ ((u1 % (4 : Int32)) < (0 : Int32))) (hk0 : (u0 &&& (7 : Int32)) = (7 : Int32)) :
    OM l Z x code maxLocals ret tables_1 room_1 #[(.int u0), (.int u1), (.int u2)] h0 (OP (some (.int (1 : Int32))) n0 h0) := by
  refine MetFree.of_bodySF (plainFor_of_name pn_com_example_licon_licon_search_OperatorTakesPinLaw) hisR ?_
  intro p e s m args below meth c s₁ Bd hml0 hP hK
  obtain ⟨rfl, hZ, hh⟩ := hP
  have hx := Bd.exec
  have hby := Bd.bytes
  have hml : c.maxLocals = 7 := hml0
  have hown : s.vm.findClass "com/example/licon/licon/search/OperatorTakesPinLaw" = some m.cls := findClass_of_methodNamed Bd.named
  have X0 : Stand p l e room_1 s m #[(.int u0), (.int u1), (.int u2)] below meth c s₁ [] 0 0 := Stand.of_body Bd
  have e0 : s₁.heap = h0 := by rw [← hh, Bd.state]; rfl
  have N0 := Fr.nil n0
  have pre0 : ∀ t, Steps p.tables e below (s₁.setTop (mkF m 0 #[.val (.int u0), .val (.int u1), .val (.int u2), .unset, .unset, .unset, .unset] [])) t → Steps p.tables e below (s₁.setTop (entryFrame m #[(.int u0), (.int u1), (.int u2)] maxLocals)) t := fun t k => castTop (by first | rfl | simp [entryFrame, mkF, argsToLocals, Value.category, maxLocals]) k
  obtain ⟨_, _, ⟨T1, L1, k1, n1⟩, -, X1, ⟨Lc1, hQ1, l1, y1, z1⟩, st1⟩ := Jvm.LawKit.callS X0 hx (y := (⟨"com/example/licon/licon/search/OperatorTakesPinLaw", "pick", "(I)Lcom/example/licon/licon/search/Operator;"⟩ : MethodName)) hown (mvT hZ (hw _ (List.mem_of_getElem? (i := 0) rfl))) (mvT hZ (hw _ (List.mem_of_getElem? (i := 1) rfl))) (mvT hZ (hw _ (List.mem_of_getElem? (i := 2) rfl))) (mvT hZ (hw _ (List.mem_of_getElem? (i := 3) rfl))) (by decide) (backOf (W := 0) (rm_pick_84 l Z a0 hw w h0 n0 Z0 K u0 u1 u2) hZ (hw _ (List.mem_of_getElem? (i := 3) rfl)) (hw _ (List.mem_of_getElem? (i := 2) rfl)) (by decide) (by decide)) (g := (mkF m 21 #[.val (.int u0), .val (.int u1), .val (.int u2), .val (.int (7 : Int32)), .val (.int (u1 % (4 : Int32))), .unset, .unset] [(.int (7 : Int32))])) rfl (by rw [hml]; rfl) (argsL := [(.int (7 : Int32))]) (rest := []) (lenOf pd_28I29Lcom2fexample2flicon2flicon2fsearch2fOperator3b rfl) rfl (by show 2 * 0 + _ ≤ _; exact Nat.le_of_eq rfl) (hb hby at_21) (fun _ _ => ⟨rfl, e0, (by decide : 0 + 0 ≤ _), (by decide : 0 + 0 ≤ _)⟩)
  dsimp only [Pt.U, Pt.locs, Pt.cells, Pt.slots] at X1 l1 y1 z1 st1 hQ1
  subst l1 y1 z1
  obtain ⟨rfl, N1q, e1⟩ := hQ1
  have N1 := Fr.app N0 N1q
  obtain ⟨cq2, kq2, qa2, qb2, qc2⟩ := isOf hZ e1 K.2.2.2.2.2.2.2.1
  obtain ⟨_, _, ⟨T2, L2, k2, n2⟩, -, X2, ⟨Lc2, hQ2, l2, y2, z2⟩, st2⟩ := X1.virtualBack hx (y := (⟨"com/example/licon/licon/search/Operator", "takes", "(I)Z"⟩ : MethodName)) (z := (⟨"com/example/licon/licon/search/Operator", "takes", "(I)Z"⟩ : MethodName)) hown (mvT hZ (hw _ (List.mem_of_getElem? (i := 7) rfl))) (mvT hZ (hw _ (List.mem_of_getElem? (i := 8) rfl))) (notFace_of_selects (args := #[]) (mvT hZ (hw _ (List.mem_of_getElem? (i := 10) rfl)))) (mvT hZ (hw _ (List.mem_of_getElem? (i := 10) rfl))) (mvT hZ (hw _ (List.mem_of_getElem? (i := 9) rfl))) (by decide) (backOf (W := 0) (rm_takes_95 l Z a0 hw w h0 n0 Z0 K u0 u1 u2 hf35 hf36) hZ (hw _ (List.mem_of_getElem? (i := 11) rfl)) (hw _ (List.mem_of_getElem? (i := 5) rfl)) (by decide) (by decide)) qa2 qc2 (g := (mkF m 84 #[.val (.int u0), .val (.int u1), .val (.int u2), .val (.int (7 : Int32)), .val (.int (u1 % (4 : Int32))), .val (.ref (w 3)), .val (.int (0 : Int32))] [(.int (u1 % (4 : Int32))), (.ref (w 3))])) rfl (by rw [hml]; rfl) (Steps.refl _) (argsL := [(.int (u1 % (4 : Int32)))]) (rest := []) (lenOf pd_28I29Z rfl) rfl (by show 2 * 0 + _ ≤ _; exact Nat.le_of_eq rfl) (hb hby at_84) (fun _ _ => ⟨rfl, e1, (by decide : 0 + 0 ≤ _), (by decide : 0 + 0 ≤ _)⟩)
  dsimp only [Pt.U, Pt.locs, Pt.cells, Pt.slots] at X2 l2 y2 z2 st2 hQ2
  subst l2 y2 z2
  obtain ⟨rfl, N2q, e2⟩ := hQ2
  have N2 := Fr.app N1 N2q
  obtain ⟨fs, hr, hrun, hended, hW, hsame⟩ := X2.leave (v := (some (.int (1 : Int32)))) (fun h => by rw [Bd.returns] at h; cases h)
  refine ⟨_, _, pre0 _ ?_, hrun, hended, _, _, rfl, ?_, ⟨_, rfl⟩, hW, hsame.mono (by decide) (by decide)⟩
  · show Steps p.tables e below (s₁.setTop (mkF m 0 #[.val (.int u0), .val (.int u1), .val (.int u2), .unset, .unset, .unset, .unset] [])) _
    refine XS.iloadN X0.here hx rfl (hb hby at_0) rfl ?_
    refine XS.bipush X0.here hx rfl (hb hby at_1) ?_
    refine XS.iand X0.here hx rfl (hb hby at_3) rfl ?_
    show Steps p.tables e below (s₁.setTop (mkF m 4 #[.val (.int u0), .val (.int u1), .val (.int u2), .unset, .unset, .unset, .unset] [(.int (u0 &&& (7 : Int32)))])) _
    rw [hk0]
    show Steps p.tables e below (s₁.setTop (mkF m 4 #[.val (.int u0), .val (.int u1), .val (.int u2), .unset, .unset, .unset, .unset] [(.int (7 : Int32))])) _
    refine XS.istoreN X0.here hx rfl (hb hby at_4) rfl (l' := #[.val (.int u0), .val (.int u1), .val (.int u2), .val (.int (7 : Int32)), .unset, .unset, .unset]) rfl ?_
    refine XS.iloadN X0.here hx rfl (hb hby at_5) rfl ?_
    refine XS.iconst X0.here hx rfl (hb hby at_6) ?_
    refine XS.iand X0.here hx rfl (hb hby at_7) rfl ?_
    show Steps p.tables e below (s₁.setTop (mkF m 8 #[.val (.int u0), .val (.int u1), .val (.int u2), .val (.int (7 : Int32)), .unset, .unset, .unset] [(.int (u2 &&& (1 : Int32)))])) _
    refine XS.ifNo X0.here hx rfl (hb hby at_8) rfl ((if0 _ _).trans (feq hf32).1) ?_
    refine XS.iloadN X0.here hx rfl (hb hby at_11) rfl ?_
    refine XS.iconst X0.here hx rfl (hb hby at_12) ?_
    refine iremM X0 hx rfl (hb hby at_13) rfl (by decide : ¬ ((4 : Int32) = (0 : Int32))) ?_
    show Steps p.tables e below (s₁.setTop (mkF m 14 #[.val (.int u0), .val (.int u1), .val (.int u2), .val (.int (7 : Int32)), .unset, .unset, .unset] [(.int (u1 % (4 : Int32)))])) _
    refine XS.goto X0.here hx rfl (pc0 := 14) (pc' := 18) rfl (hb hby at_14) (by decide) (by decide) ?_
    refine XS.istore X0.here hx rfl (hb hby at_18) rfl (l' := #[.val (.int u0), .val (.int u1), .val (.int u2), .val (.int (7 : Int32)), .val (.int (u1 % (4 : Int32))), .unset, .unset]) rfl ?_
    refine XS.iloadN X0.here hx rfl (hb hby at_20) rfl ?_
    refine st1 _ ?_
    show Steps p.tables e below (T1.setTop (mkF m 24 #[.val (.int u0), .val (.int u1), .val (.int u2), .val (.int (7 : Int32)), .val (.int (u1 % (4 : Int32))), .unset, .unset] [(.ref (w 3))])) _
    refine XS.astore X1.here hx rfl (hb hby at_24) rfl rfl (l' := #[.val (.int u0), .val (.int u1), .val (.int u2), .val (.int (7 : Int32)), .val (.int (u1 % (4 : Int32))), .val (.ref (w 3)), .unset]) rfl ?_
    refine XS.iloadN X1.here hx rfl (hb hby at_26) rfl ?_
    refine XS.iconst X1.here hx rfl (hb hby at_27) ?_
    refine XS.icmpYes X1.here hx rfl (pc0 := 28) (pc' := 47) rfl (hb hby at_28) rfl (flt (by decide : ¬ ((7 : Int32) < (4 : Int32)))).2.1 (by decide) (by decide) ?_
    show Steps p.tables e below (T1.setTop (mkF m 47 #[.val (.int u0), .val (.int u1), .val (.int u2), .val (.int (7 : Int32)), .val (.int (u1 % (4 : Int32))), .val (.ref (w 3)), .unset] [])) _
    refine XS.iloadN X1.here hx rfl (hb hby at_47) rfl ?_
    refine XS.bipush X1.here hx rfl (hb hby at_48) ?_
    refine XS.icmpYes X1.here hx rfl (pc0 := 50) (pc' := 68) rfl (hb hby at_50) rfl (flt (by decide : ¬ ((7 : Int32) < (6 : Int32)))).2.1 (by decide) (by decide) ?_
    refine XS.iload X1.here hx rfl (hb hby at_68) rfl ?_
    show Steps p.tables e below (T1.setTop (mkF m 70 #[.val (.int u0), .val (.int u1), .val (.int u2), .val (.int (7 : Int32)), .val (.int (u1 % (4 : Int32))), .val (.ref (w 3)), .unset] [(.int (u1 % (4 : Int32)))])) _
    refine XS.ifYes X1.here hx rfl (pc0 := 70) (pc' := 77) rfl (hb hby at_70) rfl ((if0 _ _).trans (feq hf35).2) (by decide) (by decide) ?_
    refine XS.iconst X1.here hx rfl (hb hby at_77) ?_
    refine XS.istore X1.here hx rfl (hb hby at_78) rfl (l' := #[.val (.int u0), .val (.int u1), .val (.int u2), .val (.int (7 : Int32)), .val (.int (u1 % (4 : Int32))), .val (.ref (w 3)), .val (.int (0 : Int32))]) rfl ?_
    refine XS.aload X1.here hx rfl (hb hby at_80) rfl rfl ?_
    show Steps p.tables e below (T1.setTop (mkF m 82 #[.val (.int u0), .val (.int u1), .val (.int u2), .val (.int (7 : Int32)), .val (.int (u1 % (4 : Int32))), .val (.ref (w 3)), .val (.int (0 : Int32))] [(.ref (w 3))])) _
    refine XS.iload X1.here hx rfl (hb hby at_82) rfl ?_
    refine st2.trans ?_
    refine XS.iload X2.here hx rfl (hb hby at_87) rfl ?_
    refine XS.icmpNo X2.here hx rfl (hb hby at_89) rfl (teq (by decide : (0 : Int32) = (0 : Int32))).2 ?_
    show Steps p.tables e below (T2.setTop (mkF m 92 #[.val (.int u0), .val (.int u1), .val (.int u2), .val (.int (7 : Int32)), .val (.int (u1 % (4 : Int32))), .val (.ref (w 3)), .val (.int (0 : Int32))] [])) _
    refine XS.iconst X2.here hx rfl (hb hby at_92) ?_
    refine XS.goto X2.here hx rfl (pc0 := 93) (pc' := 97) rfl (hb hby at_93) (by decide) (by decide) ?_
    show Steps p.tables e below (T2.setTop (mkF m 97 #[.val (.int u0), .val (.int u1), .val (.int u2), .val (.int (7 : Int32)), .val (.int (u1 % (4 : Int32))), .val (.ref (w 3)), .val (.int (0 : Int32))] [(.int (1 : Int32))])) _
    exact retN X2 hx (t := .boolean) Bd.returns (by simp) (hb hby at_97) hr
  · exact ⟨rfl, N2, e2⟩
theorem rm0 (l : Launch) (Z : State) (a0 : Array Value) (hw : ∀ d ∈ tables_1, d.before a0 Z = true) (w : Nat → Addr) (h0 : Heap) (n0 : Nat) (Z0 : n0 ≤ h0.size) (K : Kon Z h0 w) (u0 u1 u2 : Int32) :
    OM l Z x code maxLocals ret tables_1 room_1 #[(.int u0), (.int u1), (.int u2)] h0 (OP (some (.int (1 : Int32))) n0 h0) := by
  rcases own_mask_8 u0 with hk0 | hk0 | hk0 | hk0 | hk0 | hk0 | hk0 | hk0
  · by_cases hf1 : (u2 &&& (1 : Int32)) = (0 : Int32)
    · by_cases hf2 : u1 = (1 : Int32)
      · exact rm0_3 l Z a0 hw w h0 n0 Z0 K u0 u1 u2 hf1 hf2 hk0
      · by_cases hf3 : u1 < (1 : Int32)
        · exact rm0_5 l Z a0 hw w h0 n0 Z0 K u0 u1 u2 hf1 hf2 hf3 hk0
        · exact rm0_7 l Z a0 hw w h0 n0 Z0 K u0 u1 u2 hf1 hf2 hf3 hk0
    · by_cases hf4 : (u1 % (4 : Int32)) = (1 : Int32)
      · exact rm0_9 l Z a0 hw w h0 n0 Z0 K u0 u1 u2 hf1 hf4 hk0
      · by_cases hf5 : (u1 % (4 : Int32)) < (1 : Int32)
        · exact rm0_11 l Z a0 hw w h0 n0 Z0 K u0 u1 u2 hf1 hf4 hf5 hk0
        · exact rm0_13 l Z a0 hw w h0 n0 Z0 K u0 u1 u2 hf1 hf4 hf5 hk0
  · by_cases hf6 : (u2 &&& (1 : Int32)) = (0 : Int32)
    · by_cases hf7 : u1 = (1 : Int32)
      · exact rm0_16 l Z a0 hw w h0 n0 Z0 K u0 u1 u2 hf6 hf7 hk0
      · by_cases hf8 : u1 < (1 : Int32)
        · exact rm0_18 l Z a0 hw w h0 n0 Z0 K u0 u1 u2 hf6 hf7 hf8 hk0
        · exact rm0_20 l Z a0 hw w h0 n0 Z0 K u0 u1 u2 hf6 hf7 hf8 hk0
    · by_cases hf9 : (u1 % (4 : Int32)) = (1 : Int32)
      · exact rm0_22 l Z a0 hw w h0 n0 Z0 K u0 u1 u2 hf6 hf9 hk0
      · by_cases hf10 : (u1 % (4 : Int32)) < (1 : Int32)
        · exact rm0_24 l Z a0 hw w h0 n0 Z0 K u0 u1 u2 hf10 hf6 hf9 hk0
        · exact rm0_26 l Z a0 hw w h0 n0 Z0 K u0 u1 u2 hf10 hf6 hf9 hk0
  · by_cases hf11 : (u2 &&& (1 : Int32)) = (0 : Int32)
    · by_cases hf12 : u1 = (1 : Int32)
      · exact rm0_29 l Z a0 hw w h0 n0 Z0 K u0 u1 u2 hf11 hf12 hk0
      · by_cases hf13 : u1 < (1 : Int32)
        · exact rm0_31 l Z a0 hw w h0 n0 Z0 K u0 u1 u2 hf11 hf12 hf13 hk0
        · exact rm0_33 l Z a0 hw w h0 n0 Z0 K u0 u1 u2 hf11 hf12 hf13 hk0
    · by_cases hf14 : (u1 % (4 : Int32)) = (1 : Int32)
      · exact rm0_35 l Z a0 hw w h0 n0 Z0 K u0 u1 u2 hf11 hf14 hk0
      · by_cases hf15 : (u1 % (4 : Int32)) < (1 : Int32)
        · exact rm0_37 l Z a0 hw w h0 n0 Z0 K u0 u1 u2 hf11 hf14 hf15 hk0
        · exact rm0_39 l Z a0 hw w h0 n0 Z0 K u0 u1 u2 hf11 hf14 hf15 hk0
  · by_cases hf16 : (u2 &&& (1 : Int32)) = (0 : Int32)
    · by_cases hf17 : u1 = (1 : Int32)
      · exact rm0_42 l Z a0 hw w h0 n0 Z0 K u0 u1 u2 hf16 hf17 hk0
      · by_cases hf18 : u1 < (1 : Int32)
        · exact rm0_44 l Z a0 hw w h0 n0 Z0 K u0 u1 u2 hf16 hf17 hf18 hk0
        · exact rm0_46 l Z a0 hw w h0 n0 Z0 K u0 u1 u2 hf16 hf17 hf18 hk0
    · by_cases hf19 : (u1 % (4 : Int32)) = (1 : Int32)
      · exact rm0_48 l Z a0 hw w h0 n0 Z0 K u0 u1 u2 hf16 hf19 hk0
      · by_cases hf20 : (u1 % (4 : Int32)) < (1 : Int32)
        · exact rm0_50 l Z a0 hw w h0 n0 Z0 K u0 u1 u2 hf16 hf19 hf20 hk0
        · exact rm0_52 l Z a0 hw w h0 n0 Z0 K u0 u1 u2 hf16 hf19 hf20 hk0
  · by_cases hf21 : (u2 &&& (1 : Int32)) = (0 : Int32)
    · by_cases hf22 : (0 : Int32) < u1
      · exact rm0_55 l Z a0 hw w h0 n0 Z0 K u0 u1 u2 hf21 hf22 hk0
      · exact rm0_57 l Z a0 hw w h0 n0 Z0 K u0 u1 u2 hf21 hf22 hk0
    · by_cases hf23 : (0 : Int32) < (u1 % (4 : Int32))
      · exact rm0_59 l Z a0 hw w h0 n0 Z0 K u0 u1 u2 hf21 hf23 hk0
      · exact rm0_61 l Z a0 hw w h0 n0 Z0 K u0 u1 u2 hf21 hf23 hk0
  · by_cases hf24 : (u2 &&& (1 : Int32)) = (0 : Int32)
    · by_cases hf25 : (0 : Int32) < u1
      · exact rm0_64 l Z a0 hw w h0 n0 Z0 K u0 u1 u2 hf24 hf25 hk0
      · exact rm0_66 l Z a0 hw w h0 n0 Z0 K u0 u1 u2 hf24 hf25 hk0
    · by_cases hf26 : (0 : Int32) < (u1 % (4 : Int32))
      · exact rm0_68 l Z a0 hw w h0 n0 Z0 K u0 u1 u2 hf24 hf26 hk0
      · exact rm0_70 l Z a0 hw w h0 n0 Z0 K u0 u1 u2 hf24 hf26 hk0
  · by_cases hf27 : (u2 &&& (1 : Int32)) = (0 : Int32)
    · by_cases hf28 : u1 = (0 : Int32)
      · exact rm0_73 l Z a0 hw w h0 n0 Z0 K u0 u1 u2 hf27 hf28 hk0
      · by_cases hf29 : u1 < (0 : Int32)
        · exact rm0_75 l Z a0 hw w h0 n0 Z0 K u0 u1 u2 hf27 hf28 hf29 hk0
        · exact rm0_77 l Z a0 hw w h0 n0 Z0 K u0 u1 u2 hf27 hf28 hf29 hk0
    · by_cases hf30 : (u1 % (4 : Int32)) = (0 : Int32)
      · exact rm0_79 l Z a0 hw w h0 n0 Z0 K u0 u1 u2 hf27 hf30 hk0
      · by_cases hf31 : (u1 % (4 : Int32)) < (0 : Int32)
        · exact rm0_81 l Z a0 hw w h0 n0 Z0 K u0 u1 u2 hf27 hf30 hf31 hk0
        · exact rm0_83 l Z a0 hw w h0 n0 Z0 K u0 u1 u2 hf27 hf30 hf31 hk0
  · by_cases hf32 : (u2 &&& (1 : Int32)) = (0 : Int32)
    · by_cases hf33 : u1 = (0 : Int32)
      · exact rm0_86 l Z a0 hw w h0 n0 Z0 K u0 u1 u2 hf32 hf33 hk0
      · by_cases hf34 : u1 < (0 : Int32)
        · exact rm0_88 l Z a0 hw w h0 n0 Z0 K u0 u1 u2 hf32 hf33 hf34 hk0
        · exact rm0_90 l Z a0 hw w h0 n0 Z0 K u0 u1 u2 hf32 hf33 hf34 hk0
    · by_cases hf35 : (u1 % (4 : Int32)) = (0 : Int32)
      · exact rm0_92 l Z a0 hw w h0 n0 Z0 K u0 u1 u2 hf32 hf35 hk0
      · by_cases hf36 : (u1 % (4 : Int32)) < (0 : Int32)
        · exact rm0_94 l Z a0 hw w h0 n0 Z0 K u0 u1 u2 hf32 hf35 hf36 hk0
        · exact rm0_96 l Z a0 hw w h0 n0 Z0 K u0 u1 u2 hf32 hf35 hf36 hk0
set_option maxRecDepth 65536 in
set_option maxHeartbeats 40000000 in
theorem comes_1 {Post : Tables → Env → Array Value → State → Outcome → State → Prop} (hpost : ∀ tb e args s v u, (limb_1_1.after args s (.returned v) u = true ∧ limb_1_2.after args s (.returned v) u = true ∧ True) → FrameEnd s (.returned v) u (Jvm.fieldLocs frame_1_writes args s ++ Jvm.arrayLocs frame_1_arrays args s ++ Jvm.staticLocs frame_1_statics s) 0 0 → Post tb e args s (.returned v) u) :
    ArmFor flags0 classFile x code maxLocals ret World_1 tables_1 room_1 Calls_1 rest_1 Pre_1 Post := by
  intro l hfl _ _ p e ha hc hk s m args below hf hA hF happ hP
  obtain ⟨hcalls, hrest, hpre⟩ := hP
  obtain ⟨-, -, -, hnamed, -, -, -, hat⟩ := (Spec.applies_iff hf).mp happ
  obtain ⟨hg, hn⟩ := and_e (Cond.before_iff.mp (show (Jvm.Cond.and given_1 narrow_1).before args s = true from hpre))
  obtain ⟨g1a, g1b⟩ := and_e hg
  obtain ⟨g2a, g2b⟩ := and_e g1b
  obtain ⟨g3a, g3b⟩ := and_e g2b
  obtain ⟨g4a, g4b⟩ := and_e hn
  obtain ⟨g5a, g5b⟩ := and_e g4b
  obtain ⟨g6a, g6b⟩ := and_e g5b
  obtain ⟨g7a, g7b⟩ := and_e g6b
  obtain ⟨g8a, g8b⟩ := and_e g7b
  obtain ⟨g9a, g9b⟩ := and_e g8b
  obtain ⟨g10a, g10b⟩ := and_e g9b
  obtain ⟨g11a, g11b⟩ := and_e g10b
  obtain ⟨g12a, g12b⟩ := and_e g11b
  obtain ⟨g13a, g13b⟩ := and_e g12b
  obtain ⟨g14a, g14b⟩ := and_e g13b
  obtain ⟨g15a, g15b⟩ := and_e g14b
  obtain ⟨g16a, g16b⟩ := and_e g15b
  obtain ⟨g17a, g17b⟩ := and_e g16b
  obtain ⟨g18a, g18b⟩ := and_e g17b
  obtain ⟨g19a, g19b⟩ := and_e g18b
  obtain ⟨g20a, g20b⟩ := and_e g19b
  obtain ⟨g21a, g21b⟩ := and_e g20b
  obtain ⟨g22a, g22b⟩ := and_e g21b
  obtain ⟨g23a, g23b⟩ := and_e g22b
  obtain ⟨g24a, g24b⟩ := and_e g23b
  obtain ⟨g25a, g25b⟩ := and_e g24b
  obtain ⟨g26a, g26b⟩ := and_e g25b
  obtain ⟨v0, v1, v2, rfl⟩ : ∃ v0 v1 v2 : Value, args = #[v0, v1, v2] := by
    have hs : args.size = 3 := by simpa [Cond.value, given_1] using g1a
    obtain ⟨L⟩ := args
    match L, hs with
    | [v0, v1, v2], _ => exact ⟨v0, v1, v2, rfl⟩
  have hw := fun d (hd : d ∈ tables_1) => atoms_spec (ws := Jvm.Cond.code x code maxLocals ret :: tables_1) hat d (List.mem_cons_of_mem _ hd)
  obtain ⟨i0, ei0⟩ := is_v g2a
  obtain rfl : v0 = (.int i0) := Option.some.inj ei0
  obtain ⟨i1, ei1⟩ := is_v g3a
  obtain rfl : v1 = (.int i1) := Option.some.inj ei1
  obtain ⟨i2, ei2⟩ := is_v g3b
  obtain rfl : v2 = (.int i2) := Option.some.inj ei2
  obtain ⟨b0, ev0⟩ := exa_v g4a
  obtain ⟨b1, ev1⟩ := exa_v g7a
  obtain ⟨b2, ev2⟩ := exa_v g9a
  obtain ⟨b3, ev3⟩ := exa_v g12a
  obtain ⟨b4, ev4⟩ := exa_v g15a
  obtain ⟨b5, ev5⟩ := exa_v g17a
  obtain ⟨b6, ev6⟩ := exa_v g22a
  obtain ⟨b7, ev7⟩ := exa_v g25a
  have K : Kon s s.heap (fun i => ([b0, b1, b2, b3, b4, b5, b6, b7] : List Addr).getD i 0) := ⟨Sta.start ev0 (Or.inr ⟨(hw _ (List.mem_of_getElem? (i := 5) rfl)), (hw _ (List.mem_of_getElem? (i := 6) rfl))⟩), Exa.start ev0 g4a, Sta.start ev1 (Or.inr ⟨(hw _ (List.mem_of_getElem? (i := 5) rfl)), (hw _ (List.mem_of_getElem? (i := 17) rfl))⟩), Exa.start ev1 g7a, Sta.start ev2 (Or.inr ⟨(hw _ (List.mem_of_getElem? (i := 5) rfl)), (hw _ (List.mem_of_getElem? (i := 19) rfl))⟩), Exa.start ev2 g9a, Sta.start ev3 (Or.inr ⟨(hw _ (List.mem_of_getElem? (i := 5) rfl)), (hw _ (List.mem_of_getElem? (i := 21) rfl))⟩), Exa.start ev3 g12a, Sta.start ev4 (Or.inr ⟨(hw _ (List.mem_of_getElem? (i := 5) rfl)), (hw _ (List.mem_of_getElem? (i := 23) rfl))⟩), Exa.start ev4 g15a, Sta.start ev5 (Or.inr ⟨(hw _ (List.mem_of_getElem? (i := 5) rfl)), (hw _ (List.mem_of_getElem? (i := 25) rfl))⟩), Exa.start ev5 g17a, Sta.start ev6 (Or.inr ⟨(hw _ (List.mem_of_getElem? (i := 5) rfl)), (hw _ (List.mem_of_getElem? (i := 27) rfl))⟩), Exa.start ev6 g22a, Sta.start ev7 (Or.inr ⟨(hw _ (List.mem_of_getElem? (i := 5) rfl)), (hw _ (List.mem_of_getElem? (i := 29) rfl))⟩), Exa.start ev7 g25a, own_fld ev0 g5a, own_fld ev0 g6a, own_fld ev1 g8a, own_fld ev2 g10a, own_fld ev2 g11a, own_fld ev3 g13a, own_fld ev3 g14a, own_fld ev4 g16a, own_fld ev5 g18a, own_fld ev5 g19a, own_fld ev4 g20a, own_fld ev1 g21a, own_fld ev6 g23a, own_fld ev6 g24a, own_fld ev7 g26a, own_fld ev7 g26b⟩
  obtain ⟨n, o, h1, h2, h3, _, L, rfl, ⟨rfl, N, -⟩, hq⟩ := rm0 l s _ hw _ s.heap s.heap.size (Nat.le_refl _) K i0 i1 i2 p e ha hc hk s m _ below hf ((Spec.applies_iff_loose hf).mp happ).1 ⟨rfl, State.Warmed39.refl s, rfl⟩ trivial
  refine ⟨n, _, h1, h2, h3, hpost _ _ _ _ _ _ ⟨Cond.after_iff.mpr rfl, Cond.after_iff.mpr (eq_i res_at (Term.int_eval (1)) rfl), trivial⟩ ⟨hq.1, hq.2.1, (hq.2.2.sift fun y hy => Or.inr (N y hy)).mono (by decide) (by decide)⟩⟩
theorem main_1_1 : Claimed_1_1 := comes_1 fun _ _ _ _ _ _ h hF => ⟨h.1, hF⟩
theorem main_1_2 : Claimed_1_2 := comes_1 fun _ _ _ _ _ _ h hF => ⟨h.2.1, hF⟩
end Jvm.Pilot.@@N@@
namespace Jvm.Pilot.@@N@@
open Jvm Jvm.ClassFile Sem Op Lib Jvm.Free Jvm.Stand Jvm.Pilot.@@N@@.Jvm.D
/-! MADE BY PROGRAM (witnessworld.py) out of the Statement's table words and the real class files: 12 classes; the members and pool entries that the words name. The judged class is class 1, her method 1. -/
namespace start1
open Jvm.ClassFile
def u (s : String) : CpInfo := .utf8 (stringToUtf16 s)
/-- a pool by its gaps: so many unusable entries, then the entry; so many at the end -/
def gap : Nat → List CpInfo → List CpInfo
  | 0, r => r
  | n + 1, r => .unusable :: gap n r
def poolList (es : List (Nat × CpInfo)) (last : Nat) : List CpInfo := es.foldr (fun e r => gap e.1 (e.2 :: r)) (gap last [])
def pool (es : List (Nat × CpInfo)) (last : Nat) : Array CpInfo := ⟨poolList es last⟩
def fileOf (pool : Array CpInfo) (this : Nat) (attrs : Array Attribute := #[]) (ms : Array MethodInfo := #[]) (fl : Nat := 33) (sup : Nat := 0) (ifs : Array Nat := #[]) (fds : Array FieldInfo := #[]) : ClassFile where
  minorVersion := 0
  majorVersion := 65
  constantPool := pool
  accessFlags := fl
  thisClass := this
  superClass := sup
  interfaces := ifs
  fields := fds
  methods := ms
  attributes := attrs
def plain (name : String) (sup : Option ClassId) : Class where
  name := name
  kind := .ordinary
  loader := none
  accessFlags := 33
  super := sup
  interfaces := #[]
  cf := none
  fields := #[]
  methods := #[]
  instanceTypes := #[]
  staticTypes := #[]
  resolved := #[]
  callSites := []
  init := .initialized
  statics := none
  mirror := none

def pool0 : Array CpInfo := pool [(5, u "<init>"), (0, u "()V"), (1, .class_ 10), (1, u "java/lang/Object")] 113

def k0m0 : Method := { name := "<init>", desc := "()V", sig := { parameters := [], returnType := none }, accessFlags := 1, code := none }
/-- java/lang/Object -/
def k0 : Class := { plain "java/lang/Object" none with
  accessFlags := 33
  interfaces := #[]
  cf := some (fileOf pool0 8 #[] #[{ accessFlags := 1, nameIndex := 5, descriptorIndex := 6, attributes := #[] }] 33 0 #[] #[])
  fields := #[]
  methods := #[k0m0]
  instanceTypes := #[]
  staticTypes := #[]
  resolved := Array.replicate 124 none
  statics := none }

def pool1 : Array CpInfo := pool [(2, .class_ 4), (1, u "java/lang/Object"), (0, u "<init>"), (0, u "()V"), (0, .methodref 8 9), (0, .class_ 10), (0, .nameAndType 11 12), (0, u "com/example/licon/licon/search/OperatorTakesPinLaw"), (0, u "pick"), (0, u "(I)Lcom/example/licon/licon/search/Operator;"), (0, .methodref 14 15), (0, .class_ 16), (0, .nameAndType 17 18), (0, u "com/example/licon/licon/search/Operator"), (0, u "takes"), (0, u "(I)Z"), (0, .fieldref 14 20), (0, .nameAndType 21 22), (0, u "EQ"), (0, u "Lcom/example/licon/licon/search/Operator;"), (0, .fieldref 14 24), (0, .nameAndType 25 22), (0, u "NEQ"), (0, .fieldref 14 27), (0, .nameAndType 28 22), (0, u "SW"), (0, .fieldref 14 30), (0, .nameAndType 31 22), (0, u "CONTAINS"), (0, .fieldref 14 33), (0, .nameAndType 34 22), (0, u "IN"), (0, .fieldref 14 36), (0, .nameAndType 37 22), (0, u "NIN"), (0, .fieldref 14 39), (0, .nameAndType 40 22), (0, u "IS_EMPTY"), (0, .fieldref 14 42), (0, .nameAndType 43 22), (0, u "NOT_EMPTY"), (2, u "law"), (0, u "(III)Z")] 3

def k1m0 : Method := { name := "<init>", desc := "()V", sig := { parameters := [], returnType := none }, accessFlags := 1, code := none }
def k1c1 : Code := { maxStack := 2, maxLocals := 7, code := code, exceptionTable := #[], attributes := #[] }
def k1m1 : Method := { name := "law", desc := "(III)Z", sig := { parameters := [.int, .int, .int], returnType := some .boolean }, accessFlags := 9, code := some k1c1 }
def k1c2 : Code := { maxStack := 2, maxLocals := 1, code := method_3_code, exceptionTable := #[], attributes := #[] }
def k1m2 : Method := { name := "pick", desc := "(I)Lcom/example/licon/licon/search/Operator;", sig := { parameters := [.int], returnType := some (.object "com/example/licon/licon/search/Operator") }, accessFlags := 10, code := some k1c2 }
/-- com/example/licon/licon/search/OperatorTakesPinLaw -/
def k1 : Class := { plain "com/example/licon/licon/search/OperatorTakesPinLaw" (some 0) with
  accessFlags := 49
  interfaces := #[]
  cf := some (fileOf pool1 8 #[] #[{ accessFlags := 1, nameIndex := 5, descriptorIndex := 6, attributes := #[] }, { accessFlags := 9, nameIndex := 46, descriptorIndex := 47, attributes := #[] }, { accessFlags := 10, nameIndex := 11, descriptorIndex := 12, attributes := #[] }] 49 2 #[] #[])
  fields := #[]
  methods := #[k1m0, k1m1, k1m2]
  instanceTypes := #[]
  staticTypes := #[]
  resolved := Array.replicate 51 none
  statics := none }

def pool2 : Array CpInfo := pool [(1, .class_ 2), (0, u "java/lang/constant/Constable"), (0, .class_ 4), (0, u "java/lang/Object")] 6

/-- java/lang/constant/Constable -/
def k2 : Class := { plain "java/lang/constant/Constable" (some 0) with
  accessFlags := 1537
  interfaces := #[]
  cf := some (fileOf pool2 1 #[] #[] 1537 3 #[] #[])
  fields := #[]
  methods := #[]
  instanceTypes := #[]
  staticTypes := #[]
  resolved := Array.replicate 11 none
  statics := none }

def pool3 : Array CpInfo := pool [(1, .class_ 2), (0, u "java/lang/Comparable"), (0, .class_ 4), (0, u "java/lang/Object")] 7

/-- java/lang/Comparable -/
def k3 : Class := { plain "java/lang/Comparable" (some 0) with
  accessFlags := 1537
  interfaces := #[]
  cf := some (fileOf pool3 1 #[] #[] 1537 3 #[] #[])
  fields := #[]
  methods := #[]
  instanceTypes := #[]
  staticTypes := #[]
  resolved := Array.replicate 12 none
  statics := none }

def pool4 : Array CpInfo := pool [(1, .class_ 2), (0, u "java/io/Serializable"), (0, .class_ 4), (0, u "java/lang/Object")] 2

/-- java/io/Serializable -/
def k4 : Class := { plain "java/io/Serializable" (some 0) with
  accessFlags := 1537
  interfaces := #[]
  cf := some (fileOf pool4 1 #[] #[] 1537 3 #[] #[])
  fields := #[]
  methods := #[]
  instanceTypes := #[]
  staticTypes := #[]
  resolved := Array.replicate 7 none
  statics := none }

def pool5 : Array CpInfo := pool [(2, .class_ 4), (1, u "java/lang/Enum"), (0, u "name"), (0, u "Ljava/lang/String;"), (2, u "ordinal"), (0, u "I"), (1, .class_ 14), (1, u "java/lang/Object"), (4, u "hash"), (86, .class_ 108), (1, u "java/lang/Enum$EnumDesc"), (2, .class_ 112), (0, u "java/lang/constant/Constable"), (0, .class_ 114), (0, u "java/lang/Comparable"), (0, .class_ 116), (0, u "java/io/Serializable")] 87

/-- java/lang/Enum -/
def k5 : Class := { plain "java/lang/Enum" (some 0) with
  accessFlags := 1057
  interfaces := #[2, 3, 4]
  cf := some (fileOf pool5 2 #[.nestMembers #[106]] #[] 1057 12 #[111, 113, 115] #[{ accessFlags := 18, nameIndex := 5, descriptorIndex := 6, attributes := #[] }, { accessFlags := 18, nameIndex := 9, descriptorIndex := 10, attributes := #[] }, { accessFlags := 2, nameIndex := 19, descriptorIndex := 10, attributes := #[] }])
  fields := #[{ name := "name", type := (.object "java/lang/String"), accessFlags := 18, slot := 0, constantValue := 0 }, { name := "ordinal", type := .int, accessFlags := 18, slot := 1, constantValue := 0 }, { name := "hash", type := .int, accessFlags := 2, slot := 2, constantValue := 0 }]
  methods := #[]
  instanceTypes := #[(.object "java/lang/String"), .int, .int]
  staticTypes := #[]
  resolved := Array.replicate 204 none
  statics := none }

def pool6 : Array CpInfo := pool [(1, .class_ 2), (0, u "com/example/licon/licon/search/Operator"), (2, u "EQ"), (0, u "Lcom/example/licon/licon/search/Operator;"), (2, u "NEQ"), (2, u "SW"), (2, u "CONTAINS"), (2, u "IN"), (2, u "NIN"), (2, u "IS_EMPTY"), (2, u "NOT_EMPTY"), (2, u "$VALUES"), (0, u "[Lcom/example/licon/licon/search/Operator;"), (6, .class_ 40), (1, u "java/lang/Enum"), (6, .fieldref 1 48), (0, .nameAndType 49 50), (0, u "fewestValues"), (0, u "I"), (0, .fieldref 1 52), (0, .nameAndType 53 50), (0, u "mostValues"), (2, u "negated"), (0, u "Z"), (65, u "takes"), (0, u "(I)Z")] 33

def k6c0 : Code := { maxStack := 2, maxLocals := 2, code := prog_9_method_4_code, exceptionTable := #[], attributes := #[] }
def k6m0 : Method := { name := "takes", desc := "(I)Z", sig := { parameters := [.int], returnType := some .boolean }, accessFlags := 0, code := some k6c0 }
/-- com/example/licon/licon/search/Operator -/
def k6 : Class := { plain "com/example/licon/licon/search/Operator" (some 5) with
  accessFlags := 16432
  interfaces := #[]
  cf := some (fileOf pool6 1 #[] #[{ accessFlags := 0, nameIndex := 123, descriptorIndex := 124, attributes := #[] }] 16432 38 #[] #[{ accessFlags := 16409, nameIndex := 5, descriptorIndex := 6, attributes := #[] }, { accessFlags := 16409, nameIndex := 9, descriptorIndex := 6, attributes := #[] }, { accessFlags := 16409, nameIndex := 12, descriptorIndex := 6, attributes := #[] }, { accessFlags := 16409, nameIndex := 15, descriptorIndex := 6, attributes := #[] }, { accessFlags := 16409, nameIndex := 18, descriptorIndex := 6, attributes := #[] }, { accessFlags := 16409, nameIndex := 21, descriptorIndex := 6, attributes := #[] }, { accessFlags := 16409, nameIndex := 24, descriptorIndex := 6, attributes := #[] }, { accessFlags := 16409, nameIndex := 27, descriptorIndex := 6, attributes := #[] }, { accessFlags := 18, nameIndex := 49, descriptorIndex := 50, attributes := #[] }, { accessFlags := 18, nameIndex := 53, descriptorIndex := 50, attributes := #[] }, { accessFlags := 18, nameIndex := 56, descriptorIndex := 57, attributes := #[] }, { accessFlags := 4122, nameIndex := 30, descriptorIndex := 31, attributes := #[] }])
  fields := #[{ name := "EQ", type := (.object "com/example/licon/licon/search/Operator"), accessFlags := 16409, slot := 0, constantValue := 0 }, { name := "NEQ", type := (.object "com/example/licon/licon/search/Operator"), accessFlags := 16409, slot := 1, constantValue := 0 }, { name := "SW", type := (.object "com/example/licon/licon/search/Operator"), accessFlags := 16409, slot := 2, constantValue := 0 }, { name := "CONTAINS", type := (.object "com/example/licon/licon/search/Operator"), accessFlags := 16409, slot := 3, constantValue := 0 }, { name := "IN", type := (.object "com/example/licon/licon/search/Operator"), accessFlags := 16409, slot := 4, constantValue := 0 }, { name := "NIN", type := (.object "com/example/licon/licon/search/Operator"), accessFlags := 16409, slot := 5, constantValue := 0 }, { name := "IS_EMPTY", type := (.object "com/example/licon/licon/search/Operator"), accessFlags := 16409, slot := 6, constantValue := 0 }, { name := "NOT_EMPTY", type := (.object "com/example/licon/licon/search/Operator"), accessFlags := 16409, slot := 7, constantValue := 0 }, { name := "fewestValues", type := .int, accessFlags := 18, slot := 3, constantValue := 0 }, { name := "mostValues", type := .int, accessFlags := 18, slot := 4, constantValue := 0 }, { name := "negated", type := .boolean, accessFlags := 18, slot := 5, constantValue := 0 }, { name := "$VALUES", type := (.array (.object "com/example/licon/licon/search/Operator")), accessFlags := 4122, slot := 8, constantValue := 0 }]
  methods := #[k6m0]
  instanceTypes := #[(.object "java/lang/String"), .int, .int, .int, .int, .boolean]
  staticTypes := #[(.object "com/example/licon/licon/search/Operator"), (.object "com/example/licon/licon/search/Operator"), (.object "com/example/licon/licon/search/Operator"), (.object "com/example/licon/licon/search/Operator"), (.object "com/example/licon/licon/search/Operator"), (.object "com/example/licon/licon/search/Operator"), (.object "com/example/licon/licon/search/Operator"), (.object "com/example/licon/licon/search/Operator"), (.array (.object "com/example/licon/licon/search/Operator"))]
  resolved := Array.replicate 158 none
  statics := some 0 }

def pool7 : Array CpInfo := pool [(1, u "java/lang/Cloneable"), (0, .class_ 1), (0, u "java/lang/Object"), (0, .class_ 3)] 3

/-- java/lang/Cloneable -/
def k7 : Class := { plain "java/lang/Cloneable" (some 0) with
  accessFlags := 1537
  interfaces := #[]
  cf := some (fileOf pool7 2 #[] #[] 1537 4 #[] #[])
  fields := #[]
  methods := #[]
  instanceTypes := #[]
  staticTypes := #[]
  resolved := Array.replicate 8 none
  statics := none }

/-- the primitive byte -/
def k8 : Class := { plain "byte" none with kind := .primitive 'B', accessFlags := 0x411 }
/-- [B -/
def k9 : Class := { plain "[B" (some 0) with kind := .array 8 .byte, interfaces := #[7, 4], accessFlags := 1041 }

/-- the primitive int -/
def k10 : Class := { plain "int" none with kind := .primitive 'I', accessFlags := 0x411 }
/-- [I -/
def k11 : Class := { plain "[I" (some 0) with kind := .array 10 .int, interfaces := #[7, 4], accessFlags := 1041 }

def heap : Heap := #[{ cls := 6, slots := #[.ref 1, .ref 2, .ref 5, .ref 6, .ref 3, .ref 7, .ref 8, .ref 4, .null], vm := .statics 6 },
  { cls := 6, slots := #[.null, .int 0, .int 0, .int 1, .int 1, .int 0], vm := .none },
  { cls := 6, slots := #[.null, .int 0, .int 0, .int 1, .int 1, .int 0], vm := .none },
  { cls := 6, slots := #[.null, .int 0, .int 0, .int 1, .int 2147483647, .int 0], vm := .none },
  { cls := 6, slots := #[.null, .int 0, .int 0, .int 0, .int 0, .int 0], vm := .none },
  { cls := 6, slots := #[.null, .int 0, .int 0, .int 1, .int 1, .int 0], vm := .none },
  { cls := 6, slots := #[.null, .int 0, .int 0, .int 1, .int 1, .int 0], vm := .none },
  { cls := 6, slots := #[.null, .int 0, .int 0, .int 1, .int 2147483647, .int 0], vm := .none },
  { cls := 6, slots := #[.null, .int 0, .int 0, .int 0, .int 0, .int 0], vm := .none }]
def classes : Array Class := #[k0, k1, k2, k3, k4, k5, k6, k7, k8, k9, k10, k11]
def interned : List (Array UInt16 × Addr) := []
def slotsUsed : Nat := 57
def theMethod : MethodId := ⟨1, 1⟩
def args0 : Array Value := #[.int 5, .int 6, .int 7]
def aboutOver (below : List Frame) : State where
  vm := { classes := classes, interned := interned.toArray }
  heap := heap
  slotsUsed := slotsUsed
  threads := #[{ frames := .invoking theMethod args0 :: below }]
def below0 : List Frame := [.native { method := ⟨0, 0⟩, args := #[] }]
def about1 : State := aboutOver below0
def p0 : Program := .bare "" "" ""
def e0 : Env := launch0.env 0 0 0
theorem w_frames : about1.frames = Frame.invoking theMethod args0 :: below0 := rfl
set_option maxRecDepth 65536 in
theorem w_args : argsFit about1.vm theMethod args0 = true := by decide +kernel
set_option maxRecDepth 65536 in
theorem w_heap : heapFits about1 = true := by decide +kernel
set_option maxRecDepth 65536 in
theorem w_runnable : about1.curStatus? = some .runnable := by decide +kernel
set_option maxRecDepth 65536 in
theorem w_alone : about1.alone = true := by decide +kernel
set_option maxRecDepth 65536 in
theorem w_named : about1.methodNamed? x = some theMethod := by decide +kernel
set_option maxRecDepth 65536 in
theorem w_hears : about1.hears theMethod below0 = true := by decide +kernel
set_option maxRecDepth 65536 in
theorem w_ripe : about1.ripe theMethod args0 below0 = true := by decide +kernel
theorem w_running : about1.status = .running := rfl
set_option maxRecDepth 65536 in
theorem w_room : about1.hasRoom e0.platform room_1 = true :=
  launch0.hasRoom_least _ room_1 (by decide +kernel) (by decide +kernel) (by decide +kernel) (by decide +kernel) (by decide +kernel) (by decide +kernel)
theorem allAtoms_all (ts : List Jvm.Cond) (a : Array Jvm.Value) (st : Jvm.State) : (allAtoms ts).before a st = ts.all (fun c => c.before a st) := by
  induction ts with
  | nil => rfl
  | cons c t ih =>
    show (Jvm.Cond.and c (allAtoms t)).before a st = _
    rw [Jvm.Cond.before_and, ih, List.all_cons]
def words1 : List Jvm.Cond := Jvm.Cond.code x code maxLocals ret :: tables_1
/-- a 'code' word, met by the world's own term for the bytes: nothing is compared byte by byte -/
theorem code_word {y : MethodName} {bytes : ByteArray} {mx : Nat} {rt : Option FieldType} {a : Array Value} {s : State} {m : MethodId} {meth : Method} {c : Code} (h1 : s.methodNamed? y = some m) (h2 : s.vm.method? m = some meth) (h3 : meth.code = some c) (h4 : c.code = bytes)
    (h5 : (c.maxLocals == mx && c.exceptionTable.isEmpty && decide (c.maxStack ≤ mostOperands) && decide (meth.sig.returnType = rt) && !meth.locks && decide (parseMethodDescriptor y.desc = some meth.sig)) = true) : (Jvm.Cond.code y bytes mx rt).before a s = true := by
  simp only [Bool.and_eq_true, beq_iff_eq, Bool.not_eq_true', decide_eq_true_eq] at h5
  obtain ⟨⟨⟨⟨⟨g1, g2⟩, g3⟩, g4⟩, g5⟩, g6⟩ := h5
  simp [Cond.before, Cond.holds, Cond.value, h1, h2, h3, h4, g1, g2, g3, g4, g5, g6]
def isCode : Jvm.Cond → Bool
  | .code _ _ _ _ => true
  | _ => false
theorem all_split {L : List Jvm.Cond} {P : Jvm.Cond → Bool} (h1 : L.all (fun c => isCode c || P c) = true) (h2 : ∀ c ∈ L.filter isCode, P c = true) : L.all P = true := by
  refine List.all_eq_true.mpr fun c hc => ?_
  have h := List.all_eq_true.mp h1 c hc
  rcases Bool.eq_false_or_eq_true (isCode c) with hi | hi
  · exact h2 c (List.mem_filter.mpr ⟨hc, hi⟩)
  · simpa [hi] using h
set_option maxRecDepth 65536 in
theorem w_c0 : (Jvm.Cond.code x code maxLocals ret).before args0 about1 = true := code_word (m := ⟨1, 1⟩) (meth := k1m1) (c := k1c1) (by decide +kernel) rfl rfl rfl (by decide +kernel)
set_option maxRecDepth 65536 in
theorem w_c1 : (Jvm.Cond.code ({ cls := "com/example/licon/licon/search/OperatorTakesPinLaw", name := "pick", desc := "(I)Lcom/example/licon/licon/search/Operator;" } : Jvm.MethodName) method_3_code (1 : Nat) (Option.some (Jvm.ClassFile.FieldType.object "com/example/licon/licon/search/Operator"))).before args0 about1 = true := code_word (m := ⟨1, 2⟩) (meth := k1m2) (c := k1c2) (by decide +kernel) rfl rfl rfl (by decide +kernel)
set_option maxRecDepth 65536 in
theorem w_c2 : (Jvm.Cond.code ({ cls := "com/example/licon/licon/search/Operator", name := "takes", desc := "(I)Z" } : Jvm.MethodName) prog_9_method_4_code (2 : Nat) (Option.some Jvm.ClassFile.FieldType.boolean)).before args0 about1 = true := code_word (m := ⟨6, 0⟩) (meth := k6m0) (c := k6c0) (by decide +kernel) rfl rfl rfl (by decide +kernel)
def codes1 : List Jvm.Cond := [Jvm.Cond.code x code maxLocals ret, Jvm.Cond.code ({ cls := "com/example/licon/licon/search/OperatorTakesPinLaw", name := "pick", desc := "(I)Lcom/example/licon/licon/search/Operator;" } : Jvm.MethodName) method_3_code (1 : Nat) (Option.some (Jvm.ClassFile.FieldType.object "com/example/licon/licon/search/Operator")), Jvm.Cond.code ({ cls := "com/example/licon/licon/search/Operator", name := "takes", desc := "(I)Z" } : Jvm.MethodName) prog_9_method_4_code (2 : Nat) (Option.some Jvm.ClassFile.FieldType.boolean)]
set_option maxRecDepth 65536 in
theorem codes_eq : words1.filter isCode = codes1 := rfl
theorem w_codes : ∀ c ∈ words1.filter isCode, c.before args0 about1 = true := by
  rw [codes_eq]
  intro c hc
  simp only [codes1, List.mem_cons, List.not_mem_nil, or_false] at hc
  rcases hc with rfl | rfl | rfl
  · exact w_c0
  · exact w_c1
  · exact w_c2
set_option maxRecDepth 65536 in
theorem w_t1 : (words1.take 24).all (fun c => isCode c || c.before args0 about1) = true := by decide +kernel
set_option maxRecDepth 65536 in
theorem w_t2 : (words1.drop 24).all (fun c => isCode c || c.before args0 about1) = true := by decide +kernel
theorem w_tables : (allAtoms (Jvm.Cond.code x code maxLocals ret :: tables_1)).before args0 about1 = true := by
  rw [allAtoms_all]
  show words1.all (fun c => c.before args0 about1) = true
  refine all_split ?_ w_codes
  rw [← List.take_append_drop 24 words1, List.all_append, w_t1, w_t2]
  rfl
set_option maxRecDepth 65536 in
theorem w_case : (Jvm.Cond.and given_1 narrow_1).before args0 about1 = true := by decide +kernel
theorem w_applies : (headSpec (Jvm.Cond.code x code maxLocals ret :: tables_1) room_1).applies x e0.platform about1 = true :=
  (Spec.applies_iff w_frames).mpr ⟨w_running, w_runnable, w_alone, w_named, w_hears, w_ripe, w_room, w_tables⟩
theorem atStart : AtStart classFile x code maxLocals ret World_1 tables_1 room_1 Calls_1 rest_1 Pre_1 launch0 p0 e0 about1 theMethod args0 below0 :=
  ⟨lists_1, trivial, launch0.admits_env _ _ _, launch0.least_env, fairChoices_fair.cas, fairChoices_fair.clock, w_frames, w_args, w_heap, w_applies, trivial, trivial, w_case⟩
end start1
theorem witness_1 : WitnessClaimed_1 := ⟨start1.p0, start1.e0, start1.about1, start1.theMethod, start1.args0, start1.below0, start1.atStart⟩
end Jvm.Pilot.@@N@@
